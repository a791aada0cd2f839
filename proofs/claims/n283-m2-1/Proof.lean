import JvmDerived
import JvmDerived.Pilot.@@N@@Statement
import JvmDerived.Pilot.@@N@@Code
set_option linter.unusedVariables false
set_option linter.unusedSimpArgs false
@@BLOCK:NumsL.lean.txt@@
namespace Jvm.RoadKit
open Sem ClassFile Op Lib Jvm.Stand Jvm.Free Jvm.LawKit
/-- a step taken in front of a run that ends well -/
theorem own_go {tb : Tables} {e : Env} {below : List Frame} {a b : State} {P : State → Outcome → Prop} (h : ∀ target, Steps tb e below b target → Steps tb e below a target) (k : ∃ t o, Steps tb e below b t ∧ P t o) : ∃ t o, Steps tb e below a t ∧ P t o := by
  obtain ⟨t, o, h1, h2⟩ := k
  exact ⟨t, o, h _ h1, h2⟩
theorem own_ne {a n m b : Nat} (h1 : a < n) (h2 : n ≤ m) (h3 : m ≤ b) : a ≠ b := Nat.ne_of_lt (Nat.lt_of_lt_of_le h1 (Nat.le_trans h2 h3))
theorem own_tr {a b c : Nat} (h1 : a ≤ b) (h2 : b ≤ c) : a ≤ c := Nat.le_trans h1 h2
/-- a word of the tables by its place -/
theorem ow {ws : List Jvm.Cond} {a0 : Array Value} {Z : State} (hw : ∀ d ∈ ws, d.before a0 Z = true) (i : Nat) {d : Jvm.Cond} (h : ws[i]? = some d) : d.before a0 Z = true := hw d (List.mem_of_getElem? h)
/-- several roads meet -/
theorem own_join {A : Type} {C : A → Prop} {tb : Tables} {e : Env} {below : List Frame} {P : State → Outcome → Prop} {f : A → State} {a : State} (body : ∀ x, C x → ∃ t o, Steps tb e below (f x) t ∧ P t o)
    (use : (∀ x, C x → ∃ t o, Steps tb e below (f x) t ∧ P t o) → ∃ t o, Steps tb e below a t ∧ P t o) : ∃ t o, Steps tb e below a t ∧ P t o := use body
/-- a private method is its own selection -/
theorem own_selp {args : Array Value} {s : State} {y : MethodName} {n : Nat} (wi : (Cond.instantiable y.cls n).before args s = true) (wp : (Cond.privateMethod y).before args s = true) (wm : (Cond.instanceMethod y).before args s = true) (ny : y.cls ≠ "java/lang/invoke/MethodHandle" ∧ y.cls ≠ "java/lang/invoke/VarHandle") :
    (Cond.selects y.cls y y).before args s = true := by
  obtain ⟨c, k, h1, h2, -, h4, -⟩ := Cond.instantiable_spec wi
  obtain ⟨m, meth, g1, g2, -⟩ := Cond.instanceMethod_spec wm
  have hp := Cond.privateMethod_at wp m meth g1 g2
  have hc : m.cls = c := by
    have := findClass_of_methodNamed g1
    rw [h1] at this; exact (Option.some.inj this).symm
  have hi : k.isInterface = false := by simp at h4; exact h4.1
  have hf : s.methodFound? y.cls y.name y.desc = some m := State.methodFound?_of_named g1 ny
  simp [Cond.before, Cond.holds, Cond.value, h1, hf, g1, selectMethod_private g2 hp, hc, h2, hi]
section OwnCalls
variable {p : Program} {l : Launch} {e : Env} {R : Room} {s : State} {m : MethodId} {args : Array Value} {below : List Frame} {meth : Method} {c : Code} {T : State} {locs : List Loc} {cells slots : Nat} {Z : State} {a0 : Array Value} {h : Heap} {P : State → Outcome → Prop}
  {own C : String} {index W : Nat} {y z : MethodName} {bytes : ByteArray} {maxL : Nat} {ret : Option FieldType} {rm : Room} {Q : Option Value → Heap → List Loc → Prop} {b : Addr} {g : JFrame} {argsL rest : List Value}
/-- a static call by its contract, taken in front of a run that ends well -/
theorem own_stat (X : Stand p l e R s m args below meth c T locs cells slots) (hx : p.tables.exec = Jvm.exec) (hZ : Z.Warmed39 s.vm) (hown : s.vm.findClass own = some m.cls) (E : T.heap = h)
    (w1 : (Cond.methodLink own index y).before a0 Z = true) (w2 : (Cond.static y).before a0 Z = true)
    (hM : MetFree l y (head1 [Cond.code y bytes maxL ret] rm) (fun a U => a = argsL.toArray ∧ Z.Warmed39 U.vm ∧ U.heap = h) (fun _ _ _ _ _ => True) (fun _ U o U' => ∃ v L, o = .returned v ∧ Q v U'.heap L ∧ FrameEnd U o U' L rm.cells rm.slots))
    (wc : (Cond.code y bytes maxL ret).before a0 Z = true) (wz : (Cond.initialized y.cls).before a0 Z = true)
    (hg : g.method = m) (hsize : g.locals.size = c.maxLocals) (hs : g.stack = argsL.reverse ++ rest) (hd : decode c.code g.pc = .ok (.invokestatic index, 3))
    (hlen : ∀ sig, parseMethodDescriptor y.desc = some sig → argsL.length = sig.parameters.length) (hW : 2 * g.monitorRoom + (rest.map fun v => v.category).sum = W)
    (hnum : (y.cls ≠ "java/lang/invoke/MethodHandle" ∧ y.cls ≠ "java/lang/invoke/VarHandle") ∧ rm.frames + 1 ≤ R.frames ∧ W + (maxL + 11) + rm.locals ≤ R.locals ∧ cells + rm.cells ≤ R.cells ∧ slots + rm.slots ≤ R.slots)
    (K : ∀ (T' : State) (v : Option Value) (L : List Loc), Stand p l e R s m args below meth c T' (locs ++ L) (cells + rm.cells) (slots + rm.slots) → Q v T'.heap L → ∃ t o, Steps p.tables e below (T'.setTop { g with pc := g.pc + 3, stack := v.toList ++ rest }) t ∧ P t o) :
    ∃ t o, Steps p.tables e below (T.setTop g) t ∧ P t o := by
  obtain ⟨hy, hf, hl, hc, hsl⟩ := hnum
  obtain ⟨v, _, ⟨T', L, kz, nz⟩, -, X', ⟨Lc, hQ, l1, y1, z1⟩, st⟩ := Jvm.LawKit.callS X hx (y := y) hown (mvT hZ w1) (mvT hZ w2) (mvT hZ wz) (mvT hZ wc) hy (backOf (W := W) hM hZ wc wz hf hl) (g := g) hg hsize (argsL := argsL) (rest := rest) hlen hs (Nat.le_of_eq hW) hd (fun _ _ => ⟨rfl, E, hc, hsl⟩)
  dsimp only [Pt.U, Pt.locs, Pt.cells, Pt.slots] at X' l1 y1 z1 st hQ
  subst l1 y1 z1
  obtain ⟨t, o, k1, k2⟩ := K T' v Lc X' hQ
  exact ⟨t, o, st _ k1, k2⟩
/-- a constructor by its contract -/
theorem own_spec (X : Stand p l e R s m args below meth c T locs cells slots) (hx : p.tables.exec = Jvm.exec) (hZ : Z.Warmed39 s.vm) (hown : s.vm.findClass own = some m.cls) (E : T.heap = h)
    (w1 : (Cond.methodLink own index y).before a0 Z = true) (w2 : (Cond.instanceMethod y).before a0 Z = true)
    (hM : MetFree l y (head1 [Cond.code y bytes maxL none] rm) (fun a U => a = (.ref b :: argsL).toArray ∧ Z.Warmed39 U.vm ∧ U.heap = h) (fun _ _ _ _ _ => True) (fun _ U o U' => ∃ v L, o = .returned v ∧ Q v U'.heap L ∧ FrameEnd U o U' L rm.cells rm.slots))
    (wc : (Cond.code y bytes maxL none).before a0 Z = true) (wz : (Cond.initialized y.cls).before a0 Z = true)
    (hg : g.method = m) (hsize : g.locals.size = c.maxLocals) (hs : g.stack = argsL.reverse ++ .ref b :: rest) (hd : decode c.code g.pc = .ok (.invokespecial index, 3))
    (hlen : ∀ sig, parseMethodDescriptor y.desc = some sig → argsL.length = sig.parameters.length) (hW : 2 * g.monitorRoom + (rest.map fun v => v.category).sum = W)
    (hy1 : y.name = "<init>") (hnum : (y.cls ≠ "java/lang/invoke/MethodHandle" ∧ y.cls ≠ "java/lang/invoke/VarHandle") ∧ rm.frames + 1 ≤ R.frames ∧ W + (maxL + 11) + rm.locals ≤ R.locals ∧ cells + rm.cells ≤ R.cells ∧ slots + rm.slots ≤ R.slots)
    (K : ∀ (T' : State) (v : Option Value) (L : List Loc), Stand p l e R s m args below meth c T' (locs ++ L) (cells + rm.cells) (slots + rm.slots) → Q v T'.heap L → ∃ t o, Steps p.tables e below (T'.setTop { g with pc := g.pc + 3, stack := v.toList ++ rest }) t ∧ P t o) :
    ∃ t o, Steps p.tables e below (T.setTop g) t ∧ P t o := by
  obtain ⟨hy, hf, hl, hc, hsl⟩ := hnum
  obtain ⟨v, _, ⟨T', L, kz, nz⟩, -, X', ⟨Lc, hQ, l1, y1, z1⟩, st⟩ := X.specialBack hx (y := y) hy1 hown (mvT hZ w1) (mvT hZ w2) (mvT hZ wc) hy (backOf (W := W) hM hZ wc wz hf hl) (g := g) hg hsize (Steps.refl _) (a := b) (argsL := argsL) (rest := rest) hlen hs (Nat.le_of_eq hW) hd (fun _ _ => ⟨rfl, E, hc, hsl⟩)
  dsimp only [Pt.U, Pt.locs, Pt.cells, Pt.slots] at X' l1 y1 z1 st hQ
  subst l1 y1 z1
  obtain ⟨t, o, k1, k2⟩ := K T' v Lc X' hQ
  exact ⟨t, o, st.trans k1, k2⟩
/-- a virtual call by the contract of what the receiver's class selects -/
theorem own_virt (X : Stand p l e R s m args below meth c T locs cells slots) (hx : p.tables.exec = Jvm.exec) (hZ : Z.Warmed39 s.vm) (hown : s.vm.findClass own = some m.cls) (E : T.heap = h)
    (w1 : (Cond.methodLink own index y).before a0 Z = true) (w2 : (Cond.declares y).before a0 Z = true) (w3 : (Cond.selects C y y).before a0 Z = true) (w4 : (Cond.instanceMethod y).before a0 Z = true)
    (hM : MetFree l y (head1 [Cond.code y bytes maxL ret] rm) (fun a U => a = (.ref b :: argsL).toArray ∧ Z.Warmed39 U.vm ∧ U.heap = h) (fun _ _ _ _ _ => True) (fun _ U o U' => ∃ v L, o = .returned v ∧ Q v U'.heap L ∧ FrameEnd U o U' L rm.cells rm.slots))
    (wc : (Cond.code y bytes maxL ret).before a0 Z = true) (wz : (Cond.initialized y.cls).before a0 Z = true) (Ex : Exa Z h b C)
    (hg : g.method = m) (hsize : g.locals.size = c.maxLocals) (hs : g.stack = argsL.reverse ++ .ref b :: rest) (hd : decode c.code g.pc = .ok (.invokevirtual index, 3))
    (hlen : ∀ sig, parseMethodDescriptor y.desc = some sig → argsL.length = sig.parameters.length) (hW : 2 * g.monitorRoom + (rest.map fun v => v.category).sum = W)
    (hnum : (y.cls ≠ "java/lang/invoke/MethodHandle" ∧ y.cls ≠ "java/lang/invoke/VarHandle") ∧ rm.frames + 1 ≤ R.frames ∧ W + (maxL + 11) + rm.locals ≤ R.locals ∧ cells + rm.cells ≤ R.cells ∧ slots + rm.slots ≤ R.slots)
    (K : ∀ (T' : State) (v : Option Value) (L : List Loc), Stand p l e R s m args below meth c T' (locs ++ L) (cells + rm.cells) (slots + rm.slots) → Q v T'.heap L → ∃ t o, Steps p.tables e below (T'.setTop { g with pc := g.pc + 3, stack := v.toList ++ rest }) t ∧ P t o) :
    ∃ t o, Steps p.tables e below (T.setTop g) t ∧ P t o := by
  obtain ⟨hy, hf, hl, hc, hsl⟩ := hnum
  obtain ⟨cq, kq, qa, qb, qc⟩ := isOf hZ E Ex
  obtain ⟨v, _, ⟨T', L, kz, nz⟩, -, X', ⟨Lc, hQ, l1, y1, z1⟩, st⟩ := X.virtualBack hx (y := y) (z := y) hown (mvT hZ w1) (mvT hZ w2) (notFace_of_selects (args := #[]) (mvT hZ w3)) (mvT hZ w3) (mvT hZ w4) hy (backOf (W := W) hM hZ wc wz hf hl) qa qc (g := g) hg hsize (Steps.refl _) (argsL := argsL) (rest := rest) hlen hs (Nat.le_of_eq hW) hd (fun _ _ => ⟨rfl, E, hc, hsl⟩)
  dsimp only [Pt.U, Pt.locs, Pt.cells, Pt.slots] at X' l1 y1 z1 st hQ
  subst l1 y1 z1
  obtain ⟨t, o, k1, k2⟩ := K T' v Lc X' hQ
  exact ⟨t, o, st.trans k1, k2⟩
/-- getfield -/
theorem own_getf (X : Stand p l e R s m args below meth c T locs cells slots) (hx : p.tables.exec = Jvm.exec) (hZ : Z.Warmed39 s.vm) {R0 O n d : String} (hown : s.vm.findClass own = some m.cls) (w : (Cond.fieldLink own index R0 n d).before a0 Z = true) (via : Via Z R0 O n d)
    (E : T.heap = h) {v : Value} (F : Fld Z h b O n d v) (hg : g.method = m) (hs : g.stack = .ref b :: rest) (hd : decode c.code g.pc = .ok (.getfield index, 3))
    (K : ∀ T' : State, Stand p l e R s m args below meth c T' locs cells slots → T'.heap = h → ∃ t o, Steps p.tables e below (T'.setTop { g with pc := g.pc + 3, stack := v :: rest }) t ∧ P t o) : ∃ t o, Steps p.tables e below (T.setTop g) t ∧ P t o := by
  obtain ⟨T', X', e', st⟩ := getF X hx hZ hown (host := "") (Or.inl w) via E F (g := g) hg hs hd
  obtain ⟨t, o, k1, k2⟩ := K T' X' e'
  exact ⟨t, o, st _ k1, k2⟩
end OwnCalls
/-- a field of an object of the start that the case fixes as an int -/
theorem own_fint {args : Array Value} {s : State} {t : Term} {C n d : String} {k : Int32} {x : Addr} (h : (Jvm.Cond.eq (Term.field t C n d) (Term.int k)).value args s none s [] = some true) (ht : t.eval args s none [] s = some (.ref x)) : Fld s s.heap x C n d (.int k) := by
  obtain ⟨u, v, h1, h2, h3, h4⟩ := cmp_v (Or.inl h)
  have e2 : v = .int k := by rw [Term.int_eval] at h2; exact (Option.some.inj h2).symm
  subst e2
  obtain ⟨z, rfl⟩ : ∃ z, u = .int z := h4
  have q := gotT (Cond.eq_ints h1 h2) h
  subst q
  exact Fld.start (by rw [← fld_at (C := C) (n := n) (dd := d) ht]; exact h1)
end Jvm.RoadKit
namespace Jvm.Pilot.@@N@@
open Jvm Jvm.ClassFile Sem Op Lib Jvm.Free Jvm.Stand Jvm.LawKit Jvm.RoadKit Bundle Jvm.Pilot.@@N@@.Jvm.D
def own_k (x : Int32) : Int32 := x &&& (2147483647 : Int32)
def own_l0 (x : Int32) : Int32 := x &&& (3 : Int32)
def own_l1 (x : Int32) : Int32 := ((x.toUInt32 >>> (((2 : Int32)) &&& 31).toUInt32).toInt32) &&& (3 : Int32)
def own_l2 (x : Int32) : Int32 := ((x.toUInt32 >>> (((4 : Int32)) &&& 31).toUInt32).toInt32) &&& (3 : Int32)
theorem own_and3 (x : Int32) : (x &&& 3) = 0 ∨ (x &&& 3) = 1 ∨ (x &&& 3) = 2 ∨ (x &&& 3) = 3 := by
  have e1 : (x &&& 3).toInt = x.toInt % 2 ^ 2 := Jvm.Kit.i32_mask x 3 (k := 2) (by decide) (by decide)
  have e0 : (0 : Int32).toInt = 0 := by decide
  have e4 : (1 : Int32).toInt = 1 := by decide
  have e5 : (2 : Int32).toInt = 2 := by decide
  have e6 : (3 : Int32).toInt = 3 := by decide
  simp only [← Int32.toInt_inj]
  omega
theorem own_nz (x : Int32) (h : ¬ (x &&& 3) = 0) : (0 : Int32) < (x &&& 3) ∧ ¬ ((3 : Int32) < (x &&& 3)) := by
  rcases own_and3 x with e | e | e | e
  · exact absurd e h
  all_goals rw [e]; decide
theorem own_pos (x : Int32) : ¬ ((x &&& 2147483647) < 0) := by
  have e1 : (x &&& 2147483647).toInt = x.toInt % 2 ^ 31 := Jvm.Kit.i32_mask x 2147483647 (k := 31) (by decide) (by decide)
  have e0 : (0 : Int32).toInt = 0 := by decide
  rw [Int32.lt_iff_toInt_lt]
  omega
theorem own_addsub (b c : Int32) : (b + c) - b = c := by rw [Int32.add_comm, Int32.add_sub_cancel]
theorem own_i {n : Int32} {k : Nat} (a : Int32) (ha : a.toInt = k) (h0 : (0 : Int32) < n) (h : ¬ a < n) : 0 < n.toInt ∧ n.toInt ≤ k := by
  have e0 : (0 : Int32).toInt = 0 := by decide
  rw [Int32.lt_iff_toInt_lt] at h0 h
  rw [e0] at h0; rw [ha] at h
  omega
theorem own_n3 {n : Int32} (h0 : (0 : Int32) < n) (h : ¬ (3 : Int32) < n) : 0 < n.toInt ∧ n.toInt ≤ 3 := own_i 3 (by decide) h0 h
theorem own_s6 {n : Int32} (h0 : (0 : Int32) < n) (h : ¬ (6 : Int32) < n) : 0 < n.toInt ∧ n.toInt ≤ 6 := own_i 6 (by decide) h0 h
theorem own_cl {n : Int32} (h0 : 0 < n.toInt) : n.toNatClampNeg = n.toInt.toNat := rfl
theorem own_big {n : Int32} (h0 : (0 : Int32) < n) (h : ¬ (3 : Int32) < n) : ¬ ((65536 : Int32) < n) := by
  have := own_n3 h0 h
  have e : (65536 : Int32).toInt = 65536 := by decide
  rw [Int32.lt_iff_toInt_lt, e]; omega
theorem own_bigs {n s : Int32} (h0 : (0 : Int32) < n) (h : ¬ (3 : Int32) < n) (s0 : (0 : Int32) < s) (s6 : ¬ (6 : Int32) < s) : ¬ ((65536 : Int32) - s < n) := by
  have := own_n3 h0 h
  have := own_s6 s0 s6
  have e : (65536 : Int32).toInt = 65536 := by decide
  have e2 : ((65536 : Int32) - s).toInt = (65536 : Int32).toInt - s.toInt := Jvm.Kit.i32_sub (by omega) (by omega)
  rw [Int32.lt_iff_toInt_lt, e2, e]; omega
theorem own_sh {s : Int32} (s0 : (0 : Int32) < s) (s6 : ¬ (6 : Int32) < s) : ((s.toUInt32 >>> ((16 : Int32) &&& 31).toUInt32).toInt32) = 0 := by
  have := own_s6 s0 s6
  have e0 : (0 : Int32).toInt = 0 := by decide
  apply Int32.toInt_inj.mp
  rw [Jvm.Kit.i32_iushr (k := 16) (by rw [Int32.le_iff_toInt_le, e0]; omega) (by decide) (by decide), e0]
  omega
theorem own_mk {s : Int32} (s0 : (0 : Int32) < s) (s6 : ¬ (6 : Int32) < s) : (s &&& 65535) = s := by
  have := own_s6 s0 s6
  apply Int32.toInt_inj.mp
  rw [Jvm.Kit.i32_mask s 65535 (k := 16) (by decide) (by decide)]
  omega
theorem own_ne0 {s : Int32} (s0 : (0 : Int32) < s) : ¬ (s = 0) := fun e => by rw [e] at s0; exact absurd s0 (by decide)
theorem own_irr (s : Int32) : ¬ (s < s) := by rw [Int32.lt_iff_toInt_lt]; omega
theorem own_c3 {n : Int32} (h0 : (0 : Int32) < n) (h : ¬ (3 : Int32) < n) : ¬ n < 0 ∧ n.toNatClampNeg ≤ 3 := by
  obtain ⟨a, b⟩ := own_n3 h0 h
  have e0 : (0 : Int32).toInt = 0 := by decide
  refine ⟨by rw [Int32.lt_iff_toInt_lt, e0]; omega, ?_⟩
  show n.toInt.toNat ≤ 3
  omega
theorem own_c6 {n : Int32} (h0 : (0 : Int32) < n) (h : ¬ (6 : Int32) < n) : ¬ n < 0 ∧ n.toNatClampNeg ≤ 6 := by
  obtain ⟨a, b⟩ := own_s6 h0 h
  have e0 : (0 : Int32).toInt = 0 := by decide
  refine ⟨by rw [Int32.lt_iff_toInt_lt, e0]; omega, ?_⟩
  show n.toInt.toNat ≤ 6
  omega
theorem own_sum {s n : Int32} (s0 : (0 : Int32) < s) (s3 : ¬ (3 : Int32) < s) (h0 : (0 : Int32) < n) (h : ¬ (3 : Int32) < n) : (0 : Int32) < s + n ∧ ¬ (6 : Int32) < s + n := by
  have := own_n3 s0 s3
  have := own_n3 h0 h
  have e0 : (0 : Int32).toInt = 0 := by decide
  have e6 : (6 : Int32).toInt = 6 := by decide
  have e2 : (s + n).toInt = s.toInt + n.toInt := Jvm.Kit.i32_add (by omega) (by omega)
  rw [Int32.lt_iff_toInt_lt, Int32.lt_iff_toInt_lt, e2, e0, e6]
  omega
theorem own_36 {s : Int32} (h : ¬ (3 : Int32) < s) : ¬ (6 : Int32) < s := by
  have e3 : (3 : Int32).toInt = 3 := by decide
  have e6 : (6 : Int32).toInt = 6 := by decide
  rw [Int32.lt_iff_toInt_lt] at *
  omega
theorem own_len0 {d : Value} {us : List Value} {n : Int32} (hu : us.length = n.toNatClampNeg) (hn : n.toNatClampNeg ≤ 3) : 16 ≤ (([] ++ List.replicate 65536 d).take (0 : Int32).toNatClampNeg ++ us ++ ([] ++ List.replicate 65536 d).drop ((0 : Int32).toNatClampNeg + n.toNatClampNeg)).length := by
  have e : (0 : Int32).toNatClampNeg = 0 := by decide
  simp only [List.length_append, List.length_take, List.length_drop, List.length_replicate, List.nil_append, hu, e]
  omega
theorem own_lenS {vs us : List Value} {s n : Int32} (hv : 16 ≤ vs.length) (hu : us.length = n.toNatClampNeg) (hs : s.toNatClampNeg ≤ 6) (hn : n.toNatClampNeg ≤ 3) : 16 ≤ (vs.take s.toNatClampNeg ++ us ++ vs.drop (s.toNatClampNeg + n.toNatClampNeg)).length := by
  simp only [List.length_append, List.length_take, List.length_drop, hu]
  omega
abbrev own_n15 : List Value := [.null, .null, .null, .null, .null, .null, .null, .null, .null, .null, .null, .null, .null, .null, .null]
abbrev own_n16 : List Value := [.null, .null, .null, .null, .null, .null, .null, .null, .null, .null, .null, .null, .null, .null, .null, .null]
abbrev cs0 : String := "com/example/arcwright/arcwright/parser/FeatureTable"
abbrev cs1 : String := "com/example/arcwright/arcwright/parser/IntBlocks"
abbrev mn0 : MethodName := ⟨cs0, "append", "([II)I"⟩
abbrev mn1 : MethodName := ⟨cs0, "length", "(I)I"⟩
abbrev mn2 : MethodName := ⟨"java/util/Arrays", "copyOf", "([II)[I"⟩
abbrev mn3 : MethodName := ⟨cs0, "<init>", "(I)V"⟩
abbrev mn4 : MethodName := ⟨cs1, "add", "([III)V"⟩
abbrev mn5 : MethodName := ⟨cs1, "newBlock", "(I)V"⟩
theorem d3_0 : decode prog_30_method_1_code 0 = .ok (.aload_n 0, 1) := by decide +kernel
theorem d3_1 : decode prog_30_method_1_code 1 = .ok (.invokespecial 3, 3) := by decide +kernel
theorem d3_4 : decode prog_30_method_1_code 4 = .ok (.aload_n 0, 1) := by decide +kernel
theorem d3_5 : decode prog_30_method_1_code 5 = .ok (.bipush 16, 2) := by decide +kernel
theorem d3_7 : decode prog_30_method_1_code 7 = .ok (.anewarray 9, 3) := by decide +kernel
theorem d3_10 : decode prog_30_method_1_code 10 = .ok (.putfield 11, 3) := by decide +kernel
theorem d3_13 : decode prog_30_method_1_code 13 = .ok (.return_, 1) := by decide +kernel
theorem pn_3 : plainName cs1 = true := by first | (simp [plainName, overriddenIn]; done) | decide +kernel
theorem ef_rm3 (m : MethodId) (x0 : Addr) : entryFrame m #[(.ref x0)] 1 = mkF m 0 #[rv x0] [] := by first | (simp [entryFrame, mkF, argsToLocals, Value.category]; done) | rfl
def Qrm3 (Z : State) (a1 : Addr) (u1 : Value) (x2 : Int32) (h0 : Heap) (n0 : Nat) (v : Option Value) (h : Heap) (L : List Loc) : Prop := ∃ (bl : Addr) (kb : ClassId), v = none ∧ Fr n0 L ∧ Keep h0 h [a1] ∧ (Fld Z h a1 cs1 "blocks" "[[I" (.ref bl)) ∧ (Fld Z h a1 cs1 "size" "I" (.int x2)) ∧ (h0.size ≤ bl) ∧ (Arv Z h bl kb (.array .int) (16 : Int32) own_n16 .null) ∧ (OvrA Z kb .int "[I")
set_option maxRecDepth 65536 in
set_option maxHeartbeats 40000000 in
theorem rm3 (l : Launch) (Z : State) (a0 : Array Value) (hw : ∀ d ∈ tables_1, d.before a0 Z = true) (ws : List Jvm.Cond) (a1 : Addr) (u1 : Value) (x2 : Int32) (h0 : Heap) (n0 : Nat) (Z0 : n0 ≤ h0.size) (E_a1 : Exa Z h0 a1 cs1) (Fld_a1_blocks : Fld Z h0 a1 cs1 "blocks" "[[I" u1) (Fld_a1_size : Fld Z h0 a1 cs1 "size" "I" (.int x2)) (g_a1 : n0 ≤ a1) :
    MetFree l (⟨cs1, "<init>", "()V"⟩ : MethodName) (head1 (Jvm.Cond.code (⟨cs1, "<init>", "()V"⟩ : MethodName) prog_30_method_1_code 1 none :: ws) ({ frames := 1, cells := 1, slots := 16, locals := 12 } : Room)) (fun a U => a = #[(.ref a1)] ∧ Z.Warmed39 U.vm ∧ U.heap = h0) (fun _ _ _ _ _ => True) (fun _ U o U' => ∃ v L, o = .returned v ∧ Qrm3 Z a1 u1 x2 h0 n0 v U'.heap L ∧ FrameEnd U o U' L ({ frames := 1, cells := 1, slots := 16, locals := 12 } : Room).cells ({ frames := 1, cells := 1, slots := 16, locals := 12 } : Room).slots) := by
 refine MetFree.of_bodySF (plainFor_of_name pn_3) hisR ?_
 intro p e s m args below meth c s₁ Bd hml0 hP hK
 obtain ⟨rfl, hZ, hh⟩ := hP
 have hx := Bd.exec
 have hby := Bd.bytes
 have hml : c.maxLocals = 1 := hml0
 have hown : s.vm.findClass cs1 = some m.cls := findClass_of_methodNamed Bd.named
 have hnm := (name_of_methodNamed Bd.named Bd.method).1
 have X0 : Stand p l e ({ frames := 1, cells := 1, slots := 16, locals := 12 } : Room) s m #[(.ref a1)] below meth c s₁ [] 0 0 := Stand.of_body Bd
 have e0 : s₁.heap = h0 := by rw [← hh, Bd.state]; rfl
 have N0 := Fr.nil n0
 refine own_go (b := (s₁.setTop (mkF m 0 #[rv a1] []))) (fun _ k => castTop (ef_rm3 m a1) k) ?_
 refine own_go (b := (s₁.setTop (mkF m 1 #[rv a1] [(.ref a1)]))) (fun _ k => XS.aloadN X0.here hx rfl (hb hby d3_0) rfl rfl k) ?_
 obtain ⟨T1, X1, e1, st1⟩ := initO X0 hx hZ hown (ow hw 17 rfl) (ow hw 9 rfl) (ow hw 10 rfl) e0 (g := (mkF m 1 #[rv a1] [(.ref a1)])) rfl (by rw [hml]; rfl) rfl (hb hby d3_1) (by decide) (W := 0) (by show 2 * 0 + _ ≤ _; exact Nat.le_of_eq rfl) (by decide)
 refine own_go (b := (T1.setTop (mkF m 7 #[rv a1] [(.int (16 : Int32)), (.ref a1)]))) (fun _ k => st1 _ (XS.aloadN X1.here hx rfl (hb hby d3_4) rfl rfl (XS.bipush X1.here hx rfl (hb hby d3_5) k))) ?_
 obtain ⟨T2, h2, kl2, X2, e2, E2, A2, Ex2, Ov2, st2⟩ := newRA X1 hx hZ hown (ty := .int) (C := "[I") (by decide) (ow hw 18 rfl) (ow hw 19 rfl) e1 (g := (mkF m 7 #[rv a1] [(.int (16 : Int32)), (.ref a1)])) rfl (hb hby d3_7) rfl (by decide) (cap := 16) (by decide) (by decide) (by decide) (by decide) (ad := "[[I") (by decide)
 obtain ⟨b2, g2⟩ : ∃ z, z = h0.size := ⟨_, rfl⟩
 rw [← g2] at A2 Ex2 st2
 have Zs3 : n0 ≤ h2.size := Nat.le_trans Z0 E2.1
 have V2 : Arv Z h2 b2 kl2 (.array .int) (16 : Int32) own_n16 .null := (Arv.new A2 (by decide)).pad (pad_rep [] .null 16)
 refine own_go (b := (T2.setTop (mkF m 10 #[rv a1] [(.ref b2), (.ref a1)]))) (fun _ k => st2 _ k) ?_
 have F4 := E_a1.ext E2
 have F5 := Fld_a1_blocks.ext E2
 obtain ⟨T6, h6, X6, e6, W6, st6⟩ := putF X2 hx hZ hown (host := "") (Or.inl (ow hw 20 rfl)) Via.refl e2 F5 F4 (Or.inl (ow hw 21 rfl)) (ow hw 12 rfl) (ty := (.array (.array .int))) (by decide) rfl rfl (g := (mkF m 10 #[rv a1] [(.ref b2), (.ref a1)])) rfl rfl (hb hby d3_10)
 have N6 := Fr.snoc X6 N0 g_a1
 have Zs7 : n0 ≤ h6.size := Nat.le_trans Zs3 (Keep.of_wr W6).1
 have F6 : Fld Z h6 a1 cs1 "blocks" "[[I" (.ref b2) := F5.same W6
 refine own_go (b := (T6.setTop (mkF m 13 #[rv a1] []))) (fun _ k => st6 _ k) ?_
 have K8 := (Keep.refl h0 [a1]).ext E2
 have K9 := K8.wr W6 (Or.inl (List.mem_of_getElem? (i := 0) rfl))
 have F10 := Fld_a1_size.ext E2
 have F11 := F10.other W6 (Or.inr (slot_ne (Or.inl (ow hw 53 rfl)) (Or.inl (ow hw 21 rfl)) (by decide) (t := .int) (t' := (.array (.array .int))) (by decide) (by decide)))
 have nx12 : b2 ≠ a1 := (Ne.symm (own_ne E_a1.lt (Nat.le_refl _) (Nat.le_of_eq g2.symm)))
 have F13 := V2.other W6 nx12
 obtain ⟨fs, hr, hrun, hended, hW, hsame⟩ := X6.leave (v := none) (fun _ => rfl)
 exact ⟨_, _, X6.returnOut hx Bd.returns (hb hby d3_13) hr, hrun, hended, _, _, rfl, (show Qrm3 Z a1 u1 x2 h0 n0 _ T6.heap _ from (by rw [e6]; exact ⟨b2, kl2, rfl, N6, K9, F6, F11, (Nat.le_trans (Nat.le_refl _) (Nat.le_of_eq g2.symm)), F13, Ov2⟩)), ⟨_, rfl⟩, hW, hsame.mono (by decide) (by decide)⟩
theorem d1_0 : decode prog_25_method_2_code 0 = .ok (.aload_n 0, 1) := by decide +kernel
theorem d1_1 : decode prog_25_method_2_code 1 = .ok (.invokespecial 7, 3) := by decide +kernel
theorem d1_4 : decode prog_25_method_2_code 4 = .ok (.aload_n 0, 1) := by decide +kernel
theorem d1_5 : decode prog_25_method_2_code 5 = .ok (.new 12, 3) := by decide +kernel
theorem d1_8 : decode prog_25_method_2_code 8 = .ok (.dup, 1) := by decide +kernel
theorem d1_9 : decode prog_25_method_2_code 9 = .ok (.invokespecial 14, 3) := by decide +kernel
theorem d1_12 : decode prog_25_method_2_code 12 = .ok (.putfield 15, 3) := by decide +kernel
theorem d1_15 : decode prog_25_method_2_code 15 = .ok (.aload_n 0, 1) := by decide +kernel
theorem d1_16 : decode prog_25_method_2_code 16 = .ok (.iload_n 1, 1) := by decide +kernel
theorem d1_17 : decode prog_25_method_2_code 17 = .ok (.iconst 1, 1) := by decide +kernel
theorem d1_18 : decode prog_25_method_2_code 18 = .ok (.iadd, 1) := by decide +kernel
theorem d1_19 : decode prog_25_method_2_code 19 = .ok (.newarray .int, 2) := by decide +kernel
theorem d1_21 : decode prog_25_method_2_code 21 = .ok (.putfield 19, 3) := by decide +kernel
theorem d1_24 : decode prog_25_method_2_code 24 = .ok (.return_, 1) := by decide +kernel
theorem pd___V : parseMethodDescriptor "()V" = some ⟨[], none⟩ := by decide +kernel
theorem pn_1 : plainName cs0 = true := by first | (simp [plainName, overriddenIn]; done) | decide +kernel
theorem ef_rmft0 (m : MethodId) (x0 : Addr) (x1 : Int32) : entryFrame m #[(.ref x0), (.int x1)] 2 = mkF m 0 #[rv x0, iv x1] [] := by first | (simp [entryFrame, mkF, argsToLocals, Value.category]; done) | rfl
def Qrmft0 (Z : State) (a1 : Addr) (u1 : Value) (u2 : Value) (h0 : Heap) (n0 : Nat) (v : Option Value) (h : Heap) (L : List Loc) : Prop := ∃ (ib : Addr) (ks : Addr) (kk : ClassId) (bl : Addr) (kb : ClassId), v = none ∧ Fr n0 L ∧ Keep h0 h [a1] ∧ (Fld Z h a1 cs0 "keys" "Lcom/example/arcwright/arcwright/parser/IntBlocks;" (.ref ib)) ∧ (Fld Z h a1 cs0 "keyStarts" "[I" (.ref ks)) ∧ (Fld Z h a1 cs0 "labelStarts" "[I" .null) ∧ (Fld Z h a1 cs0 "size" "I" (.int (0 : Int32))) ∧ (h0.size ≤ ib) ∧ (h0.size ≤ ks) ∧ (h0.size ≤ bl) ∧ (Exa Z h ib cs1) ∧ (Fld Z h ib cs1 "size" "I" (.int (0 : Int32))) ∧ (Fld Z h ib cs1 "blocks" "[[I" (.ref bl)) ∧ (Arv Z h bl kb (.array .int) (16 : Int32) own_n16 .null) ∧ (OvrA Z kb .int "[I") ∧ (Arv Z h ks kk .int (1 : Int32) [(.int (0 : Int32))] (.int (0 : Int32))) ∧ (ks ≠ bl)
set_option maxRecDepth 65536 in
set_option maxHeartbeats 40000000 in
theorem rmft0 (l : Launch) (Z : State) (a0 : Array Value) (hw : ∀ d ∈ tables_1, d.before a0 Z = true) (ws : List Jvm.Cond) (a1 : Addr) (u1 : Value) (u2 : Value) (h0 : Heap) (n0 : Nat) (Z0 : n0 ≤ h0.size) (E_a1 : Exa Z h0 a1 cs0) (Fld_a1_keys : Fld Z h0 a1 cs0 "keys" "Lcom/example/arcwright/arcwright/parser/IntBlocks;" u1) (Fld_a1_keyStarts : Fld Z h0 a1 cs0 "keyStarts" "[I" u2) (Fld_a1_labelStarts : Fld Z h0 a1 cs0 "labelStarts" "[I" .null) (Fld_a1_size : Fld Z h0 a1 cs0 "size" "I" (.int (0 : Int32))) (g_a1 : n0 ≤ a1) :
    MetFree l mn3 (head1 (Jvm.Cond.code mn3 prog_25_method_2_code 2 none :: ws) ({ frames := 2, cells := 3, slots := 19, locals := 26 } : Room)) (fun a U => a = #[(.ref a1), (.int (0 : Int32))] ∧ Z.Warmed39 U.vm ∧ U.heap = h0) (fun _ _ _ _ _ => True) (fun _ U o U' => ∃ v L, o = .returned v ∧ Qrmft0 Z a1 u1 u2 h0 n0 v U'.heap L ∧ FrameEnd U o U' L ({ frames := 2, cells := 3, slots := 19, locals := 26 } : Room).cells ({ frames := 2, cells := 3, slots := 19, locals := 26 } : Room).slots) := by
 refine MetFree.of_bodySF (plainFor_of_name pn_1) hisR ?_
 intro p e s m args below meth c s₁ Bd hml0 hP hK
 obtain ⟨rfl, hZ, hh⟩ := hP
 have hx := Bd.exec
 have hby := Bd.bytes
 have hml : c.maxLocals = 2 := hml0
 have hown : s.vm.findClass cs0 = some m.cls := findClass_of_methodNamed Bd.named
 have hnm := (name_of_methodNamed Bd.named Bd.method).1
 have X0 : Stand p l e ({ frames := 2, cells := 3, slots := 19, locals := 26 } : Room) s m #[(.ref a1), (.int (0 : Int32))] below meth c s₁ [] 0 0 := Stand.of_body Bd
 have e0 : s₁.heap = h0 := by rw [← hh, Bd.state]; rfl
 have N0 := Fr.nil n0
 refine own_go (b := (s₁.setTop (mkF m 0 #[rv a1, iv (0 : Int32)] []))) (fun _ k => castTop (ef_rmft0 m a1 (0 : Int32)) k) ?_
 refine own_go (b := (s₁.setTop (mkF m 1 #[rv a1, iv (0 : Int32)] [(.ref a1)]))) (fun _ k => XS.aloadN X0.here hx rfl (hb hby d1_0) rfl rfl k) ?_
 obtain ⟨T1, X1, e1, st1⟩ := initO X0 hx hZ hown (ow hw 8 rfl) (ow hw 9 rfl) (ow hw 10 rfl) e0 (g := (mkF m 1 #[rv a1, iv (0 : Int32)] [(.ref a1)])) rfl (by rw [hml]; rfl) rfl (hb hby d1_1) (by decide) (W := 0) (by show 2 * 0 + _ ≤ _; exact Nat.le_of_eq rfl) (by decide)
 refine own_go (b := (T1.setTop (mkF m 5 #[rv a1, iv (0 : Int32)] [(.ref a1)]))) (fun _ k => st1 _ (XS.aloadN X1.here hx rfl (hb hby d1_4) rfl rfl k)) ?_
 obtain ⟨T2, h2, X2, e2, E2, A2, D2, -, st2⟩ := newO X1 hx hZ hown (ow hw 11 rfl) (ow hw 12 rfl) (ow hw 13 rfl) e1 (g := (mkF m 5 #[rv a1, iv (0 : Int32)] [(.ref a1)])) rfl (hb hby d1_5) (by decide) (by decide)
 obtain ⟨b2, g2⟩ : ∃ z, z = h0.size := ⟨_, rfl⟩
 rw [← g2] at A2 D2 st2
 have Zs3 : n0 ≤ h2.size := Nat.le_trans Z0 E2.1
 have F2_blocks : Fld Z h2 b2 cs1 "blocks" "[[I" .null := D2 (Or.inl (ow hw 21 rfl)) (ty := (.array (.array .int))) (by decide)
 have F2_size : Fld Z h2 b2 cs1 "size" "I" (.int (0 : Int32)) := D2 (Or.inl (ow hw 53 rfl)) (ty := .int) (by decide)
 refine own_go (b := (T2.setTop (mkF m 9 #[rv a1, iv (0 : Int32)] [(.ref b2), (.ref b2), (.ref a1)]))) (fun _ k => st2 _ (XS.dup X2.here hx rfl (hb hby d1_8) rfl rfl k)) ?_
 have gx5 : n0 ≤ b2 := Nat.le_trans Z0 (Nat.le_of_eq g2.symm)
 refine own_spec (W := 2) X2 hx hZ hown e2 (ow hw 14 rfl) (ow hw 15 rfl) (rm3 l Z a0 hw [] b2 .null (0 : Int32) h2 n0 Zs3 A2 F2_blocks F2_size gx5) (ow hw 16 rfl) (ow hw 13 rfl) rfl (by rw [hml]; rfl) rfl (hb hby d1_9) (lenOf pd___V rfl) rfl rfl (by decide) (fun T4 v4 Ll4 X4 hQ4 => ?_)
 obtain ⟨bl_4, kb_4, rfl, N4q, K4, P4_0, P4_1, P4_2, P4_3, P4_4⟩ := hQ4
 have N4 := Fr.app N0 N4q
 have Zs6 : n0 ≤ T4.heap.size := Nat.le_trans Zs3 K4.1
 have F7 := E_a1.ext E2
 have F8 := F7.keep K4
 have F9 := Fld_a1_keys.ext E2
 have nx10 : a1 ≠ b2 := (own_ne E_a1.lt (Nat.le_refl _) (Nat.le_of_eq g2.symm))
 have F11 := F9.keep K4 (ninS nx10 nin0)
 obtain ⟨T12, h12, X12, e12, W12, st12⟩ := putF X4 hx hZ hown (host := "") (Or.inl (ow hw 22 rfl)) Via.refl rfl F11 F8 (Or.inr ⟨(ow hw 23 rfl), rfl, hnm⟩) (ow hw 3 rfl) (ty := (.object cs1)) (by decide) rfl rfl (g := (mkF m 12 #[rv a1, iv (0 : Int32)] [(.ref b2), (.ref a1)])) rfl rfl (hb hby d1_12)
 have N12 := Fr.snoc X12 N4 g_a1
 have Zs13 : n0 ≤ h12.size := Nat.le_trans Zs6 (Keep.of_wr W12).1
 have F12 : Fld Z h12 a1 cs0 "keys" "Lcom/example/arcwright/arcwright/parser/IntBlocks;" (.ref b2) := F11.same W12
 refine own_go (b := (T12.setTop (mkF m 19 #[rv a1, iv (0 : Int32)] [(.int (1 : Int32)), (.ref a1)]))) (fun _ k => st12 _ (XS.aloadN X12.here hx rfl (hb hby d1_15) rfl rfl (XS.iloadN X12.here hx rfl (hb hby d1_16) rfl (XS.iconst X12.here hx rfl (hb hby d1_17) (XS.iadd X12.here hx rfl (hb hby d1_18) rfl k))))) ?_
 obtain ⟨T14, h14, kl14, X14, e14, E14, A14, st14⟩ := newP X12 hx hZ (ow hw 0 rfl) e12 (g := (mkF m 19 #[rv a1, iv (0 : Int32)] [(.int (1 : Int32)), (.ref a1)])) rfl (hb hby d1_19) rfl (by decide) (cap := 1) (by decide) (by decide) (by decide) (by decide)
 obtain ⟨b14, g14⟩ : ∃ z, z = h12.size := ⟨_, rfl⟩
 rw [← g14] at A14 st14
 have Zs15 : n0 ≤ h14.size := Nat.le_trans Zs13 E14.1
 have V14 : Arv Z h14 b14 kl14 .int (1 : Int32) [(.int (0 : Int32))] (.int (0 : Int32)) := (Arv.new A14 (by decide)).pad (pad_rep [] (.int (0 : Int32)) 1)
 refine own_go (b := (T14.setTop (mkF m 21 #[rv a1, iv (0 : Int32)] [(.ref b14), (.ref a1)]))) (fun _ k => st14 _ k) ?_
 have F16 := F8.wr W12
 have F17 := F16.ext E14
 have F18 := Fld_a1_keyStarts.ext E2
 have F19 := F18.keep K4 (ninS nx10 nin0)
 have F20 := F19.other W12 (Or.inr (slot_ne (Or.inl (ow hw 25 rfl)) (Or.inr (ow hw 23 rfl)) (by decide) (t := (.array .int)) (t' := (.object cs1)) (by decide) (by decide)))
 have F21 := F20.ext E14
 obtain ⟨T22, h22, X22, e22, W22, st22⟩ := putF X14 hx hZ hown (host := "") (Or.inl (ow hw 24 rfl)) Via.refl e14 F21 F17 (Or.inl (ow hw 25 rfl)) (ow hw 3 rfl) (ty := (.array .int)) (by decide) rfl rfl (g := (mkF m 21 #[rv a1, iv (0 : Int32)] [(.ref b14), (.ref a1)])) rfl rfl (hb hby d1_21)
 have N22 := Fr.snoc X22 N12 g_a1
 have Zs23 : n0 ≤ h22.size := Nat.le_trans Zs15 (Keep.of_wr W22).1
 have F22 : Fld Z h22 a1 cs0 "keyStarts" "[I" (.ref b14) := F21.same W22
 refine own_go (b := (T22.setTop (mkF m 24 #[rv a1, iv (0 : Int32)] []))) (fun _ k => st22 _ k) ?_
 have K24 := (Keep.refl h0 [a1]).ext E2
 have K25 := K24.trans K4 (allS (Or.inr (Nat.le_trans (Nat.le_refl _) (Nat.le_of_eq g2.symm))) all0)
 have K26 := K25.wr W12 (Or.inl (List.mem_of_getElem? (i := 0) rfl))
 have K27 := K26.ext E14
 have K28 := K27.wr W22 (Or.inl (List.mem_of_getElem? (i := 0) rfl))
 have F29 := F12.ext E14
 have F30 := F29.other W22 (Or.inr (slot_ne (Or.inr (ow hw 23 rfl)) (Or.inl (ow hw 25 rfl)) (by decide) (t := (.object cs1)) (t' := (.array .int)) (by decide) (by decide)))
 have F31 := Fld_a1_labelStarts.ext E2
 have F32 := F31.keep K4 (ninS nx10 nin0)
 have F33 := F32.other W12 (Or.inr (slot_ne (Or.inl (ow hw 32 rfl)) (Or.inr (ow hw 23 rfl)) (by decide) (t := (.array .int)) (t' := (.object cs1)) (by decide) (by decide)))
 have F34 := F33.ext E14
 have F35 := F34.other W22 (Or.inr (slot_ne (Or.inl (ow hw 32 rfl)) (Or.inl (ow hw 25 rfl)) (by decide) (t := (.array .int)) (t' := (.array .int)) (by decide) (by decide)))
 have F36 := Fld_a1_size.ext E2
 have F37 := F36.keep K4 (ninS nx10 nin0)
 have F38 := F37.other W12 (Or.inr (slot_ne (Or.inl (ow hw 34 rfl)) (Or.inr (ow hw 23 rfl)) (by decide) (t := .int) (t' := (.object cs1)) (by decide) (by decide)))
 have F39 := F38.ext E14
 have F40 := F39.other W22 (Or.inr (slot_ne (Or.inl (ow hw 34 rfl)) (Or.inl (ow hw 25 rfl)) (by decide) (t := .int) (t' := (.array .int)) (by decide) (by decide)))
 have F41 := A2.keep K4
 have F42 := F41.wr W12
 have F43 := F42.ext E14
 have F44 := F43.wr W22
 have F45 := P4_1.other W12 (Or.inl (Ne.symm nx10))
 have F46 := F45.ext E14
 have F47 := F46.other W22 (Or.inl (Ne.symm nx10))
 have F48 := P4_0.other W12 (Or.inl (Ne.symm nx10))
 have F49 := F48.ext E14
 have F50 := F49.other W22 (Or.inl (Ne.symm nx10))
 have nx51 : bl_4 ≠ a1 := (Ne.symm (own_ne E_a1.lt E2.1 P4_2))
 have F52 := P4_3.other W12 nx51
 have F53 := F52.ext E14
 have F54 := F53.other W22 nx51
 have nx55 : b14 ≠ a1 := (Ne.symm (own_ne E_a1.lt (own_tr (own_tr E2.1 K4.1) (Keep.of_wr W12).1) (Nat.le_of_eq g14.symm)))
 have F56 := V14.other W22 nx55
 have nx57 : b14 ≠ bl_4 := (Ne.symm (own_ne P4_3.lt (Keep.of_wr W12).1 (Nat.le_of_eq g14.symm)))
 obtain ⟨fs, hr, hrun, hended, hW, hsame⟩ := X22.leave (v := none) (fun _ => rfl)
 exact ⟨_, _, X22.returnOut hx Bd.returns (hb hby d1_24) hr, hrun, hended, _, _, rfl, (show Qrmft0 Z a1 u1 u2 h0 n0 _ T22.heap _ from (by rw [e22]; exact ⟨b2, b14, kl14, bl_4, kb_4, rfl, N22, K28, F30, F22, F35, F40, (Nat.le_trans (Nat.le_refl _) (Nat.le_of_eq g2.symm)), (Nat.le_trans (own_tr (own_tr E2.1 K4.1) (Keep.of_wr W12).1) (Nat.le_of_eq g14.symm)), (Nat.le_trans E2.1 P4_2), F44, F47, F50, F54, P4_4, F56, nx57⟩)), ⟨_, rfl⟩, hW, hsame.mono (by decide) (by decide)⟩
theorem ef_rmft1 (m : MethodId) (x0 : Addr) (x1 : Int32) : entryFrame m #[(.ref x0), (.int x1)] 2 = mkF m 0 #[rv x0, iv x1] [] := by first | (simp [entryFrame, mkF, argsToLocals, Value.category]; done) | rfl
def Qrmft1 (Z : State) (a1 : Addr) (u1 : Value) (u2 : Value) (h0 : Heap) (n0 : Nat) (v : Option Value) (h : Heap) (L : List Loc) : Prop := ∃ (ib : Addr) (ks : Addr) (kk : ClassId) (bl : Addr) (kb : ClassId), v = none ∧ Fr n0 L ∧ Keep h0 h [a1] ∧ (Fld Z h a1 cs0 "keys" "Lcom/example/arcwright/arcwright/parser/IntBlocks;" (.ref ib)) ∧ (Fld Z h a1 cs0 "keyStarts" "[I" (.ref ks)) ∧ (Fld Z h a1 cs0 "labelStarts" "[I" .null) ∧ (Fld Z h a1 cs0 "size" "I" (.int (0 : Int32))) ∧ (h0.size ≤ ib) ∧ (h0.size ≤ ks) ∧ (h0.size ≤ bl) ∧ (Exa Z h ib cs1) ∧ (Fld Z h ib cs1 "size" "I" (.int (0 : Int32))) ∧ (Fld Z h ib cs1 "blocks" "[[I" (.ref bl)) ∧ (Arv Z h bl kb (.array .int) (16 : Int32) own_n16 .null) ∧ (OvrA Z kb .int "[I") ∧ (Arv Z h ks kk .int (2 : Int32) [(.int (0 : Int32)), (.int (0 : Int32))] (.int (0 : Int32))) ∧ (ks ≠ bl)
set_option maxRecDepth 65536 in
set_option maxHeartbeats 40000000 in
theorem rmft1 (l : Launch) (Z : State) (a0 : Array Value) (hw : ∀ d ∈ tables_1, d.before a0 Z = true) (ws : List Jvm.Cond) (a1 : Addr) (u1 : Value) (u2 : Value) (h0 : Heap) (n0 : Nat) (Z0 : n0 ≤ h0.size) (E_a1 : Exa Z h0 a1 cs0) (Fld_a1_keys : Fld Z h0 a1 cs0 "keys" "Lcom/example/arcwright/arcwright/parser/IntBlocks;" u1) (Fld_a1_keyStarts : Fld Z h0 a1 cs0 "keyStarts" "[I" u2) (Fld_a1_labelStarts : Fld Z h0 a1 cs0 "labelStarts" "[I" .null) (Fld_a1_size : Fld Z h0 a1 cs0 "size" "I" (.int (0 : Int32))) (g_a1 : n0 ≤ a1) :
    MetFree l mn3 (head1 (Jvm.Cond.code mn3 prog_25_method_2_code 2 none :: ws) ({ frames := 2, cells := 3, slots := 20, locals := 26 } : Room)) (fun a U => a = #[(.ref a1), (.int (1 : Int32))] ∧ Z.Warmed39 U.vm ∧ U.heap = h0) (fun _ _ _ _ _ => True) (fun _ U o U' => ∃ v L, o = .returned v ∧ Qrmft1 Z a1 u1 u2 h0 n0 v U'.heap L ∧ FrameEnd U o U' L ({ frames := 2, cells := 3, slots := 20, locals := 26 } : Room).cells ({ frames := 2, cells := 3, slots := 20, locals := 26 } : Room).slots) := by
 refine MetFree.of_bodySF (plainFor_of_name pn_1) hisR ?_
 intro p e s m args below meth c s₁ Bd hml0 hP hK
 obtain ⟨rfl, hZ, hh⟩ := hP
 have hx := Bd.exec
 have hby := Bd.bytes
 have hml : c.maxLocals = 2 := hml0
 have hown : s.vm.findClass cs0 = some m.cls := findClass_of_methodNamed Bd.named
 have hnm := (name_of_methodNamed Bd.named Bd.method).1
 have X0 : Stand p l e ({ frames := 2, cells := 3, slots := 20, locals := 26 } : Room) s m #[(.ref a1), (.int (1 : Int32))] below meth c s₁ [] 0 0 := Stand.of_body Bd
 have e0 : s₁.heap = h0 := by rw [← hh, Bd.state]; rfl
 have N0 := Fr.nil n0
 refine own_go (b := (s₁.setTop (mkF m 0 #[rv a1, iv (1 : Int32)] []))) (fun _ k => castTop (ef_rmft1 m a1 (1 : Int32)) k) ?_
 refine own_go (b := (s₁.setTop (mkF m 1 #[rv a1, iv (1 : Int32)] [(.ref a1)]))) (fun _ k => XS.aloadN X0.here hx rfl (hb hby d1_0) rfl rfl k) ?_
 obtain ⟨T1, X1, e1, st1⟩ := initO X0 hx hZ hown (ow hw 8 rfl) (ow hw 9 rfl) (ow hw 10 rfl) e0 (g := (mkF m 1 #[rv a1, iv (1 : Int32)] [(.ref a1)])) rfl (by rw [hml]; rfl) rfl (hb hby d1_1) (by decide) (W := 0) (by show 2 * 0 + _ ≤ _; exact Nat.le_of_eq rfl) (by decide)
 refine own_go (b := (T1.setTop (mkF m 5 #[rv a1, iv (1 : Int32)] [(.ref a1)]))) (fun _ k => st1 _ (XS.aloadN X1.here hx rfl (hb hby d1_4) rfl rfl k)) ?_
 obtain ⟨T2, h2, X2, e2, E2, A2, D2, -, st2⟩ := newO X1 hx hZ hown (ow hw 11 rfl) (ow hw 12 rfl) (ow hw 13 rfl) e1 (g := (mkF m 5 #[rv a1, iv (1 : Int32)] [(.ref a1)])) rfl (hb hby d1_5) (by decide) (by decide)
 obtain ⟨b2, g2⟩ : ∃ z, z = h0.size := ⟨_, rfl⟩
 rw [← g2] at A2 D2 st2
 have Zs3 : n0 ≤ h2.size := Nat.le_trans Z0 E2.1
 have F2_blocks : Fld Z h2 b2 cs1 "blocks" "[[I" .null := D2 (Or.inl (ow hw 21 rfl)) (ty := (.array (.array .int))) (by decide)
 have F2_size : Fld Z h2 b2 cs1 "size" "I" (.int (0 : Int32)) := D2 (Or.inl (ow hw 53 rfl)) (ty := .int) (by decide)
 refine own_go (b := (T2.setTop (mkF m 9 #[rv a1, iv (1 : Int32)] [(.ref b2), (.ref b2), (.ref a1)]))) (fun _ k => st2 _ (XS.dup X2.here hx rfl (hb hby d1_8) rfl rfl k)) ?_
 have gx5 : n0 ≤ b2 := Nat.le_trans Z0 (Nat.le_of_eq g2.symm)
 refine own_spec (W := 2) X2 hx hZ hown e2 (ow hw 14 rfl) (ow hw 15 rfl) (rm3 l Z a0 hw [] b2 .null (0 : Int32) h2 n0 Zs3 A2 F2_blocks F2_size gx5) (ow hw 16 rfl) (ow hw 13 rfl) rfl (by rw [hml]; rfl) rfl (hb hby d1_9) (lenOf pd___V rfl) rfl rfl (by decide) (fun T4 v4 Ll4 X4 hQ4 => ?_)
 obtain ⟨bl_4, kb_4, rfl, N4q, K4, P4_0, P4_1, P4_2, P4_3, P4_4⟩ := hQ4
 have N4 := Fr.app N0 N4q
 have Zs6 : n0 ≤ T4.heap.size := Nat.le_trans Zs3 K4.1
 have F7 := E_a1.ext E2
 have F8 := F7.keep K4
 have F9 := Fld_a1_keys.ext E2
 have nx10 : a1 ≠ b2 := (own_ne E_a1.lt (Nat.le_refl _) (Nat.le_of_eq g2.symm))
 have F11 := F9.keep K4 (ninS nx10 nin0)
 obtain ⟨T12, h12, X12, e12, W12, st12⟩ := putF X4 hx hZ hown (host := "") (Or.inl (ow hw 22 rfl)) Via.refl rfl F11 F8 (Or.inr ⟨(ow hw 23 rfl), rfl, hnm⟩) (ow hw 3 rfl) (ty := (.object cs1)) (by decide) rfl rfl (g := (mkF m 12 #[rv a1, iv (1 : Int32)] [(.ref b2), (.ref a1)])) rfl rfl (hb hby d1_12)
 have N12 := Fr.snoc X12 N4 g_a1
 have Zs13 : n0 ≤ h12.size := Nat.le_trans Zs6 (Keep.of_wr W12).1
 have F12 : Fld Z h12 a1 cs0 "keys" "Lcom/example/arcwright/arcwright/parser/IntBlocks;" (.ref b2) := F11.same W12
 refine own_go (b := (T12.setTop (mkF m 19 #[rv a1, iv (1 : Int32)] [(.int (2 : Int32)), (.ref a1)]))) (fun _ k => st12 _ (XS.aloadN X12.here hx rfl (hb hby d1_15) rfl rfl (XS.iloadN X12.here hx rfl (hb hby d1_16) rfl (XS.iconst X12.here hx rfl (hb hby d1_17) (XS.iadd X12.here hx rfl (hb hby d1_18) rfl k))))) ?_
 obtain ⟨T14, h14, kl14, X14, e14, E14, A14, st14⟩ := newP X12 hx hZ (ow hw 0 rfl) e12 (g := (mkF m 19 #[rv a1, iv (1 : Int32)] [(.int (2 : Int32)), (.ref a1)])) rfl (hb hby d1_19) rfl (by decide) (cap := 2) (by decide) (by decide) (by decide) (by decide)
 obtain ⟨b14, g14⟩ : ∃ z, z = h12.size := ⟨_, rfl⟩
 rw [← g14] at A14 st14
 have Zs15 : n0 ≤ h14.size := Nat.le_trans Zs13 E14.1
 have V14 : Arv Z h14 b14 kl14 .int (2 : Int32) [(.int (0 : Int32)), (.int (0 : Int32))] (.int (0 : Int32)) := (Arv.new A14 (by decide)).pad (pad_rep [] (.int (0 : Int32)) 2)
 refine own_go (b := (T14.setTop (mkF m 21 #[rv a1, iv (1 : Int32)] [(.ref b14), (.ref a1)]))) (fun _ k => st14 _ k) ?_
 have F16 := F8.wr W12
 have F17 := F16.ext E14
 have F18 := Fld_a1_keyStarts.ext E2
 have F19 := F18.keep K4 (ninS nx10 nin0)
 have F20 := F19.other W12 (Or.inr (slot_ne (Or.inl (ow hw 25 rfl)) (Or.inr (ow hw 23 rfl)) (by decide) (t := (.array .int)) (t' := (.object cs1)) (by decide) (by decide)))
 have F21 := F20.ext E14
 obtain ⟨T22, h22, X22, e22, W22, st22⟩ := putF X14 hx hZ hown (host := "") (Or.inl (ow hw 24 rfl)) Via.refl e14 F21 F17 (Or.inl (ow hw 25 rfl)) (ow hw 3 rfl) (ty := (.array .int)) (by decide) rfl rfl (g := (mkF m 21 #[rv a1, iv (1 : Int32)] [(.ref b14), (.ref a1)])) rfl rfl (hb hby d1_21)
 have N22 := Fr.snoc X22 N12 g_a1
 have Zs23 : n0 ≤ h22.size := Nat.le_trans Zs15 (Keep.of_wr W22).1
 have F22 : Fld Z h22 a1 cs0 "keyStarts" "[I" (.ref b14) := F21.same W22
 refine own_go (b := (T22.setTop (mkF m 24 #[rv a1, iv (1 : Int32)] []))) (fun _ k => st22 _ k) ?_
 have K24 := (Keep.refl h0 [a1]).ext E2
 have K25 := K24.trans K4 (allS (Or.inr (Nat.le_trans (Nat.le_refl _) (Nat.le_of_eq g2.symm))) all0)
 have K26 := K25.wr W12 (Or.inl (List.mem_of_getElem? (i := 0) rfl))
 have K27 := K26.ext E14
 have K28 := K27.wr W22 (Or.inl (List.mem_of_getElem? (i := 0) rfl))
 have F29 := F12.ext E14
 have F30 := F29.other W22 (Or.inr (slot_ne (Or.inr (ow hw 23 rfl)) (Or.inl (ow hw 25 rfl)) (by decide) (t := (.object cs1)) (t' := (.array .int)) (by decide) (by decide)))
 have F31 := Fld_a1_labelStarts.ext E2
 have F32 := F31.keep K4 (ninS nx10 nin0)
 have F33 := F32.other W12 (Or.inr (slot_ne (Or.inl (ow hw 32 rfl)) (Or.inr (ow hw 23 rfl)) (by decide) (t := (.array .int)) (t' := (.object cs1)) (by decide) (by decide)))
 have F34 := F33.ext E14
 have F35 := F34.other W22 (Or.inr (slot_ne (Or.inl (ow hw 32 rfl)) (Or.inl (ow hw 25 rfl)) (by decide) (t := (.array .int)) (t' := (.array .int)) (by decide) (by decide)))
 have F36 := Fld_a1_size.ext E2
 have F37 := F36.keep K4 (ninS nx10 nin0)
 have F38 := F37.other W12 (Or.inr (slot_ne (Or.inl (ow hw 34 rfl)) (Or.inr (ow hw 23 rfl)) (by decide) (t := .int) (t' := (.object cs1)) (by decide) (by decide)))
 have F39 := F38.ext E14
 have F40 := F39.other W22 (Or.inr (slot_ne (Or.inl (ow hw 34 rfl)) (Or.inl (ow hw 25 rfl)) (by decide) (t := .int) (t' := (.array .int)) (by decide) (by decide)))
 have F41 := A2.keep K4
 have F42 := F41.wr W12
 have F43 := F42.ext E14
 have F44 := F43.wr W22
 have F45 := P4_1.other W12 (Or.inl (Ne.symm nx10))
 have F46 := F45.ext E14
 have F47 := F46.other W22 (Or.inl (Ne.symm nx10))
 have F48 := P4_0.other W12 (Or.inl (Ne.symm nx10))
 have F49 := F48.ext E14
 have F50 := F49.other W22 (Or.inl (Ne.symm nx10))
 have nx51 : bl_4 ≠ a1 := (Ne.symm (own_ne E_a1.lt E2.1 P4_2))
 have F52 := P4_3.other W12 nx51
 have F53 := F52.ext E14
 have F54 := F53.other W22 nx51
 have nx55 : b14 ≠ a1 := (Ne.symm (own_ne E_a1.lt (own_tr (own_tr E2.1 K4.1) (Keep.of_wr W12).1) (Nat.le_of_eq g14.symm)))
 have F56 := V14.other W22 nx55
 have nx57 : b14 ≠ bl_4 := (Ne.symm (own_ne P4_3.lt (Keep.of_wr W12).1 (Nat.le_of_eq g14.symm)))
 obtain ⟨fs, hr, hrun, hended, hW, hsame⟩ := X22.leave (v := none) (fun _ => rfl)
 exact ⟨_, _, X22.returnOut hx Bd.returns (hb hby d1_24) hr, hrun, hended, _, _, rfl, (show Qrmft1 Z a1 u1 u2 h0 n0 _ T22.heap _ from (by rw [e22]; exact ⟨b2, b14, kl14, bl_4, kb_4, rfl, N22, K28, F30, F22, F35, F40, (Nat.le_trans (Nat.le_refl _) (Nat.le_of_eq g2.symm)), (Nat.le_trans (own_tr (own_tr E2.1 K4.1) (Keep.of_wr W12).1) (Nat.le_of_eq g14.symm)), (Nat.le_trans E2.1 P4_2), F44, F47, F50, F54, P4_4, F56, nx57⟩)), ⟨_, rfl⟩, hW, hsame.mono (by decide) (by decide)⟩
theorem ef_rmft2 (m : MethodId) (x0 : Addr) (x1 : Int32) : entryFrame m #[(.ref x0), (.int x1)] 2 = mkF m 0 #[rv x0, iv x1] [] := by first | (simp [entryFrame, mkF, argsToLocals, Value.category]; done) | rfl
def Qrmft2 (Z : State) (a1 : Addr) (u1 : Value) (u2 : Value) (h0 : Heap) (n0 : Nat) (v : Option Value) (h : Heap) (L : List Loc) : Prop := ∃ (ib : Addr) (ks : Addr) (kk : ClassId) (bl : Addr) (kb : ClassId), v = none ∧ Fr n0 L ∧ Keep h0 h [a1] ∧ (Fld Z h a1 cs0 "keys" "Lcom/example/arcwright/arcwright/parser/IntBlocks;" (.ref ib)) ∧ (Fld Z h a1 cs0 "keyStarts" "[I" (.ref ks)) ∧ (Fld Z h a1 cs0 "labelStarts" "[I" .null) ∧ (Fld Z h a1 cs0 "size" "I" (.int (0 : Int32))) ∧ (h0.size ≤ ib) ∧ (h0.size ≤ ks) ∧ (h0.size ≤ bl) ∧ (Exa Z h ib cs1) ∧ (Fld Z h ib cs1 "size" "I" (.int (0 : Int32))) ∧ (Fld Z h ib cs1 "blocks" "[[I" (.ref bl)) ∧ (Arv Z h bl kb (.array .int) (16 : Int32) own_n16 .null) ∧ (OvrA Z kb .int "[I") ∧ (Arv Z h ks kk .int (3 : Int32) [(.int (0 : Int32)), (.int (0 : Int32)), (.int (0 : Int32))] (.int (0 : Int32))) ∧ (ks ≠ bl)
set_option maxRecDepth 65536 in
set_option maxHeartbeats 40000000 in
theorem rmft2 (l : Launch) (Z : State) (a0 : Array Value) (hw : ∀ d ∈ tables_1, d.before a0 Z = true) (ws : List Jvm.Cond) (a1 : Addr) (u1 : Value) (u2 : Value) (h0 : Heap) (n0 : Nat) (Z0 : n0 ≤ h0.size) (E_a1 : Exa Z h0 a1 cs0) (Fld_a1_keys : Fld Z h0 a1 cs0 "keys" "Lcom/example/arcwright/arcwright/parser/IntBlocks;" u1) (Fld_a1_keyStarts : Fld Z h0 a1 cs0 "keyStarts" "[I" u2) (Fld_a1_labelStarts : Fld Z h0 a1 cs0 "labelStarts" "[I" .null) (Fld_a1_size : Fld Z h0 a1 cs0 "size" "I" (.int (0 : Int32))) (g_a1 : n0 ≤ a1) :
    MetFree l mn3 (head1 (Jvm.Cond.code mn3 prog_25_method_2_code 2 none :: ws) ({ frames := 2, cells := 3, slots := 21, locals := 26 } : Room)) (fun a U => a = #[(.ref a1), (.int (2 : Int32))] ∧ Z.Warmed39 U.vm ∧ U.heap = h0) (fun _ _ _ _ _ => True) (fun _ U o U' => ∃ v L, o = .returned v ∧ Qrmft2 Z a1 u1 u2 h0 n0 v U'.heap L ∧ FrameEnd U o U' L ({ frames := 2, cells := 3, slots := 21, locals := 26 } : Room).cells ({ frames := 2, cells := 3, slots := 21, locals := 26 } : Room).slots) := by
 refine MetFree.of_bodySF (plainFor_of_name pn_1) hisR ?_
 intro p e s m args below meth c s₁ Bd hml0 hP hK
 obtain ⟨rfl, hZ, hh⟩ := hP
 have hx := Bd.exec
 have hby := Bd.bytes
 have hml : c.maxLocals = 2 := hml0
 have hown : s.vm.findClass cs0 = some m.cls := findClass_of_methodNamed Bd.named
 have hnm := (name_of_methodNamed Bd.named Bd.method).1
 have X0 : Stand p l e ({ frames := 2, cells := 3, slots := 21, locals := 26 } : Room) s m #[(.ref a1), (.int (2 : Int32))] below meth c s₁ [] 0 0 := Stand.of_body Bd
 have e0 : s₁.heap = h0 := by rw [← hh, Bd.state]; rfl
 have N0 := Fr.nil n0
 refine own_go (b := (s₁.setTop (mkF m 0 #[rv a1, iv (2 : Int32)] []))) (fun _ k => castTop (ef_rmft2 m a1 (2 : Int32)) k) ?_
 refine own_go (b := (s₁.setTop (mkF m 1 #[rv a1, iv (2 : Int32)] [(.ref a1)]))) (fun _ k => XS.aloadN X0.here hx rfl (hb hby d1_0) rfl rfl k) ?_
 obtain ⟨T1, X1, e1, st1⟩ := initO X0 hx hZ hown (ow hw 8 rfl) (ow hw 9 rfl) (ow hw 10 rfl) e0 (g := (mkF m 1 #[rv a1, iv (2 : Int32)] [(.ref a1)])) rfl (by rw [hml]; rfl) rfl (hb hby d1_1) (by decide) (W := 0) (by show 2 * 0 + _ ≤ _; exact Nat.le_of_eq rfl) (by decide)
 refine own_go (b := (T1.setTop (mkF m 5 #[rv a1, iv (2 : Int32)] [(.ref a1)]))) (fun _ k => st1 _ (XS.aloadN X1.here hx rfl (hb hby d1_4) rfl rfl k)) ?_
 obtain ⟨T2, h2, X2, e2, E2, A2, D2, -, st2⟩ := newO X1 hx hZ hown (ow hw 11 rfl) (ow hw 12 rfl) (ow hw 13 rfl) e1 (g := (mkF m 5 #[rv a1, iv (2 : Int32)] [(.ref a1)])) rfl (hb hby d1_5) (by decide) (by decide)
 obtain ⟨b2, g2⟩ : ∃ z, z = h0.size := ⟨_, rfl⟩
 rw [← g2] at A2 D2 st2
 have Zs3 : n0 ≤ h2.size := Nat.le_trans Z0 E2.1
 have F2_blocks : Fld Z h2 b2 cs1 "blocks" "[[I" .null := D2 (Or.inl (ow hw 21 rfl)) (ty := (.array (.array .int))) (by decide)
 have F2_size : Fld Z h2 b2 cs1 "size" "I" (.int (0 : Int32)) := D2 (Or.inl (ow hw 53 rfl)) (ty := .int) (by decide)
 refine own_go (b := (T2.setTop (mkF m 9 #[rv a1, iv (2 : Int32)] [(.ref b2), (.ref b2), (.ref a1)]))) (fun _ k => st2 _ (XS.dup X2.here hx rfl (hb hby d1_8) rfl rfl k)) ?_
 have gx5 : n0 ≤ b2 := Nat.le_trans Z0 (Nat.le_of_eq g2.symm)
 refine own_spec (W := 2) X2 hx hZ hown e2 (ow hw 14 rfl) (ow hw 15 rfl) (rm3 l Z a0 hw [] b2 .null (0 : Int32) h2 n0 Zs3 A2 F2_blocks F2_size gx5) (ow hw 16 rfl) (ow hw 13 rfl) rfl (by rw [hml]; rfl) rfl (hb hby d1_9) (lenOf pd___V rfl) rfl rfl (by decide) (fun T4 v4 Ll4 X4 hQ4 => ?_)
 obtain ⟨bl_4, kb_4, rfl, N4q, K4, P4_0, P4_1, P4_2, P4_3, P4_4⟩ := hQ4
 have N4 := Fr.app N0 N4q
 have Zs6 : n0 ≤ T4.heap.size := Nat.le_trans Zs3 K4.1
 have F7 := E_a1.ext E2
 have F8 := F7.keep K4
 have F9 := Fld_a1_keys.ext E2
 have nx10 : a1 ≠ b2 := (own_ne E_a1.lt (Nat.le_refl _) (Nat.le_of_eq g2.symm))
 have F11 := F9.keep K4 (ninS nx10 nin0)
 obtain ⟨T12, h12, X12, e12, W12, st12⟩ := putF X4 hx hZ hown (host := "") (Or.inl (ow hw 22 rfl)) Via.refl rfl F11 F8 (Or.inr ⟨(ow hw 23 rfl), rfl, hnm⟩) (ow hw 3 rfl) (ty := (.object cs1)) (by decide) rfl rfl (g := (mkF m 12 #[rv a1, iv (2 : Int32)] [(.ref b2), (.ref a1)])) rfl rfl (hb hby d1_12)
 have N12 := Fr.snoc X12 N4 g_a1
 have Zs13 : n0 ≤ h12.size := Nat.le_trans Zs6 (Keep.of_wr W12).1
 have F12 : Fld Z h12 a1 cs0 "keys" "Lcom/example/arcwright/arcwright/parser/IntBlocks;" (.ref b2) := F11.same W12
 refine own_go (b := (T12.setTop (mkF m 19 #[rv a1, iv (2 : Int32)] [(.int (3 : Int32)), (.ref a1)]))) (fun _ k => st12 _ (XS.aloadN X12.here hx rfl (hb hby d1_15) rfl rfl (XS.iloadN X12.here hx rfl (hb hby d1_16) rfl (XS.iconst X12.here hx rfl (hb hby d1_17) (XS.iadd X12.here hx rfl (hb hby d1_18) rfl k))))) ?_
 obtain ⟨T14, h14, kl14, X14, e14, E14, A14, st14⟩ := newP X12 hx hZ (ow hw 0 rfl) e12 (g := (mkF m 19 #[rv a1, iv (2 : Int32)] [(.int (3 : Int32)), (.ref a1)])) rfl (hb hby d1_19) rfl (by decide) (cap := 3) (by decide) (by decide) (by decide) (by decide)
 obtain ⟨b14, g14⟩ : ∃ z, z = h12.size := ⟨_, rfl⟩
 rw [← g14] at A14 st14
 have Zs15 : n0 ≤ h14.size := Nat.le_trans Zs13 E14.1
 have V14 : Arv Z h14 b14 kl14 .int (3 : Int32) [(.int (0 : Int32)), (.int (0 : Int32)), (.int (0 : Int32))] (.int (0 : Int32)) := (Arv.new A14 (by decide)).pad (pad_rep [] (.int (0 : Int32)) 3)
 refine own_go (b := (T14.setTop (mkF m 21 #[rv a1, iv (2 : Int32)] [(.ref b14), (.ref a1)]))) (fun _ k => st14 _ k) ?_
 have F16 := F8.wr W12
 have F17 := F16.ext E14
 have F18 := Fld_a1_keyStarts.ext E2
 have F19 := F18.keep K4 (ninS nx10 nin0)
 have F20 := F19.other W12 (Or.inr (slot_ne (Or.inl (ow hw 25 rfl)) (Or.inr (ow hw 23 rfl)) (by decide) (t := (.array .int)) (t' := (.object cs1)) (by decide) (by decide)))
 have F21 := F20.ext E14
 obtain ⟨T22, h22, X22, e22, W22, st22⟩ := putF X14 hx hZ hown (host := "") (Or.inl (ow hw 24 rfl)) Via.refl e14 F21 F17 (Or.inl (ow hw 25 rfl)) (ow hw 3 rfl) (ty := (.array .int)) (by decide) rfl rfl (g := (mkF m 21 #[rv a1, iv (2 : Int32)] [(.ref b14), (.ref a1)])) rfl rfl (hb hby d1_21)
 have N22 := Fr.snoc X22 N12 g_a1
 have Zs23 : n0 ≤ h22.size := Nat.le_trans Zs15 (Keep.of_wr W22).1
 have F22 : Fld Z h22 a1 cs0 "keyStarts" "[I" (.ref b14) := F21.same W22
 refine own_go (b := (T22.setTop (mkF m 24 #[rv a1, iv (2 : Int32)] []))) (fun _ k => st22 _ k) ?_
 have K24 := (Keep.refl h0 [a1]).ext E2
 have K25 := K24.trans K4 (allS (Or.inr (Nat.le_trans (Nat.le_refl _) (Nat.le_of_eq g2.symm))) all0)
 have K26 := K25.wr W12 (Or.inl (List.mem_of_getElem? (i := 0) rfl))
 have K27 := K26.ext E14
 have K28 := K27.wr W22 (Or.inl (List.mem_of_getElem? (i := 0) rfl))
 have F29 := F12.ext E14
 have F30 := F29.other W22 (Or.inr (slot_ne (Or.inr (ow hw 23 rfl)) (Or.inl (ow hw 25 rfl)) (by decide) (t := (.object cs1)) (t' := (.array .int)) (by decide) (by decide)))
 have F31 := Fld_a1_labelStarts.ext E2
 have F32 := F31.keep K4 (ninS nx10 nin0)
 have F33 := F32.other W12 (Or.inr (slot_ne (Or.inl (ow hw 32 rfl)) (Or.inr (ow hw 23 rfl)) (by decide) (t := (.array .int)) (t' := (.object cs1)) (by decide) (by decide)))
 have F34 := F33.ext E14
 have F35 := F34.other W22 (Or.inr (slot_ne (Or.inl (ow hw 32 rfl)) (Or.inl (ow hw 25 rfl)) (by decide) (t := (.array .int)) (t' := (.array .int)) (by decide) (by decide)))
 have F36 := Fld_a1_size.ext E2
 have F37 := F36.keep K4 (ninS nx10 nin0)
 have F38 := F37.other W12 (Or.inr (slot_ne (Or.inl (ow hw 34 rfl)) (Or.inr (ow hw 23 rfl)) (by decide) (t := .int) (t' := (.object cs1)) (by decide) (by decide)))
 have F39 := F38.ext E14
 have F40 := F39.other W22 (Or.inr (slot_ne (Or.inl (ow hw 34 rfl)) (Or.inl (ow hw 25 rfl)) (by decide) (t := .int) (t' := (.array .int)) (by decide) (by decide)))
 have F41 := A2.keep K4
 have F42 := F41.wr W12
 have F43 := F42.ext E14
 have F44 := F43.wr W22
 have F45 := P4_1.other W12 (Or.inl (Ne.symm nx10))
 have F46 := F45.ext E14
 have F47 := F46.other W22 (Or.inl (Ne.symm nx10))
 have F48 := P4_0.other W12 (Or.inl (Ne.symm nx10))
 have F49 := F48.ext E14
 have F50 := F49.other W22 (Or.inl (Ne.symm nx10))
 have nx51 : bl_4 ≠ a1 := (Ne.symm (own_ne E_a1.lt E2.1 P4_2))
 have F52 := P4_3.other W12 nx51
 have F53 := F52.ext E14
 have F54 := F53.other W22 nx51
 have nx55 : b14 ≠ a1 := (Ne.symm (own_ne E_a1.lt (own_tr (own_tr E2.1 K4.1) (Keep.of_wr W12).1) (Nat.le_of_eq g14.symm)))
 have F56 := V14.other W22 nx55
 have nx57 : b14 ≠ bl_4 := (Ne.symm (own_ne P4_3.lt (Keep.of_wr W12).1 (Nat.le_of_eq g14.symm)))
 obtain ⟨fs, hr, hrun, hended, hW, hsame⟩ := X22.leave (v := none) (fun _ => rfl)
 exact ⟨_, _, X22.returnOut hx Bd.returns (hb hby d1_24) hr, hrun, hended, _, _, rfl, (show Qrmft2 Z a1 u1 u2 h0 n0 _ T22.heap _ from (by rw [e22]; exact ⟨b2, b14, kl14, bl_4, kb_4, rfl, N22, K28, F30, F22, F35, F40, (Nat.le_trans (Nat.le_refl _) (Nat.le_of_eq g2.symm)), (Nat.le_trans (own_tr (own_tr E2.1 K4.1) (Keep.of_wr W12).1) (Nat.le_of_eq g14.symm)), (Nat.le_trans E2.1 P4_2), F44, F47, F50, F54, P4_4, F56, nx57⟩)), ⟨_, rfl⟩, hW, hsame.mono (by decide) (by decide)⟩
theorem ef_rmft3 (m : MethodId) (x0 : Addr) (x1 : Int32) : entryFrame m #[(.ref x0), (.int x1)] 2 = mkF m 0 #[rv x0, iv x1] [] := by first | (simp [entryFrame, mkF, argsToLocals, Value.category]; done) | rfl
def Qrmft3 (Z : State) (a1 : Addr) (u1 : Value) (u2 : Value) (h0 : Heap) (n0 : Nat) (v : Option Value) (h : Heap) (L : List Loc) : Prop := ∃ (ib : Addr) (ks : Addr) (kk : ClassId) (bl : Addr) (kb : ClassId), v = none ∧ Fr n0 L ∧ Keep h0 h [a1] ∧ (Fld Z h a1 cs0 "keys" "Lcom/example/arcwright/arcwright/parser/IntBlocks;" (.ref ib)) ∧ (Fld Z h a1 cs0 "keyStarts" "[I" (.ref ks)) ∧ (Fld Z h a1 cs0 "labelStarts" "[I" .null) ∧ (Fld Z h a1 cs0 "size" "I" (.int (0 : Int32))) ∧ (h0.size ≤ ib) ∧ (h0.size ≤ ks) ∧ (h0.size ≤ bl) ∧ (Exa Z h ib cs1) ∧ (Fld Z h ib cs1 "size" "I" (.int (0 : Int32))) ∧ (Fld Z h ib cs1 "blocks" "[[I" (.ref bl)) ∧ (Arv Z h bl kb (.array .int) (16 : Int32) own_n16 .null) ∧ (OvrA Z kb .int "[I") ∧ (Arv Z h ks kk .int (4 : Int32) [(.int (0 : Int32)), (.int (0 : Int32)), (.int (0 : Int32)), (.int (0 : Int32))] (.int (0 : Int32))) ∧ (ks ≠ bl)
set_option maxRecDepth 65536 in
set_option maxHeartbeats 40000000 in
theorem rmft3 (l : Launch) (Z : State) (a0 : Array Value) (hw : ∀ d ∈ tables_1, d.before a0 Z = true) (ws : List Jvm.Cond) (a1 : Addr) (u1 : Value) (u2 : Value) (h0 : Heap) (n0 : Nat) (Z0 : n0 ≤ h0.size) (E_a1 : Exa Z h0 a1 cs0) (Fld_a1_keys : Fld Z h0 a1 cs0 "keys" "Lcom/example/arcwright/arcwright/parser/IntBlocks;" u1) (Fld_a1_keyStarts : Fld Z h0 a1 cs0 "keyStarts" "[I" u2) (Fld_a1_labelStarts : Fld Z h0 a1 cs0 "labelStarts" "[I" .null) (Fld_a1_size : Fld Z h0 a1 cs0 "size" "I" (.int (0 : Int32))) (g_a1 : n0 ≤ a1) :
    MetFree l mn3 (head1 (Jvm.Cond.code mn3 prog_25_method_2_code 2 none :: ws) ({ frames := 2, cells := 3, slots := 22, locals := 26 } : Room)) (fun a U => a = #[(.ref a1), (.int (3 : Int32))] ∧ Z.Warmed39 U.vm ∧ U.heap = h0) (fun _ _ _ _ _ => True) (fun _ U o U' => ∃ v L, o = .returned v ∧ Qrmft3 Z a1 u1 u2 h0 n0 v U'.heap L ∧ FrameEnd U o U' L ({ frames := 2, cells := 3, slots := 22, locals := 26 } : Room).cells ({ frames := 2, cells := 3, slots := 22, locals := 26 } : Room).slots) := by
 refine MetFree.of_bodySF (plainFor_of_name pn_1) hisR ?_
 intro p e s m args below meth c s₁ Bd hml0 hP hK
 obtain ⟨rfl, hZ, hh⟩ := hP
 have hx := Bd.exec
 have hby := Bd.bytes
 have hml : c.maxLocals = 2 := hml0
 have hown : s.vm.findClass cs0 = some m.cls := findClass_of_methodNamed Bd.named
 have hnm := (name_of_methodNamed Bd.named Bd.method).1
 have X0 : Stand p l e ({ frames := 2, cells := 3, slots := 22, locals := 26 } : Room) s m #[(.ref a1), (.int (3 : Int32))] below meth c s₁ [] 0 0 := Stand.of_body Bd
 have e0 : s₁.heap = h0 := by rw [← hh, Bd.state]; rfl
 have N0 := Fr.nil n0
 refine own_go (b := (s₁.setTop (mkF m 0 #[rv a1, iv (3 : Int32)] []))) (fun _ k => castTop (ef_rmft3 m a1 (3 : Int32)) k) ?_
 refine own_go (b := (s₁.setTop (mkF m 1 #[rv a1, iv (3 : Int32)] [(.ref a1)]))) (fun _ k => XS.aloadN X0.here hx rfl (hb hby d1_0) rfl rfl k) ?_
 obtain ⟨T1, X1, e1, st1⟩ := initO X0 hx hZ hown (ow hw 8 rfl) (ow hw 9 rfl) (ow hw 10 rfl) e0 (g := (mkF m 1 #[rv a1, iv (3 : Int32)] [(.ref a1)])) rfl (by rw [hml]; rfl) rfl (hb hby d1_1) (by decide) (W := 0) (by show 2 * 0 + _ ≤ _; exact Nat.le_of_eq rfl) (by decide)
 refine own_go (b := (T1.setTop (mkF m 5 #[rv a1, iv (3 : Int32)] [(.ref a1)]))) (fun _ k => st1 _ (XS.aloadN X1.here hx rfl (hb hby d1_4) rfl rfl k)) ?_
 obtain ⟨T2, h2, X2, e2, E2, A2, D2, -, st2⟩ := newO X1 hx hZ hown (ow hw 11 rfl) (ow hw 12 rfl) (ow hw 13 rfl) e1 (g := (mkF m 5 #[rv a1, iv (3 : Int32)] [(.ref a1)])) rfl (hb hby d1_5) (by decide) (by decide)
 obtain ⟨b2, g2⟩ : ∃ z, z = h0.size := ⟨_, rfl⟩
 rw [← g2] at A2 D2 st2
 have Zs3 : n0 ≤ h2.size := Nat.le_trans Z0 E2.1
 have F2_blocks : Fld Z h2 b2 cs1 "blocks" "[[I" .null := D2 (Or.inl (ow hw 21 rfl)) (ty := (.array (.array .int))) (by decide)
 have F2_size : Fld Z h2 b2 cs1 "size" "I" (.int (0 : Int32)) := D2 (Or.inl (ow hw 53 rfl)) (ty := .int) (by decide)
 refine own_go (b := (T2.setTop (mkF m 9 #[rv a1, iv (3 : Int32)] [(.ref b2), (.ref b2), (.ref a1)]))) (fun _ k => st2 _ (XS.dup X2.here hx rfl (hb hby d1_8) rfl rfl k)) ?_
 have gx5 : n0 ≤ b2 := Nat.le_trans Z0 (Nat.le_of_eq g2.symm)
 refine own_spec (W := 2) X2 hx hZ hown e2 (ow hw 14 rfl) (ow hw 15 rfl) (rm3 l Z a0 hw [] b2 .null (0 : Int32) h2 n0 Zs3 A2 F2_blocks F2_size gx5) (ow hw 16 rfl) (ow hw 13 rfl) rfl (by rw [hml]; rfl) rfl (hb hby d1_9) (lenOf pd___V rfl) rfl rfl (by decide) (fun T4 v4 Ll4 X4 hQ4 => ?_)
 obtain ⟨bl_4, kb_4, rfl, N4q, K4, P4_0, P4_1, P4_2, P4_3, P4_4⟩ := hQ4
 have N4 := Fr.app N0 N4q
 have Zs6 : n0 ≤ T4.heap.size := Nat.le_trans Zs3 K4.1
 have F7 := E_a1.ext E2
 have F8 := F7.keep K4
 have F9 := Fld_a1_keys.ext E2
 have nx10 : a1 ≠ b2 := (own_ne E_a1.lt (Nat.le_refl _) (Nat.le_of_eq g2.symm))
 have F11 := F9.keep K4 (ninS nx10 nin0)
 obtain ⟨T12, h12, X12, e12, W12, st12⟩ := putF X4 hx hZ hown (host := "") (Or.inl (ow hw 22 rfl)) Via.refl rfl F11 F8 (Or.inr ⟨(ow hw 23 rfl), rfl, hnm⟩) (ow hw 3 rfl) (ty := (.object cs1)) (by decide) rfl rfl (g := (mkF m 12 #[rv a1, iv (3 : Int32)] [(.ref b2), (.ref a1)])) rfl rfl (hb hby d1_12)
 have N12 := Fr.snoc X12 N4 g_a1
 have Zs13 : n0 ≤ h12.size := Nat.le_trans Zs6 (Keep.of_wr W12).1
 have F12 : Fld Z h12 a1 cs0 "keys" "Lcom/example/arcwright/arcwright/parser/IntBlocks;" (.ref b2) := F11.same W12
 refine own_go (b := (T12.setTop (mkF m 19 #[rv a1, iv (3 : Int32)] [(.int (4 : Int32)), (.ref a1)]))) (fun _ k => st12 _ (XS.aloadN X12.here hx rfl (hb hby d1_15) rfl rfl (XS.iloadN X12.here hx rfl (hb hby d1_16) rfl (XS.iconst X12.here hx rfl (hb hby d1_17) (XS.iadd X12.here hx rfl (hb hby d1_18) rfl k))))) ?_
 obtain ⟨T14, h14, kl14, X14, e14, E14, A14, st14⟩ := newP X12 hx hZ (ow hw 0 rfl) e12 (g := (mkF m 19 #[rv a1, iv (3 : Int32)] [(.int (4 : Int32)), (.ref a1)])) rfl (hb hby d1_19) rfl (by decide) (cap := 4) (by decide) (by decide) (by decide) (by decide)
 obtain ⟨b14, g14⟩ : ∃ z, z = h12.size := ⟨_, rfl⟩
 rw [← g14] at A14 st14
 have Zs15 : n0 ≤ h14.size := Nat.le_trans Zs13 E14.1
 have V14 : Arv Z h14 b14 kl14 .int (4 : Int32) [(.int (0 : Int32)), (.int (0 : Int32)), (.int (0 : Int32)), (.int (0 : Int32))] (.int (0 : Int32)) := (Arv.new A14 (by decide)).pad (pad_rep [] (.int (0 : Int32)) 4)
 refine own_go (b := (T14.setTop (mkF m 21 #[rv a1, iv (3 : Int32)] [(.ref b14), (.ref a1)]))) (fun _ k => st14 _ k) ?_
 have F16 := F8.wr W12
 have F17 := F16.ext E14
 have F18 := Fld_a1_keyStarts.ext E2
 have F19 := F18.keep K4 (ninS nx10 nin0)
 have F20 := F19.other W12 (Or.inr (slot_ne (Or.inl (ow hw 25 rfl)) (Or.inr (ow hw 23 rfl)) (by decide) (t := (.array .int)) (t' := (.object cs1)) (by decide) (by decide)))
 have F21 := F20.ext E14
 obtain ⟨T22, h22, X22, e22, W22, st22⟩ := putF X14 hx hZ hown (host := "") (Or.inl (ow hw 24 rfl)) Via.refl e14 F21 F17 (Or.inl (ow hw 25 rfl)) (ow hw 3 rfl) (ty := (.array .int)) (by decide) rfl rfl (g := (mkF m 21 #[rv a1, iv (3 : Int32)] [(.ref b14), (.ref a1)])) rfl rfl (hb hby d1_21)
 have N22 := Fr.snoc X22 N12 g_a1
 have Zs23 : n0 ≤ h22.size := Nat.le_trans Zs15 (Keep.of_wr W22).1
 have F22 : Fld Z h22 a1 cs0 "keyStarts" "[I" (.ref b14) := F21.same W22
 refine own_go (b := (T22.setTop (mkF m 24 #[rv a1, iv (3 : Int32)] []))) (fun _ k => st22 _ k) ?_
 have K24 := (Keep.refl h0 [a1]).ext E2
 have K25 := K24.trans K4 (allS (Or.inr (Nat.le_trans (Nat.le_refl _) (Nat.le_of_eq g2.symm))) all0)
 have K26 := K25.wr W12 (Or.inl (List.mem_of_getElem? (i := 0) rfl))
 have K27 := K26.ext E14
 have K28 := K27.wr W22 (Or.inl (List.mem_of_getElem? (i := 0) rfl))
 have F29 := F12.ext E14
 have F30 := F29.other W22 (Or.inr (slot_ne (Or.inr (ow hw 23 rfl)) (Or.inl (ow hw 25 rfl)) (by decide) (t := (.object cs1)) (t' := (.array .int)) (by decide) (by decide)))
 have F31 := Fld_a1_labelStarts.ext E2
 have F32 := F31.keep K4 (ninS nx10 nin0)
 have F33 := F32.other W12 (Or.inr (slot_ne (Or.inl (ow hw 32 rfl)) (Or.inr (ow hw 23 rfl)) (by decide) (t := (.array .int)) (t' := (.object cs1)) (by decide) (by decide)))
 have F34 := F33.ext E14
 have F35 := F34.other W22 (Or.inr (slot_ne (Or.inl (ow hw 32 rfl)) (Or.inl (ow hw 25 rfl)) (by decide) (t := (.array .int)) (t' := (.array .int)) (by decide) (by decide)))
 have F36 := Fld_a1_size.ext E2
 have F37 := F36.keep K4 (ninS nx10 nin0)
 have F38 := F37.other W12 (Or.inr (slot_ne (Or.inl (ow hw 34 rfl)) (Or.inr (ow hw 23 rfl)) (by decide) (t := .int) (t' := (.object cs1)) (by decide) (by decide)))
 have F39 := F38.ext E14
 have F40 := F39.other W22 (Or.inr (slot_ne (Or.inl (ow hw 34 rfl)) (Or.inl (ow hw 25 rfl)) (by decide) (t := .int) (t' := (.array .int)) (by decide) (by decide)))
 have F41 := A2.keep K4
 have F42 := F41.wr W12
 have F43 := F42.ext E14
 have F44 := F43.wr W22
 have F45 := P4_1.other W12 (Or.inl (Ne.symm nx10))
 have F46 := F45.ext E14
 have F47 := F46.other W22 (Or.inl (Ne.symm nx10))
 have F48 := P4_0.other W12 (Or.inl (Ne.symm nx10))
 have F49 := F48.ext E14
 have F50 := F49.other W22 (Or.inl (Ne.symm nx10))
 have nx51 : bl_4 ≠ a1 := (Ne.symm (own_ne E_a1.lt E2.1 P4_2))
 have F52 := P4_3.other W12 nx51
 have F53 := F52.ext E14
 have F54 := F53.other W22 nx51
 have nx55 : b14 ≠ a1 := (Ne.symm (own_ne E_a1.lt (own_tr (own_tr E2.1 K4.1) (Keep.of_wr W12).1) (Nat.le_of_eq g14.symm)))
 have F56 := V14.other W22 nx55
 have nx57 : b14 ≠ bl_4 := (Ne.symm (own_ne P4_3.lt (Keep.of_wr W12).1 (Nat.le_of_eq g14.symm)))
 obtain ⟨fs, hr, hrun, hended, hW, hsame⟩ := X22.leave (v := none) (fun _ => rfl)
 exact ⟨_, _, X22.returnOut hx Bd.returns (hb hby d1_24) hr, hrun, hended, _, _, rfl, (show Qrmft3 Z a1 u1 u2 h0 n0 _ T22.heap _ from (by rw [e22]; exact ⟨b2, b14, kl14, bl_4, kb_4, rfl, N22, K28, F30, F22, F35, F40, (Nat.le_trans (Nat.le_refl _) (Nat.le_of_eq g2.symm)), (Nat.le_trans (own_tr (own_tr E2.1 K4.1) (Keep.of_wr W12).1) (Nat.le_of_eq g14.symm)), (Nat.le_trans E2.1 P4_2), F44, F47, F50, F54, P4_4, F56, nx57⟩)), ⟨_, rfl⟩, hW, hsame.mono (by decide) (by decide)⟩
theorem d6_0 : decode jdk_29_method_69_code 0 = .ok (.iload_n 0, 1) := by decide +kernel
theorem d6_1 : decode jdk_29_method_69_code 1 = .ok (.iload_n 1, 1) := by decide +kernel
theorem d6_2 : decode jdk_29_method_69_code 2 = .ok (.if_icmp .gt 7, 3) := by decide +kernel
theorem d6_5 : decode jdk_29_method_69_code 5 = .ok (.iload_n 0, 1) := by decide +kernel
theorem d6_6 : decode jdk_29_method_69_code 6 = .ok (.goto 4, 3) := by decide +kernel
theorem d6_9 : decode jdk_29_method_69_code 9 = .ok (.iload_n 1, 1) := by decide +kernel
theorem d6_10 : decode jdk_29_method_69_code 10 = .ok (.ireturn, 1) := by decide +kernel
theorem ef_rmminA (m : MethodId) (x0 : Int32) (x1 : Int32) : entryFrame m #[(.int x0), (.int x1)] 2 = mkF m 0 #[iv x0, iv x1] [] := by first | (simp [entryFrame, mkF, argsToLocals, Value.category]; done) | rfl
def QrmminA (Z : State) (p1 : Int32) (p2 : Int32) (h0 : Heap) (n0 : Nat) (v : Option Value) (h : Heap) (L : List Loc) : Prop := v = some (.int p1) ∧ Fr n0 L ∧ h = h0
set_option maxRecDepth 65536 in
set_option maxHeartbeats 40000000 in
theorem rmminA (l : Launch) (Z : State) (a0 : Array Value) (hw : ∀ d ∈ tables_1, d.before a0 Z = true) (ws : List Jvm.Cond) (p1 : Int32) (p2 : Int32) (h0 : Heap) (n0 : Nat) (Z0 : n0 ≤ h0.size) (hm : ¬ (p2 < p1)) :
    MetFree l (⟨"java/lang/Math", "min", "(II)I"⟩ : MethodName) (head1 (Jvm.Cond.code (⟨"java/lang/Math", "min", "(II)I"⟩ : MethodName) jdk_29_method_69_code 2 (some .int) :: ws) ({ frames := 0, cells := 0, slots := 0, locals := 0 } : Room)) (fun a U => a = #[(.int p1), (.int p2)] ∧ Z.Warmed39 U.vm ∧ U.heap = h0) (fun _ _ _ _ _ => True) (fun _ U o U' => ∃ v L, o = .returned v ∧ QrmminA Z p1 p2 h0 n0 v U'.heap L ∧ FrameEnd U o U' L ({ frames := 0, cells := 0, slots := 0, locals := 0 } : Room).cells ({ frames := 0, cells := 0, slots := 0, locals := 0 } : Room).slots) := by
 refine MetFree.of_bodySF (Jvm.Free.JP.mathPlain rfl (by decide +kernel)) hisR ?_
 intro p e s m args below meth c s₁ Bd hml0 hP hK
 obtain ⟨rfl, hZ, hh⟩ := hP
 have hx := Bd.exec
 have hby := Bd.bytes
 have hml : c.maxLocals = 2 := hml0
 have hown : s.vm.findClass "java/lang/Math" = some m.cls := findClass_of_methodNamed Bd.named
 have hnm := (name_of_methodNamed Bd.named Bd.method).1
 have X0 : Stand p l e ({ frames := 0, cells := 0, slots := 0, locals := 0 } : Room) s m #[(.int p1), (.int p2)] below meth c s₁ [] 0 0 := Stand.of_body Bd
 have e0 : s₁.heap = h0 := by rw [← hh, Bd.state]; rfl
 have N0 := Fr.nil n0
 refine own_go (b := (s₁.setTop (mkF m 0 #[iv p1, iv p2] []))) (fun _ k => castTop (ef_rmminA m p1 p2) k) ?_
 refine own_go (b := (s₁.setTop (mkF m 10 #[iv p1, iv p2] [(.int p1)]))) (fun _ k => XS.iloadN X0.here hx rfl (hb hby d6_0) rfl (XS.iloadN X0.here hx rfl (hb hby d6_1) rfl (XS.icmpNo X0.here hx rfl (hb hby d6_2) rfl (flt hm).2.2.1 (XS.iloadN X0.here hx rfl (hb hby d6_5) rfl (XS.goto X0.here hx rfl (pc0 := 6) (pc' := 10) rfl (hb hby d6_6) (by decide) (by decide) k))))) ?_
 obtain ⟨fs, hr, hrun, hended, hW, hsame⟩ := X0.leave (v := some (.int p1)) (fun h => by rw [Bd.returns] at h; cases h)
 exact ⟨_, _, retOut X0 hx Bd.returns rfl (Or.inl ⟨rfl, Or.inl rfl, _, rfl⟩) (hb hby d6_10) hr, hrun, hended, _, _, rfl, (show QrmminA Z p1 p2 h0 n0 _ s₁.heap _ from (by rw [e0]; exact ⟨rfl, N0, rfl⟩)), ⟨_, rfl⟩, hW, hsame.mono (by decide) (by decide)⟩
theorem d8_0 : decode prog_30_method_9_code 0 = .ok (.iload_n 1, 1) := by decide +kernel
theorem d8_1 : decode prog_30_method_9_code 1 = .ok (.aload_n 0, 1) := by decide +kernel
theorem d8_2 : decode prog_30_method_9_code 2 = .ok (.getfield 11, 3) := by decide +kernel
theorem d8_5 : decode prog_30_method_9_code 5 = .ok (.arraylength, 1) := by decide +kernel
theorem d8_6 : decode prog_30_method_9_code 6 = .ok (.if_icmp .ne 24, 3) := by decide +kernel
theorem d8_9 : decode prog_30_method_9_code 9 = .ok (.aload_n 0, 1) := by decide +kernel
theorem d8_10 : decode prog_30_method_9_code 10 = .ok (.aload_n 0, 1) := by decide +kernel
theorem d8_11 : decode prog_30_method_9_code 11 = .ok (.getfield 11, 3) := by decide +kernel
theorem d8_14 : decode prog_30_method_9_code 14 = .ok (.iconst 2, 1) := by decide +kernel
theorem d8_15 : decode prog_30_method_9_code 15 = .ok (.aload_n 0, 1) := by decide +kernel
theorem d8_16 : decode prog_30_method_9_code 16 = .ok (.getfield 11, 3) := by decide +kernel
theorem d8_19 : decode prog_30_method_9_code 19 = .ok (.arraylength, 1) := by decide +kernel
theorem d8_20 : decode prog_30_method_9_code 20 = .ok (.imul, 1) := by decide +kernel
theorem d8_21 : decode prog_30_method_9_code 21 = .ok (.invokestatic 41, 3) := by decide +kernel
theorem d8_24 : decode prog_30_method_9_code 24 = .ok (.checkcast 47, 3) := by decide +kernel
theorem d8_27 : decode prog_30_method_9_code 27 = .ok (.putfield 11, 3) := by decide +kernel
theorem d8_30 : decode prog_30_method_9_code 30 = .ok (.aload_n 0, 1) := by decide +kernel
theorem d8_31 : decode prog_30_method_9_code 31 = .ok (.getfield 11, 3) := by decide +kernel
theorem d8_34 : decode prog_30_method_9_code 34 = .ok (.iload_n 1, 1) := by decide +kernel
theorem d8_35 : decode prog_30_method_9_code 35 = .ok (.ldc 20, 2) := by decide +kernel
theorem d8_37 : decode prog_30_method_9_code 37 = .ok (.newarray .int, 2) := by decide +kernel
theorem d8_39 : decode prog_30_method_9_code 39 = .ok (.aastore, 1) := by decide +kernel
theorem d8_40 : decode prog_30_method_9_code 40 = .ok (.return_, 1) := by decide +kernel
theorem pn_8 : plainName cs1 = true := by first | (simp [plainName, overriddenIn]; done) | decide +kernel
theorem ef_rmnb (m : MethodId) (x0 : Addr) (x1 : Int32) : entryFrame m #[(.ref x0), (.int x1)] 2 = mkF m 0 #[rv x0, iv x1] [] := by first | (simp [entryFrame, mkF, argsToLocals, Value.category]; done) | rfl
def Qrmnb (Z : State) (a1 : Addr) (bl : Addr) (kb : ClassId) (h0 : Heap) (n0 : Nat) (v : Option Value) (h : Heap) (L : List Loc) : Prop := ∃ (cn : Addr) (kn : ClassId), v = none ∧ Fr n0 L ∧ Keep h0 h [bl] ∧ (h0.size ≤ cn) ∧ (Arv Z h cn kn .int (65536 : Int32) [] (.int (0 : Int32))) ∧ (Arv Z h bl kb (.array .int) (16 : Int32) ((.ref cn) :: own_n15) .null)
set_option maxRecDepth 65536 in
set_option maxHeartbeats 40000000 in
theorem rmnb (l : Launch) (Z : State) (a0 : Array Value) (hw : ∀ d ∈ tables_1, d.before a0 Z = true) (ws : List Jvm.Cond) (a1 : Addr) (bl : Addr) (kb : ClassId) (h0 : Heap) (n0 : Nat) (Z0 : n0 ≤ h0.size) (E_a1 : Exa Z h0 a1 cs1) (Fld_a1_blocks : Fld Z h0 a1 cs1 "blocks" "[[I" (.ref bl)) (V_bl : Arv Z h0 bl kb (.array .int) (16 : Int32) own_n16 .null) (Ov_bl : OvrA Z kb .int "[I") (g_bl : n0 ≤ bl) :
    MetFree l mn5 (head1 (Jvm.Cond.code mn5 prog_30_method_9_code 2 none :: ws) ({ frames := 0, cells := 1, slots := 65536, locals := 0 } : Room)) (fun a U => a = #[(.ref a1), (.int (0 : Int32))] ∧ Z.Warmed39 U.vm ∧ U.heap = h0) (fun _ _ _ _ _ => True) (fun _ U o U' => ∃ v L, o = .returned v ∧ Qrmnb Z a1 bl kb h0 n0 v U'.heap L ∧ FrameEnd U o U' L ({ frames := 0, cells := 1, slots := 65536, locals := 0 } : Room).cells ({ frames := 0, cells := 1, slots := 65536, locals := 0 } : Room).slots) := by
 refine MetFree.of_bodySF (plainFor_of_name pn_8) hisR ?_
 intro p e s m args below meth c s₁ Bd hml0 hP hK
 obtain ⟨rfl, hZ, hh⟩ := hP
 have hx := Bd.exec
 have hby := Bd.bytes
 have hml : c.maxLocals = 2 := hml0
 have hown : s.vm.findClass cs1 = some m.cls := findClass_of_methodNamed Bd.named
 have hnm := (name_of_methodNamed Bd.named Bd.method).1
 have X0 : Stand p l e ({ frames := 0, cells := 1, slots := 65536, locals := 0 } : Room) s m #[(.ref a1), (.int (0 : Int32))] below meth c s₁ [] 0 0 := Stand.of_body Bd
 have e0 : s₁.heap = h0 := by rw [← hh, Bd.state]; rfl
 have N0 := Fr.nil n0
 refine own_go (b := (s₁.setTop (mkF m 0 #[rv a1, iv (0 : Int32)] []))) (fun _ k => castTop (ef_rmnb m a1 (0 : Int32)) k) ?_
 refine own_go (b := (s₁.setTop (mkF m 2 #[rv a1, iv (0 : Int32)] [(.ref a1), (.int (0 : Int32))]))) (fun _ k => XS.iloadN X0.here hx rfl (hb hby d8_0) rfl (XS.aloadN X0.here hx rfl (hb hby d8_1) rfl rfl k)) ?_
 refine own_getf X0 hx hZ hown (ow hw 20 rfl) Via.refl e0 Fld_a1_blocks rfl rfl (hb hby d8_2) (fun T1 X1 e1 => ?_)
 obtain ⟨cl2, Ar2, -, Sz2, Nn2, -, -⟩ := id V_bl
 refine own_go (b := (T1.setTop (mkF m 31 #[rv a1, iv (0 : Int32)] [(.ref a1)]))) (fun _ k => X1.arraylength hx (by rw [e1]; exact Ar2.1) (State.isArrayOf_alike hZ.alike Ar2.2.1) (g := (mkF m 5 #[rv a1, iv (0 : Int32)] [(.ref bl), (.int (0 : Int32))])) rfl rfl (hb hby d8_5) _ (by rw [len_of Sz2 Nn2]; exact (XS.icmpYes X1.here hx rfl (pc0 := 6) (pc' := 30) rfl (hb hby d8_6) rfl (feq (by decide : ¬ ((0 : Int32) = (16 : Int32)))).2 (by decide) (by decide) (XS.aloadN X1.here hx rfl (hb hby d8_30) rfl rfl k)))) ?_
 refine own_getf X1 hx hZ hown (ow hw 20 rfl) Via.refl e1 Fld_a1_blocks rfl rfl (hb hby d8_31) (fun T3 X3 e3 => ?_)
 refine own_go (b := (T3.setTop (mkF m 37 #[rv a1, iv (0 : Int32)] [(.int (65536 : Int32)), (.int (0 : Int32)), (.ref bl)]))) (fun _ k => XS.iloadN X3.here hx rfl (hb hby d8_34) rfl (X3.ldcInt hx hown (mvT hZ (ow hw 59 rfl)) (g := (mkF m 35 #[rv a1, iv (0 : Int32)] [(.int (0 : Int32)), (.ref bl)])) rfl (hb hby d8_35) _ k)) ?_
 obtain ⟨T4, h4, kl4, X4, e4, E4, A4, Ex4, st4⟩ := newPE X3 hx hZ (ow hw 0 rfl) e3 (g := (mkF m 37 #[rv a1, iv (0 : Int32)] [(.int (65536 : Int32)), (.int (0 : Int32)), (.ref bl)])) rfl (hb hby d8_37) rfl (by decide) (cap := 65536) (by decide) (by decide) (by decide) (by decide) (ad := "[I") (by decide)
 obtain ⟨b4, g4⟩ : ∃ z, z = h0.size := ⟨_, rfl⟩
 rw [← g4] at A4 Ex4 st4
 have Zs5 : n0 ≤ h4.size := Nat.le_trans Z0 E4.1
 have V4 : Arv Z h4 b4 kl4 .int (65536 : Int32) [] (.int (0 : Int32)) := Arv.new A4 (by decide)
 refine own_go (b := (T4.setTop (mkF m 39 #[rv a1, iv (0 : Int32)] [(.ref b4), (.int (0 : Int32)), (.ref bl)]))) (fun _ k => st4 _ k) ?_
 have F7 := V_bl.ext E4
 obtain ⟨cl6, Ar6, ql6, Sz6, Nn6, Hl6, Gl6⟩ := id F7
 have hin6 : ¬ ((0 : Int32) < 0 ∨ cl6.slots.size ≤ ((0 : Int32)).toNatClampNeg) := inb_of Sz6 ⟨by decide, by decide⟩
 obtain ⟨T6, h6, X6, e6, W6, st6⟩ := stR X4 hx hZ e4 Ar6 (j := (0 : Int32)) hin6 rfl (Sto.ofVA Ar6 ql6 Ov_bl (Ins.self Ex4)) (g := (mkF m 39 #[rv a1, iv (0 : Int32)] [(.ref b4), (.int (0 : Int32)), (.ref bl)])) rfl rfl (hb hby d8_39)
 have N6 := Fr.snoc X6 N0 g_bl
 have Zs8 : n0 ≤ h6.size := Nat.le_trans Zs5 (Keep.of_wr W6).1
 have V6 : Arv Z h6 bl kb (.array .int) (16 : Int32) ((.ref b4) :: own_n15) .null := Arv.set Ar6 ql6 Sz6 Nn6 Hl6 Gl6 rfl W6 0 rfl (Nat.le_of_ble_eq_true rfl)
 refine own_go (b := (T6.setTop (mkF m 40 #[rv a1, iv (0 : Int32)] []))) (fun _ k => st6 _ k) ?_
 have K9 := (Keep.refl h0 [bl]).ext E4
 have K10 := K9.wr W6 (Or.inl (List.mem_of_getElem? (i := 0) rfl))
 have nx11 : b4 ≠ bl := (Ne.symm (own_ne V_bl.lt (Nat.le_refl _) (Nat.le_of_eq g4.symm)))
 have F12 := V4.other W6 nx11
 obtain ⟨fs, hr, hrun, hended, hW, hsame⟩ := X6.leave (v := none) (fun _ => rfl)
 exact ⟨_, _, X6.returnOut hx Bd.returns (hb hby d8_40) hr, hrun, hended, _, _, rfl, (show Qrmnb Z a1 bl kb h0 n0 _ T6.heap _ from (by rw [e6]; exact ⟨b4, kl4, rfl, N6, K10, (Nat.le_trans (Nat.le_refl _) (Nat.le_of_eq g4.symm)), F12, V6⟩)), ⟨_, rfl⟩, hW, hsame.mono (by decide) (by decide)⟩
theorem d9_0 : decode prog_30_method_2_code 0 = .ok (.aload_n 0, 1) := by decide +kernel
theorem d9_1 : decode prog_30_method_2_code 1 = .ok (.getfield 15, 3) := by decide +kernel
theorem d9_4 : decode prog_30_method_2_code 4 = .ok (.ireturn, 1) := by decide +kernel
theorem pn_9 : plainName cs1 = true := by first | (simp [plainName, overriddenIn]; done) | decide +kernel
theorem ef_rm9 (m : MethodId) (x0 : Addr) : entryFrame m #[(.ref x0)] 1 = mkF m 0 #[rv x0] [] := by first | (simp [entryFrame, mkF, argsToLocals, Value.category]; done) | rfl
def Qrm9 (Z : State) (a1 : Addr) (x2 : Int32) (h0 : Heap) (n0 : Nat) (v : Option Value) (h : Heap) (L : List Loc) : Prop := v = some (.int x2) ∧ Fr n0 L ∧ h = h0
set_option maxRecDepth 65536 in
set_option maxHeartbeats 40000000 in
theorem rm9 (l : Launch) (Z : State) (a0 : Array Value) (hw : ∀ d ∈ tables_1, d.before a0 Z = true) (ws : List Jvm.Cond) (a1 : Addr) (x2 : Int32) (h0 : Heap) (n0 : Nat) (Z0 : n0 ≤ h0.size) (Fld_a1_size : Fld Z h0 a1 cs1 "size" "I" (.int x2)) :
    MetFree l (⟨cs1, "size", "()I"⟩ : MethodName) (head1 (Jvm.Cond.code (⟨cs1, "size", "()I"⟩ : MethodName) prog_30_method_2_code 1 (some .int) :: ws) ({ frames := 0, cells := 0, slots := 0, locals := 0 } : Room)) (fun a U => a = #[(.ref a1)] ∧ Z.Warmed39 U.vm ∧ U.heap = h0) (fun _ _ _ _ _ => True) (fun _ U o U' => ∃ v L, o = .returned v ∧ Qrm9 Z a1 x2 h0 n0 v U'.heap L ∧ FrameEnd U o U' L ({ frames := 0, cells := 0, slots := 0, locals := 0 } : Room).cells ({ frames := 0, cells := 0, slots := 0, locals := 0 } : Room).slots) := by
 refine MetFree.of_bodySF (plainFor_of_name pn_9) hisR ?_
 intro p e s m args below meth c s₁ Bd hml0 hP hK
 obtain ⟨rfl, hZ, hh⟩ := hP
 have hx := Bd.exec
 have hby := Bd.bytes
 have hml : c.maxLocals = 1 := hml0
 have hown : s.vm.findClass cs1 = some m.cls := findClass_of_methodNamed Bd.named
 have hnm := (name_of_methodNamed Bd.named Bd.method).1
 have X0 : Stand p l e ({ frames := 0, cells := 0, slots := 0, locals := 0 } : Room) s m #[(.ref a1)] below meth c s₁ [] 0 0 := Stand.of_body Bd
 have e0 : s₁.heap = h0 := by rw [← hh, Bd.state]; rfl
 have N0 := Fr.nil n0
 refine own_go (b := (s₁.setTop (mkF m 0 #[rv a1] []))) (fun _ k => castTop (ef_rm9 m a1) k) ?_
 refine own_go (b := (s₁.setTop (mkF m 1 #[rv a1] [(.ref a1)]))) (fun _ k => XS.aloadN X0.here hx rfl (hb hby d9_0) rfl rfl k) ?_
 refine own_getf X0 hx hZ hown (ow hw 52 rfl) Via.refl e0 Fld_a1_size rfl rfl (hb hby d9_1) (fun T1 X1 e1 => ?_)
 obtain ⟨fs, hr, hrun, hended, hW, hsame⟩ := X1.leave (v := some (.int x2)) (fun h => by rw [Bd.returns] at h; cases h)
 exact ⟨_, _, retOut X1 hx Bd.returns rfl (Or.inl ⟨rfl, Or.inl rfl, _, rfl⟩) (hb hby d9_4) hr, hrun, hended, _, _, rfl, (show Qrm9 Z a1 x2 h0 n0 _ T1.heap _ from (by rw [e1]; exact ⟨rfl, N0, rfl⟩)), ⟨_, rfl⟩, hW, hsame.mono (by decide) (by decide)⟩
theorem d7_0 : decode prog_30_method_7_code 0 = .ok (.iload_n 2, 1) := by decide +kernel
theorem d7_1 : decode prog_30_method_7_code 1 = .ok (.iload_n 3, 1) := by decide +kernel
theorem d7_2 : decode prog_30_method_7_code 2 = .ok (.if_icmp .ge 80, 3) := by decide +kernel
theorem d7_5 : decode prog_30_method_7_code 5 = .ok (.aload_n 0, 1) := by decide +kernel
theorem d7_6 : decode prog_30_method_7_code 6 = .ok (.getfield 15, 3) := by decide +kernel
theorem d7_9 : decode prog_30_method_7_code 9 = .ok (.bipush 16, 2) := by decide +kernel
theorem d7_11 : decode prog_30_method_7_code 11 = .ok (.iushr, 1) := by decide +kernel
theorem d7_12 : decode prog_30_method_7_code 12 = .ok (.istore 4, 2) := by decide +kernel
theorem d7_14 : decode prog_30_method_7_code 14 = .ok (.aload_n 0, 1) := by decide +kernel
theorem d7_15 : decode prog_30_method_7_code 15 = .ok (.getfield 15, 3) := by decide +kernel
theorem d7_18 : decode prog_30_method_7_code 18 = .ok (.ldc 19, 2) := by decide +kernel
theorem d7_20 : decode prog_30_method_7_code 20 = .ok (.iand, 1) := by decide +kernel
theorem d7_21 : decode prog_30_method_7_code 21 = .ok (.istore 5, 2) := by decide +kernel
theorem d7_23 : decode prog_30_method_7_code 23 = .ok (.iload 5, 2) := by decide +kernel
theorem d7_25 : decode prog_30_method_7_code 25 = .ok (.ifCond .ne 9, 3) := by decide +kernel
theorem d7_28 : decode prog_30_method_7_code 28 = .ok (.aload_n 0, 1) := by decide +kernel
theorem d7_29 : decode prog_30_method_7_code 29 = .ok (.iload 4, 2) := by decide +kernel
theorem d7_31 : decode prog_30_method_7_code 31 = .ok (.invokevirtual 25, 3) := by decide +kernel
theorem d7_34 : decode prog_30_method_7_code 34 = .ok (.iload_n 3, 1) := by decide +kernel
theorem d7_35 : decode prog_30_method_7_code 35 = .ok (.iload_n 2, 1) := by decide +kernel
theorem d7_36 : decode prog_30_method_7_code 36 = .ok (.isub, 1) := by decide +kernel
theorem d7_37 : decode prog_30_method_7_code 37 = .ok (.ldc 20, 2) := by decide +kernel
theorem d7_39 : decode prog_30_method_7_code 39 = .ok (.iload 5, 2) := by decide +kernel
theorem d7_41 : decode prog_30_method_7_code 41 = .ok (.isub, 1) := by decide +kernel
theorem d7_42 : decode prog_30_method_7_code 42 = .ok (.invokestatic 29, 3) := by decide +kernel
theorem d7_45 : decode prog_30_method_7_code 45 = .ok (.istore 6, 2) := by decide +kernel
theorem d7_47 : decode prog_30_method_7_code 47 = .ok (.aload_n 1, 1) := by decide +kernel
theorem d7_48 : decode prog_30_method_7_code 48 = .ok (.iload_n 2, 1) := by decide +kernel
theorem d7_49 : decode prog_30_method_7_code 49 = .ok (.aload_n 0, 1) := by decide +kernel
theorem d7_50 : decode prog_30_method_7_code 50 = .ok (.getfield 11, 3) := by decide +kernel
theorem d7_53 : decode prog_30_method_7_code 53 = .ok (.iload 4, 2) := by decide +kernel
theorem d7_55 : decode prog_30_method_7_code 55 = .ok (.aaload, 1) := by decide +kernel
theorem d7_56 : decode prog_30_method_7_code 56 = .ok (.iload 5, 2) := by decide +kernel
theorem d7_58 : decode prog_30_method_7_code 58 = .ok (.iload 6, 2) := by decide +kernel
theorem d7_60 : decode prog_30_method_7_code 60 = .ok (.invokestatic 35, 3) := by decide +kernel
theorem d7_63 : decode prog_30_method_7_code 63 = .ok (.iload_n 2, 1) := by decide +kernel
theorem d7_64 : decode prog_30_method_7_code 64 = .ok (.iload 6, 2) := by decide +kernel
theorem d7_66 : decode prog_30_method_7_code 66 = .ok (.iadd, 1) := by decide +kernel
theorem d7_67 : decode prog_30_method_7_code 67 = .ok (.istore_n 2, 1) := by decide +kernel
theorem d7_68 : decode prog_30_method_7_code 68 = .ok (.aload_n 0, 1) := by decide +kernel
theorem d7_69 : decode prog_30_method_7_code 69 = .ok (.dup, 1) := by decide +kernel
theorem d7_70 : decode prog_30_method_7_code 70 = .ok (.getfield 15, 3) := by decide +kernel
theorem d7_73 : decode prog_30_method_7_code 73 = .ok (.iload 6, 2) := by decide +kernel
theorem d7_75 : decode prog_30_method_7_code 75 = .ok (.iadd, 1) := by decide +kernel
theorem d7_76 : decode prog_30_method_7_code 76 = .ok (.putfield 15, 3) := by decide +kernel
theorem d7_79 : decode prog_30_method_7_code 79 = .ok (.goto (-79), 3) := by decide +kernel
theorem d7_82 : decode prog_30_method_7_code 82 = .ok (.return_, 1) := by decide +kernel
theorem pn_7 : plainName cs1 = true := by first | (simp [plainName, overriddenIn]; done) | decide +kernel
theorem ef_rmadd0 (m : MethodId) (x0 : Addr) (x1 : Addr) (x2 : Int32) (x3 : Int32) : entryFrame m #[(.ref x0), (.ref x1), (.int x2), (.int x3)] 7 = mkF m 0 #[rv x0, rv x1, iv x2, iv x3, .unset, .unset, .unset] [] := by first | (simp [entryFrame, mkF, argsToLocals, Value.category]; done) | rfl
def Qrmadd0 (Z : State) (a1 : Addr) (a2 : Addr) (h0 : Heap) (n0 : Nat) (v : Option Value) (h : Heap) (L : List Loc) : Prop := v = none ∧ Fr n0 L ∧ h = h0
set_option maxRecDepth 65536 in
set_option maxHeartbeats 40000000 in
theorem rmadd0 (l : Launch) (Z : State) (a0 : Array Value) (hw : ∀ d ∈ tables_1, d.before a0 Z = true) (ws : List Jvm.Cond) (a1 : Addr) (a2 : Addr) (h0 : Heap) (n0 : Nat) (Z0 : n0 ≤ h0.size) :
    MetFree l mn4 (head1 (Jvm.Cond.code mn4 prog_30_method_7_code 7 none :: ws) ({ frames := 0, cells := 0, slots := 0, locals := 0 } : Room)) (fun a U => a = #[(.ref a1), (.ref a2), (.int (0 : Int32)), (.int (0 : Int32))] ∧ Z.Warmed39 U.vm ∧ U.heap = h0) (fun _ _ _ _ _ => True) (fun _ U o U' => ∃ v L, o = .returned v ∧ Qrmadd0 Z a1 a2 h0 n0 v U'.heap L ∧ FrameEnd U o U' L ({ frames := 0, cells := 0, slots := 0, locals := 0 } : Room).cells ({ frames := 0, cells := 0, slots := 0, locals := 0 } : Room).slots) := by
 refine MetFree.of_bodySF (plainFor_of_name pn_7) hisR ?_
 intro p e s m args below meth c s₁ Bd hml0 hP hK
 obtain ⟨rfl, hZ, hh⟩ := hP
 have hx := Bd.exec
 have hby := Bd.bytes
 have hml : c.maxLocals = 7 := hml0
 have hown : s.vm.findClass cs1 = some m.cls := findClass_of_methodNamed Bd.named
 have hnm := (name_of_methodNamed Bd.named Bd.method).1
 have X0 : Stand p l e ({ frames := 0, cells := 0, slots := 0, locals := 0 } : Room) s m #[(.ref a1), (.ref a2), (.int (0 : Int32)), (.int (0 : Int32))] below meth c s₁ [] 0 0 := Stand.of_body Bd
 have e0 : s₁.heap = h0 := by rw [← hh, Bd.state]; rfl
 have N0 := Fr.nil n0
 refine own_go (b := (s₁.setTop (mkF m 0 #[rv a1, rv a2, iv (0 : Int32), iv (0 : Int32), .unset, .unset, .unset] []))) (fun _ k => castTop (ef_rmadd0 m a1 a2 (0 : Int32) (0 : Int32)) k) ?_
 refine own_go (b := (s₁.setTop (mkF m 82 #[rv a1, rv a2, iv (0 : Int32), iv (0 : Int32), .unset, .unset, .unset] []))) (fun _ k => XS.iloadN X0.here hx rfl (hb hby d7_0) rfl (XS.iloadN X0.here hx rfl (hb hby d7_1) rfl (XS.icmpYes X0.here hx rfl (pc0 := 2) (pc' := 82) rfl (hb hby d7_2) rfl (flt (by decide : ¬ ((0 : Int32) < (0 : Int32)))).2.1 (by decide) (by decide) k))) ?_
 obtain ⟨fs, hr, hrun, hended, hW, hsame⟩ := X0.leave (v := none) (fun _ => rfl)
 exact ⟨_, _, X0.returnOut hx Bd.returns (hb hby d7_82) hr, hrun, hended, _, _, rfl, (show Qrmadd0 Z a1 a2 h0 n0 _ s₁.heap _ from (by rw [e0]; exact ⟨rfl, N0, rfl⟩)), ⟨_, rfl⟩, hW, hsame.mono (by decide) (by decide)⟩
theorem pd__I_V : parseMethodDescriptor "(I)V" = some ⟨[.int], none⟩ := by decide +kernel
theorem pd__II_I : parseMethodDescriptor "(II)I" = some ⟨[.int, .int], some .int⟩ := by decide +kernel
theorem ef_rmaddE (m : MethodId) (x0 : Addr) (x1 : Addr) (x2 : Int32) (x3 : Int32) : entryFrame m #[(.ref x0), (.ref x1), (.int x2), (.int x3)] 7 = mkF m 0 #[rv x0, rv x1, iv x2, iv x3, .unset, .unset, .unset] [] := by first | (simp [entryFrame, mkF, argsToLocals, Value.category]; done) | rfl
def QrmaddE (Z : State) (a1 : Addr) (a2 : Addr) (k2 : ClassId) (y0 : Int32) (y1 : Int32) (y2 : Int32) (p4 : Int32) (bl : Addr) (kb : ClassId) (h0 : Heap) (n0 : Nat) (v : Option Value) (h : Heap) (L : List Loc) : Prop := ∃ (cn : Addr) (kn : ClassId) (vsn : List Value), v = none ∧ Fr n0 L ∧ Keep h0 h [a1, bl] ∧ (Fld Z h a1 cs1 "size" "I" (.int p4)) ∧ (Fld Z h a1 cs1 "blocks" "[[I" (.ref bl)) ∧ (h0.size ≤ cn) ∧ (Arv Z h bl kb (.array .int) (16 : Int32) ((.ref cn) :: own_n15) .null) ∧ (Arv Z h cn kn .int (65536 : Int32) vsn (.int (0 : Int32))) ∧ (16 ≤ vsn.length)
set_option maxRecDepth 65536 in
set_option maxHeartbeats 40000000 in
theorem rmaddE (l : Launch) (Z : State) (a0 : Array Value) (hw : ∀ d ∈ tables_1, d.before a0 Z = true) (ws : List Jvm.Cond) (a1 : Addr) (a2 : Addr) (k2 : ClassId) (y0 : Int32) (y1 : Int32) (y2 : Int32) (p4 : Int32) (bl : Addr) (kb : ClassId) (h0 : Heap) (n0 : Nat) (Z0 : n0 ≤ h0.size) (E_a1 : Exa Z h0 a1 cs1) (Fld_a1_size : Fld Z h0 a1 cs1 "size" "I" (.int (0 : Int32))) (Fld_a1_blocks : Fld Z h0 a1 cs1 "blocks" "[[I" (.ref bl)) (V_bl : Arv Z h0 bl kb (.array .int) (16 : Int32) own_n16 .null) (Ov_bl : OvrA Z kb .int "[I") (g_a1 : n0 ≤ a1) (g_bl : n0 ≤ bl) (V_a2 : Arv Z h0 a2 k2 .int (3 : Int32) [(.int y0), (.int y1), (.int y2)] (.int (0 : Int32))) (ne_a2_bl : a2 ≠ bl) (hn0 : (0 : Int32) < p4) (hn3 : ¬ ((3 : Int32) < p4)) :
    MetFree l mn4 (head1 (Jvm.Cond.code mn4 prog_30_method_7_code 7 none :: ws) ({ frames := 1, cells := 1, slots := 65536, locals := 40 } : Room)) (fun a U => a = #[(.ref a1), (.ref a2), (.int (0 : Int32)), (.int p4)] ∧ Z.Warmed39 U.vm ∧ U.heap = h0) (fun _ _ _ _ _ => True) (fun _ U o U' => ∃ v L, o = .returned v ∧ QrmaddE Z a1 a2 k2 y0 y1 y2 p4 bl kb h0 n0 v U'.heap L ∧ FrameEnd U o U' L ({ frames := 1, cells := 1, slots := 65536, locals := 40 } : Room).cells ({ frames := 1, cells := 1, slots := 65536, locals := 40 } : Room).slots) := by
 refine MetFree.of_bodySF (plainFor_of_name pn_7) hisR ?_
 intro p e s m args below meth c s₁ Bd hml0 hP hK
 obtain ⟨rfl, hZ, hh⟩ := hP
 have hx := Bd.exec
 have hby := Bd.bytes
 have hml : c.maxLocals = 7 := hml0
 have hown : s.vm.findClass cs1 = some m.cls := findClass_of_methodNamed Bd.named
 have hnm := (name_of_methodNamed Bd.named Bd.method).1
 have X0 : Stand p l e ({ frames := 1, cells := 1, slots := 65536, locals := 40 } : Room) s m #[(.ref a1), (.ref a2), (.int (0 : Int32)), (.int p4)] below meth c s₁ [] 0 0 := Stand.of_body Bd
 have e0 : s₁.heap = h0 := by rw [← hh, Bd.state]; rfl
 have N0 := Fr.nil n0
 refine own_go (b := (s₁.setTop (mkF m 0 #[rv a1, rv a2, iv (0 : Int32), iv p4, .unset, .unset, .unset] []))) (fun _ k => castTop (ef_rmaddE m a1 a2 (0 : Int32) p4) k) ?_
 refine own_go (b := (s₁.setTop (mkF m 6 #[rv a1, rv a2, iv (0 : Int32), iv p4, .unset, .unset, .unset] [(.ref a1)]))) (fun _ k => XS.iloadN X0.here hx rfl (hb hby d7_0) rfl (XS.iloadN X0.here hx rfl (hb hby d7_1) rfl (XS.icmpNo X0.here hx rfl (hb hby d7_2) rfl (tlt hn0).2.1 (XS.aloadN X0.here hx rfl (hb hby d7_5) rfl rfl k)))) ?_
 refine own_getf X0 hx hZ hown (ow hw 52 rfl) Via.refl e0 Fld_a1_size rfl rfl (hb hby d7_6) (fun T1 X1 e1 => ?_)
 refine own_go (b := (T1.setTop (mkF m 15 #[rv a1, rv a2, iv (0 : Int32), iv p4, iv (0 : Int32), .unset, .unset] [(.ref a1)]))) (fun _ k => XS.bipush X1.here hx rfl (hb hby d7_9) (XS.iushr X1.here hx rfl (hb hby d7_11) rfl (XS.istore X1.here hx rfl (hb hby d7_12) rfl (l' := #[rv a1, rv a2, iv (0 : Int32), iv p4, iv (0 : Int32), .unset, .unset]) rfl (XS.aloadN X1.here hx rfl (hb hby d7_14) rfl rfl k)))) ?_
 refine own_getf X1 hx hZ hown (ow hw 52 rfl) Via.refl e1 Fld_a1_size rfl rfl (hb hby d7_15) (fun T2 X2 e2 => ?_)
 refine own_go (b := (T2.setTop (mkF m 31 #[rv a1, rv a2, iv (0 : Int32), iv p4, iv (0 : Int32), iv (0 : Int32), .unset] [(.int (0 : Int32)), (.ref a1)]))) (fun _ k => X2.ldcInt hx hown (mvT hZ (ow hw 54 rfl)) (g := (mkF m 18 #[rv a1, rv a2, iv (0 : Int32), iv p4, iv (0 : Int32), .unset, .unset] [(.int (0 : Int32))])) rfl (hb hby d7_18) _ (XS.iand X2.here hx rfl (hb hby d7_20) rfl (XS.istore X2.here hx rfl (hb hby d7_21) rfl (l' := #[rv a1, rv a2, iv (0 : Int32), iv p4, iv (0 : Int32), iv (0 : Int32), .unset]) rfl (XS.iload X2.here hx rfl (hb hby d7_23) rfl (XS.ifNo X2.here hx rfl (hb hby d7_25) rfl ((if0 _ _).trans (teq (rfl : (0 : Int32) = (0 : Int32))).2) (XS.aloadN X2.here hx rfl (hb hby d7_28) rfl rfl (XS.iload X2.here hx rfl (hb hby d7_29) rfl k))))))) ?_
 obtain ⟨cq3, qc3, qc3'⟩ := E_a1.cell
 obtain ⟨_, _, ⟨T3, Ll3, kz3, nz3⟩, -, X3, ⟨Lc3, hQ3, lz3, yz3, zz3⟩, st3⟩ := X2.privateBack hx (y := mn5) hown (mvT hZ (ow hw 55 rfl)) (mvT hZ (ow hw 56 rfl)) (own_selp (y := mn5) (mvT hZ (ow hw 12 rfl)) (mvP hZ (ow hw 57 rfl)) (mvT hZ (ow hw 56 rfl)) (by decide)) (Cond.privateMethod_at (mvP hZ (ow hw 57 rfl) (args := #[]))) (mvT hZ (ow hw 58 rfl)) (by decide) (backOf (W := 0) (rmnb l Z a0 hw [] a1 bl kb h0 n0 Z0 E_a1 Fld_a1_blocks V_bl Ov_bl g_bl) hZ (ow hw 58 rfl) (ow hw 13 rfl) (by decide) (by decide)) (g := (mkF m 31 #[rv a1, rv a2, iv (0 : Int32), iv p4, iv (0 : Int32), iv (0 : Int32), .unset] [(.int (0 : Int32)), (.ref a1)])) rfl (by rw [hml]; rfl) (Steps.refl _) (a := a1) (by rw [e2]; exact qc3) qc3' (argsL := [(.int (0 : Int32))]) (rest := []) (lenOf pd__I_V rfl) rfl (by show 2 * 0 + _ ≤ _; exact Nat.le_of_eq rfl) (hb hby d7_31) (fun _ _ => ⟨rfl, e2, (by decide : 0 + 1 ≤ _), (by decide : 0 + 65536 ≤ _)⟩)
 dsimp only [Pt.U, Pt.locs, Pt.cells, Pt.slots] at X3 lz3 yz3 zz3 st3 hQ3
 subst lz3 yz3 zz3
 obtain ⟨cn_3, kn_3, rfl, N3q, K3, P3_0, P3_1, P3_2⟩ := hQ3
 have N3 := Fr.app N0 N3q
 have Zs4 : n0 ≤ T3.heap.size := Nat.le_trans Z0 K3.1
 refine own_go (b := (T3.setTop (mkF m 37 #[rv a1, rv a2, iv (0 : Int32), iv p4, iv (0 : Int32), iv (0 : Int32), .unset] [(.int (p4 - (0 : Int32)))]))) (fun _ k => st3.trans (XS.iloadN X3.here hx rfl (hb hby d7_34) rfl (XS.iloadN X3.here hx rfl (hb hby d7_35) rfl (XS.isub X3.here hx rfl (hb hby d7_36) rfl k)))) ?_
 rw [Int32.sub_zero]
 refine own_go (b := (T3.setTop (mkF m 42 #[rv a1, rv a2, iv (0 : Int32), iv p4, iv (0 : Int32), iv (0 : Int32), .unset] [(.int (65536 : Int32)), (.int p4)]))) (fun _ k => X3.ldcInt hx hown (mvT hZ (ow hw 59 rfl)) (g := (mkF m 37 #[rv a1, rv a2, iv (0 : Int32), iv p4, iv (0 : Int32), iv (0 : Int32), .unset] [(.int p4)])) rfl (hb hby d7_37) _ (XS.iload X3.here hx rfl (hb hby d7_39) rfl (XS.isub X3.here hx rfl (hb hby d7_41) rfl k))) ?_
 refine own_stat (W := 0) X3 hx hZ hown rfl (ow hw 61 rfl) (ow hw 40 rfl) (rmminA l Z a0 hw [] p4 (65536 : Int32) T3.heap n0 Zs4 (own_big hn0 hn3)) (ow hw 42 rfl) (ow hw 41 rfl) rfl (by rw [hml]; rfl) rfl (hb hby d7_42) (lenOf pd__II_I rfl) rfl (by decide) (fun T5 v5 Ll5 X5 hQ5 => ?_)
 obtain ⟨rfl, N5q, eh5⟩ := hQ5
 have N5 := Fr.app N3 N5q
 refine own_go (b := (T5.setTop (mkF m 50 #[rv a1, rv a2, iv (0 : Int32), iv p4, iv (0 : Int32), iv (0 : Int32), iv p4] [(.ref a1), (.int (0 : Int32)), (.ref a2)]))) (fun _ k => XS.istore X5.here hx rfl (hb hby d7_45) rfl (l' := #[rv a1, rv a2, iv (0 : Int32), iv p4, iv (0 : Int32), iv (0 : Int32), iv p4]) rfl (XS.aloadN X5.here hx rfl (hb hby d7_47) rfl rfl (XS.iloadN X5.here hx rfl (hb hby d7_48) rfl (XS.aloadN X5.here hx rfl (hb hby d7_49) rfl rfl k)))) ?_
 obtain ⟨cn6, An6, -⟩ := id V_bl
 have nx7 : a1 ≠ bl := (ne_arr E_a1 (ow hw 12 rfl) An6)
 have F8 := Fld_a1_blocks.keep K3 (ninS nx7 nin0)
 refine own_getf X5 hx hZ hown (ow hw 20 rfl) Via.refl eh5 F8 rfl rfl (hb hby d7_50) (fun T9 X9 e9 => ?_)
 refine own_go (b := (T9.setTop (mkF m 55 #[rv a1, rv a2, iv (0 : Int32), iv p4, iv (0 : Int32), iv (0 : Int32), iv p4] [(.int (0 : Int32)), (.ref bl), (.int (0 : Int32)), (.ref a2)]))) (fun _ k => XS.iload X9.here hx rfl (hb hby d7_53) rfl k) ?_
 obtain ⟨cl10, Ar10, ql10, Sz10, Nn10, Hl10, Gl10⟩ := id P3_2
 have hin10 : ¬ ((0 : Int32) < 0 ∨ cl10.slots.size ≤ ((0 : Int32)).toNatClampNeg) := inb_of Sz10 ⟨by decide, by decide⟩
 refine own_go (b := (T9.setTop (mkF m 60 #[rv a1, rv a2, iv (0 : Int32), iv p4, iv (0 : Int32), iv (0 : Int32), iv p4] [(.int p4), (.int (0 : Int32)), (.ref cn_3), (.int (0 : Int32)), (.ref a2)]))) (fun _ k => X9.aaload hx (j := (0 : Int32)) (v := (.ref cn_3)) (by rw [e9]; exact Ar10.1) (State.isArrayOf_alike hZ.alike Ar10.2.1) rfl Ar10.2.2 hin10 (Hl10.at hin10 rfl) (g := (mkF m 55 #[rv a1, rv a2, iv (0 : Int32), iv p4, iv (0 : Int32), iv (0 : Int32), iv p4] [(.int (0 : Int32)), (.ref bl), (.int (0 : Int32)), (.ref a2)])) rfl rfl (hb hby d7_55) _ (XS.iload X9.here hx rfl (hb hby d7_56) rfl (XS.iload X9.here hx rfl (hb hby d7_58) rfl k))) ?_
 have F12 := V_a2.keep K3 (ninS ne_a2_bl nin0)
 have gx13 : n0 ≤ cn_3 := Nat.le_trans Z0 P3_0
 obtain ⟨T11, h11, L11, X11, e11, N11, K11, V11, st11⟩ := cpA X9 hx hZ hown (ow hw 62 rfl) (ow hw 46 rfl) (ow hw 44 rfl) (ow hw 45 rfl) e9 (us := ((List.range (p4).toNatClampNeg).map fun i => ([(.int y0), (.int y1), (.int y2)] : List Value).getD (((0 : Int32)).toNatClampNeg + i) (.int (0 : Int32)))) F12 (P3_1.pad (pad_rep [] (.int (0 : Int32)) 65536)) (Or.inl ⟨rfl, rfl⟩) (by decide) (by decide) (own_c3 hn0 hn3).1 (by have := (own_c3 hn0 hn3).2; have e : (3 : Int32).toNatClampNeg = 3 := (by decide); have e0 : (0 : Int32).toNatClampNeg = 0 := (by decide); omega) (by have := (own_c3 hn0 hn3).2; have e : (65536 : Int32).toNatClampNeg = 65536 := (by decide); have e0 : (0 : Int32).toNatClampNeg = 0 := (by decide); omega) rfl (by have := (own_c3 hn0 hn3).2; have e0 : (0 : Int32).toNatClampNeg = 0 := (by decide); rw [List.nil_append, List.length_replicate]; omega) N5 gx13 (g := (mkF m 60 #[rv a1, rv a2, iv (0 : Int32), iv p4, iv (0 : Int32), iv (0 : Int32), iv p4] [(.int p4), (.int (0 : Int32)), (.ref cn_3), (.int (0 : Int32)), (.ref a2)])) rfl (by rw [hml]; rfl) rfl (hb hby d7_60) (by decide) (W := 0) (by show 2 * 0 + _ ≤ _; exact Nat.le_of_eq rfl) (by decide)
 have Zs14 : n0 ≤ h11.size := Nat.le_trans Zs4 K11.1
 refine own_go (b := (T11.setTop (mkF m 67 #[rv a1, rv a2, iv (0 : Int32), iv p4, iv (0 : Int32), iv (0 : Int32), iv p4] [(.int ((0 : Int32) + p4))]))) (fun _ k => st11 _ (XS.iloadN X11.here hx rfl (hb hby d7_63) rfl (XS.iload X11.here hx rfl (hb hby d7_64) rfl (XS.iadd X11.here hx rfl (hb hby d7_66) rfl k)))) ?_
 rw [Int32.zero_add]
 refine own_go (b := (T11.setTop (mkF m 70 #[rv a1, rv a2, iv p4, iv p4, iv (0 : Int32), iv (0 : Int32), iv p4] [(.ref a1), (.ref a1)]))) (fun _ k => XS.istoreN X11.here hx rfl (hb hby d7_67) rfl (l' := #[rv a1, rv a2, iv p4, iv p4, iv (0 : Int32), iv (0 : Int32), iv p4]) rfl (XS.aloadN X11.here hx rfl (hb hby d7_68) rfl rfl (XS.dup X11.here hx rfl (hb hby d7_69) rfl rfl k))) ?_
 have F15 := Fld_a1_size.keep K3 (ninS nx7 nin0)
 have nx16 : a1 ≠ cn_3 := (own_ne E_a1.lt (Nat.le_refl _) P3_0)
 have F17 := F15.keep K11 (ninS nx16 nin0)
 refine own_getf X11 hx hZ hown (ow hw 52 rfl) Via.refl e11 F17 rfl rfl (hb hby d7_70) (fun T18 X18 e18 => ?_)
 refine own_go (b := (T18.setTop (mkF m 76 #[rv a1, rv a2, iv p4, iv p4, iv (0 : Int32), iv (0 : Int32), iv p4] [(.int ((0 : Int32) + p4)), (.ref a1)]))) (fun _ k => XS.iload X18.here hx rfl (hb hby d7_73) rfl (XS.iadd X18.here hx rfl (hb hby d7_75) rfl k)) ?_
 rw [Int32.zero_add]
 have F19 := E_a1.keep K3
 have F20 := F19.keep K11
 obtain ⟨T21, h21, X21, e21, W21, st21⟩ := putF X18 hx hZ hown (host := "") (Or.inl (ow hw 52 rfl)) Via.refl e18 F17 F20 (Or.inl (ow hw 53 rfl)) (ow hw 12 rfl) (ty := .int) (by decide) rfl rfl (g := (mkF m 76 #[rv a1, rv a2, iv p4, iv p4, iv (0 : Int32), iv (0 : Int32), iv p4] [(.int p4), (.ref a1)])) rfl rfl (hb hby d7_76)
 have N21 := Fr.snoc X21 N11 g_a1
 have Zs22 : n0 ≤ h21.size := Nat.le_trans Zs14 (Keep.of_wr W21).1
 have F21 : Fld Z h21 a1 cs1 "size" "I" (.int p4) := F17.same W21
 refine own_go (b := (T21.setTop (mkF m 82 #[rv a1, rv a2, iv p4, iv p4, iv (0 : Int32), iv (0 : Int32), iv p4] []))) (fun _ k => st21 _ (XS.goto X21.here hx rfl (pc0 := 79) (pc' := 0) rfl (hb hby d7_79) (by decide) (by decide) (XS.iloadN X21.here hx rfl (hb hby d7_0) rfl (XS.iloadN X21.here hx rfl (hb hby d7_1) rfl (XS.icmpYes X21.here hx rfl (pc0 := 2) (pc' := 82) rfl (hb hby d7_2) rfl (flt (own_irr p4)).2.1 (by decide) (by decide) k))))) ?_
 have K23 := (Keep.refl h0 [a1, bl]).trans K3 (allS (Or.inl (List.mem_of_getElem? (i := 1) rfl)) all0)
 have K24 := K23.trans K11 (allS (Or.inr (Nat.le_trans (Nat.le_refl _) P3_0)) all0)
 have K25 := K24.wr W21 (Or.inl (List.mem_of_getElem? (i := 0) rfl))
 have F26 := F8.keep K11 (ninS nx16 nin0)
 have F27 := F26.other W21 (Or.inr (slot_ne (Or.inl (ow hw 21 rfl)) (Or.inl (ow hw 53 rfl)) (by decide) (t := (.array (.array .int))) (t' := .int) (by decide) (by decide)))
 have nx28 : bl ≠ cn_3 := (own_ne V_bl.lt (Nat.le_refl _) P3_0)
 have F29 := P3_2.keep K11 (ninS nx28 nin0)
 have F30 := F29.other W21 (Ne.symm nx7)
 have F31 := V11.other W21 (Ne.symm nx16)
 obtain ⟨fs, hr, hrun, hended, hW, hsame⟩ := X21.leave (v := none) (fun _ => rfl)
 exact ⟨_, _, X21.returnOut hx Bd.returns (hb hby d7_82) hr, hrun, hended, _, _, rfl, (show QrmaddE Z a1 a2 k2 y0 y1 y2 p4 bl kb h0 n0 _ T21.heap _ from (by rw [e21]; exact ⟨cn_3, kn_3, (([] ++ List.replicate 65536 (Value.int (0 : Int32))).take ((0 : Int32)).toNatClampNeg ++ ((List.range (p4).toNatClampNeg).map fun i => ([(.int y0), (.int y1), (.int y2)] : List Value).getD (((0 : Int32)).toNatClampNeg + i) (.int (0 : Int32))) ++ ([] ++ List.replicate 65536 (Value.int (0 : Int32))).drop (((0 : Int32)).toNatClampNeg + (p4).toNatClampNeg)), rfl, N21, K25, F21, F27, (Nat.le_trans (Nat.le_refl _) P3_0), F30, F31, (own_len0 (by simp) (own_c3 hn0 hn3).2)⟩)), ⟨_, rfl⟩, hW, hsame.mono (by decide) (by decide)⟩
theorem ef_rmaddF (m : MethodId) (x0 : Addr) (x1 : Addr) (x2 : Int32) (x3 : Int32) : entryFrame m #[(.ref x0), (.ref x1), (.int x2), (.int x3)] 7 = mkF m 0 #[rv x0, rv x1, iv x2, iv x3, .unset, .unset, .unset] [] := by first | (simp [entryFrame, mkF, argsToLocals, Value.category]; done) | rfl
def QrmaddF (Z : State) (a1 : Addr) (a2 : Addr) (k2 : ClassId) (y0 : Int32) (y1 : Int32) (y2 : Int32) (p4 : Int32) (bl : Addr) (kb : ClassId) (x5 : Int32) (c0 : Addr) (kc : ClassId) (vsc : List Value) (h0 : Heap) (n0 : Nat) (v : Option Value) (h : Heap) (L : List Loc) : Prop := ∃ (vsn : List Value), v = none ∧ Fr n0 L ∧ Keep h0 h [a1, c0] ∧ (Fld Z h a1 cs1 "size" "I" (.int (x5 + p4))) ∧ (Fld Z h a1 cs1 "blocks" "[[I" (.ref bl)) ∧ (Arv Z h c0 kc .int (65536 : Int32) vsn (.int (0 : Int32))) ∧ (16 ≤ vsn.length)
set_option maxRecDepth 65536 in
set_option maxHeartbeats 40000000 in
theorem rmaddF (l : Launch) (Z : State) (a0 : Array Value) (hw : ∀ d ∈ tables_1, d.before a0 Z = true) (ws : List Jvm.Cond) (a1 : Addr) (a2 : Addr) (k2 : ClassId) (y0 : Int32) (y1 : Int32) (y2 : Int32) (p4 : Int32) (bl : Addr) (kb : ClassId) (x5 : Int32) (c0 : Addr) (kc : ClassId) (vsc : List Value) (h0 : Heap) (n0 : Nat) (Z0 : n0 ≤ h0.size) (E_a1 : Exa Z h0 a1 cs1) (Fld_a1_size : Fld Z h0 a1 cs1 "size" "I" (.int x5)) (Fld_a1_blocks : Fld Z h0 a1 cs1 "blocks" "[[I" (.ref bl)) (V_bl : Arv Z h0 bl kb (.array .int) (16 : Int32) ((.ref c0) :: own_n15) .null) (g_a1 : n0 ≤ a1) (g_c0 : n0 ≤ c0) (V_c0 : Arv Z h0 c0 kc .int (65536 : Int32) vsc (.int (0 : Int32))) (V_a2 : Arv Z h0 a2 k2 .int (3 : Int32) [(.int y0), (.int y1), (.int y2)] (.int (0 : Int32))) (ne_a2_c0 : a2 ≠ c0) (ne_bl_c0 : bl ≠ c0) (hlen : 16 ≤ vsc.length) (hn0 : (0 : Int32) < p4) (hn3 : ¬ ((3 : Int32) < p4)) (hs0 : (0 : Int32) < x5) (hs6 : ¬ ((6 : Int32) < x5)) :
    MetFree l mn4 (head1 (Jvm.Cond.code mn4 prog_30_method_7_code 7 none :: ws) ({ frames := 1, cells := 0, slots := 0, locals := 40 } : Room)) (fun a U => a = #[(.ref a1), (.ref a2), (.int (0 : Int32)), (.int p4)] ∧ Z.Warmed39 U.vm ∧ U.heap = h0) (fun _ _ _ _ _ => True) (fun _ U o U' => ∃ v L, o = .returned v ∧ QrmaddF Z a1 a2 k2 y0 y1 y2 p4 bl kb x5 c0 kc vsc h0 n0 v U'.heap L ∧ FrameEnd U o U' L ({ frames := 1, cells := 0, slots := 0, locals := 40 } : Room).cells ({ frames := 1, cells := 0, slots := 0, locals := 40 } : Room).slots) := by
 refine MetFree.of_bodySF (plainFor_of_name pn_7) hisR ?_
 intro p e s m args below meth c s₁ Bd hml0 hP hK
 obtain ⟨rfl, hZ, hh⟩ := hP
 have hx := Bd.exec
 have hby := Bd.bytes
 have hml : c.maxLocals = 7 := hml0
 have hown : s.vm.findClass cs1 = some m.cls := findClass_of_methodNamed Bd.named
 have hnm := (name_of_methodNamed Bd.named Bd.method).1
 have X0 : Stand p l e ({ frames := 1, cells := 0, slots := 0, locals := 40 } : Room) s m #[(.ref a1), (.ref a2), (.int (0 : Int32)), (.int p4)] below meth c s₁ [] 0 0 := Stand.of_body Bd
 have e0 : s₁.heap = h0 := by rw [← hh, Bd.state]; rfl
 have N0 := Fr.nil n0
 refine own_go (b := (s₁.setTop (mkF m 0 #[rv a1, rv a2, iv (0 : Int32), iv p4, .unset, .unset, .unset] []))) (fun _ k => castTop (ef_rmaddF m a1 a2 (0 : Int32) p4) k) ?_
 refine own_go (b := (s₁.setTop (mkF m 6 #[rv a1, rv a2, iv (0 : Int32), iv p4, .unset, .unset, .unset] [(.ref a1)]))) (fun _ k => XS.iloadN X0.here hx rfl (hb hby d7_0) rfl (XS.iloadN X0.here hx rfl (hb hby d7_1) rfl (XS.icmpNo X0.here hx rfl (hb hby d7_2) rfl (tlt hn0).2.1 (XS.aloadN X0.here hx rfl (hb hby d7_5) rfl rfl k)))) ?_
 refine own_getf X0 hx hZ hown (ow hw 52 rfl) Via.refl e0 Fld_a1_size rfl rfl (hb hby d7_6) (fun T1 X1 e1 => ?_)
 refine own_go (b := (T1.setTop (mkF m 12 #[rv a1, rv a2, iv (0 : Int32), iv p4, .unset, .unset, .unset] [(.int ((x5.toUInt32 >>> ((16 : Int32) &&& 31).toUInt32).toInt32))]))) (fun _ k => XS.bipush X1.here hx rfl (hb hby d7_9) (XS.iushr X1.here hx rfl (hb hby d7_11) rfl k)) ?_
 rw [own_sh hs0 hs6]
 refine own_go (b := (T1.setTop (mkF m 15 #[rv a1, rv a2, iv (0 : Int32), iv p4, iv (0 : Int32), .unset, .unset] [(.ref a1)]))) (fun _ k => XS.istore X1.here hx rfl (hb hby d7_12) rfl (l' := #[rv a1, rv a2, iv (0 : Int32), iv p4, iv (0 : Int32), .unset, .unset]) rfl (XS.aloadN X1.here hx rfl (hb hby d7_14) rfl rfl k)) ?_
 refine own_getf X1 hx hZ hown (ow hw 52 rfl) Via.refl e1 Fld_a1_size rfl rfl (hb hby d7_15) (fun T2 X2 e2 => ?_)
 refine own_go (b := (T2.setTop (mkF m 21 #[rv a1, rv a2, iv (0 : Int32), iv p4, iv (0 : Int32), .unset, .unset] [(.int (x5 &&& (65535 : Int32)))]))) (fun _ k => X2.ldcInt hx hown (mvT hZ (ow hw 54 rfl)) (g := (mkF m 18 #[rv a1, rv a2, iv (0 : Int32), iv p4, iv (0 : Int32), .unset, .unset] [(.int x5)])) rfl (hb hby d7_18) _ (XS.iand X2.here hx rfl (hb hby d7_20) rfl k)) ?_
 rw [own_mk hs0 hs6]
 refine own_go (b := (T2.setTop (mkF m 37 #[rv a1, rv a2, iv (0 : Int32), iv p4, iv (0 : Int32), iv x5, .unset] [(.int (p4 - (0 : Int32)))]))) (fun _ k => XS.istore X2.here hx rfl (hb hby d7_21) rfl (l' := #[rv a1, rv a2, iv (0 : Int32), iv p4, iv (0 : Int32), iv x5, .unset]) rfl (XS.iload X2.here hx rfl (hb hby d7_23) rfl (XS.ifYes X2.here hx rfl (pc0 := 25) (pc' := 34) rfl (hb hby d7_25) rfl ((if0 _ _).trans (feq (own_ne0 hs0)).2) (by decide) (by decide) (XS.iloadN X2.here hx rfl (hb hby d7_34) rfl (XS.iloadN X2.here hx rfl (hb hby d7_35) rfl (XS.isub X2.here hx rfl (hb hby d7_36) rfl k)))))) ?_
 rw [Int32.sub_zero]
 refine own_go (b := (T2.setTop (mkF m 42 #[rv a1, rv a2, iv (0 : Int32), iv p4, iv (0 : Int32), iv x5, .unset] [(.int ((65536 : Int32) - x5)), (.int p4)]))) (fun _ k => X2.ldcInt hx hown (mvT hZ (ow hw 59 rfl)) (g := (mkF m 37 #[rv a1, rv a2, iv (0 : Int32), iv p4, iv (0 : Int32), iv x5, .unset] [(.int p4)])) rfl (hb hby d7_37) _ (XS.iload X2.here hx rfl (hb hby d7_39) rfl (XS.isub X2.here hx rfl (hb hby d7_41) rfl k))) ?_
 refine own_stat (W := 0) X2 hx hZ hown e2 (ow hw 61 rfl) (ow hw 40 rfl) (rmminA l Z a0 hw [] p4 ((65536 : Int32) - x5) h0 n0 Z0 (own_bigs hn0 hn3 hs0 hs6)) (ow hw 42 rfl) (ow hw 41 rfl) rfl (by rw [hml]; rfl) rfl (hb hby d7_42) (lenOf pd__II_I rfl) rfl (by decide) (fun T3 v3 Ll3 X3 hQ3 => ?_)
 obtain ⟨rfl, N3q, eh3⟩ := hQ3
 have N3 := Fr.app N0 N3q
 refine own_go (b := (T3.setTop (mkF m 50 #[rv a1, rv a2, iv (0 : Int32), iv p4, iv (0 : Int32), iv x5, iv p4] [(.ref a1), (.int (0 : Int32)), (.ref a2)]))) (fun _ k => XS.istore X3.here hx rfl (hb hby d7_45) rfl (l' := #[rv a1, rv a2, iv (0 : Int32), iv p4, iv (0 : Int32), iv x5, iv p4]) rfl (XS.aloadN X3.here hx rfl (hb hby d7_47) rfl rfl (XS.iloadN X3.here hx rfl (hb hby d7_48) rfl (XS.aloadN X3.here hx rfl (hb hby d7_49) rfl rfl k)))) ?_
 refine own_getf X3 hx hZ hown (ow hw 20 rfl) Via.refl eh3 Fld_a1_blocks rfl rfl (hb hby d7_50) (fun T4 X4 e4 => ?_)
 refine own_go (b := (T4.setTop (mkF m 55 #[rv a1, rv a2, iv (0 : Int32), iv p4, iv (0 : Int32), iv x5, iv p4] [(.int (0 : Int32)), (.ref bl), (.int (0 : Int32)), (.ref a2)]))) (fun _ k => XS.iload X4.here hx rfl (hb hby d7_53) rfl k) ?_
 obtain ⟨cl5, Ar5, ql5, Sz5, Nn5, Hl5, Gl5⟩ := id V_bl
 have hin5 : ¬ ((0 : Int32) < 0 ∨ cl5.slots.size ≤ ((0 : Int32)).toNatClampNeg) := inb_of Sz5 ⟨by decide, by decide⟩
 refine own_go (b := (T4.setTop (mkF m 60 #[rv a1, rv a2, iv (0 : Int32), iv p4, iv (0 : Int32), iv x5, iv p4] [(.int p4), (.int x5), (.ref c0), (.int (0 : Int32)), (.ref a2)]))) (fun _ k => X4.aaload hx (j := (0 : Int32)) (v := (.ref c0)) (by rw [e4]; exact Ar5.1) (State.isArrayOf_alike hZ.alike Ar5.2.1) rfl Ar5.2.2 hin5 (Hl5.at hin5 rfl) (g := (mkF m 55 #[rv a1, rv a2, iv (0 : Int32), iv p4, iv (0 : Int32), iv x5, iv p4] [(.int (0 : Int32)), (.ref bl), (.int (0 : Int32)), (.ref a2)])) rfl rfl (hb hby d7_55) _ (XS.iload X4.here hx rfl (hb hby d7_56) rfl (XS.iload X4.here hx rfl (hb hby d7_58) rfl k))) ?_
 obtain ⟨T6, h6, L6, X6, e6, N6, K6, V6, st6⟩ := cpA X4 hx hZ hown (ow hw 62 rfl) (ow hw 46 rfl) (ow hw 44 rfl) (ow hw 45 rfl) e4 (us := ((List.range (p4).toNatClampNeg).map fun i => ([(.int y0), (.int y1), (.int y2)] : List Value).getD (((0 : Int32)).toNatClampNeg + i) (.int (0 : Int32)))) V_a2 V_c0 (Or.inl ⟨rfl, rfl⟩) (by decide) (own_c6 hs0 hs6).1 (own_c3 hn0 hn3).1 (by have := (own_c3 hn0 hn3).2; have := (own_c6 hs0 hs6).2; have e3 : (3 : Int32).toNatClampNeg = 3 := (by decide); have e : (65536 : Int32).toNatClampNeg = 65536 := (by decide); have e0 : (0 : Int32).toNatClampNeg = 0 := (by decide); omega) (by have := (own_c3 hn0 hn3).2; have := (own_c6 hs0 hs6).2; have e3 : (3 : Int32).toNatClampNeg = 3 := (by decide); have e : (65536 : Int32).toNatClampNeg = 65536 := (by decide); have e0 : (0 : Int32).toNatClampNeg = 0 := (by decide); omega) rfl (by have := (own_c3 hn0 hn3).2; have := (own_c6 hs0 hs6).2; omega) N3 g_c0 (g := (mkF m 60 #[rv a1, rv a2, iv (0 : Int32), iv p4, iv (0 : Int32), iv x5, iv p4] [(.int p4), (.int x5), (.ref c0), (.int (0 : Int32)), (.ref a2)])) rfl (by rw [hml]; rfl) rfl (hb hby d7_60) (by decide) (W := 0) (by show 2 * 0 + _ ≤ _; exact Nat.le_of_eq rfl) (by decide)
 have Zs7 : n0 ≤ h6.size := Nat.le_trans Z0 K6.1
 refine own_go (b := (T6.setTop (mkF m 67 #[rv a1, rv a2, iv (0 : Int32), iv p4, iv (0 : Int32), iv x5, iv p4] [(.int ((0 : Int32) + p4))]))) (fun _ k => st6 _ (XS.iloadN X6.here hx rfl (hb hby d7_63) rfl (XS.iload X6.here hx rfl (hb hby d7_64) rfl (XS.iadd X6.here hx rfl (hb hby d7_66) rfl k)))) ?_
 rw [Int32.zero_add]
 refine own_go (b := (T6.setTop (mkF m 70 #[rv a1, rv a2, iv p4, iv p4, iv (0 : Int32), iv x5, iv p4] [(.ref a1), (.ref a1)]))) (fun _ k => XS.istoreN X6.here hx rfl (hb hby d7_67) rfl (l' := #[rv a1, rv a2, iv p4, iv p4, iv (0 : Int32), iv x5, iv p4]) rfl (XS.aloadN X6.here hx rfl (hb hby d7_68) rfl rfl (XS.dup X6.here hx rfl (hb hby d7_69) rfl rfl k))) ?_
 obtain ⟨cn8, An8, -⟩ := id V_c0
 have nx9 : a1 ≠ c0 := (ne_arr E_a1 (ow hw 12 rfl) An8)
 have F10 := Fld_a1_size.keep K6 (ninS nx9 nin0)
 refine own_getf X6 hx hZ hown (ow hw 52 rfl) Via.refl e6 F10 rfl rfl (hb hby d7_70) (fun T11 X11 e11 => ?_)
 refine own_go (b := (T11.setTop (mkF m 76 #[rv a1, rv a2, iv p4, iv p4, iv (0 : Int32), iv x5, iv p4] [(.int (x5 + p4)), (.ref a1)]))) (fun _ k => XS.iload X11.here hx rfl (hb hby d7_73) rfl (XS.iadd X11.here hx rfl (hb hby d7_75) rfl k)) ?_
 have F12 := E_a1.keep K6
 obtain ⟨T13, h13, X13, e13, W13, st13⟩ := putF X11 hx hZ hown (host := "") (Or.inl (ow hw 52 rfl)) Via.refl e11 F10 F12 (Or.inl (ow hw 53 rfl)) (ow hw 12 rfl) (ty := .int) (by decide) rfl rfl (g := (mkF m 76 #[rv a1, rv a2, iv p4, iv p4, iv (0 : Int32), iv x5, iv p4] [(.int (x5 + p4)), (.ref a1)])) rfl rfl (hb hby d7_76)
 have N13 := Fr.snoc X13 N6 g_a1
 have Zs14 : n0 ≤ h13.size := Nat.le_trans Zs7 (Keep.of_wr W13).1
 have F13 : Fld Z h13 a1 cs1 "size" "I" (.int (x5 + p4)) := F10.same W13
 refine own_go (b := (T13.setTop (mkF m 82 #[rv a1, rv a2, iv p4, iv p4, iv (0 : Int32), iv x5, iv p4] []))) (fun _ k => st13 _ (XS.goto X13.here hx rfl (pc0 := 79) (pc' := 0) rfl (hb hby d7_79) (by decide) (by decide) (XS.iloadN X13.here hx rfl (hb hby d7_0) rfl (XS.iloadN X13.here hx rfl (hb hby d7_1) rfl (XS.icmpYes X13.here hx rfl (pc0 := 2) (pc' := 82) rfl (hb hby d7_2) rfl (flt (own_irr p4)).2.1 (by decide) (by decide) k))))) ?_
 have K15 := (Keep.refl h0 [a1, c0]).trans K6 (allS (Or.inl (List.mem_of_getElem? (i := 1) rfl)) all0)
 have K16 := K15.wr W13 (Or.inl (List.mem_of_getElem? (i := 0) rfl))
 have F17 := Fld_a1_blocks.keep K6 (ninS nx9 nin0)
 have F18 := F17.other W13 (Or.inr (slot_ne (Or.inl (ow hw 21 rfl)) (Or.inl (ow hw 53 rfl)) (by decide) (t := (.array (.array .int))) (t' := .int) (by decide) (by decide)))
 have F19 := V6.other W13 (Ne.symm nx9)
 obtain ⟨fs, hr, hrun, hended, hW, hsame⟩ := X13.leave (v := none) (fun _ => rfl)
 exact ⟨_, _, X13.returnOut hx Bd.returns (hb hby d7_82) hr, hrun, hended, _, _, rfl, (show QrmaddF Z a1 a2 k2 y0 y1 y2 p4 bl kb x5 c0 kc vsc h0 n0 _ T13.heap _ from (by rw [e13]; exact ⟨(vsc.take (x5).toNatClampNeg ++ ((List.range (p4).toNatClampNeg).map fun i => ([(.int y0), (.int y1), (.int y2)] : List Value).getD (((0 : Int32)).toNatClampNeg + i) (.int (0 : Int32))) ++ vsc.drop ((x5).toNatClampNeg + (p4).toNatClampNeg)), rfl, N13, K16, F13, F18, F19, (own_lenS hlen (by simp) (own_c6 hs0 hs6).2 (own_c3 hn0 hn3).2)⟩)), ⟨_, rfl⟩, hW, hsame.mono (by decide) (by decide)⟩
theorem d5_0 : decode jdk_65_method_123_code 0 = .ok (.iload_n 1, 1) := by decide +kernel
theorem d5_1 : decode jdk_65_method_123_code 1 = .ok (.aload_n 0, 1) := by decide +kernel
theorem d5_2 : decode jdk_65_method_123_code 2 = .ok (.arraylength, 1) := by decide +kernel
theorem d5_3 : decode jdk_65_method_123_code 3 = .ok (.if_icmp .ne 11, 3) := by decide +kernel
theorem d5_6 : decode jdk_65_method_123_code 6 = .ok (.aload_n 0, 1) := by decide +kernel
theorem d5_7 : decode jdk_65_method_123_code 7 = .ok (.invokevirtual 316, 3) := by decide +kernel
theorem d5_10 : decode jdk_65_method_123_code 10 = .ok (.checkcast 317, 3) := by decide +kernel
theorem d5_13 : decode jdk_65_method_123_code 13 = .ok (.areturn, 1) := by decide +kernel
theorem d5_14 : decode jdk_65_method_123_code 14 = .ok (.iload_n 1, 1) := by decide +kernel
theorem d5_15 : decode jdk_65_method_123_code 15 = .ok (.newarray .int, 2) := by decide +kernel
theorem d5_17 : decode jdk_65_method_123_code 17 = .ok (.astore_n 2, 1) := by decide +kernel
theorem d5_18 : decode jdk_65_method_123_code 18 = .ok (.aload_n 0, 1) := by decide +kernel
theorem d5_19 : decode jdk_65_method_123_code 19 = .ok (.iconst 0, 1) := by decide +kernel
theorem d5_20 : decode jdk_65_method_123_code 20 = .ok (.aload_n 2, 1) := by decide +kernel
theorem d5_21 : decode jdk_65_method_123_code 21 = .ok (.iconst 0, 1) := by decide +kernel
theorem d5_22 : decode jdk_65_method_123_code 22 = .ok (.aload_n 0, 1) := by decide +kernel
theorem d5_23 : decode jdk_65_method_123_code 23 = .ok (.arraylength, 1) := by decide +kernel
theorem d5_24 : decode jdk_65_method_123_code 24 = .ok (.iload_n 1, 1) := by decide +kernel
theorem d5_25 : decode jdk_65_method_123_code 25 = .ok (.invokestatic 304, 3) := by decide +kernel
theorem d5_28 : decode jdk_65_method_123_code 28 = .ok (.invokestatic 150, 3) := by decide +kernel
theorem d5_31 : decode jdk_65_method_123_code 31 = .ok (.aload_n 2, 1) := by decide +kernel
theorem d5_32 : decode jdk_65_method_123_code 32 = .ok (.areturn, 1) := by decide +kernel
theorem pn_5 : plainName "java/util/Arrays" = true := by first | (simp [plainName, overriddenIn]; done) | decide +kernel
theorem ef_rmcp1 (m : MethodId) (x0 : Addr) (x1 : Int32) : entryFrame m #[(.ref x0), (.int x1)] 3 = mkF m 0 #[rv x0, iv x1, .unset] [] := by first | (simp [entryFrame, mkF, argsToLocals, Value.category]; done) | rfl
def Qrmcp1 (Z : State) (a1 : Addr) (k1 : ClassId) (x0 : Int32) (h0 : Heap) (n0 : Nat) (v : Option Value) (h : Heap) (L : List Loc) : Prop := ∃ (b : Addr) (kb : ClassId), v = some (.ref b) ∧ Fr n0 L ∧ Keep h0 h [] ∧ (h0.size ≤ b) ∧ (Arv Z h b kb .int (2 : Int32) [(.int x0), (.int (0 : Int32))] (.int (0 : Int32)))
set_option maxRecDepth 65536 in
set_option maxHeartbeats 40000000 in
theorem rmcp1 (l : Launch) (Z : State) (a0 : Array Value) (hw : ∀ d ∈ tables_1, d.before a0 Z = true) (ws : List Jvm.Cond) (a1 : Addr) (k1 : ClassId) (x0 : Int32) (h0 : Heap) (n0 : Nat) (Z0 : n0 ≤ h0.size) (V_a1 : Arv Z h0 a1 k1 .int (1 : Int32) [(.int x0)] (.int (0 : Int32))) :
    MetFree l mn2 (head1 (Jvm.Cond.code mn2 jdk_65_method_123_code 3 (some (.array .int)) :: ws) ({ frames := 1, cells := 1, slots := 2, locals := 40 } : Room)) (fun a U => a = #[(.ref a1), (.int (2 : Int32))] ∧ Z.Warmed39 U.vm ∧ U.heap = h0) (fun _ _ _ _ _ => True) (fun _ U o U' => ∃ v L, o = .returned v ∧ Qrmcp1 Z a1 k1 x0 h0 n0 v U'.heap L ∧ FrameEnd U o U' L ({ frames := 1, cells := 1, slots := 2, locals := 40 } : Room).cells ({ frames := 1, cells := 1, slots := 2, locals := 40 } : Room).slots) := by
 refine MetFree.of_bodySF (plainFor_of_name pn_5) hisR ?_
 intro p e s m args below meth c s₁ Bd hml0 hP hK
 obtain ⟨rfl, hZ, hh⟩ := hP
 have hx := Bd.exec
 have hby := Bd.bytes
 have hml : c.maxLocals = 3 := hml0
 have hown : s.vm.findClass "java/util/Arrays" = some m.cls := findClass_of_methodNamed Bd.named
 have hnm := (name_of_methodNamed Bd.named Bd.method).1
 have X0 : Stand p l e ({ frames := 1, cells := 1, slots := 2, locals := 40 } : Room) s m #[(.ref a1), (.int (2 : Int32))] below meth c s₁ [] 0 0 := Stand.of_body Bd
 have e0 : s₁.heap = h0 := by rw [← hh, Bd.state]; rfl
 have N0 := Fr.nil n0
 refine own_go (b := (s₁.setTop (mkF m 0 #[rv a1, iv (2 : Int32), .unset] []))) (fun _ k => castTop (ef_rmcp1 m a1 (2 : Int32)) k) ?_
 refine own_go (b := (s₁.setTop (mkF m 2 #[rv a1, iv (2 : Int32), .unset] [(.ref a1), (.int (2 : Int32))]))) (fun _ k => XS.iloadN X0.here hx rfl (hb hby d5_0) rfl (XS.aloadN X0.here hx rfl (hb hby d5_1) rfl rfl k)) ?_
 obtain ⟨cl1, Ar1, -, Sz1, Nn1, -, -⟩ := id V_a1
 refine own_go (b := (s₁.setTop (mkF m 15 #[rv a1, iv (2 : Int32), .unset] [(.int (2 : Int32))]))) (fun _ k => X0.arraylength hx (by rw [e0]; exact Ar1.1) (State.isArrayOf_alike hZ.alike Ar1.2.1) (g := (mkF m 2 #[rv a1, iv (2 : Int32), .unset] [(.ref a1), (.int (2 : Int32))])) rfl rfl (hb hby d5_2) _ (by rw [len_of Sz1 Nn1]; exact (XS.icmpYes X0.here hx rfl (pc0 := 3) (pc' := 14) rfl (hb hby d5_3) rfl (feq (by decide : ¬ ((2 : Int32) = (1 : Int32)))).2 (by decide) (by decide) (XS.iloadN X0.here hx rfl (hb hby d5_14) rfl k)))) ?_
 obtain ⟨T2, h2, kl2, X2, e2, E2, A2, st2⟩ := newP X0 hx hZ (ow hw 0 rfl) e0 (g := (mkF m 15 #[rv a1, iv (2 : Int32), .unset] [(.int (2 : Int32))])) rfl (hb hby d5_15) rfl (by decide) (cap := 2) (by decide) (by decide) (by decide) (by decide)
 obtain ⟨b2, g2⟩ : ∃ z, z = h0.size := ⟨_, rfl⟩
 rw [← g2] at A2 st2
 have Zs3 : n0 ≤ h2.size := Nat.le_trans Z0 E2.1
 have V2 : Arv Z h2 b2 kl2 .int (2 : Int32) [(.int (0 : Int32)), (.int (0 : Int32))] (.int (0 : Int32)) := (Arv.new A2 (by decide)).pad (pad_rep [] (.int (0 : Int32)) 2)
 refine own_go (b := (T2.setTop (mkF m 23 #[rv a1, iv (2 : Int32), rv b2] [(.ref a1), (.int (0 : Int32)), (.ref b2), (.int (0 : Int32)), (.ref a1)]))) (fun _ k => st2 _ (XS.astoreN X2.here hx rfl (hb hby d5_17) rfl rfl (l' := #[rv a1, iv (2 : Int32), rv b2]) rfl (XS.aloadN X2.here hx rfl (hb hby d5_18) rfl rfl (XS.iconst X2.here hx rfl (hb hby d5_19) (XS.aloadN X2.here hx rfl (hb hby d5_20) rfl rfl (XS.iconst X2.here hx rfl (hb hby d5_21) (XS.aloadN X2.here hx rfl (hb hby d5_22) rfl rfl k))))))) ?_
 have F5 := V_a1.ext E2
 obtain ⟨cl4, Ar4, -, Sz4, Nn4, -, -⟩ := id F5
 refine own_go (b := (T2.setTop (mkF m 25 #[rv a1, iv (2 : Int32), rv b2] [(.int (2 : Int32)), (.int (1 : Int32)), (.int (0 : Int32)), (.ref b2), (.int (0 : Int32)), (.ref a1)]))) (fun _ k => X2.arraylength hx (by rw [e2]; exact Ar4.1) (State.isArrayOf_alike hZ.alike Ar4.2.1) (g := (mkF m 23 #[rv a1, iv (2 : Int32), rv b2] [(.ref a1), (.int (0 : Int32)), (.ref b2), (.int (0 : Int32)), (.ref a1)])) rfl rfl (hb hby d5_23) _ (by rw [len_of Sz4 Nn4]; exact (XS.iloadN X2.here hx rfl (hb hby d5_24) rfl k))) ?_
 refine own_stat (W := 4) X2 hx hZ hown e2 (ow hw 39 rfl) (ow hw 40 rfl) (rmminA l Z a0 hw [] (1 : Int32) (2 : Int32) h2 n0 Zs3 (by decide)) (ow hw 42 rfl) (ow hw 41 rfl) rfl (by rw [hml]; rfl) rfl (hb hby d5_25) (lenOf pd__II_I rfl) rfl (by decide) (fun T6 v6 Ll6 X6 hQ6 => ?_)
 obtain ⟨rfl, N6q, eh6⟩ := hQ6
 have N6 := Fr.app N0 N6q
 have gx8 : n0 ≤ b2 := Nat.le_trans Z0 (Nat.le_of_eq g2.symm)
 obtain ⟨T7, h7, L7, X7, e7, N7, K7, V7, st7⟩ := cpA X6 hx hZ hown (ow hw 43 rfl) (ow hw 46 rfl) (ow hw 44 rfl) (ow hw 45 rfl) eh6 (us := [(.int x0)]) F5 V2 (Or.inl ⟨rfl, rfl⟩) (by decide) (by decide) (by decide) (by decide) (by decide) rfl (by decide) N6 gx8 (g := (mkF m 28 #[rv a1, iv (2 : Int32), rv b2] [(.int (1 : Int32)), (.int (0 : Int32)), (.ref b2), (.int (0 : Int32)), (.ref a1)])) rfl (by rw [hml]; rfl) rfl (hb hby d5_28) (by decide) (W := 0) (by show 2 * 0 + _ ≤ _; exact Nat.le_of_eq rfl) (by decide)
 have Zs9 : n0 ≤ h7.size := Nat.le_trans Zs3 K7.1
 have V7c : Arv Z h7 b2 kl2 .int (2 : Int32) [(.int x0), (.int (0 : Int32))] (.int (0 : Int32)) := V7
 refine own_go (b := (T7.setTop (mkF m 32 #[rv a1, iv (2 : Int32), rv b2] [(.ref b2)]))) (fun _ k => st7 _ (XS.aloadN X7.here hx rfl (hb hby d5_31) rfl rfl k)) ?_
 have K10 := (Keep.refl h0 []).ext E2
 have K11 := K10.trans K7 (allS (Or.inr (Nat.le_trans (Nat.le_refl _) (Nat.le_of_eq g2.symm))) all0)
 obtain ⟨fs, hr, hrun, hended, hW, hsame⟩ := X7.leave (v := some (.ref b2)) (fun h => by rw [Bd.returns] at h; cases h)
 exact ⟨_, _, retOut X7 hx Bd.returns rfl (Or.inr (Or.inr (Or.inr (Or.inr ⟨rfl, rfl, rfl⟩)))) (hb hby d5_32) hr, hrun, hended, _, _, rfl, (show Qrmcp1 Z a1 k1 x0 h0 n0 _ T7.heap _ from (by rw [e7]; exact ⟨b2, kl2, rfl, N7, K11, (Nat.le_trans (Nat.le_refl _) (Nat.le_of_eq g2.symm)), V7c⟩)), ⟨_, rfl⟩, hW, hsame.mono (by decide) (by decide)⟩
theorem ef_rmcp2 (m : MethodId) (x0 : Addr) (x1 : Int32) : entryFrame m #[(.ref x0), (.int x1)] 3 = mkF m 0 #[rv x0, iv x1, .unset] [] := by first | (simp [entryFrame, mkF, argsToLocals, Value.category]; done) | rfl
def Qrmcp2 (Z : State) (a1 : Addr) (k1 : ClassId) (x0 : Int32) (x1 : Int32) (h0 : Heap) (n0 : Nat) (v : Option Value) (h : Heap) (L : List Loc) : Prop := ∃ (b : Addr) (kb : ClassId), v = some (.ref b) ∧ Fr n0 L ∧ Keep h0 h [] ∧ (h0.size ≤ b) ∧ (Arv Z h b kb .int (4 : Int32) [(.int x0), (.int x1), (.int (0 : Int32)), (.int (0 : Int32))] (.int (0 : Int32)))
set_option maxRecDepth 65536 in
set_option maxHeartbeats 40000000 in
theorem rmcp2 (l : Launch) (Z : State) (a0 : Array Value) (hw : ∀ d ∈ tables_1, d.before a0 Z = true) (ws : List Jvm.Cond) (a1 : Addr) (k1 : ClassId) (x0 : Int32) (x1 : Int32) (h0 : Heap) (n0 : Nat) (Z0 : n0 ≤ h0.size) (V_a1 : Arv Z h0 a1 k1 .int (2 : Int32) [(.int x0), (.int x1)] (.int (0 : Int32))) :
    MetFree l mn2 (head1 (Jvm.Cond.code mn2 jdk_65_method_123_code 3 (some (.array .int)) :: ws) ({ frames := 1, cells := 1, slots := 4, locals := 40 } : Room)) (fun a U => a = #[(.ref a1), (.int (4 : Int32))] ∧ Z.Warmed39 U.vm ∧ U.heap = h0) (fun _ _ _ _ _ => True) (fun _ U o U' => ∃ v L, o = .returned v ∧ Qrmcp2 Z a1 k1 x0 x1 h0 n0 v U'.heap L ∧ FrameEnd U o U' L ({ frames := 1, cells := 1, slots := 4, locals := 40 } : Room).cells ({ frames := 1, cells := 1, slots := 4, locals := 40 } : Room).slots) := by
 refine MetFree.of_bodySF (plainFor_of_name pn_5) hisR ?_
 intro p e s m args below meth c s₁ Bd hml0 hP hK
 obtain ⟨rfl, hZ, hh⟩ := hP
 have hx := Bd.exec
 have hby := Bd.bytes
 have hml : c.maxLocals = 3 := hml0
 have hown : s.vm.findClass "java/util/Arrays" = some m.cls := findClass_of_methodNamed Bd.named
 have hnm := (name_of_methodNamed Bd.named Bd.method).1
 have X0 : Stand p l e ({ frames := 1, cells := 1, slots := 4, locals := 40 } : Room) s m #[(.ref a1), (.int (4 : Int32))] below meth c s₁ [] 0 0 := Stand.of_body Bd
 have e0 : s₁.heap = h0 := by rw [← hh, Bd.state]; rfl
 have N0 := Fr.nil n0
 refine own_go (b := (s₁.setTop (mkF m 0 #[rv a1, iv (4 : Int32), .unset] []))) (fun _ k => castTop (ef_rmcp2 m a1 (4 : Int32)) k) ?_
 refine own_go (b := (s₁.setTop (mkF m 2 #[rv a1, iv (4 : Int32), .unset] [(.ref a1), (.int (4 : Int32))]))) (fun _ k => XS.iloadN X0.here hx rfl (hb hby d5_0) rfl (XS.aloadN X0.here hx rfl (hb hby d5_1) rfl rfl k)) ?_
 obtain ⟨cl1, Ar1, -, Sz1, Nn1, -, -⟩ := id V_a1
 refine own_go (b := (s₁.setTop (mkF m 15 #[rv a1, iv (4 : Int32), .unset] [(.int (4 : Int32))]))) (fun _ k => X0.arraylength hx (by rw [e0]; exact Ar1.1) (State.isArrayOf_alike hZ.alike Ar1.2.1) (g := (mkF m 2 #[rv a1, iv (4 : Int32), .unset] [(.ref a1), (.int (4 : Int32))])) rfl rfl (hb hby d5_2) _ (by rw [len_of Sz1 Nn1]; exact (XS.icmpYes X0.here hx rfl (pc0 := 3) (pc' := 14) rfl (hb hby d5_3) rfl (feq (by decide : ¬ ((4 : Int32) = (2 : Int32)))).2 (by decide) (by decide) (XS.iloadN X0.here hx rfl (hb hby d5_14) rfl k)))) ?_
 obtain ⟨T2, h2, kl2, X2, e2, E2, A2, st2⟩ := newP X0 hx hZ (ow hw 0 rfl) e0 (g := (mkF m 15 #[rv a1, iv (4 : Int32), .unset] [(.int (4 : Int32))])) rfl (hb hby d5_15) rfl (by decide) (cap := 4) (by decide) (by decide) (by decide) (by decide)
 obtain ⟨b2, g2⟩ : ∃ z, z = h0.size := ⟨_, rfl⟩
 rw [← g2] at A2 st2
 have Zs3 : n0 ≤ h2.size := Nat.le_trans Z0 E2.1
 have V2 : Arv Z h2 b2 kl2 .int (4 : Int32) [(.int (0 : Int32)), (.int (0 : Int32)), (.int (0 : Int32)), (.int (0 : Int32))] (.int (0 : Int32)) := (Arv.new A2 (by decide)).pad (pad_rep [] (.int (0 : Int32)) 4)
 refine own_go (b := (T2.setTop (mkF m 23 #[rv a1, iv (4 : Int32), rv b2] [(.ref a1), (.int (0 : Int32)), (.ref b2), (.int (0 : Int32)), (.ref a1)]))) (fun _ k => st2 _ (XS.astoreN X2.here hx rfl (hb hby d5_17) rfl rfl (l' := #[rv a1, iv (4 : Int32), rv b2]) rfl (XS.aloadN X2.here hx rfl (hb hby d5_18) rfl rfl (XS.iconst X2.here hx rfl (hb hby d5_19) (XS.aloadN X2.here hx rfl (hb hby d5_20) rfl rfl (XS.iconst X2.here hx rfl (hb hby d5_21) (XS.aloadN X2.here hx rfl (hb hby d5_22) rfl rfl k))))))) ?_
 have F5 := V_a1.ext E2
 obtain ⟨cl4, Ar4, -, Sz4, Nn4, -, -⟩ := id F5
 refine own_go (b := (T2.setTop (mkF m 25 #[rv a1, iv (4 : Int32), rv b2] [(.int (4 : Int32)), (.int (2 : Int32)), (.int (0 : Int32)), (.ref b2), (.int (0 : Int32)), (.ref a1)]))) (fun _ k => X2.arraylength hx (by rw [e2]; exact Ar4.1) (State.isArrayOf_alike hZ.alike Ar4.2.1) (g := (mkF m 23 #[rv a1, iv (4 : Int32), rv b2] [(.ref a1), (.int (0 : Int32)), (.ref b2), (.int (0 : Int32)), (.ref a1)])) rfl rfl (hb hby d5_23) _ (by rw [len_of Sz4 Nn4]; exact (XS.iloadN X2.here hx rfl (hb hby d5_24) rfl k))) ?_
 refine own_stat (W := 4) X2 hx hZ hown e2 (ow hw 39 rfl) (ow hw 40 rfl) (rmminA l Z a0 hw [] (2 : Int32) (4 : Int32) h2 n0 Zs3 (by decide)) (ow hw 42 rfl) (ow hw 41 rfl) rfl (by rw [hml]; rfl) rfl (hb hby d5_25) (lenOf pd__II_I rfl) rfl (by decide) (fun T6 v6 Ll6 X6 hQ6 => ?_)
 obtain ⟨rfl, N6q, eh6⟩ := hQ6
 have N6 := Fr.app N0 N6q
 have gx8 : n0 ≤ b2 := Nat.le_trans Z0 (Nat.le_of_eq g2.symm)
 obtain ⟨T7, h7, L7, X7, e7, N7, K7, V7, st7⟩ := cpA X6 hx hZ hown (ow hw 43 rfl) (ow hw 46 rfl) (ow hw 44 rfl) (ow hw 45 rfl) eh6 (us := [(.int x0), (.int x1)]) F5 V2 (Or.inl ⟨rfl, rfl⟩) (by decide) (by decide) (by decide) (by decide) (by decide) rfl (by decide) N6 gx8 (g := (mkF m 28 #[rv a1, iv (4 : Int32), rv b2] [(.int (2 : Int32)), (.int (0 : Int32)), (.ref b2), (.int (0 : Int32)), (.ref a1)])) rfl (by rw [hml]; rfl) rfl (hb hby d5_28) (by decide) (W := 0) (by show 2 * 0 + _ ≤ _; exact Nat.le_of_eq rfl) (by decide)
 have Zs9 : n0 ≤ h7.size := Nat.le_trans Zs3 K7.1
 have V7c : Arv Z h7 b2 kl2 .int (4 : Int32) [(.int x0), (.int x1), (.int (0 : Int32)), (.int (0 : Int32))] (.int (0 : Int32)) := V7
 refine own_go (b := (T7.setTop (mkF m 32 #[rv a1, iv (4 : Int32), rv b2] [(.ref b2)]))) (fun _ k => st7 _ (XS.aloadN X7.here hx rfl (hb hby d5_31) rfl rfl k)) ?_
 have K10 := (Keep.refl h0 []).ext E2
 have K11 := K10.trans K7 (allS (Or.inr (Nat.le_trans (Nat.le_refl _) (Nat.le_of_eq g2.symm))) all0)
 obtain ⟨fs, hr, hrun, hended, hW, hsame⟩ := X7.leave (v := some (.ref b2)) (fun h => by rw [Bd.returns] at h; cases h)
 exact ⟨_, _, retOut X7 hx Bd.returns rfl (Or.inr (Or.inr (Or.inr (Or.inr ⟨rfl, rfl, rfl⟩)))) (hb hby d5_32) hr, hrun, hended, _, _, rfl, (show Qrmcp2 Z a1 k1 x0 x1 h0 n0 _ T7.heap _ from (by rw [e7]; exact ⟨b2, kl2, rfl, N7, K11, (Nat.le_trans (Nat.le_refl _) (Nat.le_of_eq g2.symm)), V7c⟩)), ⟨_, rfl⟩, hW, hsame.mono (by decide) (by decide)⟩
theorem ef_rmcp3 (m : MethodId) (x0 : Addr) (x1 : Int32) : entryFrame m #[(.ref x0), (.int x1)] 3 = mkF m 0 #[rv x0, iv x1, .unset] [] := by first | (simp [entryFrame, mkF, argsToLocals, Value.category]; done) | rfl
def Qrmcp3 (Z : State) (a1 : Addr) (k1 : ClassId) (x0 : Int32) (x1 : Int32) (x2 : Int32) (h0 : Heap) (n0 : Nat) (v : Option Value) (h : Heap) (L : List Loc) : Prop := ∃ (b : Addr) (kb : ClassId), v = some (.ref b) ∧ Fr n0 L ∧ Keep h0 h [] ∧ (h0.size ≤ b) ∧ (Arv Z h b kb .int (6 : Int32) [(.int x0), (.int x1), (.int x2), (.int (0 : Int32)), (.int (0 : Int32)), (.int (0 : Int32))] (.int (0 : Int32)))
set_option maxRecDepth 65536 in
set_option maxHeartbeats 40000000 in
theorem rmcp3 (l : Launch) (Z : State) (a0 : Array Value) (hw : ∀ d ∈ tables_1, d.before a0 Z = true) (ws : List Jvm.Cond) (a1 : Addr) (k1 : ClassId) (x0 : Int32) (x1 : Int32) (x2 : Int32) (h0 : Heap) (n0 : Nat) (Z0 : n0 ≤ h0.size) (V_a1 : Arv Z h0 a1 k1 .int (3 : Int32) [(.int x0), (.int x1), (.int x2)] (.int (0 : Int32))) :
    MetFree l mn2 (head1 (Jvm.Cond.code mn2 jdk_65_method_123_code 3 (some (.array .int)) :: ws) ({ frames := 1, cells := 1, slots := 6, locals := 40 } : Room)) (fun a U => a = #[(.ref a1), (.int (6 : Int32))] ∧ Z.Warmed39 U.vm ∧ U.heap = h0) (fun _ _ _ _ _ => True) (fun _ U o U' => ∃ v L, o = .returned v ∧ Qrmcp3 Z a1 k1 x0 x1 x2 h0 n0 v U'.heap L ∧ FrameEnd U o U' L ({ frames := 1, cells := 1, slots := 6, locals := 40 } : Room).cells ({ frames := 1, cells := 1, slots := 6, locals := 40 } : Room).slots) := by
 refine MetFree.of_bodySF (plainFor_of_name pn_5) hisR ?_
 intro p e s m args below meth c s₁ Bd hml0 hP hK
 obtain ⟨rfl, hZ, hh⟩ := hP
 have hx := Bd.exec
 have hby := Bd.bytes
 have hml : c.maxLocals = 3 := hml0
 have hown : s.vm.findClass "java/util/Arrays" = some m.cls := findClass_of_methodNamed Bd.named
 have hnm := (name_of_methodNamed Bd.named Bd.method).1
 have X0 : Stand p l e ({ frames := 1, cells := 1, slots := 6, locals := 40 } : Room) s m #[(.ref a1), (.int (6 : Int32))] below meth c s₁ [] 0 0 := Stand.of_body Bd
 have e0 : s₁.heap = h0 := by rw [← hh, Bd.state]; rfl
 have N0 := Fr.nil n0
 refine own_go (b := (s₁.setTop (mkF m 0 #[rv a1, iv (6 : Int32), .unset] []))) (fun _ k => castTop (ef_rmcp3 m a1 (6 : Int32)) k) ?_
 refine own_go (b := (s₁.setTop (mkF m 2 #[rv a1, iv (6 : Int32), .unset] [(.ref a1), (.int (6 : Int32))]))) (fun _ k => XS.iloadN X0.here hx rfl (hb hby d5_0) rfl (XS.aloadN X0.here hx rfl (hb hby d5_1) rfl rfl k)) ?_
 obtain ⟨cl1, Ar1, -, Sz1, Nn1, -, -⟩ := id V_a1
 refine own_go (b := (s₁.setTop (mkF m 15 #[rv a1, iv (6 : Int32), .unset] [(.int (6 : Int32))]))) (fun _ k => X0.arraylength hx (by rw [e0]; exact Ar1.1) (State.isArrayOf_alike hZ.alike Ar1.2.1) (g := (mkF m 2 #[rv a1, iv (6 : Int32), .unset] [(.ref a1), (.int (6 : Int32))])) rfl rfl (hb hby d5_2) _ (by rw [len_of Sz1 Nn1]; exact (XS.icmpYes X0.here hx rfl (pc0 := 3) (pc' := 14) rfl (hb hby d5_3) rfl (feq (by decide : ¬ ((6 : Int32) = (3 : Int32)))).2 (by decide) (by decide) (XS.iloadN X0.here hx rfl (hb hby d5_14) rfl k)))) ?_
 obtain ⟨T2, h2, kl2, X2, e2, E2, A2, st2⟩ := newP X0 hx hZ (ow hw 0 rfl) e0 (g := (mkF m 15 #[rv a1, iv (6 : Int32), .unset] [(.int (6 : Int32))])) rfl (hb hby d5_15) rfl (by decide) (cap := 6) (by decide) (by decide) (by decide) (by decide)
 obtain ⟨b2, g2⟩ : ∃ z, z = h0.size := ⟨_, rfl⟩
 rw [← g2] at A2 st2
 have Zs3 : n0 ≤ h2.size := Nat.le_trans Z0 E2.1
 have V2 : Arv Z h2 b2 kl2 .int (6 : Int32) [(.int (0 : Int32)), (.int (0 : Int32)), (.int (0 : Int32)), (.int (0 : Int32)), (.int (0 : Int32)), (.int (0 : Int32))] (.int (0 : Int32)) := (Arv.new A2 (by decide)).pad (pad_rep [] (.int (0 : Int32)) 6)
 refine own_go (b := (T2.setTop (mkF m 23 #[rv a1, iv (6 : Int32), rv b2] [(.ref a1), (.int (0 : Int32)), (.ref b2), (.int (0 : Int32)), (.ref a1)]))) (fun _ k => st2 _ (XS.astoreN X2.here hx rfl (hb hby d5_17) rfl rfl (l' := #[rv a1, iv (6 : Int32), rv b2]) rfl (XS.aloadN X2.here hx rfl (hb hby d5_18) rfl rfl (XS.iconst X2.here hx rfl (hb hby d5_19) (XS.aloadN X2.here hx rfl (hb hby d5_20) rfl rfl (XS.iconst X2.here hx rfl (hb hby d5_21) (XS.aloadN X2.here hx rfl (hb hby d5_22) rfl rfl k))))))) ?_
 have F5 := V_a1.ext E2
 obtain ⟨cl4, Ar4, -, Sz4, Nn4, -, -⟩ := id F5
 refine own_go (b := (T2.setTop (mkF m 25 #[rv a1, iv (6 : Int32), rv b2] [(.int (6 : Int32)), (.int (3 : Int32)), (.int (0 : Int32)), (.ref b2), (.int (0 : Int32)), (.ref a1)]))) (fun _ k => X2.arraylength hx (by rw [e2]; exact Ar4.1) (State.isArrayOf_alike hZ.alike Ar4.2.1) (g := (mkF m 23 #[rv a1, iv (6 : Int32), rv b2] [(.ref a1), (.int (0 : Int32)), (.ref b2), (.int (0 : Int32)), (.ref a1)])) rfl rfl (hb hby d5_23) _ (by rw [len_of Sz4 Nn4]; exact (XS.iloadN X2.here hx rfl (hb hby d5_24) rfl k))) ?_
 refine own_stat (W := 4) X2 hx hZ hown e2 (ow hw 39 rfl) (ow hw 40 rfl) (rmminA l Z a0 hw [] (3 : Int32) (6 : Int32) h2 n0 Zs3 (by decide)) (ow hw 42 rfl) (ow hw 41 rfl) rfl (by rw [hml]; rfl) rfl (hb hby d5_25) (lenOf pd__II_I rfl) rfl (by decide) (fun T6 v6 Ll6 X6 hQ6 => ?_)
 obtain ⟨rfl, N6q, eh6⟩ := hQ6
 have N6 := Fr.app N0 N6q
 have gx8 : n0 ≤ b2 := Nat.le_trans Z0 (Nat.le_of_eq g2.symm)
 obtain ⟨T7, h7, L7, X7, e7, N7, K7, V7, st7⟩ := cpA X6 hx hZ hown (ow hw 43 rfl) (ow hw 46 rfl) (ow hw 44 rfl) (ow hw 45 rfl) eh6 (us := [(.int x0), (.int x1), (.int x2)]) F5 V2 (Or.inl ⟨rfl, rfl⟩) (by decide) (by decide) (by decide) (by decide) (by decide) rfl (by decide) N6 gx8 (g := (mkF m 28 #[rv a1, iv (6 : Int32), rv b2] [(.int (3 : Int32)), (.int (0 : Int32)), (.ref b2), (.int (0 : Int32)), (.ref a1)])) rfl (by rw [hml]; rfl) rfl (hb hby d5_28) (by decide) (W := 0) (by show 2 * 0 + _ ≤ _; exact Nat.le_of_eq rfl) (by decide)
 have Zs9 : n0 ≤ h7.size := Nat.le_trans Zs3 K7.1
 have V7c : Arv Z h7 b2 kl2 .int (6 : Int32) [(.int x0), (.int x1), (.int x2), (.int (0 : Int32)), (.int (0 : Int32)), (.int (0 : Int32))] (.int (0 : Int32)) := V7
 refine own_go (b := (T7.setTop (mkF m 32 #[rv a1, iv (6 : Int32), rv b2] [(.ref b2)]))) (fun _ k => st7 _ (XS.aloadN X7.here hx rfl (hb hby d5_31) rfl rfl k)) ?_
 have K10 := (Keep.refl h0 []).ext E2
 have K11 := K10.trans K7 (allS (Or.inr (Nat.le_trans (Nat.le_refl _) (Nat.le_of_eq g2.symm))) all0)
 obtain ⟨fs, hr, hrun, hended, hW, hsame⟩ := X7.leave (v := some (.ref b2)) (fun h => by rw [Bd.returns] at h; cases h)
 exact ⟨_, _, retOut X7 hx Bd.returns rfl (Or.inr (Or.inr (Or.inr (Or.inr ⟨rfl, rfl, rfl⟩)))) (hb hby d5_32) hr, hrun, hended, _, _, rfl, (show Qrmcp3 Z a1 k1 x0 x1 x2 h0 n0 _ T7.heap _ from (by rw [e7]; exact ⟨b2, kl2, rfl, N7, K11, (Nat.le_trans (Nat.le_refl _) (Nat.le_of_eq g2.symm)), V7c⟩)), ⟨_, rfl⟩, hW, hsame.mono (by decide) (by decide)⟩
theorem d4_0 : decode prog_25_method_3_code 0 = .ok (.aload_n 0, 1) := by decide +kernel
theorem d4_1 : decode prog_25_method_3_code 1 = .ok (.getfield 23, 3) := by decide +kernel
theorem d4_4 : decode prog_25_method_3_code 4 = .ok (.ifnull 13, 3) := by decide +kernel
theorem d4_7 : decode prog_25_method_3_code 7 = .ok (.new 26, 3) := by decide +kernel
theorem d4_10 : decode prog_25_method_3_code 10 = .ok (.dup, 1) := by decide +kernel
theorem d4_11 : decode prog_25_method_3_code 11 = .ok (.ldc 28, 2) := by decide +kernel
theorem d4_13 : decode prog_25_method_3_code 13 = .ok (.invokespecial 30, 3) := by decide +kernel
theorem d4_16 : decode prog_25_method_3_code 16 = .ok (.athrow, 1) := by decide +kernel
theorem d4_17 : decode prog_25_method_3_code 17 = .ok (.iconst 0, 1) := by decide +kernel
theorem d4_18 : decode prog_25_method_3_code 18 = .ok (.istore_n 3, 1) := by decide +kernel
theorem d4_19 : decode prog_25_method_3_code 19 = .ok (.iload_n 3, 1) := by decide +kernel
theorem d4_20 : decode prog_25_method_3_code 20 = .ok (.iload_n 2, 1) := by decide +kernel
theorem d4_21 : decode prog_25_method_3_code 21 = .ok (.if_icmp .ge 31, 3) := by decide +kernel
theorem d4_24 : decode prog_25_method_3_code 24 = .ok (.aload_n 1, 1) := by decide +kernel
theorem d4_25 : decode prog_25_method_3_code 25 = .ok (.iload_n 3, 1) := by decide +kernel
theorem d4_26 : decode prog_25_method_3_code 26 = .ok (.iaload, 1) := by decide +kernel
theorem d4_27 : decode prog_25_method_3_code 27 = .ok (.ifCond .ge 19, 3) := by decide +kernel
theorem d4_30 : decode prog_25_method_3_code 30 = .ok (.new 33, 3) := by decide +kernel
theorem d4_33 : decode prog_25_method_3_code 33 = .ok (.dup, 1) := by decide +kernel
theorem d4_34 : decode prog_25_method_3_code 34 = .ok (.aload_n 1, 1) := by decide +kernel
theorem d4_35 : decode prog_25_method_3_code 35 = .ok (.iload_n 3, 1) := by decide +kernel
theorem d4_36 : decode prog_25_method_3_code 36 = .ok (.iaload, 1) := by decide +kernel
theorem d4_37 : decode prog_25_method_3_code 37 = .ok (.invokedynamic 35, 5) := by decide +kernel
theorem d4_42 : decode prog_25_method_3_code 42 = .ok (.invokespecial 39, 3) := by decide +kernel
theorem d4_45 : decode prog_25_method_3_code 45 = .ok (.athrow, 1) := by decide +kernel
theorem d4_46 : decode prog_25_method_3_code 46 = .ok (.iinc 3 1, 3) := by decide +kernel
theorem d4_49 : decode prog_25_method_3_code 49 = .ok (.goto (-30), 3) := by decide +kernel
theorem d4_52 : decode prog_25_method_3_code 52 = .ok (.aload_n 0, 1) := by decide +kernel
theorem d4_53 : decode prog_25_method_3_code 53 = .ok (.dup, 1) := by decide +kernel
theorem d4_54 : decode prog_25_method_3_code 54 = .ok (.getfield 40, 3) := by decide +kernel
theorem d4_57 : decode prog_25_method_3_code 57 = .ok (.dup_x1, 1) := by decide +kernel
theorem d4_58 : decode prog_25_method_3_code 58 = .ok (.iconst 1, 1) := by decide +kernel
theorem d4_59 : decode prog_25_method_3_code 59 = .ok (.iadd, 1) := by decide +kernel
theorem d4_60 : decode prog_25_method_3_code 60 = .ok (.putfield 40, 3) := by decide +kernel
theorem d4_63 : decode prog_25_method_3_code 63 = .ok (.istore_n 3, 1) := by decide +kernel
theorem d4_64 : decode prog_25_method_3_code 64 = .ok (.aload_n 0, 1) := by decide +kernel
theorem d4_65 : decode prog_25_method_3_code 65 = .ok (.getfield 40, 3) := by decide +kernel
theorem d4_68 : decode prog_25_method_3_code 68 = .ok (.iconst 1, 1) := by decide +kernel
theorem d4_69 : decode prog_25_method_3_code 69 = .ok (.iadd, 1) := by decide +kernel
theorem d4_70 : decode prog_25_method_3_code 70 = .ok (.aload_n 0, 1) := by decide +kernel
theorem d4_71 : decode prog_25_method_3_code 71 = .ok (.getfield 19, 3) := by decide +kernel
theorem d4_74 : decode prog_25_method_3_code 74 = .ok (.arraylength, 1) := by decide +kernel
theorem d4_75 : decode prog_25_method_3_code 75 = .ok (.if_icmp .le 21, 3) := by decide +kernel
theorem d4_78 : decode prog_25_method_3_code 78 = .ok (.aload_n 0, 1) := by decide +kernel
theorem d4_79 : decode prog_25_method_3_code 79 = .ok (.aload_n 0, 1) := by decide +kernel
theorem d4_80 : decode prog_25_method_3_code 80 = .ok (.getfield 19, 3) := by decide +kernel
theorem d4_83 : decode prog_25_method_3_code 83 = .ok (.iconst 2, 1) := by decide +kernel
theorem d4_84 : decode prog_25_method_3_code 84 = .ok (.aload_n 0, 1) := by decide +kernel
theorem d4_85 : decode prog_25_method_3_code 85 = .ok (.getfield 19, 3) := by decide +kernel
theorem d4_88 : decode prog_25_method_3_code 88 = .ok (.arraylength, 1) := by decide +kernel
theorem d4_89 : decode prog_25_method_3_code 89 = .ok (.imul, 1) := by decide +kernel
theorem d4_90 : decode prog_25_method_3_code 90 = .ok (.invokestatic 44, 3) := by decide +kernel
theorem d4_93 : decode prog_25_method_3_code 93 = .ok (.putfield 19, 3) := by decide +kernel
theorem d4_96 : decode prog_25_method_3_code 96 = .ok (.aload_n 0, 1) := by decide +kernel
theorem d4_97 : decode prog_25_method_3_code 97 = .ok (.getfield 15, 3) := by decide +kernel
theorem d4_100 : decode prog_25_method_3_code 100 = .ok (.aload_n 1, 1) := by decide +kernel
theorem d4_101 : decode prog_25_method_3_code 101 = .ok (.iconst 0, 1) := by decide +kernel
theorem d4_102 : decode prog_25_method_3_code 102 = .ok (.iload_n 2, 1) := by decide +kernel
theorem d4_103 : decode prog_25_method_3_code 103 = .ok (.invokevirtual 50, 3) := by decide +kernel
theorem d4_106 : decode prog_25_method_3_code 106 = .ok (.aload_n 0, 1) := by decide +kernel
theorem d4_107 : decode prog_25_method_3_code 107 = .ok (.getfield 19, 3) := by decide +kernel
theorem d4_110 : decode prog_25_method_3_code 110 = .ok (.iload_n 3, 1) := by decide +kernel
theorem d4_111 : decode prog_25_method_3_code 111 = .ok (.iconst 1, 1) := by decide +kernel
theorem d4_112 : decode prog_25_method_3_code 112 = .ok (.iadd, 1) := by decide +kernel
theorem d4_113 : decode prog_25_method_3_code 113 = .ok (.aload_n 0, 1) := by decide +kernel
theorem d4_114 : decode prog_25_method_3_code 114 = .ok (.getfield 15, 3) := by decide +kernel
theorem d4_117 : decode prog_25_method_3_code 117 = .ok (.invokevirtual 54, 3) := by decide +kernel
theorem d4_120 : decode prog_25_method_3_code 120 = .ok (.iastore, 1) := by decide +kernel
theorem d4_121 : decode prog_25_method_3_code 121 = .ok (.iload_n 3, 1) := by decide +kernel
theorem d4_122 : decode prog_25_method_3_code 122 = .ok (.ireturn, 1) := by decide +kernel
theorem pd___II__I : parseMethodDescriptor "([II)[I" = some ⟨[(.array .int), .int], some (.array .int)⟩ := by decide +kernel
theorem pd___III_V : parseMethodDescriptor "([III)V" = some ⟨[(.array .int), .int, .int], none⟩ := by decide +kernel
theorem pd___I : parseMethodDescriptor "()I" = some ⟨[], some .int⟩ := by decide +kernel
theorem pn_4 : plainName cs0 = true := by first | (simp [plainName, overriddenIn]; done) | decide +kernel
theorem ef_rmap1_0N0 (m : MethodId) (x0 : Addr) (x1 : Addr) (x2 : Int32) : entryFrame m #[(.ref x0), (.ref x1), (.int x2)] 4 = mkF m 0 #[rv x0, rv x1, iv x2, .unset] [] := by first | (simp [entryFrame, mkF, argsToLocals, Value.category]; done) | rfl
def Qrmap1_0N0 (Z : State) (a1 : Addr) (a2 : Addr) (k2 : ClassId) (y0 : Int32) (y1 : Int32) (y2 : Int32) (ib : Addr) (ks : Addr) (kk : ClassId) (x_s : Int32) (x0 : Int32) (h0 : Heap) (n0 : Nat) (v : Option Value) (h : Heap) (L : List Loc) : Prop := ∃ (ksn : Addr) (kkn : ClassId), v = some (.int (0 : Int32)) ∧ Fr n0 L ∧ Keep h0 h [a1] ∧ (Fld Z h a1 cs0 "keys" "Lcom/example/arcwright/arcwright/parser/IntBlocks;" (.ref ib)) ∧ (Fld Z h a1 cs0 "labelStarts" "[I" .null) ∧ (Fld Z h a1 cs0 "size" "I" (.int (1 : Int32))) ∧ (h0.size ≤ ksn) ∧ (Fld Z h a1 cs0 "keyStarts" "[I" (.ref ksn)) ∧ (Arv Z h ksn kkn .int (2 : Int32) [(.int x0), (.int x_s)] (.int (0 : Int32)))
set_option maxRecDepth 65536 in
set_option maxHeartbeats 40000000 in
theorem rmap1_0N0 (l : Launch) (Z : State) (a0 : Array Value) (hw : ∀ d ∈ tables_1, d.before a0 Z = true) (ws : List Jvm.Cond) (a1 : Addr) (a2 : Addr) (k2 : ClassId) (y0 : Int32) (y1 : Int32) (y2 : Int32) (ib : Addr) (ks : Addr) (kk : ClassId) (x_s : Int32) (x0 : Int32) (h0 : Heap) (n0 : Nat) (Z0 : n0 ≤ h0.size) (E_a1 : Exa Z h0 a1 cs0) (Fld_a1_keys : Fld Z h0 a1 cs0 "keys" "Lcom/example/arcwright/arcwright/parser/IntBlocks;" (.ref ib)) (Fld_a1_keyStarts : Fld Z h0 a1 cs0 "keyStarts" "[I" (.ref ks)) (Fld_a1_labelStarts : Fld Z h0 a1 cs0 "labelStarts" "[I" .null) (Fld_a1_size : Fld Z h0 a1 cs0 "size" "I" (.int (0 : Int32))) (E_ib : Exa Z h0 ib cs1) (Fld_ib_size : Fld Z h0 ib cs1 "size" "I" (.int x_s)) (V_ks : Arv Z h0 ks kk .int (1 : Int32) [(.int x0)] (.int (0 : Int32))) (V_a2 : Arv Z h0 a2 k2 .int (3 : Int32) [(.int y0), (.int y1), (.int y2)] (.int (0 : Int32))) (g_a1 : n0 ≤ a1) (g_ib : n0 ≤ ib) (g_ks : n0 ≤ ks) (ne_ks_a2 : ks ≠ a2) (hy0 : ¬ (y0 < (0 : Int32))) (hy1 : ¬ (y1 < (0 : Int32))) (hy2 : ¬ (y2 < (0 : Int32))) :
    MetFree l mn0 (head1 (Jvm.Cond.code mn0 prog_25_method_3_code 4 (some .int) :: ws) ({ frames := 2, cells := 1, slots := 2, locals := 55 } : Room)) (fun a U => a = #[(.ref a1), (.ref a2), (.int (0 : Int32))] ∧ Z.Warmed39 U.vm ∧ U.heap = h0) (fun _ _ _ _ _ => True) (fun _ U o U' => ∃ v L, o = .returned v ∧ Qrmap1_0N0 Z a1 a2 k2 y0 y1 y2 ib ks kk x_s x0 h0 n0 v U'.heap L ∧ FrameEnd U o U' L ({ frames := 2, cells := 1, slots := 2, locals := 55 } : Room).cells ({ frames := 2, cells := 1, slots := 2, locals := 55 } : Room).slots) := by
 refine MetFree.of_bodySF (plainFor_of_name pn_4) hisR ?_
 intro p e s m args below meth c s₁ Bd hml0 hP hK
 obtain ⟨rfl, hZ, hh⟩ := hP
 have hx := Bd.exec
 have hby := Bd.bytes
 have hml : c.maxLocals = 4 := hml0
 have hown : s.vm.findClass cs0 = some m.cls := findClass_of_methodNamed Bd.named
 have hnm := (name_of_methodNamed Bd.named Bd.method).1
 have X0 : Stand p l e ({ frames := 2, cells := 1, slots := 2, locals := 55 } : Room) s m #[(.ref a1), (.ref a2), (.int (0 : Int32))] below meth c s₁ [] 0 0 := Stand.of_body Bd
 have e0 : s₁.heap = h0 := by rw [← hh, Bd.state]; rfl
 have N0 := Fr.nil n0
 refine own_go (b := (s₁.setTop (mkF m 0 #[rv a1, rv a2, iv (0 : Int32), .unset] []))) (fun _ k => castTop (ef_rmap1_0N0 m a1 a2 (0 : Int32)) k) ?_
 refine own_go (b := (s₁.setTop (mkF m 1 #[rv a1, rv a2, iv (0 : Int32), .unset] [(.ref a1)]))) (fun _ k => XS.aloadN X0.here hx rfl (hb hby d4_0) rfl rfl k) ?_
 refine own_getf X0 hx hZ hown (ow hw 31 rfl) Via.refl e0 Fld_a1_labelStarts rfl rfl (hb hby d4_1) (fun T1 X1 e1 => ?_)
 refine own_go (b := (T1.setTop (mkF m 54 #[rv a1, rv a2, iv (0 : Int32), iv (0 : Int32)] [(.ref a1), (.ref a1)]))) (fun _ k => XS.ifnullYes X1.here hx rfl (pc0 := 4) (pc' := 17) rfl (hb hby d4_4) rfl (by decide) (by decide) (XS.iconst X1.here hx rfl (hb hby d4_17) (XS.istoreN X1.here hx rfl (hb hby d4_18) rfl (l' := #[rv a1, rv a2, iv (0 : Int32), iv (0 : Int32)]) rfl (XS.iloadN X1.here hx rfl (hb hby d4_19) rfl (XS.iloadN X1.here hx rfl (hb hby d4_20) rfl (XS.icmpYes X1.here hx rfl (pc0 := 21) (pc' := 52) rfl (hb hby d4_21) rfl (flt (by decide : ¬ ((0 : Int32) < (0 : Int32)))).2.1 (by decide) (by decide) (XS.aloadN X1.here hx rfl (hb hby d4_52) rfl rfl (XS.dup X1.here hx rfl (hb hby d4_53) rfl rfl k)))))))) ?_
 refine own_getf X1 hx hZ hown (ow hw 33 rfl) Via.refl e1 Fld_a1_size rfl rfl (hb hby d4_54) (fun T2 X2 e2 => ?_)
 refine own_go (b := (T2.setTop (mkF m 60 #[rv a1, rv a2, iv (0 : Int32), iv (0 : Int32)] [(.int (1 : Int32)), (.ref a1), (.int (0 : Int32))]))) (fun _ k => XS.dupX1 X2.here hx rfl (hb hby d4_57) rfl rfl rfl (XS.iconst X2.here hx rfl (hb hby d4_58) (XS.iadd X2.here hx rfl (hb hby d4_59) rfl k))) ?_
 obtain ⟨T3, h3, X3, e3, W3, st3⟩ := putF X2 hx hZ hown (host := "") (Or.inl (ow hw 33 rfl)) Via.refl e2 Fld_a1_size E_a1 (Or.inl (ow hw 34 rfl)) (ow hw 3 rfl) (ty := .int) (by decide) rfl rfl (g := (mkF m 60 #[rv a1, rv a2, iv (0 : Int32), iv (0 : Int32)] [(.int (1 : Int32)), (.ref a1), (.int (0 : Int32))])) rfl rfl (hb hby d4_60)
 have N3 := Fr.snoc X3 N0 g_a1
 have Zs4 : n0 ≤ h3.size := Nat.le_trans Z0 (Keep.of_wr W3).1
 have F3 : Fld Z h3 a1 cs0 "size" "I" (.int (1 : Int32)) := Fld_a1_size.same W3
 refine own_go (b := (T3.setTop (mkF m 65 #[rv a1, rv a2, iv (0 : Int32), iv (0 : Int32)] [(.ref a1)]))) (fun _ k => st3 _ (XS.istoreN X3.here hx rfl (hb hby d4_63) rfl (l' := #[rv a1, rv a2, iv (0 : Int32), iv (0 : Int32)]) rfl (XS.aloadN X3.here hx rfl (hb hby d4_64) rfl rfl k))) ?_
 refine own_getf X3 hx hZ hown (ow hw 33 rfl) Via.refl e3 F3 rfl rfl (hb hby d4_65) (fun T5 X5 e5 => ?_)
 refine own_go (b := (T5.setTop (mkF m 71 #[rv a1, rv a2, iv (0 : Int32), iv (0 : Int32)] [(.ref a1), (.int (2 : Int32))]))) (fun _ k => XS.iconst X5.here hx rfl (hb hby d4_68) (XS.iadd X5.here hx rfl (hb hby d4_69) rfl (XS.aloadN X5.here hx rfl (hb hby d4_70) rfl rfl k))) ?_
 have F6 := Fld_a1_keyStarts.other W3 (Or.inr (slot_ne (Or.inl (ow hw 25 rfl)) (Or.inl (ow hw 34 rfl)) (by decide) (t := (.array .int)) (t' := .int) (by decide) (by decide)))
 refine own_getf X5 hx hZ hown (ow hw 24 rfl) Via.refl e5 F6 rfl rfl (hb hby d4_71) (fun T7 X7 e7 => ?_)
 obtain ⟨cn9, An9, -⟩ := id V_ks
 have nx10 : ks ≠ a1 := (Ne.symm (ne_arr E_a1 (ow hw 3 rfl) An9))
 have F11 := V_ks.other W3 nx10
 obtain ⟨cl8, Ar8, -, Sz8, Nn8, -, -⟩ := id F11
 refine own_go (b := (T7.setTop (mkF m 80 #[rv a1, rv a2, iv (0 : Int32), iv (0 : Int32)] [(.ref a1), (.ref a1)]))) (fun _ k => X7.arraylength hx (by rw [e7]; exact Ar8.1) (State.isArrayOf_alike hZ.alike Ar8.2.1) (g := (mkF m 74 #[rv a1, rv a2, iv (0 : Int32), iv (0 : Int32)] [(.ref ks), (.int (2 : Int32))])) rfl rfl (hb hby d4_74) _ (by rw [len_of Sz8 Nn8]; exact (XS.icmpNo X7.here hx rfl (hb hby d4_75) rfl (tlt (by decide : (1 : Int32) < (2 : Int32))).2.2.2 (XS.aloadN X7.here hx rfl (hb hby d4_78) rfl rfl (XS.aloadN X7.here hx rfl (hb hby d4_79) rfl rfl k))))) ?_
 refine own_getf X7 hx hZ hown (ow hw 24 rfl) Via.refl e7 F6 rfl rfl (hb hby d4_80) (fun T12 X12 e12 => ?_)
 refine own_go (b := (T12.setTop (mkF m 85 #[rv a1, rv a2, iv (0 : Int32), iv (0 : Int32)] [(.ref a1), (.int (2 : Int32)), (.ref ks), (.ref a1)]))) (fun _ k => XS.iconst X12.here hx rfl (hb hby d4_83) (XS.aloadN X12.here hx rfl (hb hby d4_84) rfl rfl k)) ?_
 refine own_getf X12 hx hZ hown (ow hw 24 rfl) Via.refl e12 F6 rfl rfl (hb hby d4_85) (fun T13 X13 e13 => ?_)
 obtain ⟨cl14, Ar14, -, Sz14, Nn14, -, -⟩ := id F11
 refine own_go (b := (T13.setTop (mkF m 90 #[rv a1, rv a2, iv (0 : Int32), iv (0 : Int32)] [(.int (2 : Int32)), (.ref ks), (.ref a1)]))) (fun _ k => X13.arraylength hx (by rw [e13]; exact Ar14.1) (State.isArrayOf_alike hZ.alike Ar14.2.1) (g := (mkF m 88 #[rv a1, rv a2, iv (0 : Int32), iv (0 : Int32)] [(.ref ks), (.int (2 : Int32)), (.ref ks), (.ref a1)])) rfl rfl (hb hby d4_88) _ (by rw [len_of Sz14 Nn14]; exact (XS.imul X13.here hx rfl (hb hby d4_89) rfl k))) ?_
 refine own_stat (W := 1) X13 hx hZ hown e13 (ow hw 35 rfl) (ow hw 36 rfl) (rmcp1 l Z a0 hw [] ks kk x0 h3 n0 Zs4 F11) (ow hw 38 rfl) (ow hw 37 rfl) rfl (by rw [hml]; rfl) rfl (hb hby d4_90) (lenOf pd___II__I rfl) rfl (by decide) (fun T15 v15 Ll15 X15 hQ15 => ?_)
 obtain ⟨b_15, kb_15, rfl, N15q, K15, P15_0, P15_1⟩ := hQ15
 have N15 := Fr.app N3 N15q
 have Zs16 : n0 ≤ T15.heap.size := Nat.le_trans Zs4 K15.1
 have F17 := E_a1.wr W3
 have F18 := F17.keep K15
 have F19 := F6.keep K15 nin0
 obtain ⟨T20, h20, X20, e20, W20, st20⟩ := putF X15 hx hZ hown (host := "") (Or.inl (ow hw 24 rfl)) Via.refl rfl F19 F18 (Or.inl (ow hw 25 rfl)) (ow hw 3 rfl) (ty := (.array .int)) (by decide) rfl rfl (g := (mkF m 93 #[rv a1, rv a2, iv (0 : Int32), iv (0 : Int32)] [(.ref b_15), (.ref a1)])) rfl rfl (hb hby d4_93)
 have N20 := Fr.snoc X20 N15 g_a1
 have Zs21 : n0 ≤ h20.size := Nat.le_trans Zs16 (Keep.of_wr W20).1
 have F20 : Fld Z h20 a1 cs0 "keyStarts" "[I" (.ref b_15) := F19.same W20
 refine own_go (b := (T20.setTop (mkF m 97 #[rv a1, rv a2, iv (0 : Int32), iv (0 : Int32)] [(.ref a1)]))) (fun _ k => st20 _ (XS.aloadN X20.here hx rfl (hb hby d4_96) rfl rfl k)) ?_
 have F22 := Fld_a1_keys.other W3 (Or.inr (slot_ne (Or.inr (ow hw 23 rfl)) (Or.inl (ow hw 34 rfl)) (by decide) (t := (.object cs1)) (t' := .int) (by decide) (by decide)))
 have F23 := F22.keep K15 nin0
 have F24 := F23.other W20 (Or.inr (slot_ne (Or.inr (ow hw 23 rfl)) (Or.inl (ow hw 25 rfl)) (by decide) (t := (.object cs1)) (t' := (.array .int)) (by decide) (by decide)))
 refine own_getf X20 hx hZ hown (ow hw 22 rfl) Via.refl e20 F24 rfl rfl (hb hby d4_97) (fun T25 X25 e25 => ?_)
 refine own_go (b := (T25.setTop (mkF m 103 #[rv a1, rv a2, iv (0 : Int32), iv (0 : Int32)] [(.int (0 : Int32)), (.int (0 : Int32)), (.ref a2), (.ref ib)]))) (fun _ k => XS.aloadN X25.here hx rfl (hb hby d4_100) rfl rfl (XS.iconst X25.here hx rfl (hb hby d4_101) (XS.iloadN X25.here hx rfl (hb hby d4_102) rfl k))) ?_
 have F27 := E_ib.wr W3
 have F28 := F27.keep K15
 have F29 := F28.wr W20
 refine own_virt (W := 0) X25 hx hZ hown e25 (ow hw 47 rfl) (ow hw 48 rfl) (ow hw 50 rfl) (ow hw 49 rfl) (rmadd0 l Z a0 hw [] ib a2 h20 n0 Zs21) (ow hw 51 rfl) (ow hw 13 rfl) F29 rfl (by rw [hml]; rfl) rfl (hb hby d4_103) (lenOf pd___III_V rfl) rfl (by decide) (fun T26 v26 Ll26 X26 hQ26 => ?_)
 obtain ⟨rfl, N26q, eh26⟩ := hQ26
 have N26 := Fr.app N20 N26q
 refine own_go (b := (T26.setTop (mkF m 107 #[rv a1, rv a2, iv (0 : Int32), iv (0 : Int32)] [(.ref a1)]))) (fun _ k => XS.aloadN X26.here hx rfl (hb hby d4_106) rfl rfl k) ?_
 refine own_getf X26 hx hZ hown (ow hw 24 rfl) Via.refl eh26 F20 rfl rfl (hb hby d4_107) (fun T30 X30 e30 => ?_)
 refine own_go (b := (T30.setTop (mkF m 114 #[rv a1, rv a2, iv (0 : Int32), iv (0 : Int32)] [(.ref a1), (.int (1 : Int32)), (.ref b_15)]))) (fun _ k => XS.iloadN X30.here hx rfl (hb hby d4_110) rfl (XS.iconst X30.here hx rfl (hb hby d4_111) (XS.iadd X30.here hx rfl (hb hby d4_112) rfl (XS.aloadN X30.here hx rfl (hb hby d4_113) rfl rfl k)))) ?_
 refine own_getf X30 hx hZ hown (ow hw 22 rfl) Via.refl e30 F24 rfl rfl (hb hby d4_114) (fun T31 X31 e31 => ?_)
 have nx33 : ib ≠ a1 := (ne_exa E_ib E_a1 (by decide))
 have F34 := Fld_ib_size.other W3 (Or.inl nx33)
 have F35 := F34.keep K15 nin0
 have F36 := F35.other W20 (Or.inl nx33)
 refine own_virt (W := 2) X31 hx hZ hown e31 (ow hw 63 rfl) (ow hw 64 rfl) (ow hw 66 rfl) (ow hw 65 rfl) (rm9 l Z a0 hw [] ib x_s h20 n0 Zs21 F36) (ow hw 67 rfl) (ow hw 13 rfl) F29 rfl (by rw [hml]; rfl) rfl (hb hby d4_117) (lenOf pd___I rfl) rfl (by decide) (fun T32 v32 Ll32 X32 hQ32 => ?_)
 obtain ⟨rfl, N32q, eh32⟩ := hQ32
 have N32 := Fr.app N26 N32q
 have nx38 : b_15 ≠ a1 := (Ne.symm (own_ne E_a1.lt (Keep.of_wr W3).1 P15_0))
 have F39 := P15_1.other W20 nx38
 obtain ⟨cl37, Ar37, ql37, Sz37, Nn37, Hl37, Gl37⟩ := id F39
 have hin37 : ¬ ((1 : Int32) < 0 ∨ cl37.slots.size ≤ ((1 : Int32)).toNatClampNeg) := inb_of Sz37 ⟨by decide, by decide⟩
 obtain ⟨T37, h37, X37, e37, W37, st37⟩ := stI X32 hx hZ eh32 Ar37 (j := (1 : Int32)) hin37 (g := (mkF m 120 #[rv a1, rv a2, iv (0 : Int32), iv (0 : Int32)] [(.int x_s), (.int (1 : Int32)), (.ref b_15)])) rfl rfl (hb hby d4_120)
 have gx40 : n0 ≤ b_15 := Nat.le_trans Zs4 P15_0
 have N37 := Fr.snoc X37 N32 gx40
 have Zs41 : n0 ≤ h37.size := Nat.le_trans Zs21 (Keep.of_wr W37).1
 have V37 : Arv Z h37 b_15 kb_15 .int (2 : Int32) [(.int x0), (.int x_s)] (.int (0 : Int32)) := Arv.set Ar37 ql37 Sz37 Nn37 Hl37 Gl37 rfl W37 1 rfl (Nat.le_of_ble_eq_true rfl)
 refine own_go (b := (T37.setTop (mkF m 122 #[rv a1, rv a2, iv (0 : Int32), iv (0 : Int32)] [(.int (0 : Int32))]))) (fun _ k => st37 _ (XS.iloadN X37.here hx rfl (hb hby d4_121) rfl k)) ?_
 have K42 := (Keep.refl h0 [a1]).wr W3 (Or.inl (List.mem_of_getElem? (i := 0) rfl))
 have K43 := K42.trans K15 all0
 have K44 := K43.wr W20 (Or.inl (List.mem_of_getElem? (i := 0) rfl))
 have K45 := K44.wr W37 (Or.inr (Nat.le_trans (Keep.of_wr W3).1 P15_0))
 have F46 := F24.other W37 (Or.inl (Ne.symm nx38))
 have F47 := Fld_a1_labelStarts.other W3 (Or.inr (slot_ne (Or.inl (ow hw 32 rfl)) (Or.inl (ow hw 34 rfl)) (by decide) (t := (.array .int)) (t' := .int) (by decide) (by decide)))
 have F48 := F47.keep K15 nin0
 have F49 := F48.other W20 (Or.inr (slot_ne (Or.inl (ow hw 32 rfl)) (Or.inl (ow hw 25 rfl)) (by decide) (t := (.array .int)) (t' := (.array .int)) (by decide) (by decide)))
 have F50 := F49.other W37 (Or.inl (Ne.symm nx38))
 have F51 := F3.keep K15 nin0
 have F52 := F51.other W20 (Or.inr (slot_ne (Or.inl (ow hw 34 rfl)) (Or.inl (ow hw 25 rfl)) (by decide) (t := .int) (t' := (.array .int)) (by decide) (by decide)))
 have F53 := F52.other W37 (Or.inl (Ne.symm nx38))
 have F54 := F20.other W37 (Or.inl (Ne.symm nx38))
 obtain ⟨fs, hr, hrun, hended, hW, hsame⟩ := X37.leave (v := some (.int (0 : Int32))) (fun h => by rw [Bd.returns] at h; cases h)
 exact ⟨_, _, retOut X37 hx Bd.returns rfl (Or.inl ⟨rfl, Or.inl rfl, _, rfl⟩) (hb hby d4_122) hr, hrun, hended, _, _, rfl, (show Qrmap1_0N0 Z a1 a2 k2 y0 y1 y2 ib ks kk x_s x0 h0 n0 _ T37.heap _ from (by rw [e37]; exact ⟨b_15, kb_15, rfl, N37, K45, F46, F50, F53, (Nat.le_trans (Keep.of_wr W3).1 P15_0), F54, V37⟩)), ⟨_, rfl⟩, hW, hsame.mono (by decide) (by decide)⟩
theorem ef_rmap1_0E1 (m : MethodId) (x0 : Addr) (x1 : Addr) (x2 : Int32) : entryFrame m #[(.ref x0), (.ref x1), (.int x2)] 4 = mkF m 0 #[rv x0, rv x1, iv x2, .unset] [] := by first | (simp [entryFrame, mkF, argsToLocals, Value.category]; done) | rfl
def Qrmap1_0E1 (Z : State) (a1 : Addr) (a2 : Addr) (k2 : ClassId) (y0 : Int32) (y1 : Int32) (y2 : Int32) (p4 : Int32) (ib : Addr) (ks : Addr) (kk : ClassId) (bl : Addr) (kb : ClassId) (x0 : Int32) (h0 : Heap) (n0 : Nat) (v : Option Value) (h : Heap) (L : List Loc) : Prop := ∃ (ksn : Addr) (kkn : ClassId) (cn : Addr) (kn : ClassId) (vsn : List Value), v = some (.int (0 : Int32)) ∧ Fr n0 L ∧ Keep h0 h [a1, ib, bl] ∧ (Fld Z h a1 cs0 "keys" "Lcom/example/arcwright/arcwright/parser/IntBlocks;" (.ref ib)) ∧ (Fld Z h a1 cs0 "labelStarts" "[I" .null) ∧ (Fld Z h a1 cs0 "size" "I" (.int (1 : Int32))) ∧ (h0.size ≤ ksn) ∧ (Fld Z h a1 cs0 "keyStarts" "[I" (.ref ksn)) ∧ (Arv Z h ksn kkn .int (2 : Int32) [(.int x0), (.int p4)] (.int (0 : Int32))) ∧ (Fld Z h ib cs1 "size" "I" (.int p4)) ∧ (Fld Z h ib cs1 "blocks" "[[I" (.ref bl)) ∧ (h0.size ≤ cn) ∧ (Arv Z h bl kb (.array .int) (16 : Int32) ((.ref cn) :: own_n15) .null) ∧ (Arv Z h cn kn .int (65536 : Int32) vsn (.int (0 : Int32))) ∧ (16 ≤ vsn.length) ∧ (ksn ≠ cn)
set_option maxRecDepth 65536 in
set_option maxHeartbeats 40000000 in
theorem rmap1_0E1 (l : Launch) (Z : State) (a0 : Array Value) (hw : ∀ d ∈ tables_1, d.before a0 Z = true) (ws : List Jvm.Cond) (a1 : Addr) (a2 : Addr) (k2 : ClassId) (y0 : Int32) (y1 : Int32) (y2 : Int32) (p4 : Int32) (ib : Addr) (ks : Addr) (kk : ClassId) (bl : Addr) (kb : ClassId) (x0 : Int32) (h0 : Heap) (n0 : Nat) (Z0 : n0 ≤ h0.size) (E_a1 : Exa Z h0 a1 cs0) (Fld_a1_keys : Fld Z h0 a1 cs0 "keys" "Lcom/example/arcwright/arcwright/parser/IntBlocks;" (.ref ib)) (Fld_a1_keyStarts : Fld Z h0 a1 cs0 "keyStarts" "[I" (.ref ks)) (Fld_a1_labelStarts : Fld Z h0 a1 cs0 "labelStarts" "[I" .null) (Fld_a1_size : Fld Z h0 a1 cs0 "size" "I" (.int (0 : Int32))) (E_ib : Exa Z h0 ib cs1) (Fld_ib_size : Fld Z h0 ib cs1 "size" "I" (.int (0 : Int32))) (Fld_ib_blocks : Fld Z h0 ib cs1 "blocks" "[[I" (.ref bl)) (V_ks : Arv Z h0 ks kk .int (1 : Int32) [(.int x0)] (.int (0 : Int32))) (V_a2 : Arv Z h0 a2 k2 .int (3 : Int32) [(.int y0), (.int y1), (.int y2)] (.int (0 : Int32))) (g_a1 : n0 ≤ a1) (g_ib : n0 ≤ ib) (g_ks : n0 ≤ ks) (ne_ks_a2 : ks ≠ a2) (g_bl : n0 ≤ bl) (ne_ks_bl : ks ≠ bl) (ne_a2_bl : a2 ≠ bl) (hy0 : ¬ (y0 < (0 : Int32))) (hy1 : ¬ (y1 < (0 : Int32))) (hy2 : ¬ (y2 < (0 : Int32))) (hn0 : (0 : Int32) < p4) (hn3 : ¬ ((3 : Int32) < p4)) (V_bl : Arv Z h0 bl kb (.array .int) (16 : Int32) own_n16 .null) (Ov_bl : OvrA Z kb .int "[I") :
    MetFree l mn0 (head1 (Jvm.Cond.code mn0 prog_25_method_3_code 4 (some .int) :: ws) ({ frames := 2, cells := 2, slots := 65538, locals := 58 } : Room)) (fun a U => a = #[(.ref a1), (.ref a2), (.int p4)] ∧ Z.Warmed39 U.vm ∧ U.heap = h0) (fun _ _ _ _ _ => True) (fun _ U o U' => ∃ v L, o = .returned v ∧ Qrmap1_0E1 Z a1 a2 k2 y0 y1 y2 p4 ib ks kk bl kb x0 h0 n0 v U'.heap L ∧ FrameEnd U o U' L ({ frames := 2, cells := 2, slots := 65538, locals := 58 } : Room).cells ({ frames := 2, cells := 2, slots := 65538, locals := 58 } : Room).slots) := by
 refine MetFree.of_bodySF (plainFor_of_name pn_4) hisR ?_
 intro p e s m args below meth c s₁ Bd hml0 hP hK
 obtain ⟨rfl, hZ, hh⟩ := hP
 have hx := Bd.exec
 have hby := Bd.bytes
 have hml : c.maxLocals = 4 := hml0
 have hown : s.vm.findClass cs0 = some m.cls := findClass_of_methodNamed Bd.named
 have hnm := (name_of_methodNamed Bd.named Bd.method).1
 have X0 : Stand p l e ({ frames := 2, cells := 2, slots := 65538, locals := 58 } : Room) s m #[(.ref a1), (.ref a2), (.int p4)] below meth c s₁ [] 0 0 := Stand.of_body Bd
 have e0 : s₁.heap = h0 := by rw [← hh, Bd.state]; rfl
 have N0 := Fr.nil n0
 refine own_go (b := (s₁.setTop (mkF m 0 #[rv a1, rv a2, iv p4, .unset] []))) (fun _ k => castTop (ef_rmap1_0E1 m a1 a2 p4) k) ?_
 refine own_go (b := (s₁.setTop (mkF m 1 #[rv a1, rv a2, iv p4, .unset] [(.ref a1)]))) (fun _ k => XS.aloadN X0.here hx rfl (hb hby d4_0) rfl rfl k) ?_
 refine own_getf X0 hx hZ hown (ow hw 31 rfl) Via.refl e0 Fld_a1_labelStarts rfl rfl (hb hby d4_1) (fun T1 X1 e1 => ?_)
 refine own_go (b := (T1.setTop (mkF m 19 #[rv a1, rv a2, iv p4, iv (0 : Int32)] []))) (fun _ k => XS.ifnullYes X1.here hx rfl (pc0 := 4) (pc' := 17) rfl (hb hby d4_4) rfl (by decide) (by decide) (XS.iconst X1.here hx rfl (hb hby d4_17) (XS.istoreN X1.here hx rfl (hb hby d4_18) rfl (l' := #[rv a1, rv a2, iv p4, iv (0 : Int32)]) rfl k))) ?_
 refine own_join (A := Int32) (C := fun ii => True) (f := fun ii => (T1.setTop (mkF m 52 #[rv a1, rv a2, iv p4, iv ii] []))) ?_ ?_
 · intro ii hj2
   refine own_go (b := (T1.setTop (mkF m 54 #[rv a1, rv a2, iv p4, iv ii] [(.ref a1), (.ref a1)]))) (fun _ k => XS.aloadN X1.here hx rfl (hb hby d4_52) rfl rfl (XS.dup X1.here hx rfl (hb hby d4_53) rfl rfl k)) ?_
   refine own_getf X1 hx hZ hown (ow hw 33 rfl) Via.refl e1 Fld_a1_size rfl rfl (hb hby d4_54) (fun T3 X3 e3 => ?_)
   refine own_go (b := (T3.setTop (mkF m 60 #[rv a1, rv a2, iv p4, iv ii] [(.int (1 : Int32)), (.ref a1), (.int (0 : Int32))]))) (fun _ k => XS.dupX1 X3.here hx rfl (hb hby d4_57) rfl rfl rfl (XS.iconst X3.here hx rfl (hb hby d4_58) (XS.iadd X3.here hx rfl (hb hby d4_59) rfl k))) ?_
   obtain ⟨T4, h4, X4, e4, W4, st4⟩ := putF X3 hx hZ hown (host := "") (Or.inl (ow hw 33 rfl)) Via.refl e3 Fld_a1_size E_a1 (Or.inl (ow hw 34 rfl)) (ow hw 3 rfl) (ty := .int) (by decide) rfl rfl (g := (mkF m 60 #[rv a1, rv a2, iv p4, iv ii] [(.int (1 : Int32)), (.ref a1), (.int (0 : Int32))])) rfl rfl (hb hby d4_60)
   have N4 := Fr.snoc X4 N0 g_a1
   have Zs5 : n0 ≤ h4.size := Nat.le_trans Z0 (Keep.of_wr W4).1
   have F4 : Fld Z h4 a1 cs0 "size" "I" (.int (1 : Int32)) := Fld_a1_size.same W4
   refine own_go (b := (T4.setTop (mkF m 65 #[rv a1, rv a2, iv p4, iv (0 : Int32)] [(.ref a1)]))) (fun _ k => st4 _ (XS.istoreN X4.here hx rfl (hb hby d4_63) rfl (l' := #[rv a1, rv a2, iv p4, iv (0 : Int32)]) rfl (XS.aloadN X4.here hx rfl (hb hby d4_64) rfl rfl k))) ?_
   refine own_getf X4 hx hZ hown (ow hw 33 rfl) Via.refl e4 F4 rfl rfl (hb hby d4_65) (fun T6 X6 e6 => ?_)
   refine own_go (b := (T6.setTop (mkF m 71 #[rv a1, rv a2, iv p4, iv (0 : Int32)] [(.ref a1), (.int (2 : Int32))]))) (fun _ k => XS.iconst X6.here hx rfl (hb hby d4_68) (XS.iadd X6.here hx rfl (hb hby d4_69) rfl (XS.aloadN X6.here hx rfl (hb hby d4_70) rfl rfl k))) ?_
   have F7 := Fld_a1_keyStarts.other W4 (Or.inr (slot_ne (Or.inl (ow hw 25 rfl)) (Or.inl (ow hw 34 rfl)) (by decide) (t := (.array .int)) (t' := .int) (by decide) (by decide)))
   refine own_getf X6 hx hZ hown (ow hw 24 rfl) Via.refl e6 F7 rfl rfl (hb hby d4_71) (fun T8 X8 e8 => ?_)
   obtain ⟨cn10, An10, -⟩ := id V_ks
   have nx11 : ks ≠ a1 := (Ne.symm (ne_arr E_a1 (ow hw 3 rfl) An10))
   have F12 := V_ks.other W4 nx11
   obtain ⟨cl9, Ar9, -, Sz9, Nn9, -, -⟩ := id F12
   refine own_go (b := (T8.setTop (mkF m 80 #[rv a1, rv a2, iv p4, iv (0 : Int32)] [(.ref a1), (.ref a1)]))) (fun _ k => X8.arraylength hx (by rw [e8]; exact Ar9.1) (State.isArrayOf_alike hZ.alike Ar9.2.1) (g := (mkF m 74 #[rv a1, rv a2, iv p4, iv (0 : Int32)] [(.ref ks), (.int (2 : Int32))])) rfl rfl (hb hby d4_74) _ (by rw [len_of Sz9 Nn9]; exact (XS.icmpNo X8.here hx rfl (hb hby d4_75) rfl (tlt (by decide : (1 : Int32) < (2 : Int32))).2.2.2 (XS.aloadN X8.here hx rfl (hb hby d4_78) rfl rfl (XS.aloadN X8.here hx rfl (hb hby d4_79) rfl rfl k))))) ?_
   refine own_getf X8 hx hZ hown (ow hw 24 rfl) Via.refl e8 F7 rfl rfl (hb hby d4_80) (fun T13 X13 e13 => ?_)
   refine own_go (b := (T13.setTop (mkF m 85 #[rv a1, rv a2, iv p4, iv (0 : Int32)] [(.ref a1), (.int (2 : Int32)), (.ref ks), (.ref a1)]))) (fun _ k => XS.iconst X13.here hx rfl (hb hby d4_83) (XS.aloadN X13.here hx rfl (hb hby d4_84) rfl rfl k)) ?_
   refine own_getf X13 hx hZ hown (ow hw 24 rfl) Via.refl e13 F7 rfl rfl (hb hby d4_85) (fun T14 X14 e14 => ?_)
   obtain ⟨cl15, Ar15, -, Sz15, Nn15, -, -⟩ := id F12
   refine own_go (b := (T14.setTop (mkF m 90 #[rv a1, rv a2, iv p4, iv (0 : Int32)] [(.int (2 : Int32)), (.ref ks), (.ref a1)]))) (fun _ k => X14.arraylength hx (by rw [e14]; exact Ar15.1) (State.isArrayOf_alike hZ.alike Ar15.2.1) (g := (mkF m 88 #[rv a1, rv a2, iv p4, iv (0 : Int32)] [(.ref ks), (.int (2 : Int32)), (.ref ks), (.ref a1)])) rfl rfl (hb hby d4_88) _ (by rw [len_of Sz15 Nn15]; exact (XS.imul X14.here hx rfl (hb hby d4_89) rfl k))) ?_
   refine own_stat (W := 1) X14 hx hZ hown e14 (ow hw 35 rfl) (ow hw 36 rfl) (rmcp1 l Z a0 hw [] ks kk x0 h4 n0 Zs5 F12) (ow hw 38 rfl) (ow hw 37 rfl) rfl (by rw [hml]; rfl) rfl (hb hby d4_90) (lenOf pd___II__I rfl) rfl (by decide) (fun T16 v16 Ll16 X16 hQ16 => ?_)
   obtain ⟨b_16, kb_16, rfl, N16q, K16, P16_0, P16_1⟩ := hQ16
   have N16 := Fr.app N4 N16q
   have Zs17 : n0 ≤ T16.heap.size := Nat.le_trans Zs5 K16.1
   have F18 := E_a1.wr W4
   have F19 := F18.keep K16
   have F20 := F7.keep K16 nin0
   obtain ⟨T21, h21, X21, e21, W21, st21⟩ := putF X16 hx hZ hown (host := "") (Or.inl (ow hw 24 rfl)) Via.refl rfl F20 F19 (Or.inl (ow hw 25 rfl)) (ow hw 3 rfl) (ty := (.array .int)) (by decide) rfl rfl (g := (mkF m 93 #[rv a1, rv a2, iv p4, iv (0 : Int32)] [(.ref b_16), (.ref a1)])) rfl rfl (hb hby d4_93)
   have N21 := Fr.snoc X21 N16 g_a1
   have Zs22 : n0 ≤ h21.size := Nat.le_trans Zs17 (Keep.of_wr W21).1
   have F21 : Fld Z h21 a1 cs0 "keyStarts" "[I" (.ref b_16) := F20.same W21
   refine own_go (b := (T21.setTop (mkF m 97 #[rv a1, rv a2, iv p4, iv (0 : Int32)] [(.ref a1)]))) (fun _ k => st21 _ (XS.aloadN X21.here hx rfl (hb hby d4_96) rfl rfl k)) ?_
   have F23 := Fld_a1_keys.other W4 (Or.inr (slot_ne (Or.inr (ow hw 23 rfl)) (Or.inl (ow hw 34 rfl)) (by decide) (t := (.object cs1)) (t' := .int) (by decide) (by decide)))
   have F24 := F23.keep K16 nin0
   have F25 := F24.other W21 (Or.inr (slot_ne (Or.inr (ow hw 23 rfl)) (Or.inl (ow hw 25 rfl)) (by decide) (t := (.object cs1)) (t' := (.array .int)) (by decide) (by decide)))
   refine own_getf X21 hx hZ hown (ow hw 22 rfl) Via.refl e21 F25 rfl rfl (hb hby d4_97) (fun T26 X26 e26 => ?_)
   refine own_go (b := (T26.setTop (mkF m 103 #[rv a1, rv a2, iv p4, iv (0 : Int32)] [(.int p4), (.int (0 : Int32)), (.ref a2), (.ref ib)]))) (fun _ k => XS.aloadN X26.here hx rfl (hb hby d4_100) rfl rfl (XS.iconst X26.here hx rfl (hb hby d4_101) (XS.iloadN X26.here hx rfl (hb hby d4_102) rfl k))) ?_
   have F28 := E_ib.wr W4
   have F29 := F28.keep K16
   have F30 := F29.wr W21
   have nx31 : ib ≠ a1 := (ne_exa E_ib E_a1 (by decide))
   have F32 := Fld_ib_size.other W4 (Or.inl nx31)
   have F33 := F32.keep K16 nin0
   have F34 := F33.other W21 (Or.inl nx31)
   have F35 := Fld_ib_blocks.other W4 (Or.inl nx31)
   have F36 := F35.keep K16 nin0
   have F37 := F36.other W21 (Or.inl nx31)
   obtain ⟨cn38, An38, -⟩ := id V_bl
   have nx39 : bl ≠ a1 := (Ne.symm (ne_arr E_a1 (ow hw 3 rfl) An38))
   have F40 := V_bl.other W4 nx39
   have F41 := F40.keep K16 nin0
   have F42 := F41.other W21 nx39
   obtain ⟨cn43, An43, -⟩ := id V_a2
   have nx44 : a2 ≠ a1 := (Ne.symm (ne_arr E_a1 (ow hw 3 rfl) An43))
   have F45 := V_a2.other W4 nx44
   have F46 := F45.keep K16 nin0
   have F47 := F46.other W21 nx44
   refine own_virt (W := 0) X26 hx hZ hown e26 (ow hw 47 rfl) (ow hw 48 rfl) (ow hw 50 rfl) (ow hw 49 rfl) (rmaddE l Z a0 hw [] ib a2 k2 y0 y1 y2 p4 bl kb h21 n0 Zs22 F30 F34 F37 F42 Ov_bl g_ib g_bl F47 ne_a2_bl hn0 hn3) (ow hw 51 rfl) (ow hw 13 rfl) F30 rfl (by rw [hml]; rfl) rfl (hb hby d4_103) (lenOf pd___III_V rfl) rfl (by decide) (fun T27 v27 Ll27 X27 hQ27 => ?_)
   obtain ⟨cn_27, kn_27, vsn_27, rfl, N27q, K27, P27_0, P27_1, P27_2, P27_3, P27_4, P27_5⟩ := hQ27
   have N27 := Fr.app N21 N27q
   have Zs48 : n0 ≤ T27.heap.size := Nat.le_trans Zs22 K27.1
   refine own_go (b := (T27.setTop (mkF m 107 #[rv a1, rv a2, iv p4, iv (0 : Int32)] [(.ref a1)]))) (fun _ k => XS.aloadN X27.here hx rfl (hb hby d4_106) rfl rfl k) ?_
   have F49 := F21.keep K27 (ninS (Ne.symm nx31) (ninS (Ne.symm nx39) nin0))
   refine own_getf X27 hx hZ hown (ow hw 24 rfl) Via.refl rfl F49 rfl rfl (hb hby d4_107) (fun T50 X50 e50 => ?_)
   refine own_go (b := (T50.setTop (mkF m 114 #[rv a1, rv a2, iv p4, iv (0 : Int32)] [(.ref a1), (.int (1 : Int32)), (.ref b_16)]))) (fun _ k => XS.iloadN X50.here hx rfl (hb hby d4_110) rfl (XS.iconst X50.here hx rfl (hb hby d4_111) (XS.iadd X50.here hx rfl (hb hby d4_112) rfl (XS.aloadN X50.here hx rfl (hb hby d4_113) rfl rfl k)))) ?_
   have F51 := F25.keep K27 (ninS (Ne.symm nx31) (ninS (Ne.symm nx39) nin0))
   refine own_getf X50 hx hZ hown (ow hw 22 rfl) Via.refl e50 F51 rfl rfl (hb hby d4_114) (fun T52 X52 e52 => ?_)
   have F54 := F30.keep K27
   refine own_virt (W := 2) X52 hx hZ hown e52 (ow hw 63 rfl) (ow hw 64 rfl) (ow hw 66 rfl) (ow hw 65 rfl) (rm9 l Z a0 hw [] ib p4 T27.heap n0 Zs48 P27_0) (ow hw 67 rfl) (ow hw 13 rfl) F54 rfl (by rw [hml]; rfl) rfl (hb hby d4_117) (lenOf pd___I rfl) rfl (by decide) (fun T53 v53 Ll53 X53 hQ53 => ?_)
   obtain ⟨rfl, N53q, eh53⟩ := hQ53
   have N53 := Fr.app N27 N53q
   have nx56 : b_16 ≠ a1 := (Ne.symm (own_ne E_a1.lt (Keep.of_wr W4).1 P16_0))
   have F57 := P16_1.other W21 nx56
   have nx58 : b_16 ≠ bl := (Ne.symm (own_ne V_bl.lt (Keep.of_wr W4).1 P16_0))
   have nx59 : b_16 ≠ ib := (Ne.symm (own_ne E_ib.lt (Keep.of_wr W4).1 P16_0))
   have F60 := F57.keep K27 (ninS nx59 (ninS nx58 nin0))
   obtain ⟨cl55, Ar55, ql55, Sz55, Nn55, Hl55, Gl55⟩ := id F60
   have hin55 : ¬ ((1 : Int32) < 0 ∨ cl55.slots.size ≤ ((1 : Int32)).toNatClampNeg) := inb_of Sz55 ⟨by decide, by decide⟩
   obtain ⟨T55, h55, X55, e55, W55, st55⟩ := stI X53 hx hZ eh53 Ar55 (j := (1 : Int32)) hin55 (g := (mkF m 120 #[rv a1, rv a2, iv p4, iv (0 : Int32)] [(.int p4), (.int (1 : Int32)), (.ref b_16)])) rfl rfl (hb hby d4_120)
   have gx61 : n0 ≤ b_16 := Nat.le_trans Zs5 P16_0
   have N55 := Fr.snoc X55 N53 gx61
   have Zs62 : n0 ≤ h55.size := Nat.le_trans Zs48 (Keep.of_wr W55).1
   have V55 : Arv Z h55 b_16 kb_16 .int (2 : Int32) [(.int x0), (.int p4)] (.int (0 : Int32)) := Arv.set Ar55 ql55 Sz55 Nn55 Hl55 Gl55 rfl W55 1 rfl (Nat.le_of_ble_eq_true rfl)
   refine own_go (b := (T55.setTop (mkF m 122 #[rv a1, rv a2, iv p4, iv (0 : Int32)] [(.int (0 : Int32))]))) (fun _ k => st55 _ (XS.iloadN X55.here hx rfl (hb hby d4_121) rfl k)) ?_
   have K63 := (Keep.refl h0 [a1, ib, bl]).wr W4 (Or.inl (List.mem_of_getElem? (i := 0) rfl))
   have K64 := K63.trans K16 all0
   have K65 := K64.wr W21 (Or.inl (List.mem_of_getElem? (i := 0) rfl))
   have K66 := K65.trans K27 (allS (Or.inl (List.mem_of_getElem? (i := 1) rfl)) (allS (Or.inl (List.mem_of_getElem? (i := 2) rfl)) all0))
   have K67 := K66.wr W55 (Or.inr (Nat.le_trans (Keep.of_wr W4).1 P16_0))
   have F68 := F51.other W55 (Or.inl (Ne.symm nx56))
   have F69 := Fld_a1_labelStarts.other W4 (Or.inr (slot_ne (Or.inl (ow hw 32 rfl)) (Or.inl (ow hw 34 rfl)) (by decide) (t := (.array .int)) (t' := .int) (by decide) (by decide)))
   have F70 := F69.keep K16 nin0
   have F71 := F70.other W21 (Or.inr (slot_ne (Or.inl (ow hw 32 rfl)) (Or.inl (ow hw 25 rfl)) (by decide) (t := (.array .int)) (t' := (.array .int)) (by decide) (by decide)))
   have F72 := F71.keep K27 (ninS (Ne.symm nx31) (ninS (Ne.symm nx39) nin0))
   have F73 := F72.other W55 (Or.inl (Ne.symm nx56))
   have F74 := F4.keep K16 nin0
   have F75 := F74.other W21 (Or.inr (slot_ne (Or.inl (ow hw 34 rfl)) (Or.inl (ow hw 25 rfl)) (by decide) (t := .int) (t' := (.array .int)) (by decide) (by decide)))
   have F76 := F75.keep K27 (ninS (Ne.symm nx31) (ninS (Ne.symm nx39) nin0))
   have F77 := F76.other W55 (Or.inl (Ne.symm nx56))
   have F78 := F49.other W55 (Or.inl (Ne.symm nx56))
   have F79 := P27_0.other W55 (Or.inl (Ne.symm nx59))
   have F80 := P27_1.other W55 (Or.inl (Ne.symm nx59))
   have F81 := P27_3.other W55 (Ne.symm nx58)
   have nx82 : cn_27 ≠ b_16 := (Ne.symm (own_ne P16_1.lt (Keep.of_wr W21).1 P27_2))
   have F83 := P27_4.other W55 nx82
   obtain ⟨fs, hr, hrun, hended, hW, hsame⟩ := X55.leave (v := some (.int (0 : Int32))) (fun h => by rw [Bd.returns] at h; cases h)
   exact ⟨_, _, retOut X55 hx Bd.returns rfl (Or.inl ⟨rfl, Or.inl rfl, _, rfl⟩) (hb hby d4_122) hr, hrun, hended, _, _, rfl, (show Qrmap1_0E1 Z a1 a2 k2 y0 y1 y2 p4 ib ks kk bl kb x0 h0 n0 _ T55.heap _ from (by rw [e55]; exact ⟨b_16, kb_16, cn_27, kn_27, vsn_27, rfl, N55, K67, F68, F73, F77, (Nat.le_trans (Keep.of_wr W4).1 P16_0), F78, V55, F79, F80, (Nat.le_trans (own_tr (own_tr (Keep.of_wr W4).1 K16.1) (Keep.of_wr W21).1) P27_2), F81, F83, P27_5, (Ne.symm nx82)⟩)), ⟨_, rfl⟩, hW, hsame.mono (by decide) (by decide)⟩
 · intro J2
   refine own_go (b := (T1.setTop (mkF m 26 #[rv a1, rv a2, iv p4, iv (0 : Int32)] [(.int (0 : Int32)), (.ref a2)]))) (fun _ k => XS.iloadN X1.here hx rfl (hb hby d4_19) rfl (XS.iloadN X1.here hx rfl (hb hby d4_20) rfl (XS.icmpNo X1.here hx rfl (hb hby d4_21) rfl (tlt hn0).2.1 (XS.aloadN X1.here hx rfl (hb hby d4_24) rfl rfl (XS.iloadN X1.here hx rfl (hb hby d4_25) rfl k))))) ?_
   obtain ⟨cl84, Ar84, ql84, Sz84, Nn84, Hl84, Gl84⟩ := id V_a2
   have hin84 : ¬ ((0 : Int32) < 0 ∨ cl84.slots.size ≤ ((0 : Int32)).toNatClampNeg) := inb_of Sz84 ⟨by decide, by decide⟩
   refine own_go (b := (T1.setTop (mkF m 21 #[rv a1, rv a2, iv p4, iv (1 : Int32)] [(.int p4), (.int (1 : Int32))]))) (fun _ k => X1.iaload hx (j := (0 : Int32)) (v := (.int y0)) (by rw [e1]; exact Ar84.1) (State.isArrayOf_alike hZ.alike Ar84.2.1) Ar84.2.2 hin84 (Hl84.at hin84 rfl) (g := (mkF m 26 #[rv a1, rv a2, iv p4, iv (0 : Int32)] [(.int (0 : Int32)), (.ref a2)])) rfl rfl (hb hby d4_26) _ (XS.ifYes X1.here hx rfl (pc0 := 27) (pc' := 46) rfl (hb hby d4_27) rfl ((if0 _ _).trans (flt hy0).2.1) (by decide) (by decide) (XS.iinc X1.here hx rfl (hb hby d4_46) rfl (l' := #[rv a1, rv a2, iv p4, iv (1 : Int32)]) rfl (XS.goto X1.here hx rfl (pc0 := 49) (pc' := 19) rfl (hb hby d4_49) (by decide) (by decide) (XS.iloadN X1.here hx rfl (hb hby d4_19) rfl (XS.iloadN X1.here hx rfl (hb hby d4_20) rfl k)))))) ?_
   by_cases hc21_85 : (1 : Int32) < p4
   · skip
     refine own_go (b := (T1.setTop (mkF m 26 #[rv a1, rv a2, iv p4, iv (1 : Int32)] [(.int (1 : Int32)), (.ref a2)]))) (fun _ k => XS.icmpNo X1.here hx rfl (hb hby d4_21) rfl (tlt hc21_85).2.1 (XS.aloadN X1.here hx rfl (hb hby d4_24) rfl rfl (XS.iloadN X1.here hx rfl (hb hby d4_25) rfl k))) ?_
     obtain ⟨cl86, Ar86, ql86, Sz86, Nn86, Hl86, Gl86⟩ := id V_a2
     have hin86 : ¬ ((1 : Int32) < 0 ∨ cl86.slots.size ≤ ((1 : Int32)).toNatClampNeg) := inb_of Sz86 ⟨by decide, by decide⟩
     refine own_go (b := (T1.setTop (mkF m 21 #[rv a1, rv a2, iv p4, iv (2 : Int32)] [(.int p4), (.int (2 : Int32))]))) (fun _ k => X1.iaload hx (j := (1 : Int32)) (v := (.int y1)) (by rw [e1]; exact Ar86.1) (State.isArrayOf_alike hZ.alike Ar86.2.1) Ar86.2.2 hin86 (Hl86.at hin86 rfl) (g := (mkF m 26 #[rv a1, rv a2, iv p4, iv (1 : Int32)] [(.int (1 : Int32)), (.ref a2)])) rfl rfl (hb hby d4_26) _ (XS.ifYes X1.here hx rfl (pc0 := 27) (pc' := 46) rfl (hb hby d4_27) rfl ((if0 _ _).trans (flt hy1).2.1) (by decide) (by decide) (XS.iinc X1.here hx rfl (hb hby d4_46) rfl (l' := #[rv a1, rv a2, iv p4, iv (2 : Int32)]) rfl (XS.goto X1.here hx rfl (pc0 := 49) (pc' := 19) rfl (hb hby d4_49) (by decide) (by decide) (XS.iloadN X1.here hx rfl (hb hby d4_19) rfl (XS.iloadN X1.here hx rfl (hb hby d4_20) rfl k)))))) ?_
     by_cases hc21_87 : (2 : Int32) < p4
     · skip
       refine own_go (b := (T1.setTop (mkF m 26 #[rv a1, rv a2, iv p4, iv (2 : Int32)] [(.int (2 : Int32)), (.ref a2)]))) (fun _ k => XS.icmpNo X1.here hx rfl (hb hby d4_21) rfl (tlt hc21_87).2.1 (XS.aloadN X1.here hx rfl (hb hby d4_24) rfl rfl (XS.iloadN X1.here hx rfl (hb hby d4_25) rfl k))) ?_
       obtain ⟨cl88, Ar88, ql88, Sz88, Nn88, Hl88, Gl88⟩ := id V_a2
       have hin88 : ¬ ((2 : Int32) < 0 ∨ cl88.slots.size ≤ ((2 : Int32)).toNatClampNeg) := inb_of Sz88 ⟨by decide, by decide⟩
       refine own_go (b := (T1.setTop (mkF m 52 #[rv a1, rv a2, iv p4, iv (3 : Int32)] []))) (fun _ k => X1.iaload hx (j := (2 : Int32)) (v := (.int y2)) (by rw [e1]; exact Ar88.1) (State.isArrayOf_alike hZ.alike Ar88.2.1) Ar88.2.2 hin88 (Hl88.at hin88 rfl) (g := (mkF m 26 #[rv a1, rv a2, iv p4, iv (2 : Int32)] [(.int (2 : Int32)), (.ref a2)])) rfl rfl (hb hby d4_26) _ (XS.ifYes X1.here hx rfl (pc0 := 27) (pc' := 46) rfl (hb hby d4_27) rfl ((if0 _ _).trans (flt hy2).2.1) (by decide) (by decide) (XS.iinc X1.here hx rfl (hb hby d4_46) rfl (l' := #[rv a1, rv a2, iv p4, iv (3 : Int32)]) rfl (XS.goto X1.here hx rfl (pc0 := 49) (pc' := 19) rfl (hb hby d4_49) (by decide) (by decide) (XS.iloadN X1.here hx rfl (hb hby d4_19) rfl (XS.iloadN X1.here hx rfl (hb hby d4_20) rfl (XS.icmpYes X1.here hx rfl (pc0 := 21) (pc' := 52) rfl (hb hby d4_21) rfl (flt hn3).2.1 (by decide) (by decide) k))))))) ?_
       exact J2 (3 : Int32) trivial
     · skip
       refine own_go (b := (T1.setTop (mkF m 52 #[rv a1, rv a2, iv p4, iv (2 : Int32)] []))) (fun _ k => XS.icmpYes X1.here hx rfl (pc0 := 21) (pc' := 52) rfl (hb hby d4_21) rfl (flt hc21_87).2.1 (by decide) (by decide) k) ?_
       exact J2 (2 : Int32) trivial
   · skip
     refine own_go (b := (T1.setTop (mkF m 52 #[rv a1, rv a2, iv p4, iv (1 : Int32)] []))) (fun _ k => XS.icmpYes X1.here hx rfl (pc0 := 21) (pc' := 52) rfl (hb hby d4_21) rfl (flt hc21_85).2.1 (by decide) (by decide) k) ?_
     exact J2 (1 : Int32) trivial
theorem ef_rmap2_0N0 (m : MethodId) (x0 : Addr) (x1 : Addr) (x2 : Int32) : entryFrame m #[(.ref x0), (.ref x1), (.int x2)] 4 = mkF m 0 #[rv x0, rv x1, iv x2, .unset] [] := by first | (simp [entryFrame, mkF, argsToLocals, Value.category]; done) | rfl
def Qrmap2_0N0 (Z : State) (a1 : Addr) (a2 : Addr) (k2 : ClassId) (y0 : Int32) (y1 : Int32) (y2 : Int32) (ib : Addr) (ks : Addr) (kk : ClassId) (x_s : Int32) (x0 : Int32) (x1 : Int32) (h0 : Heap) (n0 : Nat) (v : Option Value) (h : Heap) (L : List Loc) : Prop := v = some (.int (0 : Int32)) ∧ Fr n0 L ∧ Keep h0 h [a1, ks] ∧ (Fld Z h a1 cs0 "keys" "Lcom/example/arcwright/arcwright/parser/IntBlocks;" (.ref ib)) ∧ (Fld Z h a1 cs0 "labelStarts" "[I" .null) ∧ (Fld Z h a1 cs0 "size" "I" (.int (1 : Int32))) ∧ (Fld Z h a1 cs0 "keyStarts" "[I" (.ref ks)) ∧ (Arv Z h ks kk .int (2 : Int32) [(.int x0), (.int x_s)] (.int (0 : Int32)))
set_option maxRecDepth 65536 in
set_option maxHeartbeats 40000000 in
theorem rmap2_0N0 (l : Launch) (Z : State) (a0 : Array Value) (hw : ∀ d ∈ tables_1, d.before a0 Z = true) (ws : List Jvm.Cond) (a1 : Addr) (a2 : Addr) (k2 : ClassId) (y0 : Int32) (y1 : Int32) (y2 : Int32) (ib : Addr) (ks : Addr) (kk : ClassId) (x_s : Int32) (x0 : Int32) (x1 : Int32) (h0 : Heap) (n0 : Nat) (Z0 : n0 ≤ h0.size) (E_a1 : Exa Z h0 a1 cs0) (Fld_a1_keys : Fld Z h0 a1 cs0 "keys" "Lcom/example/arcwright/arcwright/parser/IntBlocks;" (.ref ib)) (Fld_a1_keyStarts : Fld Z h0 a1 cs0 "keyStarts" "[I" (.ref ks)) (Fld_a1_labelStarts : Fld Z h0 a1 cs0 "labelStarts" "[I" .null) (Fld_a1_size : Fld Z h0 a1 cs0 "size" "I" (.int (0 : Int32))) (E_ib : Exa Z h0 ib cs1) (Fld_ib_size : Fld Z h0 ib cs1 "size" "I" (.int x_s)) (V_ks : Arv Z h0 ks kk .int (2 : Int32) [(.int x0), (.int x1)] (.int (0 : Int32))) (V_a2 : Arv Z h0 a2 k2 .int (3 : Int32) [(.int y0), (.int y1), (.int y2)] (.int (0 : Int32))) (g_a1 : n0 ≤ a1) (g_ib : n0 ≤ ib) (g_ks : n0 ≤ ks) (ne_ks_a2 : ks ≠ a2) (hy0 : ¬ (y0 < (0 : Int32))) (hy1 : ¬ (y1 < (0 : Int32))) (hy2 : ¬ (y2 < (0 : Int32))) :
    MetFree l mn0 (head1 (Jvm.Cond.code mn0 prog_25_method_3_code 4 (some .int) :: ws) ({ frames := 1, cells := 0, slots := 0, locals := 18 } : Room)) (fun a U => a = #[(.ref a1), (.ref a2), (.int (0 : Int32))] ∧ Z.Warmed39 U.vm ∧ U.heap = h0) (fun _ _ _ _ _ => True) (fun _ U o U' => ∃ v L, o = .returned v ∧ Qrmap2_0N0 Z a1 a2 k2 y0 y1 y2 ib ks kk x_s x0 x1 h0 n0 v U'.heap L ∧ FrameEnd U o U' L ({ frames := 1, cells := 0, slots := 0, locals := 18 } : Room).cells ({ frames := 1, cells := 0, slots := 0, locals := 18 } : Room).slots) := by
 refine MetFree.of_bodySF (plainFor_of_name pn_4) hisR ?_
 intro p e s m args below meth c s₁ Bd hml0 hP hK
 obtain ⟨rfl, hZ, hh⟩ := hP
 have hx := Bd.exec
 have hby := Bd.bytes
 have hml : c.maxLocals = 4 := hml0
 have hown : s.vm.findClass cs0 = some m.cls := findClass_of_methodNamed Bd.named
 have hnm := (name_of_methodNamed Bd.named Bd.method).1
 have X0 : Stand p l e ({ frames := 1, cells := 0, slots := 0, locals := 18 } : Room) s m #[(.ref a1), (.ref a2), (.int (0 : Int32))] below meth c s₁ [] 0 0 := Stand.of_body Bd
 have e0 : s₁.heap = h0 := by rw [← hh, Bd.state]; rfl
 have N0 := Fr.nil n0
 refine own_go (b := (s₁.setTop (mkF m 0 #[rv a1, rv a2, iv (0 : Int32), .unset] []))) (fun _ k => castTop (ef_rmap2_0N0 m a1 a2 (0 : Int32)) k) ?_
 refine own_go (b := (s₁.setTop (mkF m 1 #[rv a1, rv a2, iv (0 : Int32), .unset] [(.ref a1)]))) (fun _ k => XS.aloadN X0.here hx rfl (hb hby d4_0) rfl rfl k) ?_
 refine own_getf X0 hx hZ hown (ow hw 31 rfl) Via.refl e0 Fld_a1_labelStarts rfl rfl (hb hby d4_1) (fun T1 X1 e1 => ?_)
 refine own_go (b := (T1.setTop (mkF m 54 #[rv a1, rv a2, iv (0 : Int32), iv (0 : Int32)] [(.ref a1), (.ref a1)]))) (fun _ k => XS.ifnullYes X1.here hx rfl (pc0 := 4) (pc' := 17) rfl (hb hby d4_4) rfl (by decide) (by decide) (XS.iconst X1.here hx rfl (hb hby d4_17) (XS.istoreN X1.here hx rfl (hb hby d4_18) rfl (l' := #[rv a1, rv a2, iv (0 : Int32), iv (0 : Int32)]) rfl (XS.iloadN X1.here hx rfl (hb hby d4_19) rfl (XS.iloadN X1.here hx rfl (hb hby d4_20) rfl (XS.icmpYes X1.here hx rfl (pc0 := 21) (pc' := 52) rfl (hb hby d4_21) rfl (flt (by decide : ¬ ((0 : Int32) < (0 : Int32)))).2.1 (by decide) (by decide) (XS.aloadN X1.here hx rfl (hb hby d4_52) rfl rfl (XS.dup X1.here hx rfl (hb hby d4_53) rfl rfl k)))))))) ?_
 refine own_getf X1 hx hZ hown (ow hw 33 rfl) Via.refl e1 Fld_a1_size rfl rfl (hb hby d4_54) (fun T2 X2 e2 => ?_)
 refine own_go (b := (T2.setTop (mkF m 60 #[rv a1, rv a2, iv (0 : Int32), iv (0 : Int32)] [(.int (1 : Int32)), (.ref a1), (.int (0 : Int32))]))) (fun _ k => XS.dupX1 X2.here hx rfl (hb hby d4_57) rfl rfl rfl (XS.iconst X2.here hx rfl (hb hby d4_58) (XS.iadd X2.here hx rfl (hb hby d4_59) rfl k))) ?_
 obtain ⟨T3, h3, X3, e3, W3, st3⟩ := putF X2 hx hZ hown (host := "") (Or.inl (ow hw 33 rfl)) Via.refl e2 Fld_a1_size E_a1 (Or.inl (ow hw 34 rfl)) (ow hw 3 rfl) (ty := .int) (by decide) rfl rfl (g := (mkF m 60 #[rv a1, rv a2, iv (0 : Int32), iv (0 : Int32)] [(.int (1 : Int32)), (.ref a1), (.int (0 : Int32))])) rfl rfl (hb hby d4_60)
 have N3 := Fr.snoc X3 N0 g_a1
 have Zs4 : n0 ≤ h3.size := Nat.le_trans Z0 (Keep.of_wr W3).1
 have F3 : Fld Z h3 a1 cs0 "size" "I" (.int (1 : Int32)) := Fld_a1_size.same W3
 refine own_go (b := (T3.setTop (mkF m 65 #[rv a1, rv a2, iv (0 : Int32), iv (0 : Int32)] [(.ref a1)]))) (fun _ k => st3 _ (XS.istoreN X3.here hx rfl (hb hby d4_63) rfl (l' := #[rv a1, rv a2, iv (0 : Int32), iv (0 : Int32)]) rfl (XS.aloadN X3.here hx rfl (hb hby d4_64) rfl rfl k))) ?_
 refine own_getf X3 hx hZ hown (ow hw 33 rfl) Via.refl e3 F3 rfl rfl (hb hby d4_65) (fun T5 X5 e5 => ?_)
 refine own_go (b := (T5.setTop (mkF m 71 #[rv a1, rv a2, iv (0 : Int32), iv (0 : Int32)] [(.ref a1), (.int (2 : Int32))]))) (fun _ k => XS.iconst X5.here hx rfl (hb hby d4_68) (XS.iadd X5.here hx rfl (hb hby d4_69) rfl (XS.aloadN X5.here hx rfl (hb hby d4_70) rfl rfl k))) ?_
 have F6 := Fld_a1_keyStarts.other W3 (Or.inr (slot_ne (Or.inl (ow hw 25 rfl)) (Or.inl (ow hw 34 rfl)) (by decide) (t := (.array .int)) (t' := .int) (by decide) (by decide)))
 refine own_getf X5 hx hZ hown (ow hw 24 rfl) Via.refl e5 F6 rfl rfl (hb hby d4_71) (fun T7 X7 e7 => ?_)
 obtain ⟨cn9, An9, -⟩ := id V_ks
 have nx10 : ks ≠ a1 := (Ne.symm (ne_arr E_a1 (ow hw 3 rfl) An9))
 have F11 := V_ks.other W3 nx10
 obtain ⟨cl8, Ar8, -, Sz8, Nn8, -, -⟩ := id F11
 refine own_go (b := (T7.setTop (mkF m 97 #[rv a1, rv a2, iv (0 : Int32), iv (0 : Int32)] [(.ref a1)]))) (fun _ k => X7.arraylength hx (by rw [e7]; exact Ar8.1) (State.isArrayOf_alike hZ.alike Ar8.2.1) (g := (mkF m 74 #[rv a1, rv a2, iv (0 : Int32), iv (0 : Int32)] [(.ref ks), (.int (2 : Int32))])) rfl rfl (hb hby d4_74) _ (by rw [len_of Sz8 Nn8]; exact (XS.icmpYes X7.here hx rfl (pc0 := 75) (pc' := 96) rfl (hb hby d4_75) rfl (flt (by decide : ¬ ((2 : Int32) < (2 : Int32)))).2.2.2 (by decide) (by decide) (XS.aloadN X7.here hx rfl (hb hby d4_96) rfl rfl k)))) ?_
 have F12 := Fld_a1_keys.other W3 (Or.inr (slot_ne (Or.inr (ow hw 23 rfl)) (Or.inl (ow hw 34 rfl)) (by decide) (t := (.object cs1)) (t' := .int) (by decide) (by decide)))
 refine own_getf X7 hx hZ hown (ow hw 22 rfl) Via.refl e7 F12 rfl rfl (hb hby d4_97) (fun T13 X13 e13 => ?_)
 refine own_go (b := (T13.setTop (mkF m 103 #[rv a1, rv a2, iv (0 : Int32), iv (0 : Int32)] [(.int (0 : Int32)), (.int (0 : Int32)), (.ref a2), (.ref ib)]))) (fun _ k => XS.aloadN X13.here hx rfl (hb hby d4_100) rfl rfl (XS.iconst X13.here hx rfl (hb hby d4_101) (XS.iloadN X13.here hx rfl (hb hby d4_102) rfl k))) ?_
 have F15 := E_ib.wr W3
 refine own_virt (W := 0) X13 hx hZ hown e13 (ow hw 47 rfl) (ow hw 48 rfl) (ow hw 50 rfl) (ow hw 49 rfl) (rmadd0 l Z a0 hw [] ib a2 h3 n0 Zs4) (ow hw 51 rfl) (ow hw 13 rfl) F15 rfl (by rw [hml]; rfl) rfl (hb hby d4_103) (lenOf pd___III_V rfl) rfl (by decide) (fun T14 v14 Ll14 X14 hQ14 => ?_)
 obtain ⟨rfl, N14q, eh14⟩ := hQ14
 have N14 := Fr.app N3 N14q
 refine own_go (b := (T14.setTop (mkF m 107 #[rv a1, rv a2, iv (0 : Int32), iv (0 : Int32)] [(.ref a1)]))) (fun _ k => XS.aloadN X14.here hx rfl (hb hby d4_106) rfl rfl k) ?_
 refine own_getf X14 hx hZ hown (ow hw 24 rfl) Via.refl eh14 F6 rfl rfl (hb hby d4_107) (fun T16 X16 e16 => ?_)
 refine own_go (b := (T16.setTop (mkF m 114 #[rv a1, rv a2, iv (0 : Int32), iv (0 : Int32)] [(.ref a1), (.int (1 : Int32)), (.ref ks)]))) (fun _ k => XS.iloadN X16.here hx rfl (hb hby d4_110) rfl (XS.iconst X16.here hx rfl (hb hby d4_111) (XS.iadd X16.here hx rfl (hb hby d4_112) rfl (XS.aloadN X16.here hx rfl (hb hby d4_113) rfl rfl k)))) ?_
 refine own_getf X16 hx hZ hown (ow hw 22 rfl) Via.refl e16 F12 rfl rfl (hb hby d4_114) (fun T17 X17 e17 => ?_)
 have nx19 : ib ≠ a1 := (ne_exa E_ib E_a1 (by decide))
 have F20 := Fld_ib_size.other W3 (Or.inl nx19)
 refine own_virt (W := 2) X17 hx hZ hown e17 (ow hw 63 rfl) (ow hw 64 rfl) (ow hw 66 rfl) (ow hw 65 rfl) (rm9 l Z a0 hw [] ib x_s h3 n0 Zs4 F20) (ow hw 67 rfl) (ow hw 13 rfl) F15 rfl (by rw [hml]; rfl) rfl (hb hby d4_117) (lenOf pd___I rfl) rfl (by decide) (fun T18 v18 Ll18 X18 hQ18 => ?_)
 obtain ⟨rfl, N18q, eh18⟩ := hQ18
 have N18 := Fr.app N14 N18q
 obtain ⟨cl21, Ar21, ql21, Sz21, Nn21, Hl21, Gl21⟩ := id F11
 have hin21 : ¬ ((1 : Int32) < 0 ∨ cl21.slots.size ≤ ((1 : Int32)).toNatClampNeg) := inb_of Sz21 ⟨by decide, by decide⟩
 obtain ⟨T21, h21, X21, e21, W21, st21⟩ := stI X18 hx hZ eh18 Ar21 (j := (1 : Int32)) hin21 (g := (mkF m 120 #[rv a1, rv a2, iv (0 : Int32), iv (0 : Int32)] [(.int x_s), (.int (1 : Int32)), (.ref ks)])) rfl rfl (hb hby d4_120)
 have N21 := Fr.snoc X21 N18 g_ks
 have Zs22 : n0 ≤ h21.size := Nat.le_trans Zs4 (Keep.of_wr W21).1
 have V21 : Arv Z h21 ks kk .int (2 : Int32) [(.int x0), (.int x_s)] (.int (0 : Int32)) := Arv.set Ar21 ql21 Sz21 Nn21 Hl21 Gl21 rfl W21 1 rfl (Nat.le_of_ble_eq_true rfl)
 refine own_go (b := (T21.setTop (mkF m 122 #[rv a1, rv a2, iv (0 : Int32), iv (0 : Int32)] [(.int (0 : Int32))]))) (fun _ k => st21 _ (XS.iloadN X21.here hx rfl (hb hby d4_121) rfl k)) ?_
 have K23 := (Keep.refl h0 [a1, ks]).wr W3 (Or.inl (List.mem_of_getElem? (i := 0) rfl))
 have K24 := K23.wr W21 (Or.inl (List.mem_of_getElem? (i := 1) rfl))
 have F25 := F12.other W21 (Or.inl (Ne.symm nx10))
 have F26 := Fld_a1_labelStarts.other W3 (Or.inr (slot_ne (Or.inl (ow hw 32 rfl)) (Or.inl (ow hw 34 rfl)) (by decide) (t := (.array .int)) (t' := .int) (by decide) (by decide)))
 have F27 := F26.other W21 (Or.inl (Ne.symm nx10))
 have F28 := F3.other W21 (Or.inl (Ne.symm nx10))
 have F29 := F6.other W21 (Or.inl (Ne.symm nx10))
 obtain ⟨fs, hr, hrun, hended, hW, hsame⟩ := X21.leave (v := some (.int (0 : Int32))) (fun h => by rw [Bd.returns] at h; cases h)
 exact ⟨_, _, retOut X21 hx Bd.returns rfl (Or.inl ⟨rfl, Or.inl rfl, _, rfl⟩) (hb hby d4_122) hr, hrun, hended, _, _, rfl, (show Qrmap2_0N0 Z a1 a2 k2 y0 y1 y2 ib ks kk x_s x0 x1 h0 n0 _ T21.heap _ from (by rw [e21]; exact ⟨rfl, N21, K24, F25, F27, F28, F29, V21⟩)), ⟨_, rfl⟩, hW, hsame.mono (by decide) (by decide)⟩
theorem ef_rmap2_0E1 (m : MethodId) (x0 : Addr) (x1 : Addr) (x2 : Int32) : entryFrame m #[(.ref x0), (.ref x1), (.int x2)] 4 = mkF m 0 #[rv x0, rv x1, iv x2, .unset] [] := by first | (simp [entryFrame, mkF, argsToLocals, Value.category]; done) | rfl
def Qrmap2_0E1 (Z : State) (a1 : Addr) (a2 : Addr) (k2 : ClassId) (y0 : Int32) (y1 : Int32) (y2 : Int32) (p4 : Int32) (ib : Addr) (ks : Addr) (kk : ClassId) (bl : Addr) (kb : ClassId) (x0 : Int32) (x1 : Int32) (h0 : Heap) (n0 : Nat) (v : Option Value) (h : Heap) (L : List Loc) : Prop := ∃ (cn : Addr) (kn : ClassId) (vsn : List Value), v = some (.int (0 : Int32)) ∧ Fr n0 L ∧ Keep h0 h [a1, ib, ks, bl] ∧ (Fld Z h a1 cs0 "keys" "Lcom/example/arcwright/arcwright/parser/IntBlocks;" (.ref ib)) ∧ (Fld Z h a1 cs0 "labelStarts" "[I" .null) ∧ (Fld Z h a1 cs0 "size" "I" (.int (1 : Int32))) ∧ (Fld Z h a1 cs0 "keyStarts" "[I" (.ref ks)) ∧ (Arv Z h ks kk .int (2 : Int32) [(.int x0), (.int p4)] (.int (0 : Int32))) ∧ (Fld Z h ib cs1 "size" "I" (.int p4)) ∧ (Fld Z h ib cs1 "blocks" "[[I" (.ref bl)) ∧ (h0.size ≤ cn) ∧ (Arv Z h bl kb (.array .int) (16 : Int32) ((.ref cn) :: own_n15) .null) ∧ (Arv Z h cn kn .int (65536 : Int32) vsn (.int (0 : Int32))) ∧ (16 ≤ vsn.length)
set_option maxRecDepth 65536 in
set_option maxHeartbeats 40000000 in
theorem rmap2_0E1 (l : Launch) (Z : State) (a0 : Array Value) (hw : ∀ d ∈ tables_1, d.before a0 Z = true) (ws : List Jvm.Cond) (a1 : Addr) (a2 : Addr) (k2 : ClassId) (y0 : Int32) (y1 : Int32) (y2 : Int32) (p4 : Int32) (ib : Addr) (ks : Addr) (kk : ClassId) (bl : Addr) (kb : ClassId) (x0 : Int32) (x1 : Int32) (h0 : Heap) (n0 : Nat) (Z0 : n0 ≤ h0.size) (E_a1 : Exa Z h0 a1 cs0) (Fld_a1_keys : Fld Z h0 a1 cs0 "keys" "Lcom/example/arcwright/arcwright/parser/IntBlocks;" (.ref ib)) (Fld_a1_keyStarts : Fld Z h0 a1 cs0 "keyStarts" "[I" (.ref ks)) (Fld_a1_labelStarts : Fld Z h0 a1 cs0 "labelStarts" "[I" .null) (Fld_a1_size : Fld Z h0 a1 cs0 "size" "I" (.int (0 : Int32))) (E_ib : Exa Z h0 ib cs1) (Fld_ib_size : Fld Z h0 ib cs1 "size" "I" (.int (0 : Int32))) (Fld_ib_blocks : Fld Z h0 ib cs1 "blocks" "[[I" (.ref bl)) (V_ks : Arv Z h0 ks kk .int (2 : Int32) [(.int x0), (.int x1)] (.int (0 : Int32))) (V_a2 : Arv Z h0 a2 k2 .int (3 : Int32) [(.int y0), (.int y1), (.int y2)] (.int (0 : Int32))) (g_a1 : n0 ≤ a1) (g_ib : n0 ≤ ib) (g_ks : n0 ≤ ks) (ne_ks_a2 : ks ≠ a2) (g_bl : n0 ≤ bl) (ne_ks_bl : ks ≠ bl) (ne_a2_bl : a2 ≠ bl) (hy0 : ¬ (y0 < (0 : Int32))) (hy1 : ¬ (y1 < (0 : Int32))) (hy2 : ¬ (y2 < (0 : Int32))) (hn0 : (0 : Int32) < p4) (hn3 : ¬ ((3 : Int32) < p4)) (V_bl : Arv Z h0 bl kb (.array .int) (16 : Int32) own_n16 .null) (Ov_bl : OvrA Z kb .int "[I") :
    MetFree l mn0 (head1 (Jvm.Cond.code mn0 prog_25_method_3_code 4 (some .int) :: ws) ({ frames := 2, cells := 1, slots := 65536, locals := 58 } : Room)) (fun a U => a = #[(.ref a1), (.ref a2), (.int p4)] ∧ Z.Warmed39 U.vm ∧ U.heap = h0) (fun _ _ _ _ _ => True) (fun _ U o U' => ∃ v L, o = .returned v ∧ Qrmap2_0E1 Z a1 a2 k2 y0 y1 y2 p4 ib ks kk bl kb x0 x1 h0 n0 v U'.heap L ∧ FrameEnd U o U' L ({ frames := 2, cells := 1, slots := 65536, locals := 58 } : Room).cells ({ frames := 2, cells := 1, slots := 65536, locals := 58 } : Room).slots) := by
 refine MetFree.of_bodySF (plainFor_of_name pn_4) hisR ?_
 intro p e s m args below meth c s₁ Bd hml0 hP hK
 obtain ⟨rfl, hZ, hh⟩ := hP
 have hx := Bd.exec
 have hby := Bd.bytes
 have hml : c.maxLocals = 4 := hml0
 have hown : s.vm.findClass cs0 = some m.cls := findClass_of_methodNamed Bd.named
 have hnm := (name_of_methodNamed Bd.named Bd.method).1
 have X0 : Stand p l e ({ frames := 2, cells := 1, slots := 65536, locals := 58 } : Room) s m #[(.ref a1), (.ref a2), (.int p4)] below meth c s₁ [] 0 0 := Stand.of_body Bd
 have e0 : s₁.heap = h0 := by rw [← hh, Bd.state]; rfl
 have N0 := Fr.nil n0
 refine own_go (b := (s₁.setTop (mkF m 0 #[rv a1, rv a2, iv p4, .unset] []))) (fun _ k => castTop (ef_rmap2_0E1 m a1 a2 p4) k) ?_
 refine own_go (b := (s₁.setTop (mkF m 1 #[rv a1, rv a2, iv p4, .unset] [(.ref a1)]))) (fun _ k => XS.aloadN X0.here hx rfl (hb hby d4_0) rfl rfl k) ?_
 refine own_getf X0 hx hZ hown (ow hw 31 rfl) Via.refl e0 Fld_a1_labelStarts rfl rfl (hb hby d4_1) (fun T1 X1 e1 => ?_)
 refine own_go (b := (T1.setTop (mkF m 19 #[rv a1, rv a2, iv p4, iv (0 : Int32)] []))) (fun _ k => XS.ifnullYes X1.here hx rfl (pc0 := 4) (pc' := 17) rfl (hb hby d4_4) rfl (by decide) (by decide) (XS.iconst X1.here hx rfl (hb hby d4_17) (XS.istoreN X1.here hx rfl (hb hby d4_18) rfl (l' := #[rv a1, rv a2, iv p4, iv (0 : Int32)]) rfl k))) ?_
 refine own_join (A := Int32) (C := fun ii => True) (f := fun ii => (T1.setTop (mkF m 52 #[rv a1, rv a2, iv p4, iv ii] []))) ?_ ?_
 · intro ii hj2
   refine own_go (b := (T1.setTop (mkF m 54 #[rv a1, rv a2, iv p4, iv ii] [(.ref a1), (.ref a1)]))) (fun _ k => XS.aloadN X1.here hx rfl (hb hby d4_52) rfl rfl (XS.dup X1.here hx rfl (hb hby d4_53) rfl rfl k)) ?_
   refine own_getf X1 hx hZ hown (ow hw 33 rfl) Via.refl e1 Fld_a1_size rfl rfl (hb hby d4_54) (fun T3 X3 e3 => ?_)
   refine own_go (b := (T3.setTop (mkF m 60 #[rv a1, rv a2, iv p4, iv ii] [(.int (1 : Int32)), (.ref a1), (.int (0 : Int32))]))) (fun _ k => XS.dupX1 X3.here hx rfl (hb hby d4_57) rfl rfl rfl (XS.iconst X3.here hx rfl (hb hby d4_58) (XS.iadd X3.here hx rfl (hb hby d4_59) rfl k))) ?_
   obtain ⟨T4, h4, X4, e4, W4, st4⟩ := putF X3 hx hZ hown (host := "") (Or.inl (ow hw 33 rfl)) Via.refl e3 Fld_a1_size E_a1 (Or.inl (ow hw 34 rfl)) (ow hw 3 rfl) (ty := .int) (by decide) rfl rfl (g := (mkF m 60 #[rv a1, rv a2, iv p4, iv ii] [(.int (1 : Int32)), (.ref a1), (.int (0 : Int32))])) rfl rfl (hb hby d4_60)
   have N4 := Fr.snoc X4 N0 g_a1
   have Zs5 : n0 ≤ h4.size := Nat.le_trans Z0 (Keep.of_wr W4).1
   have F4 : Fld Z h4 a1 cs0 "size" "I" (.int (1 : Int32)) := Fld_a1_size.same W4
   refine own_go (b := (T4.setTop (mkF m 65 #[rv a1, rv a2, iv p4, iv (0 : Int32)] [(.ref a1)]))) (fun _ k => st4 _ (XS.istoreN X4.here hx rfl (hb hby d4_63) rfl (l' := #[rv a1, rv a2, iv p4, iv (0 : Int32)]) rfl (XS.aloadN X4.here hx rfl (hb hby d4_64) rfl rfl k))) ?_
   refine own_getf X4 hx hZ hown (ow hw 33 rfl) Via.refl e4 F4 rfl rfl (hb hby d4_65) (fun T6 X6 e6 => ?_)
   refine own_go (b := (T6.setTop (mkF m 71 #[rv a1, rv a2, iv p4, iv (0 : Int32)] [(.ref a1), (.int (2 : Int32))]))) (fun _ k => XS.iconst X6.here hx rfl (hb hby d4_68) (XS.iadd X6.here hx rfl (hb hby d4_69) rfl (XS.aloadN X6.here hx rfl (hb hby d4_70) rfl rfl k))) ?_
   have F7 := Fld_a1_keyStarts.other W4 (Or.inr (slot_ne (Or.inl (ow hw 25 rfl)) (Or.inl (ow hw 34 rfl)) (by decide) (t := (.array .int)) (t' := .int) (by decide) (by decide)))
   refine own_getf X6 hx hZ hown (ow hw 24 rfl) Via.refl e6 F7 rfl rfl (hb hby d4_71) (fun T8 X8 e8 => ?_)
   obtain ⟨cn10, An10, -⟩ := id V_ks
   have nx11 : ks ≠ a1 := (Ne.symm (ne_arr E_a1 (ow hw 3 rfl) An10))
   have F12 := V_ks.other W4 nx11
   obtain ⟨cl9, Ar9, -, Sz9, Nn9, -, -⟩ := id F12
   refine own_go (b := (T8.setTop (mkF m 97 #[rv a1, rv a2, iv p4, iv (0 : Int32)] [(.ref a1)]))) (fun _ k => X8.arraylength hx (by rw [e8]; exact Ar9.1) (State.isArrayOf_alike hZ.alike Ar9.2.1) (g := (mkF m 74 #[rv a1, rv a2, iv p4, iv (0 : Int32)] [(.ref ks), (.int (2 : Int32))])) rfl rfl (hb hby d4_74) _ (by rw [len_of Sz9 Nn9]; exact (XS.icmpYes X8.here hx rfl (pc0 := 75) (pc' := 96) rfl (hb hby d4_75) rfl (flt (by decide : ¬ ((2 : Int32) < (2 : Int32)))).2.2.2 (by decide) (by decide) (XS.aloadN X8.here hx rfl (hb hby d4_96) rfl rfl k)))) ?_
   have F13 := Fld_a1_keys.other W4 (Or.inr (slot_ne (Or.inr (ow hw 23 rfl)) (Or.inl (ow hw 34 rfl)) (by decide) (t := (.object cs1)) (t' := .int) (by decide) (by decide)))
   refine own_getf X8 hx hZ hown (ow hw 22 rfl) Via.refl e8 F13 rfl rfl (hb hby d4_97) (fun T14 X14 e14 => ?_)
   refine own_go (b := (T14.setTop (mkF m 103 #[rv a1, rv a2, iv p4, iv (0 : Int32)] [(.int p4), (.int (0 : Int32)), (.ref a2), (.ref ib)]))) (fun _ k => XS.aloadN X14.here hx rfl (hb hby d4_100) rfl rfl (XS.iconst X14.here hx rfl (hb hby d4_101) (XS.iloadN X14.here hx rfl (hb hby d4_102) rfl k))) ?_
   have F16 := E_ib.wr W4
   have nx17 : ib ≠ a1 := (ne_exa E_ib E_a1 (by decide))
   have F18 := Fld_ib_size.other W4 (Or.inl nx17)
   have F19 := Fld_ib_blocks.other W4 (Or.inl nx17)
   obtain ⟨cn20, An20, -⟩ := id V_bl
   have nx21 : bl ≠ a1 := (Ne.symm (ne_arr E_a1 (ow hw 3 rfl) An20))
   have F22 := V_bl.other W4 nx21
   obtain ⟨cn23, An23, -⟩ := id V_a2
   have nx24 : a2 ≠ a1 := (Ne.symm (ne_arr E_a1 (ow hw 3 rfl) An23))
   have F25 := V_a2.other W4 nx24
   refine own_virt (W := 0) X14 hx hZ hown e14 (ow hw 47 rfl) (ow hw 48 rfl) (ow hw 50 rfl) (ow hw 49 rfl) (rmaddE l Z a0 hw [] ib a2 k2 y0 y1 y2 p4 bl kb h4 n0 Zs5 F16 F18 F19 F22 Ov_bl g_ib g_bl F25 ne_a2_bl hn0 hn3) (ow hw 51 rfl) (ow hw 13 rfl) F16 rfl (by rw [hml]; rfl) rfl (hb hby d4_103) (lenOf pd___III_V rfl) rfl (by decide) (fun T15 v15 Ll15 X15 hQ15 => ?_)
   obtain ⟨cn_15, kn_15, vsn_15, rfl, N15q, K15, P15_0, P15_1, P15_2, P15_3, P15_4, P15_5⟩ := hQ15
   have N15 := Fr.app N4 N15q
   have Zs26 : n0 ≤ T15.heap.size := Nat.le_trans Zs5 K15.1
   refine own_go (b := (T15.setTop (mkF m 107 #[rv a1, rv a2, iv p4, iv (0 : Int32)] [(.ref a1)]))) (fun _ k => XS.aloadN X15.here hx rfl (hb hby d4_106) rfl rfl k) ?_
   have F27 := F7.keep K15 (ninS (Ne.symm nx17) (ninS (Ne.symm nx21) nin0))
   refine own_getf X15 hx hZ hown (ow hw 24 rfl) Via.refl rfl F27 rfl rfl (hb hby d4_107) (fun T28 X28 e28 => ?_)
   refine own_go (b := (T28.setTop (mkF m 114 #[rv a1, rv a2, iv p4, iv (0 : Int32)] [(.ref a1), (.int (1 : Int32)), (.ref ks)]))) (fun _ k => XS.iloadN X28.here hx rfl (hb hby d4_110) rfl (XS.iconst X28.here hx rfl (hb hby d4_111) (XS.iadd X28.here hx rfl (hb hby d4_112) rfl (XS.aloadN X28.here hx rfl (hb hby d4_113) rfl rfl k)))) ?_
   have F29 := F13.keep K15 (ninS (Ne.symm nx17) (ninS (Ne.symm nx21) nin0))
   refine own_getf X28 hx hZ hown (ow hw 22 rfl) Via.refl e28 F29 rfl rfl (hb hby d4_114) (fun T30 X30 e30 => ?_)
   have F32 := F16.keep K15
   refine own_virt (W := 2) X30 hx hZ hown e30 (ow hw 63 rfl) (ow hw 64 rfl) (ow hw 66 rfl) (ow hw 65 rfl) (rm9 l Z a0 hw [] ib p4 T15.heap n0 Zs26 P15_0) (ow hw 67 rfl) (ow hw 13 rfl) F32 rfl (by rw [hml]; rfl) rfl (hb hby d4_117) (lenOf pd___I rfl) rfl (by decide) (fun T31 v31 Ll31 X31 hQ31 => ?_)
   obtain ⟨rfl, N31q, eh31⟩ := hQ31
   have N31 := Fr.app N15 N31q
   obtain ⟨cn34, An34, -⟩ := id V_ks
   have nx35 : ks ≠ ib := (Ne.symm (ne_arr E_ib (ow hw 12 rfl) An34))
   have F36 := F12.keep K15 (ninS nx35 (ninS ne_ks_bl nin0))
   obtain ⟨cl33, Ar33, ql33, Sz33, Nn33, Hl33, Gl33⟩ := id F36
   have hin33 : ¬ ((1 : Int32) < 0 ∨ cl33.slots.size ≤ ((1 : Int32)).toNatClampNeg) := inb_of Sz33 ⟨by decide, by decide⟩
   obtain ⟨T33, h33, X33, e33, W33, st33⟩ := stI X31 hx hZ eh31 Ar33 (j := (1 : Int32)) hin33 (g := (mkF m 120 #[rv a1, rv a2, iv p4, iv (0 : Int32)] [(.int p4), (.int (1 : Int32)), (.ref ks)])) rfl rfl (hb hby d4_120)
   have N33 := Fr.snoc X33 N31 g_ks
   have Zs37 : n0 ≤ h33.size := Nat.le_trans Zs26 (Keep.of_wr W33).1
   have V33 : Arv Z h33 ks kk .int (2 : Int32) [(.int x0), (.int p4)] (.int (0 : Int32)) := Arv.set Ar33 ql33 Sz33 Nn33 Hl33 Gl33 rfl W33 1 rfl (Nat.le_of_ble_eq_true rfl)
   refine own_go (b := (T33.setTop (mkF m 122 #[rv a1, rv a2, iv p4, iv (0 : Int32)] [(.int (0 : Int32))]))) (fun _ k => st33 _ (XS.iloadN X33.here hx rfl (hb hby d4_121) rfl k)) ?_
   have K38 := (Keep.refl h0 [a1, ib, ks, bl]).wr W4 (Or.inl (List.mem_of_getElem? (i := 0) rfl))
   have K39 := K38.trans K15 (allS (Or.inl (List.mem_of_getElem? (i := 1) rfl)) (allS (Or.inl (List.mem_of_getElem? (i := 3) rfl)) all0))
   have K40 := K39.wr W33 (Or.inl (List.mem_of_getElem? (i := 2) rfl))
   have F41 := F29.other W33 (Or.inl (Ne.symm nx11))
   have F42 := Fld_a1_labelStarts.other W4 (Or.inr (slot_ne (Or.inl (ow hw 32 rfl)) (Or.inl (ow hw 34 rfl)) (by decide) (t := (.array .int)) (t' := .int) (by decide) (by decide)))
   have F43 := F42.keep K15 (ninS (Ne.symm nx17) (ninS (Ne.symm nx21) nin0))
   have F44 := F43.other W33 (Or.inl (Ne.symm nx11))
   have F45 := F4.keep K15 (ninS (Ne.symm nx17) (ninS (Ne.symm nx21) nin0))
   have F46 := F45.other W33 (Or.inl (Ne.symm nx11))
   have F47 := F27.other W33 (Or.inl (Ne.symm nx11))
   have F48 := P15_0.other W33 (Or.inl (Ne.symm nx35))
   have F49 := P15_1.other W33 (Or.inl (Ne.symm nx35))
   have F50 := P15_3.other W33 (Ne.symm ne_ks_bl)
   have nx51 : cn_15 ≠ ks := (Ne.symm (own_ne V_ks.lt (Keep.of_wr W4).1 P15_2))
   have F52 := P15_4.other W33 nx51
   obtain ⟨fs, hr, hrun, hended, hW, hsame⟩ := X33.leave (v := some (.int (0 : Int32))) (fun h => by rw [Bd.returns] at h; cases h)
   exact ⟨_, _, retOut X33 hx Bd.returns rfl (Or.inl ⟨rfl, Or.inl rfl, _, rfl⟩) (hb hby d4_122) hr, hrun, hended, _, _, rfl, (show Qrmap2_0E1 Z a1 a2 k2 y0 y1 y2 p4 ib ks kk bl kb x0 x1 h0 n0 _ T33.heap _ from (by rw [e33]; exact ⟨cn_15, kn_15, vsn_15, rfl, N33, K40, F41, F44, F46, F47, V33, F48, F49, (Nat.le_trans (Keep.of_wr W4).1 P15_2), F50, F52, P15_5⟩)), ⟨_, rfl⟩, hW, hsame.mono (by decide) (by decide)⟩
 · intro J2
   refine own_go (b := (T1.setTop (mkF m 26 #[rv a1, rv a2, iv p4, iv (0 : Int32)] [(.int (0 : Int32)), (.ref a2)]))) (fun _ k => XS.iloadN X1.here hx rfl (hb hby d4_19) rfl (XS.iloadN X1.here hx rfl (hb hby d4_20) rfl (XS.icmpNo X1.here hx rfl (hb hby d4_21) rfl (tlt hn0).2.1 (XS.aloadN X1.here hx rfl (hb hby d4_24) rfl rfl (XS.iloadN X1.here hx rfl (hb hby d4_25) rfl k))))) ?_
   obtain ⟨cl53, Ar53, ql53, Sz53, Nn53, Hl53, Gl53⟩ := id V_a2
   have hin53 : ¬ ((0 : Int32) < 0 ∨ cl53.slots.size ≤ ((0 : Int32)).toNatClampNeg) := inb_of Sz53 ⟨by decide, by decide⟩
   refine own_go (b := (T1.setTop (mkF m 21 #[rv a1, rv a2, iv p4, iv (1 : Int32)] [(.int p4), (.int (1 : Int32))]))) (fun _ k => X1.iaload hx (j := (0 : Int32)) (v := (.int y0)) (by rw [e1]; exact Ar53.1) (State.isArrayOf_alike hZ.alike Ar53.2.1) Ar53.2.2 hin53 (Hl53.at hin53 rfl) (g := (mkF m 26 #[rv a1, rv a2, iv p4, iv (0 : Int32)] [(.int (0 : Int32)), (.ref a2)])) rfl rfl (hb hby d4_26) _ (XS.ifYes X1.here hx rfl (pc0 := 27) (pc' := 46) rfl (hb hby d4_27) rfl ((if0 _ _).trans (flt hy0).2.1) (by decide) (by decide) (XS.iinc X1.here hx rfl (hb hby d4_46) rfl (l' := #[rv a1, rv a2, iv p4, iv (1 : Int32)]) rfl (XS.goto X1.here hx rfl (pc0 := 49) (pc' := 19) rfl (hb hby d4_49) (by decide) (by decide) (XS.iloadN X1.here hx rfl (hb hby d4_19) rfl (XS.iloadN X1.here hx rfl (hb hby d4_20) rfl k)))))) ?_
   by_cases hc21_54 : (1 : Int32) < p4
   · skip
     refine own_go (b := (T1.setTop (mkF m 26 #[rv a1, rv a2, iv p4, iv (1 : Int32)] [(.int (1 : Int32)), (.ref a2)]))) (fun _ k => XS.icmpNo X1.here hx rfl (hb hby d4_21) rfl (tlt hc21_54).2.1 (XS.aloadN X1.here hx rfl (hb hby d4_24) rfl rfl (XS.iloadN X1.here hx rfl (hb hby d4_25) rfl k))) ?_
     obtain ⟨cl55, Ar55, ql55, Sz55, Nn55, Hl55, Gl55⟩ := id V_a2
     have hin55 : ¬ ((1 : Int32) < 0 ∨ cl55.slots.size ≤ ((1 : Int32)).toNatClampNeg) := inb_of Sz55 ⟨by decide, by decide⟩
     refine own_go (b := (T1.setTop (mkF m 21 #[rv a1, rv a2, iv p4, iv (2 : Int32)] [(.int p4), (.int (2 : Int32))]))) (fun _ k => X1.iaload hx (j := (1 : Int32)) (v := (.int y1)) (by rw [e1]; exact Ar55.1) (State.isArrayOf_alike hZ.alike Ar55.2.1) Ar55.2.2 hin55 (Hl55.at hin55 rfl) (g := (mkF m 26 #[rv a1, rv a2, iv p4, iv (1 : Int32)] [(.int (1 : Int32)), (.ref a2)])) rfl rfl (hb hby d4_26) _ (XS.ifYes X1.here hx rfl (pc0 := 27) (pc' := 46) rfl (hb hby d4_27) rfl ((if0 _ _).trans (flt hy1).2.1) (by decide) (by decide) (XS.iinc X1.here hx rfl (hb hby d4_46) rfl (l' := #[rv a1, rv a2, iv p4, iv (2 : Int32)]) rfl (XS.goto X1.here hx rfl (pc0 := 49) (pc' := 19) rfl (hb hby d4_49) (by decide) (by decide) (XS.iloadN X1.here hx rfl (hb hby d4_19) rfl (XS.iloadN X1.here hx rfl (hb hby d4_20) rfl k)))))) ?_
     by_cases hc21_56 : (2 : Int32) < p4
     · skip
       refine own_go (b := (T1.setTop (mkF m 26 #[rv a1, rv a2, iv p4, iv (2 : Int32)] [(.int (2 : Int32)), (.ref a2)]))) (fun _ k => XS.icmpNo X1.here hx rfl (hb hby d4_21) rfl (tlt hc21_56).2.1 (XS.aloadN X1.here hx rfl (hb hby d4_24) rfl rfl (XS.iloadN X1.here hx rfl (hb hby d4_25) rfl k))) ?_
       obtain ⟨cl57, Ar57, ql57, Sz57, Nn57, Hl57, Gl57⟩ := id V_a2
       have hin57 : ¬ ((2 : Int32) < 0 ∨ cl57.slots.size ≤ ((2 : Int32)).toNatClampNeg) := inb_of Sz57 ⟨by decide, by decide⟩
       refine own_go (b := (T1.setTop (mkF m 52 #[rv a1, rv a2, iv p4, iv (3 : Int32)] []))) (fun _ k => X1.iaload hx (j := (2 : Int32)) (v := (.int y2)) (by rw [e1]; exact Ar57.1) (State.isArrayOf_alike hZ.alike Ar57.2.1) Ar57.2.2 hin57 (Hl57.at hin57 rfl) (g := (mkF m 26 #[rv a1, rv a2, iv p4, iv (2 : Int32)] [(.int (2 : Int32)), (.ref a2)])) rfl rfl (hb hby d4_26) _ (XS.ifYes X1.here hx rfl (pc0 := 27) (pc' := 46) rfl (hb hby d4_27) rfl ((if0 _ _).trans (flt hy2).2.1) (by decide) (by decide) (XS.iinc X1.here hx rfl (hb hby d4_46) rfl (l' := #[rv a1, rv a2, iv p4, iv (3 : Int32)]) rfl (XS.goto X1.here hx rfl (pc0 := 49) (pc' := 19) rfl (hb hby d4_49) (by decide) (by decide) (XS.iloadN X1.here hx rfl (hb hby d4_19) rfl (XS.iloadN X1.here hx rfl (hb hby d4_20) rfl (XS.icmpYes X1.here hx rfl (pc0 := 21) (pc' := 52) rfl (hb hby d4_21) rfl (flt hn3).2.1 (by decide) (by decide) k))))))) ?_
       exact J2 (3 : Int32) trivial
     · skip
       refine own_go (b := (T1.setTop (mkF m 52 #[rv a1, rv a2, iv p4, iv (2 : Int32)] []))) (fun _ k => XS.icmpYes X1.here hx rfl (pc0 := 21) (pc' := 52) rfl (hb hby d4_21) rfl (flt hc21_56).2.1 (by decide) (by decide) k) ?_
       exact J2 (2 : Int32) trivial
   · skip
     refine own_go (b := (T1.setTop (mkF m 52 #[rv a1, rv a2, iv p4, iv (1 : Int32)] []))) (fun _ k => XS.icmpYes X1.here hx rfl (pc0 := 21) (pc' := 52) rfl (hb hby d4_21) rfl (flt hc21_54).2.1 (by decide) (by decide) k) ?_
     exact J2 (1 : Int32) trivial
theorem ef_rmap3_0N0 (m : MethodId) (x0 : Addr) (x1 : Addr) (x2 : Int32) : entryFrame m #[(.ref x0), (.ref x1), (.int x2)] 4 = mkF m 0 #[rv x0, rv x1, iv x2, .unset] [] := by first | (simp [entryFrame, mkF, argsToLocals, Value.category]; done) | rfl
def Qrmap3_0N0 (Z : State) (a1 : Addr) (a2 : Addr) (k2 : ClassId) (y0 : Int32) (y1 : Int32) (y2 : Int32) (ib : Addr) (ks : Addr) (kk : ClassId) (x_s : Int32) (x0 : Int32) (x1 : Int32) (x2 : Int32) (h0 : Heap) (n0 : Nat) (v : Option Value) (h : Heap) (L : List Loc) : Prop := v = some (.int (0 : Int32)) ∧ Fr n0 L ∧ Keep h0 h [a1, ks] ∧ (Fld Z h a1 cs0 "keys" "Lcom/example/arcwright/arcwright/parser/IntBlocks;" (.ref ib)) ∧ (Fld Z h a1 cs0 "labelStarts" "[I" .null) ∧ (Fld Z h a1 cs0 "size" "I" (.int (1 : Int32))) ∧ (Fld Z h a1 cs0 "keyStarts" "[I" (.ref ks)) ∧ (Arv Z h ks kk .int (3 : Int32) [(.int x0), (.int x_s), (.int x2)] (.int (0 : Int32)))
set_option maxRecDepth 65536 in
set_option maxHeartbeats 40000000 in
theorem rmap3_0N0 (l : Launch) (Z : State) (a0 : Array Value) (hw : ∀ d ∈ tables_1, d.before a0 Z = true) (ws : List Jvm.Cond) (a1 : Addr) (a2 : Addr) (k2 : ClassId) (y0 : Int32) (y1 : Int32) (y2 : Int32) (ib : Addr) (ks : Addr) (kk : ClassId) (x_s : Int32) (x0 : Int32) (x1 : Int32) (x2 : Int32) (h0 : Heap) (n0 : Nat) (Z0 : n0 ≤ h0.size) (E_a1 : Exa Z h0 a1 cs0) (Fld_a1_keys : Fld Z h0 a1 cs0 "keys" "Lcom/example/arcwright/arcwright/parser/IntBlocks;" (.ref ib)) (Fld_a1_keyStarts : Fld Z h0 a1 cs0 "keyStarts" "[I" (.ref ks)) (Fld_a1_labelStarts : Fld Z h0 a1 cs0 "labelStarts" "[I" .null) (Fld_a1_size : Fld Z h0 a1 cs0 "size" "I" (.int (0 : Int32))) (E_ib : Exa Z h0 ib cs1) (Fld_ib_size : Fld Z h0 ib cs1 "size" "I" (.int x_s)) (V_ks : Arv Z h0 ks kk .int (3 : Int32) [(.int x0), (.int x1), (.int x2)] (.int (0 : Int32))) (V_a2 : Arv Z h0 a2 k2 .int (3 : Int32) [(.int y0), (.int y1), (.int y2)] (.int (0 : Int32))) (g_a1 : n0 ≤ a1) (g_ib : n0 ≤ ib) (g_ks : n0 ≤ ks) (ne_ks_a2 : ks ≠ a2) (hy0 : ¬ (y0 < (0 : Int32))) (hy1 : ¬ (y1 < (0 : Int32))) (hy2 : ¬ (y2 < (0 : Int32))) :
    MetFree l mn0 (head1 (Jvm.Cond.code mn0 prog_25_method_3_code 4 (some .int) :: ws) ({ frames := 1, cells := 0, slots := 0, locals := 18 } : Room)) (fun a U => a = #[(.ref a1), (.ref a2), (.int (0 : Int32))] ∧ Z.Warmed39 U.vm ∧ U.heap = h0) (fun _ _ _ _ _ => True) (fun _ U o U' => ∃ v L, o = .returned v ∧ Qrmap3_0N0 Z a1 a2 k2 y0 y1 y2 ib ks kk x_s x0 x1 x2 h0 n0 v U'.heap L ∧ FrameEnd U o U' L ({ frames := 1, cells := 0, slots := 0, locals := 18 } : Room).cells ({ frames := 1, cells := 0, slots := 0, locals := 18 } : Room).slots) := by
 refine MetFree.of_bodySF (plainFor_of_name pn_4) hisR ?_
 intro p e s m args below meth c s₁ Bd hml0 hP hK
 obtain ⟨rfl, hZ, hh⟩ := hP
 have hx := Bd.exec
 have hby := Bd.bytes
 have hml : c.maxLocals = 4 := hml0
 have hown : s.vm.findClass cs0 = some m.cls := findClass_of_methodNamed Bd.named
 have hnm := (name_of_methodNamed Bd.named Bd.method).1
 have X0 : Stand p l e ({ frames := 1, cells := 0, slots := 0, locals := 18 } : Room) s m #[(.ref a1), (.ref a2), (.int (0 : Int32))] below meth c s₁ [] 0 0 := Stand.of_body Bd
 have e0 : s₁.heap = h0 := by rw [← hh, Bd.state]; rfl
 have N0 := Fr.nil n0
 refine own_go (b := (s₁.setTop (mkF m 0 #[rv a1, rv a2, iv (0 : Int32), .unset] []))) (fun _ k => castTop (ef_rmap3_0N0 m a1 a2 (0 : Int32)) k) ?_
 refine own_go (b := (s₁.setTop (mkF m 1 #[rv a1, rv a2, iv (0 : Int32), .unset] [(.ref a1)]))) (fun _ k => XS.aloadN X0.here hx rfl (hb hby d4_0) rfl rfl k) ?_
 refine own_getf X0 hx hZ hown (ow hw 31 rfl) Via.refl e0 Fld_a1_labelStarts rfl rfl (hb hby d4_1) (fun T1 X1 e1 => ?_)
 refine own_go (b := (T1.setTop (mkF m 54 #[rv a1, rv a2, iv (0 : Int32), iv (0 : Int32)] [(.ref a1), (.ref a1)]))) (fun _ k => XS.ifnullYes X1.here hx rfl (pc0 := 4) (pc' := 17) rfl (hb hby d4_4) rfl (by decide) (by decide) (XS.iconst X1.here hx rfl (hb hby d4_17) (XS.istoreN X1.here hx rfl (hb hby d4_18) rfl (l' := #[rv a1, rv a2, iv (0 : Int32), iv (0 : Int32)]) rfl (XS.iloadN X1.here hx rfl (hb hby d4_19) rfl (XS.iloadN X1.here hx rfl (hb hby d4_20) rfl (XS.icmpYes X1.here hx rfl (pc0 := 21) (pc' := 52) rfl (hb hby d4_21) rfl (flt (by decide : ¬ ((0 : Int32) < (0 : Int32)))).2.1 (by decide) (by decide) (XS.aloadN X1.here hx rfl (hb hby d4_52) rfl rfl (XS.dup X1.here hx rfl (hb hby d4_53) rfl rfl k)))))))) ?_
 refine own_getf X1 hx hZ hown (ow hw 33 rfl) Via.refl e1 Fld_a1_size rfl rfl (hb hby d4_54) (fun T2 X2 e2 => ?_)
 refine own_go (b := (T2.setTop (mkF m 60 #[rv a1, rv a2, iv (0 : Int32), iv (0 : Int32)] [(.int (1 : Int32)), (.ref a1), (.int (0 : Int32))]))) (fun _ k => XS.dupX1 X2.here hx rfl (hb hby d4_57) rfl rfl rfl (XS.iconst X2.here hx rfl (hb hby d4_58) (XS.iadd X2.here hx rfl (hb hby d4_59) rfl k))) ?_
 obtain ⟨T3, h3, X3, e3, W3, st3⟩ := putF X2 hx hZ hown (host := "") (Or.inl (ow hw 33 rfl)) Via.refl e2 Fld_a1_size E_a1 (Or.inl (ow hw 34 rfl)) (ow hw 3 rfl) (ty := .int) (by decide) rfl rfl (g := (mkF m 60 #[rv a1, rv a2, iv (0 : Int32), iv (0 : Int32)] [(.int (1 : Int32)), (.ref a1), (.int (0 : Int32))])) rfl rfl (hb hby d4_60)
 have N3 := Fr.snoc X3 N0 g_a1
 have Zs4 : n0 ≤ h3.size := Nat.le_trans Z0 (Keep.of_wr W3).1
 have F3 : Fld Z h3 a1 cs0 "size" "I" (.int (1 : Int32)) := Fld_a1_size.same W3
 refine own_go (b := (T3.setTop (mkF m 65 #[rv a1, rv a2, iv (0 : Int32), iv (0 : Int32)] [(.ref a1)]))) (fun _ k => st3 _ (XS.istoreN X3.here hx rfl (hb hby d4_63) rfl (l' := #[rv a1, rv a2, iv (0 : Int32), iv (0 : Int32)]) rfl (XS.aloadN X3.here hx rfl (hb hby d4_64) rfl rfl k))) ?_
 refine own_getf X3 hx hZ hown (ow hw 33 rfl) Via.refl e3 F3 rfl rfl (hb hby d4_65) (fun T5 X5 e5 => ?_)
 refine own_go (b := (T5.setTop (mkF m 71 #[rv a1, rv a2, iv (0 : Int32), iv (0 : Int32)] [(.ref a1), (.int (2 : Int32))]))) (fun _ k => XS.iconst X5.here hx rfl (hb hby d4_68) (XS.iadd X5.here hx rfl (hb hby d4_69) rfl (XS.aloadN X5.here hx rfl (hb hby d4_70) rfl rfl k))) ?_
 have F6 := Fld_a1_keyStarts.other W3 (Or.inr (slot_ne (Or.inl (ow hw 25 rfl)) (Or.inl (ow hw 34 rfl)) (by decide) (t := (.array .int)) (t' := .int) (by decide) (by decide)))
 refine own_getf X5 hx hZ hown (ow hw 24 rfl) Via.refl e5 F6 rfl rfl (hb hby d4_71) (fun T7 X7 e7 => ?_)
 obtain ⟨cn9, An9, -⟩ := id V_ks
 have nx10 : ks ≠ a1 := (Ne.symm (ne_arr E_a1 (ow hw 3 rfl) An9))
 have F11 := V_ks.other W3 nx10
 obtain ⟨cl8, Ar8, -, Sz8, Nn8, -, -⟩ := id F11
 refine own_go (b := (T7.setTop (mkF m 97 #[rv a1, rv a2, iv (0 : Int32), iv (0 : Int32)] [(.ref a1)]))) (fun _ k => X7.arraylength hx (by rw [e7]; exact Ar8.1) (State.isArrayOf_alike hZ.alike Ar8.2.1) (g := (mkF m 74 #[rv a1, rv a2, iv (0 : Int32), iv (0 : Int32)] [(.ref ks), (.int (2 : Int32))])) rfl rfl (hb hby d4_74) _ (by rw [len_of Sz8 Nn8]; exact (XS.icmpYes X7.here hx rfl (pc0 := 75) (pc' := 96) rfl (hb hby d4_75) rfl (flt (by decide : ¬ ((3 : Int32) < (2 : Int32)))).2.2.2 (by decide) (by decide) (XS.aloadN X7.here hx rfl (hb hby d4_96) rfl rfl k)))) ?_
 have F12 := Fld_a1_keys.other W3 (Or.inr (slot_ne (Or.inr (ow hw 23 rfl)) (Or.inl (ow hw 34 rfl)) (by decide) (t := (.object cs1)) (t' := .int) (by decide) (by decide)))
 refine own_getf X7 hx hZ hown (ow hw 22 rfl) Via.refl e7 F12 rfl rfl (hb hby d4_97) (fun T13 X13 e13 => ?_)
 refine own_go (b := (T13.setTop (mkF m 103 #[rv a1, rv a2, iv (0 : Int32), iv (0 : Int32)] [(.int (0 : Int32)), (.int (0 : Int32)), (.ref a2), (.ref ib)]))) (fun _ k => XS.aloadN X13.here hx rfl (hb hby d4_100) rfl rfl (XS.iconst X13.here hx rfl (hb hby d4_101) (XS.iloadN X13.here hx rfl (hb hby d4_102) rfl k))) ?_
 have F15 := E_ib.wr W3
 refine own_virt (W := 0) X13 hx hZ hown e13 (ow hw 47 rfl) (ow hw 48 rfl) (ow hw 50 rfl) (ow hw 49 rfl) (rmadd0 l Z a0 hw [] ib a2 h3 n0 Zs4) (ow hw 51 rfl) (ow hw 13 rfl) F15 rfl (by rw [hml]; rfl) rfl (hb hby d4_103) (lenOf pd___III_V rfl) rfl (by decide) (fun T14 v14 Ll14 X14 hQ14 => ?_)
 obtain ⟨rfl, N14q, eh14⟩ := hQ14
 have N14 := Fr.app N3 N14q
 refine own_go (b := (T14.setTop (mkF m 107 #[rv a1, rv a2, iv (0 : Int32), iv (0 : Int32)] [(.ref a1)]))) (fun _ k => XS.aloadN X14.here hx rfl (hb hby d4_106) rfl rfl k) ?_
 refine own_getf X14 hx hZ hown (ow hw 24 rfl) Via.refl eh14 F6 rfl rfl (hb hby d4_107) (fun T16 X16 e16 => ?_)
 refine own_go (b := (T16.setTop (mkF m 114 #[rv a1, rv a2, iv (0 : Int32), iv (0 : Int32)] [(.ref a1), (.int (1 : Int32)), (.ref ks)]))) (fun _ k => XS.iloadN X16.here hx rfl (hb hby d4_110) rfl (XS.iconst X16.here hx rfl (hb hby d4_111) (XS.iadd X16.here hx rfl (hb hby d4_112) rfl (XS.aloadN X16.here hx rfl (hb hby d4_113) rfl rfl k)))) ?_
 refine own_getf X16 hx hZ hown (ow hw 22 rfl) Via.refl e16 F12 rfl rfl (hb hby d4_114) (fun T17 X17 e17 => ?_)
 have nx19 : ib ≠ a1 := (ne_exa E_ib E_a1 (by decide))
 have F20 := Fld_ib_size.other W3 (Or.inl nx19)
 refine own_virt (W := 2) X17 hx hZ hown e17 (ow hw 63 rfl) (ow hw 64 rfl) (ow hw 66 rfl) (ow hw 65 rfl) (rm9 l Z a0 hw [] ib x_s h3 n0 Zs4 F20) (ow hw 67 rfl) (ow hw 13 rfl) F15 rfl (by rw [hml]; rfl) rfl (hb hby d4_117) (lenOf pd___I rfl) rfl (by decide) (fun T18 v18 Ll18 X18 hQ18 => ?_)
 obtain ⟨rfl, N18q, eh18⟩ := hQ18
 have N18 := Fr.app N14 N18q
 obtain ⟨cl21, Ar21, ql21, Sz21, Nn21, Hl21, Gl21⟩ := id F11
 have hin21 : ¬ ((1 : Int32) < 0 ∨ cl21.slots.size ≤ ((1 : Int32)).toNatClampNeg) := inb_of Sz21 ⟨by decide, by decide⟩
 obtain ⟨T21, h21, X21, e21, W21, st21⟩ := stI X18 hx hZ eh18 Ar21 (j := (1 : Int32)) hin21 (g := (mkF m 120 #[rv a1, rv a2, iv (0 : Int32), iv (0 : Int32)] [(.int x_s), (.int (1 : Int32)), (.ref ks)])) rfl rfl (hb hby d4_120)
 have N21 := Fr.snoc X21 N18 g_ks
 have Zs22 : n0 ≤ h21.size := Nat.le_trans Zs4 (Keep.of_wr W21).1
 have V21 : Arv Z h21 ks kk .int (3 : Int32) [(.int x0), (.int x_s), (.int x2)] (.int (0 : Int32)) := Arv.set Ar21 ql21 Sz21 Nn21 Hl21 Gl21 rfl W21 1 rfl (Nat.le_of_ble_eq_true rfl)
 refine own_go (b := (T21.setTop (mkF m 122 #[rv a1, rv a2, iv (0 : Int32), iv (0 : Int32)] [(.int (0 : Int32))]))) (fun _ k => st21 _ (XS.iloadN X21.here hx rfl (hb hby d4_121) rfl k)) ?_
 have K23 := (Keep.refl h0 [a1, ks]).wr W3 (Or.inl (List.mem_of_getElem? (i := 0) rfl))
 have K24 := K23.wr W21 (Or.inl (List.mem_of_getElem? (i := 1) rfl))
 have F25 := F12.other W21 (Or.inl (Ne.symm nx10))
 have F26 := Fld_a1_labelStarts.other W3 (Or.inr (slot_ne (Or.inl (ow hw 32 rfl)) (Or.inl (ow hw 34 rfl)) (by decide) (t := (.array .int)) (t' := .int) (by decide) (by decide)))
 have F27 := F26.other W21 (Or.inl (Ne.symm nx10))
 have F28 := F3.other W21 (Or.inl (Ne.symm nx10))
 have F29 := F6.other W21 (Or.inl (Ne.symm nx10))
 obtain ⟨fs, hr, hrun, hended, hW, hsame⟩ := X21.leave (v := some (.int (0 : Int32))) (fun h => by rw [Bd.returns] at h; cases h)
 exact ⟨_, _, retOut X21 hx Bd.returns rfl (Or.inl ⟨rfl, Or.inl rfl, _, rfl⟩) (hb hby d4_122) hr, hrun, hended, _, _, rfl, (show Qrmap3_0N0 Z a1 a2 k2 y0 y1 y2 ib ks kk x_s x0 x1 x2 h0 n0 _ T21.heap _ from (by rw [e21]; exact ⟨rfl, N21, K24, F25, F27, F28, F29, V21⟩)), ⟨_, rfl⟩, hW, hsame.mono (by decide) (by decide)⟩
theorem ef_rmap3_0E1 (m : MethodId) (x0 : Addr) (x1 : Addr) (x2 : Int32) : entryFrame m #[(.ref x0), (.ref x1), (.int x2)] 4 = mkF m 0 #[rv x0, rv x1, iv x2, .unset] [] := by first | (simp [entryFrame, mkF, argsToLocals, Value.category]; done) | rfl
def Qrmap3_0E1 (Z : State) (a1 : Addr) (a2 : Addr) (k2 : ClassId) (y0 : Int32) (y1 : Int32) (y2 : Int32) (p4 : Int32) (ib : Addr) (ks : Addr) (kk : ClassId) (bl : Addr) (kb : ClassId) (x0 : Int32) (x1 : Int32) (x2 : Int32) (h0 : Heap) (n0 : Nat) (v : Option Value) (h : Heap) (L : List Loc) : Prop := ∃ (cn : Addr) (kn : ClassId) (vsn : List Value), v = some (.int (0 : Int32)) ∧ Fr n0 L ∧ Keep h0 h [a1, ib, ks, bl] ∧ (Fld Z h a1 cs0 "keys" "Lcom/example/arcwright/arcwright/parser/IntBlocks;" (.ref ib)) ∧ (Fld Z h a1 cs0 "labelStarts" "[I" .null) ∧ (Fld Z h a1 cs0 "size" "I" (.int (1 : Int32))) ∧ (Fld Z h a1 cs0 "keyStarts" "[I" (.ref ks)) ∧ (Arv Z h ks kk .int (3 : Int32) [(.int x0), (.int p4), (.int x2)] (.int (0 : Int32))) ∧ (Fld Z h ib cs1 "size" "I" (.int p4)) ∧ (Fld Z h ib cs1 "blocks" "[[I" (.ref bl)) ∧ (h0.size ≤ cn) ∧ (Arv Z h bl kb (.array .int) (16 : Int32) ((.ref cn) :: own_n15) .null) ∧ (Arv Z h cn kn .int (65536 : Int32) vsn (.int (0 : Int32))) ∧ (16 ≤ vsn.length)
set_option maxRecDepth 65536 in
set_option maxHeartbeats 40000000 in
theorem rmap3_0E1 (l : Launch) (Z : State) (a0 : Array Value) (hw : ∀ d ∈ tables_1, d.before a0 Z = true) (ws : List Jvm.Cond) (a1 : Addr) (a2 : Addr) (k2 : ClassId) (y0 : Int32) (y1 : Int32) (y2 : Int32) (p4 : Int32) (ib : Addr) (ks : Addr) (kk : ClassId) (bl : Addr) (kb : ClassId) (x0 : Int32) (x1 : Int32) (x2 : Int32) (h0 : Heap) (n0 : Nat) (Z0 : n0 ≤ h0.size) (E_a1 : Exa Z h0 a1 cs0) (Fld_a1_keys : Fld Z h0 a1 cs0 "keys" "Lcom/example/arcwright/arcwright/parser/IntBlocks;" (.ref ib)) (Fld_a1_keyStarts : Fld Z h0 a1 cs0 "keyStarts" "[I" (.ref ks)) (Fld_a1_labelStarts : Fld Z h0 a1 cs0 "labelStarts" "[I" .null) (Fld_a1_size : Fld Z h0 a1 cs0 "size" "I" (.int (0 : Int32))) (E_ib : Exa Z h0 ib cs1) (Fld_ib_size : Fld Z h0 ib cs1 "size" "I" (.int (0 : Int32))) (Fld_ib_blocks : Fld Z h0 ib cs1 "blocks" "[[I" (.ref bl)) (V_ks : Arv Z h0 ks kk .int (3 : Int32) [(.int x0), (.int x1), (.int x2)] (.int (0 : Int32))) (V_a2 : Arv Z h0 a2 k2 .int (3 : Int32) [(.int y0), (.int y1), (.int y2)] (.int (0 : Int32))) (g_a1 : n0 ≤ a1) (g_ib : n0 ≤ ib) (g_ks : n0 ≤ ks) (ne_ks_a2 : ks ≠ a2) (g_bl : n0 ≤ bl) (ne_ks_bl : ks ≠ bl) (ne_a2_bl : a2 ≠ bl) (hy0 : ¬ (y0 < (0 : Int32))) (hy1 : ¬ (y1 < (0 : Int32))) (hy2 : ¬ (y2 < (0 : Int32))) (hn0 : (0 : Int32) < p4) (hn3 : ¬ ((3 : Int32) < p4)) (V_bl : Arv Z h0 bl kb (.array .int) (16 : Int32) own_n16 .null) (Ov_bl : OvrA Z kb .int "[I") :
    MetFree l mn0 (head1 (Jvm.Cond.code mn0 prog_25_method_3_code 4 (some .int) :: ws) ({ frames := 2, cells := 1, slots := 65536, locals := 58 } : Room)) (fun a U => a = #[(.ref a1), (.ref a2), (.int p4)] ∧ Z.Warmed39 U.vm ∧ U.heap = h0) (fun _ _ _ _ _ => True) (fun _ U o U' => ∃ v L, o = .returned v ∧ Qrmap3_0E1 Z a1 a2 k2 y0 y1 y2 p4 ib ks kk bl kb x0 x1 x2 h0 n0 v U'.heap L ∧ FrameEnd U o U' L ({ frames := 2, cells := 1, slots := 65536, locals := 58 } : Room).cells ({ frames := 2, cells := 1, slots := 65536, locals := 58 } : Room).slots) := by
 refine MetFree.of_bodySF (plainFor_of_name pn_4) hisR ?_
 intro p e s m args below meth c s₁ Bd hml0 hP hK
 obtain ⟨rfl, hZ, hh⟩ := hP
 have hx := Bd.exec
 have hby := Bd.bytes
 have hml : c.maxLocals = 4 := hml0
 have hown : s.vm.findClass cs0 = some m.cls := findClass_of_methodNamed Bd.named
 have hnm := (name_of_methodNamed Bd.named Bd.method).1
 have X0 : Stand p l e ({ frames := 2, cells := 1, slots := 65536, locals := 58 } : Room) s m #[(.ref a1), (.ref a2), (.int p4)] below meth c s₁ [] 0 0 := Stand.of_body Bd
 have e0 : s₁.heap = h0 := by rw [← hh, Bd.state]; rfl
 have N0 := Fr.nil n0
 refine own_go (b := (s₁.setTop (mkF m 0 #[rv a1, rv a2, iv p4, .unset] []))) (fun _ k => castTop (ef_rmap3_0E1 m a1 a2 p4) k) ?_
 refine own_go (b := (s₁.setTop (mkF m 1 #[rv a1, rv a2, iv p4, .unset] [(.ref a1)]))) (fun _ k => XS.aloadN X0.here hx rfl (hb hby d4_0) rfl rfl k) ?_
 refine own_getf X0 hx hZ hown (ow hw 31 rfl) Via.refl e0 Fld_a1_labelStarts rfl rfl (hb hby d4_1) (fun T1 X1 e1 => ?_)
 refine own_go (b := (T1.setTop (mkF m 19 #[rv a1, rv a2, iv p4, iv (0 : Int32)] []))) (fun _ k => XS.ifnullYes X1.here hx rfl (pc0 := 4) (pc' := 17) rfl (hb hby d4_4) rfl (by decide) (by decide) (XS.iconst X1.here hx rfl (hb hby d4_17) (XS.istoreN X1.here hx rfl (hb hby d4_18) rfl (l' := #[rv a1, rv a2, iv p4, iv (0 : Int32)]) rfl k))) ?_
 refine own_join (A := Int32) (C := fun ii => True) (f := fun ii => (T1.setTop (mkF m 52 #[rv a1, rv a2, iv p4, iv ii] []))) ?_ ?_
 · intro ii hj2
   refine own_go (b := (T1.setTop (mkF m 54 #[rv a1, rv a2, iv p4, iv ii] [(.ref a1), (.ref a1)]))) (fun _ k => XS.aloadN X1.here hx rfl (hb hby d4_52) rfl rfl (XS.dup X1.here hx rfl (hb hby d4_53) rfl rfl k)) ?_
   refine own_getf X1 hx hZ hown (ow hw 33 rfl) Via.refl e1 Fld_a1_size rfl rfl (hb hby d4_54) (fun T3 X3 e3 => ?_)
   refine own_go (b := (T3.setTop (mkF m 60 #[rv a1, rv a2, iv p4, iv ii] [(.int (1 : Int32)), (.ref a1), (.int (0 : Int32))]))) (fun _ k => XS.dupX1 X3.here hx rfl (hb hby d4_57) rfl rfl rfl (XS.iconst X3.here hx rfl (hb hby d4_58) (XS.iadd X3.here hx rfl (hb hby d4_59) rfl k))) ?_
   obtain ⟨T4, h4, X4, e4, W4, st4⟩ := putF X3 hx hZ hown (host := "") (Or.inl (ow hw 33 rfl)) Via.refl e3 Fld_a1_size E_a1 (Or.inl (ow hw 34 rfl)) (ow hw 3 rfl) (ty := .int) (by decide) rfl rfl (g := (mkF m 60 #[rv a1, rv a2, iv p4, iv ii] [(.int (1 : Int32)), (.ref a1), (.int (0 : Int32))])) rfl rfl (hb hby d4_60)
   have N4 := Fr.snoc X4 N0 g_a1
   have Zs5 : n0 ≤ h4.size := Nat.le_trans Z0 (Keep.of_wr W4).1
   have F4 : Fld Z h4 a1 cs0 "size" "I" (.int (1 : Int32)) := Fld_a1_size.same W4
   refine own_go (b := (T4.setTop (mkF m 65 #[rv a1, rv a2, iv p4, iv (0 : Int32)] [(.ref a1)]))) (fun _ k => st4 _ (XS.istoreN X4.here hx rfl (hb hby d4_63) rfl (l' := #[rv a1, rv a2, iv p4, iv (0 : Int32)]) rfl (XS.aloadN X4.here hx rfl (hb hby d4_64) rfl rfl k))) ?_
   refine own_getf X4 hx hZ hown (ow hw 33 rfl) Via.refl e4 F4 rfl rfl (hb hby d4_65) (fun T6 X6 e6 => ?_)
   refine own_go (b := (T6.setTop (mkF m 71 #[rv a1, rv a2, iv p4, iv (0 : Int32)] [(.ref a1), (.int (2 : Int32))]))) (fun _ k => XS.iconst X6.here hx rfl (hb hby d4_68) (XS.iadd X6.here hx rfl (hb hby d4_69) rfl (XS.aloadN X6.here hx rfl (hb hby d4_70) rfl rfl k))) ?_
   have F7 := Fld_a1_keyStarts.other W4 (Or.inr (slot_ne (Or.inl (ow hw 25 rfl)) (Or.inl (ow hw 34 rfl)) (by decide) (t := (.array .int)) (t' := .int) (by decide) (by decide)))
   refine own_getf X6 hx hZ hown (ow hw 24 rfl) Via.refl e6 F7 rfl rfl (hb hby d4_71) (fun T8 X8 e8 => ?_)
   obtain ⟨cn10, An10, -⟩ := id V_ks
   have nx11 : ks ≠ a1 := (Ne.symm (ne_arr E_a1 (ow hw 3 rfl) An10))
   have F12 := V_ks.other W4 nx11
   obtain ⟨cl9, Ar9, -, Sz9, Nn9, -, -⟩ := id F12
   refine own_go (b := (T8.setTop (mkF m 97 #[rv a1, rv a2, iv p4, iv (0 : Int32)] [(.ref a1)]))) (fun _ k => X8.arraylength hx (by rw [e8]; exact Ar9.1) (State.isArrayOf_alike hZ.alike Ar9.2.1) (g := (mkF m 74 #[rv a1, rv a2, iv p4, iv (0 : Int32)] [(.ref ks), (.int (2 : Int32))])) rfl rfl (hb hby d4_74) _ (by rw [len_of Sz9 Nn9]; exact (XS.icmpYes X8.here hx rfl (pc0 := 75) (pc' := 96) rfl (hb hby d4_75) rfl (flt (by decide : ¬ ((3 : Int32) < (2 : Int32)))).2.2.2 (by decide) (by decide) (XS.aloadN X8.here hx rfl (hb hby d4_96) rfl rfl k)))) ?_
   have F13 := Fld_a1_keys.other W4 (Or.inr (slot_ne (Or.inr (ow hw 23 rfl)) (Or.inl (ow hw 34 rfl)) (by decide) (t := (.object cs1)) (t' := .int) (by decide) (by decide)))
   refine own_getf X8 hx hZ hown (ow hw 22 rfl) Via.refl e8 F13 rfl rfl (hb hby d4_97) (fun T14 X14 e14 => ?_)
   refine own_go (b := (T14.setTop (mkF m 103 #[rv a1, rv a2, iv p4, iv (0 : Int32)] [(.int p4), (.int (0 : Int32)), (.ref a2), (.ref ib)]))) (fun _ k => XS.aloadN X14.here hx rfl (hb hby d4_100) rfl rfl (XS.iconst X14.here hx rfl (hb hby d4_101) (XS.iloadN X14.here hx rfl (hb hby d4_102) rfl k))) ?_
   have F16 := E_ib.wr W4
   have nx17 : ib ≠ a1 := (ne_exa E_ib E_a1 (by decide))
   have F18 := Fld_ib_size.other W4 (Or.inl nx17)
   have F19 := Fld_ib_blocks.other W4 (Or.inl nx17)
   obtain ⟨cn20, An20, -⟩ := id V_bl
   have nx21 : bl ≠ a1 := (Ne.symm (ne_arr E_a1 (ow hw 3 rfl) An20))
   have F22 := V_bl.other W4 nx21
   obtain ⟨cn23, An23, -⟩ := id V_a2
   have nx24 : a2 ≠ a1 := (Ne.symm (ne_arr E_a1 (ow hw 3 rfl) An23))
   have F25 := V_a2.other W4 nx24
   refine own_virt (W := 0) X14 hx hZ hown e14 (ow hw 47 rfl) (ow hw 48 rfl) (ow hw 50 rfl) (ow hw 49 rfl) (rmaddE l Z a0 hw [] ib a2 k2 y0 y1 y2 p4 bl kb h4 n0 Zs5 F16 F18 F19 F22 Ov_bl g_ib g_bl F25 ne_a2_bl hn0 hn3) (ow hw 51 rfl) (ow hw 13 rfl) F16 rfl (by rw [hml]; rfl) rfl (hb hby d4_103) (lenOf pd___III_V rfl) rfl (by decide) (fun T15 v15 Ll15 X15 hQ15 => ?_)
   obtain ⟨cn_15, kn_15, vsn_15, rfl, N15q, K15, P15_0, P15_1, P15_2, P15_3, P15_4, P15_5⟩ := hQ15
   have N15 := Fr.app N4 N15q
   have Zs26 : n0 ≤ T15.heap.size := Nat.le_trans Zs5 K15.1
   refine own_go (b := (T15.setTop (mkF m 107 #[rv a1, rv a2, iv p4, iv (0 : Int32)] [(.ref a1)]))) (fun _ k => XS.aloadN X15.here hx rfl (hb hby d4_106) rfl rfl k) ?_
   have F27 := F7.keep K15 (ninS (Ne.symm nx17) (ninS (Ne.symm nx21) nin0))
   refine own_getf X15 hx hZ hown (ow hw 24 rfl) Via.refl rfl F27 rfl rfl (hb hby d4_107) (fun T28 X28 e28 => ?_)
   refine own_go (b := (T28.setTop (mkF m 114 #[rv a1, rv a2, iv p4, iv (0 : Int32)] [(.ref a1), (.int (1 : Int32)), (.ref ks)]))) (fun _ k => XS.iloadN X28.here hx rfl (hb hby d4_110) rfl (XS.iconst X28.here hx rfl (hb hby d4_111) (XS.iadd X28.here hx rfl (hb hby d4_112) rfl (XS.aloadN X28.here hx rfl (hb hby d4_113) rfl rfl k)))) ?_
   have F29 := F13.keep K15 (ninS (Ne.symm nx17) (ninS (Ne.symm nx21) nin0))
   refine own_getf X28 hx hZ hown (ow hw 22 rfl) Via.refl e28 F29 rfl rfl (hb hby d4_114) (fun T30 X30 e30 => ?_)
   have F32 := F16.keep K15
   refine own_virt (W := 2) X30 hx hZ hown e30 (ow hw 63 rfl) (ow hw 64 rfl) (ow hw 66 rfl) (ow hw 65 rfl) (rm9 l Z a0 hw [] ib p4 T15.heap n0 Zs26 P15_0) (ow hw 67 rfl) (ow hw 13 rfl) F32 rfl (by rw [hml]; rfl) rfl (hb hby d4_117) (lenOf pd___I rfl) rfl (by decide) (fun T31 v31 Ll31 X31 hQ31 => ?_)
   obtain ⟨rfl, N31q, eh31⟩ := hQ31
   have N31 := Fr.app N15 N31q
   obtain ⟨cn34, An34, -⟩ := id V_ks
   have nx35 : ks ≠ ib := (Ne.symm (ne_arr E_ib (ow hw 12 rfl) An34))
   have F36 := F12.keep K15 (ninS nx35 (ninS ne_ks_bl nin0))
   obtain ⟨cl33, Ar33, ql33, Sz33, Nn33, Hl33, Gl33⟩ := id F36
   have hin33 : ¬ ((1 : Int32) < 0 ∨ cl33.slots.size ≤ ((1 : Int32)).toNatClampNeg) := inb_of Sz33 ⟨by decide, by decide⟩
   obtain ⟨T33, h33, X33, e33, W33, st33⟩ := stI X31 hx hZ eh31 Ar33 (j := (1 : Int32)) hin33 (g := (mkF m 120 #[rv a1, rv a2, iv p4, iv (0 : Int32)] [(.int p4), (.int (1 : Int32)), (.ref ks)])) rfl rfl (hb hby d4_120)
   have N33 := Fr.snoc X33 N31 g_ks
   have Zs37 : n0 ≤ h33.size := Nat.le_trans Zs26 (Keep.of_wr W33).1
   have V33 : Arv Z h33 ks kk .int (3 : Int32) [(.int x0), (.int p4), (.int x2)] (.int (0 : Int32)) := Arv.set Ar33 ql33 Sz33 Nn33 Hl33 Gl33 rfl W33 1 rfl (Nat.le_of_ble_eq_true rfl)
   refine own_go (b := (T33.setTop (mkF m 122 #[rv a1, rv a2, iv p4, iv (0 : Int32)] [(.int (0 : Int32))]))) (fun _ k => st33 _ (XS.iloadN X33.here hx rfl (hb hby d4_121) rfl k)) ?_
   have K38 := (Keep.refl h0 [a1, ib, ks, bl]).wr W4 (Or.inl (List.mem_of_getElem? (i := 0) rfl))
   have K39 := K38.trans K15 (allS (Or.inl (List.mem_of_getElem? (i := 1) rfl)) (allS (Or.inl (List.mem_of_getElem? (i := 3) rfl)) all0))
   have K40 := K39.wr W33 (Or.inl (List.mem_of_getElem? (i := 2) rfl))
   have F41 := F29.other W33 (Or.inl (Ne.symm nx11))
   have F42 := Fld_a1_labelStarts.other W4 (Or.inr (slot_ne (Or.inl (ow hw 32 rfl)) (Or.inl (ow hw 34 rfl)) (by decide) (t := (.array .int)) (t' := .int) (by decide) (by decide)))
   have F43 := F42.keep K15 (ninS (Ne.symm nx17) (ninS (Ne.symm nx21) nin0))
   have F44 := F43.other W33 (Or.inl (Ne.symm nx11))
   have F45 := F4.keep K15 (ninS (Ne.symm nx17) (ninS (Ne.symm nx21) nin0))
   have F46 := F45.other W33 (Or.inl (Ne.symm nx11))
   have F47 := F27.other W33 (Or.inl (Ne.symm nx11))
   have F48 := P15_0.other W33 (Or.inl (Ne.symm nx35))
   have F49 := P15_1.other W33 (Or.inl (Ne.symm nx35))
   have F50 := P15_3.other W33 (Ne.symm ne_ks_bl)
   have nx51 : cn_15 ≠ ks := (Ne.symm (own_ne V_ks.lt (Keep.of_wr W4).1 P15_2))
   have F52 := P15_4.other W33 nx51
   obtain ⟨fs, hr, hrun, hended, hW, hsame⟩ := X33.leave (v := some (.int (0 : Int32))) (fun h => by rw [Bd.returns] at h; cases h)
   exact ⟨_, _, retOut X33 hx Bd.returns rfl (Or.inl ⟨rfl, Or.inl rfl, _, rfl⟩) (hb hby d4_122) hr, hrun, hended, _, _, rfl, (show Qrmap3_0E1 Z a1 a2 k2 y0 y1 y2 p4 ib ks kk bl kb x0 x1 x2 h0 n0 _ T33.heap _ from (by rw [e33]; exact ⟨cn_15, kn_15, vsn_15, rfl, N33, K40, F41, F44, F46, F47, V33, F48, F49, (Nat.le_trans (Keep.of_wr W4).1 P15_2), F50, F52, P15_5⟩)), ⟨_, rfl⟩, hW, hsame.mono (by decide) (by decide)⟩
 · intro J2
   refine own_go (b := (T1.setTop (mkF m 26 #[rv a1, rv a2, iv p4, iv (0 : Int32)] [(.int (0 : Int32)), (.ref a2)]))) (fun _ k => XS.iloadN X1.here hx rfl (hb hby d4_19) rfl (XS.iloadN X1.here hx rfl (hb hby d4_20) rfl (XS.icmpNo X1.here hx rfl (hb hby d4_21) rfl (tlt hn0).2.1 (XS.aloadN X1.here hx rfl (hb hby d4_24) rfl rfl (XS.iloadN X1.here hx rfl (hb hby d4_25) rfl k))))) ?_
   obtain ⟨cl53, Ar53, ql53, Sz53, Nn53, Hl53, Gl53⟩ := id V_a2
   have hin53 : ¬ ((0 : Int32) < 0 ∨ cl53.slots.size ≤ ((0 : Int32)).toNatClampNeg) := inb_of Sz53 ⟨by decide, by decide⟩
   refine own_go (b := (T1.setTop (mkF m 21 #[rv a1, rv a2, iv p4, iv (1 : Int32)] [(.int p4), (.int (1 : Int32))]))) (fun _ k => X1.iaload hx (j := (0 : Int32)) (v := (.int y0)) (by rw [e1]; exact Ar53.1) (State.isArrayOf_alike hZ.alike Ar53.2.1) Ar53.2.2 hin53 (Hl53.at hin53 rfl) (g := (mkF m 26 #[rv a1, rv a2, iv p4, iv (0 : Int32)] [(.int (0 : Int32)), (.ref a2)])) rfl rfl (hb hby d4_26) _ (XS.ifYes X1.here hx rfl (pc0 := 27) (pc' := 46) rfl (hb hby d4_27) rfl ((if0 _ _).trans (flt hy0).2.1) (by decide) (by decide) (XS.iinc X1.here hx rfl (hb hby d4_46) rfl (l' := #[rv a1, rv a2, iv p4, iv (1 : Int32)]) rfl (XS.goto X1.here hx rfl (pc0 := 49) (pc' := 19) rfl (hb hby d4_49) (by decide) (by decide) (XS.iloadN X1.here hx rfl (hb hby d4_19) rfl (XS.iloadN X1.here hx rfl (hb hby d4_20) rfl k)))))) ?_
   by_cases hc21_54 : (1 : Int32) < p4
   · skip
     refine own_go (b := (T1.setTop (mkF m 26 #[rv a1, rv a2, iv p4, iv (1 : Int32)] [(.int (1 : Int32)), (.ref a2)]))) (fun _ k => XS.icmpNo X1.here hx rfl (hb hby d4_21) rfl (tlt hc21_54).2.1 (XS.aloadN X1.here hx rfl (hb hby d4_24) rfl rfl (XS.iloadN X1.here hx rfl (hb hby d4_25) rfl k))) ?_
     obtain ⟨cl55, Ar55, ql55, Sz55, Nn55, Hl55, Gl55⟩ := id V_a2
     have hin55 : ¬ ((1 : Int32) < 0 ∨ cl55.slots.size ≤ ((1 : Int32)).toNatClampNeg) := inb_of Sz55 ⟨by decide, by decide⟩
     refine own_go (b := (T1.setTop (mkF m 21 #[rv a1, rv a2, iv p4, iv (2 : Int32)] [(.int p4), (.int (2 : Int32))]))) (fun _ k => X1.iaload hx (j := (1 : Int32)) (v := (.int y1)) (by rw [e1]; exact Ar55.1) (State.isArrayOf_alike hZ.alike Ar55.2.1) Ar55.2.2 hin55 (Hl55.at hin55 rfl) (g := (mkF m 26 #[rv a1, rv a2, iv p4, iv (1 : Int32)] [(.int (1 : Int32)), (.ref a2)])) rfl rfl (hb hby d4_26) _ (XS.ifYes X1.here hx rfl (pc0 := 27) (pc' := 46) rfl (hb hby d4_27) rfl ((if0 _ _).trans (flt hy1).2.1) (by decide) (by decide) (XS.iinc X1.here hx rfl (hb hby d4_46) rfl (l' := #[rv a1, rv a2, iv p4, iv (2 : Int32)]) rfl (XS.goto X1.here hx rfl (pc0 := 49) (pc' := 19) rfl (hb hby d4_49) (by decide) (by decide) (XS.iloadN X1.here hx rfl (hb hby d4_19) rfl (XS.iloadN X1.here hx rfl (hb hby d4_20) rfl k)))))) ?_
     by_cases hc21_56 : (2 : Int32) < p4
     · skip
       refine own_go (b := (T1.setTop (mkF m 26 #[rv a1, rv a2, iv p4, iv (2 : Int32)] [(.int (2 : Int32)), (.ref a2)]))) (fun _ k => XS.icmpNo X1.here hx rfl (hb hby d4_21) rfl (tlt hc21_56).2.1 (XS.aloadN X1.here hx rfl (hb hby d4_24) rfl rfl (XS.iloadN X1.here hx rfl (hb hby d4_25) rfl k))) ?_
       obtain ⟨cl57, Ar57, ql57, Sz57, Nn57, Hl57, Gl57⟩ := id V_a2
       have hin57 : ¬ ((2 : Int32) < 0 ∨ cl57.slots.size ≤ ((2 : Int32)).toNatClampNeg) := inb_of Sz57 ⟨by decide, by decide⟩
       refine own_go (b := (T1.setTop (mkF m 52 #[rv a1, rv a2, iv p4, iv (3 : Int32)] []))) (fun _ k => X1.iaload hx (j := (2 : Int32)) (v := (.int y2)) (by rw [e1]; exact Ar57.1) (State.isArrayOf_alike hZ.alike Ar57.2.1) Ar57.2.2 hin57 (Hl57.at hin57 rfl) (g := (mkF m 26 #[rv a1, rv a2, iv p4, iv (2 : Int32)] [(.int (2 : Int32)), (.ref a2)])) rfl rfl (hb hby d4_26) _ (XS.ifYes X1.here hx rfl (pc0 := 27) (pc' := 46) rfl (hb hby d4_27) rfl ((if0 _ _).trans (flt hy2).2.1) (by decide) (by decide) (XS.iinc X1.here hx rfl (hb hby d4_46) rfl (l' := #[rv a1, rv a2, iv p4, iv (3 : Int32)]) rfl (XS.goto X1.here hx rfl (pc0 := 49) (pc' := 19) rfl (hb hby d4_49) (by decide) (by decide) (XS.iloadN X1.here hx rfl (hb hby d4_19) rfl (XS.iloadN X1.here hx rfl (hb hby d4_20) rfl (XS.icmpYes X1.here hx rfl (pc0 := 21) (pc' := 52) rfl (hb hby d4_21) rfl (flt hn3).2.1 (by decide) (by decide) k))))))) ?_
       exact J2 (3 : Int32) trivial
     · skip
       refine own_go (b := (T1.setTop (mkF m 52 #[rv a1, rv a2, iv p4, iv (2 : Int32)] []))) (fun _ k => XS.icmpYes X1.here hx rfl (pc0 := 21) (pc' := 52) rfl (hb hby d4_21) rfl (flt hc21_56).2.1 (by decide) (by decide) k) ?_
       exact J2 (2 : Int32) trivial
   · skip
     refine own_go (b := (T1.setTop (mkF m 52 #[rv a1, rv a2, iv p4, iv (1 : Int32)] []))) (fun _ k => XS.icmpYes X1.here hx rfl (pc0 := 21) (pc' := 52) rfl (hb hby d4_21) rfl (flt hc21_54).2.1 (by decide) (by decide) k) ?_
     exact J2 (1 : Int32) trivial
theorem ef_rmap4_0N0 (m : MethodId) (x0 : Addr) (x1 : Addr) (x2 : Int32) : entryFrame m #[(.ref x0), (.ref x1), (.int x2)] 4 = mkF m 0 #[rv x0, rv x1, iv x2, .unset] [] := by first | (simp [entryFrame, mkF, argsToLocals, Value.category]; done) | rfl
def Qrmap4_0N0 (Z : State) (a1 : Addr) (a2 : Addr) (k2 : ClassId) (y0 : Int32) (y1 : Int32) (y2 : Int32) (ib : Addr) (ks : Addr) (kk : ClassId) (x_s : Int32) (x0 : Int32) (x1 : Int32) (x2 : Int32) (x3 : Int32) (h0 : Heap) (n0 : Nat) (v : Option Value) (h : Heap) (L : List Loc) : Prop := v = some (.int (0 : Int32)) ∧ Fr n0 L ∧ Keep h0 h [a1, ks] ∧ (Fld Z h a1 cs0 "keys" "Lcom/example/arcwright/arcwright/parser/IntBlocks;" (.ref ib)) ∧ (Fld Z h a1 cs0 "labelStarts" "[I" .null) ∧ (Fld Z h a1 cs0 "size" "I" (.int (1 : Int32))) ∧ (Fld Z h a1 cs0 "keyStarts" "[I" (.ref ks)) ∧ (Arv Z h ks kk .int (4 : Int32) [(.int x0), (.int x_s), (.int x2), (.int x3)] (.int (0 : Int32)))
set_option maxRecDepth 65536 in
set_option maxHeartbeats 40000000 in
theorem rmap4_0N0 (l : Launch) (Z : State) (a0 : Array Value) (hw : ∀ d ∈ tables_1, d.before a0 Z = true) (ws : List Jvm.Cond) (a1 : Addr) (a2 : Addr) (k2 : ClassId) (y0 : Int32) (y1 : Int32) (y2 : Int32) (ib : Addr) (ks : Addr) (kk : ClassId) (x_s : Int32) (x0 : Int32) (x1 : Int32) (x2 : Int32) (x3 : Int32) (h0 : Heap) (n0 : Nat) (Z0 : n0 ≤ h0.size) (E_a1 : Exa Z h0 a1 cs0) (Fld_a1_keys : Fld Z h0 a1 cs0 "keys" "Lcom/example/arcwright/arcwright/parser/IntBlocks;" (.ref ib)) (Fld_a1_keyStarts : Fld Z h0 a1 cs0 "keyStarts" "[I" (.ref ks)) (Fld_a1_labelStarts : Fld Z h0 a1 cs0 "labelStarts" "[I" .null) (Fld_a1_size : Fld Z h0 a1 cs0 "size" "I" (.int (0 : Int32))) (E_ib : Exa Z h0 ib cs1) (Fld_ib_size : Fld Z h0 ib cs1 "size" "I" (.int x_s)) (V_ks : Arv Z h0 ks kk .int (4 : Int32) [(.int x0), (.int x1), (.int x2), (.int x3)] (.int (0 : Int32))) (V_a2 : Arv Z h0 a2 k2 .int (3 : Int32) [(.int y0), (.int y1), (.int y2)] (.int (0 : Int32))) (g_a1 : n0 ≤ a1) (g_ib : n0 ≤ ib) (g_ks : n0 ≤ ks) (ne_ks_a2 : ks ≠ a2) (hy0 : ¬ (y0 < (0 : Int32))) (hy1 : ¬ (y1 < (0 : Int32))) (hy2 : ¬ (y2 < (0 : Int32))) :
    MetFree l mn0 (head1 (Jvm.Cond.code mn0 prog_25_method_3_code 4 (some .int) :: ws) ({ frames := 1, cells := 0, slots := 0, locals := 18 } : Room)) (fun a U => a = #[(.ref a1), (.ref a2), (.int (0 : Int32))] ∧ Z.Warmed39 U.vm ∧ U.heap = h0) (fun _ _ _ _ _ => True) (fun _ U o U' => ∃ v L, o = .returned v ∧ Qrmap4_0N0 Z a1 a2 k2 y0 y1 y2 ib ks kk x_s x0 x1 x2 x3 h0 n0 v U'.heap L ∧ FrameEnd U o U' L ({ frames := 1, cells := 0, slots := 0, locals := 18 } : Room).cells ({ frames := 1, cells := 0, slots := 0, locals := 18 } : Room).slots) := by
 refine MetFree.of_bodySF (plainFor_of_name pn_4) hisR ?_
 intro p e s m args below meth c s₁ Bd hml0 hP hK
 obtain ⟨rfl, hZ, hh⟩ := hP
 have hx := Bd.exec
 have hby := Bd.bytes
 have hml : c.maxLocals = 4 := hml0
 have hown : s.vm.findClass cs0 = some m.cls := findClass_of_methodNamed Bd.named
 have hnm := (name_of_methodNamed Bd.named Bd.method).1
 have X0 : Stand p l e ({ frames := 1, cells := 0, slots := 0, locals := 18 } : Room) s m #[(.ref a1), (.ref a2), (.int (0 : Int32))] below meth c s₁ [] 0 0 := Stand.of_body Bd
 have e0 : s₁.heap = h0 := by rw [← hh, Bd.state]; rfl
 have N0 := Fr.nil n0
 refine own_go (b := (s₁.setTop (mkF m 0 #[rv a1, rv a2, iv (0 : Int32), .unset] []))) (fun _ k => castTop (ef_rmap4_0N0 m a1 a2 (0 : Int32)) k) ?_
 refine own_go (b := (s₁.setTop (mkF m 1 #[rv a1, rv a2, iv (0 : Int32), .unset] [(.ref a1)]))) (fun _ k => XS.aloadN X0.here hx rfl (hb hby d4_0) rfl rfl k) ?_
 refine own_getf X0 hx hZ hown (ow hw 31 rfl) Via.refl e0 Fld_a1_labelStarts rfl rfl (hb hby d4_1) (fun T1 X1 e1 => ?_)
 refine own_go (b := (T1.setTop (mkF m 54 #[rv a1, rv a2, iv (0 : Int32), iv (0 : Int32)] [(.ref a1), (.ref a1)]))) (fun _ k => XS.ifnullYes X1.here hx rfl (pc0 := 4) (pc' := 17) rfl (hb hby d4_4) rfl (by decide) (by decide) (XS.iconst X1.here hx rfl (hb hby d4_17) (XS.istoreN X1.here hx rfl (hb hby d4_18) rfl (l' := #[rv a1, rv a2, iv (0 : Int32), iv (0 : Int32)]) rfl (XS.iloadN X1.here hx rfl (hb hby d4_19) rfl (XS.iloadN X1.here hx rfl (hb hby d4_20) rfl (XS.icmpYes X1.here hx rfl (pc0 := 21) (pc' := 52) rfl (hb hby d4_21) rfl (flt (by decide : ¬ ((0 : Int32) < (0 : Int32)))).2.1 (by decide) (by decide) (XS.aloadN X1.here hx rfl (hb hby d4_52) rfl rfl (XS.dup X1.here hx rfl (hb hby d4_53) rfl rfl k)))))))) ?_
 refine own_getf X1 hx hZ hown (ow hw 33 rfl) Via.refl e1 Fld_a1_size rfl rfl (hb hby d4_54) (fun T2 X2 e2 => ?_)
 refine own_go (b := (T2.setTop (mkF m 60 #[rv a1, rv a2, iv (0 : Int32), iv (0 : Int32)] [(.int (1 : Int32)), (.ref a1), (.int (0 : Int32))]))) (fun _ k => XS.dupX1 X2.here hx rfl (hb hby d4_57) rfl rfl rfl (XS.iconst X2.here hx rfl (hb hby d4_58) (XS.iadd X2.here hx rfl (hb hby d4_59) rfl k))) ?_
 obtain ⟨T3, h3, X3, e3, W3, st3⟩ := putF X2 hx hZ hown (host := "") (Or.inl (ow hw 33 rfl)) Via.refl e2 Fld_a1_size E_a1 (Or.inl (ow hw 34 rfl)) (ow hw 3 rfl) (ty := .int) (by decide) rfl rfl (g := (mkF m 60 #[rv a1, rv a2, iv (0 : Int32), iv (0 : Int32)] [(.int (1 : Int32)), (.ref a1), (.int (0 : Int32))])) rfl rfl (hb hby d4_60)
 have N3 := Fr.snoc X3 N0 g_a1
 have Zs4 : n0 ≤ h3.size := Nat.le_trans Z0 (Keep.of_wr W3).1
 have F3 : Fld Z h3 a1 cs0 "size" "I" (.int (1 : Int32)) := Fld_a1_size.same W3
 refine own_go (b := (T3.setTop (mkF m 65 #[rv a1, rv a2, iv (0 : Int32), iv (0 : Int32)] [(.ref a1)]))) (fun _ k => st3 _ (XS.istoreN X3.here hx rfl (hb hby d4_63) rfl (l' := #[rv a1, rv a2, iv (0 : Int32), iv (0 : Int32)]) rfl (XS.aloadN X3.here hx rfl (hb hby d4_64) rfl rfl k))) ?_
 refine own_getf X3 hx hZ hown (ow hw 33 rfl) Via.refl e3 F3 rfl rfl (hb hby d4_65) (fun T5 X5 e5 => ?_)
 refine own_go (b := (T5.setTop (mkF m 71 #[rv a1, rv a2, iv (0 : Int32), iv (0 : Int32)] [(.ref a1), (.int (2 : Int32))]))) (fun _ k => XS.iconst X5.here hx rfl (hb hby d4_68) (XS.iadd X5.here hx rfl (hb hby d4_69) rfl (XS.aloadN X5.here hx rfl (hb hby d4_70) rfl rfl k))) ?_
 have F6 := Fld_a1_keyStarts.other W3 (Or.inr (slot_ne (Or.inl (ow hw 25 rfl)) (Or.inl (ow hw 34 rfl)) (by decide) (t := (.array .int)) (t' := .int) (by decide) (by decide)))
 refine own_getf X5 hx hZ hown (ow hw 24 rfl) Via.refl e5 F6 rfl rfl (hb hby d4_71) (fun T7 X7 e7 => ?_)
 obtain ⟨cn9, An9, -⟩ := id V_ks
 have nx10 : ks ≠ a1 := (Ne.symm (ne_arr E_a1 (ow hw 3 rfl) An9))
 have F11 := V_ks.other W3 nx10
 obtain ⟨cl8, Ar8, -, Sz8, Nn8, -, -⟩ := id F11
 refine own_go (b := (T7.setTop (mkF m 97 #[rv a1, rv a2, iv (0 : Int32), iv (0 : Int32)] [(.ref a1)]))) (fun _ k => X7.arraylength hx (by rw [e7]; exact Ar8.1) (State.isArrayOf_alike hZ.alike Ar8.2.1) (g := (mkF m 74 #[rv a1, rv a2, iv (0 : Int32), iv (0 : Int32)] [(.ref ks), (.int (2 : Int32))])) rfl rfl (hb hby d4_74) _ (by rw [len_of Sz8 Nn8]; exact (XS.icmpYes X7.here hx rfl (pc0 := 75) (pc' := 96) rfl (hb hby d4_75) rfl (flt (by decide : ¬ ((4 : Int32) < (2 : Int32)))).2.2.2 (by decide) (by decide) (XS.aloadN X7.here hx rfl (hb hby d4_96) rfl rfl k)))) ?_
 have F12 := Fld_a1_keys.other W3 (Or.inr (slot_ne (Or.inr (ow hw 23 rfl)) (Or.inl (ow hw 34 rfl)) (by decide) (t := (.object cs1)) (t' := .int) (by decide) (by decide)))
 refine own_getf X7 hx hZ hown (ow hw 22 rfl) Via.refl e7 F12 rfl rfl (hb hby d4_97) (fun T13 X13 e13 => ?_)
 refine own_go (b := (T13.setTop (mkF m 103 #[rv a1, rv a2, iv (0 : Int32), iv (0 : Int32)] [(.int (0 : Int32)), (.int (0 : Int32)), (.ref a2), (.ref ib)]))) (fun _ k => XS.aloadN X13.here hx rfl (hb hby d4_100) rfl rfl (XS.iconst X13.here hx rfl (hb hby d4_101) (XS.iloadN X13.here hx rfl (hb hby d4_102) rfl k))) ?_
 have F15 := E_ib.wr W3
 refine own_virt (W := 0) X13 hx hZ hown e13 (ow hw 47 rfl) (ow hw 48 rfl) (ow hw 50 rfl) (ow hw 49 rfl) (rmadd0 l Z a0 hw [] ib a2 h3 n0 Zs4) (ow hw 51 rfl) (ow hw 13 rfl) F15 rfl (by rw [hml]; rfl) rfl (hb hby d4_103) (lenOf pd___III_V rfl) rfl (by decide) (fun T14 v14 Ll14 X14 hQ14 => ?_)
 obtain ⟨rfl, N14q, eh14⟩ := hQ14
 have N14 := Fr.app N3 N14q
 refine own_go (b := (T14.setTop (mkF m 107 #[rv a1, rv a2, iv (0 : Int32), iv (0 : Int32)] [(.ref a1)]))) (fun _ k => XS.aloadN X14.here hx rfl (hb hby d4_106) rfl rfl k) ?_
 refine own_getf X14 hx hZ hown (ow hw 24 rfl) Via.refl eh14 F6 rfl rfl (hb hby d4_107) (fun T16 X16 e16 => ?_)
 refine own_go (b := (T16.setTop (mkF m 114 #[rv a1, rv a2, iv (0 : Int32), iv (0 : Int32)] [(.ref a1), (.int (1 : Int32)), (.ref ks)]))) (fun _ k => XS.iloadN X16.here hx rfl (hb hby d4_110) rfl (XS.iconst X16.here hx rfl (hb hby d4_111) (XS.iadd X16.here hx rfl (hb hby d4_112) rfl (XS.aloadN X16.here hx rfl (hb hby d4_113) rfl rfl k)))) ?_
 refine own_getf X16 hx hZ hown (ow hw 22 rfl) Via.refl e16 F12 rfl rfl (hb hby d4_114) (fun T17 X17 e17 => ?_)
 have nx19 : ib ≠ a1 := (ne_exa E_ib E_a1 (by decide))
 have F20 := Fld_ib_size.other W3 (Or.inl nx19)
 refine own_virt (W := 2) X17 hx hZ hown e17 (ow hw 63 rfl) (ow hw 64 rfl) (ow hw 66 rfl) (ow hw 65 rfl) (rm9 l Z a0 hw [] ib x_s h3 n0 Zs4 F20) (ow hw 67 rfl) (ow hw 13 rfl) F15 rfl (by rw [hml]; rfl) rfl (hb hby d4_117) (lenOf pd___I rfl) rfl (by decide) (fun T18 v18 Ll18 X18 hQ18 => ?_)
 obtain ⟨rfl, N18q, eh18⟩ := hQ18
 have N18 := Fr.app N14 N18q
 obtain ⟨cl21, Ar21, ql21, Sz21, Nn21, Hl21, Gl21⟩ := id F11
 have hin21 : ¬ ((1 : Int32) < 0 ∨ cl21.slots.size ≤ ((1 : Int32)).toNatClampNeg) := inb_of Sz21 ⟨by decide, by decide⟩
 obtain ⟨T21, h21, X21, e21, W21, st21⟩ := stI X18 hx hZ eh18 Ar21 (j := (1 : Int32)) hin21 (g := (mkF m 120 #[rv a1, rv a2, iv (0 : Int32), iv (0 : Int32)] [(.int x_s), (.int (1 : Int32)), (.ref ks)])) rfl rfl (hb hby d4_120)
 have N21 := Fr.snoc X21 N18 g_ks
 have Zs22 : n0 ≤ h21.size := Nat.le_trans Zs4 (Keep.of_wr W21).1
 have V21 : Arv Z h21 ks kk .int (4 : Int32) [(.int x0), (.int x_s), (.int x2), (.int x3)] (.int (0 : Int32)) := Arv.set Ar21 ql21 Sz21 Nn21 Hl21 Gl21 rfl W21 1 rfl (Nat.le_of_ble_eq_true rfl)
 refine own_go (b := (T21.setTop (mkF m 122 #[rv a1, rv a2, iv (0 : Int32), iv (0 : Int32)] [(.int (0 : Int32))]))) (fun _ k => st21 _ (XS.iloadN X21.here hx rfl (hb hby d4_121) rfl k)) ?_
 have K23 := (Keep.refl h0 [a1, ks]).wr W3 (Or.inl (List.mem_of_getElem? (i := 0) rfl))
 have K24 := K23.wr W21 (Or.inl (List.mem_of_getElem? (i := 1) rfl))
 have F25 := F12.other W21 (Or.inl (Ne.symm nx10))
 have F26 := Fld_a1_labelStarts.other W3 (Or.inr (slot_ne (Or.inl (ow hw 32 rfl)) (Or.inl (ow hw 34 rfl)) (by decide) (t := (.array .int)) (t' := .int) (by decide) (by decide)))
 have F27 := F26.other W21 (Or.inl (Ne.symm nx10))
 have F28 := F3.other W21 (Or.inl (Ne.symm nx10))
 have F29 := F6.other W21 (Or.inl (Ne.symm nx10))
 obtain ⟨fs, hr, hrun, hended, hW, hsame⟩ := X21.leave (v := some (.int (0 : Int32))) (fun h => by rw [Bd.returns] at h; cases h)
 exact ⟨_, _, retOut X21 hx Bd.returns rfl (Or.inl ⟨rfl, Or.inl rfl, _, rfl⟩) (hb hby d4_122) hr, hrun, hended, _, _, rfl, (show Qrmap4_0N0 Z a1 a2 k2 y0 y1 y2 ib ks kk x_s x0 x1 x2 x3 h0 n0 _ T21.heap _ from (by rw [e21]; exact ⟨rfl, N21, K24, F25, F27, F28, F29, V21⟩)), ⟨_, rfl⟩, hW, hsame.mono (by decide) (by decide)⟩
theorem ef_rmap4_0E1 (m : MethodId) (x0 : Addr) (x1 : Addr) (x2 : Int32) : entryFrame m #[(.ref x0), (.ref x1), (.int x2)] 4 = mkF m 0 #[rv x0, rv x1, iv x2, .unset] [] := by first | (simp [entryFrame, mkF, argsToLocals, Value.category]; done) | rfl
def Qrmap4_0E1 (Z : State) (a1 : Addr) (a2 : Addr) (k2 : ClassId) (y0 : Int32) (y1 : Int32) (y2 : Int32) (p4 : Int32) (ib : Addr) (ks : Addr) (kk : ClassId) (bl : Addr) (kb : ClassId) (x0 : Int32) (x1 : Int32) (x2 : Int32) (x3 : Int32) (h0 : Heap) (n0 : Nat) (v : Option Value) (h : Heap) (L : List Loc) : Prop := ∃ (cn : Addr) (kn : ClassId) (vsn : List Value), v = some (.int (0 : Int32)) ∧ Fr n0 L ∧ Keep h0 h [a1, ib, ks, bl] ∧ (Fld Z h a1 cs0 "keys" "Lcom/example/arcwright/arcwright/parser/IntBlocks;" (.ref ib)) ∧ (Fld Z h a1 cs0 "labelStarts" "[I" .null) ∧ (Fld Z h a1 cs0 "size" "I" (.int (1 : Int32))) ∧ (Fld Z h a1 cs0 "keyStarts" "[I" (.ref ks)) ∧ (Arv Z h ks kk .int (4 : Int32) [(.int x0), (.int p4), (.int x2), (.int x3)] (.int (0 : Int32))) ∧ (Fld Z h ib cs1 "size" "I" (.int p4)) ∧ (Fld Z h ib cs1 "blocks" "[[I" (.ref bl)) ∧ (h0.size ≤ cn) ∧ (Arv Z h bl kb (.array .int) (16 : Int32) ((.ref cn) :: own_n15) .null) ∧ (Arv Z h cn kn .int (65536 : Int32) vsn (.int (0 : Int32))) ∧ (16 ≤ vsn.length)
set_option maxRecDepth 65536 in
set_option maxHeartbeats 40000000 in
theorem rmap4_0E1 (l : Launch) (Z : State) (a0 : Array Value) (hw : ∀ d ∈ tables_1, d.before a0 Z = true) (ws : List Jvm.Cond) (a1 : Addr) (a2 : Addr) (k2 : ClassId) (y0 : Int32) (y1 : Int32) (y2 : Int32) (p4 : Int32) (ib : Addr) (ks : Addr) (kk : ClassId) (bl : Addr) (kb : ClassId) (x0 : Int32) (x1 : Int32) (x2 : Int32) (x3 : Int32) (h0 : Heap) (n0 : Nat) (Z0 : n0 ≤ h0.size) (E_a1 : Exa Z h0 a1 cs0) (Fld_a1_keys : Fld Z h0 a1 cs0 "keys" "Lcom/example/arcwright/arcwright/parser/IntBlocks;" (.ref ib)) (Fld_a1_keyStarts : Fld Z h0 a1 cs0 "keyStarts" "[I" (.ref ks)) (Fld_a1_labelStarts : Fld Z h0 a1 cs0 "labelStarts" "[I" .null) (Fld_a1_size : Fld Z h0 a1 cs0 "size" "I" (.int (0 : Int32))) (E_ib : Exa Z h0 ib cs1) (Fld_ib_size : Fld Z h0 ib cs1 "size" "I" (.int (0 : Int32))) (Fld_ib_blocks : Fld Z h0 ib cs1 "blocks" "[[I" (.ref bl)) (V_ks : Arv Z h0 ks kk .int (4 : Int32) [(.int x0), (.int x1), (.int x2), (.int x3)] (.int (0 : Int32))) (V_a2 : Arv Z h0 a2 k2 .int (3 : Int32) [(.int y0), (.int y1), (.int y2)] (.int (0 : Int32))) (g_a1 : n0 ≤ a1) (g_ib : n0 ≤ ib) (g_ks : n0 ≤ ks) (ne_ks_a2 : ks ≠ a2) (g_bl : n0 ≤ bl) (ne_ks_bl : ks ≠ bl) (ne_a2_bl : a2 ≠ bl) (hy0 : ¬ (y0 < (0 : Int32))) (hy1 : ¬ (y1 < (0 : Int32))) (hy2 : ¬ (y2 < (0 : Int32))) (hn0 : (0 : Int32) < p4) (hn3 : ¬ ((3 : Int32) < p4)) (V_bl : Arv Z h0 bl kb (.array .int) (16 : Int32) own_n16 .null) (Ov_bl : OvrA Z kb .int "[I") :
    MetFree l mn0 (head1 (Jvm.Cond.code mn0 prog_25_method_3_code 4 (some .int) :: ws) ({ frames := 2, cells := 1, slots := 65536, locals := 58 } : Room)) (fun a U => a = #[(.ref a1), (.ref a2), (.int p4)] ∧ Z.Warmed39 U.vm ∧ U.heap = h0) (fun _ _ _ _ _ => True) (fun _ U o U' => ∃ v L, o = .returned v ∧ Qrmap4_0E1 Z a1 a2 k2 y0 y1 y2 p4 ib ks kk bl kb x0 x1 x2 x3 h0 n0 v U'.heap L ∧ FrameEnd U o U' L ({ frames := 2, cells := 1, slots := 65536, locals := 58 } : Room).cells ({ frames := 2, cells := 1, slots := 65536, locals := 58 } : Room).slots) := by
 refine MetFree.of_bodySF (plainFor_of_name pn_4) hisR ?_
 intro p e s m args below meth c s₁ Bd hml0 hP hK
 obtain ⟨rfl, hZ, hh⟩ := hP
 have hx := Bd.exec
 have hby := Bd.bytes
 have hml : c.maxLocals = 4 := hml0
 have hown : s.vm.findClass cs0 = some m.cls := findClass_of_methodNamed Bd.named
 have hnm := (name_of_methodNamed Bd.named Bd.method).1
 have X0 : Stand p l e ({ frames := 2, cells := 1, slots := 65536, locals := 58 } : Room) s m #[(.ref a1), (.ref a2), (.int p4)] below meth c s₁ [] 0 0 := Stand.of_body Bd
 have e0 : s₁.heap = h0 := by rw [← hh, Bd.state]; rfl
 have N0 := Fr.nil n0
 refine own_go (b := (s₁.setTop (mkF m 0 #[rv a1, rv a2, iv p4, .unset] []))) (fun _ k => castTop (ef_rmap4_0E1 m a1 a2 p4) k) ?_
 refine own_go (b := (s₁.setTop (mkF m 1 #[rv a1, rv a2, iv p4, .unset] [(.ref a1)]))) (fun _ k => XS.aloadN X0.here hx rfl (hb hby d4_0) rfl rfl k) ?_
 refine own_getf X0 hx hZ hown (ow hw 31 rfl) Via.refl e0 Fld_a1_labelStarts rfl rfl (hb hby d4_1) (fun T1 X1 e1 => ?_)
 refine own_go (b := (T1.setTop (mkF m 19 #[rv a1, rv a2, iv p4, iv (0 : Int32)] []))) (fun _ k => XS.ifnullYes X1.here hx rfl (pc0 := 4) (pc' := 17) rfl (hb hby d4_4) rfl (by decide) (by decide) (XS.iconst X1.here hx rfl (hb hby d4_17) (XS.istoreN X1.here hx rfl (hb hby d4_18) rfl (l' := #[rv a1, rv a2, iv p4, iv (0 : Int32)]) rfl k))) ?_
 refine own_join (A := Int32) (C := fun ii => True) (f := fun ii => (T1.setTop (mkF m 52 #[rv a1, rv a2, iv p4, iv ii] []))) ?_ ?_
 · intro ii hj2
   refine own_go (b := (T1.setTop (mkF m 54 #[rv a1, rv a2, iv p4, iv ii] [(.ref a1), (.ref a1)]))) (fun _ k => XS.aloadN X1.here hx rfl (hb hby d4_52) rfl rfl (XS.dup X1.here hx rfl (hb hby d4_53) rfl rfl k)) ?_
   refine own_getf X1 hx hZ hown (ow hw 33 rfl) Via.refl e1 Fld_a1_size rfl rfl (hb hby d4_54) (fun T3 X3 e3 => ?_)
   refine own_go (b := (T3.setTop (mkF m 60 #[rv a1, rv a2, iv p4, iv ii] [(.int (1 : Int32)), (.ref a1), (.int (0 : Int32))]))) (fun _ k => XS.dupX1 X3.here hx rfl (hb hby d4_57) rfl rfl rfl (XS.iconst X3.here hx rfl (hb hby d4_58) (XS.iadd X3.here hx rfl (hb hby d4_59) rfl k))) ?_
   obtain ⟨T4, h4, X4, e4, W4, st4⟩ := putF X3 hx hZ hown (host := "") (Or.inl (ow hw 33 rfl)) Via.refl e3 Fld_a1_size E_a1 (Or.inl (ow hw 34 rfl)) (ow hw 3 rfl) (ty := .int) (by decide) rfl rfl (g := (mkF m 60 #[rv a1, rv a2, iv p4, iv ii] [(.int (1 : Int32)), (.ref a1), (.int (0 : Int32))])) rfl rfl (hb hby d4_60)
   have N4 := Fr.snoc X4 N0 g_a1
   have Zs5 : n0 ≤ h4.size := Nat.le_trans Z0 (Keep.of_wr W4).1
   have F4 : Fld Z h4 a1 cs0 "size" "I" (.int (1 : Int32)) := Fld_a1_size.same W4
   refine own_go (b := (T4.setTop (mkF m 65 #[rv a1, rv a2, iv p4, iv (0 : Int32)] [(.ref a1)]))) (fun _ k => st4 _ (XS.istoreN X4.here hx rfl (hb hby d4_63) rfl (l' := #[rv a1, rv a2, iv p4, iv (0 : Int32)]) rfl (XS.aloadN X4.here hx rfl (hb hby d4_64) rfl rfl k))) ?_
   refine own_getf X4 hx hZ hown (ow hw 33 rfl) Via.refl e4 F4 rfl rfl (hb hby d4_65) (fun T6 X6 e6 => ?_)
   refine own_go (b := (T6.setTop (mkF m 71 #[rv a1, rv a2, iv p4, iv (0 : Int32)] [(.ref a1), (.int (2 : Int32))]))) (fun _ k => XS.iconst X6.here hx rfl (hb hby d4_68) (XS.iadd X6.here hx rfl (hb hby d4_69) rfl (XS.aloadN X6.here hx rfl (hb hby d4_70) rfl rfl k))) ?_
   have F7 := Fld_a1_keyStarts.other W4 (Or.inr (slot_ne (Or.inl (ow hw 25 rfl)) (Or.inl (ow hw 34 rfl)) (by decide) (t := (.array .int)) (t' := .int) (by decide) (by decide)))
   refine own_getf X6 hx hZ hown (ow hw 24 rfl) Via.refl e6 F7 rfl rfl (hb hby d4_71) (fun T8 X8 e8 => ?_)
   obtain ⟨cn10, An10, -⟩ := id V_ks
   have nx11 : ks ≠ a1 := (Ne.symm (ne_arr E_a1 (ow hw 3 rfl) An10))
   have F12 := V_ks.other W4 nx11
   obtain ⟨cl9, Ar9, -, Sz9, Nn9, -, -⟩ := id F12
   refine own_go (b := (T8.setTop (mkF m 97 #[rv a1, rv a2, iv p4, iv (0 : Int32)] [(.ref a1)]))) (fun _ k => X8.arraylength hx (by rw [e8]; exact Ar9.1) (State.isArrayOf_alike hZ.alike Ar9.2.1) (g := (mkF m 74 #[rv a1, rv a2, iv p4, iv (0 : Int32)] [(.ref ks), (.int (2 : Int32))])) rfl rfl (hb hby d4_74) _ (by rw [len_of Sz9 Nn9]; exact (XS.icmpYes X8.here hx rfl (pc0 := 75) (pc' := 96) rfl (hb hby d4_75) rfl (flt (by decide : ¬ ((4 : Int32) < (2 : Int32)))).2.2.2 (by decide) (by decide) (XS.aloadN X8.here hx rfl (hb hby d4_96) rfl rfl k)))) ?_
   have F13 := Fld_a1_keys.other W4 (Or.inr (slot_ne (Or.inr (ow hw 23 rfl)) (Or.inl (ow hw 34 rfl)) (by decide) (t := (.object cs1)) (t' := .int) (by decide) (by decide)))
   refine own_getf X8 hx hZ hown (ow hw 22 rfl) Via.refl e8 F13 rfl rfl (hb hby d4_97) (fun T14 X14 e14 => ?_)
   refine own_go (b := (T14.setTop (mkF m 103 #[rv a1, rv a2, iv p4, iv (0 : Int32)] [(.int p4), (.int (0 : Int32)), (.ref a2), (.ref ib)]))) (fun _ k => XS.aloadN X14.here hx rfl (hb hby d4_100) rfl rfl (XS.iconst X14.here hx rfl (hb hby d4_101) (XS.iloadN X14.here hx rfl (hb hby d4_102) rfl k))) ?_
   have F16 := E_ib.wr W4
   have nx17 : ib ≠ a1 := (ne_exa E_ib E_a1 (by decide))
   have F18 := Fld_ib_size.other W4 (Or.inl nx17)
   have F19 := Fld_ib_blocks.other W4 (Or.inl nx17)
   obtain ⟨cn20, An20, -⟩ := id V_bl
   have nx21 : bl ≠ a1 := (Ne.symm (ne_arr E_a1 (ow hw 3 rfl) An20))
   have F22 := V_bl.other W4 nx21
   obtain ⟨cn23, An23, -⟩ := id V_a2
   have nx24 : a2 ≠ a1 := (Ne.symm (ne_arr E_a1 (ow hw 3 rfl) An23))
   have F25 := V_a2.other W4 nx24
   refine own_virt (W := 0) X14 hx hZ hown e14 (ow hw 47 rfl) (ow hw 48 rfl) (ow hw 50 rfl) (ow hw 49 rfl) (rmaddE l Z a0 hw [] ib a2 k2 y0 y1 y2 p4 bl kb h4 n0 Zs5 F16 F18 F19 F22 Ov_bl g_ib g_bl F25 ne_a2_bl hn0 hn3) (ow hw 51 rfl) (ow hw 13 rfl) F16 rfl (by rw [hml]; rfl) rfl (hb hby d4_103) (lenOf pd___III_V rfl) rfl (by decide) (fun T15 v15 Ll15 X15 hQ15 => ?_)
   obtain ⟨cn_15, kn_15, vsn_15, rfl, N15q, K15, P15_0, P15_1, P15_2, P15_3, P15_4, P15_5⟩ := hQ15
   have N15 := Fr.app N4 N15q
   have Zs26 : n0 ≤ T15.heap.size := Nat.le_trans Zs5 K15.1
   refine own_go (b := (T15.setTop (mkF m 107 #[rv a1, rv a2, iv p4, iv (0 : Int32)] [(.ref a1)]))) (fun _ k => XS.aloadN X15.here hx rfl (hb hby d4_106) rfl rfl k) ?_
   have F27 := F7.keep K15 (ninS (Ne.symm nx17) (ninS (Ne.symm nx21) nin0))
   refine own_getf X15 hx hZ hown (ow hw 24 rfl) Via.refl rfl F27 rfl rfl (hb hby d4_107) (fun T28 X28 e28 => ?_)
   refine own_go (b := (T28.setTop (mkF m 114 #[rv a1, rv a2, iv p4, iv (0 : Int32)] [(.ref a1), (.int (1 : Int32)), (.ref ks)]))) (fun _ k => XS.iloadN X28.here hx rfl (hb hby d4_110) rfl (XS.iconst X28.here hx rfl (hb hby d4_111) (XS.iadd X28.here hx rfl (hb hby d4_112) rfl (XS.aloadN X28.here hx rfl (hb hby d4_113) rfl rfl k)))) ?_
   have F29 := F13.keep K15 (ninS (Ne.symm nx17) (ninS (Ne.symm nx21) nin0))
   refine own_getf X28 hx hZ hown (ow hw 22 rfl) Via.refl e28 F29 rfl rfl (hb hby d4_114) (fun T30 X30 e30 => ?_)
   have F32 := F16.keep K15
   refine own_virt (W := 2) X30 hx hZ hown e30 (ow hw 63 rfl) (ow hw 64 rfl) (ow hw 66 rfl) (ow hw 65 rfl) (rm9 l Z a0 hw [] ib p4 T15.heap n0 Zs26 P15_0) (ow hw 67 rfl) (ow hw 13 rfl) F32 rfl (by rw [hml]; rfl) rfl (hb hby d4_117) (lenOf pd___I rfl) rfl (by decide) (fun T31 v31 Ll31 X31 hQ31 => ?_)
   obtain ⟨rfl, N31q, eh31⟩ := hQ31
   have N31 := Fr.app N15 N31q
   obtain ⟨cn34, An34, -⟩ := id V_ks
   have nx35 : ks ≠ ib := (Ne.symm (ne_arr E_ib (ow hw 12 rfl) An34))
   have F36 := F12.keep K15 (ninS nx35 (ninS ne_ks_bl nin0))
   obtain ⟨cl33, Ar33, ql33, Sz33, Nn33, Hl33, Gl33⟩ := id F36
   have hin33 : ¬ ((1 : Int32) < 0 ∨ cl33.slots.size ≤ ((1 : Int32)).toNatClampNeg) := inb_of Sz33 ⟨by decide, by decide⟩
   obtain ⟨T33, h33, X33, e33, W33, st33⟩ := stI X31 hx hZ eh31 Ar33 (j := (1 : Int32)) hin33 (g := (mkF m 120 #[rv a1, rv a2, iv p4, iv (0 : Int32)] [(.int p4), (.int (1 : Int32)), (.ref ks)])) rfl rfl (hb hby d4_120)
   have N33 := Fr.snoc X33 N31 g_ks
   have Zs37 : n0 ≤ h33.size := Nat.le_trans Zs26 (Keep.of_wr W33).1
   have V33 : Arv Z h33 ks kk .int (4 : Int32) [(.int x0), (.int p4), (.int x2), (.int x3)] (.int (0 : Int32)) := Arv.set Ar33 ql33 Sz33 Nn33 Hl33 Gl33 rfl W33 1 rfl (Nat.le_of_ble_eq_true rfl)
   refine own_go (b := (T33.setTop (mkF m 122 #[rv a1, rv a2, iv p4, iv (0 : Int32)] [(.int (0 : Int32))]))) (fun _ k => st33 _ (XS.iloadN X33.here hx rfl (hb hby d4_121) rfl k)) ?_
   have K38 := (Keep.refl h0 [a1, ib, ks, bl]).wr W4 (Or.inl (List.mem_of_getElem? (i := 0) rfl))
   have K39 := K38.trans K15 (allS (Or.inl (List.mem_of_getElem? (i := 1) rfl)) (allS (Or.inl (List.mem_of_getElem? (i := 3) rfl)) all0))
   have K40 := K39.wr W33 (Or.inl (List.mem_of_getElem? (i := 2) rfl))
   have F41 := F29.other W33 (Or.inl (Ne.symm nx11))
   have F42 := Fld_a1_labelStarts.other W4 (Or.inr (slot_ne (Or.inl (ow hw 32 rfl)) (Or.inl (ow hw 34 rfl)) (by decide) (t := (.array .int)) (t' := .int) (by decide) (by decide)))
   have F43 := F42.keep K15 (ninS (Ne.symm nx17) (ninS (Ne.symm nx21) nin0))
   have F44 := F43.other W33 (Or.inl (Ne.symm nx11))
   have F45 := F4.keep K15 (ninS (Ne.symm nx17) (ninS (Ne.symm nx21) nin0))
   have F46 := F45.other W33 (Or.inl (Ne.symm nx11))
   have F47 := F27.other W33 (Or.inl (Ne.symm nx11))
   have F48 := P15_0.other W33 (Or.inl (Ne.symm nx35))
   have F49 := P15_1.other W33 (Or.inl (Ne.symm nx35))
   have F50 := P15_3.other W33 (Ne.symm ne_ks_bl)
   have nx51 : cn_15 ≠ ks := (Ne.symm (own_ne V_ks.lt (Keep.of_wr W4).1 P15_2))
   have F52 := P15_4.other W33 nx51
   obtain ⟨fs, hr, hrun, hended, hW, hsame⟩ := X33.leave (v := some (.int (0 : Int32))) (fun h => by rw [Bd.returns] at h; cases h)
   exact ⟨_, _, retOut X33 hx Bd.returns rfl (Or.inl ⟨rfl, Or.inl rfl, _, rfl⟩) (hb hby d4_122) hr, hrun, hended, _, _, rfl, (show Qrmap4_0E1 Z a1 a2 k2 y0 y1 y2 p4 ib ks kk bl kb x0 x1 x2 x3 h0 n0 _ T33.heap _ from (by rw [e33]; exact ⟨cn_15, kn_15, vsn_15, rfl, N33, K40, F41, F44, F46, F47, V33, F48, F49, (Nat.le_trans (Keep.of_wr W4).1 P15_2), F50, F52, P15_5⟩)), ⟨_, rfl⟩, hW, hsame.mono (by decide) (by decide)⟩
 · intro J2
   refine own_go (b := (T1.setTop (mkF m 26 #[rv a1, rv a2, iv p4, iv (0 : Int32)] [(.int (0 : Int32)), (.ref a2)]))) (fun _ k => XS.iloadN X1.here hx rfl (hb hby d4_19) rfl (XS.iloadN X1.here hx rfl (hb hby d4_20) rfl (XS.icmpNo X1.here hx rfl (hb hby d4_21) rfl (tlt hn0).2.1 (XS.aloadN X1.here hx rfl (hb hby d4_24) rfl rfl (XS.iloadN X1.here hx rfl (hb hby d4_25) rfl k))))) ?_
   obtain ⟨cl53, Ar53, ql53, Sz53, Nn53, Hl53, Gl53⟩ := id V_a2
   have hin53 : ¬ ((0 : Int32) < 0 ∨ cl53.slots.size ≤ ((0 : Int32)).toNatClampNeg) := inb_of Sz53 ⟨by decide, by decide⟩
   refine own_go (b := (T1.setTop (mkF m 21 #[rv a1, rv a2, iv p4, iv (1 : Int32)] [(.int p4), (.int (1 : Int32))]))) (fun _ k => X1.iaload hx (j := (0 : Int32)) (v := (.int y0)) (by rw [e1]; exact Ar53.1) (State.isArrayOf_alike hZ.alike Ar53.2.1) Ar53.2.2 hin53 (Hl53.at hin53 rfl) (g := (mkF m 26 #[rv a1, rv a2, iv p4, iv (0 : Int32)] [(.int (0 : Int32)), (.ref a2)])) rfl rfl (hb hby d4_26) _ (XS.ifYes X1.here hx rfl (pc0 := 27) (pc' := 46) rfl (hb hby d4_27) rfl ((if0 _ _).trans (flt hy0).2.1) (by decide) (by decide) (XS.iinc X1.here hx rfl (hb hby d4_46) rfl (l' := #[rv a1, rv a2, iv p4, iv (1 : Int32)]) rfl (XS.goto X1.here hx rfl (pc0 := 49) (pc' := 19) rfl (hb hby d4_49) (by decide) (by decide) (XS.iloadN X1.here hx rfl (hb hby d4_19) rfl (XS.iloadN X1.here hx rfl (hb hby d4_20) rfl k)))))) ?_
   by_cases hc21_54 : (1 : Int32) < p4
   · skip
     refine own_go (b := (T1.setTop (mkF m 26 #[rv a1, rv a2, iv p4, iv (1 : Int32)] [(.int (1 : Int32)), (.ref a2)]))) (fun _ k => XS.icmpNo X1.here hx rfl (hb hby d4_21) rfl (tlt hc21_54).2.1 (XS.aloadN X1.here hx rfl (hb hby d4_24) rfl rfl (XS.iloadN X1.here hx rfl (hb hby d4_25) rfl k))) ?_
     obtain ⟨cl55, Ar55, ql55, Sz55, Nn55, Hl55, Gl55⟩ := id V_a2
     have hin55 : ¬ ((1 : Int32) < 0 ∨ cl55.slots.size ≤ ((1 : Int32)).toNatClampNeg) := inb_of Sz55 ⟨by decide, by decide⟩
     refine own_go (b := (T1.setTop (mkF m 21 #[rv a1, rv a2, iv p4, iv (2 : Int32)] [(.int p4), (.int (2 : Int32))]))) (fun _ k => X1.iaload hx (j := (1 : Int32)) (v := (.int y1)) (by rw [e1]; exact Ar55.1) (State.isArrayOf_alike hZ.alike Ar55.2.1) Ar55.2.2 hin55 (Hl55.at hin55 rfl) (g := (mkF m 26 #[rv a1, rv a2, iv p4, iv (1 : Int32)] [(.int (1 : Int32)), (.ref a2)])) rfl rfl (hb hby d4_26) _ (XS.ifYes X1.here hx rfl (pc0 := 27) (pc' := 46) rfl (hb hby d4_27) rfl ((if0 _ _).trans (flt hy1).2.1) (by decide) (by decide) (XS.iinc X1.here hx rfl (hb hby d4_46) rfl (l' := #[rv a1, rv a2, iv p4, iv (2 : Int32)]) rfl (XS.goto X1.here hx rfl (pc0 := 49) (pc' := 19) rfl (hb hby d4_49) (by decide) (by decide) (XS.iloadN X1.here hx rfl (hb hby d4_19) rfl (XS.iloadN X1.here hx rfl (hb hby d4_20) rfl k)))))) ?_
     by_cases hc21_56 : (2 : Int32) < p4
     · skip
       refine own_go (b := (T1.setTop (mkF m 26 #[rv a1, rv a2, iv p4, iv (2 : Int32)] [(.int (2 : Int32)), (.ref a2)]))) (fun _ k => XS.icmpNo X1.here hx rfl (hb hby d4_21) rfl (tlt hc21_56).2.1 (XS.aloadN X1.here hx rfl (hb hby d4_24) rfl rfl (XS.iloadN X1.here hx rfl (hb hby d4_25) rfl k))) ?_
       obtain ⟨cl57, Ar57, ql57, Sz57, Nn57, Hl57, Gl57⟩ := id V_a2
       have hin57 : ¬ ((2 : Int32) < 0 ∨ cl57.slots.size ≤ ((2 : Int32)).toNatClampNeg) := inb_of Sz57 ⟨by decide, by decide⟩
       refine own_go (b := (T1.setTop (mkF m 52 #[rv a1, rv a2, iv p4, iv (3 : Int32)] []))) (fun _ k => X1.iaload hx (j := (2 : Int32)) (v := (.int y2)) (by rw [e1]; exact Ar57.1) (State.isArrayOf_alike hZ.alike Ar57.2.1) Ar57.2.2 hin57 (Hl57.at hin57 rfl) (g := (mkF m 26 #[rv a1, rv a2, iv p4, iv (2 : Int32)] [(.int (2 : Int32)), (.ref a2)])) rfl rfl (hb hby d4_26) _ (XS.ifYes X1.here hx rfl (pc0 := 27) (pc' := 46) rfl (hb hby d4_27) rfl ((if0 _ _).trans (flt hy2).2.1) (by decide) (by decide) (XS.iinc X1.here hx rfl (hb hby d4_46) rfl (l' := #[rv a1, rv a2, iv p4, iv (3 : Int32)]) rfl (XS.goto X1.here hx rfl (pc0 := 49) (pc' := 19) rfl (hb hby d4_49) (by decide) (by decide) (XS.iloadN X1.here hx rfl (hb hby d4_19) rfl (XS.iloadN X1.here hx rfl (hb hby d4_20) rfl (XS.icmpYes X1.here hx rfl (pc0 := 21) (pc' := 52) rfl (hb hby d4_21) rfl (flt hn3).2.1 (by decide) (by decide) k))))))) ?_
       exact J2 (3 : Int32) trivial
     · skip
       refine own_go (b := (T1.setTop (mkF m 52 #[rv a1, rv a2, iv p4, iv (2 : Int32)] []))) (fun _ k => XS.icmpYes X1.here hx rfl (pc0 := 21) (pc' := 52) rfl (hb hby d4_21) rfl (flt hc21_56).2.1 (by decide) (by decide) k) ?_
       exact J2 (2 : Int32) trivial
   · skip
     refine own_go (b := (T1.setTop (mkF m 52 #[rv a1, rv a2, iv p4, iv (1 : Int32)] []))) (fun _ k => XS.icmpYes X1.here hx rfl (pc0 := 21) (pc' := 52) rfl (hb hby d4_21) rfl (flt hc21_54).2.1 (by decide) (by decide) k) ?_
     exact J2 (1 : Int32) trivial
theorem ef_rmap2_1N0 (m : MethodId) (x0 : Addr) (x1 : Addr) (x2 : Int32) : entryFrame m #[(.ref x0), (.ref x1), (.int x2)] 4 = mkF m 0 #[rv x0, rv x1, iv x2, .unset] [] := by first | (simp [entryFrame, mkF, argsToLocals, Value.category]; done) | rfl
def Qrmap2_1N0 (Z : State) (a1 : Addr) (a2 : Addr) (k2 : ClassId) (y0 : Int32) (y1 : Int32) (y2 : Int32) (ib : Addr) (ks : Addr) (kk : ClassId) (x_s : Int32) (x0 : Int32) (x1 : Int32) (h0 : Heap) (n0 : Nat) (v : Option Value) (h : Heap) (L : List Loc) : Prop := ∃ (ksn : Addr) (kkn : ClassId), v = some (.int (1 : Int32)) ∧ Fr n0 L ∧ Keep h0 h [a1] ∧ (Fld Z h a1 cs0 "keys" "Lcom/example/arcwright/arcwright/parser/IntBlocks;" (.ref ib)) ∧ (Fld Z h a1 cs0 "labelStarts" "[I" .null) ∧ (Fld Z h a1 cs0 "size" "I" (.int (2 : Int32))) ∧ (h0.size ≤ ksn) ∧ (Fld Z h a1 cs0 "keyStarts" "[I" (.ref ksn)) ∧ (Arv Z h ksn kkn .int (4 : Int32) [(.int x0), (.int x1), (.int x_s), (.int (0 : Int32))] (.int (0 : Int32)))
set_option maxRecDepth 65536 in
set_option maxHeartbeats 40000000 in
theorem rmap2_1N0 (l : Launch) (Z : State) (a0 : Array Value) (hw : ∀ d ∈ tables_1, d.before a0 Z = true) (ws : List Jvm.Cond) (a1 : Addr) (a2 : Addr) (k2 : ClassId) (y0 : Int32) (y1 : Int32) (y2 : Int32) (ib : Addr) (ks : Addr) (kk : ClassId) (x_s : Int32) (x0 : Int32) (x1 : Int32) (h0 : Heap) (n0 : Nat) (Z0 : n0 ≤ h0.size) (E_a1 : Exa Z h0 a1 cs0) (Fld_a1_keys : Fld Z h0 a1 cs0 "keys" "Lcom/example/arcwright/arcwright/parser/IntBlocks;" (.ref ib)) (Fld_a1_keyStarts : Fld Z h0 a1 cs0 "keyStarts" "[I" (.ref ks)) (Fld_a1_labelStarts : Fld Z h0 a1 cs0 "labelStarts" "[I" .null) (Fld_a1_size : Fld Z h0 a1 cs0 "size" "I" (.int (1 : Int32))) (E_ib : Exa Z h0 ib cs1) (Fld_ib_size : Fld Z h0 ib cs1 "size" "I" (.int x_s)) (V_ks : Arv Z h0 ks kk .int (2 : Int32) [(.int x0), (.int x1)] (.int (0 : Int32))) (V_a2 : Arv Z h0 a2 k2 .int (3 : Int32) [(.int y0), (.int y1), (.int y2)] (.int (0 : Int32))) (g_a1 : n0 ≤ a1) (g_ib : n0 ≤ ib) (g_ks : n0 ≤ ks) (ne_ks_a2 : ks ≠ a2) (hy0 : ¬ (y0 < (0 : Int32))) (hy1 : ¬ (y1 < (0 : Int32))) (hy2 : ¬ (y2 < (0 : Int32))) :
    MetFree l mn0 (head1 (Jvm.Cond.code mn0 prog_25_method_3_code 4 (some .int) :: ws) ({ frames := 2, cells := 1, slots := 4, locals := 55 } : Room)) (fun a U => a = #[(.ref a1), (.ref a2), (.int (0 : Int32))] ∧ Z.Warmed39 U.vm ∧ U.heap = h0) (fun _ _ _ _ _ => True) (fun _ U o U' => ∃ v L, o = .returned v ∧ Qrmap2_1N0 Z a1 a2 k2 y0 y1 y2 ib ks kk x_s x0 x1 h0 n0 v U'.heap L ∧ FrameEnd U o U' L ({ frames := 2, cells := 1, slots := 4, locals := 55 } : Room).cells ({ frames := 2, cells := 1, slots := 4, locals := 55 } : Room).slots) := by
 refine MetFree.of_bodySF (plainFor_of_name pn_4) hisR ?_
 intro p e s m args below meth c s₁ Bd hml0 hP hK
 obtain ⟨rfl, hZ, hh⟩ := hP
 have hx := Bd.exec
 have hby := Bd.bytes
 have hml : c.maxLocals = 4 := hml0
 have hown : s.vm.findClass cs0 = some m.cls := findClass_of_methodNamed Bd.named
 have hnm := (name_of_methodNamed Bd.named Bd.method).1
 have X0 : Stand p l e ({ frames := 2, cells := 1, slots := 4, locals := 55 } : Room) s m #[(.ref a1), (.ref a2), (.int (0 : Int32))] below meth c s₁ [] 0 0 := Stand.of_body Bd
 have e0 : s₁.heap = h0 := by rw [← hh, Bd.state]; rfl
 have N0 := Fr.nil n0
 refine own_go (b := (s₁.setTop (mkF m 0 #[rv a1, rv a2, iv (0 : Int32), .unset] []))) (fun _ k => castTop (ef_rmap2_1N0 m a1 a2 (0 : Int32)) k) ?_
 refine own_go (b := (s₁.setTop (mkF m 1 #[rv a1, rv a2, iv (0 : Int32), .unset] [(.ref a1)]))) (fun _ k => XS.aloadN X0.here hx rfl (hb hby d4_0) rfl rfl k) ?_
 refine own_getf X0 hx hZ hown (ow hw 31 rfl) Via.refl e0 Fld_a1_labelStarts rfl rfl (hb hby d4_1) (fun T1 X1 e1 => ?_)
 refine own_go (b := (T1.setTop (mkF m 54 #[rv a1, rv a2, iv (0 : Int32), iv (0 : Int32)] [(.ref a1), (.ref a1)]))) (fun _ k => XS.ifnullYes X1.here hx rfl (pc0 := 4) (pc' := 17) rfl (hb hby d4_4) rfl (by decide) (by decide) (XS.iconst X1.here hx rfl (hb hby d4_17) (XS.istoreN X1.here hx rfl (hb hby d4_18) rfl (l' := #[rv a1, rv a2, iv (0 : Int32), iv (0 : Int32)]) rfl (XS.iloadN X1.here hx rfl (hb hby d4_19) rfl (XS.iloadN X1.here hx rfl (hb hby d4_20) rfl (XS.icmpYes X1.here hx rfl (pc0 := 21) (pc' := 52) rfl (hb hby d4_21) rfl (flt (by decide : ¬ ((0 : Int32) < (0 : Int32)))).2.1 (by decide) (by decide) (XS.aloadN X1.here hx rfl (hb hby d4_52) rfl rfl (XS.dup X1.here hx rfl (hb hby d4_53) rfl rfl k)))))))) ?_
 refine own_getf X1 hx hZ hown (ow hw 33 rfl) Via.refl e1 Fld_a1_size rfl rfl (hb hby d4_54) (fun T2 X2 e2 => ?_)
 refine own_go (b := (T2.setTop (mkF m 60 #[rv a1, rv a2, iv (0 : Int32), iv (0 : Int32)] [(.int (2 : Int32)), (.ref a1), (.int (1 : Int32))]))) (fun _ k => XS.dupX1 X2.here hx rfl (hb hby d4_57) rfl rfl rfl (XS.iconst X2.here hx rfl (hb hby d4_58) (XS.iadd X2.here hx rfl (hb hby d4_59) rfl k))) ?_
 obtain ⟨T3, h3, X3, e3, W3, st3⟩ := putF X2 hx hZ hown (host := "") (Or.inl (ow hw 33 rfl)) Via.refl e2 Fld_a1_size E_a1 (Or.inl (ow hw 34 rfl)) (ow hw 3 rfl) (ty := .int) (by decide) rfl rfl (g := (mkF m 60 #[rv a1, rv a2, iv (0 : Int32), iv (0 : Int32)] [(.int (2 : Int32)), (.ref a1), (.int (1 : Int32))])) rfl rfl (hb hby d4_60)
 have N3 := Fr.snoc X3 N0 g_a1
 have Zs4 : n0 ≤ h3.size := Nat.le_trans Z0 (Keep.of_wr W3).1
 have F3 : Fld Z h3 a1 cs0 "size" "I" (.int (2 : Int32)) := Fld_a1_size.same W3
 refine own_go (b := (T3.setTop (mkF m 65 #[rv a1, rv a2, iv (0 : Int32), iv (1 : Int32)] [(.ref a1)]))) (fun _ k => st3 _ (XS.istoreN X3.here hx rfl (hb hby d4_63) rfl (l' := #[rv a1, rv a2, iv (0 : Int32), iv (1 : Int32)]) rfl (XS.aloadN X3.here hx rfl (hb hby d4_64) rfl rfl k))) ?_
 refine own_getf X3 hx hZ hown (ow hw 33 rfl) Via.refl e3 F3 rfl rfl (hb hby d4_65) (fun T5 X5 e5 => ?_)
 refine own_go (b := (T5.setTop (mkF m 71 #[rv a1, rv a2, iv (0 : Int32), iv (1 : Int32)] [(.ref a1), (.int (3 : Int32))]))) (fun _ k => XS.iconst X5.here hx rfl (hb hby d4_68) (XS.iadd X5.here hx rfl (hb hby d4_69) rfl (XS.aloadN X5.here hx rfl (hb hby d4_70) rfl rfl k))) ?_
 have F6 := Fld_a1_keyStarts.other W3 (Or.inr (slot_ne (Or.inl (ow hw 25 rfl)) (Or.inl (ow hw 34 rfl)) (by decide) (t := (.array .int)) (t' := .int) (by decide) (by decide)))
 refine own_getf X5 hx hZ hown (ow hw 24 rfl) Via.refl e5 F6 rfl rfl (hb hby d4_71) (fun T7 X7 e7 => ?_)
 obtain ⟨cn9, An9, -⟩ := id V_ks
 have nx10 : ks ≠ a1 := (Ne.symm (ne_arr E_a1 (ow hw 3 rfl) An9))
 have F11 := V_ks.other W3 nx10
 obtain ⟨cl8, Ar8, -, Sz8, Nn8, -, -⟩ := id F11
 refine own_go (b := (T7.setTop (mkF m 80 #[rv a1, rv a2, iv (0 : Int32), iv (1 : Int32)] [(.ref a1), (.ref a1)]))) (fun _ k => X7.arraylength hx (by rw [e7]; exact Ar8.1) (State.isArrayOf_alike hZ.alike Ar8.2.1) (g := (mkF m 74 #[rv a1, rv a2, iv (0 : Int32), iv (1 : Int32)] [(.ref ks), (.int (3 : Int32))])) rfl rfl (hb hby d4_74) _ (by rw [len_of Sz8 Nn8]; exact (XS.icmpNo X7.here hx rfl (hb hby d4_75) rfl (tlt (by decide : (2 : Int32) < (3 : Int32))).2.2.2 (XS.aloadN X7.here hx rfl (hb hby d4_78) rfl rfl (XS.aloadN X7.here hx rfl (hb hby d4_79) rfl rfl k))))) ?_
 refine own_getf X7 hx hZ hown (ow hw 24 rfl) Via.refl e7 F6 rfl rfl (hb hby d4_80) (fun T12 X12 e12 => ?_)
 refine own_go (b := (T12.setTop (mkF m 85 #[rv a1, rv a2, iv (0 : Int32), iv (1 : Int32)] [(.ref a1), (.int (2 : Int32)), (.ref ks), (.ref a1)]))) (fun _ k => XS.iconst X12.here hx rfl (hb hby d4_83) (XS.aloadN X12.here hx rfl (hb hby d4_84) rfl rfl k)) ?_
 refine own_getf X12 hx hZ hown (ow hw 24 rfl) Via.refl e12 F6 rfl rfl (hb hby d4_85) (fun T13 X13 e13 => ?_)
 obtain ⟨cl14, Ar14, -, Sz14, Nn14, -, -⟩ := id F11
 refine own_go (b := (T13.setTop (mkF m 90 #[rv a1, rv a2, iv (0 : Int32), iv (1 : Int32)] [(.int (4 : Int32)), (.ref ks), (.ref a1)]))) (fun _ k => X13.arraylength hx (by rw [e13]; exact Ar14.1) (State.isArrayOf_alike hZ.alike Ar14.2.1) (g := (mkF m 88 #[rv a1, rv a2, iv (0 : Int32), iv (1 : Int32)] [(.ref ks), (.int (2 : Int32)), (.ref ks), (.ref a1)])) rfl rfl (hb hby d4_88) _ (by rw [len_of Sz14 Nn14]; exact (XS.imul X13.here hx rfl (hb hby d4_89) rfl k))) ?_
 refine own_stat (W := 1) X13 hx hZ hown e13 (ow hw 35 rfl) (ow hw 36 rfl) (rmcp2 l Z a0 hw [] ks kk x0 x1 h3 n0 Zs4 F11) (ow hw 38 rfl) (ow hw 37 rfl) rfl (by rw [hml]; rfl) rfl (hb hby d4_90) (lenOf pd___II__I rfl) rfl (by decide) (fun T15 v15 Ll15 X15 hQ15 => ?_)
 obtain ⟨b_15, kb_15, rfl, N15q, K15, P15_0, P15_1⟩ := hQ15
 have N15 := Fr.app N3 N15q
 have Zs16 : n0 ≤ T15.heap.size := Nat.le_trans Zs4 K15.1
 have F17 := E_a1.wr W3
 have F18 := F17.keep K15
 have F19 := F6.keep K15 nin0
 obtain ⟨T20, h20, X20, e20, W20, st20⟩ := putF X15 hx hZ hown (host := "") (Or.inl (ow hw 24 rfl)) Via.refl rfl F19 F18 (Or.inl (ow hw 25 rfl)) (ow hw 3 rfl) (ty := (.array .int)) (by decide) rfl rfl (g := (mkF m 93 #[rv a1, rv a2, iv (0 : Int32), iv (1 : Int32)] [(.ref b_15), (.ref a1)])) rfl rfl (hb hby d4_93)
 have N20 := Fr.snoc X20 N15 g_a1
 have Zs21 : n0 ≤ h20.size := Nat.le_trans Zs16 (Keep.of_wr W20).1
 have F20 : Fld Z h20 a1 cs0 "keyStarts" "[I" (.ref b_15) := F19.same W20
 refine own_go (b := (T20.setTop (mkF m 97 #[rv a1, rv a2, iv (0 : Int32), iv (1 : Int32)] [(.ref a1)]))) (fun _ k => st20 _ (XS.aloadN X20.here hx rfl (hb hby d4_96) rfl rfl k)) ?_
 have F22 := Fld_a1_keys.other W3 (Or.inr (slot_ne (Or.inr (ow hw 23 rfl)) (Or.inl (ow hw 34 rfl)) (by decide) (t := (.object cs1)) (t' := .int) (by decide) (by decide)))
 have F23 := F22.keep K15 nin0
 have F24 := F23.other W20 (Or.inr (slot_ne (Or.inr (ow hw 23 rfl)) (Or.inl (ow hw 25 rfl)) (by decide) (t := (.object cs1)) (t' := (.array .int)) (by decide) (by decide)))
 refine own_getf X20 hx hZ hown (ow hw 22 rfl) Via.refl e20 F24 rfl rfl (hb hby d4_97) (fun T25 X25 e25 => ?_)
 refine own_go (b := (T25.setTop (mkF m 103 #[rv a1, rv a2, iv (0 : Int32), iv (1 : Int32)] [(.int (0 : Int32)), (.int (0 : Int32)), (.ref a2), (.ref ib)]))) (fun _ k => XS.aloadN X25.here hx rfl (hb hby d4_100) rfl rfl (XS.iconst X25.here hx rfl (hb hby d4_101) (XS.iloadN X25.here hx rfl (hb hby d4_102) rfl k))) ?_
 have F27 := E_ib.wr W3
 have F28 := F27.keep K15
 have F29 := F28.wr W20
 refine own_virt (W := 0) X25 hx hZ hown e25 (ow hw 47 rfl) (ow hw 48 rfl) (ow hw 50 rfl) (ow hw 49 rfl) (rmadd0 l Z a0 hw [] ib a2 h20 n0 Zs21) (ow hw 51 rfl) (ow hw 13 rfl) F29 rfl (by rw [hml]; rfl) rfl (hb hby d4_103) (lenOf pd___III_V rfl) rfl (by decide) (fun T26 v26 Ll26 X26 hQ26 => ?_)
 obtain ⟨rfl, N26q, eh26⟩ := hQ26
 have N26 := Fr.app N20 N26q
 refine own_go (b := (T26.setTop (mkF m 107 #[rv a1, rv a2, iv (0 : Int32), iv (1 : Int32)] [(.ref a1)]))) (fun _ k => XS.aloadN X26.here hx rfl (hb hby d4_106) rfl rfl k) ?_
 refine own_getf X26 hx hZ hown (ow hw 24 rfl) Via.refl eh26 F20 rfl rfl (hb hby d4_107) (fun T30 X30 e30 => ?_)
 refine own_go (b := (T30.setTop (mkF m 114 #[rv a1, rv a2, iv (0 : Int32), iv (1 : Int32)] [(.ref a1), (.int (2 : Int32)), (.ref b_15)]))) (fun _ k => XS.iloadN X30.here hx rfl (hb hby d4_110) rfl (XS.iconst X30.here hx rfl (hb hby d4_111) (XS.iadd X30.here hx rfl (hb hby d4_112) rfl (XS.aloadN X30.here hx rfl (hb hby d4_113) rfl rfl k)))) ?_
 refine own_getf X30 hx hZ hown (ow hw 22 rfl) Via.refl e30 F24 rfl rfl (hb hby d4_114) (fun T31 X31 e31 => ?_)
 have nx33 : ib ≠ a1 := (ne_exa E_ib E_a1 (by decide))
 have F34 := Fld_ib_size.other W3 (Or.inl nx33)
 have F35 := F34.keep K15 nin0
 have F36 := F35.other W20 (Or.inl nx33)
 refine own_virt (W := 2) X31 hx hZ hown e31 (ow hw 63 rfl) (ow hw 64 rfl) (ow hw 66 rfl) (ow hw 65 rfl) (rm9 l Z a0 hw [] ib x_s h20 n0 Zs21 F36) (ow hw 67 rfl) (ow hw 13 rfl) F29 rfl (by rw [hml]; rfl) rfl (hb hby d4_117) (lenOf pd___I rfl) rfl (by decide) (fun T32 v32 Ll32 X32 hQ32 => ?_)
 obtain ⟨rfl, N32q, eh32⟩ := hQ32
 have N32 := Fr.app N26 N32q
 have nx38 : b_15 ≠ a1 := (Ne.symm (own_ne E_a1.lt (Keep.of_wr W3).1 P15_0))
 have F39 := P15_1.other W20 nx38
 obtain ⟨cl37, Ar37, ql37, Sz37, Nn37, Hl37, Gl37⟩ := id F39
 have hin37 : ¬ ((2 : Int32) < 0 ∨ cl37.slots.size ≤ ((2 : Int32)).toNatClampNeg) := inb_of Sz37 ⟨by decide, by decide⟩
 obtain ⟨T37, h37, X37, e37, W37, st37⟩ := stI X32 hx hZ eh32 Ar37 (j := (2 : Int32)) hin37 (g := (mkF m 120 #[rv a1, rv a2, iv (0 : Int32), iv (1 : Int32)] [(.int x_s), (.int (2 : Int32)), (.ref b_15)])) rfl rfl (hb hby d4_120)
 have gx40 : n0 ≤ b_15 := Nat.le_trans Zs4 P15_0
 have N37 := Fr.snoc X37 N32 gx40
 have Zs41 : n0 ≤ h37.size := Nat.le_trans Zs21 (Keep.of_wr W37).1
 have V37 : Arv Z h37 b_15 kb_15 .int (4 : Int32) [(.int x0), (.int x1), (.int x_s), (.int (0 : Int32))] (.int (0 : Int32)) := Arv.set Ar37 ql37 Sz37 Nn37 Hl37 Gl37 rfl W37 2 rfl (Nat.le_of_ble_eq_true rfl)
 refine own_go (b := (T37.setTop (mkF m 122 #[rv a1, rv a2, iv (0 : Int32), iv (1 : Int32)] [(.int (1 : Int32))]))) (fun _ k => st37 _ (XS.iloadN X37.here hx rfl (hb hby d4_121) rfl k)) ?_
 have K42 := (Keep.refl h0 [a1]).wr W3 (Or.inl (List.mem_of_getElem? (i := 0) rfl))
 have K43 := K42.trans K15 all0
 have K44 := K43.wr W20 (Or.inl (List.mem_of_getElem? (i := 0) rfl))
 have K45 := K44.wr W37 (Or.inr (Nat.le_trans (Keep.of_wr W3).1 P15_0))
 have F46 := F24.other W37 (Or.inl (Ne.symm nx38))
 have F47 := Fld_a1_labelStarts.other W3 (Or.inr (slot_ne (Or.inl (ow hw 32 rfl)) (Or.inl (ow hw 34 rfl)) (by decide) (t := (.array .int)) (t' := .int) (by decide) (by decide)))
 have F48 := F47.keep K15 nin0
 have F49 := F48.other W20 (Or.inr (slot_ne (Or.inl (ow hw 32 rfl)) (Or.inl (ow hw 25 rfl)) (by decide) (t := (.array .int)) (t' := (.array .int)) (by decide) (by decide)))
 have F50 := F49.other W37 (Or.inl (Ne.symm nx38))
 have F51 := F3.keep K15 nin0
 have F52 := F51.other W20 (Or.inr (slot_ne (Or.inl (ow hw 34 rfl)) (Or.inl (ow hw 25 rfl)) (by decide) (t := .int) (t' := (.array .int)) (by decide) (by decide)))
 have F53 := F52.other W37 (Or.inl (Ne.symm nx38))
 have F54 := F20.other W37 (Or.inl (Ne.symm nx38))
 obtain ⟨fs, hr, hrun, hended, hW, hsame⟩ := X37.leave (v := some (.int (1 : Int32))) (fun h => by rw [Bd.returns] at h; cases h)
 exact ⟨_, _, retOut X37 hx Bd.returns rfl (Or.inl ⟨rfl, Or.inl rfl, _, rfl⟩) (hb hby d4_122) hr, hrun, hended, _, _, rfl, (show Qrmap2_1N0 Z a1 a2 k2 y0 y1 y2 ib ks kk x_s x0 x1 h0 n0 _ T37.heap _ from (by rw [e37]; exact ⟨b_15, kb_15, rfl, N37, K45, F46, F50, F53, (Nat.le_trans (Keep.of_wr W3).1 P15_0), F54, V37⟩)), ⟨_, rfl⟩, hW, hsame.mono (by decide) (by decide)⟩
theorem ef_rmap2_1E1 (m : MethodId) (x0 : Addr) (x1 : Addr) (x2 : Int32) : entryFrame m #[(.ref x0), (.ref x1), (.int x2)] 4 = mkF m 0 #[rv x0, rv x1, iv x2, .unset] [] := by first | (simp [entryFrame, mkF, argsToLocals, Value.category]; done) | rfl
def Qrmap2_1E1 (Z : State) (a1 : Addr) (a2 : Addr) (k2 : ClassId) (y0 : Int32) (y1 : Int32) (y2 : Int32) (p4 : Int32) (ib : Addr) (ks : Addr) (kk : ClassId) (bl : Addr) (kb : ClassId) (x0 : Int32) (x1 : Int32) (h0 : Heap) (n0 : Nat) (v : Option Value) (h : Heap) (L : List Loc) : Prop := ∃ (ksn : Addr) (kkn : ClassId) (cn : Addr) (kn : ClassId) (vsn : List Value), v = some (.int (1 : Int32)) ∧ Fr n0 L ∧ Keep h0 h [a1, ib, bl] ∧ (Fld Z h a1 cs0 "keys" "Lcom/example/arcwright/arcwright/parser/IntBlocks;" (.ref ib)) ∧ (Fld Z h a1 cs0 "labelStarts" "[I" .null) ∧ (Fld Z h a1 cs0 "size" "I" (.int (2 : Int32))) ∧ (h0.size ≤ ksn) ∧ (Fld Z h a1 cs0 "keyStarts" "[I" (.ref ksn)) ∧ (Arv Z h ksn kkn .int (4 : Int32) [(.int x0), (.int x1), (.int p4), (.int (0 : Int32))] (.int (0 : Int32))) ∧ (Fld Z h ib cs1 "size" "I" (.int p4)) ∧ (Fld Z h ib cs1 "blocks" "[[I" (.ref bl)) ∧ (h0.size ≤ cn) ∧ (Arv Z h bl kb (.array .int) (16 : Int32) ((.ref cn) :: own_n15) .null) ∧ (Arv Z h cn kn .int (65536 : Int32) vsn (.int (0 : Int32))) ∧ (16 ≤ vsn.length) ∧ (ksn ≠ cn)
set_option maxRecDepth 65536 in
set_option maxHeartbeats 40000000 in
theorem rmap2_1E1 (l : Launch) (Z : State) (a0 : Array Value) (hw : ∀ d ∈ tables_1, d.before a0 Z = true) (ws : List Jvm.Cond) (a1 : Addr) (a2 : Addr) (k2 : ClassId) (y0 : Int32) (y1 : Int32) (y2 : Int32) (p4 : Int32) (ib : Addr) (ks : Addr) (kk : ClassId) (bl : Addr) (kb : ClassId) (x0 : Int32) (x1 : Int32) (h0 : Heap) (n0 : Nat) (Z0 : n0 ≤ h0.size) (E_a1 : Exa Z h0 a1 cs0) (Fld_a1_keys : Fld Z h0 a1 cs0 "keys" "Lcom/example/arcwright/arcwright/parser/IntBlocks;" (.ref ib)) (Fld_a1_keyStarts : Fld Z h0 a1 cs0 "keyStarts" "[I" (.ref ks)) (Fld_a1_labelStarts : Fld Z h0 a1 cs0 "labelStarts" "[I" .null) (Fld_a1_size : Fld Z h0 a1 cs0 "size" "I" (.int (1 : Int32))) (E_ib : Exa Z h0 ib cs1) (Fld_ib_size : Fld Z h0 ib cs1 "size" "I" (.int (0 : Int32))) (Fld_ib_blocks : Fld Z h0 ib cs1 "blocks" "[[I" (.ref bl)) (V_ks : Arv Z h0 ks kk .int (2 : Int32) [(.int x0), (.int x1)] (.int (0 : Int32))) (V_a2 : Arv Z h0 a2 k2 .int (3 : Int32) [(.int y0), (.int y1), (.int y2)] (.int (0 : Int32))) (g_a1 : n0 ≤ a1) (g_ib : n0 ≤ ib) (g_ks : n0 ≤ ks) (ne_ks_a2 : ks ≠ a2) (g_bl : n0 ≤ bl) (ne_ks_bl : ks ≠ bl) (ne_a2_bl : a2 ≠ bl) (hy0 : ¬ (y0 < (0 : Int32))) (hy1 : ¬ (y1 < (0 : Int32))) (hy2 : ¬ (y2 < (0 : Int32))) (hn0 : (0 : Int32) < p4) (hn3 : ¬ ((3 : Int32) < p4)) (V_bl : Arv Z h0 bl kb (.array .int) (16 : Int32) own_n16 .null) (Ov_bl : OvrA Z kb .int "[I") :
    MetFree l mn0 (head1 (Jvm.Cond.code mn0 prog_25_method_3_code 4 (some .int) :: ws) ({ frames := 2, cells := 2, slots := 65540, locals := 58 } : Room)) (fun a U => a = #[(.ref a1), (.ref a2), (.int p4)] ∧ Z.Warmed39 U.vm ∧ U.heap = h0) (fun _ _ _ _ _ => True) (fun _ U o U' => ∃ v L, o = .returned v ∧ Qrmap2_1E1 Z a1 a2 k2 y0 y1 y2 p4 ib ks kk bl kb x0 x1 h0 n0 v U'.heap L ∧ FrameEnd U o U' L ({ frames := 2, cells := 2, slots := 65540, locals := 58 } : Room).cells ({ frames := 2, cells := 2, slots := 65540, locals := 58 } : Room).slots) := by
 refine MetFree.of_bodySF (plainFor_of_name pn_4) hisR ?_
 intro p e s m args below meth c s₁ Bd hml0 hP hK
 obtain ⟨rfl, hZ, hh⟩ := hP
 have hx := Bd.exec
 have hby := Bd.bytes
 have hml : c.maxLocals = 4 := hml0
 have hown : s.vm.findClass cs0 = some m.cls := findClass_of_methodNamed Bd.named
 have hnm := (name_of_methodNamed Bd.named Bd.method).1
 have X0 : Stand p l e ({ frames := 2, cells := 2, slots := 65540, locals := 58 } : Room) s m #[(.ref a1), (.ref a2), (.int p4)] below meth c s₁ [] 0 0 := Stand.of_body Bd
 have e0 : s₁.heap = h0 := by rw [← hh, Bd.state]; rfl
 have N0 := Fr.nil n0
 refine own_go (b := (s₁.setTop (mkF m 0 #[rv a1, rv a2, iv p4, .unset] []))) (fun _ k => castTop (ef_rmap2_1E1 m a1 a2 p4) k) ?_
 refine own_go (b := (s₁.setTop (mkF m 1 #[rv a1, rv a2, iv p4, .unset] [(.ref a1)]))) (fun _ k => XS.aloadN X0.here hx rfl (hb hby d4_0) rfl rfl k) ?_
 refine own_getf X0 hx hZ hown (ow hw 31 rfl) Via.refl e0 Fld_a1_labelStarts rfl rfl (hb hby d4_1) (fun T1 X1 e1 => ?_)
 refine own_go (b := (T1.setTop (mkF m 19 #[rv a1, rv a2, iv p4, iv (0 : Int32)] []))) (fun _ k => XS.ifnullYes X1.here hx rfl (pc0 := 4) (pc' := 17) rfl (hb hby d4_4) rfl (by decide) (by decide) (XS.iconst X1.here hx rfl (hb hby d4_17) (XS.istoreN X1.here hx rfl (hb hby d4_18) rfl (l' := #[rv a1, rv a2, iv p4, iv (0 : Int32)]) rfl k))) ?_
 refine own_join (A := Int32) (C := fun ii => True) (f := fun ii => (T1.setTop (mkF m 52 #[rv a1, rv a2, iv p4, iv ii] []))) ?_ ?_
 · intro ii hj2
   refine own_go (b := (T1.setTop (mkF m 54 #[rv a1, rv a2, iv p4, iv ii] [(.ref a1), (.ref a1)]))) (fun _ k => XS.aloadN X1.here hx rfl (hb hby d4_52) rfl rfl (XS.dup X1.here hx rfl (hb hby d4_53) rfl rfl k)) ?_
   refine own_getf X1 hx hZ hown (ow hw 33 rfl) Via.refl e1 Fld_a1_size rfl rfl (hb hby d4_54) (fun T3 X3 e3 => ?_)
   refine own_go (b := (T3.setTop (mkF m 60 #[rv a1, rv a2, iv p4, iv ii] [(.int (2 : Int32)), (.ref a1), (.int (1 : Int32))]))) (fun _ k => XS.dupX1 X3.here hx rfl (hb hby d4_57) rfl rfl rfl (XS.iconst X3.here hx rfl (hb hby d4_58) (XS.iadd X3.here hx rfl (hb hby d4_59) rfl k))) ?_
   obtain ⟨T4, h4, X4, e4, W4, st4⟩ := putF X3 hx hZ hown (host := "") (Or.inl (ow hw 33 rfl)) Via.refl e3 Fld_a1_size E_a1 (Or.inl (ow hw 34 rfl)) (ow hw 3 rfl) (ty := .int) (by decide) rfl rfl (g := (mkF m 60 #[rv a1, rv a2, iv p4, iv ii] [(.int (2 : Int32)), (.ref a1), (.int (1 : Int32))])) rfl rfl (hb hby d4_60)
   have N4 := Fr.snoc X4 N0 g_a1
   have Zs5 : n0 ≤ h4.size := Nat.le_trans Z0 (Keep.of_wr W4).1
   have F4 : Fld Z h4 a1 cs0 "size" "I" (.int (2 : Int32)) := Fld_a1_size.same W4
   refine own_go (b := (T4.setTop (mkF m 65 #[rv a1, rv a2, iv p4, iv (1 : Int32)] [(.ref a1)]))) (fun _ k => st4 _ (XS.istoreN X4.here hx rfl (hb hby d4_63) rfl (l' := #[rv a1, rv a2, iv p4, iv (1 : Int32)]) rfl (XS.aloadN X4.here hx rfl (hb hby d4_64) rfl rfl k))) ?_
   refine own_getf X4 hx hZ hown (ow hw 33 rfl) Via.refl e4 F4 rfl rfl (hb hby d4_65) (fun T6 X6 e6 => ?_)
   refine own_go (b := (T6.setTop (mkF m 71 #[rv a1, rv a2, iv p4, iv (1 : Int32)] [(.ref a1), (.int (3 : Int32))]))) (fun _ k => XS.iconst X6.here hx rfl (hb hby d4_68) (XS.iadd X6.here hx rfl (hb hby d4_69) rfl (XS.aloadN X6.here hx rfl (hb hby d4_70) rfl rfl k))) ?_
   have F7 := Fld_a1_keyStarts.other W4 (Or.inr (slot_ne (Or.inl (ow hw 25 rfl)) (Or.inl (ow hw 34 rfl)) (by decide) (t := (.array .int)) (t' := .int) (by decide) (by decide)))
   refine own_getf X6 hx hZ hown (ow hw 24 rfl) Via.refl e6 F7 rfl rfl (hb hby d4_71) (fun T8 X8 e8 => ?_)
   obtain ⟨cn10, An10, -⟩ := id V_ks
   have nx11 : ks ≠ a1 := (Ne.symm (ne_arr E_a1 (ow hw 3 rfl) An10))
   have F12 := V_ks.other W4 nx11
   obtain ⟨cl9, Ar9, -, Sz9, Nn9, -, -⟩ := id F12
   refine own_go (b := (T8.setTop (mkF m 80 #[rv a1, rv a2, iv p4, iv (1 : Int32)] [(.ref a1), (.ref a1)]))) (fun _ k => X8.arraylength hx (by rw [e8]; exact Ar9.1) (State.isArrayOf_alike hZ.alike Ar9.2.1) (g := (mkF m 74 #[rv a1, rv a2, iv p4, iv (1 : Int32)] [(.ref ks), (.int (3 : Int32))])) rfl rfl (hb hby d4_74) _ (by rw [len_of Sz9 Nn9]; exact (XS.icmpNo X8.here hx rfl (hb hby d4_75) rfl (tlt (by decide : (2 : Int32) < (3 : Int32))).2.2.2 (XS.aloadN X8.here hx rfl (hb hby d4_78) rfl rfl (XS.aloadN X8.here hx rfl (hb hby d4_79) rfl rfl k))))) ?_
   refine own_getf X8 hx hZ hown (ow hw 24 rfl) Via.refl e8 F7 rfl rfl (hb hby d4_80) (fun T13 X13 e13 => ?_)
   refine own_go (b := (T13.setTop (mkF m 85 #[rv a1, rv a2, iv p4, iv (1 : Int32)] [(.ref a1), (.int (2 : Int32)), (.ref ks), (.ref a1)]))) (fun _ k => XS.iconst X13.here hx rfl (hb hby d4_83) (XS.aloadN X13.here hx rfl (hb hby d4_84) rfl rfl k)) ?_
   refine own_getf X13 hx hZ hown (ow hw 24 rfl) Via.refl e13 F7 rfl rfl (hb hby d4_85) (fun T14 X14 e14 => ?_)
   obtain ⟨cl15, Ar15, -, Sz15, Nn15, -, -⟩ := id F12
   refine own_go (b := (T14.setTop (mkF m 90 #[rv a1, rv a2, iv p4, iv (1 : Int32)] [(.int (4 : Int32)), (.ref ks), (.ref a1)]))) (fun _ k => X14.arraylength hx (by rw [e14]; exact Ar15.1) (State.isArrayOf_alike hZ.alike Ar15.2.1) (g := (mkF m 88 #[rv a1, rv a2, iv p4, iv (1 : Int32)] [(.ref ks), (.int (2 : Int32)), (.ref ks), (.ref a1)])) rfl rfl (hb hby d4_88) _ (by rw [len_of Sz15 Nn15]; exact (XS.imul X14.here hx rfl (hb hby d4_89) rfl k))) ?_
   refine own_stat (W := 1) X14 hx hZ hown e14 (ow hw 35 rfl) (ow hw 36 rfl) (rmcp2 l Z a0 hw [] ks kk x0 x1 h4 n0 Zs5 F12) (ow hw 38 rfl) (ow hw 37 rfl) rfl (by rw [hml]; rfl) rfl (hb hby d4_90) (lenOf pd___II__I rfl) rfl (by decide) (fun T16 v16 Ll16 X16 hQ16 => ?_)
   obtain ⟨b_16, kb_16, rfl, N16q, K16, P16_0, P16_1⟩ := hQ16
   have N16 := Fr.app N4 N16q
   have Zs17 : n0 ≤ T16.heap.size := Nat.le_trans Zs5 K16.1
   have F18 := E_a1.wr W4
   have F19 := F18.keep K16
   have F20 := F7.keep K16 nin0
   obtain ⟨T21, h21, X21, e21, W21, st21⟩ := putF X16 hx hZ hown (host := "") (Or.inl (ow hw 24 rfl)) Via.refl rfl F20 F19 (Or.inl (ow hw 25 rfl)) (ow hw 3 rfl) (ty := (.array .int)) (by decide) rfl rfl (g := (mkF m 93 #[rv a1, rv a2, iv p4, iv (1 : Int32)] [(.ref b_16), (.ref a1)])) rfl rfl (hb hby d4_93)
   have N21 := Fr.snoc X21 N16 g_a1
   have Zs22 : n0 ≤ h21.size := Nat.le_trans Zs17 (Keep.of_wr W21).1
   have F21 : Fld Z h21 a1 cs0 "keyStarts" "[I" (.ref b_16) := F20.same W21
   refine own_go (b := (T21.setTop (mkF m 97 #[rv a1, rv a2, iv p4, iv (1 : Int32)] [(.ref a1)]))) (fun _ k => st21 _ (XS.aloadN X21.here hx rfl (hb hby d4_96) rfl rfl k)) ?_
   have F23 := Fld_a1_keys.other W4 (Or.inr (slot_ne (Or.inr (ow hw 23 rfl)) (Or.inl (ow hw 34 rfl)) (by decide) (t := (.object cs1)) (t' := .int) (by decide) (by decide)))
   have F24 := F23.keep K16 nin0
   have F25 := F24.other W21 (Or.inr (slot_ne (Or.inr (ow hw 23 rfl)) (Or.inl (ow hw 25 rfl)) (by decide) (t := (.object cs1)) (t' := (.array .int)) (by decide) (by decide)))
   refine own_getf X21 hx hZ hown (ow hw 22 rfl) Via.refl e21 F25 rfl rfl (hb hby d4_97) (fun T26 X26 e26 => ?_)
   refine own_go (b := (T26.setTop (mkF m 103 #[rv a1, rv a2, iv p4, iv (1 : Int32)] [(.int p4), (.int (0 : Int32)), (.ref a2), (.ref ib)]))) (fun _ k => XS.aloadN X26.here hx rfl (hb hby d4_100) rfl rfl (XS.iconst X26.here hx rfl (hb hby d4_101) (XS.iloadN X26.here hx rfl (hb hby d4_102) rfl k))) ?_
   have F28 := E_ib.wr W4
   have F29 := F28.keep K16
   have F30 := F29.wr W21
   have nx31 : ib ≠ a1 := (ne_exa E_ib E_a1 (by decide))
   have F32 := Fld_ib_size.other W4 (Or.inl nx31)
   have F33 := F32.keep K16 nin0
   have F34 := F33.other W21 (Or.inl nx31)
   have F35 := Fld_ib_blocks.other W4 (Or.inl nx31)
   have F36 := F35.keep K16 nin0
   have F37 := F36.other W21 (Or.inl nx31)
   obtain ⟨cn38, An38, -⟩ := id V_bl
   have nx39 : bl ≠ a1 := (Ne.symm (ne_arr E_a1 (ow hw 3 rfl) An38))
   have F40 := V_bl.other W4 nx39
   have F41 := F40.keep K16 nin0
   have F42 := F41.other W21 nx39
   obtain ⟨cn43, An43, -⟩ := id V_a2
   have nx44 : a2 ≠ a1 := (Ne.symm (ne_arr E_a1 (ow hw 3 rfl) An43))
   have F45 := V_a2.other W4 nx44
   have F46 := F45.keep K16 nin0
   have F47 := F46.other W21 nx44
   refine own_virt (W := 0) X26 hx hZ hown e26 (ow hw 47 rfl) (ow hw 48 rfl) (ow hw 50 rfl) (ow hw 49 rfl) (rmaddE l Z a0 hw [] ib a2 k2 y0 y1 y2 p4 bl kb h21 n0 Zs22 F30 F34 F37 F42 Ov_bl g_ib g_bl F47 ne_a2_bl hn0 hn3) (ow hw 51 rfl) (ow hw 13 rfl) F30 rfl (by rw [hml]; rfl) rfl (hb hby d4_103) (lenOf pd___III_V rfl) rfl (by decide) (fun T27 v27 Ll27 X27 hQ27 => ?_)
   obtain ⟨cn_27, kn_27, vsn_27, rfl, N27q, K27, P27_0, P27_1, P27_2, P27_3, P27_4, P27_5⟩ := hQ27
   have N27 := Fr.app N21 N27q
   have Zs48 : n0 ≤ T27.heap.size := Nat.le_trans Zs22 K27.1
   refine own_go (b := (T27.setTop (mkF m 107 #[rv a1, rv a2, iv p4, iv (1 : Int32)] [(.ref a1)]))) (fun _ k => XS.aloadN X27.here hx rfl (hb hby d4_106) rfl rfl k) ?_
   have F49 := F21.keep K27 (ninS (Ne.symm nx31) (ninS (Ne.symm nx39) nin0))
   refine own_getf X27 hx hZ hown (ow hw 24 rfl) Via.refl rfl F49 rfl rfl (hb hby d4_107) (fun T50 X50 e50 => ?_)
   refine own_go (b := (T50.setTop (mkF m 114 #[rv a1, rv a2, iv p4, iv (1 : Int32)] [(.ref a1), (.int (2 : Int32)), (.ref b_16)]))) (fun _ k => XS.iloadN X50.here hx rfl (hb hby d4_110) rfl (XS.iconst X50.here hx rfl (hb hby d4_111) (XS.iadd X50.here hx rfl (hb hby d4_112) rfl (XS.aloadN X50.here hx rfl (hb hby d4_113) rfl rfl k)))) ?_
   have F51 := F25.keep K27 (ninS (Ne.symm nx31) (ninS (Ne.symm nx39) nin0))
   refine own_getf X50 hx hZ hown (ow hw 22 rfl) Via.refl e50 F51 rfl rfl (hb hby d4_114) (fun T52 X52 e52 => ?_)
   have F54 := F30.keep K27
   refine own_virt (W := 2) X52 hx hZ hown e52 (ow hw 63 rfl) (ow hw 64 rfl) (ow hw 66 rfl) (ow hw 65 rfl) (rm9 l Z a0 hw [] ib p4 T27.heap n0 Zs48 P27_0) (ow hw 67 rfl) (ow hw 13 rfl) F54 rfl (by rw [hml]; rfl) rfl (hb hby d4_117) (lenOf pd___I rfl) rfl (by decide) (fun T53 v53 Ll53 X53 hQ53 => ?_)
   obtain ⟨rfl, N53q, eh53⟩ := hQ53
   have N53 := Fr.app N27 N53q
   have nx56 : b_16 ≠ a1 := (Ne.symm (own_ne E_a1.lt (Keep.of_wr W4).1 P16_0))
   have F57 := P16_1.other W21 nx56
   have nx58 : b_16 ≠ bl := (Ne.symm (own_ne V_bl.lt (Keep.of_wr W4).1 P16_0))
   have nx59 : b_16 ≠ ib := (Ne.symm (own_ne E_ib.lt (Keep.of_wr W4).1 P16_0))
   have F60 := F57.keep K27 (ninS nx59 (ninS nx58 nin0))
   obtain ⟨cl55, Ar55, ql55, Sz55, Nn55, Hl55, Gl55⟩ := id F60
   have hin55 : ¬ ((2 : Int32) < 0 ∨ cl55.slots.size ≤ ((2 : Int32)).toNatClampNeg) := inb_of Sz55 ⟨by decide, by decide⟩
   obtain ⟨T55, h55, X55, e55, W55, st55⟩ := stI X53 hx hZ eh53 Ar55 (j := (2 : Int32)) hin55 (g := (mkF m 120 #[rv a1, rv a2, iv p4, iv (1 : Int32)] [(.int p4), (.int (2 : Int32)), (.ref b_16)])) rfl rfl (hb hby d4_120)
   have gx61 : n0 ≤ b_16 := Nat.le_trans Zs5 P16_0
   have N55 := Fr.snoc X55 N53 gx61
   have Zs62 : n0 ≤ h55.size := Nat.le_trans Zs48 (Keep.of_wr W55).1
   have V55 : Arv Z h55 b_16 kb_16 .int (4 : Int32) [(.int x0), (.int x1), (.int p4), (.int (0 : Int32))] (.int (0 : Int32)) := Arv.set Ar55 ql55 Sz55 Nn55 Hl55 Gl55 rfl W55 2 rfl (Nat.le_of_ble_eq_true rfl)
   refine own_go (b := (T55.setTop (mkF m 122 #[rv a1, rv a2, iv p4, iv (1 : Int32)] [(.int (1 : Int32))]))) (fun _ k => st55 _ (XS.iloadN X55.here hx rfl (hb hby d4_121) rfl k)) ?_
   have K63 := (Keep.refl h0 [a1, ib, bl]).wr W4 (Or.inl (List.mem_of_getElem? (i := 0) rfl))
   have K64 := K63.trans K16 all0
   have K65 := K64.wr W21 (Or.inl (List.mem_of_getElem? (i := 0) rfl))
   have K66 := K65.trans K27 (allS (Or.inl (List.mem_of_getElem? (i := 1) rfl)) (allS (Or.inl (List.mem_of_getElem? (i := 2) rfl)) all0))
   have K67 := K66.wr W55 (Or.inr (Nat.le_trans (Keep.of_wr W4).1 P16_0))
   have F68 := F51.other W55 (Or.inl (Ne.symm nx56))
   have F69 := Fld_a1_labelStarts.other W4 (Or.inr (slot_ne (Or.inl (ow hw 32 rfl)) (Or.inl (ow hw 34 rfl)) (by decide) (t := (.array .int)) (t' := .int) (by decide) (by decide)))
   have F70 := F69.keep K16 nin0
   have F71 := F70.other W21 (Or.inr (slot_ne (Or.inl (ow hw 32 rfl)) (Or.inl (ow hw 25 rfl)) (by decide) (t := (.array .int)) (t' := (.array .int)) (by decide) (by decide)))
   have F72 := F71.keep K27 (ninS (Ne.symm nx31) (ninS (Ne.symm nx39) nin0))
   have F73 := F72.other W55 (Or.inl (Ne.symm nx56))
   have F74 := F4.keep K16 nin0
   have F75 := F74.other W21 (Or.inr (slot_ne (Or.inl (ow hw 34 rfl)) (Or.inl (ow hw 25 rfl)) (by decide) (t := .int) (t' := (.array .int)) (by decide) (by decide)))
   have F76 := F75.keep K27 (ninS (Ne.symm nx31) (ninS (Ne.symm nx39) nin0))
   have F77 := F76.other W55 (Or.inl (Ne.symm nx56))
   have F78 := F49.other W55 (Or.inl (Ne.symm nx56))
   have F79 := P27_0.other W55 (Or.inl (Ne.symm nx59))
   have F80 := P27_1.other W55 (Or.inl (Ne.symm nx59))
   have F81 := P27_3.other W55 (Ne.symm nx58)
   have nx82 : cn_27 ≠ b_16 := (Ne.symm (own_ne P16_1.lt (Keep.of_wr W21).1 P27_2))
   have F83 := P27_4.other W55 nx82
   obtain ⟨fs, hr, hrun, hended, hW, hsame⟩ := X55.leave (v := some (.int (1 : Int32))) (fun h => by rw [Bd.returns] at h; cases h)
   exact ⟨_, _, retOut X55 hx Bd.returns rfl (Or.inl ⟨rfl, Or.inl rfl, _, rfl⟩) (hb hby d4_122) hr, hrun, hended, _, _, rfl, (show Qrmap2_1E1 Z a1 a2 k2 y0 y1 y2 p4 ib ks kk bl kb x0 x1 h0 n0 _ T55.heap _ from (by rw [e55]; exact ⟨b_16, kb_16, cn_27, kn_27, vsn_27, rfl, N55, K67, F68, F73, F77, (Nat.le_trans (Keep.of_wr W4).1 P16_0), F78, V55, F79, F80, (Nat.le_trans (own_tr (own_tr (Keep.of_wr W4).1 K16.1) (Keep.of_wr W21).1) P27_2), F81, F83, P27_5, (Ne.symm nx82)⟩)), ⟨_, rfl⟩, hW, hsame.mono (by decide) (by decide)⟩
 · intro J2
   refine own_go (b := (T1.setTop (mkF m 26 #[rv a1, rv a2, iv p4, iv (0 : Int32)] [(.int (0 : Int32)), (.ref a2)]))) (fun _ k => XS.iloadN X1.here hx rfl (hb hby d4_19) rfl (XS.iloadN X1.here hx rfl (hb hby d4_20) rfl (XS.icmpNo X1.here hx rfl (hb hby d4_21) rfl (tlt hn0).2.1 (XS.aloadN X1.here hx rfl (hb hby d4_24) rfl rfl (XS.iloadN X1.here hx rfl (hb hby d4_25) rfl k))))) ?_
   obtain ⟨cl84, Ar84, ql84, Sz84, Nn84, Hl84, Gl84⟩ := id V_a2
   have hin84 : ¬ ((0 : Int32) < 0 ∨ cl84.slots.size ≤ ((0 : Int32)).toNatClampNeg) := inb_of Sz84 ⟨by decide, by decide⟩
   refine own_go (b := (T1.setTop (mkF m 21 #[rv a1, rv a2, iv p4, iv (1 : Int32)] [(.int p4), (.int (1 : Int32))]))) (fun _ k => X1.iaload hx (j := (0 : Int32)) (v := (.int y0)) (by rw [e1]; exact Ar84.1) (State.isArrayOf_alike hZ.alike Ar84.2.1) Ar84.2.2 hin84 (Hl84.at hin84 rfl) (g := (mkF m 26 #[rv a1, rv a2, iv p4, iv (0 : Int32)] [(.int (0 : Int32)), (.ref a2)])) rfl rfl (hb hby d4_26) _ (XS.ifYes X1.here hx rfl (pc0 := 27) (pc' := 46) rfl (hb hby d4_27) rfl ((if0 _ _).trans (flt hy0).2.1) (by decide) (by decide) (XS.iinc X1.here hx rfl (hb hby d4_46) rfl (l' := #[rv a1, rv a2, iv p4, iv (1 : Int32)]) rfl (XS.goto X1.here hx rfl (pc0 := 49) (pc' := 19) rfl (hb hby d4_49) (by decide) (by decide) (XS.iloadN X1.here hx rfl (hb hby d4_19) rfl (XS.iloadN X1.here hx rfl (hb hby d4_20) rfl k)))))) ?_
   by_cases hc21_85 : (1 : Int32) < p4
   · skip
     refine own_go (b := (T1.setTop (mkF m 26 #[rv a1, rv a2, iv p4, iv (1 : Int32)] [(.int (1 : Int32)), (.ref a2)]))) (fun _ k => XS.icmpNo X1.here hx rfl (hb hby d4_21) rfl (tlt hc21_85).2.1 (XS.aloadN X1.here hx rfl (hb hby d4_24) rfl rfl (XS.iloadN X1.here hx rfl (hb hby d4_25) rfl k))) ?_
     obtain ⟨cl86, Ar86, ql86, Sz86, Nn86, Hl86, Gl86⟩ := id V_a2
     have hin86 : ¬ ((1 : Int32) < 0 ∨ cl86.slots.size ≤ ((1 : Int32)).toNatClampNeg) := inb_of Sz86 ⟨by decide, by decide⟩
     refine own_go (b := (T1.setTop (mkF m 21 #[rv a1, rv a2, iv p4, iv (2 : Int32)] [(.int p4), (.int (2 : Int32))]))) (fun _ k => X1.iaload hx (j := (1 : Int32)) (v := (.int y1)) (by rw [e1]; exact Ar86.1) (State.isArrayOf_alike hZ.alike Ar86.2.1) Ar86.2.2 hin86 (Hl86.at hin86 rfl) (g := (mkF m 26 #[rv a1, rv a2, iv p4, iv (1 : Int32)] [(.int (1 : Int32)), (.ref a2)])) rfl rfl (hb hby d4_26) _ (XS.ifYes X1.here hx rfl (pc0 := 27) (pc' := 46) rfl (hb hby d4_27) rfl ((if0 _ _).trans (flt hy1).2.1) (by decide) (by decide) (XS.iinc X1.here hx rfl (hb hby d4_46) rfl (l' := #[rv a1, rv a2, iv p4, iv (2 : Int32)]) rfl (XS.goto X1.here hx rfl (pc0 := 49) (pc' := 19) rfl (hb hby d4_49) (by decide) (by decide) (XS.iloadN X1.here hx rfl (hb hby d4_19) rfl (XS.iloadN X1.here hx rfl (hb hby d4_20) rfl k)))))) ?_
     by_cases hc21_87 : (2 : Int32) < p4
     · skip
       refine own_go (b := (T1.setTop (mkF m 26 #[rv a1, rv a2, iv p4, iv (2 : Int32)] [(.int (2 : Int32)), (.ref a2)]))) (fun _ k => XS.icmpNo X1.here hx rfl (hb hby d4_21) rfl (tlt hc21_87).2.1 (XS.aloadN X1.here hx rfl (hb hby d4_24) rfl rfl (XS.iloadN X1.here hx rfl (hb hby d4_25) rfl k))) ?_
       obtain ⟨cl88, Ar88, ql88, Sz88, Nn88, Hl88, Gl88⟩ := id V_a2
       have hin88 : ¬ ((2 : Int32) < 0 ∨ cl88.slots.size ≤ ((2 : Int32)).toNatClampNeg) := inb_of Sz88 ⟨by decide, by decide⟩
       refine own_go (b := (T1.setTop (mkF m 52 #[rv a1, rv a2, iv p4, iv (3 : Int32)] []))) (fun _ k => X1.iaload hx (j := (2 : Int32)) (v := (.int y2)) (by rw [e1]; exact Ar88.1) (State.isArrayOf_alike hZ.alike Ar88.2.1) Ar88.2.2 hin88 (Hl88.at hin88 rfl) (g := (mkF m 26 #[rv a1, rv a2, iv p4, iv (2 : Int32)] [(.int (2 : Int32)), (.ref a2)])) rfl rfl (hb hby d4_26) _ (XS.ifYes X1.here hx rfl (pc0 := 27) (pc' := 46) rfl (hb hby d4_27) rfl ((if0 _ _).trans (flt hy2).2.1) (by decide) (by decide) (XS.iinc X1.here hx rfl (hb hby d4_46) rfl (l' := #[rv a1, rv a2, iv p4, iv (3 : Int32)]) rfl (XS.goto X1.here hx rfl (pc0 := 49) (pc' := 19) rfl (hb hby d4_49) (by decide) (by decide) (XS.iloadN X1.here hx rfl (hb hby d4_19) rfl (XS.iloadN X1.here hx rfl (hb hby d4_20) rfl (XS.icmpYes X1.here hx rfl (pc0 := 21) (pc' := 52) rfl (hb hby d4_21) rfl (flt hn3).2.1 (by decide) (by decide) k))))))) ?_
       exact J2 (3 : Int32) trivial
     · skip
       refine own_go (b := (T1.setTop (mkF m 52 #[rv a1, rv a2, iv p4, iv (2 : Int32)] []))) (fun _ k => XS.icmpYes X1.here hx rfl (pc0 := 21) (pc' := 52) rfl (hb hby d4_21) rfl (flt hc21_87).2.1 (by decide) (by decide) k) ?_
       exact J2 (2 : Int32) trivial
   · skip
     refine own_go (b := (T1.setTop (mkF m 52 #[rv a1, rv a2, iv p4, iv (1 : Int32)] []))) (fun _ k => XS.icmpYes X1.here hx rfl (pc0 := 21) (pc' := 52) rfl (hb hby d4_21) rfl (flt hc21_85).2.1 (by decide) (by decide) k) ?_
     exact J2 (1 : Int32) trivial
theorem ef_rmap2_1F1 (m : MethodId) (x0 : Addr) (x1 : Addr) (x2 : Int32) : entryFrame m #[(.ref x0), (.ref x1), (.int x2)] 4 = mkF m 0 #[rv x0, rv x1, iv x2, .unset] [] := by first | (simp [entryFrame, mkF, argsToLocals, Value.category]; done) | rfl
def Qrmap2_1F1 (Z : State) (a1 : Addr) (a2 : Addr) (k2 : ClassId) (y0 : Int32) (y1 : Int32) (y2 : Int32) (p4 : Int32) (ib : Addr) (ks : Addr) (kk : ClassId) (bl : Addr) (kb : ClassId) (x0 : Int32) (x1 : Int32) (x_s : Int32) (c0 : Addr) (kc : ClassId) (vsc : List Value) (h0 : Heap) (n0 : Nat) (v : Option Value) (h : Heap) (L : List Loc) : Prop := ∃ (ksn : Addr) (kkn : ClassId) (vsn : List Value), v = some (.int (1 : Int32)) ∧ Fr n0 L ∧ Keep h0 h [a1, ib, c0] ∧ (Fld Z h a1 cs0 "keys" "Lcom/example/arcwright/arcwright/parser/IntBlocks;" (.ref ib)) ∧ (Fld Z h a1 cs0 "labelStarts" "[I" .null) ∧ (Fld Z h a1 cs0 "size" "I" (.int (2 : Int32))) ∧ (h0.size ≤ ksn) ∧ (Fld Z h a1 cs0 "keyStarts" "[I" (.ref ksn)) ∧ (Arv Z h ksn kkn .int (4 : Int32) [(.int x0), (.int x1), (.int (x_s + p4)), (.int (0 : Int32))] (.int (0 : Int32))) ∧ (Fld Z h ib cs1 "size" "I" (.int (x_s + p4))) ∧ (Fld Z h ib cs1 "blocks" "[[I" (.ref bl)) ∧ (Arv Z h c0 kc .int (65536 : Int32) vsn (.int (0 : Int32))) ∧ (16 ≤ vsn.length)
set_option maxRecDepth 65536 in
set_option maxHeartbeats 40000000 in
theorem rmap2_1F1 (l : Launch) (Z : State) (a0 : Array Value) (hw : ∀ d ∈ tables_1, d.before a0 Z = true) (ws : List Jvm.Cond) (a1 : Addr) (a2 : Addr) (k2 : ClassId) (y0 : Int32) (y1 : Int32) (y2 : Int32) (p4 : Int32) (ib : Addr) (ks : Addr) (kk : ClassId) (bl : Addr) (kb : ClassId) (x0 : Int32) (x1 : Int32) (x_s : Int32) (c0 : Addr) (kc : ClassId) (vsc : List Value) (h0 : Heap) (n0 : Nat) (Z0 : n0 ≤ h0.size) (E_a1 : Exa Z h0 a1 cs0) (Fld_a1_keys : Fld Z h0 a1 cs0 "keys" "Lcom/example/arcwright/arcwright/parser/IntBlocks;" (.ref ib)) (Fld_a1_keyStarts : Fld Z h0 a1 cs0 "keyStarts" "[I" (.ref ks)) (Fld_a1_labelStarts : Fld Z h0 a1 cs0 "labelStarts" "[I" .null) (Fld_a1_size : Fld Z h0 a1 cs0 "size" "I" (.int (1 : Int32))) (E_ib : Exa Z h0 ib cs1) (Fld_ib_size : Fld Z h0 ib cs1 "size" "I" (.int x_s)) (Fld_ib_blocks : Fld Z h0 ib cs1 "blocks" "[[I" (.ref bl)) (V_ks : Arv Z h0 ks kk .int (2 : Int32) [(.int x0), (.int x1)] (.int (0 : Int32))) (V_a2 : Arv Z h0 a2 k2 .int (3 : Int32) [(.int y0), (.int y1), (.int y2)] (.int (0 : Int32))) (g_a1 : n0 ≤ a1) (g_ib : n0 ≤ ib) (g_ks : n0 ≤ ks) (ne_ks_a2 : ks ≠ a2) (g_bl : n0 ≤ bl) (ne_ks_bl : ks ≠ bl) (ne_a2_bl : a2 ≠ bl) (hy0 : ¬ (y0 < (0 : Int32))) (hy1 : ¬ (y1 < (0 : Int32))) (hy2 : ¬ (y2 < (0 : Int32))) (hn0 : (0 : Int32) < p4) (hn3 : ¬ ((3 : Int32) < p4)) (V_bl : Arv Z h0 bl kb (.array .int) (16 : Int32) ((.ref c0) :: own_n15) .null) (V_c0 : Arv Z h0 c0 kc .int (65536 : Int32) vsc (.int (0 : Int32))) (hlen : 16 ≤ vsc.length) (g_c0 : n0 ≤ c0) (ne_a2_c0 : a2 ≠ c0) (ne_bl_c0 : bl ≠ c0) (ne_ks_c0 : ks ≠ c0) (hs0 : (0 : Int32) < x_s) (hs6 : ¬ ((6 : Int32) < x_s)) :
    MetFree l mn0 (head1 (Jvm.Cond.code mn0 prog_25_method_3_code 4 (some .int) :: ws) ({ frames := 2, cells := 1, slots := 4, locals := 58 } : Room)) (fun a U => a = #[(.ref a1), (.ref a2), (.int p4)] ∧ Z.Warmed39 U.vm ∧ U.heap = h0) (fun _ _ _ _ _ => True) (fun _ U o U' => ∃ v L, o = .returned v ∧ Qrmap2_1F1 Z a1 a2 k2 y0 y1 y2 p4 ib ks kk bl kb x0 x1 x_s c0 kc vsc h0 n0 v U'.heap L ∧ FrameEnd U o U' L ({ frames := 2, cells := 1, slots := 4, locals := 58 } : Room).cells ({ frames := 2, cells := 1, slots := 4, locals := 58 } : Room).slots) := by
 refine MetFree.of_bodySF (plainFor_of_name pn_4) hisR ?_
 intro p e s m args below meth c s₁ Bd hml0 hP hK
 obtain ⟨rfl, hZ, hh⟩ := hP
 have hx := Bd.exec
 have hby := Bd.bytes
 have hml : c.maxLocals = 4 := hml0
 have hown : s.vm.findClass cs0 = some m.cls := findClass_of_methodNamed Bd.named
 have hnm := (name_of_methodNamed Bd.named Bd.method).1
 have X0 : Stand p l e ({ frames := 2, cells := 1, slots := 4, locals := 58 } : Room) s m #[(.ref a1), (.ref a2), (.int p4)] below meth c s₁ [] 0 0 := Stand.of_body Bd
 have e0 : s₁.heap = h0 := by rw [← hh, Bd.state]; rfl
 have N0 := Fr.nil n0
 refine own_go (b := (s₁.setTop (mkF m 0 #[rv a1, rv a2, iv p4, .unset] []))) (fun _ k => castTop (ef_rmap2_1F1 m a1 a2 p4) k) ?_
 refine own_go (b := (s₁.setTop (mkF m 1 #[rv a1, rv a2, iv p4, .unset] [(.ref a1)]))) (fun _ k => XS.aloadN X0.here hx rfl (hb hby d4_0) rfl rfl k) ?_
 refine own_getf X0 hx hZ hown (ow hw 31 rfl) Via.refl e0 Fld_a1_labelStarts rfl rfl (hb hby d4_1) (fun T1 X1 e1 => ?_)
 refine own_go (b := (T1.setTop (mkF m 19 #[rv a1, rv a2, iv p4, iv (0 : Int32)] []))) (fun _ k => XS.ifnullYes X1.here hx rfl (pc0 := 4) (pc' := 17) rfl (hb hby d4_4) rfl (by decide) (by decide) (XS.iconst X1.here hx rfl (hb hby d4_17) (XS.istoreN X1.here hx rfl (hb hby d4_18) rfl (l' := #[rv a1, rv a2, iv p4, iv (0 : Int32)]) rfl k))) ?_
 refine own_join (A := Int32) (C := fun ii => True) (f := fun ii => (T1.setTop (mkF m 52 #[rv a1, rv a2, iv p4, iv ii] []))) ?_ ?_
 · intro ii hj2
   refine own_go (b := (T1.setTop (mkF m 54 #[rv a1, rv a2, iv p4, iv ii] [(.ref a1), (.ref a1)]))) (fun _ k => XS.aloadN X1.here hx rfl (hb hby d4_52) rfl rfl (XS.dup X1.here hx rfl (hb hby d4_53) rfl rfl k)) ?_
   refine own_getf X1 hx hZ hown (ow hw 33 rfl) Via.refl e1 Fld_a1_size rfl rfl (hb hby d4_54) (fun T3 X3 e3 => ?_)
   refine own_go (b := (T3.setTop (mkF m 60 #[rv a1, rv a2, iv p4, iv ii] [(.int (2 : Int32)), (.ref a1), (.int (1 : Int32))]))) (fun _ k => XS.dupX1 X3.here hx rfl (hb hby d4_57) rfl rfl rfl (XS.iconst X3.here hx rfl (hb hby d4_58) (XS.iadd X3.here hx rfl (hb hby d4_59) rfl k))) ?_
   obtain ⟨T4, h4, X4, e4, W4, st4⟩ := putF X3 hx hZ hown (host := "") (Or.inl (ow hw 33 rfl)) Via.refl e3 Fld_a1_size E_a1 (Or.inl (ow hw 34 rfl)) (ow hw 3 rfl) (ty := .int) (by decide) rfl rfl (g := (mkF m 60 #[rv a1, rv a2, iv p4, iv ii] [(.int (2 : Int32)), (.ref a1), (.int (1 : Int32))])) rfl rfl (hb hby d4_60)
   have N4 := Fr.snoc X4 N0 g_a1
   have Zs5 : n0 ≤ h4.size := Nat.le_trans Z0 (Keep.of_wr W4).1
   have F4 : Fld Z h4 a1 cs0 "size" "I" (.int (2 : Int32)) := Fld_a1_size.same W4
   refine own_go (b := (T4.setTop (mkF m 65 #[rv a1, rv a2, iv p4, iv (1 : Int32)] [(.ref a1)]))) (fun _ k => st4 _ (XS.istoreN X4.here hx rfl (hb hby d4_63) rfl (l' := #[rv a1, rv a2, iv p4, iv (1 : Int32)]) rfl (XS.aloadN X4.here hx rfl (hb hby d4_64) rfl rfl k))) ?_
   refine own_getf X4 hx hZ hown (ow hw 33 rfl) Via.refl e4 F4 rfl rfl (hb hby d4_65) (fun T6 X6 e6 => ?_)
   refine own_go (b := (T6.setTop (mkF m 71 #[rv a1, rv a2, iv p4, iv (1 : Int32)] [(.ref a1), (.int (3 : Int32))]))) (fun _ k => XS.iconst X6.here hx rfl (hb hby d4_68) (XS.iadd X6.here hx rfl (hb hby d4_69) rfl (XS.aloadN X6.here hx rfl (hb hby d4_70) rfl rfl k))) ?_
   have F7 := Fld_a1_keyStarts.other W4 (Or.inr (slot_ne (Or.inl (ow hw 25 rfl)) (Or.inl (ow hw 34 rfl)) (by decide) (t := (.array .int)) (t' := .int) (by decide) (by decide)))
   refine own_getf X6 hx hZ hown (ow hw 24 rfl) Via.refl e6 F7 rfl rfl (hb hby d4_71) (fun T8 X8 e8 => ?_)
   obtain ⟨cn10, An10, -⟩ := id V_ks
   have nx11 : ks ≠ a1 := (Ne.symm (ne_arr E_a1 (ow hw 3 rfl) An10))
   have F12 := V_ks.other W4 nx11
   obtain ⟨cl9, Ar9, -, Sz9, Nn9, -, -⟩ := id F12
   refine own_go (b := (T8.setTop (mkF m 80 #[rv a1, rv a2, iv p4, iv (1 : Int32)] [(.ref a1), (.ref a1)]))) (fun _ k => X8.arraylength hx (by rw [e8]; exact Ar9.1) (State.isArrayOf_alike hZ.alike Ar9.2.1) (g := (mkF m 74 #[rv a1, rv a2, iv p4, iv (1 : Int32)] [(.ref ks), (.int (3 : Int32))])) rfl rfl (hb hby d4_74) _ (by rw [len_of Sz9 Nn9]; exact (XS.icmpNo X8.here hx rfl (hb hby d4_75) rfl (tlt (by decide : (2 : Int32) < (3 : Int32))).2.2.2 (XS.aloadN X8.here hx rfl (hb hby d4_78) rfl rfl (XS.aloadN X8.here hx rfl (hb hby d4_79) rfl rfl k))))) ?_
   refine own_getf X8 hx hZ hown (ow hw 24 rfl) Via.refl e8 F7 rfl rfl (hb hby d4_80) (fun T13 X13 e13 => ?_)
   refine own_go (b := (T13.setTop (mkF m 85 #[rv a1, rv a2, iv p4, iv (1 : Int32)] [(.ref a1), (.int (2 : Int32)), (.ref ks), (.ref a1)]))) (fun _ k => XS.iconst X13.here hx rfl (hb hby d4_83) (XS.aloadN X13.here hx rfl (hb hby d4_84) rfl rfl k)) ?_
   refine own_getf X13 hx hZ hown (ow hw 24 rfl) Via.refl e13 F7 rfl rfl (hb hby d4_85) (fun T14 X14 e14 => ?_)
   obtain ⟨cl15, Ar15, -, Sz15, Nn15, -, -⟩ := id F12
   refine own_go (b := (T14.setTop (mkF m 90 #[rv a1, rv a2, iv p4, iv (1 : Int32)] [(.int (4 : Int32)), (.ref ks), (.ref a1)]))) (fun _ k => X14.arraylength hx (by rw [e14]; exact Ar15.1) (State.isArrayOf_alike hZ.alike Ar15.2.1) (g := (mkF m 88 #[rv a1, rv a2, iv p4, iv (1 : Int32)] [(.ref ks), (.int (2 : Int32)), (.ref ks), (.ref a1)])) rfl rfl (hb hby d4_88) _ (by rw [len_of Sz15 Nn15]; exact (XS.imul X14.here hx rfl (hb hby d4_89) rfl k))) ?_
   refine own_stat (W := 1) X14 hx hZ hown e14 (ow hw 35 rfl) (ow hw 36 rfl) (rmcp2 l Z a0 hw [] ks kk x0 x1 h4 n0 Zs5 F12) (ow hw 38 rfl) (ow hw 37 rfl) rfl (by rw [hml]; rfl) rfl (hb hby d4_90) (lenOf pd___II__I rfl) rfl (by decide) (fun T16 v16 Ll16 X16 hQ16 => ?_)
   obtain ⟨b_16, kb_16, rfl, N16q, K16, P16_0, P16_1⟩ := hQ16
   have N16 := Fr.app N4 N16q
   have Zs17 : n0 ≤ T16.heap.size := Nat.le_trans Zs5 K16.1
   have F18 := E_a1.wr W4
   have F19 := F18.keep K16
   have F20 := F7.keep K16 nin0
   obtain ⟨T21, h21, X21, e21, W21, st21⟩ := putF X16 hx hZ hown (host := "") (Or.inl (ow hw 24 rfl)) Via.refl rfl F20 F19 (Or.inl (ow hw 25 rfl)) (ow hw 3 rfl) (ty := (.array .int)) (by decide) rfl rfl (g := (mkF m 93 #[rv a1, rv a2, iv p4, iv (1 : Int32)] [(.ref b_16), (.ref a1)])) rfl rfl (hb hby d4_93)
   have N21 := Fr.snoc X21 N16 g_a1
   have Zs22 : n0 ≤ h21.size := Nat.le_trans Zs17 (Keep.of_wr W21).1
   have F21 : Fld Z h21 a1 cs0 "keyStarts" "[I" (.ref b_16) := F20.same W21
   refine own_go (b := (T21.setTop (mkF m 97 #[rv a1, rv a2, iv p4, iv (1 : Int32)] [(.ref a1)]))) (fun _ k => st21 _ (XS.aloadN X21.here hx rfl (hb hby d4_96) rfl rfl k)) ?_
   have F23 := Fld_a1_keys.other W4 (Or.inr (slot_ne (Or.inr (ow hw 23 rfl)) (Or.inl (ow hw 34 rfl)) (by decide) (t := (.object cs1)) (t' := .int) (by decide) (by decide)))
   have F24 := F23.keep K16 nin0
   have F25 := F24.other W21 (Or.inr (slot_ne (Or.inr (ow hw 23 rfl)) (Or.inl (ow hw 25 rfl)) (by decide) (t := (.object cs1)) (t' := (.array .int)) (by decide) (by decide)))
   refine own_getf X21 hx hZ hown (ow hw 22 rfl) Via.refl e21 F25 rfl rfl (hb hby d4_97) (fun T26 X26 e26 => ?_)
   refine own_go (b := (T26.setTop (mkF m 103 #[rv a1, rv a2, iv p4, iv (1 : Int32)] [(.int p4), (.int (0 : Int32)), (.ref a2), (.ref ib)]))) (fun _ k => XS.aloadN X26.here hx rfl (hb hby d4_100) rfl rfl (XS.iconst X26.here hx rfl (hb hby d4_101) (XS.iloadN X26.here hx rfl (hb hby d4_102) rfl k))) ?_
   have F28 := E_ib.wr W4
   have F29 := F28.keep K16
   have F30 := F29.wr W21
   have nx31 : ib ≠ a1 := (ne_exa E_ib E_a1 (by decide))
   have F32 := Fld_ib_size.other W4 (Or.inl nx31)
   have F33 := F32.keep K16 nin0
   have F34 := F33.other W21 (Or.inl nx31)
   have F35 := Fld_ib_blocks.other W4 (Or.inl nx31)
   have F36 := F35.keep K16 nin0
   have F37 := F36.other W21 (Or.inl nx31)
   obtain ⟨cn38, An38, -⟩ := id V_bl
   have nx39 : bl ≠ a1 := (Ne.symm (ne_arr E_a1 (ow hw 3 rfl) An38))
   have F40 := V_bl.other W4 nx39
   have F41 := F40.keep K16 nin0
   have F42 := F41.other W21 nx39
   obtain ⟨cn43, An43, -⟩ := id V_c0
   have nx44 : c0 ≠ a1 := (Ne.symm (ne_arr E_a1 (ow hw 3 rfl) An43))
   have F45 := V_c0.other W4 nx44
   have F46 := F45.keep K16 nin0
   have F47 := F46.other W21 nx44
   obtain ⟨cn48, An48, -⟩ := id V_a2
   have nx49 : a2 ≠ a1 := (Ne.symm (ne_arr E_a1 (ow hw 3 rfl) An48))
   have F50 := V_a2.other W4 nx49
   have F51 := F50.keep K16 nin0
   have F52 := F51.other W21 nx49
   refine own_virt (W := 0) X26 hx hZ hown e26 (ow hw 47 rfl) (ow hw 48 rfl) (ow hw 50 rfl) (ow hw 49 rfl) (rmaddF l Z a0 hw [] ib a2 k2 y0 y1 y2 p4 bl kb x_s c0 kc vsc h21 n0 Zs22 F30 F34 F37 F42 g_ib g_c0 F47 F52 ne_a2_c0 ne_bl_c0 hlen hn0 hn3 hs0 hs6) (ow hw 51 rfl) (ow hw 13 rfl) F30 rfl (by rw [hml]; rfl) rfl (hb hby d4_103) (lenOf pd___III_V rfl) rfl (by decide) (fun T27 v27 Ll27 X27 hQ27 => ?_)
   obtain ⟨vsn_27, rfl, N27q, K27, P27_0, P27_1, P27_2, P27_3⟩ := hQ27
   have N27 := Fr.app N21 N27q
   have Zs53 : n0 ≤ T27.heap.size := Nat.le_trans Zs22 K27.1
   refine own_go (b := (T27.setTop (mkF m 107 #[rv a1, rv a2, iv p4, iv (1 : Int32)] [(.ref a1)]))) (fun _ k => XS.aloadN X27.here hx rfl (hb hby d4_106) rfl rfl k) ?_
   have F54 := F21.keep K27 (ninS (Ne.symm nx31) (ninS (Ne.symm nx44) nin0))
   refine own_getf X27 hx hZ hown (ow hw 24 rfl) Via.refl rfl F54 rfl rfl (hb hby d4_107) (fun T55 X55 e55 => ?_)
   refine own_go (b := (T55.setTop (mkF m 114 #[rv a1, rv a2, iv p4, iv (1 : Int32)] [(.ref a1), (.int (2 : Int32)), (.ref b_16)]))) (fun _ k => XS.iloadN X55.here hx rfl (hb hby d4_110) rfl (XS.iconst X55.here hx rfl (hb hby d4_111) (XS.iadd X55.here hx rfl (hb hby d4_112) rfl (XS.aloadN X55.here hx rfl (hb hby d4_113) rfl rfl k)))) ?_
   have F56 := F25.keep K27 (ninS (Ne.symm nx31) (ninS (Ne.symm nx44) nin0))
   refine own_getf X55 hx hZ hown (ow hw 22 rfl) Via.refl e55 F56 rfl rfl (hb hby d4_114) (fun T57 X57 e57 => ?_)
   have F59 := F30.keep K27
   refine own_virt (W := 2) X57 hx hZ hown e57 (ow hw 63 rfl) (ow hw 64 rfl) (ow hw 66 rfl) (ow hw 65 rfl) (rm9 l Z a0 hw [] ib (x_s + p4) T27.heap n0 Zs53 P27_0) (ow hw 67 rfl) (ow hw 13 rfl) F59 rfl (by rw [hml]; rfl) rfl (hb hby d4_117) (lenOf pd___I rfl) rfl (by decide) (fun T58 v58 Ll58 X58 hQ58 => ?_)
   obtain ⟨rfl, N58q, eh58⟩ := hQ58
   have N58 := Fr.app N27 N58q
   have nx61 : b_16 ≠ a1 := (Ne.symm (own_ne E_a1.lt (Keep.of_wr W4).1 P16_0))
   have F62 := P16_1.other W21 nx61
   have nx63 : b_16 ≠ c0 := (Ne.symm (own_ne V_c0.lt (Keep.of_wr W4).1 P16_0))
   have nx64 : b_16 ≠ ib := (Ne.symm (own_ne E_ib.lt (Keep.of_wr W4).1 P16_0))
   have F65 := F62.keep K27 (ninS nx64 (ninS nx63 nin0))
   obtain ⟨cl60, Ar60, ql60, Sz60, Nn60, Hl60, Gl60⟩ := id F65
   have hin60 : ¬ ((2 : Int32) < 0 ∨ cl60.slots.size ≤ ((2 : Int32)).toNatClampNeg) := inb_of Sz60 ⟨by decide, by decide⟩
   obtain ⟨T60, h60, X60, e60, W60, st60⟩ := stI X58 hx hZ eh58 Ar60 (j := (2 : Int32)) hin60 (g := (mkF m 120 #[rv a1, rv a2, iv p4, iv (1 : Int32)] [(.int (x_s + p4)), (.int (2 : Int32)), (.ref b_16)])) rfl rfl (hb hby d4_120)
   have gx66 : n0 ≤ b_16 := Nat.le_trans Zs5 P16_0
   have N60 := Fr.snoc X60 N58 gx66
   have Zs67 : n0 ≤ h60.size := Nat.le_trans Zs53 (Keep.of_wr W60).1
   have V60 : Arv Z h60 b_16 kb_16 .int (4 : Int32) [(.int x0), (.int x1), (.int (x_s + p4)), (.int (0 : Int32))] (.int (0 : Int32)) := Arv.set Ar60 ql60 Sz60 Nn60 Hl60 Gl60 rfl W60 2 rfl (Nat.le_of_ble_eq_true rfl)
   refine own_go (b := (T60.setTop (mkF m 122 #[rv a1, rv a2, iv p4, iv (1 : Int32)] [(.int (1 : Int32))]))) (fun _ k => st60 _ (XS.iloadN X60.here hx rfl (hb hby d4_121) rfl k)) ?_
   have K68 := (Keep.refl h0 [a1, ib, c0]).wr W4 (Or.inl (List.mem_of_getElem? (i := 0) rfl))
   have K69 := K68.trans K16 all0
   have K70 := K69.wr W21 (Or.inl (List.mem_of_getElem? (i := 0) rfl))
   have K71 := K70.trans K27 (allS (Or.inl (List.mem_of_getElem? (i := 1) rfl)) (allS (Or.inl (List.mem_of_getElem? (i := 2) rfl)) all0))
   have K72 := K71.wr W60 (Or.inr (Nat.le_trans (Keep.of_wr W4).1 P16_0))
   have F73 := F56.other W60 (Or.inl (Ne.symm nx61))
   have F74 := Fld_a1_labelStarts.other W4 (Or.inr (slot_ne (Or.inl (ow hw 32 rfl)) (Or.inl (ow hw 34 rfl)) (by decide) (t := (.array .int)) (t' := .int) (by decide) (by decide)))
   have F75 := F74.keep K16 nin0
   have F76 := F75.other W21 (Or.inr (slot_ne (Or.inl (ow hw 32 rfl)) (Or.inl (ow hw 25 rfl)) (by decide) (t := (.array .int)) (t' := (.array .int)) (by decide) (by decide)))
   have F77 := F76.keep K27 (ninS (Ne.symm nx31) (ninS (Ne.symm nx44) nin0))
   have F78 := F77.other W60 (Or.inl (Ne.symm nx61))
   have F79 := F4.keep K16 nin0
   have F80 := F79.other W21 (Or.inr (slot_ne (Or.inl (ow hw 34 rfl)) (Or.inl (ow hw 25 rfl)) (by decide) (t := .int) (t' := (.array .int)) (by decide) (by decide)))
   have F81 := F80.keep K27 (ninS (Ne.symm nx31) (ninS (Ne.symm nx44) nin0))
   have F82 := F81.other W60 (Or.inl (Ne.symm nx61))
   have F83 := F54.other W60 (Or.inl (Ne.symm nx61))
   have F84 := P27_0.other W60 (Or.inl (Ne.symm nx64))
   have F85 := P27_1.other W60 (Or.inl (Ne.symm nx64))
   have F86 := P27_2.other W60 (Ne.symm nx63)
   obtain ⟨fs, hr, hrun, hended, hW, hsame⟩ := X60.leave (v := some (.int (1 : Int32))) (fun h => by rw [Bd.returns] at h; cases h)
   exact ⟨_, _, retOut X60 hx Bd.returns rfl (Or.inl ⟨rfl, Or.inl rfl, _, rfl⟩) (hb hby d4_122) hr, hrun, hended, _, _, rfl, (show Qrmap2_1F1 Z a1 a2 k2 y0 y1 y2 p4 ib ks kk bl kb x0 x1 x_s c0 kc vsc h0 n0 _ T60.heap _ from (by rw [e60]; exact ⟨b_16, kb_16, vsn_27, rfl, N60, K72, F73, F78, F82, (Nat.le_trans (Keep.of_wr W4).1 P16_0), F83, V60, F84, F85, F86, P27_3⟩)), ⟨_, rfl⟩, hW, hsame.mono (by decide) (by decide)⟩
 · intro J2
   refine own_go (b := (T1.setTop (mkF m 26 #[rv a1, rv a2, iv p4, iv (0 : Int32)] [(.int (0 : Int32)), (.ref a2)]))) (fun _ k => XS.iloadN X1.here hx rfl (hb hby d4_19) rfl (XS.iloadN X1.here hx rfl (hb hby d4_20) rfl (XS.icmpNo X1.here hx rfl (hb hby d4_21) rfl (tlt hn0).2.1 (XS.aloadN X1.here hx rfl (hb hby d4_24) rfl rfl (XS.iloadN X1.here hx rfl (hb hby d4_25) rfl k))))) ?_
   obtain ⟨cl87, Ar87, ql87, Sz87, Nn87, Hl87, Gl87⟩ := id V_a2
   have hin87 : ¬ ((0 : Int32) < 0 ∨ cl87.slots.size ≤ ((0 : Int32)).toNatClampNeg) := inb_of Sz87 ⟨by decide, by decide⟩
   refine own_go (b := (T1.setTop (mkF m 21 #[rv a1, rv a2, iv p4, iv (1 : Int32)] [(.int p4), (.int (1 : Int32))]))) (fun _ k => X1.iaload hx (j := (0 : Int32)) (v := (.int y0)) (by rw [e1]; exact Ar87.1) (State.isArrayOf_alike hZ.alike Ar87.2.1) Ar87.2.2 hin87 (Hl87.at hin87 rfl) (g := (mkF m 26 #[rv a1, rv a2, iv p4, iv (0 : Int32)] [(.int (0 : Int32)), (.ref a2)])) rfl rfl (hb hby d4_26) _ (XS.ifYes X1.here hx rfl (pc0 := 27) (pc' := 46) rfl (hb hby d4_27) rfl ((if0 _ _).trans (flt hy0).2.1) (by decide) (by decide) (XS.iinc X1.here hx rfl (hb hby d4_46) rfl (l' := #[rv a1, rv a2, iv p4, iv (1 : Int32)]) rfl (XS.goto X1.here hx rfl (pc0 := 49) (pc' := 19) rfl (hb hby d4_49) (by decide) (by decide) (XS.iloadN X1.here hx rfl (hb hby d4_19) rfl (XS.iloadN X1.here hx rfl (hb hby d4_20) rfl k)))))) ?_
   by_cases hc21_88 : (1 : Int32) < p4
   · skip
     refine own_go (b := (T1.setTop (mkF m 26 #[rv a1, rv a2, iv p4, iv (1 : Int32)] [(.int (1 : Int32)), (.ref a2)]))) (fun _ k => XS.icmpNo X1.here hx rfl (hb hby d4_21) rfl (tlt hc21_88).2.1 (XS.aloadN X1.here hx rfl (hb hby d4_24) rfl rfl (XS.iloadN X1.here hx rfl (hb hby d4_25) rfl k))) ?_
     obtain ⟨cl89, Ar89, ql89, Sz89, Nn89, Hl89, Gl89⟩ := id V_a2
     have hin89 : ¬ ((1 : Int32) < 0 ∨ cl89.slots.size ≤ ((1 : Int32)).toNatClampNeg) := inb_of Sz89 ⟨by decide, by decide⟩
     refine own_go (b := (T1.setTop (mkF m 21 #[rv a1, rv a2, iv p4, iv (2 : Int32)] [(.int p4), (.int (2 : Int32))]))) (fun _ k => X1.iaload hx (j := (1 : Int32)) (v := (.int y1)) (by rw [e1]; exact Ar89.1) (State.isArrayOf_alike hZ.alike Ar89.2.1) Ar89.2.2 hin89 (Hl89.at hin89 rfl) (g := (mkF m 26 #[rv a1, rv a2, iv p4, iv (1 : Int32)] [(.int (1 : Int32)), (.ref a2)])) rfl rfl (hb hby d4_26) _ (XS.ifYes X1.here hx rfl (pc0 := 27) (pc' := 46) rfl (hb hby d4_27) rfl ((if0 _ _).trans (flt hy1).2.1) (by decide) (by decide) (XS.iinc X1.here hx rfl (hb hby d4_46) rfl (l' := #[rv a1, rv a2, iv p4, iv (2 : Int32)]) rfl (XS.goto X1.here hx rfl (pc0 := 49) (pc' := 19) rfl (hb hby d4_49) (by decide) (by decide) (XS.iloadN X1.here hx rfl (hb hby d4_19) rfl (XS.iloadN X1.here hx rfl (hb hby d4_20) rfl k)))))) ?_
     by_cases hc21_90 : (2 : Int32) < p4
     · skip
       refine own_go (b := (T1.setTop (mkF m 26 #[rv a1, rv a2, iv p4, iv (2 : Int32)] [(.int (2 : Int32)), (.ref a2)]))) (fun _ k => XS.icmpNo X1.here hx rfl (hb hby d4_21) rfl (tlt hc21_90).2.1 (XS.aloadN X1.here hx rfl (hb hby d4_24) rfl rfl (XS.iloadN X1.here hx rfl (hb hby d4_25) rfl k))) ?_
       obtain ⟨cl91, Ar91, ql91, Sz91, Nn91, Hl91, Gl91⟩ := id V_a2
       have hin91 : ¬ ((2 : Int32) < 0 ∨ cl91.slots.size ≤ ((2 : Int32)).toNatClampNeg) := inb_of Sz91 ⟨by decide, by decide⟩
       refine own_go (b := (T1.setTop (mkF m 52 #[rv a1, rv a2, iv p4, iv (3 : Int32)] []))) (fun _ k => X1.iaload hx (j := (2 : Int32)) (v := (.int y2)) (by rw [e1]; exact Ar91.1) (State.isArrayOf_alike hZ.alike Ar91.2.1) Ar91.2.2 hin91 (Hl91.at hin91 rfl) (g := (mkF m 26 #[rv a1, rv a2, iv p4, iv (2 : Int32)] [(.int (2 : Int32)), (.ref a2)])) rfl rfl (hb hby d4_26) _ (XS.ifYes X1.here hx rfl (pc0 := 27) (pc' := 46) rfl (hb hby d4_27) rfl ((if0 _ _).trans (flt hy2).2.1) (by decide) (by decide) (XS.iinc X1.here hx rfl (hb hby d4_46) rfl (l' := #[rv a1, rv a2, iv p4, iv (3 : Int32)]) rfl (XS.goto X1.here hx rfl (pc0 := 49) (pc' := 19) rfl (hb hby d4_49) (by decide) (by decide) (XS.iloadN X1.here hx rfl (hb hby d4_19) rfl (XS.iloadN X1.here hx rfl (hb hby d4_20) rfl (XS.icmpYes X1.here hx rfl (pc0 := 21) (pc' := 52) rfl (hb hby d4_21) rfl (flt hn3).2.1 (by decide) (by decide) k))))))) ?_
       exact J2 (3 : Int32) trivial
     · skip
       refine own_go (b := (T1.setTop (mkF m 52 #[rv a1, rv a2, iv p4, iv (2 : Int32)] []))) (fun _ k => XS.icmpYes X1.here hx rfl (pc0 := 21) (pc' := 52) rfl (hb hby d4_21) rfl (flt hc21_90).2.1 (by decide) (by decide) k) ?_
       exact J2 (2 : Int32) trivial
   · skip
     refine own_go (b := (T1.setTop (mkF m 52 #[rv a1, rv a2, iv p4, iv (1 : Int32)] []))) (fun _ k => XS.icmpYes X1.here hx rfl (pc0 := 21) (pc' := 52) rfl (hb hby d4_21) rfl (flt hc21_88).2.1 (by decide) (by decide) k) ?_
     exact J2 (1 : Int32) trivial
theorem ef_rmap3_1N0 (m : MethodId) (x0 : Addr) (x1 : Addr) (x2 : Int32) : entryFrame m #[(.ref x0), (.ref x1), (.int x2)] 4 = mkF m 0 #[rv x0, rv x1, iv x2, .unset] [] := by first | (simp [entryFrame, mkF, argsToLocals, Value.category]; done) | rfl
def Qrmap3_1N0 (Z : State) (a1 : Addr) (a2 : Addr) (k2 : ClassId) (y0 : Int32) (y1 : Int32) (y2 : Int32) (ib : Addr) (ks : Addr) (kk : ClassId) (x_s : Int32) (x0 : Int32) (x1 : Int32) (x2 : Int32) (h0 : Heap) (n0 : Nat) (v : Option Value) (h : Heap) (L : List Loc) : Prop := v = some (.int (1 : Int32)) ∧ Fr n0 L ∧ Keep h0 h [a1, ks] ∧ (Fld Z h a1 cs0 "keys" "Lcom/example/arcwright/arcwright/parser/IntBlocks;" (.ref ib)) ∧ (Fld Z h a1 cs0 "labelStarts" "[I" .null) ∧ (Fld Z h a1 cs0 "size" "I" (.int (2 : Int32))) ∧ (Fld Z h a1 cs0 "keyStarts" "[I" (.ref ks)) ∧ (Arv Z h ks kk .int (3 : Int32) [(.int x0), (.int x1), (.int x_s)] (.int (0 : Int32)))
set_option maxRecDepth 65536 in
set_option maxHeartbeats 40000000 in
theorem rmap3_1N0 (l : Launch) (Z : State) (a0 : Array Value) (hw : ∀ d ∈ tables_1, d.before a0 Z = true) (ws : List Jvm.Cond) (a1 : Addr) (a2 : Addr) (k2 : ClassId) (y0 : Int32) (y1 : Int32) (y2 : Int32) (ib : Addr) (ks : Addr) (kk : ClassId) (x_s : Int32) (x0 : Int32) (x1 : Int32) (x2 : Int32) (h0 : Heap) (n0 : Nat) (Z0 : n0 ≤ h0.size) (E_a1 : Exa Z h0 a1 cs0) (Fld_a1_keys : Fld Z h0 a1 cs0 "keys" "Lcom/example/arcwright/arcwright/parser/IntBlocks;" (.ref ib)) (Fld_a1_keyStarts : Fld Z h0 a1 cs0 "keyStarts" "[I" (.ref ks)) (Fld_a1_labelStarts : Fld Z h0 a1 cs0 "labelStarts" "[I" .null) (Fld_a1_size : Fld Z h0 a1 cs0 "size" "I" (.int (1 : Int32))) (E_ib : Exa Z h0 ib cs1) (Fld_ib_size : Fld Z h0 ib cs1 "size" "I" (.int x_s)) (V_ks : Arv Z h0 ks kk .int (3 : Int32) [(.int x0), (.int x1), (.int x2)] (.int (0 : Int32))) (V_a2 : Arv Z h0 a2 k2 .int (3 : Int32) [(.int y0), (.int y1), (.int y2)] (.int (0 : Int32))) (g_a1 : n0 ≤ a1) (g_ib : n0 ≤ ib) (g_ks : n0 ≤ ks) (ne_ks_a2 : ks ≠ a2) (hy0 : ¬ (y0 < (0 : Int32))) (hy1 : ¬ (y1 < (0 : Int32))) (hy2 : ¬ (y2 < (0 : Int32))) :
    MetFree l mn0 (head1 (Jvm.Cond.code mn0 prog_25_method_3_code 4 (some .int) :: ws) ({ frames := 1, cells := 0, slots := 0, locals := 18 } : Room)) (fun a U => a = #[(.ref a1), (.ref a2), (.int (0 : Int32))] ∧ Z.Warmed39 U.vm ∧ U.heap = h0) (fun _ _ _ _ _ => True) (fun _ U o U' => ∃ v L, o = .returned v ∧ Qrmap3_1N0 Z a1 a2 k2 y0 y1 y2 ib ks kk x_s x0 x1 x2 h0 n0 v U'.heap L ∧ FrameEnd U o U' L ({ frames := 1, cells := 0, slots := 0, locals := 18 } : Room).cells ({ frames := 1, cells := 0, slots := 0, locals := 18 } : Room).slots) := by
 refine MetFree.of_bodySF (plainFor_of_name pn_4) hisR ?_
 intro p e s m args below meth c s₁ Bd hml0 hP hK
 obtain ⟨rfl, hZ, hh⟩ := hP
 have hx := Bd.exec
 have hby := Bd.bytes
 have hml : c.maxLocals = 4 := hml0
 have hown : s.vm.findClass cs0 = some m.cls := findClass_of_methodNamed Bd.named
 have hnm := (name_of_methodNamed Bd.named Bd.method).1
 have X0 : Stand p l e ({ frames := 1, cells := 0, slots := 0, locals := 18 } : Room) s m #[(.ref a1), (.ref a2), (.int (0 : Int32))] below meth c s₁ [] 0 0 := Stand.of_body Bd
 have e0 : s₁.heap = h0 := by rw [← hh, Bd.state]; rfl
 have N0 := Fr.nil n0
 refine own_go (b := (s₁.setTop (mkF m 0 #[rv a1, rv a2, iv (0 : Int32), .unset] []))) (fun _ k => castTop (ef_rmap3_1N0 m a1 a2 (0 : Int32)) k) ?_
 refine own_go (b := (s₁.setTop (mkF m 1 #[rv a1, rv a2, iv (0 : Int32), .unset] [(.ref a1)]))) (fun _ k => XS.aloadN X0.here hx rfl (hb hby d4_0) rfl rfl k) ?_
 refine own_getf X0 hx hZ hown (ow hw 31 rfl) Via.refl e0 Fld_a1_labelStarts rfl rfl (hb hby d4_1) (fun T1 X1 e1 => ?_)
 refine own_go (b := (T1.setTop (mkF m 54 #[rv a1, rv a2, iv (0 : Int32), iv (0 : Int32)] [(.ref a1), (.ref a1)]))) (fun _ k => XS.ifnullYes X1.here hx rfl (pc0 := 4) (pc' := 17) rfl (hb hby d4_4) rfl (by decide) (by decide) (XS.iconst X1.here hx rfl (hb hby d4_17) (XS.istoreN X1.here hx rfl (hb hby d4_18) rfl (l' := #[rv a1, rv a2, iv (0 : Int32), iv (0 : Int32)]) rfl (XS.iloadN X1.here hx rfl (hb hby d4_19) rfl (XS.iloadN X1.here hx rfl (hb hby d4_20) rfl (XS.icmpYes X1.here hx rfl (pc0 := 21) (pc' := 52) rfl (hb hby d4_21) rfl (flt (by decide : ¬ ((0 : Int32) < (0 : Int32)))).2.1 (by decide) (by decide) (XS.aloadN X1.here hx rfl (hb hby d4_52) rfl rfl (XS.dup X1.here hx rfl (hb hby d4_53) rfl rfl k)))))))) ?_
 refine own_getf X1 hx hZ hown (ow hw 33 rfl) Via.refl e1 Fld_a1_size rfl rfl (hb hby d4_54) (fun T2 X2 e2 => ?_)
 refine own_go (b := (T2.setTop (mkF m 60 #[rv a1, rv a2, iv (0 : Int32), iv (0 : Int32)] [(.int (2 : Int32)), (.ref a1), (.int (1 : Int32))]))) (fun _ k => XS.dupX1 X2.here hx rfl (hb hby d4_57) rfl rfl rfl (XS.iconst X2.here hx rfl (hb hby d4_58) (XS.iadd X2.here hx rfl (hb hby d4_59) rfl k))) ?_
 obtain ⟨T3, h3, X3, e3, W3, st3⟩ := putF X2 hx hZ hown (host := "") (Or.inl (ow hw 33 rfl)) Via.refl e2 Fld_a1_size E_a1 (Or.inl (ow hw 34 rfl)) (ow hw 3 rfl) (ty := .int) (by decide) rfl rfl (g := (mkF m 60 #[rv a1, rv a2, iv (0 : Int32), iv (0 : Int32)] [(.int (2 : Int32)), (.ref a1), (.int (1 : Int32))])) rfl rfl (hb hby d4_60)
 have N3 := Fr.snoc X3 N0 g_a1
 have Zs4 : n0 ≤ h3.size := Nat.le_trans Z0 (Keep.of_wr W3).1
 have F3 : Fld Z h3 a1 cs0 "size" "I" (.int (2 : Int32)) := Fld_a1_size.same W3
 refine own_go (b := (T3.setTop (mkF m 65 #[rv a1, rv a2, iv (0 : Int32), iv (1 : Int32)] [(.ref a1)]))) (fun _ k => st3 _ (XS.istoreN X3.here hx rfl (hb hby d4_63) rfl (l' := #[rv a1, rv a2, iv (0 : Int32), iv (1 : Int32)]) rfl (XS.aloadN X3.here hx rfl (hb hby d4_64) rfl rfl k))) ?_
 refine own_getf X3 hx hZ hown (ow hw 33 rfl) Via.refl e3 F3 rfl rfl (hb hby d4_65) (fun T5 X5 e5 => ?_)
 refine own_go (b := (T5.setTop (mkF m 71 #[rv a1, rv a2, iv (0 : Int32), iv (1 : Int32)] [(.ref a1), (.int (3 : Int32))]))) (fun _ k => XS.iconst X5.here hx rfl (hb hby d4_68) (XS.iadd X5.here hx rfl (hb hby d4_69) rfl (XS.aloadN X5.here hx rfl (hb hby d4_70) rfl rfl k))) ?_
 have F6 := Fld_a1_keyStarts.other W3 (Or.inr (slot_ne (Or.inl (ow hw 25 rfl)) (Or.inl (ow hw 34 rfl)) (by decide) (t := (.array .int)) (t' := .int) (by decide) (by decide)))
 refine own_getf X5 hx hZ hown (ow hw 24 rfl) Via.refl e5 F6 rfl rfl (hb hby d4_71) (fun T7 X7 e7 => ?_)
 obtain ⟨cn9, An9, -⟩ := id V_ks
 have nx10 : ks ≠ a1 := (Ne.symm (ne_arr E_a1 (ow hw 3 rfl) An9))
 have F11 := V_ks.other W3 nx10
 obtain ⟨cl8, Ar8, -, Sz8, Nn8, -, -⟩ := id F11
 refine own_go (b := (T7.setTop (mkF m 97 #[rv a1, rv a2, iv (0 : Int32), iv (1 : Int32)] [(.ref a1)]))) (fun _ k => X7.arraylength hx (by rw [e7]; exact Ar8.1) (State.isArrayOf_alike hZ.alike Ar8.2.1) (g := (mkF m 74 #[rv a1, rv a2, iv (0 : Int32), iv (1 : Int32)] [(.ref ks), (.int (3 : Int32))])) rfl rfl (hb hby d4_74) _ (by rw [len_of Sz8 Nn8]; exact (XS.icmpYes X7.here hx rfl (pc0 := 75) (pc' := 96) rfl (hb hby d4_75) rfl (flt (by decide : ¬ ((3 : Int32) < (3 : Int32)))).2.2.2 (by decide) (by decide) (XS.aloadN X7.here hx rfl (hb hby d4_96) rfl rfl k)))) ?_
 have F12 := Fld_a1_keys.other W3 (Or.inr (slot_ne (Or.inr (ow hw 23 rfl)) (Or.inl (ow hw 34 rfl)) (by decide) (t := (.object cs1)) (t' := .int) (by decide) (by decide)))
 refine own_getf X7 hx hZ hown (ow hw 22 rfl) Via.refl e7 F12 rfl rfl (hb hby d4_97) (fun T13 X13 e13 => ?_)
 refine own_go (b := (T13.setTop (mkF m 103 #[rv a1, rv a2, iv (0 : Int32), iv (1 : Int32)] [(.int (0 : Int32)), (.int (0 : Int32)), (.ref a2), (.ref ib)]))) (fun _ k => XS.aloadN X13.here hx rfl (hb hby d4_100) rfl rfl (XS.iconst X13.here hx rfl (hb hby d4_101) (XS.iloadN X13.here hx rfl (hb hby d4_102) rfl k))) ?_
 have F15 := E_ib.wr W3
 refine own_virt (W := 0) X13 hx hZ hown e13 (ow hw 47 rfl) (ow hw 48 rfl) (ow hw 50 rfl) (ow hw 49 rfl) (rmadd0 l Z a0 hw [] ib a2 h3 n0 Zs4) (ow hw 51 rfl) (ow hw 13 rfl) F15 rfl (by rw [hml]; rfl) rfl (hb hby d4_103) (lenOf pd___III_V rfl) rfl (by decide) (fun T14 v14 Ll14 X14 hQ14 => ?_)
 obtain ⟨rfl, N14q, eh14⟩ := hQ14
 have N14 := Fr.app N3 N14q
 refine own_go (b := (T14.setTop (mkF m 107 #[rv a1, rv a2, iv (0 : Int32), iv (1 : Int32)] [(.ref a1)]))) (fun _ k => XS.aloadN X14.here hx rfl (hb hby d4_106) rfl rfl k) ?_
 refine own_getf X14 hx hZ hown (ow hw 24 rfl) Via.refl eh14 F6 rfl rfl (hb hby d4_107) (fun T16 X16 e16 => ?_)
 refine own_go (b := (T16.setTop (mkF m 114 #[rv a1, rv a2, iv (0 : Int32), iv (1 : Int32)] [(.ref a1), (.int (2 : Int32)), (.ref ks)]))) (fun _ k => XS.iloadN X16.here hx rfl (hb hby d4_110) rfl (XS.iconst X16.here hx rfl (hb hby d4_111) (XS.iadd X16.here hx rfl (hb hby d4_112) rfl (XS.aloadN X16.here hx rfl (hb hby d4_113) rfl rfl k)))) ?_
 refine own_getf X16 hx hZ hown (ow hw 22 rfl) Via.refl e16 F12 rfl rfl (hb hby d4_114) (fun T17 X17 e17 => ?_)
 have nx19 : ib ≠ a1 := (ne_exa E_ib E_a1 (by decide))
 have F20 := Fld_ib_size.other W3 (Or.inl nx19)
 refine own_virt (W := 2) X17 hx hZ hown e17 (ow hw 63 rfl) (ow hw 64 rfl) (ow hw 66 rfl) (ow hw 65 rfl) (rm9 l Z a0 hw [] ib x_s h3 n0 Zs4 F20) (ow hw 67 rfl) (ow hw 13 rfl) F15 rfl (by rw [hml]; rfl) rfl (hb hby d4_117) (lenOf pd___I rfl) rfl (by decide) (fun T18 v18 Ll18 X18 hQ18 => ?_)
 obtain ⟨rfl, N18q, eh18⟩ := hQ18
 have N18 := Fr.app N14 N18q
 obtain ⟨cl21, Ar21, ql21, Sz21, Nn21, Hl21, Gl21⟩ := id F11
 have hin21 : ¬ ((2 : Int32) < 0 ∨ cl21.slots.size ≤ ((2 : Int32)).toNatClampNeg) := inb_of Sz21 ⟨by decide, by decide⟩
 obtain ⟨T21, h21, X21, e21, W21, st21⟩ := stI X18 hx hZ eh18 Ar21 (j := (2 : Int32)) hin21 (g := (mkF m 120 #[rv a1, rv a2, iv (0 : Int32), iv (1 : Int32)] [(.int x_s), (.int (2 : Int32)), (.ref ks)])) rfl rfl (hb hby d4_120)
 have N21 := Fr.snoc X21 N18 g_ks
 have Zs22 : n0 ≤ h21.size := Nat.le_trans Zs4 (Keep.of_wr W21).1
 have V21 : Arv Z h21 ks kk .int (3 : Int32) [(.int x0), (.int x1), (.int x_s)] (.int (0 : Int32)) := Arv.set Ar21 ql21 Sz21 Nn21 Hl21 Gl21 rfl W21 2 rfl (Nat.le_of_ble_eq_true rfl)
 refine own_go (b := (T21.setTop (mkF m 122 #[rv a1, rv a2, iv (0 : Int32), iv (1 : Int32)] [(.int (1 : Int32))]))) (fun _ k => st21 _ (XS.iloadN X21.here hx rfl (hb hby d4_121) rfl k)) ?_
 have K23 := (Keep.refl h0 [a1, ks]).wr W3 (Or.inl (List.mem_of_getElem? (i := 0) rfl))
 have K24 := K23.wr W21 (Or.inl (List.mem_of_getElem? (i := 1) rfl))
 have F25 := F12.other W21 (Or.inl (Ne.symm nx10))
 have F26 := Fld_a1_labelStarts.other W3 (Or.inr (slot_ne (Or.inl (ow hw 32 rfl)) (Or.inl (ow hw 34 rfl)) (by decide) (t := (.array .int)) (t' := .int) (by decide) (by decide)))
 have F27 := F26.other W21 (Or.inl (Ne.symm nx10))
 have F28 := F3.other W21 (Or.inl (Ne.symm nx10))
 have F29 := F6.other W21 (Or.inl (Ne.symm nx10))
 obtain ⟨fs, hr, hrun, hended, hW, hsame⟩ := X21.leave (v := some (.int (1 : Int32))) (fun h => by rw [Bd.returns] at h; cases h)
 exact ⟨_, _, retOut X21 hx Bd.returns rfl (Or.inl ⟨rfl, Or.inl rfl, _, rfl⟩) (hb hby d4_122) hr, hrun, hended, _, _, rfl, (show Qrmap3_1N0 Z a1 a2 k2 y0 y1 y2 ib ks kk x_s x0 x1 x2 h0 n0 _ T21.heap _ from (by rw [e21]; exact ⟨rfl, N21, K24, F25, F27, F28, F29, V21⟩)), ⟨_, rfl⟩, hW, hsame.mono (by decide) (by decide)⟩
theorem ef_rmap3_1E1 (m : MethodId) (x0 : Addr) (x1 : Addr) (x2 : Int32) : entryFrame m #[(.ref x0), (.ref x1), (.int x2)] 4 = mkF m 0 #[rv x0, rv x1, iv x2, .unset] [] := by first | (simp [entryFrame, mkF, argsToLocals, Value.category]; done) | rfl
def Qrmap3_1E1 (Z : State) (a1 : Addr) (a2 : Addr) (k2 : ClassId) (y0 : Int32) (y1 : Int32) (y2 : Int32) (p4 : Int32) (ib : Addr) (ks : Addr) (kk : ClassId) (bl : Addr) (kb : ClassId) (x0 : Int32) (x1 : Int32) (x2 : Int32) (h0 : Heap) (n0 : Nat) (v : Option Value) (h : Heap) (L : List Loc) : Prop := ∃ (cn : Addr) (kn : ClassId) (vsn : List Value), v = some (.int (1 : Int32)) ∧ Fr n0 L ∧ Keep h0 h [a1, ib, ks, bl] ∧ (Fld Z h a1 cs0 "keys" "Lcom/example/arcwright/arcwright/parser/IntBlocks;" (.ref ib)) ∧ (Fld Z h a1 cs0 "labelStarts" "[I" .null) ∧ (Fld Z h a1 cs0 "size" "I" (.int (2 : Int32))) ∧ (Fld Z h a1 cs0 "keyStarts" "[I" (.ref ks)) ∧ (Arv Z h ks kk .int (3 : Int32) [(.int x0), (.int x1), (.int p4)] (.int (0 : Int32))) ∧ (Fld Z h ib cs1 "size" "I" (.int p4)) ∧ (Fld Z h ib cs1 "blocks" "[[I" (.ref bl)) ∧ (h0.size ≤ cn) ∧ (Arv Z h bl kb (.array .int) (16 : Int32) ((.ref cn) :: own_n15) .null) ∧ (Arv Z h cn kn .int (65536 : Int32) vsn (.int (0 : Int32))) ∧ (16 ≤ vsn.length)
set_option maxRecDepth 65536 in
set_option maxHeartbeats 40000000 in
theorem rmap3_1E1 (l : Launch) (Z : State) (a0 : Array Value) (hw : ∀ d ∈ tables_1, d.before a0 Z = true) (ws : List Jvm.Cond) (a1 : Addr) (a2 : Addr) (k2 : ClassId) (y0 : Int32) (y1 : Int32) (y2 : Int32) (p4 : Int32) (ib : Addr) (ks : Addr) (kk : ClassId) (bl : Addr) (kb : ClassId) (x0 : Int32) (x1 : Int32) (x2 : Int32) (h0 : Heap) (n0 : Nat) (Z0 : n0 ≤ h0.size) (E_a1 : Exa Z h0 a1 cs0) (Fld_a1_keys : Fld Z h0 a1 cs0 "keys" "Lcom/example/arcwright/arcwright/parser/IntBlocks;" (.ref ib)) (Fld_a1_keyStarts : Fld Z h0 a1 cs0 "keyStarts" "[I" (.ref ks)) (Fld_a1_labelStarts : Fld Z h0 a1 cs0 "labelStarts" "[I" .null) (Fld_a1_size : Fld Z h0 a1 cs0 "size" "I" (.int (1 : Int32))) (E_ib : Exa Z h0 ib cs1) (Fld_ib_size : Fld Z h0 ib cs1 "size" "I" (.int (0 : Int32))) (Fld_ib_blocks : Fld Z h0 ib cs1 "blocks" "[[I" (.ref bl)) (V_ks : Arv Z h0 ks kk .int (3 : Int32) [(.int x0), (.int x1), (.int x2)] (.int (0 : Int32))) (V_a2 : Arv Z h0 a2 k2 .int (3 : Int32) [(.int y0), (.int y1), (.int y2)] (.int (0 : Int32))) (g_a1 : n0 ≤ a1) (g_ib : n0 ≤ ib) (g_ks : n0 ≤ ks) (ne_ks_a2 : ks ≠ a2) (g_bl : n0 ≤ bl) (ne_ks_bl : ks ≠ bl) (ne_a2_bl : a2 ≠ bl) (hy0 : ¬ (y0 < (0 : Int32))) (hy1 : ¬ (y1 < (0 : Int32))) (hy2 : ¬ (y2 < (0 : Int32))) (hn0 : (0 : Int32) < p4) (hn3 : ¬ ((3 : Int32) < p4)) (V_bl : Arv Z h0 bl kb (.array .int) (16 : Int32) own_n16 .null) (Ov_bl : OvrA Z kb .int "[I") :
    MetFree l mn0 (head1 (Jvm.Cond.code mn0 prog_25_method_3_code 4 (some .int) :: ws) ({ frames := 2, cells := 1, slots := 65536, locals := 58 } : Room)) (fun a U => a = #[(.ref a1), (.ref a2), (.int p4)] ∧ Z.Warmed39 U.vm ∧ U.heap = h0) (fun _ _ _ _ _ => True) (fun _ U o U' => ∃ v L, o = .returned v ∧ Qrmap3_1E1 Z a1 a2 k2 y0 y1 y2 p4 ib ks kk bl kb x0 x1 x2 h0 n0 v U'.heap L ∧ FrameEnd U o U' L ({ frames := 2, cells := 1, slots := 65536, locals := 58 } : Room).cells ({ frames := 2, cells := 1, slots := 65536, locals := 58 } : Room).slots) := by
 refine MetFree.of_bodySF (plainFor_of_name pn_4) hisR ?_
 intro p e s m args below meth c s₁ Bd hml0 hP hK
 obtain ⟨rfl, hZ, hh⟩ := hP
 have hx := Bd.exec
 have hby := Bd.bytes
 have hml : c.maxLocals = 4 := hml0
 have hown : s.vm.findClass cs0 = some m.cls := findClass_of_methodNamed Bd.named
 have hnm := (name_of_methodNamed Bd.named Bd.method).1
 have X0 : Stand p l e ({ frames := 2, cells := 1, slots := 65536, locals := 58 } : Room) s m #[(.ref a1), (.ref a2), (.int p4)] below meth c s₁ [] 0 0 := Stand.of_body Bd
 have e0 : s₁.heap = h0 := by rw [← hh, Bd.state]; rfl
 have N0 := Fr.nil n0
 refine own_go (b := (s₁.setTop (mkF m 0 #[rv a1, rv a2, iv p4, .unset] []))) (fun _ k => castTop (ef_rmap3_1E1 m a1 a2 p4) k) ?_
 refine own_go (b := (s₁.setTop (mkF m 1 #[rv a1, rv a2, iv p4, .unset] [(.ref a1)]))) (fun _ k => XS.aloadN X0.here hx rfl (hb hby d4_0) rfl rfl k) ?_
 refine own_getf X0 hx hZ hown (ow hw 31 rfl) Via.refl e0 Fld_a1_labelStarts rfl rfl (hb hby d4_1) (fun T1 X1 e1 => ?_)
 refine own_go (b := (T1.setTop (mkF m 19 #[rv a1, rv a2, iv p4, iv (0 : Int32)] []))) (fun _ k => XS.ifnullYes X1.here hx rfl (pc0 := 4) (pc' := 17) rfl (hb hby d4_4) rfl (by decide) (by decide) (XS.iconst X1.here hx rfl (hb hby d4_17) (XS.istoreN X1.here hx rfl (hb hby d4_18) rfl (l' := #[rv a1, rv a2, iv p4, iv (0 : Int32)]) rfl k))) ?_
 refine own_join (A := Int32) (C := fun ii => True) (f := fun ii => (T1.setTop (mkF m 52 #[rv a1, rv a2, iv p4, iv ii] []))) ?_ ?_
 · intro ii hj2
   refine own_go (b := (T1.setTop (mkF m 54 #[rv a1, rv a2, iv p4, iv ii] [(.ref a1), (.ref a1)]))) (fun _ k => XS.aloadN X1.here hx rfl (hb hby d4_52) rfl rfl (XS.dup X1.here hx rfl (hb hby d4_53) rfl rfl k)) ?_
   refine own_getf X1 hx hZ hown (ow hw 33 rfl) Via.refl e1 Fld_a1_size rfl rfl (hb hby d4_54) (fun T3 X3 e3 => ?_)
   refine own_go (b := (T3.setTop (mkF m 60 #[rv a1, rv a2, iv p4, iv ii] [(.int (2 : Int32)), (.ref a1), (.int (1 : Int32))]))) (fun _ k => XS.dupX1 X3.here hx rfl (hb hby d4_57) rfl rfl rfl (XS.iconst X3.here hx rfl (hb hby d4_58) (XS.iadd X3.here hx rfl (hb hby d4_59) rfl k))) ?_
   obtain ⟨T4, h4, X4, e4, W4, st4⟩ := putF X3 hx hZ hown (host := "") (Or.inl (ow hw 33 rfl)) Via.refl e3 Fld_a1_size E_a1 (Or.inl (ow hw 34 rfl)) (ow hw 3 rfl) (ty := .int) (by decide) rfl rfl (g := (mkF m 60 #[rv a1, rv a2, iv p4, iv ii] [(.int (2 : Int32)), (.ref a1), (.int (1 : Int32))])) rfl rfl (hb hby d4_60)
   have N4 := Fr.snoc X4 N0 g_a1
   have Zs5 : n0 ≤ h4.size := Nat.le_trans Z0 (Keep.of_wr W4).1
   have F4 : Fld Z h4 a1 cs0 "size" "I" (.int (2 : Int32)) := Fld_a1_size.same W4
   refine own_go (b := (T4.setTop (mkF m 65 #[rv a1, rv a2, iv p4, iv (1 : Int32)] [(.ref a1)]))) (fun _ k => st4 _ (XS.istoreN X4.here hx rfl (hb hby d4_63) rfl (l' := #[rv a1, rv a2, iv p4, iv (1 : Int32)]) rfl (XS.aloadN X4.here hx rfl (hb hby d4_64) rfl rfl k))) ?_
   refine own_getf X4 hx hZ hown (ow hw 33 rfl) Via.refl e4 F4 rfl rfl (hb hby d4_65) (fun T6 X6 e6 => ?_)
   refine own_go (b := (T6.setTop (mkF m 71 #[rv a1, rv a2, iv p4, iv (1 : Int32)] [(.ref a1), (.int (3 : Int32))]))) (fun _ k => XS.iconst X6.here hx rfl (hb hby d4_68) (XS.iadd X6.here hx rfl (hb hby d4_69) rfl (XS.aloadN X6.here hx rfl (hb hby d4_70) rfl rfl k))) ?_
   have F7 := Fld_a1_keyStarts.other W4 (Or.inr (slot_ne (Or.inl (ow hw 25 rfl)) (Or.inl (ow hw 34 rfl)) (by decide) (t := (.array .int)) (t' := .int) (by decide) (by decide)))
   refine own_getf X6 hx hZ hown (ow hw 24 rfl) Via.refl e6 F7 rfl rfl (hb hby d4_71) (fun T8 X8 e8 => ?_)
   obtain ⟨cn10, An10, -⟩ := id V_ks
   have nx11 : ks ≠ a1 := (Ne.symm (ne_arr E_a1 (ow hw 3 rfl) An10))
   have F12 := V_ks.other W4 nx11
   obtain ⟨cl9, Ar9, -, Sz9, Nn9, -, -⟩ := id F12
   refine own_go (b := (T8.setTop (mkF m 97 #[rv a1, rv a2, iv p4, iv (1 : Int32)] [(.ref a1)]))) (fun _ k => X8.arraylength hx (by rw [e8]; exact Ar9.1) (State.isArrayOf_alike hZ.alike Ar9.2.1) (g := (mkF m 74 #[rv a1, rv a2, iv p4, iv (1 : Int32)] [(.ref ks), (.int (3 : Int32))])) rfl rfl (hb hby d4_74) _ (by rw [len_of Sz9 Nn9]; exact (XS.icmpYes X8.here hx rfl (pc0 := 75) (pc' := 96) rfl (hb hby d4_75) rfl (flt (by decide : ¬ ((3 : Int32) < (3 : Int32)))).2.2.2 (by decide) (by decide) (XS.aloadN X8.here hx rfl (hb hby d4_96) rfl rfl k)))) ?_
   have F13 := Fld_a1_keys.other W4 (Or.inr (slot_ne (Or.inr (ow hw 23 rfl)) (Or.inl (ow hw 34 rfl)) (by decide) (t := (.object cs1)) (t' := .int) (by decide) (by decide)))
   refine own_getf X8 hx hZ hown (ow hw 22 rfl) Via.refl e8 F13 rfl rfl (hb hby d4_97) (fun T14 X14 e14 => ?_)
   refine own_go (b := (T14.setTop (mkF m 103 #[rv a1, rv a2, iv p4, iv (1 : Int32)] [(.int p4), (.int (0 : Int32)), (.ref a2), (.ref ib)]))) (fun _ k => XS.aloadN X14.here hx rfl (hb hby d4_100) rfl rfl (XS.iconst X14.here hx rfl (hb hby d4_101) (XS.iloadN X14.here hx rfl (hb hby d4_102) rfl k))) ?_
   have F16 := E_ib.wr W4
   have nx17 : ib ≠ a1 := (ne_exa E_ib E_a1 (by decide))
   have F18 := Fld_ib_size.other W4 (Or.inl nx17)
   have F19 := Fld_ib_blocks.other W4 (Or.inl nx17)
   obtain ⟨cn20, An20, -⟩ := id V_bl
   have nx21 : bl ≠ a1 := (Ne.symm (ne_arr E_a1 (ow hw 3 rfl) An20))
   have F22 := V_bl.other W4 nx21
   obtain ⟨cn23, An23, -⟩ := id V_a2
   have nx24 : a2 ≠ a1 := (Ne.symm (ne_arr E_a1 (ow hw 3 rfl) An23))
   have F25 := V_a2.other W4 nx24
   refine own_virt (W := 0) X14 hx hZ hown e14 (ow hw 47 rfl) (ow hw 48 rfl) (ow hw 50 rfl) (ow hw 49 rfl) (rmaddE l Z a0 hw [] ib a2 k2 y0 y1 y2 p4 bl kb h4 n0 Zs5 F16 F18 F19 F22 Ov_bl g_ib g_bl F25 ne_a2_bl hn0 hn3) (ow hw 51 rfl) (ow hw 13 rfl) F16 rfl (by rw [hml]; rfl) rfl (hb hby d4_103) (lenOf pd___III_V rfl) rfl (by decide) (fun T15 v15 Ll15 X15 hQ15 => ?_)
   obtain ⟨cn_15, kn_15, vsn_15, rfl, N15q, K15, P15_0, P15_1, P15_2, P15_3, P15_4, P15_5⟩ := hQ15
   have N15 := Fr.app N4 N15q
   have Zs26 : n0 ≤ T15.heap.size := Nat.le_trans Zs5 K15.1
   refine own_go (b := (T15.setTop (mkF m 107 #[rv a1, rv a2, iv p4, iv (1 : Int32)] [(.ref a1)]))) (fun _ k => XS.aloadN X15.here hx rfl (hb hby d4_106) rfl rfl k) ?_
   have F27 := F7.keep K15 (ninS (Ne.symm nx17) (ninS (Ne.symm nx21) nin0))
   refine own_getf X15 hx hZ hown (ow hw 24 rfl) Via.refl rfl F27 rfl rfl (hb hby d4_107) (fun T28 X28 e28 => ?_)
   refine own_go (b := (T28.setTop (mkF m 114 #[rv a1, rv a2, iv p4, iv (1 : Int32)] [(.ref a1), (.int (2 : Int32)), (.ref ks)]))) (fun _ k => XS.iloadN X28.here hx rfl (hb hby d4_110) rfl (XS.iconst X28.here hx rfl (hb hby d4_111) (XS.iadd X28.here hx rfl (hb hby d4_112) rfl (XS.aloadN X28.here hx rfl (hb hby d4_113) rfl rfl k)))) ?_
   have F29 := F13.keep K15 (ninS (Ne.symm nx17) (ninS (Ne.symm nx21) nin0))
   refine own_getf X28 hx hZ hown (ow hw 22 rfl) Via.refl e28 F29 rfl rfl (hb hby d4_114) (fun T30 X30 e30 => ?_)
   have F32 := F16.keep K15
   refine own_virt (W := 2) X30 hx hZ hown e30 (ow hw 63 rfl) (ow hw 64 rfl) (ow hw 66 rfl) (ow hw 65 rfl) (rm9 l Z a0 hw [] ib p4 T15.heap n0 Zs26 P15_0) (ow hw 67 rfl) (ow hw 13 rfl) F32 rfl (by rw [hml]; rfl) rfl (hb hby d4_117) (lenOf pd___I rfl) rfl (by decide) (fun T31 v31 Ll31 X31 hQ31 => ?_)
   obtain ⟨rfl, N31q, eh31⟩ := hQ31
   have N31 := Fr.app N15 N31q
   obtain ⟨cn34, An34, -⟩ := id V_ks
   have nx35 : ks ≠ ib := (Ne.symm (ne_arr E_ib (ow hw 12 rfl) An34))
   have F36 := F12.keep K15 (ninS nx35 (ninS ne_ks_bl nin0))
   obtain ⟨cl33, Ar33, ql33, Sz33, Nn33, Hl33, Gl33⟩ := id F36
   have hin33 : ¬ ((2 : Int32) < 0 ∨ cl33.slots.size ≤ ((2 : Int32)).toNatClampNeg) := inb_of Sz33 ⟨by decide, by decide⟩
   obtain ⟨T33, h33, X33, e33, W33, st33⟩ := stI X31 hx hZ eh31 Ar33 (j := (2 : Int32)) hin33 (g := (mkF m 120 #[rv a1, rv a2, iv p4, iv (1 : Int32)] [(.int p4), (.int (2 : Int32)), (.ref ks)])) rfl rfl (hb hby d4_120)
   have N33 := Fr.snoc X33 N31 g_ks
   have Zs37 : n0 ≤ h33.size := Nat.le_trans Zs26 (Keep.of_wr W33).1
   have V33 : Arv Z h33 ks kk .int (3 : Int32) [(.int x0), (.int x1), (.int p4)] (.int (0 : Int32)) := Arv.set Ar33 ql33 Sz33 Nn33 Hl33 Gl33 rfl W33 2 rfl (Nat.le_of_ble_eq_true rfl)
   refine own_go (b := (T33.setTop (mkF m 122 #[rv a1, rv a2, iv p4, iv (1 : Int32)] [(.int (1 : Int32))]))) (fun _ k => st33 _ (XS.iloadN X33.here hx rfl (hb hby d4_121) rfl k)) ?_
   have K38 := (Keep.refl h0 [a1, ib, ks, bl]).wr W4 (Or.inl (List.mem_of_getElem? (i := 0) rfl))
   have K39 := K38.trans K15 (allS (Or.inl (List.mem_of_getElem? (i := 1) rfl)) (allS (Or.inl (List.mem_of_getElem? (i := 3) rfl)) all0))
   have K40 := K39.wr W33 (Or.inl (List.mem_of_getElem? (i := 2) rfl))
   have F41 := F29.other W33 (Or.inl (Ne.symm nx11))
   have F42 := Fld_a1_labelStarts.other W4 (Or.inr (slot_ne (Or.inl (ow hw 32 rfl)) (Or.inl (ow hw 34 rfl)) (by decide) (t := (.array .int)) (t' := .int) (by decide) (by decide)))
   have F43 := F42.keep K15 (ninS (Ne.symm nx17) (ninS (Ne.symm nx21) nin0))
   have F44 := F43.other W33 (Or.inl (Ne.symm nx11))
   have F45 := F4.keep K15 (ninS (Ne.symm nx17) (ninS (Ne.symm nx21) nin0))
   have F46 := F45.other W33 (Or.inl (Ne.symm nx11))
   have F47 := F27.other W33 (Or.inl (Ne.symm nx11))
   have F48 := P15_0.other W33 (Or.inl (Ne.symm nx35))
   have F49 := P15_1.other W33 (Or.inl (Ne.symm nx35))
   have F50 := P15_3.other W33 (Ne.symm ne_ks_bl)
   have nx51 : cn_15 ≠ ks := (Ne.symm (own_ne V_ks.lt (Keep.of_wr W4).1 P15_2))
   have F52 := P15_4.other W33 nx51
   obtain ⟨fs, hr, hrun, hended, hW, hsame⟩ := X33.leave (v := some (.int (1 : Int32))) (fun h => by rw [Bd.returns] at h; cases h)
   exact ⟨_, _, retOut X33 hx Bd.returns rfl (Or.inl ⟨rfl, Or.inl rfl, _, rfl⟩) (hb hby d4_122) hr, hrun, hended, _, _, rfl, (show Qrmap3_1E1 Z a1 a2 k2 y0 y1 y2 p4 ib ks kk bl kb x0 x1 x2 h0 n0 _ T33.heap _ from (by rw [e33]; exact ⟨cn_15, kn_15, vsn_15, rfl, N33, K40, F41, F44, F46, F47, V33, F48, F49, (Nat.le_trans (Keep.of_wr W4).1 P15_2), F50, F52, P15_5⟩)), ⟨_, rfl⟩, hW, hsame.mono (by decide) (by decide)⟩
 · intro J2
   refine own_go (b := (T1.setTop (mkF m 26 #[rv a1, rv a2, iv p4, iv (0 : Int32)] [(.int (0 : Int32)), (.ref a2)]))) (fun _ k => XS.iloadN X1.here hx rfl (hb hby d4_19) rfl (XS.iloadN X1.here hx rfl (hb hby d4_20) rfl (XS.icmpNo X1.here hx rfl (hb hby d4_21) rfl (tlt hn0).2.1 (XS.aloadN X1.here hx rfl (hb hby d4_24) rfl rfl (XS.iloadN X1.here hx rfl (hb hby d4_25) rfl k))))) ?_
   obtain ⟨cl53, Ar53, ql53, Sz53, Nn53, Hl53, Gl53⟩ := id V_a2
   have hin53 : ¬ ((0 : Int32) < 0 ∨ cl53.slots.size ≤ ((0 : Int32)).toNatClampNeg) := inb_of Sz53 ⟨by decide, by decide⟩
   refine own_go (b := (T1.setTop (mkF m 21 #[rv a1, rv a2, iv p4, iv (1 : Int32)] [(.int p4), (.int (1 : Int32))]))) (fun _ k => X1.iaload hx (j := (0 : Int32)) (v := (.int y0)) (by rw [e1]; exact Ar53.1) (State.isArrayOf_alike hZ.alike Ar53.2.1) Ar53.2.2 hin53 (Hl53.at hin53 rfl) (g := (mkF m 26 #[rv a1, rv a2, iv p4, iv (0 : Int32)] [(.int (0 : Int32)), (.ref a2)])) rfl rfl (hb hby d4_26) _ (XS.ifYes X1.here hx rfl (pc0 := 27) (pc' := 46) rfl (hb hby d4_27) rfl ((if0 _ _).trans (flt hy0).2.1) (by decide) (by decide) (XS.iinc X1.here hx rfl (hb hby d4_46) rfl (l' := #[rv a1, rv a2, iv p4, iv (1 : Int32)]) rfl (XS.goto X1.here hx rfl (pc0 := 49) (pc' := 19) rfl (hb hby d4_49) (by decide) (by decide) (XS.iloadN X1.here hx rfl (hb hby d4_19) rfl (XS.iloadN X1.here hx rfl (hb hby d4_20) rfl k)))))) ?_
   by_cases hc21_54 : (1 : Int32) < p4
   · skip
     refine own_go (b := (T1.setTop (mkF m 26 #[rv a1, rv a2, iv p4, iv (1 : Int32)] [(.int (1 : Int32)), (.ref a2)]))) (fun _ k => XS.icmpNo X1.here hx rfl (hb hby d4_21) rfl (tlt hc21_54).2.1 (XS.aloadN X1.here hx rfl (hb hby d4_24) rfl rfl (XS.iloadN X1.here hx rfl (hb hby d4_25) rfl k))) ?_
     obtain ⟨cl55, Ar55, ql55, Sz55, Nn55, Hl55, Gl55⟩ := id V_a2
     have hin55 : ¬ ((1 : Int32) < 0 ∨ cl55.slots.size ≤ ((1 : Int32)).toNatClampNeg) := inb_of Sz55 ⟨by decide, by decide⟩
     refine own_go (b := (T1.setTop (mkF m 21 #[rv a1, rv a2, iv p4, iv (2 : Int32)] [(.int p4), (.int (2 : Int32))]))) (fun _ k => X1.iaload hx (j := (1 : Int32)) (v := (.int y1)) (by rw [e1]; exact Ar55.1) (State.isArrayOf_alike hZ.alike Ar55.2.1) Ar55.2.2 hin55 (Hl55.at hin55 rfl) (g := (mkF m 26 #[rv a1, rv a2, iv p4, iv (1 : Int32)] [(.int (1 : Int32)), (.ref a2)])) rfl rfl (hb hby d4_26) _ (XS.ifYes X1.here hx rfl (pc0 := 27) (pc' := 46) rfl (hb hby d4_27) rfl ((if0 _ _).trans (flt hy1).2.1) (by decide) (by decide) (XS.iinc X1.here hx rfl (hb hby d4_46) rfl (l' := #[rv a1, rv a2, iv p4, iv (2 : Int32)]) rfl (XS.goto X1.here hx rfl (pc0 := 49) (pc' := 19) rfl (hb hby d4_49) (by decide) (by decide) (XS.iloadN X1.here hx rfl (hb hby d4_19) rfl (XS.iloadN X1.here hx rfl (hb hby d4_20) rfl k)))))) ?_
     by_cases hc21_56 : (2 : Int32) < p4
     · skip
       refine own_go (b := (T1.setTop (mkF m 26 #[rv a1, rv a2, iv p4, iv (2 : Int32)] [(.int (2 : Int32)), (.ref a2)]))) (fun _ k => XS.icmpNo X1.here hx rfl (hb hby d4_21) rfl (tlt hc21_56).2.1 (XS.aloadN X1.here hx rfl (hb hby d4_24) rfl rfl (XS.iloadN X1.here hx rfl (hb hby d4_25) rfl k))) ?_
       obtain ⟨cl57, Ar57, ql57, Sz57, Nn57, Hl57, Gl57⟩ := id V_a2
       have hin57 : ¬ ((2 : Int32) < 0 ∨ cl57.slots.size ≤ ((2 : Int32)).toNatClampNeg) := inb_of Sz57 ⟨by decide, by decide⟩
       refine own_go (b := (T1.setTop (mkF m 52 #[rv a1, rv a2, iv p4, iv (3 : Int32)] []))) (fun _ k => X1.iaload hx (j := (2 : Int32)) (v := (.int y2)) (by rw [e1]; exact Ar57.1) (State.isArrayOf_alike hZ.alike Ar57.2.1) Ar57.2.2 hin57 (Hl57.at hin57 rfl) (g := (mkF m 26 #[rv a1, rv a2, iv p4, iv (2 : Int32)] [(.int (2 : Int32)), (.ref a2)])) rfl rfl (hb hby d4_26) _ (XS.ifYes X1.here hx rfl (pc0 := 27) (pc' := 46) rfl (hb hby d4_27) rfl ((if0 _ _).trans (flt hy2).2.1) (by decide) (by decide) (XS.iinc X1.here hx rfl (hb hby d4_46) rfl (l' := #[rv a1, rv a2, iv p4, iv (3 : Int32)]) rfl (XS.goto X1.here hx rfl (pc0 := 49) (pc' := 19) rfl (hb hby d4_49) (by decide) (by decide) (XS.iloadN X1.here hx rfl (hb hby d4_19) rfl (XS.iloadN X1.here hx rfl (hb hby d4_20) rfl (XS.icmpYes X1.here hx rfl (pc0 := 21) (pc' := 52) rfl (hb hby d4_21) rfl (flt hn3).2.1 (by decide) (by decide) k))))))) ?_
       exact J2 (3 : Int32) trivial
     · skip
       refine own_go (b := (T1.setTop (mkF m 52 #[rv a1, rv a2, iv p4, iv (2 : Int32)] []))) (fun _ k => XS.icmpYes X1.here hx rfl (pc0 := 21) (pc' := 52) rfl (hb hby d4_21) rfl (flt hc21_56).2.1 (by decide) (by decide) k) ?_
       exact J2 (2 : Int32) trivial
   · skip
     refine own_go (b := (T1.setTop (mkF m 52 #[rv a1, rv a2, iv p4, iv (1 : Int32)] []))) (fun _ k => XS.icmpYes X1.here hx rfl (pc0 := 21) (pc' := 52) rfl (hb hby d4_21) rfl (flt hc21_54).2.1 (by decide) (by decide) k) ?_
     exact J2 (1 : Int32) trivial
theorem ef_rmap3_1F1 (m : MethodId) (x0 : Addr) (x1 : Addr) (x2 : Int32) : entryFrame m #[(.ref x0), (.ref x1), (.int x2)] 4 = mkF m 0 #[rv x0, rv x1, iv x2, .unset] [] := by first | (simp [entryFrame, mkF, argsToLocals, Value.category]; done) | rfl
def Qrmap3_1F1 (Z : State) (a1 : Addr) (a2 : Addr) (k2 : ClassId) (y0 : Int32) (y1 : Int32) (y2 : Int32) (p4 : Int32) (ib : Addr) (ks : Addr) (kk : ClassId) (bl : Addr) (kb : ClassId) (x0 : Int32) (x1 : Int32) (x2 : Int32) (x_s : Int32) (c0 : Addr) (kc : ClassId) (vsc : List Value) (h0 : Heap) (n0 : Nat) (v : Option Value) (h : Heap) (L : List Loc) : Prop := ∃ (vsn : List Value), v = some (.int (1 : Int32)) ∧ Fr n0 L ∧ Keep h0 h [a1, ib, ks, c0] ∧ (Fld Z h a1 cs0 "keys" "Lcom/example/arcwright/arcwright/parser/IntBlocks;" (.ref ib)) ∧ (Fld Z h a1 cs0 "labelStarts" "[I" .null) ∧ (Fld Z h a1 cs0 "size" "I" (.int (2 : Int32))) ∧ (Fld Z h a1 cs0 "keyStarts" "[I" (.ref ks)) ∧ (Arv Z h ks kk .int (3 : Int32) [(.int x0), (.int x1), (.int (x_s + p4))] (.int (0 : Int32))) ∧ (Fld Z h ib cs1 "size" "I" (.int (x_s + p4))) ∧ (Fld Z h ib cs1 "blocks" "[[I" (.ref bl)) ∧ (Arv Z h c0 kc .int (65536 : Int32) vsn (.int (0 : Int32))) ∧ (16 ≤ vsn.length)
set_option maxRecDepth 65536 in
set_option maxHeartbeats 40000000 in
theorem rmap3_1F1 (l : Launch) (Z : State) (a0 : Array Value) (hw : ∀ d ∈ tables_1, d.before a0 Z = true) (ws : List Jvm.Cond) (a1 : Addr) (a2 : Addr) (k2 : ClassId) (y0 : Int32) (y1 : Int32) (y2 : Int32) (p4 : Int32) (ib : Addr) (ks : Addr) (kk : ClassId) (bl : Addr) (kb : ClassId) (x0 : Int32) (x1 : Int32) (x2 : Int32) (x_s : Int32) (c0 : Addr) (kc : ClassId) (vsc : List Value) (h0 : Heap) (n0 : Nat) (Z0 : n0 ≤ h0.size) (E_a1 : Exa Z h0 a1 cs0) (Fld_a1_keys : Fld Z h0 a1 cs0 "keys" "Lcom/example/arcwright/arcwright/parser/IntBlocks;" (.ref ib)) (Fld_a1_keyStarts : Fld Z h0 a1 cs0 "keyStarts" "[I" (.ref ks)) (Fld_a1_labelStarts : Fld Z h0 a1 cs0 "labelStarts" "[I" .null) (Fld_a1_size : Fld Z h0 a1 cs0 "size" "I" (.int (1 : Int32))) (E_ib : Exa Z h0 ib cs1) (Fld_ib_size : Fld Z h0 ib cs1 "size" "I" (.int x_s)) (Fld_ib_blocks : Fld Z h0 ib cs1 "blocks" "[[I" (.ref bl)) (V_ks : Arv Z h0 ks kk .int (3 : Int32) [(.int x0), (.int x1), (.int x2)] (.int (0 : Int32))) (V_a2 : Arv Z h0 a2 k2 .int (3 : Int32) [(.int y0), (.int y1), (.int y2)] (.int (0 : Int32))) (g_a1 : n0 ≤ a1) (g_ib : n0 ≤ ib) (g_ks : n0 ≤ ks) (ne_ks_a2 : ks ≠ a2) (g_bl : n0 ≤ bl) (ne_ks_bl : ks ≠ bl) (ne_a2_bl : a2 ≠ bl) (hy0 : ¬ (y0 < (0 : Int32))) (hy1 : ¬ (y1 < (0 : Int32))) (hy2 : ¬ (y2 < (0 : Int32))) (hn0 : (0 : Int32) < p4) (hn3 : ¬ ((3 : Int32) < p4)) (V_bl : Arv Z h0 bl kb (.array .int) (16 : Int32) ((.ref c0) :: own_n15) .null) (V_c0 : Arv Z h0 c0 kc .int (65536 : Int32) vsc (.int (0 : Int32))) (hlen : 16 ≤ vsc.length) (g_c0 : n0 ≤ c0) (ne_a2_c0 : a2 ≠ c0) (ne_bl_c0 : bl ≠ c0) (ne_ks_c0 : ks ≠ c0) (hs0 : (0 : Int32) < x_s) (hs6 : ¬ ((6 : Int32) < x_s)) :
    MetFree l mn0 (head1 (Jvm.Cond.code mn0 prog_25_method_3_code 4 (some .int) :: ws) ({ frames := 2, cells := 0, slots := 0, locals := 58 } : Room)) (fun a U => a = #[(.ref a1), (.ref a2), (.int p4)] ∧ Z.Warmed39 U.vm ∧ U.heap = h0) (fun _ _ _ _ _ => True) (fun _ U o U' => ∃ v L, o = .returned v ∧ Qrmap3_1F1 Z a1 a2 k2 y0 y1 y2 p4 ib ks kk bl kb x0 x1 x2 x_s c0 kc vsc h0 n0 v U'.heap L ∧ FrameEnd U o U' L ({ frames := 2, cells := 0, slots := 0, locals := 58 } : Room).cells ({ frames := 2, cells := 0, slots := 0, locals := 58 } : Room).slots) := by
 refine MetFree.of_bodySF (plainFor_of_name pn_4) hisR ?_
 intro p e s m args below meth c s₁ Bd hml0 hP hK
 obtain ⟨rfl, hZ, hh⟩ := hP
 have hx := Bd.exec
 have hby := Bd.bytes
 have hml : c.maxLocals = 4 := hml0
 have hown : s.vm.findClass cs0 = some m.cls := findClass_of_methodNamed Bd.named
 have hnm := (name_of_methodNamed Bd.named Bd.method).1
 have X0 : Stand p l e ({ frames := 2, cells := 0, slots := 0, locals := 58 } : Room) s m #[(.ref a1), (.ref a2), (.int p4)] below meth c s₁ [] 0 0 := Stand.of_body Bd
 have e0 : s₁.heap = h0 := by rw [← hh, Bd.state]; rfl
 have N0 := Fr.nil n0
 refine own_go (b := (s₁.setTop (mkF m 0 #[rv a1, rv a2, iv p4, .unset] []))) (fun _ k => castTop (ef_rmap3_1F1 m a1 a2 p4) k) ?_
 refine own_go (b := (s₁.setTop (mkF m 1 #[rv a1, rv a2, iv p4, .unset] [(.ref a1)]))) (fun _ k => XS.aloadN X0.here hx rfl (hb hby d4_0) rfl rfl k) ?_
 refine own_getf X0 hx hZ hown (ow hw 31 rfl) Via.refl e0 Fld_a1_labelStarts rfl rfl (hb hby d4_1) (fun T1 X1 e1 => ?_)
 refine own_go (b := (T1.setTop (mkF m 19 #[rv a1, rv a2, iv p4, iv (0 : Int32)] []))) (fun _ k => XS.ifnullYes X1.here hx rfl (pc0 := 4) (pc' := 17) rfl (hb hby d4_4) rfl (by decide) (by decide) (XS.iconst X1.here hx rfl (hb hby d4_17) (XS.istoreN X1.here hx rfl (hb hby d4_18) rfl (l' := #[rv a1, rv a2, iv p4, iv (0 : Int32)]) rfl k))) ?_
 refine own_join (A := Int32) (C := fun ii => True) (f := fun ii => (T1.setTop (mkF m 52 #[rv a1, rv a2, iv p4, iv ii] []))) ?_ ?_
 · intro ii hj2
   refine own_go (b := (T1.setTop (mkF m 54 #[rv a1, rv a2, iv p4, iv ii] [(.ref a1), (.ref a1)]))) (fun _ k => XS.aloadN X1.here hx rfl (hb hby d4_52) rfl rfl (XS.dup X1.here hx rfl (hb hby d4_53) rfl rfl k)) ?_
   refine own_getf X1 hx hZ hown (ow hw 33 rfl) Via.refl e1 Fld_a1_size rfl rfl (hb hby d4_54) (fun T3 X3 e3 => ?_)
   refine own_go (b := (T3.setTop (mkF m 60 #[rv a1, rv a2, iv p4, iv ii] [(.int (2 : Int32)), (.ref a1), (.int (1 : Int32))]))) (fun _ k => XS.dupX1 X3.here hx rfl (hb hby d4_57) rfl rfl rfl (XS.iconst X3.here hx rfl (hb hby d4_58) (XS.iadd X3.here hx rfl (hb hby d4_59) rfl k))) ?_
   obtain ⟨T4, h4, X4, e4, W4, st4⟩ := putF X3 hx hZ hown (host := "") (Or.inl (ow hw 33 rfl)) Via.refl e3 Fld_a1_size E_a1 (Or.inl (ow hw 34 rfl)) (ow hw 3 rfl) (ty := .int) (by decide) rfl rfl (g := (mkF m 60 #[rv a1, rv a2, iv p4, iv ii] [(.int (2 : Int32)), (.ref a1), (.int (1 : Int32))])) rfl rfl (hb hby d4_60)
   have N4 := Fr.snoc X4 N0 g_a1
   have Zs5 : n0 ≤ h4.size := Nat.le_trans Z0 (Keep.of_wr W4).1
   have F4 : Fld Z h4 a1 cs0 "size" "I" (.int (2 : Int32)) := Fld_a1_size.same W4
   refine own_go (b := (T4.setTop (mkF m 65 #[rv a1, rv a2, iv p4, iv (1 : Int32)] [(.ref a1)]))) (fun _ k => st4 _ (XS.istoreN X4.here hx rfl (hb hby d4_63) rfl (l' := #[rv a1, rv a2, iv p4, iv (1 : Int32)]) rfl (XS.aloadN X4.here hx rfl (hb hby d4_64) rfl rfl k))) ?_
   refine own_getf X4 hx hZ hown (ow hw 33 rfl) Via.refl e4 F4 rfl rfl (hb hby d4_65) (fun T6 X6 e6 => ?_)
   refine own_go (b := (T6.setTop (mkF m 71 #[rv a1, rv a2, iv p4, iv (1 : Int32)] [(.ref a1), (.int (3 : Int32))]))) (fun _ k => XS.iconst X6.here hx rfl (hb hby d4_68) (XS.iadd X6.here hx rfl (hb hby d4_69) rfl (XS.aloadN X6.here hx rfl (hb hby d4_70) rfl rfl k))) ?_
   have F7 := Fld_a1_keyStarts.other W4 (Or.inr (slot_ne (Or.inl (ow hw 25 rfl)) (Or.inl (ow hw 34 rfl)) (by decide) (t := (.array .int)) (t' := .int) (by decide) (by decide)))
   refine own_getf X6 hx hZ hown (ow hw 24 rfl) Via.refl e6 F7 rfl rfl (hb hby d4_71) (fun T8 X8 e8 => ?_)
   obtain ⟨cn10, An10, -⟩ := id V_ks
   have nx11 : ks ≠ a1 := (Ne.symm (ne_arr E_a1 (ow hw 3 rfl) An10))
   have F12 := V_ks.other W4 nx11
   obtain ⟨cl9, Ar9, -, Sz9, Nn9, -, -⟩ := id F12
   refine own_go (b := (T8.setTop (mkF m 97 #[rv a1, rv a2, iv p4, iv (1 : Int32)] [(.ref a1)]))) (fun _ k => X8.arraylength hx (by rw [e8]; exact Ar9.1) (State.isArrayOf_alike hZ.alike Ar9.2.1) (g := (mkF m 74 #[rv a1, rv a2, iv p4, iv (1 : Int32)] [(.ref ks), (.int (3 : Int32))])) rfl rfl (hb hby d4_74) _ (by rw [len_of Sz9 Nn9]; exact (XS.icmpYes X8.here hx rfl (pc0 := 75) (pc' := 96) rfl (hb hby d4_75) rfl (flt (by decide : ¬ ((3 : Int32) < (3 : Int32)))).2.2.2 (by decide) (by decide) (XS.aloadN X8.here hx rfl (hb hby d4_96) rfl rfl k)))) ?_
   have F13 := Fld_a1_keys.other W4 (Or.inr (slot_ne (Or.inr (ow hw 23 rfl)) (Or.inl (ow hw 34 rfl)) (by decide) (t := (.object cs1)) (t' := .int) (by decide) (by decide)))
   refine own_getf X8 hx hZ hown (ow hw 22 rfl) Via.refl e8 F13 rfl rfl (hb hby d4_97) (fun T14 X14 e14 => ?_)
   refine own_go (b := (T14.setTop (mkF m 103 #[rv a1, rv a2, iv p4, iv (1 : Int32)] [(.int p4), (.int (0 : Int32)), (.ref a2), (.ref ib)]))) (fun _ k => XS.aloadN X14.here hx rfl (hb hby d4_100) rfl rfl (XS.iconst X14.here hx rfl (hb hby d4_101) (XS.iloadN X14.here hx rfl (hb hby d4_102) rfl k))) ?_
   have F16 := E_ib.wr W4
   have nx17 : ib ≠ a1 := (ne_exa E_ib E_a1 (by decide))
   have F18 := Fld_ib_size.other W4 (Or.inl nx17)
   have F19 := Fld_ib_blocks.other W4 (Or.inl nx17)
   obtain ⟨cn20, An20, -⟩ := id V_bl
   have nx21 : bl ≠ a1 := (Ne.symm (ne_arr E_a1 (ow hw 3 rfl) An20))
   have F22 := V_bl.other W4 nx21
   obtain ⟨cn23, An23, -⟩ := id V_c0
   have nx24 : c0 ≠ a1 := (Ne.symm (ne_arr E_a1 (ow hw 3 rfl) An23))
   have F25 := V_c0.other W4 nx24
   obtain ⟨cn26, An26, -⟩ := id V_a2
   have nx27 : a2 ≠ a1 := (Ne.symm (ne_arr E_a1 (ow hw 3 rfl) An26))
   have F28 := V_a2.other W4 nx27
   refine own_virt (W := 0) X14 hx hZ hown e14 (ow hw 47 rfl) (ow hw 48 rfl) (ow hw 50 rfl) (ow hw 49 rfl) (rmaddF l Z a0 hw [] ib a2 k2 y0 y1 y2 p4 bl kb x_s c0 kc vsc h4 n0 Zs5 F16 F18 F19 F22 g_ib g_c0 F25 F28 ne_a2_c0 ne_bl_c0 hlen hn0 hn3 hs0 hs6) (ow hw 51 rfl) (ow hw 13 rfl) F16 rfl (by rw [hml]; rfl) rfl (hb hby d4_103) (lenOf pd___III_V rfl) rfl (by decide) (fun T15 v15 Ll15 X15 hQ15 => ?_)
   obtain ⟨vsn_15, rfl, N15q, K15, P15_0, P15_1, P15_2, P15_3⟩ := hQ15
   have N15 := Fr.app N4 N15q
   have Zs29 : n0 ≤ T15.heap.size := Nat.le_trans Zs5 K15.1
   refine own_go (b := (T15.setTop (mkF m 107 #[rv a1, rv a2, iv p4, iv (1 : Int32)] [(.ref a1)]))) (fun _ k => XS.aloadN X15.here hx rfl (hb hby d4_106) rfl rfl k) ?_
   have F30 := F7.keep K15 (ninS (Ne.symm nx17) (ninS (Ne.symm nx24) nin0))
   refine own_getf X15 hx hZ hown (ow hw 24 rfl) Via.refl rfl F30 rfl rfl (hb hby d4_107) (fun T31 X31 e31 => ?_)
   refine own_go (b := (T31.setTop (mkF m 114 #[rv a1, rv a2, iv p4, iv (1 : Int32)] [(.ref a1), (.int (2 : Int32)), (.ref ks)]))) (fun _ k => XS.iloadN X31.here hx rfl (hb hby d4_110) rfl (XS.iconst X31.here hx rfl (hb hby d4_111) (XS.iadd X31.here hx rfl (hb hby d4_112) rfl (XS.aloadN X31.here hx rfl (hb hby d4_113) rfl rfl k)))) ?_
   have F32 := F13.keep K15 (ninS (Ne.symm nx17) (ninS (Ne.symm nx24) nin0))
   refine own_getf X31 hx hZ hown (ow hw 22 rfl) Via.refl e31 F32 rfl rfl (hb hby d4_114) (fun T33 X33 e33 => ?_)
   have F35 := F16.keep K15
   refine own_virt (W := 2) X33 hx hZ hown e33 (ow hw 63 rfl) (ow hw 64 rfl) (ow hw 66 rfl) (ow hw 65 rfl) (rm9 l Z a0 hw [] ib (x_s + p4) T15.heap n0 Zs29 P15_0) (ow hw 67 rfl) (ow hw 13 rfl) F35 rfl (by rw [hml]; rfl) rfl (hb hby d4_117) (lenOf pd___I rfl) rfl (by decide) (fun T34 v34 Ll34 X34 hQ34 => ?_)
   obtain ⟨rfl, N34q, eh34⟩ := hQ34
   have N34 := Fr.app N15 N34q
   obtain ⟨cn37, An37, -⟩ := id V_ks
   have nx38 : ks ≠ ib := (Ne.symm (ne_arr E_ib (ow hw 12 rfl) An37))
   have F39 := F12.keep K15 (ninS nx38 (ninS ne_ks_c0 nin0))
   obtain ⟨cl36, Ar36, ql36, Sz36, Nn36, Hl36, Gl36⟩ := id F39
   have hin36 : ¬ ((2 : Int32) < 0 ∨ cl36.slots.size ≤ ((2 : Int32)).toNatClampNeg) := inb_of Sz36 ⟨by decide, by decide⟩
   obtain ⟨T36, h36, X36, e36, W36, st36⟩ := stI X34 hx hZ eh34 Ar36 (j := (2 : Int32)) hin36 (g := (mkF m 120 #[rv a1, rv a2, iv p4, iv (1 : Int32)] [(.int (x_s + p4)), (.int (2 : Int32)), (.ref ks)])) rfl rfl (hb hby d4_120)
   have N36 := Fr.snoc X36 N34 g_ks
   have Zs40 : n0 ≤ h36.size := Nat.le_trans Zs29 (Keep.of_wr W36).1
   have V36 : Arv Z h36 ks kk .int (3 : Int32) [(.int x0), (.int x1), (.int (x_s + p4))] (.int (0 : Int32)) := Arv.set Ar36 ql36 Sz36 Nn36 Hl36 Gl36 rfl W36 2 rfl (Nat.le_of_ble_eq_true rfl)
   refine own_go (b := (T36.setTop (mkF m 122 #[rv a1, rv a2, iv p4, iv (1 : Int32)] [(.int (1 : Int32))]))) (fun _ k => st36 _ (XS.iloadN X36.here hx rfl (hb hby d4_121) rfl k)) ?_
   have K41 := (Keep.refl h0 [a1, ib, ks, c0]).wr W4 (Or.inl (List.mem_of_getElem? (i := 0) rfl))
   have K42 := K41.trans K15 (allS (Or.inl (List.mem_of_getElem? (i := 1) rfl)) (allS (Or.inl (List.mem_of_getElem? (i := 3) rfl)) all0))
   have K43 := K42.wr W36 (Or.inl (List.mem_of_getElem? (i := 2) rfl))
   have F44 := F32.other W36 (Or.inl (Ne.symm nx11))
   have F45 := Fld_a1_labelStarts.other W4 (Or.inr (slot_ne (Or.inl (ow hw 32 rfl)) (Or.inl (ow hw 34 rfl)) (by decide) (t := (.array .int)) (t' := .int) (by decide) (by decide)))
   have F46 := F45.keep K15 (ninS (Ne.symm nx17) (ninS (Ne.symm nx24) nin0))
   have F47 := F46.other W36 (Or.inl (Ne.symm nx11))
   have F48 := F4.keep K15 (ninS (Ne.symm nx17) (ninS (Ne.symm nx24) nin0))
   have F49 := F48.other W36 (Or.inl (Ne.symm nx11))
   have F50 := F30.other W36 (Or.inl (Ne.symm nx11))
   have F51 := P15_0.other W36 (Or.inl (Ne.symm nx38))
   have F52 := P15_1.other W36 (Or.inl (Ne.symm nx38))
   have F53 := P15_2.other W36 (Ne.symm ne_ks_c0)
   obtain ⟨fs, hr, hrun, hended, hW, hsame⟩ := X36.leave (v := some (.int (1 : Int32))) (fun h => by rw [Bd.returns] at h; cases h)
   exact ⟨_, _, retOut X36 hx Bd.returns rfl (Or.inl ⟨rfl, Or.inl rfl, _, rfl⟩) (hb hby d4_122) hr, hrun, hended, _, _, rfl, (show Qrmap3_1F1 Z a1 a2 k2 y0 y1 y2 p4 ib ks kk bl kb x0 x1 x2 x_s c0 kc vsc h0 n0 _ T36.heap _ from (by rw [e36]; exact ⟨vsn_15, rfl, N36, K43, F44, F47, F49, F50, V36, F51, F52, F53, P15_3⟩)), ⟨_, rfl⟩, hW, hsame.mono (by decide) (by decide)⟩
 · intro J2
   refine own_go (b := (T1.setTop (mkF m 26 #[rv a1, rv a2, iv p4, iv (0 : Int32)] [(.int (0 : Int32)), (.ref a2)]))) (fun _ k => XS.iloadN X1.here hx rfl (hb hby d4_19) rfl (XS.iloadN X1.here hx rfl (hb hby d4_20) rfl (XS.icmpNo X1.here hx rfl (hb hby d4_21) rfl (tlt hn0).2.1 (XS.aloadN X1.here hx rfl (hb hby d4_24) rfl rfl (XS.iloadN X1.here hx rfl (hb hby d4_25) rfl k))))) ?_
   obtain ⟨cl54, Ar54, ql54, Sz54, Nn54, Hl54, Gl54⟩ := id V_a2
   have hin54 : ¬ ((0 : Int32) < 0 ∨ cl54.slots.size ≤ ((0 : Int32)).toNatClampNeg) := inb_of Sz54 ⟨by decide, by decide⟩
   refine own_go (b := (T1.setTop (mkF m 21 #[rv a1, rv a2, iv p4, iv (1 : Int32)] [(.int p4), (.int (1 : Int32))]))) (fun _ k => X1.iaload hx (j := (0 : Int32)) (v := (.int y0)) (by rw [e1]; exact Ar54.1) (State.isArrayOf_alike hZ.alike Ar54.2.1) Ar54.2.2 hin54 (Hl54.at hin54 rfl) (g := (mkF m 26 #[rv a1, rv a2, iv p4, iv (0 : Int32)] [(.int (0 : Int32)), (.ref a2)])) rfl rfl (hb hby d4_26) _ (XS.ifYes X1.here hx rfl (pc0 := 27) (pc' := 46) rfl (hb hby d4_27) rfl ((if0 _ _).trans (flt hy0).2.1) (by decide) (by decide) (XS.iinc X1.here hx rfl (hb hby d4_46) rfl (l' := #[rv a1, rv a2, iv p4, iv (1 : Int32)]) rfl (XS.goto X1.here hx rfl (pc0 := 49) (pc' := 19) rfl (hb hby d4_49) (by decide) (by decide) (XS.iloadN X1.here hx rfl (hb hby d4_19) rfl (XS.iloadN X1.here hx rfl (hb hby d4_20) rfl k)))))) ?_
   by_cases hc21_55 : (1 : Int32) < p4
   · skip
     refine own_go (b := (T1.setTop (mkF m 26 #[rv a1, rv a2, iv p4, iv (1 : Int32)] [(.int (1 : Int32)), (.ref a2)]))) (fun _ k => XS.icmpNo X1.here hx rfl (hb hby d4_21) rfl (tlt hc21_55).2.1 (XS.aloadN X1.here hx rfl (hb hby d4_24) rfl rfl (XS.iloadN X1.here hx rfl (hb hby d4_25) rfl k))) ?_
     obtain ⟨cl56, Ar56, ql56, Sz56, Nn56, Hl56, Gl56⟩ := id V_a2
     have hin56 : ¬ ((1 : Int32) < 0 ∨ cl56.slots.size ≤ ((1 : Int32)).toNatClampNeg) := inb_of Sz56 ⟨by decide, by decide⟩
     refine own_go (b := (T1.setTop (mkF m 21 #[rv a1, rv a2, iv p4, iv (2 : Int32)] [(.int p4), (.int (2 : Int32))]))) (fun _ k => X1.iaload hx (j := (1 : Int32)) (v := (.int y1)) (by rw [e1]; exact Ar56.1) (State.isArrayOf_alike hZ.alike Ar56.2.1) Ar56.2.2 hin56 (Hl56.at hin56 rfl) (g := (mkF m 26 #[rv a1, rv a2, iv p4, iv (1 : Int32)] [(.int (1 : Int32)), (.ref a2)])) rfl rfl (hb hby d4_26) _ (XS.ifYes X1.here hx rfl (pc0 := 27) (pc' := 46) rfl (hb hby d4_27) rfl ((if0 _ _).trans (flt hy1).2.1) (by decide) (by decide) (XS.iinc X1.here hx rfl (hb hby d4_46) rfl (l' := #[rv a1, rv a2, iv p4, iv (2 : Int32)]) rfl (XS.goto X1.here hx rfl (pc0 := 49) (pc' := 19) rfl (hb hby d4_49) (by decide) (by decide) (XS.iloadN X1.here hx rfl (hb hby d4_19) rfl (XS.iloadN X1.here hx rfl (hb hby d4_20) rfl k)))))) ?_
     by_cases hc21_57 : (2 : Int32) < p4
     · skip
       refine own_go (b := (T1.setTop (mkF m 26 #[rv a1, rv a2, iv p4, iv (2 : Int32)] [(.int (2 : Int32)), (.ref a2)]))) (fun _ k => XS.icmpNo X1.here hx rfl (hb hby d4_21) rfl (tlt hc21_57).2.1 (XS.aloadN X1.here hx rfl (hb hby d4_24) rfl rfl (XS.iloadN X1.here hx rfl (hb hby d4_25) rfl k))) ?_
       obtain ⟨cl58, Ar58, ql58, Sz58, Nn58, Hl58, Gl58⟩ := id V_a2
       have hin58 : ¬ ((2 : Int32) < 0 ∨ cl58.slots.size ≤ ((2 : Int32)).toNatClampNeg) := inb_of Sz58 ⟨by decide, by decide⟩
       refine own_go (b := (T1.setTop (mkF m 52 #[rv a1, rv a2, iv p4, iv (3 : Int32)] []))) (fun _ k => X1.iaload hx (j := (2 : Int32)) (v := (.int y2)) (by rw [e1]; exact Ar58.1) (State.isArrayOf_alike hZ.alike Ar58.2.1) Ar58.2.2 hin58 (Hl58.at hin58 rfl) (g := (mkF m 26 #[rv a1, rv a2, iv p4, iv (2 : Int32)] [(.int (2 : Int32)), (.ref a2)])) rfl rfl (hb hby d4_26) _ (XS.ifYes X1.here hx rfl (pc0 := 27) (pc' := 46) rfl (hb hby d4_27) rfl ((if0 _ _).trans (flt hy2).2.1) (by decide) (by decide) (XS.iinc X1.here hx rfl (hb hby d4_46) rfl (l' := #[rv a1, rv a2, iv p4, iv (3 : Int32)]) rfl (XS.goto X1.here hx rfl (pc0 := 49) (pc' := 19) rfl (hb hby d4_49) (by decide) (by decide) (XS.iloadN X1.here hx rfl (hb hby d4_19) rfl (XS.iloadN X1.here hx rfl (hb hby d4_20) rfl (XS.icmpYes X1.here hx rfl (pc0 := 21) (pc' := 52) rfl (hb hby d4_21) rfl (flt hn3).2.1 (by decide) (by decide) k))))))) ?_
       exact J2 (3 : Int32) trivial
     · skip
       refine own_go (b := (T1.setTop (mkF m 52 #[rv a1, rv a2, iv p4, iv (2 : Int32)] []))) (fun _ k => XS.icmpYes X1.here hx rfl (pc0 := 21) (pc' := 52) rfl (hb hby d4_21) rfl (flt hc21_57).2.1 (by decide) (by decide) k) ?_
       exact J2 (2 : Int32) trivial
   · skip
     refine own_go (b := (T1.setTop (mkF m 52 #[rv a1, rv a2, iv p4, iv (1 : Int32)] []))) (fun _ k => XS.icmpYes X1.here hx rfl (pc0 := 21) (pc' := 52) rfl (hb hby d4_21) rfl (flt hc21_55).2.1 (by decide) (by decide) k) ?_
     exact J2 (1 : Int32) trivial
theorem ef_rmap4_1N0 (m : MethodId) (x0 : Addr) (x1 : Addr) (x2 : Int32) : entryFrame m #[(.ref x0), (.ref x1), (.int x2)] 4 = mkF m 0 #[rv x0, rv x1, iv x2, .unset] [] := by first | (simp [entryFrame, mkF, argsToLocals, Value.category]; done) | rfl
def Qrmap4_1N0 (Z : State) (a1 : Addr) (a2 : Addr) (k2 : ClassId) (y0 : Int32) (y1 : Int32) (y2 : Int32) (ib : Addr) (ks : Addr) (kk : ClassId) (x_s : Int32) (x0 : Int32) (x1 : Int32) (x2 : Int32) (x3 : Int32) (h0 : Heap) (n0 : Nat) (v : Option Value) (h : Heap) (L : List Loc) : Prop := v = some (.int (1 : Int32)) ∧ Fr n0 L ∧ Keep h0 h [a1, ks] ∧ (Fld Z h a1 cs0 "keys" "Lcom/example/arcwright/arcwright/parser/IntBlocks;" (.ref ib)) ∧ (Fld Z h a1 cs0 "labelStarts" "[I" .null) ∧ (Fld Z h a1 cs0 "size" "I" (.int (2 : Int32))) ∧ (Fld Z h a1 cs0 "keyStarts" "[I" (.ref ks)) ∧ (Arv Z h ks kk .int (4 : Int32) [(.int x0), (.int x1), (.int x_s), (.int x3)] (.int (0 : Int32)))
set_option maxRecDepth 65536 in
set_option maxHeartbeats 40000000 in
theorem rmap4_1N0 (l : Launch) (Z : State) (a0 : Array Value) (hw : ∀ d ∈ tables_1, d.before a0 Z = true) (ws : List Jvm.Cond) (a1 : Addr) (a2 : Addr) (k2 : ClassId) (y0 : Int32) (y1 : Int32) (y2 : Int32) (ib : Addr) (ks : Addr) (kk : ClassId) (x_s : Int32) (x0 : Int32) (x1 : Int32) (x2 : Int32) (x3 : Int32) (h0 : Heap) (n0 : Nat) (Z0 : n0 ≤ h0.size) (E_a1 : Exa Z h0 a1 cs0) (Fld_a1_keys : Fld Z h0 a1 cs0 "keys" "Lcom/example/arcwright/arcwright/parser/IntBlocks;" (.ref ib)) (Fld_a1_keyStarts : Fld Z h0 a1 cs0 "keyStarts" "[I" (.ref ks)) (Fld_a1_labelStarts : Fld Z h0 a1 cs0 "labelStarts" "[I" .null) (Fld_a1_size : Fld Z h0 a1 cs0 "size" "I" (.int (1 : Int32))) (E_ib : Exa Z h0 ib cs1) (Fld_ib_size : Fld Z h0 ib cs1 "size" "I" (.int x_s)) (V_ks : Arv Z h0 ks kk .int (4 : Int32) [(.int x0), (.int x1), (.int x2), (.int x3)] (.int (0 : Int32))) (V_a2 : Arv Z h0 a2 k2 .int (3 : Int32) [(.int y0), (.int y1), (.int y2)] (.int (0 : Int32))) (g_a1 : n0 ≤ a1) (g_ib : n0 ≤ ib) (g_ks : n0 ≤ ks) (ne_ks_a2 : ks ≠ a2) (hy0 : ¬ (y0 < (0 : Int32))) (hy1 : ¬ (y1 < (0 : Int32))) (hy2 : ¬ (y2 < (0 : Int32))) :
    MetFree l mn0 (head1 (Jvm.Cond.code mn0 prog_25_method_3_code 4 (some .int) :: ws) ({ frames := 1, cells := 0, slots := 0, locals := 18 } : Room)) (fun a U => a = #[(.ref a1), (.ref a2), (.int (0 : Int32))] ∧ Z.Warmed39 U.vm ∧ U.heap = h0) (fun _ _ _ _ _ => True) (fun _ U o U' => ∃ v L, o = .returned v ∧ Qrmap4_1N0 Z a1 a2 k2 y0 y1 y2 ib ks kk x_s x0 x1 x2 x3 h0 n0 v U'.heap L ∧ FrameEnd U o U' L ({ frames := 1, cells := 0, slots := 0, locals := 18 } : Room).cells ({ frames := 1, cells := 0, slots := 0, locals := 18 } : Room).slots) := by
 refine MetFree.of_bodySF (plainFor_of_name pn_4) hisR ?_
 intro p e s m args below meth c s₁ Bd hml0 hP hK
 obtain ⟨rfl, hZ, hh⟩ := hP
 have hx := Bd.exec
 have hby := Bd.bytes
 have hml : c.maxLocals = 4 := hml0
 have hown : s.vm.findClass cs0 = some m.cls := findClass_of_methodNamed Bd.named
 have hnm := (name_of_methodNamed Bd.named Bd.method).1
 have X0 : Stand p l e ({ frames := 1, cells := 0, slots := 0, locals := 18 } : Room) s m #[(.ref a1), (.ref a2), (.int (0 : Int32))] below meth c s₁ [] 0 0 := Stand.of_body Bd
 have e0 : s₁.heap = h0 := by rw [← hh, Bd.state]; rfl
 have N0 := Fr.nil n0
 refine own_go (b := (s₁.setTop (mkF m 0 #[rv a1, rv a2, iv (0 : Int32), .unset] []))) (fun _ k => castTop (ef_rmap4_1N0 m a1 a2 (0 : Int32)) k) ?_
 refine own_go (b := (s₁.setTop (mkF m 1 #[rv a1, rv a2, iv (0 : Int32), .unset] [(.ref a1)]))) (fun _ k => XS.aloadN X0.here hx rfl (hb hby d4_0) rfl rfl k) ?_
 refine own_getf X0 hx hZ hown (ow hw 31 rfl) Via.refl e0 Fld_a1_labelStarts rfl rfl (hb hby d4_1) (fun T1 X1 e1 => ?_)
 refine own_go (b := (T1.setTop (mkF m 54 #[rv a1, rv a2, iv (0 : Int32), iv (0 : Int32)] [(.ref a1), (.ref a1)]))) (fun _ k => XS.ifnullYes X1.here hx rfl (pc0 := 4) (pc' := 17) rfl (hb hby d4_4) rfl (by decide) (by decide) (XS.iconst X1.here hx rfl (hb hby d4_17) (XS.istoreN X1.here hx rfl (hb hby d4_18) rfl (l' := #[rv a1, rv a2, iv (0 : Int32), iv (0 : Int32)]) rfl (XS.iloadN X1.here hx rfl (hb hby d4_19) rfl (XS.iloadN X1.here hx rfl (hb hby d4_20) rfl (XS.icmpYes X1.here hx rfl (pc0 := 21) (pc' := 52) rfl (hb hby d4_21) rfl (flt (by decide : ¬ ((0 : Int32) < (0 : Int32)))).2.1 (by decide) (by decide) (XS.aloadN X1.here hx rfl (hb hby d4_52) rfl rfl (XS.dup X1.here hx rfl (hb hby d4_53) rfl rfl k)))))))) ?_
 refine own_getf X1 hx hZ hown (ow hw 33 rfl) Via.refl e1 Fld_a1_size rfl rfl (hb hby d4_54) (fun T2 X2 e2 => ?_)
 refine own_go (b := (T2.setTop (mkF m 60 #[rv a1, rv a2, iv (0 : Int32), iv (0 : Int32)] [(.int (2 : Int32)), (.ref a1), (.int (1 : Int32))]))) (fun _ k => XS.dupX1 X2.here hx rfl (hb hby d4_57) rfl rfl rfl (XS.iconst X2.here hx rfl (hb hby d4_58) (XS.iadd X2.here hx rfl (hb hby d4_59) rfl k))) ?_
 obtain ⟨T3, h3, X3, e3, W3, st3⟩ := putF X2 hx hZ hown (host := "") (Or.inl (ow hw 33 rfl)) Via.refl e2 Fld_a1_size E_a1 (Or.inl (ow hw 34 rfl)) (ow hw 3 rfl) (ty := .int) (by decide) rfl rfl (g := (mkF m 60 #[rv a1, rv a2, iv (0 : Int32), iv (0 : Int32)] [(.int (2 : Int32)), (.ref a1), (.int (1 : Int32))])) rfl rfl (hb hby d4_60)
 have N3 := Fr.snoc X3 N0 g_a1
 have Zs4 : n0 ≤ h3.size := Nat.le_trans Z0 (Keep.of_wr W3).1
 have F3 : Fld Z h3 a1 cs0 "size" "I" (.int (2 : Int32)) := Fld_a1_size.same W3
 refine own_go (b := (T3.setTop (mkF m 65 #[rv a1, rv a2, iv (0 : Int32), iv (1 : Int32)] [(.ref a1)]))) (fun _ k => st3 _ (XS.istoreN X3.here hx rfl (hb hby d4_63) rfl (l' := #[rv a1, rv a2, iv (0 : Int32), iv (1 : Int32)]) rfl (XS.aloadN X3.here hx rfl (hb hby d4_64) rfl rfl k))) ?_
 refine own_getf X3 hx hZ hown (ow hw 33 rfl) Via.refl e3 F3 rfl rfl (hb hby d4_65) (fun T5 X5 e5 => ?_)
 refine own_go (b := (T5.setTop (mkF m 71 #[rv a1, rv a2, iv (0 : Int32), iv (1 : Int32)] [(.ref a1), (.int (3 : Int32))]))) (fun _ k => XS.iconst X5.here hx rfl (hb hby d4_68) (XS.iadd X5.here hx rfl (hb hby d4_69) rfl (XS.aloadN X5.here hx rfl (hb hby d4_70) rfl rfl k))) ?_
 have F6 := Fld_a1_keyStarts.other W3 (Or.inr (slot_ne (Or.inl (ow hw 25 rfl)) (Or.inl (ow hw 34 rfl)) (by decide) (t := (.array .int)) (t' := .int) (by decide) (by decide)))
 refine own_getf X5 hx hZ hown (ow hw 24 rfl) Via.refl e5 F6 rfl rfl (hb hby d4_71) (fun T7 X7 e7 => ?_)
 obtain ⟨cn9, An9, -⟩ := id V_ks
 have nx10 : ks ≠ a1 := (Ne.symm (ne_arr E_a1 (ow hw 3 rfl) An9))
 have F11 := V_ks.other W3 nx10
 obtain ⟨cl8, Ar8, -, Sz8, Nn8, -, -⟩ := id F11
 refine own_go (b := (T7.setTop (mkF m 97 #[rv a1, rv a2, iv (0 : Int32), iv (1 : Int32)] [(.ref a1)]))) (fun _ k => X7.arraylength hx (by rw [e7]; exact Ar8.1) (State.isArrayOf_alike hZ.alike Ar8.2.1) (g := (mkF m 74 #[rv a1, rv a2, iv (0 : Int32), iv (1 : Int32)] [(.ref ks), (.int (3 : Int32))])) rfl rfl (hb hby d4_74) _ (by rw [len_of Sz8 Nn8]; exact (XS.icmpYes X7.here hx rfl (pc0 := 75) (pc' := 96) rfl (hb hby d4_75) rfl (flt (by decide : ¬ ((4 : Int32) < (3 : Int32)))).2.2.2 (by decide) (by decide) (XS.aloadN X7.here hx rfl (hb hby d4_96) rfl rfl k)))) ?_
 have F12 := Fld_a1_keys.other W3 (Or.inr (slot_ne (Or.inr (ow hw 23 rfl)) (Or.inl (ow hw 34 rfl)) (by decide) (t := (.object cs1)) (t' := .int) (by decide) (by decide)))
 refine own_getf X7 hx hZ hown (ow hw 22 rfl) Via.refl e7 F12 rfl rfl (hb hby d4_97) (fun T13 X13 e13 => ?_)
 refine own_go (b := (T13.setTop (mkF m 103 #[rv a1, rv a2, iv (0 : Int32), iv (1 : Int32)] [(.int (0 : Int32)), (.int (0 : Int32)), (.ref a2), (.ref ib)]))) (fun _ k => XS.aloadN X13.here hx rfl (hb hby d4_100) rfl rfl (XS.iconst X13.here hx rfl (hb hby d4_101) (XS.iloadN X13.here hx rfl (hb hby d4_102) rfl k))) ?_
 have F15 := E_ib.wr W3
 refine own_virt (W := 0) X13 hx hZ hown e13 (ow hw 47 rfl) (ow hw 48 rfl) (ow hw 50 rfl) (ow hw 49 rfl) (rmadd0 l Z a0 hw [] ib a2 h3 n0 Zs4) (ow hw 51 rfl) (ow hw 13 rfl) F15 rfl (by rw [hml]; rfl) rfl (hb hby d4_103) (lenOf pd___III_V rfl) rfl (by decide) (fun T14 v14 Ll14 X14 hQ14 => ?_)
 obtain ⟨rfl, N14q, eh14⟩ := hQ14
 have N14 := Fr.app N3 N14q
 refine own_go (b := (T14.setTop (mkF m 107 #[rv a1, rv a2, iv (0 : Int32), iv (1 : Int32)] [(.ref a1)]))) (fun _ k => XS.aloadN X14.here hx rfl (hb hby d4_106) rfl rfl k) ?_
 refine own_getf X14 hx hZ hown (ow hw 24 rfl) Via.refl eh14 F6 rfl rfl (hb hby d4_107) (fun T16 X16 e16 => ?_)
 refine own_go (b := (T16.setTop (mkF m 114 #[rv a1, rv a2, iv (0 : Int32), iv (1 : Int32)] [(.ref a1), (.int (2 : Int32)), (.ref ks)]))) (fun _ k => XS.iloadN X16.here hx rfl (hb hby d4_110) rfl (XS.iconst X16.here hx rfl (hb hby d4_111) (XS.iadd X16.here hx rfl (hb hby d4_112) rfl (XS.aloadN X16.here hx rfl (hb hby d4_113) rfl rfl k)))) ?_
 refine own_getf X16 hx hZ hown (ow hw 22 rfl) Via.refl e16 F12 rfl rfl (hb hby d4_114) (fun T17 X17 e17 => ?_)
 have nx19 : ib ≠ a1 := (ne_exa E_ib E_a1 (by decide))
 have F20 := Fld_ib_size.other W3 (Or.inl nx19)
 refine own_virt (W := 2) X17 hx hZ hown e17 (ow hw 63 rfl) (ow hw 64 rfl) (ow hw 66 rfl) (ow hw 65 rfl) (rm9 l Z a0 hw [] ib x_s h3 n0 Zs4 F20) (ow hw 67 rfl) (ow hw 13 rfl) F15 rfl (by rw [hml]; rfl) rfl (hb hby d4_117) (lenOf pd___I rfl) rfl (by decide) (fun T18 v18 Ll18 X18 hQ18 => ?_)
 obtain ⟨rfl, N18q, eh18⟩ := hQ18
 have N18 := Fr.app N14 N18q
 obtain ⟨cl21, Ar21, ql21, Sz21, Nn21, Hl21, Gl21⟩ := id F11
 have hin21 : ¬ ((2 : Int32) < 0 ∨ cl21.slots.size ≤ ((2 : Int32)).toNatClampNeg) := inb_of Sz21 ⟨by decide, by decide⟩
 obtain ⟨T21, h21, X21, e21, W21, st21⟩ := stI X18 hx hZ eh18 Ar21 (j := (2 : Int32)) hin21 (g := (mkF m 120 #[rv a1, rv a2, iv (0 : Int32), iv (1 : Int32)] [(.int x_s), (.int (2 : Int32)), (.ref ks)])) rfl rfl (hb hby d4_120)
 have N21 := Fr.snoc X21 N18 g_ks
 have Zs22 : n0 ≤ h21.size := Nat.le_trans Zs4 (Keep.of_wr W21).1
 have V21 : Arv Z h21 ks kk .int (4 : Int32) [(.int x0), (.int x1), (.int x_s), (.int x3)] (.int (0 : Int32)) := Arv.set Ar21 ql21 Sz21 Nn21 Hl21 Gl21 rfl W21 2 rfl (Nat.le_of_ble_eq_true rfl)
 refine own_go (b := (T21.setTop (mkF m 122 #[rv a1, rv a2, iv (0 : Int32), iv (1 : Int32)] [(.int (1 : Int32))]))) (fun _ k => st21 _ (XS.iloadN X21.here hx rfl (hb hby d4_121) rfl k)) ?_
 have K23 := (Keep.refl h0 [a1, ks]).wr W3 (Or.inl (List.mem_of_getElem? (i := 0) rfl))
 have K24 := K23.wr W21 (Or.inl (List.mem_of_getElem? (i := 1) rfl))
 have F25 := F12.other W21 (Or.inl (Ne.symm nx10))
 have F26 := Fld_a1_labelStarts.other W3 (Or.inr (slot_ne (Or.inl (ow hw 32 rfl)) (Or.inl (ow hw 34 rfl)) (by decide) (t := (.array .int)) (t' := .int) (by decide) (by decide)))
 have F27 := F26.other W21 (Or.inl (Ne.symm nx10))
 have F28 := F3.other W21 (Or.inl (Ne.symm nx10))
 have F29 := F6.other W21 (Or.inl (Ne.symm nx10))
 obtain ⟨fs, hr, hrun, hended, hW, hsame⟩ := X21.leave (v := some (.int (1 : Int32))) (fun h => by rw [Bd.returns] at h; cases h)
 exact ⟨_, _, retOut X21 hx Bd.returns rfl (Or.inl ⟨rfl, Or.inl rfl, _, rfl⟩) (hb hby d4_122) hr, hrun, hended, _, _, rfl, (show Qrmap4_1N0 Z a1 a2 k2 y0 y1 y2 ib ks kk x_s x0 x1 x2 x3 h0 n0 _ T21.heap _ from (by rw [e21]; exact ⟨rfl, N21, K24, F25, F27, F28, F29, V21⟩)), ⟨_, rfl⟩, hW, hsame.mono (by decide) (by decide)⟩
theorem ef_rmap4_1E1 (m : MethodId) (x0 : Addr) (x1 : Addr) (x2 : Int32) : entryFrame m #[(.ref x0), (.ref x1), (.int x2)] 4 = mkF m 0 #[rv x0, rv x1, iv x2, .unset] [] := by first | (simp [entryFrame, mkF, argsToLocals, Value.category]; done) | rfl
def Qrmap4_1E1 (Z : State) (a1 : Addr) (a2 : Addr) (k2 : ClassId) (y0 : Int32) (y1 : Int32) (y2 : Int32) (p4 : Int32) (ib : Addr) (ks : Addr) (kk : ClassId) (bl : Addr) (kb : ClassId) (x0 : Int32) (x1 : Int32) (x2 : Int32) (x3 : Int32) (h0 : Heap) (n0 : Nat) (v : Option Value) (h : Heap) (L : List Loc) : Prop := ∃ (cn : Addr) (kn : ClassId) (vsn : List Value), v = some (.int (1 : Int32)) ∧ Fr n0 L ∧ Keep h0 h [a1, ib, ks, bl] ∧ (Fld Z h a1 cs0 "keys" "Lcom/example/arcwright/arcwright/parser/IntBlocks;" (.ref ib)) ∧ (Fld Z h a1 cs0 "labelStarts" "[I" .null) ∧ (Fld Z h a1 cs0 "size" "I" (.int (2 : Int32))) ∧ (Fld Z h a1 cs0 "keyStarts" "[I" (.ref ks)) ∧ (Arv Z h ks kk .int (4 : Int32) [(.int x0), (.int x1), (.int p4), (.int x3)] (.int (0 : Int32))) ∧ (Fld Z h ib cs1 "size" "I" (.int p4)) ∧ (Fld Z h ib cs1 "blocks" "[[I" (.ref bl)) ∧ (h0.size ≤ cn) ∧ (Arv Z h bl kb (.array .int) (16 : Int32) ((.ref cn) :: own_n15) .null) ∧ (Arv Z h cn kn .int (65536 : Int32) vsn (.int (0 : Int32))) ∧ (16 ≤ vsn.length)
set_option maxRecDepth 65536 in
set_option maxHeartbeats 40000000 in
theorem rmap4_1E1 (l : Launch) (Z : State) (a0 : Array Value) (hw : ∀ d ∈ tables_1, d.before a0 Z = true) (ws : List Jvm.Cond) (a1 : Addr) (a2 : Addr) (k2 : ClassId) (y0 : Int32) (y1 : Int32) (y2 : Int32) (p4 : Int32) (ib : Addr) (ks : Addr) (kk : ClassId) (bl : Addr) (kb : ClassId) (x0 : Int32) (x1 : Int32) (x2 : Int32) (x3 : Int32) (h0 : Heap) (n0 : Nat) (Z0 : n0 ≤ h0.size) (E_a1 : Exa Z h0 a1 cs0) (Fld_a1_keys : Fld Z h0 a1 cs0 "keys" "Lcom/example/arcwright/arcwright/parser/IntBlocks;" (.ref ib)) (Fld_a1_keyStarts : Fld Z h0 a1 cs0 "keyStarts" "[I" (.ref ks)) (Fld_a1_labelStarts : Fld Z h0 a1 cs0 "labelStarts" "[I" .null) (Fld_a1_size : Fld Z h0 a1 cs0 "size" "I" (.int (1 : Int32))) (E_ib : Exa Z h0 ib cs1) (Fld_ib_size : Fld Z h0 ib cs1 "size" "I" (.int (0 : Int32))) (Fld_ib_blocks : Fld Z h0 ib cs1 "blocks" "[[I" (.ref bl)) (V_ks : Arv Z h0 ks kk .int (4 : Int32) [(.int x0), (.int x1), (.int x2), (.int x3)] (.int (0 : Int32))) (V_a2 : Arv Z h0 a2 k2 .int (3 : Int32) [(.int y0), (.int y1), (.int y2)] (.int (0 : Int32))) (g_a1 : n0 ≤ a1) (g_ib : n0 ≤ ib) (g_ks : n0 ≤ ks) (ne_ks_a2 : ks ≠ a2) (g_bl : n0 ≤ bl) (ne_ks_bl : ks ≠ bl) (ne_a2_bl : a2 ≠ bl) (hy0 : ¬ (y0 < (0 : Int32))) (hy1 : ¬ (y1 < (0 : Int32))) (hy2 : ¬ (y2 < (0 : Int32))) (hn0 : (0 : Int32) < p4) (hn3 : ¬ ((3 : Int32) < p4)) (V_bl : Arv Z h0 bl kb (.array .int) (16 : Int32) own_n16 .null) (Ov_bl : OvrA Z kb .int "[I") :
    MetFree l mn0 (head1 (Jvm.Cond.code mn0 prog_25_method_3_code 4 (some .int) :: ws) ({ frames := 2, cells := 1, slots := 65536, locals := 58 } : Room)) (fun a U => a = #[(.ref a1), (.ref a2), (.int p4)] ∧ Z.Warmed39 U.vm ∧ U.heap = h0) (fun _ _ _ _ _ => True) (fun _ U o U' => ∃ v L, o = .returned v ∧ Qrmap4_1E1 Z a1 a2 k2 y0 y1 y2 p4 ib ks kk bl kb x0 x1 x2 x3 h0 n0 v U'.heap L ∧ FrameEnd U o U' L ({ frames := 2, cells := 1, slots := 65536, locals := 58 } : Room).cells ({ frames := 2, cells := 1, slots := 65536, locals := 58 } : Room).slots) := by
 refine MetFree.of_bodySF (plainFor_of_name pn_4) hisR ?_
 intro p e s m args below meth c s₁ Bd hml0 hP hK
 obtain ⟨rfl, hZ, hh⟩ := hP
 have hx := Bd.exec
 have hby := Bd.bytes
 have hml : c.maxLocals = 4 := hml0
 have hown : s.vm.findClass cs0 = some m.cls := findClass_of_methodNamed Bd.named
 have hnm := (name_of_methodNamed Bd.named Bd.method).1
 have X0 : Stand p l e ({ frames := 2, cells := 1, slots := 65536, locals := 58 } : Room) s m #[(.ref a1), (.ref a2), (.int p4)] below meth c s₁ [] 0 0 := Stand.of_body Bd
 have e0 : s₁.heap = h0 := by rw [← hh, Bd.state]; rfl
 have N0 := Fr.nil n0
 refine own_go (b := (s₁.setTop (mkF m 0 #[rv a1, rv a2, iv p4, .unset] []))) (fun _ k => castTop (ef_rmap4_1E1 m a1 a2 p4) k) ?_
 refine own_go (b := (s₁.setTop (mkF m 1 #[rv a1, rv a2, iv p4, .unset] [(.ref a1)]))) (fun _ k => XS.aloadN X0.here hx rfl (hb hby d4_0) rfl rfl k) ?_
 refine own_getf X0 hx hZ hown (ow hw 31 rfl) Via.refl e0 Fld_a1_labelStarts rfl rfl (hb hby d4_1) (fun T1 X1 e1 => ?_)
 refine own_go (b := (T1.setTop (mkF m 19 #[rv a1, rv a2, iv p4, iv (0 : Int32)] []))) (fun _ k => XS.ifnullYes X1.here hx rfl (pc0 := 4) (pc' := 17) rfl (hb hby d4_4) rfl (by decide) (by decide) (XS.iconst X1.here hx rfl (hb hby d4_17) (XS.istoreN X1.here hx rfl (hb hby d4_18) rfl (l' := #[rv a1, rv a2, iv p4, iv (0 : Int32)]) rfl k))) ?_
 refine own_join (A := Int32) (C := fun ii => True) (f := fun ii => (T1.setTop (mkF m 52 #[rv a1, rv a2, iv p4, iv ii] []))) ?_ ?_
 · intro ii hj2
   refine own_go (b := (T1.setTop (mkF m 54 #[rv a1, rv a2, iv p4, iv ii] [(.ref a1), (.ref a1)]))) (fun _ k => XS.aloadN X1.here hx rfl (hb hby d4_52) rfl rfl (XS.dup X1.here hx rfl (hb hby d4_53) rfl rfl k)) ?_
   refine own_getf X1 hx hZ hown (ow hw 33 rfl) Via.refl e1 Fld_a1_size rfl rfl (hb hby d4_54) (fun T3 X3 e3 => ?_)
   refine own_go (b := (T3.setTop (mkF m 60 #[rv a1, rv a2, iv p4, iv ii] [(.int (2 : Int32)), (.ref a1), (.int (1 : Int32))]))) (fun _ k => XS.dupX1 X3.here hx rfl (hb hby d4_57) rfl rfl rfl (XS.iconst X3.here hx rfl (hb hby d4_58) (XS.iadd X3.here hx rfl (hb hby d4_59) rfl k))) ?_
   obtain ⟨T4, h4, X4, e4, W4, st4⟩ := putF X3 hx hZ hown (host := "") (Or.inl (ow hw 33 rfl)) Via.refl e3 Fld_a1_size E_a1 (Or.inl (ow hw 34 rfl)) (ow hw 3 rfl) (ty := .int) (by decide) rfl rfl (g := (mkF m 60 #[rv a1, rv a2, iv p4, iv ii] [(.int (2 : Int32)), (.ref a1), (.int (1 : Int32))])) rfl rfl (hb hby d4_60)
   have N4 := Fr.snoc X4 N0 g_a1
   have Zs5 : n0 ≤ h4.size := Nat.le_trans Z0 (Keep.of_wr W4).1
   have F4 : Fld Z h4 a1 cs0 "size" "I" (.int (2 : Int32)) := Fld_a1_size.same W4
   refine own_go (b := (T4.setTop (mkF m 65 #[rv a1, rv a2, iv p4, iv (1 : Int32)] [(.ref a1)]))) (fun _ k => st4 _ (XS.istoreN X4.here hx rfl (hb hby d4_63) rfl (l' := #[rv a1, rv a2, iv p4, iv (1 : Int32)]) rfl (XS.aloadN X4.here hx rfl (hb hby d4_64) rfl rfl k))) ?_
   refine own_getf X4 hx hZ hown (ow hw 33 rfl) Via.refl e4 F4 rfl rfl (hb hby d4_65) (fun T6 X6 e6 => ?_)
   refine own_go (b := (T6.setTop (mkF m 71 #[rv a1, rv a2, iv p4, iv (1 : Int32)] [(.ref a1), (.int (3 : Int32))]))) (fun _ k => XS.iconst X6.here hx rfl (hb hby d4_68) (XS.iadd X6.here hx rfl (hb hby d4_69) rfl (XS.aloadN X6.here hx rfl (hb hby d4_70) rfl rfl k))) ?_
   have F7 := Fld_a1_keyStarts.other W4 (Or.inr (slot_ne (Or.inl (ow hw 25 rfl)) (Or.inl (ow hw 34 rfl)) (by decide) (t := (.array .int)) (t' := .int) (by decide) (by decide)))
   refine own_getf X6 hx hZ hown (ow hw 24 rfl) Via.refl e6 F7 rfl rfl (hb hby d4_71) (fun T8 X8 e8 => ?_)
   obtain ⟨cn10, An10, -⟩ := id V_ks
   have nx11 : ks ≠ a1 := (Ne.symm (ne_arr E_a1 (ow hw 3 rfl) An10))
   have F12 := V_ks.other W4 nx11
   obtain ⟨cl9, Ar9, -, Sz9, Nn9, -, -⟩ := id F12
   refine own_go (b := (T8.setTop (mkF m 97 #[rv a1, rv a2, iv p4, iv (1 : Int32)] [(.ref a1)]))) (fun _ k => X8.arraylength hx (by rw [e8]; exact Ar9.1) (State.isArrayOf_alike hZ.alike Ar9.2.1) (g := (mkF m 74 #[rv a1, rv a2, iv p4, iv (1 : Int32)] [(.ref ks), (.int (3 : Int32))])) rfl rfl (hb hby d4_74) _ (by rw [len_of Sz9 Nn9]; exact (XS.icmpYes X8.here hx rfl (pc0 := 75) (pc' := 96) rfl (hb hby d4_75) rfl (flt (by decide : ¬ ((4 : Int32) < (3 : Int32)))).2.2.2 (by decide) (by decide) (XS.aloadN X8.here hx rfl (hb hby d4_96) rfl rfl k)))) ?_
   have F13 := Fld_a1_keys.other W4 (Or.inr (slot_ne (Or.inr (ow hw 23 rfl)) (Or.inl (ow hw 34 rfl)) (by decide) (t := (.object cs1)) (t' := .int) (by decide) (by decide)))
   refine own_getf X8 hx hZ hown (ow hw 22 rfl) Via.refl e8 F13 rfl rfl (hb hby d4_97) (fun T14 X14 e14 => ?_)
   refine own_go (b := (T14.setTop (mkF m 103 #[rv a1, rv a2, iv p4, iv (1 : Int32)] [(.int p4), (.int (0 : Int32)), (.ref a2), (.ref ib)]))) (fun _ k => XS.aloadN X14.here hx rfl (hb hby d4_100) rfl rfl (XS.iconst X14.here hx rfl (hb hby d4_101) (XS.iloadN X14.here hx rfl (hb hby d4_102) rfl k))) ?_
   have F16 := E_ib.wr W4
   have nx17 : ib ≠ a1 := (ne_exa E_ib E_a1 (by decide))
   have F18 := Fld_ib_size.other W4 (Or.inl nx17)
   have F19 := Fld_ib_blocks.other W4 (Or.inl nx17)
   obtain ⟨cn20, An20, -⟩ := id V_bl
   have nx21 : bl ≠ a1 := (Ne.symm (ne_arr E_a1 (ow hw 3 rfl) An20))
   have F22 := V_bl.other W4 nx21
   obtain ⟨cn23, An23, -⟩ := id V_a2
   have nx24 : a2 ≠ a1 := (Ne.symm (ne_arr E_a1 (ow hw 3 rfl) An23))
   have F25 := V_a2.other W4 nx24
   refine own_virt (W := 0) X14 hx hZ hown e14 (ow hw 47 rfl) (ow hw 48 rfl) (ow hw 50 rfl) (ow hw 49 rfl) (rmaddE l Z a0 hw [] ib a2 k2 y0 y1 y2 p4 bl kb h4 n0 Zs5 F16 F18 F19 F22 Ov_bl g_ib g_bl F25 ne_a2_bl hn0 hn3) (ow hw 51 rfl) (ow hw 13 rfl) F16 rfl (by rw [hml]; rfl) rfl (hb hby d4_103) (lenOf pd___III_V rfl) rfl (by decide) (fun T15 v15 Ll15 X15 hQ15 => ?_)
   obtain ⟨cn_15, kn_15, vsn_15, rfl, N15q, K15, P15_0, P15_1, P15_2, P15_3, P15_4, P15_5⟩ := hQ15
   have N15 := Fr.app N4 N15q
   have Zs26 : n0 ≤ T15.heap.size := Nat.le_trans Zs5 K15.1
   refine own_go (b := (T15.setTop (mkF m 107 #[rv a1, rv a2, iv p4, iv (1 : Int32)] [(.ref a1)]))) (fun _ k => XS.aloadN X15.here hx rfl (hb hby d4_106) rfl rfl k) ?_
   have F27 := F7.keep K15 (ninS (Ne.symm nx17) (ninS (Ne.symm nx21) nin0))
   refine own_getf X15 hx hZ hown (ow hw 24 rfl) Via.refl rfl F27 rfl rfl (hb hby d4_107) (fun T28 X28 e28 => ?_)
   refine own_go (b := (T28.setTop (mkF m 114 #[rv a1, rv a2, iv p4, iv (1 : Int32)] [(.ref a1), (.int (2 : Int32)), (.ref ks)]))) (fun _ k => XS.iloadN X28.here hx rfl (hb hby d4_110) rfl (XS.iconst X28.here hx rfl (hb hby d4_111) (XS.iadd X28.here hx rfl (hb hby d4_112) rfl (XS.aloadN X28.here hx rfl (hb hby d4_113) rfl rfl k)))) ?_
   have F29 := F13.keep K15 (ninS (Ne.symm nx17) (ninS (Ne.symm nx21) nin0))
   refine own_getf X28 hx hZ hown (ow hw 22 rfl) Via.refl e28 F29 rfl rfl (hb hby d4_114) (fun T30 X30 e30 => ?_)
   have F32 := F16.keep K15
   refine own_virt (W := 2) X30 hx hZ hown e30 (ow hw 63 rfl) (ow hw 64 rfl) (ow hw 66 rfl) (ow hw 65 rfl) (rm9 l Z a0 hw [] ib p4 T15.heap n0 Zs26 P15_0) (ow hw 67 rfl) (ow hw 13 rfl) F32 rfl (by rw [hml]; rfl) rfl (hb hby d4_117) (lenOf pd___I rfl) rfl (by decide) (fun T31 v31 Ll31 X31 hQ31 => ?_)
   obtain ⟨rfl, N31q, eh31⟩ := hQ31
   have N31 := Fr.app N15 N31q
   obtain ⟨cn34, An34, -⟩ := id V_ks
   have nx35 : ks ≠ ib := (Ne.symm (ne_arr E_ib (ow hw 12 rfl) An34))
   have F36 := F12.keep K15 (ninS nx35 (ninS ne_ks_bl nin0))
   obtain ⟨cl33, Ar33, ql33, Sz33, Nn33, Hl33, Gl33⟩ := id F36
   have hin33 : ¬ ((2 : Int32) < 0 ∨ cl33.slots.size ≤ ((2 : Int32)).toNatClampNeg) := inb_of Sz33 ⟨by decide, by decide⟩
   obtain ⟨T33, h33, X33, e33, W33, st33⟩ := stI X31 hx hZ eh31 Ar33 (j := (2 : Int32)) hin33 (g := (mkF m 120 #[rv a1, rv a2, iv p4, iv (1 : Int32)] [(.int p4), (.int (2 : Int32)), (.ref ks)])) rfl rfl (hb hby d4_120)
   have N33 := Fr.snoc X33 N31 g_ks
   have Zs37 : n0 ≤ h33.size := Nat.le_trans Zs26 (Keep.of_wr W33).1
   have V33 : Arv Z h33 ks kk .int (4 : Int32) [(.int x0), (.int x1), (.int p4), (.int x3)] (.int (0 : Int32)) := Arv.set Ar33 ql33 Sz33 Nn33 Hl33 Gl33 rfl W33 2 rfl (Nat.le_of_ble_eq_true rfl)
   refine own_go (b := (T33.setTop (mkF m 122 #[rv a1, rv a2, iv p4, iv (1 : Int32)] [(.int (1 : Int32))]))) (fun _ k => st33 _ (XS.iloadN X33.here hx rfl (hb hby d4_121) rfl k)) ?_
   have K38 := (Keep.refl h0 [a1, ib, ks, bl]).wr W4 (Or.inl (List.mem_of_getElem? (i := 0) rfl))
   have K39 := K38.trans K15 (allS (Or.inl (List.mem_of_getElem? (i := 1) rfl)) (allS (Or.inl (List.mem_of_getElem? (i := 3) rfl)) all0))
   have K40 := K39.wr W33 (Or.inl (List.mem_of_getElem? (i := 2) rfl))
   have F41 := F29.other W33 (Or.inl (Ne.symm nx11))
   have F42 := Fld_a1_labelStarts.other W4 (Or.inr (slot_ne (Or.inl (ow hw 32 rfl)) (Or.inl (ow hw 34 rfl)) (by decide) (t := (.array .int)) (t' := .int) (by decide) (by decide)))
   have F43 := F42.keep K15 (ninS (Ne.symm nx17) (ninS (Ne.symm nx21) nin0))
   have F44 := F43.other W33 (Or.inl (Ne.symm nx11))
   have F45 := F4.keep K15 (ninS (Ne.symm nx17) (ninS (Ne.symm nx21) nin0))
   have F46 := F45.other W33 (Or.inl (Ne.symm nx11))
   have F47 := F27.other W33 (Or.inl (Ne.symm nx11))
   have F48 := P15_0.other W33 (Or.inl (Ne.symm nx35))
   have F49 := P15_1.other W33 (Or.inl (Ne.symm nx35))
   have F50 := P15_3.other W33 (Ne.symm ne_ks_bl)
   have nx51 : cn_15 ≠ ks := (Ne.symm (own_ne V_ks.lt (Keep.of_wr W4).1 P15_2))
   have F52 := P15_4.other W33 nx51
   obtain ⟨fs, hr, hrun, hended, hW, hsame⟩ := X33.leave (v := some (.int (1 : Int32))) (fun h => by rw [Bd.returns] at h; cases h)
   exact ⟨_, _, retOut X33 hx Bd.returns rfl (Or.inl ⟨rfl, Or.inl rfl, _, rfl⟩) (hb hby d4_122) hr, hrun, hended, _, _, rfl, (show Qrmap4_1E1 Z a1 a2 k2 y0 y1 y2 p4 ib ks kk bl kb x0 x1 x2 x3 h0 n0 _ T33.heap _ from (by rw [e33]; exact ⟨cn_15, kn_15, vsn_15, rfl, N33, K40, F41, F44, F46, F47, V33, F48, F49, (Nat.le_trans (Keep.of_wr W4).1 P15_2), F50, F52, P15_5⟩)), ⟨_, rfl⟩, hW, hsame.mono (by decide) (by decide)⟩
 · intro J2
   refine own_go (b := (T1.setTop (mkF m 26 #[rv a1, rv a2, iv p4, iv (0 : Int32)] [(.int (0 : Int32)), (.ref a2)]))) (fun _ k => XS.iloadN X1.here hx rfl (hb hby d4_19) rfl (XS.iloadN X1.here hx rfl (hb hby d4_20) rfl (XS.icmpNo X1.here hx rfl (hb hby d4_21) rfl (tlt hn0).2.1 (XS.aloadN X1.here hx rfl (hb hby d4_24) rfl rfl (XS.iloadN X1.here hx rfl (hb hby d4_25) rfl k))))) ?_
   obtain ⟨cl53, Ar53, ql53, Sz53, Nn53, Hl53, Gl53⟩ := id V_a2
   have hin53 : ¬ ((0 : Int32) < 0 ∨ cl53.slots.size ≤ ((0 : Int32)).toNatClampNeg) := inb_of Sz53 ⟨by decide, by decide⟩
   refine own_go (b := (T1.setTop (mkF m 21 #[rv a1, rv a2, iv p4, iv (1 : Int32)] [(.int p4), (.int (1 : Int32))]))) (fun _ k => X1.iaload hx (j := (0 : Int32)) (v := (.int y0)) (by rw [e1]; exact Ar53.1) (State.isArrayOf_alike hZ.alike Ar53.2.1) Ar53.2.2 hin53 (Hl53.at hin53 rfl) (g := (mkF m 26 #[rv a1, rv a2, iv p4, iv (0 : Int32)] [(.int (0 : Int32)), (.ref a2)])) rfl rfl (hb hby d4_26) _ (XS.ifYes X1.here hx rfl (pc0 := 27) (pc' := 46) rfl (hb hby d4_27) rfl ((if0 _ _).trans (flt hy0).2.1) (by decide) (by decide) (XS.iinc X1.here hx rfl (hb hby d4_46) rfl (l' := #[rv a1, rv a2, iv p4, iv (1 : Int32)]) rfl (XS.goto X1.here hx rfl (pc0 := 49) (pc' := 19) rfl (hb hby d4_49) (by decide) (by decide) (XS.iloadN X1.here hx rfl (hb hby d4_19) rfl (XS.iloadN X1.here hx rfl (hb hby d4_20) rfl k)))))) ?_
   by_cases hc21_54 : (1 : Int32) < p4
   · skip
     refine own_go (b := (T1.setTop (mkF m 26 #[rv a1, rv a2, iv p4, iv (1 : Int32)] [(.int (1 : Int32)), (.ref a2)]))) (fun _ k => XS.icmpNo X1.here hx rfl (hb hby d4_21) rfl (tlt hc21_54).2.1 (XS.aloadN X1.here hx rfl (hb hby d4_24) rfl rfl (XS.iloadN X1.here hx rfl (hb hby d4_25) rfl k))) ?_
     obtain ⟨cl55, Ar55, ql55, Sz55, Nn55, Hl55, Gl55⟩ := id V_a2
     have hin55 : ¬ ((1 : Int32) < 0 ∨ cl55.slots.size ≤ ((1 : Int32)).toNatClampNeg) := inb_of Sz55 ⟨by decide, by decide⟩
     refine own_go (b := (T1.setTop (mkF m 21 #[rv a1, rv a2, iv p4, iv (2 : Int32)] [(.int p4), (.int (2 : Int32))]))) (fun _ k => X1.iaload hx (j := (1 : Int32)) (v := (.int y1)) (by rw [e1]; exact Ar55.1) (State.isArrayOf_alike hZ.alike Ar55.2.1) Ar55.2.2 hin55 (Hl55.at hin55 rfl) (g := (mkF m 26 #[rv a1, rv a2, iv p4, iv (1 : Int32)] [(.int (1 : Int32)), (.ref a2)])) rfl rfl (hb hby d4_26) _ (XS.ifYes X1.here hx rfl (pc0 := 27) (pc' := 46) rfl (hb hby d4_27) rfl ((if0 _ _).trans (flt hy1).2.1) (by decide) (by decide) (XS.iinc X1.here hx rfl (hb hby d4_46) rfl (l' := #[rv a1, rv a2, iv p4, iv (2 : Int32)]) rfl (XS.goto X1.here hx rfl (pc0 := 49) (pc' := 19) rfl (hb hby d4_49) (by decide) (by decide) (XS.iloadN X1.here hx rfl (hb hby d4_19) rfl (XS.iloadN X1.here hx rfl (hb hby d4_20) rfl k)))))) ?_
     by_cases hc21_56 : (2 : Int32) < p4
     · skip
       refine own_go (b := (T1.setTop (mkF m 26 #[rv a1, rv a2, iv p4, iv (2 : Int32)] [(.int (2 : Int32)), (.ref a2)]))) (fun _ k => XS.icmpNo X1.here hx rfl (hb hby d4_21) rfl (tlt hc21_56).2.1 (XS.aloadN X1.here hx rfl (hb hby d4_24) rfl rfl (XS.iloadN X1.here hx rfl (hb hby d4_25) rfl k))) ?_
       obtain ⟨cl57, Ar57, ql57, Sz57, Nn57, Hl57, Gl57⟩ := id V_a2
       have hin57 : ¬ ((2 : Int32) < 0 ∨ cl57.slots.size ≤ ((2 : Int32)).toNatClampNeg) := inb_of Sz57 ⟨by decide, by decide⟩
       refine own_go (b := (T1.setTop (mkF m 52 #[rv a1, rv a2, iv p4, iv (3 : Int32)] []))) (fun _ k => X1.iaload hx (j := (2 : Int32)) (v := (.int y2)) (by rw [e1]; exact Ar57.1) (State.isArrayOf_alike hZ.alike Ar57.2.1) Ar57.2.2 hin57 (Hl57.at hin57 rfl) (g := (mkF m 26 #[rv a1, rv a2, iv p4, iv (2 : Int32)] [(.int (2 : Int32)), (.ref a2)])) rfl rfl (hb hby d4_26) _ (XS.ifYes X1.here hx rfl (pc0 := 27) (pc' := 46) rfl (hb hby d4_27) rfl ((if0 _ _).trans (flt hy2).2.1) (by decide) (by decide) (XS.iinc X1.here hx rfl (hb hby d4_46) rfl (l' := #[rv a1, rv a2, iv p4, iv (3 : Int32)]) rfl (XS.goto X1.here hx rfl (pc0 := 49) (pc' := 19) rfl (hb hby d4_49) (by decide) (by decide) (XS.iloadN X1.here hx rfl (hb hby d4_19) rfl (XS.iloadN X1.here hx rfl (hb hby d4_20) rfl (XS.icmpYes X1.here hx rfl (pc0 := 21) (pc' := 52) rfl (hb hby d4_21) rfl (flt hn3).2.1 (by decide) (by decide) k))))))) ?_
       exact J2 (3 : Int32) trivial
     · skip
       refine own_go (b := (T1.setTop (mkF m 52 #[rv a1, rv a2, iv p4, iv (2 : Int32)] []))) (fun _ k => XS.icmpYes X1.here hx rfl (pc0 := 21) (pc' := 52) rfl (hb hby d4_21) rfl (flt hc21_56).2.1 (by decide) (by decide) k) ?_
       exact J2 (2 : Int32) trivial
   · skip
     refine own_go (b := (T1.setTop (mkF m 52 #[rv a1, rv a2, iv p4, iv (1 : Int32)] []))) (fun _ k => XS.icmpYes X1.here hx rfl (pc0 := 21) (pc' := 52) rfl (hb hby d4_21) rfl (flt hc21_54).2.1 (by decide) (by decide) k) ?_
     exact J2 (1 : Int32) trivial
theorem ef_rmap4_1F1 (m : MethodId) (x0 : Addr) (x1 : Addr) (x2 : Int32) : entryFrame m #[(.ref x0), (.ref x1), (.int x2)] 4 = mkF m 0 #[rv x0, rv x1, iv x2, .unset] [] := by first | (simp [entryFrame, mkF, argsToLocals, Value.category]; done) | rfl
def Qrmap4_1F1 (Z : State) (a1 : Addr) (a2 : Addr) (k2 : ClassId) (y0 : Int32) (y1 : Int32) (y2 : Int32) (p4 : Int32) (ib : Addr) (ks : Addr) (kk : ClassId) (bl : Addr) (kb : ClassId) (x0 : Int32) (x1 : Int32) (x2 : Int32) (x3 : Int32) (x_s : Int32) (c0 : Addr) (kc : ClassId) (vsc : List Value) (h0 : Heap) (n0 : Nat) (v : Option Value) (h : Heap) (L : List Loc) : Prop := ∃ (vsn : List Value), v = some (.int (1 : Int32)) ∧ Fr n0 L ∧ Keep h0 h [a1, ib, ks, c0] ∧ (Fld Z h a1 cs0 "keys" "Lcom/example/arcwright/arcwright/parser/IntBlocks;" (.ref ib)) ∧ (Fld Z h a1 cs0 "labelStarts" "[I" .null) ∧ (Fld Z h a1 cs0 "size" "I" (.int (2 : Int32))) ∧ (Fld Z h a1 cs0 "keyStarts" "[I" (.ref ks)) ∧ (Arv Z h ks kk .int (4 : Int32) [(.int x0), (.int x1), (.int (x_s + p4)), (.int x3)] (.int (0 : Int32))) ∧ (Fld Z h ib cs1 "size" "I" (.int (x_s + p4))) ∧ (Fld Z h ib cs1 "blocks" "[[I" (.ref bl)) ∧ (Arv Z h c0 kc .int (65536 : Int32) vsn (.int (0 : Int32))) ∧ (16 ≤ vsn.length)
set_option maxRecDepth 65536 in
set_option maxHeartbeats 40000000 in
theorem rmap4_1F1 (l : Launch) (Z : State) (a0 : Array Value) (hw : ∀ d ∈ tables_1, d.before a0 Z = true) (ws : List Jvm.Cond) (a1 : Addr) (a2 : Addr) (k2 : ClassId) (y0 : Int32) (y1 : Int32) (y2 : Int32) (p4 : Int32) (ib : Addr) (ks : Addr) (kk : ClassId) (bl : Addr) (kb : ClassId) (x0 : Int32) (x1 : Int32) (x2 : Int32) (x3 : Int32) (x_s : Int32) (c0 : Addr) (kc : ClassId) (vsc : List Value) (h0 : Heap) (n0 : Nat) (Z0 : n0 ≤ h0.size) (E_a1 : Exa Z h0 a1 cs0) (Fld_a1_keys : Fld Z h0 a1 cs0 "keys" "Lcom/example/arcwright/arcwright/parser/IntBlocks;" (.ref ib)) (Fld_a1_keyStarts : Fld Z h0 a1 cs0 "keyStarts" "[I" (.ref ks)) (Fld_a1_labelStarts : Fld Z h0 a1 cs0 "labelStarts" "[I" .null) (Fld_a1_size : Fld Z h0 a1 cs0 "size" "I" (.int (1 : Int32))) (E_ib : Exa Z h0 ib cs1) (Fld_ib_size : Fld Z h0 ib cs1 "size" "I" (.int x_s)) (Fld_ib_blocks : Fld Z h0 ib cs1 "blocks" "[[I" (.ref bl)) (V_ks : Arv Z h0 ks kk .int (4 : Int32) [(.int x0), (.int x1), (.int x2), (.int x3)] (.int (0 : Int32))) (V_a2 : Arv Z h0 a2 k2 .int (3 : Int32) [(.int y0), (.int y1), (.int y2)] (.int (0 : Int32))) (g_a1 : n0 ≤ a1) (g_ib : n0 ≤ ib) (g_ks : n0 ≤ ks) (ne_ks_a2 : ks ≠ a2) (g_bl : n0 ≤ bl) (ne_ks_bl : ks ≠ bl) (ne_a2_bl : a2 ≠ bl) (hy0 : ¬ (y0 < (0 : Int32))) (hy1 : ¬ (y1 < (0 : Int32))) (hy2 : ¬ (y2 < (0 : Int32))) (hn0 : (0 : Int32) < p4) (hn3 : ¬ ((3 : Int32) < p4)) (V_bl : Arv Z h0 bl kb (.array .int) (16 : Int32) ((.ref c0) :: own_n15) .null) (V_c0 : Arv Z h0 c0 kc .int (65536 : Int32) vsc (.int (0 : Int32))) (hlen : 16 ≤ vsc.length) (g_c0 : n0 ≤ c0) (ne_a2_c0 : a2 ≠ c0) (ne_bl_c0 : bl ≠ c0) (ne_ks_c0 : ks ≠ c0) (hs0 : (0 : Int32) < x_s) (hs6 : ¬ ((6 : Int32) < x_s)) :
    MetFree l mn0 (head1 (Jvm.Cond.code mn0 prog_25_method_3_code 4 (some .int) :: ws) ({ frames := 2, cells := 0, slots := 0, locals := 58 } : Room)) (fun a U => a = #[(.ref a1), (.ref a2), (.int p4)] ∧ Z.Warmed39 U.vm ∧ U.heap = h0) (fun _ _ _ _ _ => True) (fun _ U o U' => ∃ v L, o = .returned v ∧ Qrmap4_1F1 Z a1 a2 k2 y0 y1 y2 p4 ib ks kk bl kb x0 x1 x2 x3 x_s c0 kc vsc h0 n0 v U'.heap L ∧ FrameEnd U o U' L ({ frames := 2, cells := 0, slots := 0, locals := 58 } : Room).cells ({ frames := 2, cells := 0, slots := 0, locals := 58 } : Room).slots) := by
 refine MetFree.of_bodySF (plainFor_of_name pn_4) hisR ?_
 intro p e s m args below meth c s₁ Bd hml0 hP hK
 obtain ⟨rfl, hZ, hh⟩ := hP
 have hx := Bd.exec
 have hby := Bd.bytes
 have hml : c.maxLocals = 4 := hml0
 have hown : s.vm.findClass cs0 = some m.cls := findClass_of_methodNamed Bd.named
 have hnm := (name_of_methodNamed Bd.named Bd.method).1
 have X0 : Stand p l e ({ frames := 2, cells := 0, slots := 0, locals := 58 } : Room) s m #[(.ref a1), (.ref a2), (.int p4)] below meth c s₁ [] 0 0 := Stand.of_body Bd
 have e0 : s₁.heap = h0 := by rw [← hh, Bd.state]; rfl
 have N0 := Fr.nil n0
 refine own_go (b := (s₁.setTop (mkF m 0 #[rv a1, rv a2, iv p4, .unset] []))) (fun _ k => castTop (ef_rmap4_1F1 m a1 a2 p4) k) ?_
 refine own_go (b := (s₁.setTop (mkF m 1 #[rv a1, rv a2, iv p4, .unset] [(.ref a1)]))) (fun _ k => XS.aloadN X0.here hx rfl (hb hby d4_0) rfl rfl k) ?_
 refine own_getf X0 hx hZ hown (ow hw 31 rfl) Via.refl e0 Fld_a1_labelStarts rfl rfl (hb hby d4_1) (fun T1 X1 e1 => ?_)
 refine own_go (b := (T1.setTop (mkF m 19 #[rv a1, rv a2, iv p4, iv (0 : Int32)] []))) (fun _ k => XS.ifnullYes X1.here hx rfl (pc0 := 4) (pc' := 17) rfl (hb hby d4_4) rfl (by decide) (by decide) (XS.iconst X1.here hx rfl (hb hby d4_17) (XS.istoreN X1.here hx rfl (hb hby d4_18) rfl (l' := #[rv a1, rv a2, iv p4, iv (0 : Int32)]) rfl k))) ?_
 refine own_join (A := Int32) (C := fun ii => True) (f := fun ii => (T1.setTop (mkF m 52 #[rv a1, rv a2, iv p4, iv ii] []))) ?_ ?_
 · intro ii hj2
   refine own_go (b := (T1.setTop (mkF m 54 #[rv a1, rv a2, iv p4, iv ii] [(.ref a1), (.ref a1)]))) (fun _ k => XS.aloadN X1.here hx rfl (hb hby d4_52) rfl rfl (XS.dup X1.here hx rfl (hb hby d4_53) rfl rfl k)) ?_
   refine own_getf X1 hx hZ hown (ow hw 33 rfl) Via.refl e1 Fld_a1_size rfl rfl (hb hby d4_54) (fun T3 X3 e3 => ?_)
   refine own_go (b := (T3.setTop (mkF m 60 #[rv a1, rv a2, iv p4, iv ii] [(.int (2 : Int32)), (.ref a1), (.int (1 : Int32))]))) (fun _ k => XS.dupX1 X3.here hx rfl (hb hby d4_57) rfl rfl rfl (XS.iconst X3.here hx rfl (hb hby d4_58) (XS.iadd X3.here hx rfl (hb hby d4_59) rfl k))) ?_
   obtain ⟨T4, h4, X4, e4, W4, st4⟩ := putF X3 hx hZ hown (host := "") (Or.inl (ow hw 33 rfl)) Via.refl e3 Fld_a1_size E_a1 (Or.inl (ow hw 34 rfl)) (ow hw 3 rfl) (ty := .int) (by decide) rfl rfl (g := (mkF m 60 #[rv a1, rv a2, iv p4, iv ii] [(.int (2 : Int32)), (.ref a1), (.int (1 : Int32))])) rfl rfl (hb hby d4_60)
   have N4 := Fr.snoc X4 N0 g_a1
   have Zs5 : n0 ≤ h4.size := Nat.le_trans Z0 (Keep.of_wr W4).1
   have F4 : Fld Z h4 a1 cs0 "size" "I" (.int (2 : Int32)) := Fld_a1_size.same W4
   refine own_go (b := (T4.setTop (mkF m 65 #[rv a1, rv a2, iv p4, iv (1 : Int32)] [(.ref a1)]))) (fun _ k => st4 _ (XS.istoreN X4.here hx rfl (hb hby d4_63) rfl (l' := #[rv a1, rv a2, iv p4, iv (1 : Int32)]) rfl (XS.aloadN X4.here hx rfl (hb hby d4_64) rfl rfl k))) ?_
   refine own_getf X4 hx hZ hown (ow hw 33 rfl) Via.refl e4 F4 rfl rfl (hb hby d4_65) (fun T6 X6 e6 => ?_)
   refine own_go (b := (T6.setTop (mkF m 71 #[rv a1, rv a2, iv p4, iv (1 : Int32)] [(.ref a1), (.int (3 : Int32))]))) (fun _ k => XS.iconst X6.here hx rfl (hb hby d4_68) (XS.iadd X6.here hx rfl (hb hby d4_69) rfl (XS.aloadN X6.here hx rfl (hb hby d4_70) rfl rfl k))) ?_
   have F7 := Fld_a1_keyStarts.other W4 (Or.inr (slot_ne (Or.inl (ow hw 25 rfl)) (Or.inl (ow hw 34 rfl)) (by decide) (t := (.array .int)) (t' := .int) (by decide) (by decide)))
   refine own_getf X6 hx hZ hown (ow hw 24 rfl) Via.refl e6 F7 rfl rfl (hb hby d4_71) (fun T8 X8 e8 => ?_)
   obtain ⟨cn10, An10, -⟩ := id V_ks
   have nx11 : ks ≠ a1 := (Ne.symm (ne_arr E_a1 (ow hw 3 rfl) An10))
   have F12 := V_ks.other W4 nx11
   obtain ⟨cl9, Ar9, -, Sz9, Nn9, -, -⟩ := id F12
   refine own_go (b := (T8.setTop (mkF m 97 #[rv a1, rv a2, iv p4, iv (1 : Int32)] [(.ref a1)]))) (fun _ k => X8.arraylength hx (by rw [e8]; exact Ar9.1) (State.isArrayOf_alike hZ.alike Ar9.2.1) (g := (mkF m 74 #[rv a1, rv a2, iv p4, iv (1 : Int32)] [(.ref ks), (.int (3 : Int32))])) rfl rfl (hb hby d4_74) _ (by rw [len_of Sz9 Nn9]; exact (XS.icmpYes X8.here hx rfl (pc0 := 75) (pc' := 96) rfl (hb hby d4_75) rfl (flt (by decide : ¬ ((4 : Int32) < (3 : Int32)))).2.2.2 (by decide) (by decide) (XS.aloadN X8.here hx rfl (hb hby d4_96) rfl rfl k)))) ?_
   have F13 := Fld_a1_keys.other W4 (Or.inr (slot_ne (Or.inr (ow hw 23 rfl)) (Or.inl (ow hw 34 rfl)) (by decide) (t := (.object cs1)) (t' := .int) (by decide) (by decide)))
   refine own_getf X8 hx hZ hown (ow hw 22 rfl) Via.refl e8 F13 rfl rfl (hb hby d4_97) (fun T14 X14 e14 => ?_)
   refine own_go (b := (T14.setTop (mkF m 103 #[rv a1, rv a2, iv p4, iv (1 : Int32)] [(.int p4), (.int (0 : Int32)), (.ref a2), (.ref ib)]))) (fun _ k => XS.aloadN X14.here hx rfl (hb hby d4_100) rfl rfl (XS.iconst X14.here hx rfl (hb hby d4_101) (XS.iloadN X14.here hx rfl (hb hby d4_102) rfl k))) ?_
   have F16 := E_ib.wr W4
   have nx17 : ib ≠ a1 := (ne_exa E_ib E_a1 (by decide))
   have F18 := Fld_ib_size.other W4 (Or.inl nx17)
   have F19 := Fld_ib_blocks.other W4 (Or.inl nx17)
   obtain ⟨cn20, An20, -⟩ := id V_bl
   have nx21 : bl ≠ a1 := (Ne.symm (ne_arr E_a1 (ow hw 3 rfl) An20))
   have F22 := V_bl.other W4 nx21
   obtain ⟨cn23, An23, -⟩ := id V_c0
   have nx24 : c0 ≠ a1 := (Ne.symm (ne_arr E_a1 (ow hw 3 rfl) An23))
   have F25 := V_c0.other W4 nx24
   obtain ⟨cn26, An26, -⟩ := id V_a2
   have nx27 : a2 ≠ a1 := (Ne.symm (ne_arr E_a1 (ow hw 3 rfl) An26))
   have F28 := V_a2.other W4 nx27
   refine own_virt (W := 0) X14 hx hZ hown e14 (ow hw 47 rfl) (ow hw 48 rfl) (ow hw 50 rfl) (ow hw 49 rfl) (rmaddF l Z a0 hw [] ib a2 k2 y0 y1 y2 p4 bl kb x_s c0 kc vsc h4 n0 Zs5 F16 F18 F19 F22 g_ib g_c0 F25 F28 ne_a2_c0 ne_bl_c0 hlen hn0 hn3 hs0 hs6) (ow hw 51 rfl) (ow hw 13 rfl) F16 rfl (by rw [hml]; rfl) rfl (hb hby d4_103) (lenOf pd___III_V rfl) rfl (by decide) (fun T15 v15 Ll15 X15 hQ15 => ?_)
   obtain ⟨vsn_15, rfl, N15q, K15, P15_0, P15_1, P15_2, P15_3⟩ := hQ15
   have N15 := Fr.app N4 N15q
   have Zs29 : n0 ≤ T15.heap.size := Nat.le_trans Zs5 K15.1
   refine own_go (b := (T15.setTop (mkF m 107 #[rv a1, rv a2, iv p4, iv (1 : Int32)] [(.ref a1)]))) (fun _ k => XS.aloadN X15.here hx rfl (hb hby d4_106) rfl rfl k) ?_
   have F30 := F7.keep K15 (ninS (Ne.symm nx17) (ninS (Ne.symm nx24) nin0))
   refine own_getf X15 hx hZ hown (ow hw 24 rfl) Via.refl rfl F30 rfl rfl (hb hby d4_107) (fun T31 X31 e31 => ?_)
   refine own_go (b := (T31.setTop (mkF m 114 #[rv a1, rv a2, iv p4, iv (1 : Int32)] [(.ref a1), (.int (2 : Int32)), (.ref ks)]))) (fun _ k => XS.iloadN X31.here hx rfl (hb hby d4_110) rfl (XS.iconst X31.here hx rfl (hb hby d4_111) (XS.iadd X31.here hx rfl (hb hby d4_112) rfl (XS.aloadN X31.here hx rfl (hb hby d4_113) rfl rfl k)))) ?_
   have F32 := F13.keep K15 (ninS (Ne.symm nx17) (ninS (Ne.symm nx24) nin0))
   refine own_getf X31 hx hZ hown (ow hw 22 rfl) Via.refl e31 F32 rfl rfl (hb hby d4_114) (fun T33 X33 e33 => ?_)
   have F35 := F16.keep K15
   refine own_virt (W := 2) X33 hx hZ hown e33 (ow hw 63 rfl) (ow hw 64 rfl) (ow hw 66 rfl) (ow hw 65 rfl) (rm9 l Z a0 hw [] ib (x_s + p4) T15.heap n0 Zs29 P15_0) (ow hw 67 rfl) (ow hw 13 rfl) F35 rfl (by rw [hml]; rfl) rfl (hb hby d4_117) (lenOf pd___I rfl) rfl (by decide) (fun T34 v34 Ll34 X34 hQ34 => ?_)
   obtain ⟨rfl, N34q, eh34⟩ := hQ34
   have N34 := Fr.app N15 N34q
   obtain ⟨cn37, An37, -⟩ := id V_ks
   have nx38 : ks ≠ ib := (Ne.symm (ne_arr E_ib (ow hw 12 rfl) An37))
   have F39 := F12.keep K15 (ninS nx38 (ninS ne_ks_c0 nin0))
   obtain ⟨cl36, Ar36, ql36, Sz36, Nn36, Hl36, Gl36⟩ := id F39
   have hin36 : ¬ ((2 : Int32) < 0 ∨ cl36.slots.size ≤ ((2 : Int32)).toNatClampNeg) := inb_of Sz36 ⟨by decide, by decide⟩
   obtain ⟨T36, h36, X36, e36, W36, st36⟩ := stI X34 hx hZ eh34 Ar36 (j := (2 : Int32)) hin36 (g := (mkF m 120 #[rv a1, rv a2, iv p4, iv (1 : Int32)] [(.int (x_s + p4)), (.int (2 : Int32)), (.ref ks)])) rfl rfl (hb hby d4_120)
   have N36 := Fr.snoc X36 N34 g_ks
   have Zs40 : n0 ≤ h36.size := Nat.le_trans Zs29 (Keep.of_wr W36).1
   have V36 : Arv Z h36 ks kk .int (4 : Int32) [(.int x0), (.int x1), (.int (x_s + p4)), (.int x3)] (.int (0 : Int32)) := Arv.set Ar36 ql36 Sz36 Nn36 Hl36 Gl36 rfl W36 2 rfl (Nat.le_of_ble_eq_true rfl)
   refine own_go (b := (T36.setTop (mkF m 122 #[rv a1, rv a2, iv p4, iv (1 : Int32)] [(.int (1 : Int32))]))) (fun _ k => st36 _ (XS.iloadN X36.here hx rfl (hb hby d4_121) rfl k)) ?_
   have K41 := (Keep.refl h0 [a1, ib, ks, c0]).wr W4 (Or.inl (List.mem_of_getElem? (i := 0) rfl))
   have K42 := K41.trans K15 (allS (Or.inl (List.mem_of_getElem? (i := 1) rfl)) (allS (Or.inl (List.mem_of_getElem? (i := 3) rfl)) all0))
   have K43 := K42.wr W36 (Or.inl (List.mem_of_getElem? (i := 2) rfl))
   have F44 := F32.other W36 (Or.inl (Ne.symm nx11))
   have F45 := Fld_a1_labelStarts.other W4 (Or.inr (slot_ne (Or.inl (ow hw 32 rfl)) (Or.inl (ow hw 34 rfl)) (by decide) (t := (.array .int)) (t' := .int) (by decide) (by decide)))
   have F46 := F45.keep K15 (ninS (Ne.symm nx17) (ninS (Ne.symm nx24) nin0))
   have F47 := F46.other W36 (Or.inl (Ne.symm nx11))
   have F48 := F4.keep K15 (ninS (Ne.symm nx17) (ninS (Ne.symm nx24) nin0))
   have F49 := F48.other W36 (Or.inl (Ne.symm nx11))
   have F50 := F30.other W36 (Or.inl (Ne.symm nx11))
   have F51 := P15_0.other W36 (Or.inl (Ne.symm nx38))
   have F52 := P15_1.other W36 (Or.inl (Ne.symm nx38))
   have F53 := P15_2.other W36 (Ne.symm ne_ks_c0)
   obtain ⟨fs, hr, hrun, hended, hW, hsame⟩ := X36.leave (v := some (.int (1 : Int32))) (fun h => by rw [Bd.returns] at h; cases h)
   exact ⟨_, _, retOut X36 hx Bd.returns rfl (Or.inl ⟨rfl, Or.inl rfl, _, rfl⟩) (hb hby d4_122) hr, hrun, hended, _, _, rfl, (show Qrmap4_1F1 Z a1 a2 k2 y0 y1 y2 p4 ib ks kk bl kb x0 x1 x2 x3 x_s c0 kc vsc h0 n0 _ T36.heap _ from (by rw [e36]; exact ⟨vsn_15, rfl, N36, K43, F44, F47, F49, F50, V36, F51, F52, F53, P15_3⟩)), ⟨_, rfl⟩, hW, hsame.mono (by decide) (by decide)⟩
 · intro J2
   refine own_go (b := (T1.setTop (mkF m 26 #[rv a1, rv a2, iv p4, iv (0 : Int32)] [(.int (0 : Int32)), (.ref a2)]))) (fun _ k => XS.iloadN X1.here hx rfl (hb hby d4_19) rfl (XS.iloadN X1.here hx rfl (hb hby d4_20) rfl (XS.icmpNo X1.here hx rfl (hb hby d4_21) rfl (tlt hn0).2.1 (XS.aloadN X1.here hx rfl (hb hby d4_24) rfl rfl (XS.iloadN X1.here hx rfl (hb hby d4_25) rfl k))))) ?_
   obtain ⟨cl54, Ar54, ql54, Sz54, Nn54, Hl54, Gl54⟩ := id V_a2
   have hin54 : ¬ ((0 : Int32) < 0 ∨ cl54.slots.size ≤ ((0 : Int32)).toNatClampNeg) := inb_of Sz54 ⟨by decide, by decide⟩
   refine own_go (b := (T1.setTop (mkF m 21 #[rv a1, rv a2, iv p4, iv (1 : Int32)] [(.int p4), (.int (1 : Int32))]))) (fun _ k => X1.iaload hx (j := (0 : Int32)) (v := (.int y0)) (by rw [e1]; exact Ar54.1) (State.isArrayOf_alike hZ.alike Ar54.2.1) Ar54.2.2 hin54 (Hl54.at hin54 rfl) (g := (mkF m 26 #[rv a1, rv a2, iv p4, iv (0 : Int32)] [(.int (0 : Int32)), (.ref a2)])) rfl rfl (hb hby d4_26) _ (XS.ifYes X1.here hx rfl (pc0 := 27) (pc' := 46) rfl (hb hby d4_27) rfl ((if0 _ _).trans (flt hy0).2.1) (by decide) (by decide) (XS.iinc X1.here hx rfl (hb hby d4_46) rfl (l' := #[rv a1, rv a2, iv p4, iv (1 : Int32)]) rfl (XS.goto X1.here hx rfl (pc0 := 49) (pc' := 19) rfl (hb hby d4_49) (by decide) (by decide) (XS.iloadN X1.here hx rfl (hb hby d4_19) rfl (XS.iloadN X1.here hx rfl (hb hby d4_20) rfl k)))))) ?_
   by_cases hc21_55 : (1 : Int32) < p4
   · skip
     refine own_go (b := (T1.setTop (mkF m 26 #[rv a1, rv a2, iv p4, iv (1 : Int32)] [(.int (1 : Int32)), (.ref a2)]))) (fun _ k => XS.icmpNo X1.here hx rfl (hb hby d4_21) rfl (tlt hc21_55).2.1 (XS.aloadN X1.here hx rfl (hb hby d4_24) rfl rfl (XS.iloadN X1.here hx rfl (hb hby d4_25) rfl k))) ?_
     obtain ⟨cl56, Ar56, ql56, Sz56, Nn56, Hl56, Gl56⟩ := id V_a2
     have hin56 : ¬ ((1 : Int32) < 0 ∨ cl56.slots.size ≤ ((1 : Int32)).toNatClampNeg) := inb_of Sz56 ⟨by decide, by decide⟩
     refine own_go (b := (T1.setTop (mkF m 21 #[rv a1, rv a2, iv p4, iv (2 : Int32)] [(.int p4), (.int (2 : Int32))]))) (fun _ k => X1.iaload hx (j := (1 : Int32)) (v := (.int y1)) (by rw [e1]; exact Ar56.1) (State.isArrayOf_alike hZ.alike Ar56.2.1) Ar56.2.2 hin56 (Hl56.at hin56 rfl) (g := (mkF m 26 #[rv a1, rv a2, iv p4, iv (1 : Int32)] [(.int (1 : Int32)), (.ref a2)])) rfl rfl (hb hby d4_26) _ (XS.ifYes X1.here hx rfl (pc0 := 27) (pc' := 46) rfl (hb hby d4_27) rfl ((if0 _ _).trans (flt hy1).2.1) (by decide) (by decide) (XS.iinc X1.here hx rfl (hb hby d4_46) rfl (l' := #[rv a1, rv a2, iv p4, iv (2 : Int32)]) rfl (XS.goto X1.here hx rfl (pc0 := 49) (pc' := 19) rfl (hb hby d4_49) (by decide) (by decide) (XS.iloadN X1.here hx rfl (hb hby d4_19) rfl (XS.iloadN X1.here hx rfl (hb hby d4_20) rfl k)))))) ?_
     by_cases hc21_57 : (2 : Int32) < p4
     · skip
       refine own_go (b := (T1.setTop (mkF m 26 #[rv a1, rv a2, iv p4, iv (2 : Int32)] [(.int (2 : Int32)), (.ref a2)]))) (fun _ k => XS.icmpNo X1.here hx rfl (hb hby d4_21) rfl (tlt hc21_57).2.1 (XS.aloadN X1.here hx rfl (hb hby d4_24) rfl rfl (XS.iloadN X1.here hx rfl (hb hby d4_25) rfl k))) ?_
       obtain ⟨cl58, Ar58, ql58, Sz58, Nn58, Hl58, Gl58⟩ := id V_a2
       have hin58 : ¬ ((2 : Int32) < 0 ∨ cl58.slots.size ≤ ((2 : Int32)).toNatClampNeg) := inb_of Sz58 ⟨by decide, by decide⟩
       refine own_go (b := (T1.setTop (mkF m 52 #[rv a1, rv a2, iv p4, iv (3 : Int32)] []))) (fun _ k => X1.iaload hx (j := (2 : Int32)) (v := (.int y2)) (by rw [e1]; exact Ar58.1) (State.isArrayOf_alike hZ.alike Ar58.2.1) Ar58.2.2 hin58 (Hl58.at hin58 rfl) (g := (mkF m 26 #[rv a1, rv a2, iv p4, iv (2 : Int32)] [(.int (2 : Int32)), (.ref a2)])) rfl rfl (hb hby d4_26) _ (XS.ifYes X1.here hx rfl (pc0 := 27) (pc' := 46) rfl (hb hby d4_27) rfl ((if0 _ _).trans (flt hy2).2.1) (by decide) (by decide) (XS.iinc X1.here hx rfl (hb hby d4_46) rfl (l' := #[rv a1, rv a2, iv p4, iv (3 : Int32)]) rfl (XS.goto X1.here hx rfl (pc0 := 49) (pc' := 19) rfl (hb hby d4_49) (by decide) (by decide) (XS.iloadN X1.here hx rfl (hb hby d4_19) rfl (XS.iloadN X1.here hx rfl (hb hby d4_20) rfl (XS.icmpYes X1.here hx rfl (pc0 := 21) (pc' := 52) rfl (hb hby d4_21) rfl (flt hn3).2.1 (by decide) (by decide) k))))))) ?_
       exact J2 (3 : Int32) trivial
     · skip
       refine own_go (b := (T1.setTop (mkF m 52 #[rv a1, rv a2, iv p4, iv (2 : Int32)] []))) (fun _ k => XS.icmpYes X1.here hx rfl (pc0 := 21) (pc' := 52) rfl (hb hby d4_21) rfl (flt hc21_57).2.1 (by decide) (by decide) k) ?_
       exact J2 (2 : Int32) trivial
   · skip
     refine own_go (b := (T1.setTop (mkF m 52 #[rv a1, rv a2, iv p4, iv (1 : Int32)] []))) (fun _ k => XS.icmpYes X1.here hx rfl (pc0 := 21) (pc' := 52) rfl (hb hby d4_21) rfl (flt hc21_55).2.1 (by decide) (by decide) k) ?_
     exact J2 (1 : Int32) trivial
theorem ef_rmap4_2N0 (m : MethodId) (x0 : Addr) (x1 : Addr) (x2 : Int32) : entryFrame m #[(.ref x0), (.ref x1), (.int x2)] 4 = mkF m 0 #[rv x0, rv x1, iv x2, .unset] [] := by first | (simp [entryFrame, mkF, argsToLocals, Value.category]; done) | rfl
def Qrmap4_2N0 (Z : State) (a1 : Addr) (a2 : Addr) (k2 : ClassId) (y0 : Int32) (y1 : Int32) (y2 : Int32) (ib : Addr) (ks : Addr) (kk : ClassId) (x_s : Int32) (x0 : Int32) (x1 : Int32) (x2 : Int32) (x3 : Int32) (h0 : Heap) (n0 : Nat) (v : Option Value) (h : Heap) (L : List Loc) : Prop := v = some (.int (2 : Int32)) ∧ Fr n0 L ∧ Keep h0 h [a1, ks] ∧ (Fld Z h a1 cs0 "keys" "Lcom/example/arcwright/arcwright/parser/IntBlocks;" (.ref ib)) ∧ (Fld Z h a1 cs0 "labelStarts" "[I" .null) ∧ (Fld Z h a1 cs0 "size" "I" (.int (3 : Int32))) ∧ (Fld Z h a1 cs0 "keyStarts" "[I" (.ref ks)) ∧ (Arv Z h ks kk .int (4 : Int32) [(.int x0), (.int x1), (.int x2), (.int x_s)] (.int (0 : Int32)))
set_option maxRecDepth 65536 in
set_option maxHeartbeats 40000000 in
theorem rmap4_2N0 (l : Launch) (Z : State) (a0 : Array Value) (hw : ∀ d ∈ tables_1, d.before a0 Z = true) (ws : List Jvm.Cond) (a1 : Addr) (a2 : Addr) (k2 : ClassId) (y0 : Int32) (y1 : Int32) (y2 : Int32) (ib : Addr) (ks : Addr) (kk : ClassId) (x_s : Int32) (x0 : Int32) (x1 : Int32) (x2 : Int32) (x3 : Int32) (h0 : Heap) (n0 : Nat) (Z0 : n0 ≤ h0.size) (E_a1 : Exa Z h0 a1 cs0) (Fld_a1_keys : Fld Z h0 a1 cs0 "keys" "Lcom/example/arcwright/arcwright/parser/IntBlocks;" (.ref ib)) (Fld_a1_keyStarts : Fld Z h0 a1 cs0 "keyStarts" "[I" (.ref ks)) (Fld_a1_labelStarts : Fld Z h0 a1 cs0 "labelStarts" "[I" .null) (Fld_a1_size : Fld Z h0 a1 cs0 "size" "I" (.int (2 : Int32))) (E_ib : Exa Z h0 ib cs1) (Fld_ib_size : Fld Z h0 ib cs1 "size" "I" (.int x_s)) (V_ks : Arv Z h0 ks kk .int (4 : Int32) [(.int x0), (.int x1), (.int x2), (.int x3)] (.int (0 : Int32))) (V_a2 : Arv Z h0 a2 k2 .int (3 : Int32) [(.int y0), (.int y1), (.int y2)] (.int (0 : Int32))) (g_a1 : n0 ≤ a1) (g_ib : n0 ≤ ib) (g_ks : n0 ≤ ks) (ne_ks_a2 : ks ≠ a2) (hy0 : ¬ (y0 < (0 : Int32))) (hy1 : ¬ (y1 < (0 : Int32))) (hy2 : ¬ (y2 < (0 : Int32))) :
    MetFree l mn0 (head1 (Jvm.Cond.code mn0 prog_25_method_3_code 4 (some .int) :: ws) ({ frames := 1, cells := 0, slots := 0, locals := 18 } : Room)) (fun a U => a = #[(.ref a1), (.ref a2), (.int (0 : Int32))] ∧ Z.Warmed39 U.vm ∧ U.heap = h0) (fun _ _ _ _ _ => True) (fun _ U o U' => ∃ v L, o = .returned v ∧ Qrmap4_2N0 Z a1 a2 k2 y0 y1 y2 ib ks kk x_s x0 x1 x2 x3 h0 n0 v U'.heap L ∧ FrameEnd U o U' L ({ frames := 1, cells := 0, slots := 0, locals := 18 } : Room).cells ({ frames := 1, cells := 0, slots := 0, locals := 18 } : Room).slots) := by
 refine MetFree.of_bodySF (plainFor_of_name pn_4) hisR ?_
 intro p e s m args below meth c s₁ Bd hml0 hP hK
 obtain ⟨rfl, hZ, hh⟩ := hP
 have hx := Bd.exec
 have hby := Bd.bytes
 have hml : c.maxLocals = 4 := hml0
 have hown : s.vm.findClass cs0 = some m.cls := findClass_of_methodNamed Bd.named
 have hnm := (name_of_methodNamed Bd.named Bd.method).1
 have X0 : Stand p l e ({ frames := 1, cells := 0, slots := 0, locals := 18 } : Room) s m #[(.ref a1), (.ref a2), (.int (0 : Int32))] below meth c s₁ [] 0 0 := Stand.of_body Bd
 have e0 : s₁.heap = h0 := by rw [← hh, Bd.state]; rfl
 have N0 := Fr.nil n0
 refine own_go (b := (s₁.setTop (mkF m 0 #[rv a1, rv a2, iv (0 : Int32), .unset] []))) (fun _ k => castTop (ef_rmap4_2N0 m a1 a2 (0 : Int32)) k) ?_
 refine own_go (b := (s₁.setTop (mkF m 1 #[rv a1, rv a2, iv (0 : Int32), .unset] [(.ref a1)]))) (fun _ k => XS.aloadN X0.here hx rfl (hb hby d4_0) rfl rfl k) ?_
 refine own_getf X0 hx hZ hown (ow hw 31 rfl) Via.refl e0 Fld_a1_labelStarts rfl rfl (hb hby d4_1) (fun T1 X1 e1 => ?_)
 refine own_go (b := (T1.setTop (mkF m 54 #[rv a1, rv a2, iv (0 : Int32), iv (0 : Int32)] [(.ref a1), (.ref a1)]))) (fun _ k => XS.ifnullYes X1.here hx rfl (pc0 := 4) (pc' := 17) rfl (hb hby d4_4) rfl (by decide) (by decide) (XS.iconst X1.here hx rfl (hb hby d4_17) (XS.istoreN X1.here hx rfl (hb hby d4_18) rfl (l' := #[rv a1, rv a2, iv (0 : Int32), iv (0 : Int32)]) rfl (XS.iloadN X1.here hx rfl (hb hby d4_19) rfl (XS.iloadN X1.here hx rfl (hb hby d4_20) rfl (XS.icmpYes X1.here hx rfl (pc0 := 21) (pc' := 52) rfl (hb hby d4_21) rfl (flt (by decide : ¬ ((0 : Int32) < (0 : Int32)))).2.1 (by decide) (by decide) (XS.aloadN X1.here hx rfl (hb hby d4_52) rfl rfl (XS.dup X1.here hx rfl (hb hby d4_53) rfl rfl k)))))))) ?_
 refine own_getf X1 hx hZ hown (ow hw 33 rfl) Via.refl e1 Fld_a1_size rfl rfl (hb hby d4_54) (fun T2 X2 e2 => ?_)
 refine own_go (b := (T2.setTop (mkF m 60 #[rv a1, rv a2, iv (0 : Int32), iv (0 : Int32)] [(.int (3 : Int32)), (.ref a1), (.int (2 : Int32))]))) (fun _ k => XS.dupX1 X2.here hx rfl (hb hby d4_57) rfl rfl rfl (XS.iconst X2.here hx rfl (hb hby d4_58) (XS.iadd X2.here hx rfl (hb hby d4_59) rfl k))) ?_
 obtain ⟨T3, h3, X3, e3, W3, st3⟩ := putF X2 hx hZ hown (host := "") (Or.inl (ow hw 33 rfl)) Via.refl e2 Fld_a1_size E_a1 (Or.inl (ow hw 34 rfl)) (ow hw 3 rfl) (ty := .int) (by decide) rfl rfl (g := (mkF m 60 #[rv a1, rv a2, iv (0 : Int32), iv (0 : Int32)] [(.int (3 : Int32)), (.ref a1), (.int (2 : Int32))])) rfl rfl (hb hby d4_60)
 have N3 := Fr.snoc X3 N0 g_a1
 have Zs4 : n0 ≤ h3.size := Nat.le_trans Z0 (Keep.of_wr W3).1
 have F3 : Fld Z h3 a1 cs0 "size" "I" (.int (3 : Int32)) := Fld_a1_size.same W3
 refine own_go (b := (T3.setTop (mkF m 65 #[rv a1, rv a2, iv (0 : Int32), iv (2 : Int32)] [(.ref a1)]))) (fun _ k => st3 _ (XS.istoreN X3.here hx rfl (hb hby d4_63) rfl (l' := #[rv a1, rv a2, iv (0 : Int32), iv (2 : Int32)]) rfl (XS.aloadN X3.here hx rfl (hb hby d4_64) rfl rfl k))) ?_
 refine own_getf X3 hx hZ hown (ow hw 33 rfl) Via.refl e3 F3 rfl rfl (hb hby d4_65) (fun T5 X5 e5 => ?_)
 refine own_go (b := (T5.setTop (mkF m 71 #[rv a1, rv a2, iv (0 : Int32), iv (2 : Int32)] [(.ref a1), (.int (4 : Int32))]))) (fun _ k => XS.iconst X5.here hx rfl (hb hby d4_68) (XS.iadd X5.here hx rfl (hb hby d4_69) rfl (XS.aloadN X5.here hx rfl (hb hby d4_70) rfl rfl k))) ?_
 have F6 := Fld_a1_keyStarts.other W3 (Or.inr (slot_ne (Or.inl (ow hw 25 rfl)) (Or.inl (ow hw 34 rfl)) (by decide) (t := (.array .int)) (t' := .int) (by decide) (by decide)))
 refine own_getf X5 hx hZ hown (ow hw 24 rfl) Via.refl e5 F6 rfl rfl (hb hby d4_71) (fun T7 X7 e7 => ?_)
 obtain ⟨cn9, An9, -⟩ := id V_ks
 have nx10 : ks ≠ a1 := (Ne.symm (ne_arr E_a1 (ow hw 3 rfl) An9))
 have F11 := V_ks.other W3 nx10
 obtain ⟨cl8, Ar8, -, Sz8, Nn8, -, -⟩ := id F11
 refine own_go (b := (T7.setTop (mkF m 97 #[rv a1, rv a2, iv (0 : Int32), iv (2 : Int32)] [(.ref a1)]))) (fun _ k => X7.arraylength hx (by rw [e7]; exact Ar8.1) (State.isArrayOf_alike hZ.alike Ar8.2.1) (g := (mkF m 74 #[rv a1, rv a2, iv (0 : Int32), iv (2 : Int32)] [(.ref ks), (.int (4 : Int32))])) rfl rfl (hb hby d4_74) _ (by rw [len_of Sz8 Nn8]; exact (XS.icmpYes X7.here hx rfl (pc0 := 75) (pc' := 96) rfl (hb hby d4_75) rfl (flt (by decide : ¬ ((4 : Int32) < (4 : Int32)))).2.2.2 (by decide) (by decide) (XS.aloadN X7.here hx rfl (hb hby d4_96) rfl rfl k)))) ?_
 have F12 := Fld_a1_keys.other W3 (Or.inr (slot_ne (Or.inr (ow hw 23 rfl)) (Or.inl (ow hw 34 rfl)) (by decide) (t := (.object cs1)) (t' := .int) (by decide) (by decide)))
 refine own_getf X7 hx hZ hown (ow hw 22 rfl) Via.refl e7 F12 rfl rfl (hb hby d4_97) (fun T13 X13 e13 => ?_)
 refine own_go (b := (T13.setTop (mkF m 103 #[rv a1, rv a2, iv (0 : Int32), iv (2 : Int32)] [(.int (0 : Int32)), (.int (0 : Int32)), (.ref a2), (.ref ib)]))) (fun _ k => XS.aloadN X13.here hx rfl (hb hby d4_100) rfl rfl (XS.iconst X13.here hx rfl (hb hby d4_101) (XS.iloadN X13.here hx rfl (hb hby d4_102) rfl k))) ?_
 have F15 := E_ib.wr W3
 refine own_virt (W := 0) X13 hx hZ hown e13 (ow hw 47 rfl) (ow hw 48 rfl) (ow hw 50 rfl) (ow hw 49 rfl) (rmadd0 l Z a0 hw [] ib a2 h3 n0 Zs4) (ow hw 51 rfl) (ow hw 13 rfl) F15 rfl (by rw [hml]; rfl) rfl (hb hby d4_103) (lenOf pd___III_V rfl) rfl (by decide) (fun T14 v14 Ll14 X14 hQ14 => ?_)
 obtain ⟨rfl, N14q, eh14⟩ := hQ14
 have N14 := Fr.app N3 N14q
 refine own_go (b := (T14.setTop (mkF m 107 #[rv a1, rv a2, iv (0 : Int32), iv (2 : Int32)] [(.ref a1)]))) (fun _ k => XS.aloadN X14.here hx rfl (hb hby d4_106) rfl rfl k) ?_
 refine own_getf X14 hx hZ hown (ow hw 24 rfl) Via.refl eh14 F6 rfl rfl (hb hby d4_107) (fun T16 X16 e16 => ?_)
 refine own_go (b := (T16.setTop (mkF m 114 #[rv a1, rv a2, iv (0 : Int32), iv (2 : Int32)] [(.ref a1), (.int (3 : Int32)), (.ref ks)]))) (fun _ k => XS.iloadN X16.here hx rfl (hb hby d4_110) rfl (XS.iconst X16.here hx rfl (hb hby d4_111) (XS.iadd X16.here hx rfl (hb hby d4_112) rfl (XS.aloadN X16.here hx rfl (hb hby d4_113) rfl rfl k)))) ?_
 refine own_getf X16 hx hZ hown (ow hw 22 rfl) Via.refl e16 F12 rfl rfl (hb hby d4_114) (fun T17 X17 e17 => ?_)
 have nx19 : ib ≠ a1 := (ne_exa E_ib E_a1 (by decide))
 have F20 := Fld_ib_size.other W3 (Or.inl nx19)
 refine own_virt (W := 2) X17 hx hZ hown e17 (ow hw 63 rfl) (ow hw 64 rfl) (ow hw 66 rfl) (ow hw 65 rfl) (rm9 l Z a0 hw [] ib x_s h3 n0 Zs4 F20) (ow hw 67 rfl) (ow hw 13 rfl) F15 rfl (by rw [hml]; rfl) rfl (hb hby d4_117) (lenOf pd___I rfl) rfl (by decide) (fun T18 v18 Ll18 X18 hQ18 => ?_)
 obtain ⟨rfl, N18q, eh18⟩ := hQ18
 have N18 := Fr.app N14 N18q
 obtain ⟨cl21, Ar21, ql21, Sz21, Nn21, Hl21, Gl21⟩ := id F11
 have hin21 : ¬ ((3 : Int32) < 0 ∨ cl21.slots.size ≤ ((3 : Int32)).toNatClampNeg) := inb_of Sz21 ⟨by decide, by decide⟩
 obtain ⟨T21, h21, X21, e21, W21, st21⟩ := stI X18 hx hZ eh18 Ar21 (j := (3 : Int32)) hin21 (g := (mkF m 120 #[rv a1, rv a2, iv (0 : Int32), iv (2 : Int32)] [(.int x_s), (.int (3 : Int32)), (.ref ks)])) rfl rfl (hb hby d4_120)
 have N21 := Fr.snoc X21 N18 g_ks
 have Zs22 : n0 ≤ h21.size := Nat.le_trans Zs4 (Keep.of_wr W21).1
 have V21 : Arv Z h21 ks kk .int (4 : Int32) [(.int x0), (.int x1), (.int x2), (.int x_s)] (.int (0 : Int32)) := Arv.set Ar21 ql21 Sz21 Nn21 Hl21 Gl21 rfl W21 3 rfl (Nat.le_of_ble_eq_true rfl)
 refine own_go (b := (T21.setTop (mkF m 122 #[rv a1, rv a2, iv (0 : Int32), iv (2 : Int32)] [(.int (2 : Int32))]))) (fun _ k => st21 _ (XS.iloadN X21.here hx rfl (hb hby d4_121) rfl k)) ?_
 have K23 := (Keep.refl h0 [a1, ks]).wr W3 (Or.inl (List.mem_of_getElem? (i := 0) rfl))
 have K24 := K23.wr W21 (Or.inl (List.mem_of_getElem? (i := 1) rfl))
 have F25 := F12.other W21 (Or.inl (Ne.symm nx10))
 have F26 := Fld_a1_labelStarts.other W3 (Or.inr (slot_ne (Or.inl (ow hw 32 rfl)) (Or.inl (ow hw 34 rfl)) (by decide) (t := (.array .int)) (t' := .int) (by decide) (by decide)))
 have F27 := F26.other W21 (Or.inl (Ne.symm nx10))
 have F28 := F3.other W21 (Or.inl (Ne.symm nx10))
 have F29 := F6.other W21 (Or.inl (Ne.symm nx10))
 obtain ⟨fs, hr, hrun, hended, hW, hsame⟩ := X21.leave (v := some (.int (2 : Int32))) (fun h => by rw [Bd.returns] at h; cases h)
 exact ⟨_, _, retOut X21 hx Bd.returns rfl (Or.inl ⟨rfl, Or.inl rfl, _, rfl⟩) (hb hby d4_122) hr, hrun, hended, _, _, rfl, (show Qrmap4_2N0 Z a1 a2 k2 y0 y1 y2 ib ks kk x_s x0 x1 x2 x3 h0 n0 _ T21.heap _ from (by rw [e21]; exact ⟨rfl, N21, K24, F25, F27, F28, F29, V21⟩)), ⟨_, rfl⟩, hW, hsame.mono (by decide) (by decide)⟩
theorem ef_rmap4_2E1 (m : MethodId) (x0 : Addr) (x1 : Addr) (x2 : Int32) : entryFrame m #[(.ref x0), (.ref x1), (.int x2)] 4 = mkF m 0 #[rv x0, rv x1, iv x2, .unset] [] := by first | (simp [entryFrame, mkF, argsToLocals, Value.category]; done) | rfl
def Qrmap4_2E1 (Z : State) (a1 : Addr) (a2 : Addr) (k2 : ClassId) (y0 : Int32) (y1 : Int32) (y2 : Int32) (p4 : Int32) (ib : Addr) (ks : Addr) (kk : ClassId) (bl : Addr) (kb : ClassId) (x0 : Int32) (x1 : Int32) (x2 : Int32) (x3 : Int32) (h0 : Heap) (n0 : Nat) (v : Option Value) (h : Heap) (L : List Loc) : Prop := ∃ (cn : Addr) (kn : ClassId) (vsn : List Value), v = some (.int (2 : Int32)) ∧ Fr n0 L ∧ Keep h0 h [a1, ib, ks, bl] ∧ (Fld Z h a1 cs0 "keys" "Lcom/example/arcwright/arcwright/parser/IntBlocks;" (.ref ib)) ∧ (Fld Z h a1 cs0 "labelStarts" "[I" .null) ∧ (Fld Z h a1 cs0 "size" "I" (.int (3 : Int32))) ∧ (Fld Z h a1 cs0 "keyStarts" "[I" (.ref ks)) ∧ (Arv Z h ks kk .int (4 : Int32) [(.int x0), (.int x1), (.int x2), (.int p4)] (.int (0 : Int32))) ∧ (Fld Z h ib cs1 "size" "I" (.int p4)) ∧ (Fld Z h ib cs1 "blocks" "[[I" (.ref bl)) ∧ (h0.size ≤ cn) ∧ (Arv Z h bl kb (.array .int) (16 : Int32) ((.ref cn) :: own_n15) .null) ∧ (Arv Z h cn kn .int (65536 : Int32) vsn (.int (0 : Int32))) ∧ (16 ≤ vsn.length)
set_option maxRecDepth 65536 in
set_option maxHeartbeats 40000000 in
theorem rmap4_2E1 (l : Launch) (Z : State) (a0 : Array Value) (hw : ∀ d ∈ tables_1, d.before a0 Z = true) (ws : List Jvm.Cond) (a1 : Addr) (a2 : Addr) (k2 : ClassId) (y0 : Int32) (y1 : Int32) (y2 : Int32) (p4 : Int32) (ib : Addr) (ks : Addr) (kk : ClassId) (bl : Addr) (kb : ClassId) (x0 : Int32) (x1 : Int32) (x2 : Int32) (x3 : Int32) (h0 : Heap) (n0 : Nat) (Z0 : n0 ≤ h0.size) (E_a1 : Exa Z h0 a1 cs0) (Fld_a1_keys : Fld Z h0 a1 cs0 "keys" "Lcom/example/arcwright/arcwright/parser/IntBlocks;" (.ref ib)) (Fld_a1_keyStarts : Fld Z h0 a1 cs0 "keyStarts" "[I" (.ref ks)) (Fld_a1_labelStarts : Fld Z h0 a1 cs0 "labelStarts" "[I" .null) (Fld_a1_size : Fld Z h0 a1 cs0 "size" "I" (.int (2 : Int32))) (E_ib : Exa Z h0 ib cs1) (Fld_ib_size : Fld Z h0 ib cs1 "size" "I" (.int (0 : Int32))) (Fld_ib_blocks : Fld Z h0 ib cs1 "blocks" "[[I" (.ref bl)) (V_ks : Arv Z h0 ks kk .int (4 : Int32) [(.int x0), (.int x1), (.int x2), (.int x3)] (.int (0 : Int32))) (V_a2 : Arv Z h0 a2 k2 .int (3 : Int32) [(.int y0), (.int y1), (.int y2)] (.int (0 : Int32))) (g_a1 : n0 ≤ a1) (g_ib : n0 ≤ ib) (g_ks : n0 ≤ ks) (ne_ks_a2 : ks ≠ a2) (g_bl : n0 ≤ bl) (ne_ks_bl : ks ≠ bl) (ne_a2_bl : a2 ≠ bl) (hy0 : ¬ (y0 < (0 : Int32))) (hy1 : ¬ (y1 < (0 : Int32))) (hy2 : ¬ (y2 < (0 : Int32))) (hn0 : (0 : Int32) < p4) (hn3 : ¬ ((3 : Int32) < p4)) (V_bl : Arv Z h0 bl kb (.array .int) (16 : Int32) own_n16 .null) (Ov_bl : OvrA Z kb .int "[I") :
    MetFree l mn0 (head1 (Jvm.Cond.code mn0 prog_25_method_3_code 4 (some .int) :: ws) ({ frames := 2, cells := 1, slots := 65536, locals := 58 } : Room)) (fun a U => a = #[(.ref a1), (.ref a2), (.int p4)] ∧ Z.Warmed39 U.vm ∧ U.heap = h0) (fun _ _ _ _ _ => True) (fun _ U o U' => ∃ v L, o = .returned v ∧ Qrmap4_2E1 Z a1 a2 k2 y0 y1 y2 p4 ib ks kk bl kb x0 x1 x2 x3 h0 n0 v U'.heap L ∧ FrameEnd U o U' L ({ frames := 2, cells := 1, slots := 65536, locals := 58 } : Room).cells ({ frames := 2, cells := 1, slots := 65536, locals := 58 } : Room).slots) := by
 refine MetFree.of_bodySF (plainFor_of_name pn_4) hisR ?_
 intro p e s m args below meth c s₁ Bd hml0 hP hK
 obtain ⟨rfl, hZ, hh⟩ := hP
 have hx := Bd.exec
 have hby := Bd.bytes
 have hml : c.maxLocals = 4 := hml0
 have hown : s.vm.findClass cs0 = some m.cls := findClass_of_methodNamed Bd.named
 have hnm := (name_of_methodNamed Bd.named Bd.method).1
 have X0 : Stand p l e ({ frames := 2, cells := 1, slots := 65536, locals := 58 } : Room) s m #[(.ref a1), (.ref a2), (.int p4)] below meth c s₁ [] 0 0 := Stand.of_body Bd
 have e0 : s₁.heap = h0 := by rw [← hh, Bd.state]; rfl
 have N0 := Fr.nil n0
 refine own_go (b := (s₁.setTop (mkF m 0 #[rv a1, rv a2, iv p4, .unset] []))) (fun _ k => castTop (ef_rmap4_2E1 m a1 a2 p4) k) ?_
 refine own_go (b := (s₁.setTop (mkF m 1 #[rv a1, rv a2, iv p4, .unset] [(.ref a1)]))) (fun _ k => XS.aloadN X0.here hx rfl (hb hby d4_0) rfl rfl k) ?_
 refine own_getf X0 hx hZ hown (ow hw 31 rfl) Via.refl e0 Fld_a1_labelStarts rfl rfl (hb hby d4_1) (fun T1 X1 e1 => ?_)
 refine own_go (b := (T1.setTop (mkF m 19 #[rv a1, rv a2, iv p4, iv (0 : Int32)] []))) (fun _ k => XS.ifnullYes X1.here hx rfl (pc0 := 4) (pc' := 17) rfl (hb hby d4_4) rfl (by decide) (by decide) (XS.iconst X1.here hx rfl (hb hby d4_17) (XS.istoreN X1.here hx rfl (hb hby d4_18) rfl (l' := #[rv a1, rv a2, iv p4, iv (0 : Int32)]) rfl k))) ?_
 refine own_join (A := Int32) (C := fun ii => True) (f := fun ii => (T1.setTop (mkF m 52 #[rv a1, rv a2, iv p4, iv ii] []))) ?_ ?_
 · intro ii hj2
   refine own_go (b := (T1.setTop (mkF m 54 #[rv a1, rv a2, iv p4, iv ii] [(.ref a1), (.ref a1)]))) (fun _ k => XS.aloadN X1.here hx rfl (hb hby d4_52) rfl rfl (XS.dup X1.here hx rfl (hb hby d4_53) rfl rfl k)) ?_
   refine own_getf X1 hx hZ hown (ow hw 33 rfl) Via.refl e1 Fld_a1_size rfl rfl (hb hby d4_54) (fun T3 X3 e3 => ?_)
   refine own_go (b := (T3.setTop (mkF m 60 #[rv a1, rv a2, iv p4, iv ii] [(.int (3 : Int32)), (.ref a1), (.int (2 : Int32))]))) (fun _ k => XS.dupX1 X3.here hx rfl (hb hby d4_57) rfl rfl rfl (XS.iconst X3.here hx rfl (hb hby d4_58) (XS.iadd X3.here hx rfl (hb hby d4_59) rfl k))) ?_
   obtain ⟨T4, h4, X4, e4, W4, st4⟩ := putF X3 hx hZ hown (host := "") (Or.inl (ow hw 33 rfl)) Via.refl e3 Fld_a1_size E_a1 (Or.inl (ow hw 34 rfl)) (ow hw 3 rfl) (ty := .int) (by decide) rfl rfl (g := (mkF m 60 #[rv a1, rv a2, iv p4, iv ii] [(.int (3 : Int32)), (.ref a1), (.int (2 : Int32))])) rfl rfl (hb hby d4_60)
   have N4 := Fr.snoc X4 N0 g_a1
   have Zs5 : n0 ≤ h4.size := Nat.le_trans Z0 (Keep.of_wr W4).1
   have F4 : Fld Z h4 a1 cs0 "size" "I" (.int (3 : Int32)) := Fld_a1_size.same W4
   refine own_go (b := (T4.setTop (mkF m 65 #[rv a1, rv a2, iv p4, iv (2 : Int32)] [(.ref a1)]))) (fun _ k => st4 _ (XS.istoreN X4.here hx rfl (hb hby d4_63) rfl (l' := #[rv a1, rv a2, iv p4, iv (2 : Int32)]) rfl (XS.aloadN X4.here hx rfl (hb hby d4_64) rfl rfl k))) ?_
   refine own_getf X4 hx hZ hown (ow hw 33 rfl) Via.refl e4 F4 rfl rfl (hb hby d4_65) (fun T6 X6 e6 => ?_)
   refine own_go (b := (T6.setTop (mkF m 71 #[rv a1, rv a2, iv p4, iv (2 : Int32)] [(.ref a1), (.int (4 : Int32))]))) (fun _ k => XS.iconst X6.here hx rfl (hb hby d4_68) (XS.iadd X6.here hx rfl (hb hby d4_69) rfl (XS.aloadN X6.here hx rfl (hb hby d4_70) rfl rfl k))) ?_
   have F7 := Fld_a1_keyStarts.other W4 (Or.inr (slot_ne (Or.inl (ow hw 25 rfl)) (Or.inl (ow hw 34 rfl)) (by decide) (t := (.array .int)) (t' := .int) (by decide) (by decide)))
   refine own_getf X6 hx hZ hown (ow hw 24 rfl) Via.refl e6 F7 rfl rfl (hb hby d4_71) (fun T8 X8 e8 => ?_)
   obtain ⟨cn10, An10, -⟩ := id V_ks
   have nx11 : ks ≠ a1 := (Ne.symm (ne_arr E_a1 (ow hw 3 rfl) An10))
   have F12 := V_ks.other W4 nx11
   obtain ⟨cl9, Ar9, -, Sz9, Nn9, -, -⟩ := id F12
   refine own_go (b := (T8.setTop (mkF m 97 #[rv a1, rv a2, iv p4, iv (2 : Int32)] [(.ref a1)]))) (fun _ k => X8.arraylength hx (by rw [e8]; exact Ar9.1) (State.isArrayOf_alike hZ.alike Ar9.2.1) (g := (mkF m 74 #[rv a1, rv a2, iv p4, iv (2 : Int32)] [(.ref ks), (.int (4 : Int32))])) rfl rfl (hb hby d4_74) _ (by rw [len_of Sz9 Nn9]; exact (XS.icmpYes X8.here hx rfl (pc0 := 75) (pc' := 96) rfl (hb hby d4_75) rfl (flt (by decide : ¬ ((4 : Int32) < (4 : Int32)))).2.2.2 (by decide) (by decide) (XS.aloadN X8.here hx rfl (hb hby d4_96) rfl rfl k)))) ?_
   have F13 := Fld_a1_keys.other W4 (Or.inr (slot_ne (Or.inr (ow hw 23 rfl)) (Or.inl (ow hw 34 rfl)) (by decide) (t := (.object cs1)) (t' := .int) (by decide) (by decide)))
   refine own_getf X8 hx hZ hown (ow hw 22 rfl) Via.refl e8 F13 rfl rfl (hb hby d4_97) (fun T14 X14 e14 => ?_)
   refine own_go (b := (T14.setTop (mkF m 103 #[rv a1, rv a2, iv p4, iv (2 : Int32)] [(.int p4), (.int (0 : Int32)), (.ref a2), (.ref ib)]))) (fun _ k => XS.aloadN X14.here hx rfl (hb hby d4_100) rfl rfl (XS.iconst X14.here hx rfl (hb hby d4_101) (XS.iloadN X14.here hx rfl (hb hby d4_102) rfl k))) ?_
   have F16 := E_ib.wr W4
   have nx17 : ib ≠ a1 := (ne_exa E_ib E_a1 (by decide))
   have F18 := Fld_ib_size.other W4 (Or.inl nx17)
   have F19 := Fld_ib_blocks.other W4 (Or.inl nx17)
   obtain ⟨cn20, An20, -⟩ := id V_bl
   have nx21 : bl ≠ a1 := (Ne.symm (ne_arr E_a1 (ow hw 3 rfl) An20))
   have F22 := V_bl.other W4 nx21
   obtain ⟨cn23, An23, -⟩ := id V_a2
   have nx24 : a2 ≠ a1 := (Ne.symm (ne_arr E_a1 (ow hw 3 rfl) An23))
   have F25 := V_a2.other W4 nx24
   refine own_virt (W := 0) X14 hx hZ hown e14 (ow hw 47 rfl) (ow hw 48 rfl) (ow hw 50 rfl) (ow hw 49 rfl) (rmaddE l Z a0 hw [] ib a2 k2 y0 y1 y2 p4 bl kb h4 n0 Zs5 F16 F18 F19 F22 Ov_bl g_ib g_bl F25 ne_a2_bl hn0 hn3) (ow hw 51 rfl) (ow hw 13 rfl) F16 rfl (by rw [hml]; rfl) rfl (hb hby d4_103) (lenOf pd___III_V rfl) rfl (by decide) (fun T15 v15 Ll15 X15 hQ15 => ?_)
   obtain ⟨cn_15, kn_15, vsn_15, rfl, N15q, K15, P15_0, P15_1, P15_2, P15_3, P15_4, P15_5⟩ := hQ15
   have N15 := Fr.app N4 N15q
   have Zs26 : n0 ≤ T15.heap.size := Nat.le_trans Zs5 K15.1
   refine own_go (b := (T15.setTop (mkF m 107 #[rv a1, rv a2, iv p4, iv (2 : Int32)] [(.ref a1)]))) (fun _ k => XS.aloadN X15.here hx rfl (hb hby d4_106) rfl rfl k) ?_
   have F27 := F7.keep K15 (ninS (Ne.symm nx17) (ninS (Ne.symm nx21) nin0))
   refine own_getf X15 hx hZ hown (ow hw 24 rfl) Via.refl rfl F27 rfl rfl (hb hby d4_107) (fun T28 X28 e28 => ?_)
   refine own_go (b := (T28.setTop (mkF m 114 #[rv a1, rv a2, iv p4, iv (2 : Int32)] [(.ref a1), (.int (3 : Int32)), (.ref ks)]))) (fun _ k => XS.iloadN X28.here hx rfl (hb hby d4_110) rfl (XS.iconst X28.here hx rfl (hb hby d4_111) (XS.iadd X28.here hx rfl (hb hby d4_112) rfl (XS.aloadN X28.here hx rfl (hb hby d4_113) rfl rfl k)))) ?_
   have F29 := F13.keep K15 (ninS (Ne.symm nx17) (ninS (Ne.symm nx21) nin0))
   refine own_getf X28 hx hZ hown (ow hw 22 rfl) Via.refl e28 F29 rfl rfl (hb hby d4_114) (fun T30 X30 e30 => ?_)
   have F32 := F16.keep K15
   refine own_virt (W := 2) X30 hx hZ hown e30 (ow hw 63 rfl) (ow hw 64 rfl) (ow hw 66 rfl) (ow hw 65 rfl) (rm9 l Z a0 hw [] ib p4 T15.heap n0 Zs26 P15_0) (ow hw 67 rfl) (ow hw 13 rfl) F32 rfl (by rw [hml]; rfl) rfl (hb hby d4_117) (lenOf pd___I rfl) rfl (by decide) (fun T31 v31 Ll31 X31 hQ31 => ?_)
   obtain ⟨rfl, N31q, eh31⟩ := hQ31
   have N31 := Fr.app N15 N31q
   obtain ⟨cn34, An34, -⟩ := id V_ks
   have nx35 : ks ≠ ib := (Ne.symm (ne_arr E_ib (ow hw 12 rfl) An34))
   have F36 := F12.keep K15 (ninS nx35 (ninS ne_ks_bl nin0))
   obtain ⟨cl33, Ar33, ql33, Sz33, Nn33, Hl33, Gl33⟩ := id F36
   have hin33 : ¬ ((3 : Int32) < 0 ∨ cl33.slots.size ≤ ((3 : Int32)).toNatClampNeg) := inb_of Sz33 ⟨by decide, by decide⟩
   obtain ⟨T33, h33, X33, e33, W33, st33⟩ := stI X31 hx hZ eh31 Ar33 (j := (3 : Int32)) hin33 (g := (mkF m 120 #[rv a1, rv a2, iv p4, iv (2 : Int32)] [(.int p4), (.int (3 : Int32)), (.ref ks)])) rfl rfl (hb hby d4_120)
   have N33 := Fr.snoc X33 N31 g_ks
   have Zs37 : n0 ≤ h33.size := Nat.le_trans Zs26 (Keep.of_wr W33).1
   have V33 : Arv Z h33 ks kk .int (4 : Int32) [(.int x0), (.int x1), (.int x2), (.int p4)] (.int (0 : Int32)) := Arv.set Ar33 ql33 Sz33 Nn33 Hl33 Gl33 rfl W33 3 rfl (Nat.le_of_ble_eq_true rfl)
   refine own_go (b := (T33.setTop (mkF m 122 #[rv a1, rv a2, iv p4, iv (2 : Int32)] [(.int (2 : Int32))]))) (fun _ k => st33 _ (XS.iloadN X33.here hx rfl (hb hby d4_121) rfl k)) ?_
   have K38 := (Keep.refl h0 [a1, ib, ks, bl]).wr W4 (Or.inl (List.mem_of_getElem? (i := 0) rfl))
   have K39 := K38.trans K15 (allS (Or.inl (List.mem_of_getElem? (i := 1) rfl)) (allS (Or.inl (List.mem_of_getElem? (i := 3) rfl)) all0))
   have K40 := K39.wr W33 (Or.inl (List.mem_of_getElem? (i := 2) rfl))
   have F41 := F29.other W33 (Or.inl (Ne.symm nx11))
   have F42 := Fld_a1_labelStarts.other W4 (Or.inr (slot_ne (Or.inl (ow hw 32 rfl)) (Or.inl (ow hw 34 rfl)) (by decide) (t := (.array .int)) (t' := .int) (by decide) (by decide)))
   have F43 := F42.keep K15 (ninS (Ne.symm nx17) (ninS (Ne.symm nx21) nin0))
   have F44 := F43.other W33 (Or.inl (Ne.symm nx11))
   have F45 := F4.keep K15 (ninS (Ne.symm nx17) (ninS (Ne.symm nx21) nin0))
   have F46 := F45.other W33 (Or.inl (Ne.symm nx11))
   have F47 := F27.other W33 (Or.inl (Ne.symm nx11))
   have F48 := P15_0.other W33 (Or.inl (Ne.symm nx35))
   have F49 := P15_1.other W33 (Or.inl (Ne.symm nx35))
   have F50 := P15_3.other W33 (Ne.symm ne_ks_bl)
   have nx51 : cn_15 ≠ ks := (Ne.symm (own_ne V_ks.lt (Keep.of_wr W4).1 P15_2))
   have F52 := P15_4.other W33 nx51
   obtain ⟨fs, hr, hrun, hended, hW, hsame⟩ := X33.leave (v := some (.int (2 : Int32))) (fun h => by rw [Bd.returns] at h; cases h)
   exact ⟨_, _, retOut X33 hx Bd.returns rfl (Or.inl ⟨rfl, Or.inl rfl, _, rfl⟩) (hb hby d4_122) hr, hrun, hended, _, _, rfl, (show Qrmap4_2E1 Z a1 a2 k2 y0 y1 y2 p4 ib ks kk bl kb x0 x1 x2 x3 h0 n0 _ T33.heap _ from (by rw [e33]; exact ⟨cn_15, kn_15, vsn_15, rfl, N33, K40, F41, F44, F46, F47, V33, F48, F49, (Nat.le_trans (Keep.of_wr W4).1 P15_2), F50, F52, P15_5⟩)), ⟨_, rfl⟩, hW, hsame.mono (by decide) (by decide)⟩
 · intro J2
   refine own_go (b := (T1.setTop (mkF m 26 #[rv a1, rv a2, iv p4, iv (0 : Int32)] [(.int (0 : Int32)), (.ref a2)]))) (fun _ k => XS.iloadN X1.here hx rfl (hb hby d4_19) rfl (XS.iloadN X1.here hx rfl (hb hby d4_20) rfl (XS.icmpNo X1.here hx rfl (hb hby d4_21) rfl (tlt hn0).2.1 (XS.aloadN X1.here hx rfl (hb hby d4_24) rfl rfl (XS.iloadN X1.here hx rfl (hb hby d4_25) rfl k))))) ?_
   obtain ⟨cl53, Ar53, ql53, Sz53, Nn53, Hl53, Gl53⟩ := id V_a2
   have hin53 : ¬ ((0 : Int32) < 0 ∨ cl53.slots.size ≤ ((0 : Int32)).toNatClampNeg) := inb_of Sz53 ⟨by decide, by decide⟩
   refine own_go (b := (T1.setTop (mkF m 21 #[rv a1, rv a2, iv p4, iv (1 : Int32)] [(.int p4), (.int (1 : Int32))]))) (fun _ k => X1.iaload hx (j := (0 : Int32)) (v := (.int y0)) (by rw [e1]; exact Ar53.1) (State.isArrayOf_alike hZ.alike Ar53.2.1) Ar53.2.2 hin53 (Hl53.at hin53 rfl) (g := (mkF m 26 #[rv a1, rv a2, iv p4, iv (0 : Int32)] [(.int (0 : Int32)), (.ref a2)])) rfl rfl (hb hby d4_26) _ (XS.ifYes X1.here hx rfl (pc0 := 27) (pc' := 46) rfl (hb hby d4_27) rfl ((if0 _ _).trans (flt hy0).2.1) (by decide) (by decide) (XS.iinc X1.here hx rfl (hb hby d4_46) rfl (l' := #[rv a1, rv a2, iv p4, iv (1 : Int32)]) rfl (XS.goto X1.here hx rfl (pc0 := 49) (pc' := 19) rfl (hb hby d4_49) (by decide) (by decide) (XS.iloadN X1.here hx rfl (hb hby d4_19) rfl (XS.iloadN X1.here hx rfl (hb hby d4_20) rfl k)))))) ?_
   by_cases hc21_54 : (1 : Int32) < p4
   · skip
     refine own_go (b := (T1.setTop (mkF m 26 #[rv a1, rv a2, iv p4, iv (1 : Int32)] [(.int (1 : Int32)), (.ref a2)]))) (fun _ k => XS.icmpNo X1.here hx rfl (hb hby d4_21) rfl (tlt hc21_54).2.1 (XS.aloadN X1.here hx rfl (hb hby d4_24) rfl rfl (XS.iloadN X1.here hx rfl (hb hby d4_25) rfl k))) ?_
     obtain ⟨cl55, Ar55, ql55, Sz55, Nn55, Hl55, Gl55⟩ := id V_a2
     have hin55 : ¬ ((1 : Int32) < 0 ∨ cl55.slots.size ≤ ((1 : Int32)).toNatClampNeg) := inb_of Sz55 ⟨by decide, by decide⟩
     refine own_go (b := (T1.setTop (mkF m 21 #[rv a1, rv a2, iv p4, iv (2 : Int32)] [(.int p4), (.int (2 : Int32))]))) (fun _ k => X1.iaload hx (j := (1 : Int32)) (v := (.int y1)) (by rw [e1]; exact Ar55.1) (State.isArrayOf_alike hZ.alike Ar55.2.1) Ar55.2.2 hin55 (Hl55.at hin55 rfl) (g := (mkF m 26 #[rv a1, rv a2, iv p4, iv (1 : Int32)] [(.int (1 : Int32)), (.ref a2)])) rfl rfl (hb hby d4_26) _ (XS.ifYes X1.here hx rfl (pc0 := 27) (pc' := 46) rfl (hb hby d4_27) rfl ((if0 _ _).trans (flt hy1).2.1) (by decide) (by decide) (XS.iinc X1.here hx rfl (hb hby d4_46) rfl (l' := #[rv a1, rv a2, iv p4, iv (2 : Int32)]) rfl (XS.goto X1.here hx rfl (pc0 := 49) (pc' := 19) rfl (hb hby d4_49) (by decide) (by decide) (XS.iloadN X1.here hx rfl (hb hby d4_19) rfl (XS.iloadN X1.here hx rfl (hb hby d4_20) rfl k)))))) ?_
     by_cases hc21_56 : (2 : Int32) < p4
     · skip
       refine own_go (b := (T1.setTop (mkF m 26 #[rv a1, rv a2, iv p4, iv (2 : Int32)] [(.int (2 : Int32)), (.ref a2)]))) (fun _ k => XS.icmpNo X1.here hx rfl (hb hby d4_21) rfl (tlt hc21_56).2.1 (XS.aloadN X1.here hx rfl (hb hby d4_24) rfl rfl (XS.iloadN X1.here hx rfl (hb hby d4_25) rfl k))) ?_
       obtain ⟨cl57, Ar57, ql57, Sz57, Nn57, Hl57, Gl57⟩ := id V_a2
       have hin57 : ¬ ((2 : Int32) < 0 ∨ cl57.slots.size ≤ ((2 : Int32)).toNatClampNeg) := inb_of Sz57 ⟨by decide, by decide⟩
       refine own_go (b := (T1.setTop (mkF m 52 #[rv a1, rv a2, iv p4, iv (3 : Int32)] []))) (fun _ k => X1.iaload hx (j := (2 : Int32)) (v := (.int y2)) (by rw [e1]; exact Ar57.1) (State.isArrayOf_alike hZ.alike Ar57.2.1) Ar57.2.2 hin57 (Hl57.at hin57 rfl) (g := (mkF m 26 #[rv a1, rv a2, iv p4, iv (2 : Int32)] [(.int (2 : Int32)), (.ref a2)])) rfl rfl (hb hby d4_26) _ (XS.ifYes X1.here hx rfl (pc0 := 27) (pc' := 46) rfl (hb hby d4_27) rfl ((if0 _ _).trans (flt hy2).2.1) (by decide) (by decide) (XS.iinc X1.here hx rfl (hb hby d4_46) rfl (l' := #[rv a1, rv a2, iv p4, iv (3 : Int32)]) rfl (XS.goto X1.here hx rfl (pc0 := 49) (pc' := 19) rfl (hb hby d4_49) (by decide) (by decide) (XS.iloadN X1.here hx rfl (hb hby d4_19) rfl (XS.iloadN X1.here hx rfl (hb hby d4_20) rfl (XS.icmpYes X1.here hx rfl (pc0 := 21) (pc' := 52) rfl (hb hby d4_21) rfl (flt hn3).2.1 (by decide) (by decide) k))))))) ?_
       exact J2 (3 : Int32) trivial
     · skip
       refine own_go (b := (T1.setTop (mkF m 52 #[rv a1, rv a2, iv p4, iv (2 : Int32)] []))) (fun _ k => XS.icmpYes X1.here hx rfl (pc0 := 21) (pc' := 52) rfl (hb hby d4_21) rfl (flt hc21_56).2.1 (by decide) (by decide) k) ?_
       exact J2 (2 : Int32) trivial
   · skip
     refine own_go (b := (T1.setTop (mkF m 52 #[rv a1, rv a2, iv p4, iv (1 : Int32)] []))) (fun _ k => XS.icmpYes X1.here hx rfl (pc0 := 21) (pc' := 52) rfl (hb hby d4_21) rfl (flt hc21_54).2.1 (by decide) (by decide) k) ?_
     exact J2 (1 : Int32) trivial
theorem ef_rmap4_2F1 (m : MethodId) (x0 : Addr) (x1 : Addr) (x2 : Int32) : entryFrame m #[(.ref x0), (.ref x1), (.int x2)] 4 = mkF m 0 #[rv x0, rv x1, iv x2, .unset] [] := by first | (simp [entryFrame, mkF, argsToLocals, Value.category]; done) | rfl
def Qrmap4_2F1 (Z : State) (a1 : Addr) (a2 : Addr) (k2 : ClassId) (y0 : Int32) (y1 : Int32) (y2 : Int32) (p4 : Int32) (ib : Addr) (ks : Addr) (kk : ClassId) (bl : Addr) (kb : ClassId) (x0 : Int32) (x1 : Int32) (x2 : Int32) (x3 : Int32) (x_s : Int32) (c0 : Addr) (kc : ClassId) (vsc : List Value) (h0 : Heap) (n0 : Nat) (v : Option Value) (h : Heap) (L : List Loc) : Prop := ∃ (vsn : List Value), v = some (.int (2 : Int32)) ∧ Fr n0 L ∧ Keep h0 h [a1, ib, ks, c0] ∧ (Fld Z h a1 cs0 "keys" "Lcom/example/arcwright/arcwright/parser/IntBlocks;" (.ref ib)) ∧ (Fld Z h a1 cs0 "labelStarts" "[I" .null) ∧ (Fld Z h a1 cs0 "size" "I" (.int (3 : Int32))) ∧ (Fld Z h a1 cs0 "keyStarts" "[I" (.ref ks)) ∧ (Arv Z h ks kk .int (4 : Int32) [(.int x0), (.int x1), (.int x2), (.int (x_s + p4))] (.int (0 : Int32))) ∧ (Fld Z h ib cs1 "size" "I" (.int (x_s + p4))) ∧ (Fld Z h ib cs1 "blocks" "[[I" (.ref bl)) ∧ (Arv Z h c0 kc .int (65536 : Int32) vsn (.int (0 : Int32))) ∧ (16 ≤ vsn.length)
set_option maxRecDepth 65536 in
set_option maxHeartbeats 40000000 in
theorem rmap4_2F1 (l : Launch) (Z : State) (a0 : Array Value) (hw : ∀ d ∈ tables_1, d.before a0 Z = true) (ws : List Jvm.Cond) (a1 : Addr) (a2 : Addr) (k2 : ClassId) (y0 : Int32) (y1 : Int32) (y2 : Int32) (p4 : Int32) (ib : Addr) (ks : Addr) (kk : ClassId) (bl : Addr) (kb : ClassId) (x0 : Int32) (x1 : Int32) (x2 : Int32) (x3 : Int32) (x_s : Int32) (c0 : Addr) (kc : ClassId) (vsc : List Value) (h0 : Heap) (n0 : Nat) (Z0 : n0 ≤ h0.size) (E_a1 : Exa Z h0 a1 cs0) (Fld_a1_keys : Fld Z h0 a1 cs0 "keys" "Lcom/example/arcwright/arcwright/parser/IntBlocks;" (.ref ib)) (Fld_a1_keyStarts : Fld Z h0 a1 cs0 "keyStarts" "[I" (.ref ks)) (Fld_a1_labelStarts : Fld Z h0 a1 cs0 "labelStarts" "[I" .null) (Fld_a1_size : Fld Z h0 a1 cs0 "size" "I" (.int (2 : Int32))) (E_ib : Exa Z h0 ib cs1) (Fld_ib_size : Fld Z h0 ib cs1 "size" "I" (.int x_s)) (Fld_ib_blocks : Fld Z h0 ib cs1 "blocks" "[[I" (.ref bl)) (V_ks : Arv Z h0 ks kk .int (4 : Int32) [(.int x0), (.int x1), (.int x2), (.int x3)] (.int (0 : Int32))) (V_a2 : Arv Z h0 a2 k2 .int (3 : Int32) [(.int y0), (.int y1), (.int y2)] (.int (0 : Int32))) (g_a1 : n0 ≤ a1) (g_ib : n0 ≤ ib) (g_ks : n0 ≤ ks) (ne_ks_a2 : ks ≠ a2) (g_bl : n0 ≤ bl) (ne_ks_bl : ks ≠ bl) (ne_a2_bl : a2 ≠ bl) (hy0 : ¬ (y0 < (0 : Int32))) (hy1 : ¬ (y1 < (0 : Int32))) (hy2 : ¬ (y2 < (0 : Int32))) (hn0 : (0 : Int32) < p4) (hn3 : ¬ ((3 : Int32) < p4)) (V_bl : Arv Z h0 bl kb (.array .int) (16 : Int32) ((.ref c0) :: own_n15) .null) (V_c0 : Arv Z h0 c0 kc .int (65536 : Int32) vsc (.int (0 : Int32))) (hlen : 16 ≤ vsc.length) (g_c0 : n0 ≤ c0) (ne_a2_c0 : a2 ≠ c0) (ne_bl_c0 : bl ≠ c0) (ne_ks_c0 : ks ≠ c0) (hs0 : (0 : Int32) < x_s) (hs6 : ¬ ((6 : Int32) < x_s)) :
    MetFree l mn0 (head1 (Jvm.Cond.code mn0 prog_25_method_3_code 4 (some .int) :: ws) ({ frames := 2, cells := 0, slots := 0, locals := 58 } : Room)) (fun a U => a = #[(.ref a1), (.ref a2), (.int p4)] ∧ Z.Warmed39 U.vm ∧ U.heap = h0) (fun _ _ _ _ _ => True) (fun _ U o U' => ∃ v L, o = .returned v ∧ Qrmap4_2F1 Z a1 a2 k2 y0 y1 y2 p4 ib ks kk bl kb x0 x1 x2 x3 x_s c0 kc vsc h0 n0 v U'.heap L ∧ FrameEnd U o U' L ({ frames := 2, cells := 0, slots := 0, locals := 58 } : Room).cells ({ frames := 2, cells := 0, slots := 0, locals := 58 } : Room).slots) := by
 refine MetFree.of_bodySF (plainFor_of_name pn_4) hisR ?_
 intro p e s m args below meth c s₁ Bd hml0 hP hK
 obtain ⟨rfl, hZ, hh⟩ := hP
 have hx := Bd.exec
 have hby := Bd.bytes
 have hml : c.maxLocals = 4 := hml0
 have hown : s.vm.findClass cs0 = some m.cls := findClass_of_methodNamed Bd.named
 have hnm := (name_of_methodNamed Bd.named Bd.method).1
 have X0 : Stand p l e ({ frames := 2, cells := 0, slots := 0, locals := 58 } : Room) s m #[(.ref a1), (.ref a2), (.int p4)] below meth c s₁ [] 0 0 := Stand.of_body Bd
 have e0 : s₁.heap = h0 := by rw [← hh, Bd.state]; rfl
 have N0 := Fr.nil n0
 refine own_go (b := (s₁.setTop (mkF m 0 #[rv a1, rv a2, iv p4, .unset] []))) (fun _ k => castTop (ef_rmap4_2F1 m a1 a2 p4) k) ?_
 refine own_go (b := (s₁.setTop (mkF m 1 #[rv a1, rv a2, iv p4, .unset] [(.ref a1)]))) (fun _ k => XS.aloadN X0.here hx rfl (hb hby d4_0) rfl rfl k) ?_
 refine own_getf X0 hx hZ hown (ow hw 31 rfl) Via.refl e0 Fld_a1_labelStarts rfl rfl (hb hby d4_1) (fun T1 X1 e1 => ?_)
 refine own_go (b := (T1.setTop (mkF m 19 #[rv a1, rv a2, iv p4, iv (0 : Int32)] []))) (fun _ k => XS.ifnullYes X1.here hx rfl (pc0 := 4) (pc' := 17) rfl (hb hby d4_4) rfl (by decide) (by decide) (XS.iconst X1.here hx rfl (hb hby d4_17) (XS.istoreN X1.here hx rfl (hb hby d4_18) rfl (l' := #[rv a1, rv a2, iv p4, iv (0 : Int32)]) rfl k))) ?_
 refine own_join (A := Int32) (C := fun ii => True) (f := fun ii => (T1.setTop (mkF m 52 #[rv a1, rv a2, iv p4, iv ii] []))) ?_ ?_
 · intro ii hj2
   refine own_go (b := (T1.setTop (mkF m 54 #[rv a1, rv a2, iv p4, iv ii] [(.ref a1), (.ref a1)]))) (fun _ k => XS.aloadN X1.here hx rfl (hb hby d4_52) rfl rfl (XS.dup X1.here hx rfl (hb hby d4_53) rfl rfl k)) ?_
   refine own_getf X1 hx hZ hown (ow hw 33 rfl) Via.refl e1 Fld_a1_size rfl rfl (hb hby d4_54) (fun T3 X3 e3 => ?_)
   refine own_go (b := (T3.setTop (mkF m 60 #[rv a1, rv a2, iv p4, iv ii] [(.int (3 : Int32)), (.ref a1), (.int (2 : Int32))]))) (fun _ k => XS.dupX1 X3.here hx rfl (hb hby d4_57) rfl rfl rfl (XS.iconst X3.here hx rfl (hb hby d4_58) (XS.iadd X3.here hx rfl (hb hby d4_59) rfl k))) ?_
   obtain ⟨T4, h4, X4, e4, W4, st4⟩ := putF X3 hx hZ hown (host := "") (Or.inl (ow hw 33 rfl)) Via.refl e3 Fld_a1_size E_a1 (Or.inl (ow hw 34 rfl)) (ow hw 3 rfl) (ty := .int) (by decide) rfl rfl (g := (mkF m 60 #[rv a1, rv a2, iv p4, iv ii] [(.int (3 : Int32)), (.ref a1), (.int (2 : Int32))])) rfl rfl (hb hby d4_60)
   have N4 := Fr.snoc X4 N0 g_a1
   have Zs5 : n0 ≤ h4.size := Nat.le_trans Z0 (Keep.of_wr W4).1
   have F4 : Fld Z h4 a1 cs0 "size" "I" (.int (3 : Int32)) := Fld_a1_size.same W4
   refine own_go (b := (T4.setTop (mkF m 65 #[rv a1, rv a2, iv p4, iv (2 : Int32)] [(.ref a1)]))) (fun _ k => st4 _ (XS.istoreN X4.here hx rfl (hb hby d4_63) rfl (l' := #[rv a1, rv a2, iv p4, iv (2 : Int32)]) rfl (XS.aloadN X4.here hx rfl (hb hby d4_64) rfl rfl k))) ?_
   refine own_getf X4 hx hZ hown (ow hw 33 rfl) Via.refl e4 F4 rfl rfl (hb hby d4_65) (fun T6 X6 e6 => ?_)
   refine own_go (b := (T6.setTop (mkF m 71 #[rv a1, rv a2, iv p4, iv (2 : Int32)] [(.ref a1), (.int (4 : Int32))]))) (fun _ k => XS.iconst X6.here hx rfl (hb hby d4_68) (XS.iadd X6.here hx rfl (hb hby d4_69) rfl (XS.aloadN X6.here hx rfl (hb hby d4_70) rfl rfl k))) ?_
   have F7 := Fld_a1_keyStarts.other W4 (Or.inr (slot_ne (Or.inl (ow hw 25 rfl)) (Or.inl (ow hw 34 rfl)) (by decide) (t := (.array .int)) (t' := .int) (by decide) (by decide)))
   refine own_getf X6 hx hZ hown (ow hw 24 rfl) Via.refl e6 F7 rfl rfl (hb hby d4_71) (fun T8 X8 e8 => ?_)
   obtain ⟨cn10, An10, -⟩ := id V_ks
   have nx11 : ks ≠ a1 := (Ne.symm (ne_arr E_a1 (ow hw 3 rfl) An10))
   have F12 := V_ks.other W4 nx11
   obtain ⟨cl9, Ar9, -, Sz9, Nn9, -, -⟩ := id F12
   refine own_go (b := (T8.setTop (mkF m 97 #[rv a1, rv a2, iv p4, iv (2 : Int32)] [(.ref a1)]))) (fun _ k => X8.arraylength hx (by rw [e8]; exact Ar9.1) (State.isArrayOf_alike hZ.alike Ar9.2.1) (g := (mkF m 74 #[rv a1, rv a2, iv p4, iv (2 : Int32)] [(.ref ks), (.int (4 : Int32))])) rfl rfl (hb hby d4_74) _ (by rw [len_of Sz9 Nn9]; exact (XS.icmpYes X8.here hx rfl (pc0 := 75) (pc' := 96) rfl (hb hby d4_75) rfl (flt (by decide : ¬ ((4 : Int32) < (4 : Int32)))).2.2.2 (by decide) (by decide) (XS.aloadN X8.here hx rfl (hb hby d4_96) rfl rfl k)))) ?_
   have F13 := Fld_a1_keys.other W4 (Or.inr (slot_ne (Or.inr (ow hw 23 rfl)) (Or.inl (ow hw 34 rfl)) (by decide) (t := (.object cs1)) (t' := .int) (by decide) (by decide)))
   refine own_getf X8 hx hZ hown (ow hw 22 rfl) Via.refl e8 F13 rfl rfl (hb hby d4_97) (fun T14 X14 e14 => ?_)
   refine own_go (b := (T14.setTop (mkF m 103 #[rv a1, rv a2, iv p4, iv (2 : Int32)] [(.int p4), (.int (0 : Int32)), (.ref a2), (.ref ib)]))) (fun _ k => XS.aloadN X14.here hx rfl (hb hby d4_100) rfl rfl (XS.iconst X14.here hx rfl (hb hby d4_101) (XS.iloadN X14.here hx rfl (hb hby d4_102) rfl k))) ?_
   have F16 := E_ib.wr W4
   have nx17 : ib ≠ a1 := (ne_exa E_ib E_a1 (by decide))
   have F18 := Fld_ib_size.other W4 (Or.inl nx17)
   have F19 := Fld_ib_blocks.other W4 (Or.inl nx17)
   obtain ⟨cn20, An20, -⟩ := id V_bl
   have nx21 : bl ≠ a1 := (Ne.symm (ne_arr E_a1 (ow hw 3 rfl) An20))
   have F22 := V_bl.other W4 nx21
   obtain ⟨cn23, An23, -⟩ := id V_c0
   have nx24 : c0 ≠ a1 := (Ne.symm (ne_arr E_a1 (ow hw 3 rfl) An23))
   have F25 := V_c0.other W4 nx24
   obtain ⟨cn26, An26, -⟩ := id V_a2
   have nx27 : a2 ≠ a1 := (Ne.symm (ne_arr E_a1 (ow hw 3 rfl) An26))
   have F28 := V_a2.other W4 nx27
   refine own_virt (W := 0) X14 hx hZ hown e14 (ow hw 47 rfl) (ow hw 48 rfl) (ow hw 50 rfl) (ow hw 49 rfl) (rmaddF l Z a0 hw [] ib a2 k2 y0 y1 y2 p4 bl kb x_s c0 kc vsc h4 n0 Zs5 F16 F18 F19 F22 g_ib g_c0 F25 F28 ne_a2_c0 ne_bl_c0 hlen hn0 hn3 hs0 hs6) (ow hw 51 rfl) (ow hw 13 rfl) F16 rfl (by rw [hml]; rfl) rfl (hb hby d4_103) (lenOf pd___III_V rfl) rfl (by decide) (fun T15 v15 Ll15 X15 hQ15 => ?_)
   obtain ⟨vsn_15, rfl, N15q, K15, P15_0, P15_1, P15_2, P15_3⟩ := hQ15
   have N15 := Fr.app N4 N15q
   have Zs29 : n0 ≤ T15.heap.size := Nat.le_trans Zs5 K15.1
   refine own_go (b := (T15.setTop (mkF m 107 #[rv a1, rv a2, iv p4, iv (2 : Int32)] [(.ref a1)]))) (fun _ k => XS.aloadN X15.here hx rfl (hb hby d4_106) rfl rfl k) ?_
   have F30 := F7.keep K15 (ninS (Ne.symm nx17) (ninS (Ne.symm nx24) nin0))
   refine own_getf X15 hx hZ hown (ow hw 24 rfl) Via.refl rfl F30 rfl rfl (hb hby d4_107) (fun T31 X31 e31 => ?_)
   refine own_go (b := (T31.setTop (mkF m 114 #[rv a1, rv a2, iv p4, iv (2 : Int32)] [(.ref a1), (.int (3 : Int32)), (.ref ks)]))) (fun _ k => XS.iloadN X31.here hx rfl (hb hby d4_110) rfl (XS.iconst X31.here hx rfl (hb hby d4_111) (XS.iadd X31.here hx rfl (hb hby d4_112) rfl (XS.aloadN X31.here hx rfl (hb hby d4_113) rfl rfl k)))) ?_
   have F32 := F13.keep K15 (ninS (Ne.symm nx17) (ninS (Ne.symm nx24) nin0))
   refine own_getf X31 hx hZ hown (ow hw 22 rfl) Via.refl e31 F32 rfl rfl (hb hby d4_114) (fun T33 X33 e33 => ?_)
   have F35 := F16.keep K15
   refine own_virt (W := 2) X33 hx hZ hown e33 (ow hw 63 rfl) (ow hw 64 rfl) (ow hw 66 rfl) (ow hw 65 rfl) (rm9 l Z a0 hw [] ib (x_s + p4) T15.heap n0 Zs29 P15_0) (ow hw 67 rfl) (ow hw 13 rfl) F35 rfl (by rw [hml]; rfl) rfl (hb hby d4_117) (lenOf pd___I rfl) rfl (by decide) (fun T34 v34 Ll34 X34 hQ34 => ?_)
   obtain ⟨rfl, N34q, eh34⟩ := hQ34
   have N34 := Fr.app N15 N34q
   obtain ⟨cn37, An37, -⟩ := id V_ks
   have nx38 : ks ≠ ib := (Ne.symm (ne_arr E_ib (ow hw 12 rfl) An37))
   have F39 := F12.keep K15 (ninS nx38 (ninS ne_ks_c0 nin0))
   obtain ⟨cl36, Ar36, ql36, Sz36, Nn36, Hl36, Gl36⟩ := id F39
   have hin36 : ¬ ((3 : Int32) < 0 ∨ cl36.slots.size ≤ ((3 : Int32)).toNatClampNeg) := inb_of Sz36 ⟨by decide, by decide⟩
   obtain ⟨T36, h36, X36, e36, W36, st36⟩ := stI X34 hx hZ eh34 Ar36 (j := (3 : Int32)) hin36 (g := (mkF m 120 #[rv a1, rv a2, iv p4, iv (2 : Int32)] [(.int (x_s + p4)), (.int (3 : Int32)), (.ref ks)])) rfl rfl (hb hby d4_120)
   have N36 := Fr.snoc X36 N34 g_ks
   have Zs40 : n0 ≤ h36.size := Nat.le_trans Zs29 (Keep.of_wr W36).1
   have V36 : Arv Z h36 ks kk .int (4 : Int32) [(.int x0), (.int x1), (.int x2), (.int (x_s + p4))] (.int (0 : Int32)) := Arv.set Ar36 ql36 Sz36 Nn36 Hl36 Gl36 rfl W36 3 rfl (Nat.le_of_ble_eq_true rfl)
   refine own_go (b := (T36.setTop (mkF m 122 #[rv a1, rv a2, iv p4, iv (2 : Int32)] [(.int (2 : Int32))]))) (fun _ k => st36 _ (XS.iloadN X36.here hx rfl (hb hby d4_121) rfl k)) ?_
   have K41 := (Keep.refl h0 [a1, ib, ks, c0]).wr W4 (Or.inl (List.mem_of_getElem? (i := 0) rfl))
   have K42 := K41.trans K15 (allS (Or.inl (List.mem_of_getElem? (i := 1) rfl)) (allS (Or.inl (List.mem_of_getElem? (i := 3) rfl)) all0))
   have K43 := K42.wr W36 (Or.inl (List.mem_of_getElem? (i := 2) rfl))
   have F44 := F32.other W36 (Or.inl (Ne.symm nx11))
   have F45 := Fld_a1_labelStarts.other W4 (Or.inr (slot_ne (Or.inl (ow hw 32 rfl)) (Or.inl (ow hw 34 rfl)) (by decide) (t := (.array .int)) (t' := .int) (by decide) (by decide)))
   have F46 := F45.keep K15 (ninS (Ne.symm nx17) (ninS (Ne.symm nx24) nin0))
   have F47 := F46.other W36 (Or.inl (Ne.symm nx11))
   have F48 := F4.keep K15 (ninS (Ne.symm nx17) (ninS (Ne.symm nx24) nin0))
   have F49 := F48.other W36 (Or.inl (Ne.symm nx11))
   have F50 := F30.other W36 (Or.inl (Ne.symm nx11))
   have F51 := P15_0.other W36 (Or.inl (Ne.symm nx38))
   have F52 := P15_1.other W36 (Or.inl (Ne.symm nx38))
   have F53 := P15_2.other W36 (Ne.symm ne_ks_c0)
   obtain ⟨fs, hr, hrun, hended, hW, hsame⟩ := X36.leave (v := some (.int (2 : Int32))) (fun h => by rw [Bd.returns] at h; cases h)
   exact ⟨_, _, retOut X36 hx Bd.returns rfl (Or.inl ⟨rfl, Or.inl rfl, _, rfl⟩) (hb hby d4_122) hr, hrun, hended, _, _, rfl, (show Qrmap4_2F1 Z a1 a2 k2 y0 y1 y2 p4 ib ks kk bl kb x0 x1 x2 x3 x_s c0 kc vsc h0 n0 _ T36.heap _ from (by rw [e36]; exact ⟨vsn_15, rfl, N36, K43, F44, F47, F49, F50, V36, F51, F52, F53, P15_3⟩)), ⟨_, rfl⟩, hW, hsame.mono (by decide) (by decide)⟩
 · intro J2
   refine own_go (b := (T1.setTop (mkF m 26 #[rv a1, rv a2, iv p4, iv (0 : Int32)] [(.int (0 : Int32)), (.ref a2)]))) (fun _ k => XS.iloadN X1.here hx rfl (hb hby d4_19) rfl (XS.iloadN X1.here hx rfl (hb hby d4_20) rfl (XS.icmpNo X1.here hx rfl (hb hby d4_21) rfl (tlt hn0).2.1 (XS.aloadN X1.here hx rfl (hb hby d4_24) rfl rfl (XS.iloadN X1.here hx rfl (hb hby d4_25) rfl k))))) ?_
   obtain ⟨cl54, Ar54, ql54, Sz54, Nn54, Hl54, Gl54⟩ := id V_a2
   have hin54 : ¬ ((0 : Int32) < 0 ∨ cl54.slots.size ≤ ((0 : Int32)).toNatClampNeg) := inb_of Sz54 ⟨by decide, by decide⟩
   refine own_go (b := (T1.setTop (mkF m 21 #[rv a1, rv a2, iv p4, iv (1 : Int32)] [(.int p4), (.int (1 : Int32))]))) (fun _ k => X1.iaload hx (j := (0 : Int32)) (v := (.int y0)) (by rw [e1]; exact Ar54.1) (State.isArrayOf_alike hZ.alike Ar54.2.1) Ar54.2.2 hin54 (Hl54.at hin54 rfl) (g := (mkF m 26 #[rv a1, rv a2, iv p4, iv (0 : Int32)] [(.int (0 : Int32)), (.ref a2)])) rfl rfl (hb hby d4_26) _ (XS.ifYes X1.here hx rfl (pc0 := 27) (pc' := 46) rfl (hb hby d4_27) rfl ((if0 _ _).trans (flt hy0).2.1) (by decide) (by decide) (XS.iinc X1.here hx rfl (hb hby d4_46) rfl (l' := #[rv a1, rv a2, iv p4, iv (1 : Int32)]) rfl (XS.goto X1.here hx rfl (pc0 := 49) (pc' := 19) rfl (hb hby d4_49) (by decide) (by decide) (XS.iloadN X1.here hx rfl (hb hby d4_19) rfl (XS.iloadN X1.here hx rfl (hb hby d4_20) rfl k)))))) ?_
   by_cases hc21_55 : (1 : Int32) < p4
   · skip
     refine own_go (b := (T1.setTop (mkF m 26 #[rv a1, rv a2, iv p4, iv (1 : Int32)] [(.int (1 : Int32)), (.ref a2)]))) (fun _ k => XS.icmpNo X1.here hx rfl (hb hby d4_21) rfl (tlt hc21_55).2.1 (XS.aloadN X1.here hx rfl (hb hby d4_24) rfl rfl (XS.iloadN X1.here hx rfl (hb hby d4_25) rfl k))) ?_
     obtain ⟨cl56, Ar56, ql56, Sz56, Nn56, Hl56, Gl56⟩ := id V_a2
     have hin56 : ¬ ((1 : Int32) < 0 ∨ cl56.slots.size ≤ ((1 : Int32)).toNatClampNeg) := inb_of Sz56 ⟨by decide, by decide⟩
     refine own_go (b := (T1.setTop (mkF m 21 #[rv a1, rv a2, iv p4, iv (2 : Int32)] [(.int p4), (.int (2 : Int32))]))) (fun _ k => X1.iaload hx (j := (1 : Int32)) (v := (.int y1)) (by rw [e1]; exact Ar56.1) (State.isArrayOf_alike hZ.alike Ar56.2.1) Ar56.2.2 hin56 (Hl56.at hin56 rfl) (g := (mkF m 26 #[rv a1, rv a2, iv p4, iv (1 : Int32)] [(.int (1 : Int32)), (.ref a2)])) rfl rfl (hb hby d4_26) _ (XS.ifYes X1.here hx rfl (pc0 := 27) (pc' := 46) rfl (hb hby d4_27) rfl ((if0 _ _).trans (flt hy1).2.1) (by decide) (by decide) (XS.iinc X1.here hx rfl (hb hby d4_46) rfl (l' := #[rv a1, rv a2, iv p4, iv (2 : Int32)]) rfl (XS.goto X1.here hx rfl (pc0 := 49) (pc' := 19) rfl (hb hby d4_49) (by decide) (by decide) (XS.iloadN X1.here hx rfl (hb hby d4_19) rfl (XS.iloadN X1.here hx rfl (hb hby d4_20) rfl k)))))) ?_
     by_cases hc21_57 : (2 : Int32) < p4
     · skip
       refine own_go (b := (T1.setTop (mkF m 26 #[rv a1, rv a2, iv p4, iv (2 : Int32)] [(.int (2 : Int32)), (.ref a2)]))) (fun _ k => XS.icmpNo X1.here hx rfl (hb hby d4_21) rfl (tlt hc21_57).2.1 (XS.aloadN X1.here hx rfl (hb hby d4_24) rfl rfl (XS.iloadN X1.here hx rfl (hb hby d4_25) rfl k))) ?_
       obtain ⟨cl58, Ar58, ql58, Sz58, Nn58, Hl58, Gl58⟩ := id V_a2
       have hin58 : ¬ ((2 : Int32) < 0 ∨ cl58.slots.size ≤ ((2 : Int32)).toNatClampNeg) := inb_of Sz58 ⟨by decide, by decide⟩
       refine own_go (b := (T1.setTop (mkF m 52 #[rv a1, rv a2, iv p4, iv (3 : Int32)] []))) (fun _ k => X1.iaload hx (j := (2 : Int32)) (v := (.int y2)) (by rw [e1]; exact Ar58.1) (State.isArrayOf_alike hZ.alike Ar58.2.1) Ar58.2.2 hin58 (Hl58.at hin58 rfl) (g := (mkF m 26 #[rv a1, rv a2, iv p4, iv (2 : Int32)] [(.int (2 : Int32)), (.ref a2)])) rfl rfl (hb hby d4_26) _ (XS.ifYes X1.here hx rfl (pc0 := 27) (pc' := 46) rfl (hb hby d4_27) rfl ((if0 _ _).trans (flt hy2).2.1) (by decide) (by decide) (XS.iinc X1.here hx rfl (hb hby d4_46) rfl (l' := #[rv a1, rv a2, iv p4, iv (3 : Int32)]) rfl (XS.goto X1.here hx rfl (pc0 := 49) (pc' := 19) rfl (hb hby d4_49) (by decide) (by decide) (XS.iloadN X1.here hx rfl (hb hby d4_19) rfl (XS.iloadN X1.here hx rfl (hb hby d4_20) rfl (XS.icmpYes X1.here hx rfl (pc0 := 21) (pc' := 52) rfl (hb hby d4_21) rfl (flt hn3).2.1 (by decide) (by decide) k))))))) ?_
       exact J2 (3 : Int32) trivial
     · skip
       refine own_go (b := (T1.setTop (mkF m 52 #[rv a1, rv a2, iv p4, iv (2 : Int32)] []))) (fun _ k => XS.icmpYes X1.here hx rfl (pc0 := 21) (pc' := 52) rfl (hb hby d4_21) rfl (flt hc21_57).2.1 (by decide) (by decide) k) ?_
       exact J2 (2 : Int32) trivial
   · skip
     refine own_go (b := (T1.setTop (mkF m 52 #[rv a1, rv a2, iv p4, iv (1 : Int32)] []))) (fun _ k => XS.icmpYes X1.here hx rfl (pc0 := 21) (pc' := 52) rfl (hb hby d4_21) rfl (flt hc21_55).2.1 (by decide) (by decide) k) ?_
     exact J2 (1 : Int32) trivial
theorem ef_rmap3_2N0 (m : MethodId) (x0 : Addr) (x1 : Addr) (x2 : Int32) : entryFrame m #[(.ref x0), (.ref x1), (.int x2)] 4 = mkF m 0 #[rv x0, rv x1, iv x2, .unset] [] := by first | (simp [entryFrame, mkF, argsToLocals, Value.category]; done) | rfl
def Qrmap3_2N0 (Z : State) (a1 : Addr) (a2 : Addr) (k2 : ClassId) (y0 : Int32) (y1 : Int32) (y2 : Int32) (ib : Addr) (ks : Addr) (kk : ClassId) (x_s : Int32) (x0 : Int32) (x1 : Int32) (x2 : Int32) (h0 : Heap) (n0 : Nat) (v : Option Value) (h : Heap) (L : List Loc) : Prop := ∃ (ksn : Addr) (kkn : ClassId), v = some (.int (2 : Int32)) ∧ Fr n0 L ∧ Keep h0 h [a1] ∧ (Fld Z h a1 cs0 "keys" "Lcom/example/arcwright/arcwright/parser/IntBlocks;" (.ref ib)) ∧ (Fld Z h a1 cs0 "labelStarts" "[I" .null) ∧ (Fld Z h a1 cs0 "size" "I" (.int (3 : Int32))) ∧ (h0.size ≤ ksn) ∧ (Fld Z h a1 cs0 "keyStarts" "[I" (.ref ksn)) ∧ (Arv Z h ksn kkn .int (6 : Int32) [(.int x0), (.int x1), (.int x2), (.int x_s), (.int (0 : Int32)), (.int (0 : Int32))] (.int (0 : Int32)))
set_option maxRecDepth 65536 in
set_option maxHeartbeats 40000000 in
theorem rmap3_2N0 (l : Launch) (Z : State) (a0 : Array Value) (hw : ∀ d ∈ tables_1, d.before a0 Z = true) (ws : List Jvm.Cond) (a1 : Addr) (a2 : Addr) (k2 : ClassId) (y0 : Int32) (y1 : Int32) (y2 : Int32) (ib : Addr) (ks : Addr) (kk : ClassId) (x_s : Int32) (x0 : Int32) (x1 : Int32) (x2 : Int32) (h0 : Heap) (n0 : Nat) (Z0 : n0 ≤ h0.size) (E_a1 : Exa Z h0 a1 cs0) (Fld_a1_keys : Fld Z h0 a1 cs0 "keys" "Lcom/example/arcwright/arcwright/parser/IntBlocks;" (.ref ib)) (Fld_a1_keyStarts : Fld Z h0 a1 cs0 "keyStarts" "[I" (.ref ks)) (Fld_a1_labelStarts : Fld Z h0 a1 cs0 "labelStarts" "[I" .null) (Fld_a1_size : Fld Z h0 a1 cs0 "size" "I" (.int (2 : Int32))) (E_ib : Exa Z h0 ib cs1) (Fld_ib_size : Fld Z h0 ib cs1 "size" "I" (.int x_s)) (V_ks : Arv Z h0 ks kk .int (3 : Int32) [(.int x0), (.int x1), (.int x2)] (.int (0 : Int32))) (V_a2 : Arv Z h0 a2 k2 .int (3 : Int32) [(.int y0), (.int y1), (.int y2)] (.int (0 : Int32))) (g_a1 : n0 ≤ a1) (g_ib : n0 ≤ ib) (g_ks : n0 ≤ ks) (ne_ks_a2 : ks ≠ a2) (hy0 : ¬ (y0 < (0 : Int32))) (hy1 : ¬ (y1 < (0 : Int32))) (hy2 : ¬ (y2 < (0 : Int32))) :
    MetFree l mn0 (head1 (Jvm.Cond.code mn0 prog_25_method_3_code 4 (some .int) :: ws) ({ frames := 2, cells := 1, slots := 6, locals := 55 } : Room)) (fun a U => a = #[(.ref a1), (.ref a2), (.int (0 : Int32))] ∧ Z.Warmed39 U.vm ∧ U.heap = h0) (fun _ _ _ _ _ => True) (fun _ U o U' => ∃ v L, o = .returned v ∧ Qrmap3_2N0 Z a1 a2 k2 y0 y1 y2 ib ks kk x_s x0 x1 x2 h0 n0 v U'.heap L ∧ FrameEnd U o U' L ({ frames := 2, cells := 1, slots := 6, locals := 55 } : Room).cells ({ frames := 2, cells := 1, slots := 6, locals := 55 } : Room).slots) := by
 refine MetFree.of_bodySF (plainFor_of_name pn_4) hisR ?_
 intro p e s m args below meth c s₁ Bd hml0 hP hK
 obtain ⟨rfl, hZ, hh⟩ := hP
 have hx := Bd.exec
 have hby := Bd.bytes
 have hml : c.maxLocals = 4 := hml0
 have hown : s.vm.findClass cs0 = some m.cls := findClass_of_methodNamed Bd.named
 have hnm := (name_of_methodNamed Bd.named Bd.method).1
 have X0 : Stand p l e ({ frames := 2, cells := 1, slots := 6, locals := 55 } : Room) s m #[(.ref a1), (.ref a2), (.int (0 : Int32))] below meth c s₁ [] 0 0 := Stand.of_body Bd
 have e0 : s₁.heap = h0 := by rw [← hh, Bd.state]; rfl
 have N0 := Fr.nil n0
 refine own_go (b := (s₁.setTop (mkF m 0 #[rv a1, rv a2, iv (0 : Int32), .unset] []))) (fun _ k => castTop (ef_rmap3_2N0 m a1 a2 (0 : Int32)) k) ?_
 refine own_go (b := (s₁.setTop (mkF m 1 #[rv a1, rv a2, iv (0 : Int32), .unset] [(.ref a1)]))) (fun _ k => XS.aloadN X0.here hx rfl (hb hby d4_0) rfl rfl k) ?_
 refine own_getf X0 hx hZ hown (ow hw 31 rfl) Via.refl e0 Fld_a1_labelStarts rfl rfl (hb hby d4_1) (fun T1 X1 e1 => ?_)
 refine own_go (b := (T1.setTop (mkF m 54 #[rv a1, rv a2, iv (0 : Int32), iv (0 : Int32)] [(.ref a1), (.ref a1)]))) (fun _ k => XS.ifnullYes X1.here hx rfl (pc0 := 4) (pc' := 17) rfl (hb hby d4_4) rfl (by decide) (by decide) (XS.iconst X1.here hx rfl (hb hby d4_17) (XS.istoreN X1.here hx rfl (hb hby d4_18) rfl (l' := #[rv a1, rv a2, iv (0 : Int32), iv (0 : Int32)]) rfl (XS.iloadN X1.here hx rfl (hb hby d4_19) rfl (XS.iloadN X1.here hx rfl (hb hby d4_20) rfl (XS.icmpYes X1.here hx rfl (pc0 := 21) (pc' := 52) rfl (hb hby d4_21) rfl (flt (by decide : ¬ ((0 : Int32) < (0 : Int32)))).2.1 (by decide) (by decide) (XS.aloadN X1.here hx rfl (hb hby d4_52) rfl rfl (XS.dup X1.here hx rfl (hb hby d4_53) rfl rfl k)))))))) ?_
 refine own_getf X1 hx hZ hown (ow hw 33 rfl) Via.refl e1 Fld_a1_size rfl rfl (hb hby d4_54) (fun T2 X2 e2 => ?_)
 refine own_go (b := (T2.setTop (mkF m 60 #[rv a1, rv a2, iv (0 : Int32), iv (0 : Int32)] [(.int (3 : Int32)), (.ref a1), (.int (2 : Int32))]))) (fun _ k => XS.dupX1 X2.here hx rfl (hb hby d4_57) rfl rfl rfl (XS.iconst X2.here hx rfl (hb hby d4_58) (XS.iadd X2.here hx rfl (hb hby d4_59) rfl k))) ?_
 obtain ⟨T3, h3, X3, e3, W3, st3⟩ := putF X2 hx hZ hown (host := "") (Or.inl (ow hw 33 rfl)) Via.refl e2 Fld_a1_size E_a1 (Or.inl (ow hw 34 rfl)) (ow hw 3 rfl) (ty := .int) (by decide) rfl rfl (g := (mkF m 60 #[rv a1, rv a2, iv (0 : Int32), iv (0 : Int32)] [(.int (3 : Int32)), (.ref a1), (.int (2 : Int32))])) rfl rfl (hb hby d4_60)
 have N3 := Fr.snoc X3 N0 g_a1
 have Zs4 : n0 ≤ h3.size := Nat.le_trans Z0 (Keep.of_wr W3).1
 have F3 : Fld Z h3 a1 cs0 "size" "I" (.int (3 : Int32)) := Fld_a1_size.same W3
 refine own_go (b := (T3.setTop (mkF m 65 #[rv a1, rv a2, iv (0 : Int32), iv (2 : Int32)] [(.ref a1)]))) (fun _ k => st3 _ (XS.istoreN X3.here hx rfl (hb hby d4_63) rfl (l' := #[rv a1, rv a2, iv (0 : Int32), iv (2 : Int32)]) rfl (XS.aloadN X3.here hx rfl (hb hby d4_64) rfl rfl k))) ?_
 refine own_getf X3 hx hZ hown (ow hw 33 rfl) Via.refl e3 F3 rfl rfl (hb hby d4_65) (fun T5 X5 e5 => ?_)
 refine own_go (b := (T5.setTop (mkF m 71 #[rv a1, rv a2, iv (0 : Int32), iv (2 : Int32)] [(.ref a1), (.int (4 : Int32))]))) (fun _ k => XS.iconst X5.here hx rfl (hb hby d4_68) (XS.iadd X5.here hx rfl (hb hby d4_69) rfl (XS.aloadN X5.here hx rfl (hb hby d4_70) rfl rfl k))) ?_
 have F6 := Fld_a1_keyStarts.other W3 (Or.inr (slot_ne (Or.inl (ow hw 25 rfl)) (Or.inl (ow hw 34 rfl)) (by decide) (t := (.array .int)) (t' := .int) (by decide) (by decide)))
 refine own_getf X5 hx hZ hown (ow hw 24 rfl) Via.refl e5 F6 rfl rfl (hb hby d4_71) (fun T7 X7 e7 => ?_)
 obtain ⟨cn9, An9, -⟩ := id V_ks
 have nx10 : ks ≠ a1 := (Ne.symm (ne_arr E_a1 (ow hw 3 rfl) An9))
 have F11 := V_ks.other W3 nx10
 obtain ⟨cl8, Ar8, -, Sz8, Nn8, -, -⟩ := id F11
 refine own_go (b := (T7.setTop (mkF m 80 #[rv a1, rv a2, iv (0 : Int32), iv (2 : Int32)] [(.ref a1), (.ref a1)]))) (fun _ k => X7.arraylength hx (by rw [e7]; exact Ar8.1) (State.isArrayOf_alike hZ.alike Ar8.2.1) (g := (mkF m 74 #[rv a1, rv a2, iv (0 : Int32), iv (2 : Int32)] [(.ref ks), (.int (4 : Int32))])) rfl rfl (hb hby d4_74) _ (by rw [len_of Sz8 Nn8]; exact (XS.icmpNo X7.here hx rfl (hb hby d4_75) rfl (tlt (by decide : (3 : Int32) < (4 : Int32))).2.2.2 (XS.aloadN X7.here hx rfl (hb hby d4_78) rfl rfl (XS.aloadN X7.here hx rfl (hb hby d4_79) rfl rfl k))))) ?_
 refine own_getf X7 hx hZ hown (ow hw 24 rfl) Via.refl e7 F6 rfl rfl (hb hby d4_80) (fun T12 X12 e12 => ?_)
 refine own_go (b := (T12.setTop (mkF m 85 #[rv a1, rv a2, iv (0 : Int32), iv (2 : Int32)] [(.ref a1), (.int (2 : Int32)), (.ref ks), (.ref a1)]))) (fun _ k => XS.iconst X12.here hx rfl (hb hby d4_83) (XS.aloadN X12.here hx rfl (hb hby d4_84) rfl rfl k)) ?_
 refine own_getf X12 hx hZ hown (ow hw 24 rfl) Via.refl e12 F6 rfl rfl (hb hby d4_85) (fun T13 X13 e13 => ?_)
 obtain ⟨cl14, Ar14, -, Sz14, Nn14, -, -⟩ := id F11
 refine own_go (b := (T13.setTop (mkF m 90 #[rv a1, rv a2, iv (0 : Int32), iv (2 : Int32)] [(.int (6 : Int32)), (.ref ks), (.ref a1)]))) (fun _ k => X13.arraylength hx (by rw [e13]; exact Ar14.1) (State.isArrayOf_alike hZ.alike Ar14.2.1) (g := (mkF m 88 #[rv a1, rv a2, iv (0 : Int32), iv (2 : Int32)] [(.ref ks), (.int (2 : Int32)), (.ref ks), (.ref a1)])) rfl rfl (hb hby d4_88) _ (by rw [len_of Sz14 Nn14]; exact (XS.imul X13.here hx rfl (hb hby d4_89) rfl k))) ?_
 refine own_stat (W := 1) X13 hx hZ hown e13 (ow hw 35 rfl) (ow hw 36 rfl) (rmcp3 l Z a0 hw [] ks kk x0 x1 x2 h3 n0 Zs4 F11) (ow hw 38 rfl) (ow hw 37 rfl) rfl (by rw [hml]; rfl) rfl (hb hby d4_90) (lenOf pd___II__I rfl) rfl (by decide) (fun T15 v15 Ll15 X15 hQ15 => ?_)
 obtain ⟨b_15, kb_15, rfl, N15q, K15, P15_0, P15_1⟩ := hQ15
 have N15 := Fr.app N3 N15q
 have Zs16 : n0 ≤ T15.heap.size := Nat.le_trans Zs4 K15.1
 have F17 := E_a1.wr W3
 have F18 := F17.keep K15
 have F19 := F6.keep K15 nin0
 obtain ⟨T20, h20, X20, e20, W20, st20⟩ := putF X15 hx hZ hown (host := "") (Or.inl (ow hw 24 rfl)) Via.refl rfl F19 F18 (Or.inl (ow hw 25 rfl)) (ow hw 3 rfl) (ty := (.array .int)) (by decide) rfl rfl (g := (mkF m 93 #[rv a1, rv a2, iv (0 : Int32), iv (2 : Int32)] [(.ref b_15), (.ref a1)])) rfl rfl (hb hby d4_93)
 have N20 := Fr.snoc X20 N15 g_a1
 have Zs21 : n0 ≤ h20.size := Nat.le_trans Zs16 (Keep.of_wr W20).1
 have F20 : Fld Z h20 a1 cs0 "keyStarts" "[I" (.ref b_15) := F19.same W20
 refine own_go (b := (T20.setTop (mkF m 97 #[rv a1, rv a2, iv (0 : Int32), iv (2 : Int32)] [(.ref a1)]))) (fun _ k => st20 _ (XS.aloadN X20.here hx rfl (hb hby d4_96) rfl rfl k)) ?_
 have F22 := Fld_a1_keys.other W3 (Or.inr (slot_ne (Or.inr (ow hw 23 rfl)) (Or.inl (ow hw 34 rfl)) (by decide) (t := (.object cs1)) (t' := .int) (by decide) (by decide)))
 have F23 := F22.keep K15 nin0
 have F24 := F23.other W20 (Or.inr (slot_ne (Or.inr (ow hw 23 rfl)) (Or.inl (ow hw 25 rfl)) (by decide) (t := (.object cs1)) (t' := (.array .int)) (by decide) (by decide)))
 refine own_getf X20 hx hZ hown (ow hw 22 rfl) Via.refl e20 F24 rfl rfl (hb hby d4_97) (fun T25 X25 e25 => ?_)
 refine own_go (b := (T25.setTop (mkF m 103 #[rv a1, rv a2, iv (0 : Int32), iv (2 : Int32)] [(.int (0 : Int32)), (.int (0 : Int32)), (.ref a2), (.ref ib)]))) (fun _ k => XS.aloadN X25.here hx rfl (hb hby d4_100) rfl rfl (XS.iconst X25.here hx rfl (hb hby d4_101) (XS.iloadN X25.here hx rfl (hb hby d4_102) rfl k))) ?_
 have F27 := E_ib.wr W3
 have F28 := F27.keep K15
 have F29 := F28.wr W20
 refine own_virt (W := 0) X25 hx hZ hown e25 (ow hw 47 rfl) (ow hw 48 rfl) (ow hw 50 rfl) (ow hw 49 rfl) (rmadd0 l Z a0 hw [] ib a2 h20 n0 Zs21) (ow hw 51 rfl) (ow hw 13 rfl) F29 rfl (by rw [hml]; rfl) rfl (hb hby d4_103) (lenOf pd___III_V rfl) rfl (by decide) (fun T26 v26 Ll26 X26 hQ26 => ?_)
 obtain ⟨rfl, N26q, eh26⟩ := hQ26
 have N26 := Fr.app N20 N26q
 refine own_go (b := (T26.setTop (mkF m 107 #[rv a1, rv a2, iv (0 : Int32), iv (2 : Int32)] [(.ref a1)]))) (fun _ k => XS.aloadN X26.here hx rfl (hb hby d4_106) rfl rfl k) ?_
 refine own_getf X26 hx hZ hown (ow hw 24 rfl) Via.refl eh26 F20 rfl rfl (hb hby d4_107) (fun T30 X30 e30 => ?_)
 refine own_go (b := (T30.setTop (mkF m 114 #[rv a1, rv a2, iv (0 : Int32), iv (2 : Int32)] [(.ref a1), (.int (3 : Int32)), (.ref b_15)]))) (fun _ k => XS.iloadN X30.here hx rfl (hb hby d4_110) rfl (XS.iconst X30.here hx rfl (hb hby d4_111) (XS.iadd X30.here hx rfl (hb hby d4_112) rfl (XS.aloadN X30.here hx rfl (hb hby d4_113) rfl rfl k)))) ?_
 refine own_getf X30 hx hZ hown (ow hw 22 rfl) Via.refl e30 F24 rfl rfl (hb hby d4_114) (fun T31 X31 e31 => ?_)
 have nx33 : ib ≠ a1 := (ne_exa E_ib E_a1 (by decide))
 have F34 := Fld_ib_size.other W3 (Or.inl nx33)
 have F35 := F34.keep K15 nin0
 have F36 := F35.other W20 (Or.inl nx33)
 refine own_virt (W := 2) X31 hx hZ hown e31 (ow hw 63 rfl) (ow hw 64 rfl) (ow hw 66 rfl) (ow hw 65 rfl) (rm9 l Z a0 hw [] ib x_s h20 n0 Zs21 F36) (ow hw 67 rfl) (ow hw 13 rfl) F29 rfl (by rw [hml]; rfl) rfl (hb hby d4_117) (lenOf pd___I rfl) rfl (by decide) (fun T32 v32 Ll32 X32 hQ32 => ?_)
 obtain ⟨rfl, N32q, eh32⟩ := hQ32
 have N32 := Fr.app N26 N32q
 have nx38 : b_15 ≠ a1 := (Ne.symm (own_ne E_a1.lt (Keep.of_wr W3).1 P15_0))
 have F39 := P15_1.other W20 nx38
 obtain ⟨cl37, Ar37, ql37, Sz37, Nn37, Hl37, Gl37⟩ := id F39
 have hin37 : ¬ ((3 : Int32) < 0 ∨ cl37.slots.size ≤ ((3 : Int32)).toNatClampNeg) := inb_of Sz37 ⟨by decide, by decide⟩
 obtain ⟨T37, h37, X37, e37, W37, st37⟩ := stI X32 hx hZ eh32 Ar37 (j := (3 : Int32)) hin37 (g := (mkF m 120 #[rv a1, rv a2, iv (0 : Int32), iv (2 : Int32)] [(.int x_s), (.int (3 : Int32)), (.ref b_15)])) rfl rfl (hb hby d4_120)
 have gx40 : n0 ≤ b_15 := Nat.le_trans Zs4 P15_0
 have N37 := Fr.snoc X37 N32 gx40
 have Zs41 : n0 ≤ h37.size := Nat.le_trans Zs21 (Keep.of_wr W37).1
 have V37 : Arv Z h37 b_15 kb_15 .int (6 : Int32) [(.int x0), (.int x1), (.int x2), (.int x_s), (.int (0 : Int32)), (.int (0 : Int32))] (.int (0 : Int32)) := Arv.set Ar37 ql37 Sz37 Nn37 Hl37 Gl37 rfl W37 3 rfl (Nat.le_of_ble_eq_true rfl)
 refine own_go (b := (T37.setTop (mkF m 122 #[rv a1, rv a2, iv (0 : Int32), iv (2 : Int32)] [(.int (2 : Int32))]))) (fun _ k => st37 _ (XS.iloadN X37.here hx rfl (hb hby d4_121) rfl k)) ?_
 have K42 := (Keep.refl h0 [a1]).wr W3 (Or.inl (List.mem_of_getElem? (i := 0) rfl))
 have K43 := K42.trans K15 all0
 have K44 := K43.wr W20 (Or.inl (List.mem_of_getElem? (i := 0) rfl))
 have K45 := K44.wr W37 (Or.inr (Nat.le_trans (Keep.of_wr W3).1 P15_0))
 have F46 := F24.other W37 (Or.inl (Ne.symm nx38))
 have F47 := Fld_a1_labelStarts.other W3 (Or.inr (slot_ne (Or.inl (ow hw 32 rfl)) (Or.inl (ow hw 34 rfl)) (by decide) (t := (.array .int)) (t' := .int) (by decide) (by decide)))
 have F48 := F47.keep K15 nin0
 have F49 := F48.other W20 (Or.inr (slot_ne (Or.inl (ow hw 32 rfl)) (Or.inl (ow hw 25 rfl)) (by decide) (t := (.array .int)) (t' := (.array .int)) (by decide) (by decide)))
 have F50 := F49.other W37 (Or.inl (Ne.symm nx38))
 have F51 := F3.keep K15 nin0
 have F52 := F51.other W20 (Or.inr (slot_ne (Or.inl (ow hw 34 rfl)) (Or.inl (ow hw 25 rfl)) (by decide) (t := .int) (t' := (.array .int)) (by decide) (by decide)))
 have F53 := F52.other W37 (Or.inl (Ne.symm nx38))
 have F54 := F20.other W37 (Or.inl (Ne.symm nx38))
 obtain ⟨fs, hr, hrun, hended, hW, hsame⟩ := X37.leave (v := some (.int (2 : Int32))) (fun h => by rw [Bd.returns] at h; cases h)
 exact ⟨_, _, retOut X37 hx Bd.returns rfl (Or.inl ⟨rfl, Or.inl rfl, _, rfl⟩) (hb hby d4_122) hr, hrun, hended, _, _, rfl, (show Qrmap3_2N0 Z a1 a2 k2 y0 y1 y2 ib ks kk x_s x0 x1 x2 h0 n0 _ T37.heap _ from (by rw [e37]; exact ⟨b_15, kb_15, rfl, N37, K45, F46, F50, F53, (Nat.le_trans (Keep.of_wr W3).1 P15_0), F54, V37⟩)), ⟨_, rfl⟩, hW, hsame.mono (by decide) (by decide)⟩
theorem ef_rmap3_2E1 (m : MethodId) (x0 : Addr) (x1 : Addr) (x2 : Int32) : entryFrame m #[(.ref x0), (.ref x1), (.int x2)] 4 = mkF m 0 #[rv x0, rv x1, iv x2, .unset] [] := by first | (simp [entryFrame, mkF, argsToLocals, Value.category]; done) | rfl
def Qrmap3_2E1 (Z : State) (a1 : Addr) (a2 : Addr) (k2 : ClassId) (y0 : Int32) (y1 : Int32) (y2 : Int32) (p4 : Int32) (ib : Addr) (ks : Addr) (kk : ClassId) (bl : Addr) (kb : ClassId) (x0 : Int32) (x1 : Int32) (x2 : Int32) (h0 : Heap) (n0 : Nat) (v : Option Value) (h : Heap) (L : List Loc) : Prop := ∃ (ksn : Addr) (kkn : ClassId) (cn : Addr) (kn : ClassId) (vsn : List Value), v = some (.int (2 : Int32)) ∧ Fr n0 L ∧ Keep h0 h [a1, ib, bl] ∧ (Fld Z h a1 cs0 "keys" "Lcom/example/arcwright/arcwright/parser/IntBlocks;" (.ref ib)) ∧ (Fld Z h a1 cs0 "labelStarts" "[I" .null) ∧ (Fld Z h a1 cs0 "size" "I" (.int (3 : Int32))) ∧ (h0.size ≤ ksn) ∧ (Fld Z h a1 cs0 "keyStarts" "[I" (.ref ksn)) ∧ (Arv Z h ksn kkn .int (6 : Int32) [(.int x0), (.int x1), (.int x2), (.int p4), (.int (0 : Int32)), (.int (0 : Int32))] (.int (0 : Int32))) ∧ (Fld Z h ib cs1 "size" "I" (.int p4)) ∧ (Fld Z h ib cs1 "blocks" "[[I" (.ref bl)) ∧ (h0.size ≤ cn) ∧ (Arv Z h bl kb (.array .int) (16 : Int32) ((.ref cn) :: own_n15) .null) ∧ (Arv Z h cn kn .int (65536 : Int32) vsn (.int (0 : Int32))) ∧ (16 ≤ vsn.length) ∧ (ksn ≠ cn)
set_option maxRecDepth 65536 in
set_option maxHeartbeats 40000000 in
theorem rmap3_2E1 (l : Launch) (Z : State) (a0 : Array Value) (hw : ∀ d ∈ tables_1, d.before a0 Z = true) (ws : List Jvm.Cond) (a1 : Addr) (a2 : Addr) (k2 : ClassId) (y0 : Int32) (y1 : Int32) (y2 : Int32) (p4 : Int32) (ib : Addr) (ks : Addr) (kk : ClassId) (bl : Addr) (kb : ClassId) (x0 : Int32) (x1 : Int32) (x2 : Int32) (h0 : Heap) (n0 : Nat) (Z0 : n0 ≤ h0.size) (E_a1 : Exa Z h0 a1 cs0) (Fld_a1_keys : Fld Z h0 a1 cs0 "keys" "Lcom/example/arcwright/arcwright/parser/IntBlocks;" (.ref ib)) (Fld_a1_keyStarts : Fld Z h0 a1 cs0 "keyStarts" "[I" (.ref ks)) (Fld_a1_labelStarts : Fld Z h0 a1 cs0 "labelStarts" "[I" .null) (Fld_a1_size : Fld Z h0 a1 cs0 "size" "I" (.int (2 : Int32))) (E_ib : Exa Z h0 ib cs1) (Fld_ib_size : Fld Z h0 ib cs1 "size" "I" (.int (0 : Int32))) (Fld_ib_blocks : Fld Z h0 ib cs1 "blocks" "[[I" (.ref bl)) (V_ks : Arv Z h0 ks kk .int (3 : Int32) [(.int x0), (.int x1), (.int x2)] (.int (0 : Int32))) (V_a2 : Arv Z h0 a2 k2 .int (3 : Int32) [(.int y0), (.int y1), (.int y2)] (.int (0 : Int32))) (g_a1 : n0 ≤ a1) (g_ib : n0 ≤ ib) (g_ks : n0 ≤ ks) (ne_ks_a2 : ks ≠ a2) (g_bl : n0 ≤ bl) (ne_ks_bl : ks ≠ bl) (ne_a2_bl : a2 ≠ bl) (hy0 : ¬ (y0 < (0 : Int32))) (hy1 : ¬ (y1 < (0 : Int32))) (hy2 : ¬ (y2 < (0 : Int32))) (hn0 : (0 : Int32) < p4) (hn3 : ¬ ((3 : Int32) < p4)) (V_bl : Arv Z h0 bl kb (.array .int) (16 : Int32) own_n16 .null) (Ov_bl : OvrA Z kb .int "[I") :
    MetFree l mn0 (head1 (Jvm.Cond.code mn0 prog_25_method_3_code 4 (some .int) :: ws) ({ frames := 2, cells := 2, slots := 65542, locals := 58 } : Room)) (fun a U => a = #[(.ref a1), (.ref a2), (.int p4)] ∧ Z.Warmed39 U.vm ∧ U.heap = h0) (fun _ _ _ _ _ => True) (fun _ U o U' => ∃ v L, o = .returned v ∧ Qrmap3_2E1 Z a1 a2 k2 y0 y1 y2 p4 ib ks kk bl kb x0 x1 x2 h0 n0 v U'.heap L ∧ FrameEnd U o U' L ({ frames := 2, cells := 2, slots := 65542, locals := 58 } : Room).cells ({ frames := 2, cells := 2, slots := 65542, locals := 58 } : Room).slots) := by
 refine MetFree.of_bodySF (plainFor_of_name pn_4) hisR ?_
 intro p e s m args below meth c s₁ Bd hml0 hP hK
 obtain ⟨rfl, hZ, hh⟩ := hP
 have hx := Bd.exec
 have hby := Bd.bytes
 have hml : c.maxLocals = 4 := hml0
 have hown : s.vm.findClass cs0 = some m.cls := findClass_of_methodNamed Bd.named
 have hnm := (name_of_methodNamed Bd.named Bd.method).1
 have X0 : Stand p l e ({ frames := 2, cells := 2, slots := 65542, locals := 58 } : Room) s m #[(.ref a1), (.ref a2), (.int p4)] below meth c s₁ [] 0 0 := Stand.of_body Bd
 have e0 : s₁.heap = h0 := by rw [← hh, Bd.state]; rfl
 have N0 := Fr.nil n0
 refine own_go (b := (s₁.setTop (mkF m 0 #[rv a1, rv a2, iv p4, .unset] []))) (fun _ k => castTop (ef_rmap3_2E1 m a1 a2 p4) k) ?_
 refine own_go (b := (s₁.setTop (mkF m 1 #[rv a1, rv a2, iv p4, .unset] [(.ref a1)]))) (fun _ k => XS.aloadN X0.here hx rfl (hb hby d4_0) rfl rfl k) ?_
 refine own_getf X0 hx hZ hown (ow hw 31 rfl) Via.refl e0 Fld_a1_labelStarts rfl rfl (hb hby d4_1) (fun T1 X1 e1 => ?_)
 refine own_go (b := (T1.setTop (mkF m 19 #[rv a1, rv a2, iv p4, iv (0 : Int32)] []))) (fun _ k => XS.ifnullYes X1.here hx rfl (pc0 := 4) (pc' := 17) rfl (hb hby d4_4) rfl (by decide) (by decide) (XS.iconst X1.here hx rfl (hb hby d4_17) (XS.istoreN X1.here hx rfl (hb hby d4_18) rfl (l' := #[rv a1, rv a2, iv p4, iv (0 : Int32)]) rfl k))) ?_
 refine own_join (A := Int32) (C := fun ii => True) (f := fun ii => (T1.setTop (mkF m 52 #[rv a1, rv a2, iv p4, iv ii] []))) ?_ ?_
 · intro ii hj2
   refine own_go (b := (T1.setTop (mkF m 54 #[rv a1, rv a2, iv p4, iv ii] [(.ref a1), (.ref a1)]))) (fun _ k => XS.aloadN X1.here hx rfl (hb hby d4_52) rfl rfl (XS.dup X1.here hx rfl (hb hby d4_53) rfl rfl k)) ?_
   refine own_getf X1 hx hZ hown (ow hw 33 rfl) Via.refl e1 Fld_a1_size rfl rfl (hb hby d4_54) (fun T3 X3 e3 => ?_)
   refine own_go (b := (T3.setTop (mkF m 60 #[rv a1, rv a2, iv p4, iv ii] [(.int (3 : Int32)), (.ref a1), (.int (2 : Int32))]))) (fun _ k => XS.dupX1 X3.here hx rfl (hb hby d4_57) rfl rfl rfl (XS.iconst X3.here hx rfl (hb hby d4_58) (XS.iadd X3.here hx rfl (hb hby d4_59) rfl k))) ?_
   obtain ⟨T4, h4, X4, e4, W4, st4⟩ := putF X3 hx hZ hown (host := "") (Or.inl (ow hw 33 rfl)) Via.refl e3 Fld_a1_size E_a1 (Or.inl (ow hw 34 rfl)) (ow hw 3 rfl) (ty := .int) (by decide) rfl rfl (g := (mkF m 60 #[rv a1, rv a2, iv p4, iv ii] [(.int (3 : Int32)), (.ref a1), (.int (2 : Int32))])) rfl rfl (hb hby d4_60)
   have N4 := Fr.snoc X4 N0 g_a1
   have Zs5 : n0 ≤ h4.size := Nat.le_trans Z0 (Keep.of_wr W4).1
   have F4 : Fld Z h4 a1 cs0 "size" "I" (.int (3 : Int32)) := Fld_a1_size.same W4
   refine own_go (b := (T4.setTop (mkF m 65 #[rv a1, rv a2, iv p4, iv (2 : Int32)] [(.ref a1)]))) (fun _ k => st4 _ (XS.istoreN X4.here hx rfl (hb hby d4_63) rfl (l' := #[rv a1, rv a2, iv p4, iv (2 : Int32)]) rfl (XS.aloadN X4.here hx rfl (hb hby d4_64) rfl rfl k))) ?_
   refine own_getf X4 hx hZ hown (ow hw 33 rfl) Via.refl e4 F4 rfl rfl (hb hby d4_65) (fun T6 X6 e6 => ?_)
   refine own_go (b := (T6.setTop (mkF m 71 #[rv a1, rv a2, iv p4, iv (2 : Int32)] [(.ref a1), (.int (4 : Int32))]))) (fun _ k => XS.iconst X6.here hx rfl (hb hby d4_68) (XS.iadd X6.here hx rfl (hb hby d4_69) rfl (XS.aloadN X6.here hx rfl (hb hby d4_70) rfl rfl k))) ?_
   have F7 := Fld_a1_keyStarts.other W4 (Or.inr (slot_ne (Or.inl (ow hw 25 rfl)) (Or.inl (ow hw 34 rfl)) (by decide) (t := (.array .int)) (t' := .int) (by decide) (by decide)))
   refine own_getf X6 hx hZ hown (ow hw 24 rfl) Via.refl e6 F7 rfl rfl (hb hby d4_71) (fun T8 X8 e8 => ?_)
   obtain ⟨cn10, An10, -⟩ := id V_ks
   have nx11 : ks ≠ a1 := (Ne.symm (ne_arr E_a1 (ow hw 3 rfl) An10))
   have F12 := V_ks.other W4 nx11
   obtain ⟨cl9, Ar9, -, Sz9, Nn9, -, -⟩ := id F12
   refine own_go (b := (T8.setTop (mkF m 80 #[rv a1, rv a2, iv p4, iv (2 : Int32)] [(.ref a1), (.ref a1)]))) (fun _ k => X8.arraylength hx (by rw [e8]; exact Ar9.1) (State.isArrayOf_alike hZ.alike Ar9.2.1) (g := (mkF m 74 #[rv a1, rv a2, iv p4, iv (2 : Int32)] [(.ref ks), (.int (4 : Int32))])) rfl rfl (hb hby d4_74) _ (by rw [len_of Sz9 Nn9]; exact (XS.icmpNo X8.here hx rfl (hb hby d4_75) rfl (tlt (by decide : (3 : Int32) < (4 : Int32))).2.2.2 (XS.aloadN X8.here hx rfl (hb hby d4_78) rfl rfl (XS.aloadN X8.here hx rfl (hb hby d4_79) rfl rfl k))))) ?_
   refine own_getf X8 hx hZ hown (ow hw 24 rfl) Via.refl e8 F7 rfl rfl (hb hby d4_80) (fun T13 X13 e13 => ?_)
   refine own_go (b := (T13.setTop (mkF m 85 #[rv a1, rv a2, iv p4, iv (2 : Int32)] [(.ref a1), (.int (2 : Int32)), (.ref ks), (.ref a1)]))) (fun _ k => XS.iconst X13.here hx rfl (hb hby d4_83) (XS.aloadN X13.here hx rfl (hb hby d4_84) rfl rfl k)) ?_
   refine own_getf X13 hx hZ hown (ow hw 24 rfl) Via.refl e13 F7 rfl rfl (hb hby d4_85) (fun T14 X14 e14 => ?_)
   obtain ⟨cl15, Ar15, -, Sz15, Nn15, -, -⟩ := id F12
   refine own_go (b := (T14.setTop (mkF m 90 #[rv a1, rv a2, iv p4, iv (2 : Int32)] [(.int (6 : Int32)), (.ref ks), (.ref a1)]))) (fun _ k => X14.arraylength hx (by rw [e14]; exact Ar15.1) (State.isArrayOf_alike hZ.alike Ar15.2.1) (g := (mkF m 88 #[rv a1, rv a2, iv p4, iv (2 : Int32)] [(.ref ks), (.int (2 : Int32)), (.ref ks), (.ref a1)])) rfl rfl (hb hby d4_88) _ (by rw [len_of Sz15 Nn15]; exact (XS.imul X14.here hx rfl (hb hby d4_89) rfl k))) ?_
   refine own_stat (W := 1) X14 hx hZ hown e14 (ow hw 35 rfl) (ow hw 36 rfl) (rmcp3 l Z a0 hw [] ks kk x0 x1 x2 h4 n0 Zs5 F12) (ow hw 38 rfl) (ow hw 37 rfl) rfl (by rw [hml]; rfl) rfl (hb hby d4_90) (lenOf pd___II__I rfl) rfl (by decide) (fun T16 v16 Ll16 X16 hQ16 => ?_)
   obtain ⟨b_16, kb_16, rfl, N16q, K16, P16_0, P16_1⟩ := hQ16
   have N16 := Fr.app N4 N16q
   have Zs17 : n0 ≤ T16.heap.size := Nat.le_trans Zs5 K16.1
   have F18 := E_a1.wr W4
   have F19 := F18.keep K16
   have F20 := F7.keep K16 nin0
   obtain ⟨T21, h21, X21, e21, W21, st21⟩ := putF X16 hx hZ hown (host := "") (Or.inl (ow hw 24 rfl)) Via.refl rfl F20 F19 (Or.inl (ow hw 25 rfl)) (ow hw 3 rfl) (ty := (.array .int)) (by decide) rfl rfl (g := (mkF m 93 #[rv a1, rv a2, iv p4, iv (2 : Int32)] [(.ref b_16), (.ref a1)])) rfl rfl (hb hby d4_93)
   have N21 := Fr.snoc X21 N16 g_a1
   have Zs22 : n0 ≤ h21.size := Nat.le_trans Zs17 (Keep.of_wr W21).1
   have F21 : Fld Z h21 a1 cs0 "keyStarts" "[I" (.ref b_16) := F20.same W21
   refine own_go (b := (T21.setTop (mkF m 97 #[rv a1, rv a2, iv p4, iv (2 : Int32)] [(.ref a1)]))) (fun _ k => st21 _ (XS.aloadN X21.here hx rfl (hb hby d4_96) rfl rfl k)) ?_
   have F23 := Fld_a1_keys.other W4 (Or.inr (slot_ne (Or.inr (ow hw 23 rfl)) (Or.inl (ow hw 34 rfl)) (by decide) (t := (.object cs1)) (t' := .int) (by decide) (by decide)))
   have F24 := F23.keep K16 nin0
   have F25 := F24.other W21 (Or.inr (slot_ne (Or.inr (ow hw 23 rfl)) (Or.inl (ow hw 25 rfl)) (by decide) (t := (.object cs1)) (t' := (.array .int)) (by decide) (by decide)))
   refine own_getf X21 hx hZ hown (ow hw 22 rfl) Via.refl e21 F25 rfl rfl (hb hby d4_97) (fun T26 X26 e26 => ?_)
   refine own_go (b := (T26.setTop (mkF m 103 #[rv a1, rv a2, iv p4, iv (2 : Int32)] [(.int p4), (.int (0 : Int32)), (.ref a2), (.ref ib)]))) (fun _ k => XS.aloadN X26.here hx rfl (hb hby d4_100) rfl rfl (XS.iconst X26.here hx rfl (hb hby d4_101) (XS.iloadN X26.here hx rfl (hb hby d4_102) rfl k))) ?_
   have F28 := E_ib.wr W4
   have F29 := F28.keep K16
   have F30 := F29.wr W21
   have nx31 : ib ≠ a1 := (ne_exa E_ib E_a1 (by decide))
   have F32 := Fld_ib_size.other W4 (Or.inl nx31)
   have F33 := F32.keep K16 nin0
   have F34 := F33.other W21 (Or.inl nx31)
   have F35 := Fld_ib_blocks.other W4 (Or.inl nx31)
   have F36 := F35.keep K16 nin0
   have F37 := F36.other W21 (Or.inl nx31)
   obtain ⟨cn38, An38, -⟩ := id V_bl
   have nx39 : bl ≠ a1 := (Ne.symm (ne_arr E_a1 (ow hw 3 rfl) An38))
   have F40 := V_bl.other W4 nx39
   have F41 := F40.keep K16 nin0
   have F42 := F41.other W21 nx39
   obtain ⟨cn43, An43, -⟩ := id V_a2
   have nx44 : a2 ≠ a1 := (Ne.symm (ne_arr E_a1 (ow hw 3 rfl) An43))
   have F45 := V_a2.other W4 nx44
   have F46 := F45.keep K16 nin0
   have F47 := F46.other W21 nx44
   refine own_virt (W := 0) X26 hx hZ hown e26 (ow hw 47 rfl) (ow hw 48 rfl) (ow hw 50 rfl) (ow hw 49 rfl) (rmaddE l Z a0 hw [] ib a2 k2 y0 y1 y2 p4 bl kb h21 n0 Zs22 F30 F34 F37 F42 Ov_bl g_ib g_bl F47 ne_a2_bl hn0 hn3) (ow hw 51 rfl) (ow hw 13 rfl) F30 rfl (by rw [hml]; rfl) rfl (hb hby d4_103) (lenOf pd___III_V rfl) rfl (by decide) (fun T27 v27 Ll27 X27 hQ27 => ?_)
   obtain ⟨cn_27, kn_27, vsn_27, rfl, N27q, K27, P27_0, P27_1, P27_2, P27_3, P27_4, P27_5⟩ := hQ27
   have N27 := Fr.app N21 N27q
   have Zs48 : n0 ≤ T27.heap.size := Nat.le_trans Zs22 K27.1
   refine own_go (b := (T27.setTop (mkF m 107 #[rv a1, rv a2, iv p4, iv (2 : Int32)] [(.ref a1)]))) (fun _ k => XS.aloadN X27.here hx rfl (hb hby d4_106) rfl rfl k) ?_
   have F49 := F21.keep K27 (ninS (Ne.symm nx31) (ninS (Ne.symm nx39) nin0))
   refine own_getf X27 hx hZ hown (ow hw 24 rfl) Via.refl rfl F49 rfl rfl (hb hby d4_107) (fun T50 X50 e50 => ?_)
   refine own_go (b := (T50.setTop (mkF m 114 #[rv a1, rv a2, iv p4, iv (2 : Int32)] [(.ref a1), (.int (3 : Int32)), (.ref b_16)]))) (fun _ k => XS.iloadN X50.here hx rfl (hb hby d4_110) rfl (XS.iconst X50.here hx rfl (hb hby d4_111) (XS.iadd X50.here hx rfl (hb hby d4_112) rfl (XS.aloadN X50.here hx rfl (hb hby d4_113) rfl rfl k)))) ?_
   have F51 := F25.keep K27 (ninS (Ne.symm nx31) (ninS (Ne.symm nx39) nin0))
   refine own_getf X50 hx hZ hown (ow hw 22 rfl) Via.refl e50 F51 rfl rfl (hb hby d4_114) (fun T52 X52 e52 => ?_)
   have F54 := F30.keep K27
   refine own_virt (W := 2) X52 hx hZ hown e52 (ow hw 63 rfl) (ow hw 64 rfl) (ow hw 66 rfl) (ow hw 65 rfl) (rm9 l Z a0 hw [] ib p4 T27.heap n0 Zs48 P27_0) (ow hw 67 rfl) (ow hw 13 rfl) F54 rfl (by rw [hml]; rfl) rfl (hb hby d4_117) (lenOf pd___I rfl) rfl (by decide) (fun T53 v53 Ll53 X53 hQ53 => ?_)
   obtain ⟨rfl, N53q, eh53⟩ := hQ53
   have N53 := Fr.app N27 N53q
   have nx56 : b_16 ≠ a1 := (Ne.symm (own_ne E_a1.lt (Keep.of_wr W4).1 P16_0))
   have F57 := P16_1.other W21 nx56
   have nx58 : b_16 ≠ bl := (Ne.symm (own_ne V_bl.lt (Keep.of_wr W4).1 P16_0))
   have nx59 : b_16 ≠ ib := (Ne.symm (own_ne E_ib.lt (Keep.of_wr W4).1 P16_0))
   have F60 := F57.keep K27 (ninS nx59 (ninS nx58 nin0))
   obtain ⟨cl55, Ar55, ql55, Sz55, Nn55, Hl55, Gl55⟩ := id F60
   have hin55 : ¬ ((3 : Int32) < 0 ∨ cl55.slots.size ≤ ((3 : Int32)).toNatClampNeg) := inb_of Sz55 ⟨by decide, by decide⟩
   obtain ⟨T55, h55, X55, e55, W55, st55⟩ := stI X53 hx hZ eh53 Ar55 (j := (3 : Int32)) hin55 (g := (mkF m 120 #[rv a1, rv a2, iv p4, iv (2 : Int32)] [(.int p4), (.int (3 : Int32)), (.ref b_16)])) rfl rfl (hb hby d4_120)
   have gx61 : n0 ≤ b_16 := Nat.le_trans Zs5 P16_0
   have N55 := Fr.snoc X55 N53 gx61
   have Zs62 : n0 ≤ h55.size := Nat.le_trans Zs48 (Keep.of_wr W55).1
   have V55 : Arv Z h55 b_16 kb_16 .int (6 : Int32) [(.int x0), (.int x1), (.int x2), (.int p4), (.int (0 : Int32)), (.int (0 : Int32))] (.int (0 : Int32)) := Arv.set Ar55 ql55 Sz55 Nn55 Hl55 Gl55 rfl W55 3 rfl (Nat.le_of_ble_eq_true rfl)
   refine own_go (b := (T55.setTop (mkF m 122 #[rv a1, rv a2, iv p4, iv (2 : Int32)] [(.int (2 : Int32))]))) (fun _ k => st55 _ (XS.iloadN X55.here hx rfl (hb hby d4_121) rfl k)) ?_
   have K63 := (Keep.refl h0 [a1, ib, bl]).wr W4 (Or.inl (List.mem_of_getElem? (i := 0) rfl))
   have K64 := K63.trans K16 all0
   have K65 := K64.wr W21 (Or.inl (List.mem_of_getElem? (i := 0) rfl))
   have K66 := K65.trans K27 (allS (Or.inl (List.mem_of_getElem? (i := 1) rfl)) (allS (Or.inl (List.mem_of_getElem? (i := 2) rfl)) all0))
   have K67 := K66.wr W55 (Or.inr (Nat.le_trans (Keep.of_wr W4).1 P16_0))
   have F68 := F51.other W55 (Or.inl (Ne.symm nx56))
   have F69 := Fld_a1_labelStarts.other W4 (Or.inr (slot_ne (Or.inl (ow hw 32 rfl)) (Or.inl (ow hw 34 rfl)) (by decide) (t := (.array .int)) (t' := .int) (by decide) (by decide)))
   have F70 := F69.keep K16 nin0
   have F71 := F70.other W21 (Or.inr (slot_ne (Or.inl (ow hw 32 rfl)) (Or.inl (ow hw 25 rfl)) (by decide) (t := (.array .int)) (t' := (.array .int)) (by decide) (by decide)))
   have F72 := F71.keep K27 (ninS (Ne.symm nx31) (ninS (Ne.symm nx39) nin0))
   have F73 := F72.other W55 (Or.inl (Ne.symm nx56))
   have F74 := F4.keep K16 nin0
   have F75 := F74.other W21 (Or.inr (slot_ne (Or.inl (ow hw 34 rfl)) (Or.inl (ow hw 25 rfl)) (by decide) (t := .int) (t' := (.array .int)) (by decide) (by decide)))
   have F76 := F75.keep K27 (ninS (Ne.symm nx31) (ninS (Ne.symm nx39) nin0))
   have F77 := F76.other W55 (Or.inl (Ne.symm nx56))
   have F78 := F49.other W55 (Or.inl (Ne.symm nx56))
   have F79 := P27_0.other W55 (Or.inl (Ne.symm nx59))
   have F80 := P27_1.other W55 (Or.inl (Ne.symm nx59))
   have F81 := P27_3.other W55 (Ne.symm nx58)
   have nx82 : cn_27 ≠ b_16 := (Ne.symm (own_ne P16_1.lt (Keep.of_wr W21).1 P27_2))
   have F83 := P27_4.other W55 nx82
   obtain ⟨fs, hr, hrun, hended, hW, hsame⟩ := X55.leave (v := some (.int (2 : Int32))) (fun h => by rw [Bd.returns] at h; cases h)
   exact ⟨_, _, retOut X55 hx Bd.returns rfl (Or.inl ⟨rfl, Or.inl rfl, _, rfl⟩) (hb hby d4_122) hr, hrun, hended, _, _, rfl, (show Qrmap3_2E1 Z a1 a2 k2 y0 y1 y2 p4 ib ks kk bl kb x0 x1 x2 h0 n0 _ T55.heap _ from (by rw [e55]; exact ⟨b_16, kb_16, cn_27, kn_27, vsn_27, rfl, N55, K67, F68, F73, F77, (Nat.le_trans (Keep.of_wr W4).1 P16_0), F78, V55, F79, F80, (Nat.le_trans (own_tr (own_tr (Keep.of_wr W4).1 K16.1) (Keep.of_wr W21).1) P27_2), F81, F83, P27_5, (Ne.symm nx82)⟩)), ⟨_, rfl⟩, hW, hsame.mono (by decide) (by decide)⟩
 · intro J2
   refine own_go (b := (T1.setTop (mkF m 26 #[rv a1, rv a2, iv p4, iv (0 : Int32)] [(.int (0 : Int32)), (.ref a2)]))) (fun _ k => XS.iloadN X1.here hx rfl (hb hby d4_19) rfl (XS.iloadN X1.here hx rfl (hb hby d4_20) rfl (XS.icmpNo X1.here hx rfl (hb hby d4_21) rfl (tlt hn0).2.1 (XS.aloadN X1.here hx rfl (hb hby d4_24) rfl rfl (XS.iloadN X1.here hx rfl (hb hby d4_25) rfl k))))) ?_
   obtain ⟨cl84, Ar84, ql84, Sz84, Nn84, Hl84, Gl84⟩ := id V_a2
   have hin84 : ¬ ((0 : Int32) < 0 ∨ cl84.slots.size ≤ ((0 : Int32)).toNatClampNeg) := inb_of Sz84 ⟨by decide, by decide⟩
   refine own_go (b := (T1.setTop (mkF m 21 #[rv a1, rv a2, iv p4, iv (1 : Int32)] [(.int p4), (.int (1 : Int32))]))) (fun _ k => X1.iaload hx (j := (0 : Int32)) (v := (.int y0)) (by rw [e1]; exact Ar84.1) (State.isArrayOf_alike hZ.alike Ar84.2.1) Ar84.2.2 hin84 (Hl84.at hin84 rfl) (g := (mkF m 26 #[rv a1, rv a2, iv p4, iv (0 : Int32)] [(.int (0 : Int32)), (.ref a2)])) rfl rfl (hb hby d4_26) _ (XS.ifYes X1.here hx rfl (pc0 := 27) (pc' := 46) rfl (hb hby d4_27) rfl ((if0 _ _).trans (flt hy0).2.1) (by decide) (by decide) (XS.iinc X1.here hx rfl (hb hby d4_46) rfl (l' := #[rv a1, rv a2, iv p4, iv (1 : Int32)]) rfl (XS.goto X1.here hx rfl (pc0 := 49) (pc' := 19) rfl (hb hby d4_49) (by decide) (by decide) (XS.iloadN X1.here hx rfl (hb hby d4_19) rfl (XS.iloadN X1.here hx rfl (hb hby d4_20) rfl k)))))) ?_
   by_cases hc21_85 : (1 : Int32) < p4
   · skip
     refine own_go (b := (T1.setTop (mkF m 26 #[rv a1, rv a2, iv p4, iv (1 : Int32)] [(.int (1 : Int32)), (.ref a2)]))) (fun _ k => XS.icmpNo X1.here hx rfl (hb hby d4_21) rfl (tlt hc21_85).2.1 (XS.aloadN X1.here hx rfl (hb hby d4_24) rfl rfl (XS.iloadN X1.here hx rfl (hb hby d4_25) rfl k))) ?_
     obtain ⟨cl86, Ar86, ql86, Sz86, Nn86, Hl86, Gl86⟩ := id V_a2
     have hin86 : ¬ ((1 : Int32) < 0 ∨ cl86.slots.size ≤ ((1 : Int32)).toNatClampNeg) := inb_of Sz86 ⟨by decide, by decide⟩
     refine own_go (b := (T1.setTop (mkF m 21 #[rv a1, rv a2, iv p4, iv (2 : Int32)] [(.int p4), (.int (2 : Int32))]))) (fun _ k => X1.iaload hx (j := (1 : Int32)) (v := (.int y1)) (by rw [e1]; exact Ar86.1) (State.isArrayOf_alike hZ.alike Ar86.2.1) Ar86.2.2 hin86 (Hl86.at hin86 rfl) (g := (mkF m 26 #[rv a1, rv a2, iv p4, iv (1 : Int32)] [(.int (1 : Int32)), (.ref a2)])) rfl rfl (hb hby d4_26) _ (XS.ifYes X1.here hx rfl (pc0 := 27) (pc' := 46) rfl (hb hby d4_27) rfl ((if0 _ _).trans (flt hy1).2.1) (by decide) (by decide) (XS.iinc X1.here hx rfl (hb hby d4_46) rfl (l' := #[rv a1, rv a2, iv p4, iv (2 : Int32)]) rfl (XS.goto X1.here hx rfl (pc0 := 49) (pc' := 19) rfl (hb hby d4_49) (by decide) (by decide) (XS.iloadN X1.here hx rfl (hb hby d4_19) rfl (XS.iloadN X1.here hx rfl (hb hby d4_20) rfl k)))))) ?_
     by_cases hc21_87 : (2 : Int32) < p4
     · skip
       refine own_go (b := (T1.setTop (mkF m 26 #[rv a1, rv a2, iv p4, iv (2 : Int32)] [(.int (2 : Int32)), (.ref a2)]))) (fun _ k => XS.icmpNo X1.here hx rfl (hb hby d4_21) rfl (tlt hc21_87).2.1 (XS.aloadN X1.here hx rfl (hb hby d4_24) rfl rfl (XS.iloadN X1.here hx rfl (hb hby d4_25) rfl k))) ?_
       obtain ⟨cl88, Ar88, ql88, Sz88, Nn88, Hl88, Gl88⟩ := id V_a2
       have hin88 : ¬ ((2 : Int32) < 0 ∨ cl88.slots.size ≤ ((2 : Int32)).toNatClampNeg) := inb_of Sz88 ⟨by decide, by decide⟩
       refine own_go (b := (T1.setTop (mkF m 52 #[rv a1, rv a2, iv p4, iv (3 : Int32)] []))) (fun _ k => X1.iaload hx (j := (2 : Int32)) (v := (.int y2)) (by rw [e1]; exact Ar88.1) (State.isArrayOf_alike hZ.alike Ar88.2.1) Ar88.2.2 hin88 (Hl88.at hin88 rfl) (g := (mkF m 26 #[rv a1, rv a2, iv p4, iv (2 : Int32)] [(.int (2 : Int32)), (.ref a2)])) rfl rfl (hb hby d4_26) _ (XS.ifYes X1.here hx rfl (pc0 := 27) (pc' := 46) rfl (hb hby d4_27) rfl ((if0 _ _).trans (flt hy2).2.1) (by decide) (by decide) (XS.iinc X1.here hx rfl (hb hby d4_46) rfl (l' := #[rv a1, rv a2, iv p4, iv (3 : Int32)]) rfl (XS.goto X1.here hx rfl (pc0 := 49) (pc' := 19) rfl (hb hby d4_49) (by decide) (by decide) (XS.iloadN X1.here hx rfl (hb hby d4_19) rfl (XS.iloadN X1.here hx rfl (hb hby d4_20) rfl (XS.icmpYes X1.here hx rfl (pc0 := 21) (pc' := 52) rfl (hb hby d4_21) rfl (flt hn3).2.1 (by decide) (by decide) k))))))) ?_
       exact J2 (3 : Int32) trivial
     · skip
       refine own_go (b := (T1.setTop (mkF m 52 #[rv a1, rv a2, iv p4, iv (2 : Int32)] []))) (fun _ k => XS.icmpYes X1.here hx rfl (pc0 := 21) (pc' := 52) rfl (hb hby d4_21) rfl (flt hc21_87).2.1 (by decide) (by decide) k) ?_
       exact J2 (2 : Int32) trivial
   · skip
     refine own_go (b := (T1.setTop (mkF m 52 #[rv a1, rv a2, iv p4, iv (1 : Int32)] []))) (fun _ k => XS.icmpYes X1.here hx rfl (pc0 := 21) (pc' := 52) rfl (hb hby d4_21) rfl (flt hc21_85).2.1 (by decide) (by decide) k) ?_
     exact J2 (1 : Int32) trivial
theorem ef_rmap3_2F1 (m : MethodId) (x0 : Addr) (x1 : Addr) (x2 : Int32) : entryFrame m #[(.ref x0), (.ref x1), (.int x2)] 4 = mkF m 0 #[rv x0, rv x1, iv x2, .unset] [] := by first | (simp [entryFrame, mkF, argsToLocals, Value.category]; done) | rfl
def Qrmap3_2F1 (Z : State) (a1 : Addr) (a2 : Addr) (k2 : ClassId) (y0 : Int32) (y1 : Int32) (y2 : Int32) (p4 : Int32) (ib : Addr) (ks : Addr) (kk : ClassId) (bl : Addr) (kb : ClassId) (x0 : Int32) (x1 : Int32) (x2 : Int32) (x_s : Int32) (c0 : Addr) (kc : ClassId) (vsc : List Value) (h0 : Heap) (n0 : Nat) (v : Option Value) (h : Heap) (L : List Loc) : Prop := ∃ (ksn : Addr) (kkn : ClassId) (vsn : List Value), v = some (.int (2 : Int32)) ∧ Fr n0 L ∧ Keep h0 h [a1, ib, c0] ∧ (Fld Z h a1 cs0 "keys" "Lcom/example/arcwright/arcwright/parser/IntBlocks;" (.ref ib)) ∧ (Fld Z h a1 cs0 "labelStarts" "[I" .null) ∧ (Fld Z h a1 cs0 "size" "I" (.int (3 : Int32))) ∧ (h0.size ≤ ksn) ∧ (Fld Z h a1 cs0 "keyStarts" "[I" (.ref ksn)) ∧ (Arv Z h ksn kkn .int (6 : Int32) [(.int x0), (.int x1), (.int x2), (.int (x_s + p4)), (.int (0 : Int32)), (.int (0 : Int32))] (.int (0 : Int32))) ∧ (Fld Z h ib cs1 "size" "I" (.int (x_s + p4))) ∧ (Fld Z h ib cs1 "blocks" "[[I" (.ref bl)) ∧ (Arv Z h c0 kc .int (65536 : Int32) vsn (.int (0 : Int32))) ∧ (16 ≤ vsn.length)
set_option maxRecDepth 65536 in
set_option maxHeartbeats 40000000 in
theorem rmap3_2F1 (l : Launch) (Z : State) (a0 : Array Value) (hw : ∀ d ∈ tables_1, d.before a0 Z = true) (ws : List Jvm.Cond) (a1 : Addr) (a2 : Addr) (k2 : ClassId) (y0 : Int32) (y1 : Int32) (y2 : Int32) (p4 : Int32) (ib : Addr) (ks : Addr) (kk : ClassId) (bl : Addr) (kb : ClassId) (x0 : Int32) (x1 : Int32) (x2 : Int32) (x_s : Int32) (c0 : Addr) (kc : ClassId) (vsc : List Value) (h0 : Heap) (n0 : Nat) (Z0 : n0 ≤ h0.size) (E_a1 : Exa Z h0 a1 cs0) (Fld_a1_keys : Fld Z h0 a1 cs0 "keys" "Lcom/example/arcwright/arcwright/parser/IntBlocks;" (.ref ib)) (Fld_a1_keyStarts : Fld Z h0 a1 cs0 "keyStarts" "[I" (.ref ks)) (Fld_a1_labelStarts : Fld Z h0 a1 cs0 "labelStarts" "[I" .null) (Fld_a1_size : Fld Z h0 a1 cs0 "size" "I" (.int (2 : Int32))) (E_ib : Exa Z h0 ib cs1) (Fld_ib_size : Fld Z h0 ib cs1 "size" "I" (.int x_s)) (Fld_ib_blocks : Fld Z h0 ib cs1 "blocks" "[[I" (.ref bl)) (V_ks : Arv Z h0 ks kk .int (3 : Int32) [(.int x0), (.int x1), (.int x2)] (.int (0 : Int32))) (V_a2 : Arv Z h0 a2 k2 .int (3 : Int32) [(.int y0), (.int y1), (.int y2)] (.int (0 : Int32))) (g_a1 : n0 ≤ a1) (g_ib : n0 ≤ ib) (g_ks : n0 ≤ ks) (ne_ks_a2 : ks ≠ a2) (g_bl : n0 ≤ bl) (ne_ks_bl : ks ≠ bl) (ne_a2_bl : a2 ≠ bl) (hy0 : ¬ (y0 < (0 : Int32))) (hy1 : ¬ (y1 < (0 : Int32))) (hy2 : ¬ (y2 < (0 : Int32))) (hn0 : (0 : Int32) < p4) (hn3 : ¬ ((3 : Int32) < p4)) (V_bl : Arv Z h0 bl kb (.array .int) (16 : Int32) ((.ref c0) :: own_n15) .null) (V_c0 : Arv Z h0 c0 kc .int (65536 : Int32) vsc (.int (0 : Int32))) (hlen : 16 ≤ vsc.length) (g_c0 : n0 ≤ c0) (ne_a2_c0 : a2 ≠ c0) (ne_bl_c0 : bl ≠ c0) (ne_ks_c0 : ks ≠ c0) (hs0 : (0 : Int32) < x_s) (hs6 : ¬ ((6 : Int32) < x_s)) :
    MetFree l mn0 (head1 (Jvm.Cond.code mn0 prog_25_method_3_code 4 (some .int) :: ws) ({ frames := 2, cells := 1, slots := 6, locals := 58 } : Room)) (fun a U => a = #[(.ref a1), (.ref a2), (.int p4)] ∧ Z.Warmed39 U.vm ∧ U.heap = h0) (fun _ _ _ _ _ => True) (fun _ U o U' => ∃ v L, o = .returned v ∧ Qrmap3_2F1 Z a1 a2 k2 y0 y1 y2 p4 ib ks kk bl kb x0 x1 x2 x_s c0 kc vsc h0 n0 v U'.heap L ∧ FrameEnd U o U' L ({ frames := 2, cells := 1, slots := 6, locals := 58 } : Room).cells ({ frames := 2, cells := 1, slots := 6, locals := 58 } : Room).slots) := by
 refine MetFree.of_bodySF (plainFor_of_name pn_4) hisR ?_
 intro p e s m args below meth c s₁ Bd hml0 hP hK
 obtain ⟨rfl, hZ, hh⟩ := hP
 have hx := Bd.exec
 have hby := Bd.bytes
 have hml : c.maxLocals = 4 := hml0
 have hown : s.vm.findClass cs0 = some m.cls := findClass_of_methodNamed Bd.named
 have hnm := (name_of_methodNamed Bd.named Bd.method).1
 have X0 : Stand p l e ({ frames := 2, cells := 1, slots := 6, locals := 58 } : Room) s m #[(.ref a1), (.ref a2), (.int p4)] below meth c s₁ [] 0 0 := Stand.of_body Bd
 have e0 : s₁.heap = h0 := by rw [← hh, Bd.state]; rfl
 have N0 := Fr.nil n0
 refine own_go (b := (s₁.setTop (mkF m 0 #[rv a1, rv a2, iv p4, .unset] []))) (fun _ k => castTop (ef_rmap3_2F1 m a1 a2 p4) k) ?_
 refine own_go (b := (s₁.setTop (mkF m 1 #[rv a1, rv a2, iv p4, .unset] [(.ref a1)]))) (fun _ k => XS.aloadN X0.here hx rfl (hb hby d4_0) rfl rfl k) ?_
 refine own_getf X0 hx hZ hown (ow hw 31 rfl) Via.refl e0 Fld_a1_labelStarts rfl rfl (hb hby d4_1) (fun T1 X1 e1 => ?_)
 refine own_go (b := (T1.setTop (mkF m 19 #[rv a1, rv a2, iv p4, iv (0 : Int32)] []))) (fun _ k => XS.ifnullYes X1.here hx rfl (pc0 := 4) (pc' := 17) rfl (hb hby d4_4) rfl (by decide) (by decide) (XS.iconst X1.here hx rfl (hb hby d4_17) (XS.istoreN X1.here hx rfl (hb hby d4_18) rfl (l' := #[rv a1, rv a2, iv p4, iv (0 : Int32)]) rfl k))) ?_
 refine own_join (A := Int32) (C := fun ii => True) (f := fun ii => (T1.setTop (mkF m 52 #[rv a1, rv a2, iv p4, iv ii] []))) ?_ ?_
 · intro ii hj2
   refine own_go (b := (T1.setTop (mkF m 54 #[rv a1, rv a2, iv p4, iv ii] [(.ref a1), (.ref a1)]))) (fun _ k => XS.aloadN X1.here hx rfl (hb hby d4_52) rfl rfl (XS.dup X1.here hx rfl (hb hby d4_53) rfl rfl k)) ?_
   refine own_getf X1 hx hZ hown (ow hw 33 rfl) Via.refl e1 Fld_a1_size rfl rfl (hb hby d4_54) (fun T3 X3 e3 => ?_)
   refine own_go (b := (T3.setTop (mkF m 60 #[rv a1, rv a2, iv p4, iv ii] [(.int (3 : Int32)), (.ref a1), (.int (2 : Int32))]))) (fun _ k => XS.dupX1 X3.here hx rfl (hb hby d4_57) rfl rfl rfl (XS.iconst X3.here hx rfl (hb hby d4_58) (XS.iadd X3.here hx rfl (hb hby d4_59) rfl k))) ?_
   obtain ⟨T4, h4, X4, e4, W4, st4⟩ := putF X3 hx hZ hown (host := "") (Or.inl (ow hw 33 rfl)) Via.refl e3 Fld_a1_size E_a1 (Or.inl (ow hw 34 rfl)) (ow hw 3 rfl) (ty := .int) (by decide) rfl rfl (g := (mkF m 60 #[rv a1, rv a2, iv p4, iv ii] [(.int (3 : Int32)), (.ref a1), (.int (2 : Int32))])) rfl rfl (hb hby d4_60)
   have N4 := Fr.snoc X4 N0 g_a1
   have Zs5 : n0 ≤ h4.size := Nat.le_trans Z0 (Keep.of_wr W4).1
   have F4 : Fld Z h4 a1 cs0 "size" "I" (.int (3 : Int32)) := Fld_a1_size.same W4
   refine own_go (b := (T4.setTop (mkF m 65 #[rv a1, rv a2, iv p4, iv (2 : Int32)] [(.ref a1)]))) (fun _ k => st4 _ (XS.istoreN X4.here hx rfl (hb hby d4_63) rfl (l' := #[rv a1, rv a2, iv p4, iv (2 : Int32)]) rfl (XS.aloadN X4.here hx rfl (hb hby d4_64) rfl rfl k))) ?_
   refine own_getf X4 hx hZ hown (ow hw 33 rfl) Via.refl e4 F4 rfl rfl (hb hby d4_65) (fun T6 X6 e6 => ?_)
   refine own_go (b := (T6.setTop (mkF m 71 #[rv a1, rv a2, iv p4, iv (2 : Int32)] [(.ref a1), (.int (4 : Int32))]))) (fun _ k => XS.iconst X6.here hx rfl (hb hby d4_68) (XS.iadd X6.here hx rfl (hb hby d4_69) rfl (XS.aloadN X6.here hx rfl (hb hby d4_70) rfl rfl k))) ?_
   have F7 := Fld_a1_keyStarts.other W4 (Or.inr (slot_ne (Or.inl (ow hw 25 rfl)) (Or.inl (ow hw 34 rfl)) (by decide) (t := (.array .int)) (t' := .int) (by decide) (by decide)))
   refine own_getf X6 hx hZ hown (ow hw 24 rfl) Via.refl e6 F7 rfl rfl (hb hby d4_71) (fun T8 X8 e8 => ?_)
   obtain ⟨cn10, An10, -⟩ := id V_ks
   have nx11 : ks ≠ a1 := (Ne.symm (ne_arr E_a1 (ow hw 3 rfl) An10))
   have F12 := V_ks.other W4 nx11
   obtain ⟨cl9, Ar9, -, Sz9, Nn9, -, -⟩ := id F12
   refine own_go (b := (T8.setTop (mkF m 80 #[rv a1, rv a2, iv p4, iv (2 : Int32)] [(.ref a1), (.ref a1)]))) (fun _ k => X8.arraylength hx (by rw [e8]; exact Ar9.1) (State.isArrayOf_alike hZ.alike Ar9.2.1) (g := (mkF m 74 #[rv a1, rv a2, iv p4, iv (2 : Int32)] [(.ref ks), (.int (4 : Int32))])) rfl rfl (hb hby d4_74) _ (by rw [len_of Sz9 Nn9]; exact (XS.icmpNo X8.here hx rfl (hb hby d4_75) rfl (tlt (by decide : (3 : Int32) < (4 : Int32))).2.2.2 (XS.aloadN X8.here hx rfl (hb hby d4_78) rfl rfl (XS.aloadN X8.here hx rfl (hb hby d4_79) rfl rfl k))))) ?_
   refine own_getf X8 hx hZ hown (ow hw 24 rfl) Via.refl e8 F7 rfl rfl (hb hby d4_80) (fun T13 X13 e13 => ?_)
   refine own_go (b := (T13.setTop (mkF m 85 #[rv a1, rv a2, iv p4, iv (2 : Int32)] [(.ref a1), (.int (2 : Int32)), (.ref ks), (.ref a1)]))) (fun _ k => XS.iconst X13.here hx rfl (hb hby d4_83) (XS.aloadN X13.here hx rfl (hb hby d4_84) rfl rfl k)) ?_
   refine own_getf X13 hx hZ hown (ow hw 24 rfl) Via.refl e13 F7 rfl rfl (hb hby d4_85) (fun T14 X14 e14 => ?_)
   obtain ⟨cl15, Ar15, -, Sz15, Nn15, -, -⟩ := id F12
   refine own_go (b := (T14.setTop (mkF m 90 #[rv a1, rv a2, iv p4, iv (2 : Int32)] [(.int (6 : Int32)), (.ref ks), (.ref a1)]))) (fun _ k => X14.arraylength hx (by rw [e14]; exact Ar15.1) (State.isArrayOf_alike hZ.alike Ar15.2.1) (g := (mkF m 88 #[rv a1, rv a2, iv p4, iv (2 : Int32)] [(.ref ks), (.int (2 : Int32)), (.ref ks), (.ref a1)])) rfl rfl (hb hby d4_88) _ (by rw [len_of Sz15 Nn15]; exact (XS.imul X14.here hx rfl (hb hby d4_89) rfl k))) ?_
   refine own_stat (W := 1) X14 hx hZ hown e14 (ow hw 35 rfl) (ow hw 36 rfl) (rmcp3 l Z a0 hw [] ks kk x0 x1 x2 h4 n0 Zs5 F12) (ow hw 38 rfl) (ow hw 37 rfl) rfl (by rw [hml]; rfl) rfl (hb hby d4_90) (lenOf pd___II__I rfl) rfl (by decide) (fun T16 v16 Ll16 X16 hQ16 => ?_)
   obtain ⟨b_16, kb_16, rfl, N16q, K16, P16_0, P16_1⟩ := hQ16
   have N16 := Fr.app N4 N16q
   have Zs17 : n0 ≤ T16.heap.size := Nat.le_trans Zs5 K16.1
   have F18 := E_a1.wr W4
   have F19 := F18.keep K16
   have F20 := F7.keep K16 nin0
   obtain ⟨T21, h21, X21, e21, W21, st21⟩ := putF X16 hx hZ hown (host := "") (Or.inl (ow hw 24 rfl)) Via.refl rfl F20 F19 (Or.inl (ow hw 25 rfl)) (ow hw 3 rfl) (ty := (.array .int)) (by decide) rfl rfl (g := (mkF m 93 #[rv a1, rv a2, iv p4, iv (2 : Int32)] [(.ref b_16), (.ref a1)])) rfl rfl (hb hby d4_93)
   have N21 := Fr.snoc X21 N16 g_a1
   have Zs22 : n0 ≤ h21.size := Nat.le_trans Zs17 (Keep.of_wr W21).1
   have F21 : Fld Z h21 a1 cs0 "keyStarts" "[I" (.ref b_16) := F20.same W21
   refine own_go (b := (T21.setTop (mkF m 97 #[rv a1, rv a2, iv p4, iv (2 : Int32)] [(.ref a1)]))) (fun _ k => st21 _ (XS.aloadN X21.here hx rfl (hb hby d4_96) rfl rfl k)) ?_
   have F23 := Fld_a1_keys.other W4 (Or.inr (slot_ne (Or.inr (ow hw 23 rfl)) (Or.inl (ow hw 34 rfl)) (by decide) (t := (.object cs1)) (t' := .int) (by decide) (by decide)))
   have F24 := F23.keep K16 nin0
   have F25 := F24.other W21 (Or.inr (slot_ne (Or.inr (ow hw 23 rfl)) (Or.inl (ow hw 25 rfl)) (by decide) (t := (.object cs1)) (t' := (.array .int)) (by decide) (by decide)))
   refine own_getf X21 hx hZ hown (ow hw 22 rfl) Via.refl e21 F25 rfl rfl (hb hby d4_97) (fun T26 X26 e26 => ?_)
   refine own_go (b := (T26.setTop (mkF m 103 #[rv a1, rv a2, iv p4, iv (2 : Int32)] [(.int p4), (.int (0 : Int32)), (.ref a2), (.ref ib)]))) (fun _ k => XS.aloadN X26.here hx rfl (hb hby d4_100) rfl rfl (XS.iconst X26.here hx rfl (hb hby d4_101) (XS.iloadN X26.here hx rfl (hb hby d4_102) rfl k))) ?_
   have F28 := E_ib.wr W4
   have F29 := F28.keep K16
   have F30 := F29.wr W21
   have nx31 : ib ≠ a1 := (ne_exa E_ib E_a1 (by decide))
   have F32 := Fld_ib_size.other W4 (Or.inl nx31)
   have F33 := F32.keep K16 nin0
   have F34 := F33.other W21 (Or.inl nx31)
   have F35 := Fld_ib_blocks.other W4 (Or.inl nx31)
   have F36 := F35.keep K16 nin0
   have F37 := F36.other W21 (Or.inl nx31)
   obtain ⟨cn38, An38, -⟩ := id V_bl
   have nx39 : bl ≠ a1 := (Ne.symm (ne_arr E_a1 (ow hw 3 rfl) An38))
   have F40 := V_bl.other W4 nx39
   have F41 := F40.keep K16 nin0
   have F42 := F41.other W21 nx39
   obtain ⟨cn43, An43, -⟩ := id V_c0
   have nx44 : c0 ≠ a1 := (Ne.symm (ne_arr E_a1 (ow hw 3 rfl) An43))
   have F45 := V_c0.other W4 nx44
   have F46 := F45.keep K16 nin0
   have F47 := F46.other W21 nx44
   obtain ⟨cn48, An48, -⟩ := id V_a2
   have nx49 : a2 ≠ a1 := (Ne.symm (ne_arr E_a1 (ow hw 3 rfl) An48))
   have F50 := V_a2.other W4 nx49
   have F51 := F50.keep K16 nin0
   have F52 := F51.other W21 nx49
   refine own_virt (W := 0) X26 hx hZ hown e26 (ow hw 47 rfl) (ow hw 48 rfl) (ow hw 50 rfl) (ow hw 49 rfl) (rmaddF l Z a0 hw [] ib a2 k2 y0 y1 y2 p4 bl kb x_s c0 kc vsc h21 n0 Zs22 F30 F34 F37 F42 g_ib g_c0 F47 F52 ne_a2_c0 ne_bl_c0 hlen hn0 hn3 hs0 hs6) (ow hw 51 rfl) (ow hw 13 rfl) F30 rfl (by rw [hml]; rfl) rfl (hb hby d4_103) (lenOf pd___III_V rfl) rfl (by decide) (fun T27 v27 Ll27 X27 hQ27 => ?_)
   obtain ⟨vsn_27, rfl, N27q, K27, P27_0, P27_1, P27_2, P27_3⟩ := hQ27
   have N27 := Fr.app N21 N27q
   have Zs53 : n0 ≤ T27.heap.size := Nat.le_trans Zs22 K27.1
   refine own_go (b := (T27.setTop (mkF m 107 #[rv a1, rv a2, iv p4, iv (2 : Int32)] [(.ref a1)]))) (fun _ k => XS.aloadN X27.here hx rfl (hb hby d4_106) rfl rfl k) ?_
   have F54 := F21.keep K27 (ninS (Ne.symm nx31) (ninS (Ne.symm nx44) nin0))
   refine own_getf X27 hx hZ hown (ow hw 24 rfl) Via.refl rfl F54 rfl rfl (hb hby d4_107) (fun T55 X55 e55 => ?_)
   refine own_go (b := (T55.setTop (mkF m 114 #[rv a1, rv a2, iv p4, iv (2 : Int32)] [(.ref a1), (.int (3 : Int32)), (.ref b_16)]))) (fun _ k => XS.iloadN X55.here hx rfl (hb hby d4_110) rfl (XS.iconst X55.here hx rfl (hb hby d4_111) (XS.iadd X55.here hx rfl (hb hby d4_112) rfl (XS.aloadN X55.here hx rfl (hb hby d4_113) rfl rfl k)))) ?_
   have F56 := F25.keep K27 (ninS (Ne.symm nx31) (ninS (Ne.symm nx44) nin0))
   refine own_getf X55 hx hZ hown (ow hw 22 rfl) Via.refl e55 F56 rfl rfl (hb hby d4_114) (fun T57 X57 e57 => ?_)
   have F59 := F30.keep K27
   refine own_virt (W := 2) X57 hx hZ hown e57 (ow hw 63 rfl) (ow hw 64 rfl) (ow hw 66 rfl) (ow hw 65 rfl) (rm9 l Z a0 hw [] ib (x_s + p4) T27.heap n0 Zs53 P27_0) (ow hw 67 rfl) (ow hw 13 rfl) F59 rfl (by rw [hml]; rfl) rfl (hb hby d4_117) (lenOf pd___I rfl) rfl (by decide) (fun T58 v58 Ll58 X58 hQ58 => ?_)
   obtain ⟨rfl, N58q, eh58⟩ := hQ58
   have N58 := Fr.app N27 N58q
   have nx61 : b_16 ≠ a1 := (Ne.symm (own_ne E_a1.lt (Keep.of_wr W4).1 P16_0))
   have F62 := P16_1.other W21 nx61
   have nx63 : b_16 ≠ c0 := (Ne.symm (own_ne V_c0.lt (Keep.of_wr W4).1 P16_0))
   have nx64 : b_16 ≠ ib := (Ne.symm (own_ne E_ib.lt (Keep.of_wr W4).1 P16_0))
   have F65 := F62.keep K27 (ninS nx64 (ninS nx63 nin0))
   obtain ⟨cl60, Ar60, ql60, Sz60, Nn60, Hl60, Gl60⟩ := id F65
   have hin60 : ¬ ((3 : Int32) < 0 ∨ cl60.slots.size ≤ ((3 : Int32)).toNatClampNeg) := inb_of Sz60 ⟨by decide, by decide⟩
   obtain ⟨T60, h60, X60, e60, W60, st60⟩ := stI X58 hx hZ eh58 Ar60 (j := (3 : Int32)) hin60 (g := (mkF m 120 #[rv a1, rv a2, iv p4, iv (2 : Int32)] [(.int (x_s + p4)), (.int (3 : Int32)), (.ref b_16)])) rfl rfl (hb hby d4_120)
   have gx66 : n0 ≤ b_16 := Nat.le_trans Zs5 P16_0
   have N60 := Fr.snoc X60 N58 gx66
   have Zs67 : n0 ≤ h60.size := Nat.le_trans Zs53 (Keep.of_wr W60).1
   have V60 : Arv Z h60 b_16 kb_16 .int (6 : Int32) [(.int x0), (.int x1), (.int x2), (.int (x_s + p4)), (.int (0 : Int32)), (.int (0 : Int32))] (.int (0 : Int32)) := Arv.set Ar60 ql60 Sz60 Nn60 Hl60 Gl60 rfl W60 3 rfl (Nat.le_of_ble_eq_true rfl)
   refine own_go (b := (T60.setTop (mkF m 122 #[rv a1, rv a2, iv p4, iv (2 : Int32)] [(.int (2 : Int32))]))) (fun _ k => st60 _ (XS.iloadN X60.here hx rfl (hb hby d4_121) rfl k)) ?_
   have K68 := (Keep.refl h0 [a1, ib, c0]).wr W4 (Or.inl (List.mem_of_getElem? (i := 0) rfl))
   have K69 := K68.trans K16 all0
   have K70 := K69.wr W21 (Or.inl (List.mem_of_getElem? (i := 0) rfl))
   have K71 := K70.trans K27 (allS (Or.inl (List.mem_of_getElem? (i := 1) rfl)) (allS (Or.inl (List.mem_of_getElem? (i := 2) rfl)) all0))
   have K72 := K71.wr W60 (Or.inr (Nat.le_trans (Keep.of_wr W4).1 P16_0))
   have F73 := F56.other W60 (Or.inl (Ne.symm nx61))
   have F74 := Fld_a1_labelStarts.other W4 (Or.inr (slot_ne (Or.inl (ow hw 32 rfl)) (Or.inl (ow hw 34 rfl)) (by decide) (t := (.array .int)) (t' := .int) (by decide) (by decide)))
   have F75 := F74.keep K16 nin0
   have F76 := F75.other W21 (Or.inr (slot_ne (Or.inl (ow hw 32 rfl)) (Or.inl (ow hw 25 rfl)) (by decide) (t := (.array .int)) (t' := (.array .int)) (by decide) (by decide)))
   have F77 := F76.keep K27 (ninS (Ne.symm nx31) (ninS (Ne.symm nx44) nin0))
   have F78 := F77.other W60 (Or.inl (Ne.symm nx61))
   have F79 := F4.keep K16 nin0
   have F80 := F79.other W21 (Or.inr (slot_ne (Or.inl (ow hw 34 rfl)) (Or.inl (ow hw 25 rfl)) (by decide) (t := .int) (t' := (.array .int)) (by decide) (by decide)))
   have F81 := F80.keep K27 (ninS (Ne.symm nx31) (ninS (Ne.symm nx44) nin0))
   have F82 := F81.other W60 (Or.inl (Ne.symm nx61))
   have F83 := F54.other W60 (Or.inl (Ne.symm nx61))
   have F84 := P27_0.other W60 (Or.inl (Ne.symm nx64))
   have F85 := P27_1.other W60 (Or.inl (Ne.symm nx64))
   have F86 := P27_2.other W60 (Ne.symm nx63)
   obtain ⟨fs, hr, hrun, hended, hW, hsame⟩ := X60.leave (v := some (.int (2 : Int32))) (fun h => by rw [Bd.returns] at h; cases h)
   exact ⟨_, _, retOut X60 hx Bd.returns rfl (Or.inl ⟨rfl, Or.inl rfl, _, rfl⟩) (hb hby d4_122) hr, hrun, hended, _, _, rfl, (show Qrmap3_2F1 Z a1 a2 k2 y0 y1 y2 p4 ib ks kk bl kb x0 x1 x2 x_s c0 kc vsc h0 n0 _ T60.heap _ from (by rw [e60]; exact ⟨b_16, kb_16, vsn_27, rfl, N60, K72, F73, F78, F82, (Nat.le_trans (Keep.of_wr W4).1 P16_0), F83, V60, F84, F85, F86, P27_3⟩)), ⟨_, rfl⟩, hW, hsame.mono (by decide) (by decide)⟩
 · intro J2
   refine own_go (b := (T1.setTop (mkF m 26 #[rv a1, rv a2, iv p4, iv (0 : Int32)] [(.int (0 : Int32)), (.ref a2)]))) (fun _ k => XS.iloadN X1.here hx rfl (hb hby d4_19) rfl (XS.iloadN X1.here hx rfl (hb hby d4_20) rfl (XS.icmpNo X1.here hx rfl (hb hby d4_21) rfl (tlt hn0).2.1 (XS.aloadN X1.here hx rfl (hb hby d4_24) rfl rfl (XS.iloadN X1.here hx rfl (hb hby d4_25) rfl k))))) ?_
   obtain ⟨cl87, Ar87, ql87, Sz87, Nn87, Hl87, Gl87⟩ := id V_a2
   have hin87 : ¬ ((0 : Int32) < 0 ∨ cl87.slots.size ≤ ((0 : Int32)).toNatClampNeg) := inb_of Sz87 ⟨by decide, by decide⟩
   refine own_go (b := (T1.setTop (mkF m 21 #[rv a1, rv a2, iv p4, iv (1 : Int32)] [(.int p4), (.int (1 : Int32))]))) (fun _ k => X1.iaload hx (j := (0 : Int32)) (v := (.int y0)) (by rw [e1]; exact Ar87.1) (State.isArrayOf_alike hZ.alike Ar87.2.1) Ar87.2.2 hin87 (Hl87.at hin87 rfl) (g := (mkF m 26 #[rv a1, rv a2, iv p4, iv (0 : Int32)] [(.int (0 : Int32)), (.ref a2)])) rfl rfl (hb hby d4_26) _ (XS.ifYes X1.here hx rfl (pc0 := 27) (pc' := 46) rfl (hb hby d4_27) rfl ((if0 _ _).trans (flt hy0).2.1) (by decide) (by decide) (XS.iinc X1.here hx rfl (hb hby d4_46) rfl (l' := #[rv a1, rv a2, iv p4, iv (1 : Int32)]) rfl (XS.goto X1.here hx rfl (pc0 := 49) (pc' := 19) rfl (hb hby d4_49) (by decide) (by decide) (XS.iloadN X1.here hx rfl (hb hby d4_19) rfl (XS.iloadN X1.here hx rfl (hb hby d4_20) rfl k)))))) ?_
   by_cases hc21_88 : (1 : Int32) < p4
   · skip
     refine own_go (b := (T1.setTop (mkF m 26 #[rv a1, rv a2, iv p4, iv (1 : Int32)] [(.int (1 : Int32)), (.ref a2)]))) (fun _ k => XS.icmpNo X1.here hx rfl (hb hby d4_21) rfl (tlt hc21_88).2.1 (XS.aloadN X1.here hx rfl (hb hby d4_24) rfl rfl (XS.iloadN X1.here hx rfl (hb hby d4_25) rfl k))) ?_
     obtain ⟨cl89, Ar89, ql89, Sz89, Nn89, Hl89, Gl89⟩ := id V_a2
     have hin89 : ¬ ((1 : Int32) < 0 ∨ cl89.slots.size ≤ ((1 : Int32)).toNatClampNeg) := inb_of Sz89 ⟨by decide, by decide⟩
     refine own_go (b := (T1.setTop (mkF m 21 #[rv a1, rv a2, iv p4, iv (2 : Int32)] [(.int p4), (.int (2 : Int32))]))) (fun _ k => X1.iaload hx (j := (1 : Int32)) (v := (.int y1)) (by rw [e1]; exact Ar89.1) (State.isArrayOf_alike hZ.alike Ar89.2.1) Ar89.2.2 hin89 (Hl89.at hin89 rfl) (g := (mkF m 26 #[rv a1, rv a2, iv p4, iv (1 : Int32)] [(.int (1 : Int32)), (.ref a2)])) rfl rfl (hb hby d4_26) _ (XS.ifYes X1.here hx rfl (pc0 := 27) (pc' := 46) rfl (hb hby d4_27) rfl ((if0 _ _).trans (flt hy1).2.1) (by decide) (by decide) (XS.iinc X1.here hx rfl (hb hby d4_46) rfl (l' := #[rv a1, rv a2, iv p4, iv (2 : Int32)]) rfl (XS.goto X1.here hx rfl (pc0 := 49) (pc' := 19) rfl (hb hby d4_49) (by decide) (by decide) (XS.iloadN X1.here hx rfl (hb hby d4_19) rfl (XS.iloadN X1.here hx rfl (hb hby d4_20) rfl k)))))) ?_
     by_cases hc21_90 : (2 : Int32) < p4
     · skip
       refine own_go (b := (T1.setTop (mkF m 26 #[rv a1, rv a2, iv p4, iv (2 : Int32)] [(.int (2 : Int32)), (.ref a2)]))) (fun _ k => XS.icmpNo X1.here hx rfl (hb hby d4_21) rfl (tlt hc21_90).2.1 (XS.aloadN X1.here hx rfl (hb hby d4_24) rfl rfl (XS.iloadN X1.here hx rfl (hb hby d4_25) rfl k))) ?_
       obtain ⟨cl91, Ar91, ql91, Sz91, Nn91, Hl91, Gl91⟩ := id V_a2
       have hin91 : ¬ ((2 : Int32) < 0 ∨ cl91.slots.size ≤ ((2 : Int32)).toNatClampNeg) := inb_of Sz91 ⟨by decide, by decide⟩
       refine own_go (b := (T1.setTop (mkF m 52 #[rv a1, rv a2, iv p4, iv (3 : Int32)] []))) (fun _ k => X1.iaload hx (j := (2 : Int32)) (v := (.int y2)) (by rw [e1]; exact Ar91.1) (State.isArrayOf_alike hZ.alike Ar91.2.1) Ar91.2.2 hin91 (Hl91.at hin91 rfl) (g := (mkF m 26 #[rv a1, rv a2, iv p4, iv (2 : Int32)] [(.int (2 : Int32)), (.ref a2)])) rfl rfl (hb hby d4_26) _ (XS.ifYes X1.here hx rfl (pc0 := 27) (pc' := 46) rfl (hb hby d4_27) rfl ((if0 _ _).trans (flt hy2).2.1) (by decide) (by decide) (XS.iinc X1.here hx rfl (hb hby d4_46) rfl (l' := #[rv a1, rv a2, iv p4, iv (3 : Int32)]) rfl (XS.goto X1.here hx rfl (pc0 := 49) (pc' := 19) rfl (hb hby d4_49) (by decide) (by decide) (XS.iloadN X1.here hx rfl (hb hby d4_19) rfl (XS.iloadN X1.here hx rfl (hb hby d4_20) rfl (XS.icmpYes X1.here hx rfl (pc0 := 21) (pc' := 52) rfl (hb hby d4_21) rfl (flt hn3).2.1 (by decide) (by decide) k))))))) ?_
       exact J2 (3 : Int32) trivial
     · skip
       refine own_go (b := (T1.setTop (mkF m 52 #[rv a1, rv a2, iv p4, iv (2 : Int32)] []))) (fun _ k => XS.icmpYes X1.here hx rfl (pc0 := 21) (pc' := 52) rfl (hb hby d4_21) rfl (flt hc21_90).2.1 (by decide) (by decide) k) ?_
       exact J2 (2 : Int32) trivial
   · skip
     refine own_go (b := (T1.setTop (mkF m 52 #[rv a1, rv a2, iv p4, iv (1 : Int32)] []))) (fun _ k => XS.icmpYes X1.here hx rfl (pc0 := 21) (pc' := 52) rfl (hb hby d4_21) rfl (flt hc21_88).2.1 (by decide) (by decide) k) ?_
     exact J2 (1 : Int32) trivial
theorem d10_0 : decode prog_25_method_6_code 0 = .ok (.aload_n 0, 1) := by decide +kernel
theorem d10_1 : decode prog_25_method_6_code 1 = .ok (.getfield 19, 3) := by decide +kernel
theorem d10_4 : decode prog_25_method_6_code 4 = .ok (.iload_n 1, 1) := by decide +kernel
theorem d10_5 : decode prog_25_method_6_code 5 = .ok (.iconst 1, 1) := by decide +kernel
theorem d10_6 : decode prog_25_method_6_code 6 = .ok (.iadd, 1) := by decide +kernel
theorem d10_7 : decode prog_25_method_6_code 7 = .ok (.iaload, 1) := by decide +kernel
theorem d10_8 : decode prog_25_method_6_code 8 = .ok (.aload_n 0, 1) := by decide +kernel
theorem d10_9 : decode prog_25_method_6_code 9 = .ok (.getfield 19, 3) := by decide +kernel
theorem d10_12 : decode prog_25_method_6_code 12 = .ok (.iload_n 1, 1) := by decide +kernel
theorem d10_13 : decode prog_25_method_6_code 13 = .ok (.iaload, 1) := by decide +kernel
theorem d10_14 : decode prog_25_method_6_code 14 = .ok (.isub, 1) := by decide +kernel
theorem d10_15 : decode prog_25_method_6_code 15 = .ok (.ireturn, 1) := by decide +kernel
theorem pn_10 : plainName cs0 = true := by first | (simp [plainName, overriddenIn]; done) | decide +kernel
theorem ef_rmlen4_0 (m : MethodId) (x0 : Addr) (x1 : Int32) : entryFrame m #[(.ref x0), (.int x1)] 2 = mkF m 0 #[rv x0, iv x1] [] := by first | (simp [entryFrame, mkF, argsToLocals, Value.category]; done) | rfl
def Qrmlen4_0 (Z : State) (a1 : Addr) (ks : Addr) (kk : ClassId) (x0 : Int32) (x1 : Int32) (x2 : Int32) (x3 : Int32) (h0 : Heap) (n0 : Nat) (v : Option Value) (h : Heap) (L : List Loc) : Prop := v = some (.int (x1 - x0)) ∧ Fr n0 L ∧ h = h0
set_option maxRecDepth 65536 in
set_option maxHeartbeats 40000000 in
theorem rmlen4_0 (l : Launch) (Z : State) (a0 : Array Value) (hw : ∀ d ∈ tables_1, d.before a0 Z = true) (ws : List Jvm.Cond) (a1 : Addr) (ks : Addr) (kk : ClassId) (x0 : Int32) (x1 : Int32) (x2 : Int32) (x3 : Int32) (h0 : Heap) (n0 : Nat) (Z0 : n0 ≤ h0.size) (Fld_a1_keyStarts : Fld Z h0 a1 cs0 "keyStarts" "[I" (.ref ks)) (V_ks : Arv Z h0 ks kk .int (4 : Int32) [(.int x0), (.int x1), (.int x2), (.int x3)] (.int (0 : Int32))) :
    MetFree l mn1 (head1 (Jvm.Cond.code mn1 prog_25_method_6_code 2 (some .int) :: ws) ({ frames := 0, cells := 0, slots := 0, locals := 0 } : Room)) (fun a U => a = #[(.ref a1), (.int (0 : Int32))] ∧ Z.Warmed39 U.vm ∧ U.heap = h0) (fun _ _ _ _ _ => True) (fun _ U o U' => ∃ v L, o = .returned v ∧ Qrmlen4_0 Z a1 ks kk x0 x1 x2 x3 h0 n0 v U'.heap L ∧ FrameEnd U o U' L ({ frames := 0, cells := 0, slots := 0, locals := 0 } : Room).cells ({ frames := 0, cells := 0, slots := 0, locals := 0 } : Room).slots) := by
 refine MetFree.of_bodySF (plainFor_of_name pn_10) hisR ?_
 intro p e s m args below meth c s₁ Bd hml0 hP hK
 obtain ⟨rfl, hZ, hh⟩ := hP
 have hx := Bd.exec
 have hby := Bd.bytes
 have hml : c.maxLocals = 2 := hml0
 have hown : s.vm.findClass cs0 = some m.cls := findClass_of_methodNamed Bd.named
 have hnm := (name_of_methodNamed Bd.named Bd.method).1
 have X0 : Stand p l e ({ frames := 0, cells := 0, slots := 0, locals := 0 } : Room) s m #[(.ref a1), (.int (0 : Int32))] below meth c s₁ [] 0 0 := Stand.of_body Bd
 have e0 : s₁.heap = h0 := by rw [← hh, Bd.state]; rfl
 have N0 := Fr.nil n0
 refine own_go (b := (s₁.setTop (mkF m 0 #[rv a1, iv (0 : Int32)] []))) (fun _ k => castTop (ef_rmlen4_0 m a1 (0 : Int32)) k) ?_
 refine own_go (b := (s₁.setTop (mkF m 1 #[rv a1, iv (0 : Int32)] [(.ref a1)]))) (fun _ k => XS.aloadN X0.here hx rfl (hb hby d10_0) rfl rfl k) ?_
 refine own_getf X0 hx hZ hown (ow hw 24 rfl) Via.refl e0 Fld_a1_keyStarts rfl rfl (hb hby d10_1) (fun T1 X1 e1 => ?_)
 refine own_go (b := (T1.setTop (mkF m 7 #[rv a1, iv (0 : Int32)] [(.int (1 : Int32)), (.ref ks)]))) (fun _ k => XS.iloadN X1.here hx rfl (hb hby d10_4) rfl (XS.iconst X1.here hx rfl (hb hby d10_5) (XS.iadd X1.here hx rfl (hb hby d10_6) rfl k))) ?_
 obtain ⟨cl2, Ar2, ql2, Sz2, Nn2, Hl2, Gl2⟩ := id V_ks
 have hin2 : ¬ ((1 : Int32) < 0 ∨ cl2.slots.size ≤ ((1 : Int32)).toNatClampNeg) := inb_of Sz2 ⟨by decide, by decide⟩
 refine own_go (b := (T1.setTop (mkF m 9 #[rv a1, iv (0 : Int32)] [(.ref a1), (.int x1)]))) (fun _ k => X1.iaload hx (j := (1 : Int32)) (v := (.int x1)) (by rw [e1]; exact Ar2.1) (State.isArrayOf_alike hZ.alike Ar2.2.1) Ar2.2.2 hin2 (Hl2.at hin2 rfl) (g := (mkF m 7 #[rv a1, iv (0 : Int32)] [(.int (1 : Int32)), (.ref ks)])) rfl rfl (hb hby d10_7) _ (XS.aloadN X1.here hx rfl (hb hby d10_8) rfl rfl k)) ?_
 refine own_getf X1 hx hZ hown (ow hw 24 rfl) Via.refl e1 Fld_a1_keyStarts rfl rfl (hb hby d10_9) (fun T3 X3 e3 => ?_)
 refine own_go (b := (T3.setTop (mkF m 13 #[rv a1, iv (0 : Int32)] [(.int (0 : Int32)), (.ref ks), (.int x1)]))) (fun _ k => XS.iloadN X3.here hx rfl (hb hby d10_12) rfl k) ?_
 obtain ⟨cl4, Ar4, ql4, Sz4, Nn4, Hl4, Gl4⟩ := id V_ks
 have hin4 : ¬ ((0 : Int32) < 0 ∨ cl4.slots.size ≤ ((0 : Int32)).toNatClampNeg) := inb_of Sz4 ⟨by decide, by decide⟩
 refine own_go (b := (T3.setTop (mkF m 15 #[rv a1, iv (0 : Int32)] [(.int (x1 - x0))]))) (fun _ k => X3.iaload hx (j := (0 : Int32)) (v := (.int x0)) (by rw [e3]; exact Ar4.1) (State.isArrayOf_alike hZ.alike Ar4.2.1) Ar4.2.2 hin4 (Hl4.at hin4 rfl) (g := (mkF m 13 #[rv a1, iv (0 : Int32)] [(.int (0 : Int32)), (.ref ks), (.int x1)])) rfl rfl (hb hby d10_13) _ (XS.isub X3.here hx rfl (hb hby d10_14) rfl k)) ?_
 obtain ⟨fs, hr, hrun, hended, hW, hsame⟩ := X3.leave (v := some (.int (x1 - x0))) (fun h => by rw [Bd.returns] at h; cases h)
 exact ⟨_, _, retOut X3 hx Bd.returns rfl (Or.inl ⟨rfl, Or.inl rfl, _, rfl⟩) (hb hby d10_15) hr, hrun, hended, _, _, rfl, (show Qrmlen4_0 Z a1 ks kk x0 x1 x2 x3 h0 n0 _ T3.heap _ from (by rw [e3]; exact ⟨rfl, N0, rfl⟩)), ⟨_, rfl⟩, hW, hsame.mono (by decide) (by decide)⟩
theorem ef_rmlen4_1 (m : MethodId) (x0 : Addr) (x1 : Int32) : entryFrame m #[(.ref x0), (.int x1)] 2 = mkF m 0 #[rv x0, iv x1] [] := by first | (simp [entryFrame, mkF, argsToLocals, Value.category]; done) | rfl
def Qrmlen4_1 (Z : State) (a1 : Addr) (ks : Addr) (kk : ClassId) (x0 : Int32) (x1 : Int32) (x2 : Int32) (x3 : Int32) (h0 : Heap) (n0 : Nat) (v : Option Value) (h : Heap) (L : List Loc) : Prop := v = some (.int (x2 - x1)) ∧ Fr n0 L ∧ h = h0
set_option maxRecDepth 65536 in
set_option maxHeartbeats 40000000 in
theorem rmlen4_1 (l : Launch) (Z : State) (a0 : Array Value) (hw : ∀ d ∈ tables_1, d.before a0 Z = true) (ws : List Jvm.Cond) (a1 : Addr) (ks : Addr) (kk : ClassId) (x0 : Int32) (x1 : Int32) (x2 : Int32) (x3 : Int32) (h0 : Heap) (n0 : Nat) (Z0 : n0 ≤ h0.size) (Fld_a1_keyStarts : Fld Z h0 a1 cs0 "keyStarts" "[I" (.ref ks)) (V_ks : Arv Z h0 ks kk .int (4 : Int32) [(.int x0), (.int x1), (.int x2), (.int x3)] (.int (0 : Int32))) :
    MetFree l mn1 (head1 (Jvm.Cond.code mn1 prog_25_method_6_code 2 (some .int) :: ws) ({ frames := 0, cells := 0, slots := 0, locals := 0 } : Room)) (fun a U => a = #[(.ref a1), (.int (1 : Int32))] ∧ Z.Warmed39 U.vm ∧ U.heap = h0) (fun _ _ _ _ _ => True) (fun _ U o U' => ∃ v L, o = .returned v ∧ Qrmlen4_1 Z a1 ks kk x0 x1 x2 x3 h0 n0 v U'.heap L ∧ FrameEnd U o U' L ({ frames := 0, cells := 0, slots := 0, locals := 0 } : Room).cells ({ frames := 0, cells := 0, slots := 0, locals := 0 } : Room).slots) := by
 refine MetFree.of_bodySF (plainFor_of_name pn_10) hisR ?_
 intro p e s m args below meth c s₁ Bd hml0 hP hK
 obtain ⟨rfl, hZ, hh⟩ := hP
 have hx := Bd.exec
 have hby := Bd.bytes
 have hml : c.maxLocals = 2 := hml0
 have hown : s.vm.findClass cs0 = some m.cls := findClass_of_methodNamed Bd.named
 have hnm := (name_of_methodNamed Bd.named Bd.method).1
 have X0 : Stand p l e ({ frames := 0, cells := 0, slots := 0, locals := 0 } : Room) s m #[(.ref a1), (.int (1 : Int32))] below meth c s₁ [] 0 0 := Stand.of_body Bd
 have e0 : s₁.heap = h0 := by rw [← hh, Bd.state]; rfl
 have N0 := Fr.nil n0
 refine own_go (b := (s₁.setTop (mkF m 0 #[rv a1, iv (1 : Int32)] []))) (fun _ k => castTop (ef_rmlen4_1 m a1 (1 : Int32)) k) ?_
 refine own_go (b := (s₁.setTop (mkF m 1 #[rv a1, iv (1 : Int32)] [(.ref a1)]))) (fun _ k => XS.aloadN X0.here hx rfl (hb hby d10_0) rfl rfl k) ?_
 refine own_getf X0 hx hZ hown (ow hw 24 rfl) Via.refl e0 Fld_a1_keyStarts rfl rfl (hb hby d10_1) (fun T1 X1 e1 => ?_)
 refine own_go (b := (T1.setTop (mkF m 7 #[rv a1, iv (1 : Int32)] [(.int (2 : Int32)), (.ref ks)]))) (fun _ k => XS.iloadN X1.here hx rfl (hb hby d10_4) rfl (XS.iconst X1.here hx rfl (hb hby d10_5) (XS.iadd X1.here hx rfl (hb hby d10_6) rfl k))) ?_
 obtain ⟨cl2, Ar2, ql2, Sz2, Nn2, Hl2, Gl2⟩ := id V_ks
 have hin2 : ¬ ((2 : Int32) < 0 ∨ cl2.slots.size ≤ ((2 : Int32)).toNatClampNeg) := inb_of Sz2 ⟨by decide, by decide⟩
 refine own_go (b := (T1.setTop (mkF m 9 #[rv a1, iv (1 : Int32)] [(.ref a1), (.int x2)]))) (fun _ k => X1.iaload hx (j := (2 : Int32)) (v := (.int x2)) (by rw [e1]; exact Ar2.1) (State.isArrayOf_alike hZ.alike Ar2.2.1) Ar2.2.2 hin2 (Hl2.at hin2 rfl) (g := (mkF m 7 #[rv a1, iv (1 : Int32)] [(.int (2 : Int32)), (.ref ks)])) rfl rfl (hb hby d10_7) _ (XS.aloadN X1.here hx rfl (hb hby d10_8) rfl rfl k)) ?_
 refine own_getf X1 hx hZ hown (ow hw 24 rfl) Via.refl e1 Fld_a1_keyStarts rfl rfl (hb hby d10_9) (fun T3 X3 e3 => ?_)
 refine own_go (b := (T3.setTop (mkF m 13 #[rv a1, iv (1 : Int32)] [(.int (1 : Int32)), (.ref ks), (.int x2)]))) (fun _ k => XS.iloadN X3.here hx rfl (hb hby d10_12) rfl k) ?_
 obtain ⟨cl4, Ar4, ql4, Sz4, Nn4, Hl4, Gl4⟩ := id V_ks
 have hin4 : ¬ ((1 : Int32) < 0 ∨ cl4.slots.size ≤ ((1 : Int32)).toNatClampNeg) := inb_of Sz4 ⟨by decide, by decide⟩
 refine own_go (b := (T3.setTop (mkF m 15 #[rv a1, iv (1 : Int32)] [(.int (x2 - x1))]))) (fun _ k => X3.iaload hx (j := (1 : Int32)) (v := (.int x1)) (by rw [e3]; exact Ar4.1) (State.isArrayOf_alike hZ.alike Ar4.2.1) Ar4.2.2 hin4 (Hl4.at hin4 rfl) (g := (mkF m 13 #[rv a1, iv (1 : Int32)] [(.int (1 : Int32)), (.ref ks), (.int x2)])) rfl rfl (hb hby d10_13) _ (XS.isub X3.here hx rfl (hb hby d10_14) rfl k)) ?_
 obtain ⟨fs, hr, hrun, hended, hW, hsame⟩ := X3.leave (v := some (.int (x2 - x1))) (fun h => by rw [Bd.returns] at h; cases h)
 exact ⟨_, _, retOut X3 hx Bd.returns rfl (Or.inl ⟨rfl, Or.inl rfl, _, rfl⟩) (hb hby d10_15) hr, hrun, hended, _, _, rfl, (show Qrmlen4_1 Z a1 ks kk x0 x1 x2 x3 h0 n0 _ T3.heap _ from (by rw [e3]; exact ⟨rfl, N0, rfl⟩)), ⟨_, rfl⟩, hW, hsame.mono (by decide) (by decide)⟩
theorem ef_rmlen4_2 (m : MethodId) (x0 : Addr) (x1 : Int32) : entryFrame m #[(.ref x0), (.int x1)] 2 = mkF m 0 #[rv x0, iv x1] [] := by first | (simp [entryFrame, mkF, argsToLocals, Value.category]; done) | rfl
def Qrmlen4_2 (Z : State) (a1 : Addr) (ks : Addr) (kk : ClassId) (x0 : Int32) (x1 : Int32) (x2 : Int32) (x3 : Int32) (h0 : Heap) (n0 : Nat) (v : Option Value) (h : Heap) (L : List Loc) : Prop := v = some (.int (x3 - x2)) ∧ Fr n0 L ∧ h = h0
set_option maxRecDepth 65536 in
set_option maxHeartbeats 40000000 in
theorem rmlen4_2 (l : Launch) (Z : State) (a0 : Array Value) (hw : ∀ d ∈ tables_1, d.before a0 Z = true) (ws : List Jvm.Cond) (a1 : Addr) (ks : Addr) (kk : ClassId) (x0 : Int32) (x1 : Int32) (x2 : Int32) (x3 : Int32) (h0 : Heap) (n0 : Nat) (Z0 : n0 ≤ h0.size) (Fld_a1_keyStarts : Fld Z h0 a1 cs0 "keyStarts" "[I" (.ref ks)) (V_ks : Arv Z h0 ks kk .int (4 : Int32) [(.int x0), (.int x1), (.int x2), (.int x3)] (.int (0 : Int32))) :
    MetFree l mn1 (head1 (Jvm.Cond.code mn1 prog_25_method_6_code 2 (some .int) :: ws) ({ frames := 0, cells := 0, slots := 0, locals := 0 } : Room)) (fun a U => a = #[(.ref a1), (.int (2 : Int32))] ∧ Z.Warmed39 U.vm ∧ U.heap = h0) (fun _ _ _ _ _ => True) (fun _ U o U' => ∃ v L, o = .returned v ∧ Qrmlen4_2 Z a1 ks kk x0 x1 x2 x3 h0 n0 v U'.heap L ∧ FrameEnd U o U' L ({ frames := 0, cells := 0, slots := 0, locals := 0 } : Room).cells ({ frames := 0, cells := 0, slots := 0, locals := 0 } : Room).slots) := by
 refine MetFree.of_bodySF (plainFor_of_name pn_10) hisR ?_
 intro p e s m args below meth c s₁ Bd hml0 hP hK
 obtain ⟨rfl, hZ, hh⟩ := hP
 have hx := Bd.exec
 have hby := Bd.bytes
 have hml : c.maxLocals = 2 := hml0
 have hown : s.vm.findClass cs0 = some m.cls := findClass_of_methodNamed Bd.named
 have hnm := (name_of_methodNamed Bd.named Bd.method).1
 have X0 : Stand p l e ({ frames := 0, cells := 0, slots := 0, locals := 0 } : Room) s m #[(.ref a1), (.int (2 : Int32))] below meth c s₁ [] 0 0 := Stand.of_body Bd
 have e0 : s₁.heap = h0 := by rw [← hh, Bd.state]; rfl
 have N0 := Fr.nil n0
 refine own_go (b := (s₁.setTop (mkF m 0 #[rv a1, iv (2 : Int32)] []))) (fun _ k => castTop (ef_rmlen4_2 m a1 (2 : Int32)) k) ?_
 refine own_go (b := (s₁.setTop (mkF m 1 #[rv a1, iv (2 : Int32)] [(.ref a1)]))) (fun _ k => XS.aloadN X0.here hx rfl (hb hby d10_0) rfl rfl k) ?_
 refine own_getf X0 hx hZ hown (ow hw 24 rfl) Via.refl e0 Fld_a1_keyStarts rfl rfl (hb hby d10_1) (fun T1 X1 e1 => ?_)
 refine own_go (b := (T1.setTop (mkF m 7 #[rv a1, iv (2 : Int32)] [(.int (3 : Int32)), (.ref ks)]))) (fun _ k => XS.iloadN X1.here hx rfl (hb hby d10_4) rfl (XS.iconst X1.here hx rfl (hb hby d10_5) (XS.iadd X1.here hx rfl (hb hby d10_6) rfl k))) ?_
 obtain ⟨cl2, Ar2, ql2, Sz2, Nn2, Hl2, Gl2⟩ := id V_ks
 have hin2 : ¬ ((3 : Int32) < 0 ∨ cl2.slots.size ≤ ((3 : Int32)).toNatClampNeg) := inb_of Sz2 ⟨by decide, by decide⟩
 refine own_go (b := (T1.setTop (mkF m 9 #[rv a1, iv (2 : Int32)] [(.ref a1), (.int x3)]))) (fun _ k => X1.iaload hx (j := (3 : Int32)) (v := (.int x3)) (by rw [e1]; exact Ar2.1) (State.isArrayOf_alike hZ.alike Ar2.2.1) Ar2.2.2 hin2 (Hl2.at hin2 rfl) (g := (mkF m 7 #[rv a1, iv (2 : Int32)] [(.int (3 : Int32)), (.ref ks)])) rfl rfl (hb hby d10_7) _ (XS.aloadN X1.here hx rfl (hb hby d10_8) rfl rfl k)) ?_
 refine own_getf X1 hx hZ hown (ow hw 24 rfl) Via.refl e1 Fld_a1_keyStarts rfl rfl (hb hby d10_9) (fun T3 X3 e3 => ?_)
 refine own_go (b := (T3.setTop (mkF m 13 #[rv a1, iv (2 : Int32)] [(.int (2 : Int32)), (.ref ks), (.int x3)]))) (fun _ k => XS.iloadN X3.here hx rfl (hb hby d10_12) rfl k) ?_
 obtain ⟨cl4, Ar4, ql4, Sz4, Nn4, Hl4, Gl4⟩ := id V_ks
 have hin4 : ¬ ((2 : Int32) < 0 ∨ cl4.slots.size ≤ ((2 : Int32)).toNatClampNeg) := inb_of Sz4 ⟨by decide, by decide⟩
 refine own_go (b := (T3.setTop (mkF m 15 #[rv a1, iv (2 : Int32)] [(.int (x3 - x2))]))) (fun _ k => X3.iaload hx (j := (2 : Int32)) (v := (.int x2)) (by rw [e3]; exact Ar4.1) (State.isArrayOf_alike hZ.alike Ar4.2.1) Ar4.2.2 hin4 (Hl4.at hin4 rfl) (g := (mkF m 13 #[rv a1, iv (2 : Int32)] [(.int (2 : Int32)), (.ref ks), (.int x3)])) rfl rfl (hb hby d10_13) _ (XS.isub X3.here hx rfl (hb hby d10_14) rfl k)) ?_
 obtain ⟨fs, hr, hrun, hended, hW, hsame⟩ := X3.leave (v := some (.int (x3 - x2))) (fun h => by rw [Bd.returns] at h; cases h)
 exact ⟨_, _, retOut X3 hx Bd.returns rfl (Or.inl ⟨rfl, Or.inl rfl, _, rfl⟩) (hb hby d10_15) hr, hrun, hended, _, _, rfl, (show Qrmlen4_2 Z a1 ks kk x0 x1 x2 x3 h0 n0 _ T3.heap _ from (by rw [e3]; exact ⟨rfl, N0, rfl⟩)), ⟨_, rfl⟩, hW, hsame.mono (by decide) (by decide)⟩
theorem ef_rmlen6_0 (m : MethodId) (x0 : Addr) (x1 : Int32) : entryFrame m #[(.ref x0), (.int x1)] 2 = mkF m 0 #[rv x0, iv x1] [] := by first | (simp [entryFrame, mkF, argsToLocals, Value.category]; done) | rfl
def Qrmlen6_0 (Z : State) (a1 : Addr) (ks : Addr) (kk : ClassId) (x0 : Int32) (x1 : Int32) (x2 : Int32) (x3 : Int32) (x4 : Int32) (x5 : Int32) (h0 : Heap) (n0 : Nat) (v : Option Value) (h : Heap) (L : List Loc) : Prop := v = some (.int (x1 - x0)) ∧ Fr n0 L ∧ h = h0
set_option maxRecDepth 65536 in
set_option maxHeartbeats 40000000 in
theorem rmlen6_0 (l : Launch) (Z : State) (a0 : Array Value) (hw : ∀ d ∈ tables_1, d.before a0 Z = true) (ws : List Jvm.Cond) (a1 : Addr) (ks : Addr) (kk : ClassId) (x0 : Int32) (x1 : Int32) (x2 : Int32) (x3 : Int32) (x4 : Int32) (x5 : Int32) (h0 : Heap) (n0 : Nat) (Z0 : n0 ≤ h0.size) (Fld_a1_keyStarts : Fld Z h0 a1 cs0 "keyStarts" "[I" (.ref ks)) (V_ks : Arv Z h0 ks kk .int (6 : Int32) [(.int x0), (.int x1), (.int x2), (.int x3), (.int x4), (.int x5)] (.int (0 : Int32))) :
    MetFree l mn1 (head1 (Jvm.Cond.code mn1 prog_25_method_6_code 2 (some .int) :: ws) ({ frames := 0, cells := 0, slots := 0, locals := 0 } : Room)) (fun a U => a = #[(.ref a1), (.int (0 : Int32))] ∧ Z.Warmed39 U.vm ∧ U.heap = h0) (fun _ _ _ _ _ => True) (fun _ U o U' => ∃ v L, o = .returned v ∧ Qrmlen6_0 Z a1 ks kk x0 x1 x2 x3 x4 x5 h0 n0 v U'.heap L ∧ FrameEnd U o U' L ({ frames := 0, cells := 0, slots := 0, locals := 0 } : Room).cells ({ frames := 0, cells := 0, slots := 0, locals := 0 } : Room).slots) := by
 refine MetFree.of_bodySF (plainFor_of_name pn_10) hisR ?_
 intro p e s m args below meth c s₁ Bd hml0 hP hK
 obtain ⟨rfl, hZ, hh⟩ := hP
 have hx := Bd.exec
 have hby := Bd.bytes
 have hml : c.maxLocals = 2 := hml0
 have hown : s.vm.findClass cs0 = some m.cls := findClass_of_methodNamed Bd.named
 have hnm := (name_of_methodNamed Bd.named Bd.method).1
 have X0 : Stand p l e ({ frames := 0, cells := 0, slots := 0, locals := 0 } : Room) s m #[(.ref a1), (.int (0 : Int32))] below meth c s₁ [] 0 0 := Stand.of_body Bd
 have e0 : s₁.heap = h0 := by rw [← hh, Bd.state]; rfl
 have N0 := Fr.nil n0
 refine own_go (b := (s₁.setTop (mkF m 0 #[rv a1, iv (0 : Int32)] []))) (fun _ k => castTop (ef_rmlen6_0 m a1 (0 : Int32)) k) ?_
 refine own_go (b := (s₁.setTop (mkF m 1 #[rv a1, iv (0 : Int32)] [(.ref a1)]))) (fun _ k => XS.aloadN X0.here hx rfl (hb hby d10_0) rfl rfl k) ?_
 refine own_getf X0 hx hZ hown (ow hw 24 rfl) Via.refl e0 Fld_a1_keyStarts rfl rfl (hb hby d10_1) (fun T1 X1 e1 => ?_)
 refine own_go (b := (T1.setTop (mkF m 7 #[rv a1, iv (0 : Int32)] [(.int (1 : Int32)), (.ref ks)]))) (fun _ k => XS.iloadN X1.here hx rfl (hb hby d10_4) rfl (XS.iconst X1.here hx rfl (hb hby d10_5) (XS.iadd X1.here hx rfl (hb hby d10_6) rfl k))) ?_
 obtain ⟨cl2, Ar2, ql2, Sz2, Nn2, Hl2, Gl2⟩ := id V_ks
 have hin2 : ¬ ((1 : Int32) < 0 ∨ cl2.slots.size ≤ ((1 : Int32)).toNatClampNeg) := inb_of Sz2 ⟨by decide, by decide⟩
 refine own_go (b := (T1.setTop (mkF m 9 #[rv a1, iv (0 : Int32)] [(.ref a1), (.int x1)]))) (fun _ k => X1.iaload hx (j := (1 : Int32)) (v := (.int x1)) (by rw [e1]; exact Ar2.1) (State.isArrayOf_alike hZ.alike Ar2.2.1) Ar2.2.2 hin2 (Hl2.at hin2 rfl) (g := (mkF m 7 #[rv a1, iv (0 : Int32)] [(.int (1 : Int32)), (.ref ks)])) rfl rfl (hb hby d10_7) _ (XS.aloadN X1.here hx rfl (hb hby d10_8) rfl rfl k)) ?_
 refine own_getf X1 hx hZ hown (ow hw 24 rfl) Via.refl e1 Fld_a1_keyStarts rfl rfl (hb hby d10_9) (fun T3 X3 e3 => ?_)
 refine own_go (b := (T3.setTop (mkF m 13 #[rv a1, iv (0 : Int32)] [(.int (0 : Int32)), (.ref ks), (.int x1)]))) (fun _ k => XS.iloadN X3.here hx rfl (hb hby d10_12) rfl k) ?_
 obtain ⟨cl4, Ar4, ql4, Sz4, Nn4, Hl4, Gl4⟩ := id V_ks
 have hin4 : ¬ ((0 : Int32) < 0 ∨ cl4.slots.size ≤ ((0 : Int32)).toNatClampNeg) := inb_of Sz4 ⟨by decide, by decide⟩
 refine own_go (b := (T3.setTop (mkF m 15 #[rv a1, iv (0 : Int32)] [(.int (x1 - x0))]))) (fun _ k => X3.iaload hx (j := (0 : Int32)) (v := (.int x0)) (by rw [e3]; exact Ar4.1) (State.isArrayOf_alike hZ.alike Ar4.2.1) Ar4.2.2 hin4 (Hl4.at hin4 rfl) (g := (mkF m 13 #[rv a1, iv (0 : Int32)] [(.int (0 : Int32)), (.ref ks), (.int x1)])) rfl rfl (hb hby d10_13) _ (XS.isub X3.here hx rfl (hb hby d10_14) rfl k)) ?_
 obtain ⟨fs, hr, hrun, hended, hW, hsame⟩ := X3.leave (v := some (.int (x1 - x0))) (fun h => by rw [Bd.returns] at h; cases h)
 exact ⟨_, _, retOut X3 hx Bd.returns rfl (Or.inl ⟨rfl, Or.inl rfl, _, rfl⟩) (hb hby d10_15) hr, hrun, hended, _, _, rfl, (show Qrmlen6_0 Z a1 ks kk x0 x1 x2 x3 x4 x5 h0 n0 _ T3.heap _ from (by rw [e3]; exact ⟨rfl, N0, rfl⟩)), ⟨_, rfl⟩, hW, hsame.mono (by decide) (by decide)⟩
theorem ef_rmlen6_1 (m : MethodId) (x0 : Addr) (x1 : Int32) : entryFrame m #[(.ref x0), (.int x1)] 2 = mkF m 0 #[rv x0, iv x1] [] := by first | (simp [entryFrame, mkF, argsToLocals, Value.category]; done) | rfl
def Qrmlen6_1 (Z : State) (a1 : Addr) (ks : Addr) (kk : ClassId) (x0 : Int32) (x1 : Int32) (x2 : Int32) (x3 : Int32) (x4 : Int32) (x5 : Int32) (h0 : Heap) (n0 : Nat) (v : Option Value) (h : Heap) (L : List Loc) : Prop := v = some (.int (x2 - x1)) ∧ Fr n0 L ∧ h = h0
set_option maxRecDepth 65536 in
set_option maxHeartbeats 40000000 in
theorem rmlen6_1 (l : Launch) (Z : State) (a0 : Array Value) (hw : ∀ d ∈ tables_1, d.before a0 Z = true) (ws : List Jvm.Cond) (a1 : Addr) (ks : Addr) (kk : ClassId) (x0 : Int32) (x1 : Int32) (x2 : Int32) (x3 : Int32) (x4 : Int32) (x5 : Int32) (h0 : Heap) (n0 : Nat) (Z0 : n0 ≤ h0.size) (Fld_a1_keyStarts : Fld Z h0 a1 cs0 "keyStarts" "[I" (.ref ks)) (V_ks : Arv Z h0 ks kk .int (6 : Int32) [(.int x0), (.int x1), (.int x2), (.int x3), (.int x4), (.int x5)] (.int (0 : Int32))) :
    MetFree l mn1 (head1 (Jvm.Cond.code mn1 prog_25_method_6_code 2 (some .int) :: ws) ({ frames := 0, cells := 0, slots := 0, locals := 0 } : Room)) (fun a U => a = #[(.ref a1), (.int (1 : Int32))] ∧ Z.Warmed39 U.vm ∧ U.heap = h0) (fun _ _ _ _ _ => True) (fun _ U o U' => ∃ v L, o = .returned v ∧ Qrmlen6_1 Z a1 ks kk x0 x1 x2 x3 x4 x5 h0 n0 v U'.heap L ∧ FrameEnd U o U' L ({ frames := 0, cells := 0, slots := 0, locals := 0 } : Room).cells ({ frames := 0, cells := 0, slots := 0, locals := 0 } : Room).slots) := by
 refine MetFree.of_bodySF (plainFor_of_name pn_10) hisR ?_
 intro p e s m args below meth c s₁ Bd hml0 hP hK
 obtain ⟨rfl, hZ, hh⟩ := hP
 have hx := Bd.exec
 have hby := Bd.bytes
 have hml : c.maxLocals = 2 := hml0
 have hown : s.vm.findClass cs0 = some m.cls := findClass_of_methodNamed Bd.named
 have hnm := (name_of_methodNamed Bd.named Bd.method).1
 have X0 : Stand p l e ({ frames := 0, cells := 0, slots := 0, locals := 0 } : Room) s m #[(.ref a1), (.int (1 : Int32))] below meth c s₁ [] 0 0 := Stand.of_body Bd
 have e0 : s₁.heap = h0 := by rw [← hh, Bd.state]; rfl
 have N0 := Fr.nil n0
 refine own_go (b := (s₁.setTop (mkF m 0 #[rv a1, iv (1 : Int32)] []))) (fun _ k => castTop (ef_rmlen6_1 m a1 (1 : Int32)) k) ?_
 refine own_go (b := (s₁.setTop (mkF m 1 #[rv a1, iv (1 : Int32)] [(.ref a1)]))) (fun _ k => XS.aloadN X0.here hx rfl (hb hby d10_0) rfl rfl k) ?_
 refine own_getf X0 hx hZ hown (ow hw 24 rfl) Via.refl e0 Fld_a1_keyStarts rfl rfl (hb hby d10_1) (fun T1 X1 e1 => ?_)
 refine own_go (b := (T1.setTop (mkF m 7 #[rv a1, iv (1 : Int32)] [(.int (2 : Int32)), (.ref ks)]))) (fun _ k => XS.iloadN X1.here hx rfl (hb hby d10_4) rfl (XS.iconst X1.here hx rfl (hb hby d10_5) (XS.iadd X1.here hx rfl (hb hby d10_6) rfl k))) ?_
 obtain ⟨cl2, Ar2, ql2, Sz2, Nn2, Hl2, Gl2⟩ := id V_ks
 have hin2 : ¬ ((2 : Int32) < 0 ∨ cl2.slots.size ≤ ((2 : Int32)).toNatClampNeg) := inb_of Sz2 ⟨by decide, by decide⟩
 refine own_go (b := (T1.setTop (mkF m 9 #[rv a1, iv (1 : Int32)] [(.ref a1), (.int x2)]))) (fun _ k => X1.iaload hx (j := (2 : Int32)) (v := (.int x2)) (by rw [e1]; exact Ar2.1) (State.isArrayOf_alike hZ.alike Ar2.2.1) Ar2.2.2 hin2 (Hl2.at hin2 rfl) (g := (mkF m 7 #[rv a1, iv (1 : Int32)] [(.int (2 : Int32)), (.ref ks)])) rfl rfl (hb hby d10_7) _ (XS.aloadN X1.here hx rfl (hb hby d10_8) rfl rfl k)) ?_
 refine own_getf X1 hx hZ hown (ow hw 24 rfl) Via.refl e1 Fld_a1_keyStarts rfl rfl (hb hby d10_9) (fun T3 X3 e3 => ?_)
 refine own_go (b := (T3.setTop (mkF m 13 #[rv a1, iv (1 : Int32)] [(.int (1 : Int32)), (.ref ks), (.int x2)]))) (fun _ k => XS.iloadN X3.here hx rfl (hb hby d10_12) rfl k) ?_
 obtain ⟨cl4, Ar4, ql4, Sz4, Nn4, Hl4, Gl4⟩ := id V_ks
 have hin4 : ¬ ((1 : Int32) < 0 ∨ cl4.slots.size ≤ ((1 : Int32)).toNatClampNeg) := inb_of Sz4 ⟨by decide, by decide⟩
 refine own_go (b := (T3.setTop (mkF m 15 #[rv a1, iv (1 : Int32)] [(.int (x2 - x1))]))) (fun _ k => X3.iaload hx (j := (1 : Int32)) (v := (.int x1)) (by rw [e3]; exact Ar4.1) (State.isArrayOf_alike hZ.alike Ar4.2.1) Ar4.2.2 hin4 (Hl4.at hin4 rfl) (g := (mkF m 13 #[rv a1, iv (1 : Int32)] [(.int (1 : Int32)), (.ref ks), (.int x2)])) rfl rfl (hb hby d10_13) _ (XS.isub X3.here hx rfl (hb hby d10_14) rfl k)) ?_
 obtain ⟨fs, hr, hrun, hended, hW, hsame⟩ := X3.leave (v := some (.int (x2 - x1))) (fun h => by rw [Bd.returns] at h; cases h)
 exact ⟨_, _, retOut X3 hx Bd.returns rfl (Or.inl ⟨rfl, Or.inl rfl, _, rfl⟩) (hb hby d10_15) hr, hrun, hended, _, _, rfl, (show Qrmlen6_1 Z a1 ks kk x0 x1 x2 x3 x4 x5 h0 n0 _ T3.heap _ from (by rw [e3]; exact ⟨rfl, N0, rfl⟩)), ⟨_, rfl⟩, hW, hsame.mono (by decide) (by decide)⟩
theorem ef_rmlen6_2 (m : MethodId) (x0 : Addr) (x1 : Int32) : entryFrame m #[(.ref x0), (.int x1)] 2 = mkF m 0 #[rv x0, iv x1] [] := by first | (simp [entryFrame, mkF, argsToLocals, Value.category]; done) | rfl
def Qrmlen6_2 (Z : State) (a1 : Addr) (ks : Addr) (kk : ClassId) (x0 : Int32) (x1 : Int32) (x2 : Int32) (x3 : Int32) (x4 : Int32) (x5 : Int32) (h0 : Heap) (n0 : Nat) (v : Option Value) (h : Heap) (L : List Loc) : Prop := v = some (.int (x3 - x2)) ∧ Fr n0 L ∧ h = h0
set_option maxRecDepth 65536 in
set_option maxHeartbeats 40000000 in
theorem rmlen6_2 (l : Launch) (Z : State) (a0 : Array Value) (hw : ∀ d ∈ tables_1, d.before a0 Z = true) (ws : List Jvm.Cond) (a1 : Addr) (ks : Addr) (kk : ClassId) (x0 : Int32) (x1 : Int32) (x2 : Int32) (x3 : Int32) (x4 : Int32) (x5 : Int32) (h0 : Heap) (n0 : Nat) (Z0 : n0 ≤ h0.size) (Fld_a1_keyStarts : Fld Z h0 a1 cs0 "keyStarts" "[I" (.ref ks)) (V_ks : Arv Z h0 ks kk .int (6 : Int32) [(.int x0), (.int x1), (.int x2), (.int x3), (.int x4), (.int x5)] (.int (0 : Int32))) :
    MetFree l mn1 (head1 (Jvm.Cond.code mn1 prog_25_method_6_code 2 (some .int) :: ws) ({ frames := 0, cells := 0, slots := 0, locals := 0 } : Room)) (fun a U => a = #[(.ref a1), (.int (2 : Int32))] ∧ Z.Warmed39 U.vm ∧ U.heap = h0) (fun _ _ _ _ _ => True) (fun _ U o U' => ∃ v L, o = .returned v ∧ Qrmlen6_2 Z a1 ks kk x0 x1 x2 x3 x4 x5 h0 n0 v U'.heap L ∧ FrameEnd U o U' L ({ frames := 0, cells := 0, slots := 0, locals := 0 } : Room).cells ({ frames := 0, cells := 0, slots := 0, locals := 0 } : Room).slots) := by
 refine MetFree.of_bodySF (plainFor_of_name pn_10) hisR ?_
 intro p e s m args below meth c s₁ Bd hml0 hP hK
 obtain ⟨rfl, hZ, hh⟩ := hP
 have hx := Bd.exec
 have hby := Bd.bytes
 have hml : c.maxLocals = 2 := hml0
 have hown : s.vm.findClass cs0 = some m.cls := findClass_of_methodNamed Bd.named
 have hnm := (name_of_methodNamed Bd.named Bd.method).1
 have X0 : Stand p l e ({ frames := 0, cells := 0, slots := 0, locals := 0 } : Room) s m #[(.ref a1), (.int (2 : Int32))] below meth c s₁ [] 0 0 := Stand.of_body Bd
 have e0 : s₁.heap = h0 := by rw [← hh, Bd.state]; rfl
 have N0 := Fr.nil n0
 refine own_go (b := (s₁.setTop (mkF m 0 #[rv a1, iv (2 : Int32)] []))) (fun _ k => castTop (ef_rmlen6_2 m a1 (2 : Int32)) k) ?_
 refine own_go (b := (s₁.setTop (mkF m 1 #[rv a1, iv (2 : Int32)] [(.ref a1)]))) (fun _ k => XS.aloadN X0.here hx rfl (hb hby d10_0) rfl rfl k) ?_
 refine own_getf X0 hx hZ hown (ow hw 24 rfl) Via.refl e0 Fld_a1_keyStarts rfl rfl (hb hby d10_1) (fun T1 X1 e1 => ?_)
 refine own_go (b := (T1.setTop (mkF m 7 #[rv a1, iv (2 : Int32)] [(.int (3 : Int32)), (.ref ks)]))) (fun _ k => XS.iloadN X1.here hx rfl (hb hby d10_4) rfl (XS.iconst X1.here hx rfl (hb hby d10_5) (XS.iadd X1.here hx rfl (hb hby d10_6) rfl k))) ?_
 obtain ⟨cl2, Ar2, ql2, Sz2, Nn2, Hl2, Gl2⟩ := id V_ks
 have hin2 : ¬ ((3 : Int32) < 0 ∨ cl2.slots.size ≤ ((3 : Int32)).toNatClampNeg) := inb_of Sz2 ⟨by decide, by decide⟩
 refine own_go (b := (T1.setTop (mkF m 9 #[rv a1, iv (2 : Int32)] [(.ref a1), (.int x3)]))) (fun _ k => X1.iaload hx (j := (3 : Int32)) (v := (.int x3)) (by rw [e1]; exact Ar2.1) (State.isArrayOf_alike hZ.alike Ar2.2.1) Ar2.2.2 hin2 (Hl2.at hin2 rfl) (g := (mkF m 7 #[rv a1, iv (2 : Int32)] [(.int (3 : Int32)), (.ref ks)])) rfl rfl (hb hby d10_7) _ (XS.aloadN X1.here hx rfl (hb hby d10_8) rfl rfl k)) ?_
 refine own_getf X1 hx hZ hown (ow hw 24 rfl) Via.refl e1 Fld_a1_keyStarts rfl rfl (hb hby d10_9) (fun T3 X3 e3 => ?_)
 refine own_go (b := (T3.setTop (mkF m 13 #[rv a1, iv (2 : Int32)] [(.int (2 : Int32)), (.ref ks), (.int x3)]))) (fun _ k => XS.iloadN X3.here hx rfl (hb hby d10_12) rfl k) ?_
 obtain ⟨cl4, Ar4, ql4, Sz4, Nn4, Hl4, Gl4⟩ := id V_ks
 have hin4 : ¬ ((2 : Int32) < 0 ∨ cl4.slots.size ≤ ((2 : Int32)).toNatClampNeg) := inb_of Sz4 ⟨by decide, by decide⟩
 refine own_go (b := (T3.setTop (mkF m 15 #[rv a1, iv (2 : Int32)] [(.int (x3 - x2))]))) (fun _ k => X3.iaload hx (j := (2 : Int32)) (v := (.int x2)) (by rw [e3]; exact Ar4.1) (State.isArrayOf_alike hZ.alike Ar4.2.1) Ar4.2.2 hin4 (Hl4.at hin4 rfl) (g := (mkF m 13 #[rv a1, iv (2 : Int32)] [(.int (2 : Int32)), (.ref ks), (.int x3)])) rfl rfl (hb hby d10_13) _ (XS.isub X3.here hx rfl (hb hby d10_14) rfl k)) ?_
 obtain ⟨fs, hr, hrun, hended, hW, hsame⟩ := X3.leave (v := some (.int (x3 - x2))) (fun h => by rw [Bd.returns] at h; cases h)
 exact ⟨_, _, retOut X3 hx Bd.returns rfl (Or.inl ⟨rfl, Or.inl rfl, _, rfl⟩) (hb hby d10_15) hr, hrun, hended, _, _, rfl, (show Qrmlen6_2 Z a1 ks kk x0 x1 x2 x3 x4 x5 h0 n0 _ T3.heap _ from (by rw [e3]; exact ⟨rfl, N0, rfl⟩)), ⟨_, rfl⟩, hW, hsame.mono (by decide) (by decide)⟩
theorem pd___II_I : parseMethodDescriptor "([II)I" = some ⟨[(.array .int), .int], some .int⟩ := by decide +kernel
theorem pd__I_I : parseMethodDescriptor "(I)I" = some ⟨[.int], some .int⟩ := by decide +kernel
theorem pn_0 : plainName "com/example/arcwright/arcwright/parser/FeatureTableLengthPinLaw" = true := by first | (simp [plainName, overriddenIn]; done) | decide +kernel
theorem ef_rm0 (m : MethodId) (x0 : Int32) (x1 : Int32) (x2 : Int32) (x3 : Int32) (x4 : Int32) : entryFrame m #[(.int x0), (.int x1), (.int x2), (.int x3), (.int x4)] maxLocals = mkF m 0 #[iv x0, iv x1, iv x2, iv x3, iv x4, .unset, .unset, .unset, .unset, .unset] [] := by first | (simp [entryFrame, mkF, argsToLocals, Value.category, maxLocals]; done) | rfl
def Qrm0 (Z : State) (p0 : Int32) (p1 : Int32) (p2 : Int32) (p3 : Int32) (p4 : Int32) (h0 : Heap) (n0 : Nat) (v : Option Value) (h : Heap) (L : List Loc) : Prop := v = some (.int (1 : Int32)) ∧ Fr n0 L
set_option maxRecDepth 65536 in
set_option maxHeartbeats 40000000 in
theorem rm0 (l : Launch) (Z : State) (a0 : Array Value) (hw : ∀ d ∈ tables_1, d.before a0 Z = true) (ws : List Jvm.Cond) (p0 : Int32) (p1 : Int32) (p2 : Int32) (p3 : Int32) (p4 : Int32) (h0 : Heap) (n0 : Nat) (Z0 : n0 ≤ h0.size) :
    MetFree l x (head1 (Jvm.Cond.code x code maxLocals ret :: ws) room_1) (fun a U => a = #[(.int p0), (.int p1), (.int p2), (.int p3), (.int p4)] ∧ Z.Warmed39 U.vm ∧ U.heap = h0) (fun _ _ _ _ _ => True) (fun _ U o U' => ∃ v L, o = .returned v ∧ Qrm0 Z p0 p1 p2 p3 p4 h0 n0 v U'.heap L ∧ FrameEnd U o U' L room_1.cells room_1.slots) := by
 refine MetFree.of_bodySF (plainFor_of_name pn_0) hisR ?_
 intro p e s m args below meth c s₁ Bd hml0 hP hK
 obtain ⟨rfl, hZ, hh⟩ := hP
 have hx := Bd.exec
 have hby := Bd.bytes
 have hml : c.maxLocals = 10 := hml0
 have hown : s.vm.findClass "com/example/arcwright/arcwright/parser/FeatureTableLengthPinLaw" = some m.cls := findClass_of_methodNamed Bd.named
 have hnm := (name_of_methodNamed Bd.named Bd.method).1
 have X0 : Stand p l e room_1 s m #[(.int p0), (.int p1), (.int p2), (.int p3), (.int p4)] below meth c s₁ [] 0 0 := Stand.of_body Bd
 have e0 : s₁.heap = h0 := by rw [← hh, Bd.state]; rfl
 have N0 := Fr.nil n0
 refine own_go (b := (s₁.setTop (mkF m 0 #[iv p0, iv p1, iv p2, iv p3, iv p4, .unset, .unset, .unset, .unset, .unset] []))) (fun _ k => castTop (ef_rm0 m p0 p1 p2 p3 p4) k) ?_
 refine own_go (b := (s₁.setTop (mkF m 3 #[iv p0, iv p1, iv p2, iv p3, iv p4, .unset, .unset, .unset, .unset, .unset] [(.int (own_l0 p1))]))) (fun _ k => XS.iloadN X0.here hx rfl (hb hby at_0) rfl (XS.iconst X0.here hx rfl (hb hby at_1) (XS.iand X0.here hx rfl (hb hby at_2) rfl k))) ?_
 by_cases hz0 : (own_l0 p1) = (0 : Int32)
 · skip
   rw [hz0]
   refine own_go (b := (s₁.setTop (mkF m 10 #[iv p0, iv p1, iv p2, iv p3, iv p4, iv (0 : Int32), .unset, .unset, .unset, .unset] [(.int (own_l1 p1))]))) (fun _ k => XS.istore X0.here hx rfl (hb hby at_3) rfl (l' := #[iv p0, iv p1, iv p2, iv p3, iv p4, iv (0 : Int32), .unset, .unset, .unset, .unset]) rfl (XS.iloadN X0.here hx rfl (hb hby at_5) rfl (XS.iconst X0.here hx rfl (hb hby at_6) (XS.iushr X0.here hx rfl (hb hby at_7) rfl (XS.iconst X0.here hx rfl (hb hby at_8) (XS.iand X0.here hx rfl (hb hby at_9) rfl k)))))) ?_
   by_cases hz1 : (own_l1 p1) = (0 : Int32)
   · skip
     rw [hz1]
     refine own_go (b := (s₁.setTop (mkF m 17 #[iv p0, iv p1, iv p2, iv p3, iv p4, iv (0 : Int32), iv (0 : Int32), .unset, .unset, .unset] [(.int (own_l2 p1))]))) (fun _ k => XS.istore X0.here hx rfl (hb hby at_10) rfl (l' := #[iv p0, iv p1, iv p2, iv p3, iv p4, iv (0 : Int32), iv (0 : Int32), .unset, .unset, .unset]) rfl (XS.iloadN X0.here hx rfl (hb hby at_12) rfl (XS.iconst X0.here hx rfl (hb hby at_13) (XS.iushr X0.here hx rfl (hb hby at_14) rfl (XS.iconst X0.here hx rfl (hb hby at_15) (XS.iand X0.here hx rfl (hb hby at_16) rfl k)))))) ?_
     by_cases hz2 : (own_l2 p1) = (0 : Int32)
     · skip
       rw [hz2]
       refine own_go (b := (s₁.setTop (mkF m 20 #[iv p0, iv p1, iv p2, iv p3, iv p4, iv (0 : Int32), iv (0 : Int32), iv (0 : Int32), .unset, .unset] [(.int (3 : Int32))]))) (fun _ k => XS.istore X0.here hx rfl (hb hby at_17) rfl (l' := #[iv p0, iv p1, iv p2, iv p3, iv p4, iv (0 : Int32), iv (0 : Int32), iv (0 : Int32), .unset, .unset]) rfl (XS.iconst X0.here hx rfl (hb hby at_19) k)) ?_
       obtain ⟨T1, h1, kl1, X1, e1, E1, A1, st1⟩ := newP X0 hx hZ (ow hw 0 rfl) e0 (g := (mkF m 20 #[iv p0, iv p1, iv p2, iv p3, iv p4, iv (0 : Int32), iv (0 : Int32), iv (0 : Int32), .unset, .unset] [(.int (3 : Int32))])) rfl (hb hby at_20) rfl (by decide) (cap := 3) (by decide) (by decide) (by decide) (by decide)
       obtain ⟨b1, g1⟩ : ∃ z, z = h0.size := ⟨_, rfl⟩
       rw [← g1] at A1 st1
       have Zs2 : n0 ≤ h1.size := Nat.le_trans Z0 E1.1
       have V1 : Arv Z h1 b1 kl1 .int (3 : Int32) [(.int (0 : Int32)), (.int (0 : Int32)), (.int (0 : Int32))] (.int (0 : Int32)) := (Arv.new A1 (by decide)).pad (pad_rep [] (.int (0 : Int32)) 3)
       refine own_go (b := (T1.setTop (mkF m 28 #[iv p0, iv p1, iv p2, iv p3, iv p4, iv (0 : Int32), iv (0 : Int32), iv (0 : Int32), .unset, .unset] [(.int (own_k p2)), (.int (0 : Int32)), (.ref b1), (.ref b1)]))) (fun _ k => st1 _ (XS.dup X1.here hx rfl (hb hby at_22) rfl rfl (XS.iconst X1.here hx rfl (hb hby at_23) (XS.iloadN X1.here hx rfl (hb hby at_24) rfl (X1.ldcInt hx hown (mvT hZ (ow hw 1 rfl)) (g := (mkF m 25 #[iv p0, iv p1, iv p2, iv p3, iv p4, iv (0 : Int32), iv (0 : Int32), iv (0 : Int32), .unset, .unset] [(.int p2), (.int (0 : Int32)), (.ref b1), (.ref b1)])) rfl (hb hby at_25) _ (XS.iand X1.here hx rfl (hb hby at_27) rfl k)))))) ?_
       obtain ⟨cl3, Ar3, ql3, Sz3, Nn3, Hl3, Gl3⟩ := id V1
       have hin3 : ¬ ((0 : Int32) < 0 ∨ cl3.slots.size ≤ ((0 : Int32)).toNatClampNeg) := inb_of Sz3 ⟨by decide, by decide⟩
       obtain ⟨T3, h3, X3, e3, W3, st3⟩ := stI X1 hx hZ e1 Ar3 (j := (0 : Int32)) hin3 (g := (mkF m 28 #[iv p0, iv p1, iv p2, iv p3, iv p4, iv (0 : Int32), iv (0 : Int32), iv (0 : Int32), .unset, .unset] [(.int (own_k p2)), (.int (0 : Int32)), (.ref b1), (.ref b1)])) rfl rfl (hb hby at_28)
       have gx4 : n0 ≤ b1 := Nat.le_trans Z0 (Nat.le_of_eq g1.symm)
       have N3 := Fr.snoc X3 N0 gx4
       have Zs5 : n0 ≤ h3.size := Nat.le_trans Zs2 (Keep.of_wr W3).1
       have V3 : Arv Z h3 b1 kl1 .int (3 : Int32) [(.int (own_k p2)), (.int (0 : Int32)), (.int (0 : Int32))] (.int (0 : Int32)) := Arv.set Ar3 ql3 Sz3 Nn3 Hl3 Gl3 rfl W3 0 rfl (Nat.le_of_ble_eq_true rfl)
       refine own_go (b := (T3.setTop (mkF m 35 #[iv p0, iv p1, iv p2, iv p3, iv p4, iv (0 : Int32), iv (0 : Int32), iv (0 : Int32), .unset, .unset] [(.int (own_k p3)), (.int (1 : Int32)), (.ref b1), (.ref b1)]))) (fun _ k => st3 _ (XS.dup X3.here hx rfl (hb hby at_29) rfl rfl (XS.iconst X3.here hx rfl (hb hby at_30) (XS.iloadN X3.here hx rfl (hb hby at_31) rfl (X3.ldcInt hx hown (mvT hZ (ow hw 1 rfl)) (g := (mkF m 32 #[iv p0, iv p1, iv p2, iv p3, iv p4, iv (0 : Int32), iv (0 : Int32), iv (0 : Int32), .unset, .unset] [(.int p3), (.int (1 : Int32)), (.ref b1), (.ref b1)])) rfl (hb hby at_32) _ (XS.iand X3.here hx rfl (hb hby at_34) rfl k)))))) ?_
       obtain ⟨cl6, Ar6, ql6, Sz6, Nn6, Hl6, Gl6⟩ := id V3
       have hin6 : ¬ ((1 : Int32) < 0 ∨ cl6.slots.size ≤ ((1 : Int32)).toNatClampNeg) := inb_of Sz6 ⟨by decide, by decide⟩
       obtain ⟨T6, h6, X6, e6, W6, st6⟩ := stI X3 hx hZ e3 Ar6 (j := (1 : Int32)) hin6 (g := (mkF m 35 #[iv p0, iv p1, iv p2, iv p3, iv p4, iv (0 : Int32), iv (0 : Int32), iv (0 : Int32), .unset, .unset] [(.int (own_k p3)), (.int (1 : Int32)), (.ref b1), (.ref b1)])) rfl rfl (hb hby at_35)
       have N6 := Fr.snoc X6 N3 gx4
       have Zs7 : n0 ≤ h6.size := Nat.le_trans Zs5 (Keep.of_wr W6).1
       have V6 : Arv Z h6 b1 kl1 .int (3 : Int32) [(.int (own_k p2)), (.int (own_k p3)), (.int (0 : Int32))] (.int (0 : Int32)) := Arv.set Ar6 ql6 Sz6 Nn6 Hl6 Gl6 rfl W6 1 rfl (Nat.le_of_ble_eq_true rfl)
       refine own_go (b := (T6.setTop (mkF m 43 #[iv p0, iv p1, iv p2, iv p3, iv p4, iv (0 : Int32), iv (0 : Int32), iv (0 : Int32), .unset, .unset] [(.int (own_k p4)), (.int (2 : Int32)), (.ref b1), (.ref b1)]))) (fun _ k => st6 _ (XS.dup X6.here hx rfl (hb hby at_36) rfl rfl (XS.iconst X6.here hx rfl (hb hby at_37) (XS.iload X6.here hx rfl (hb hby at_38) rfl (X6.ldcInt hx hown (mvT hZ (ow hw 1 rfl)) (g := (mkF m 40 #[iv p0, iv p1, iv p2, iv p3, iv p4, iv (0 : Int32), iv (0 : Int32), iv (0 : Int32), .unset, .unset] [(.int p4), (.int (2 : Int32)), (.ref b1), (.ref b1)])) rfl (hb hby at_40) _ (XS.iand X6.here hx rfl (hb hby at_42) rfl k)))))) ?_
       obtain ⟨cl8, Ar8, ql8, Sz8, Nn8, Hl8, Gl8⟩ := id V6
       have hin8 : ¬ ((2 : Int32) < 0 ∨ cl8.slots.size ≤ ((2 : Int32)).toNatClampNeg) := inb_of Sz8 ⟨by decide, by decide⟩
       obtain ⟨T8, h8, X8, e8, W8, st8⟩ := stI X6 hx hZ e6 Ar8 (j := (2 : Int32)) hin8 (g := (mkF m 43 #[iv p0, iv p1, iv p2, iv p3, iv p4, iv (0 : Int32), iv (0 : Int32), iv (0 : Int32), .unset, .unset] [(.int (own_k p4)), (.int (2 : Int32)), (.ref b1), (.ref b1)])) rfl rfl (hb hby at_43)
       have N8 := Fr.snoc X8 N6 gx4
       have Zs9 : n0 ≤ h8.size := Nat.le_trans Zs7 (Keep.of_wr W8).1
       have V8 : Arv Z h8 b1 kl1 .int (3 : Int32) [(.int (own_k p2)), (.int (own_k p3)), (.int (own_k p4))] (.int (0 : Int32)) := Arv.set Ar8 ql8 Sz8 Nn8 Hl8 Gl8 rfl W8 2 rfl (Nat.le_of_ble_eq_true rfl)
       refine own_go (b := (T8.setTop (mkF m 46 #[iv p0, iv p1, iv p2, iv p3, iv p4, iv (0 : Int32), iv (0 : Int32), iv (0 : Int32), rv b1, .unset] []))) (fun _ k => st8 _ (XS.astore X8.here hx rfl (hb hby at_44) rfl rfl (l' := #[iv p0, iv p1, iv p2, iv p3, iv p4, iv (0 : Int32), iv (0 : Int32), iv (0 : Int32), rv b1, .unset]) rfl k)) ?_
       obtain ⟨T10, h10, X10, e10, E10, A10, D10, -, st10⟩ := newO X8 hx hZ hown (ow hw 2 rfl) (ow hw 3 rfl) (ow hw 4 rfl) e8 (g := (mkF m 46 #[iv p0, iv p1, iv p2, iv p3, iv p4, iv (0 : Int32), iv (0 : Int32), iv (0 : Int32), rv b1, .unset] [])) rfl (hb hby at_46) (by decide) (by decide)
       obtain ⟨b10, g10⟩ : ∃ z, z = h8.size := ⟨_, rfl⟩
       rw [← g10] at A10 D10 st10
       have Zs11 : n0 ≤ h10.size := Nat.le_trans Zs9 E10.1
       have F10_keys : Fld Z h10 b10 cs0 "keys" "Lcom/example/arcwright/arcwright/parser/IntBlocks;" .null := D10 (Or.inr (ow hw 23 rfl)) (ty := (.object cs1)) (by decide)
       have F10_keyStarts : Fld Z h10 b10 cs0 "keyStarts" "[I" .null := D10 (Or.inl (ow hw 25 rfl)) (ty := (.array .int)) (by decide)
       have F10_labelStarts : Fld Z h10 b10 cs0 "labelStarts" "[I" .null := D10 (Or.inl (ow hw 32 rfl)) (ty := (.array .int)) (by decide)
       have F10_size : Fld Z h10 b10 cs0 "size" "I" (.int (0 : Int32)) := D10 (Or.inl (ow hw 34 rfl)) (ty := .int) (by decide)
       refine own_go (b := (T10.setTop (mkF m 53 #[iv p0, iv p1, iv p2, iv p3, iv p4, iv (0 : Int32), iv (0 : Int32), iv (0 : Int32), rv b1, .unset] [(.int (p0 &&& (3 : Int32))), (.ref b10), (.ref b10)]))) (fun _ k => st10 _ (XS.dup X10.here hx rfl (hb hby at_49) rfl rfl (XS.iloadN X10.here hx rfl (hb hby at_50) rfl (XS.iconst X10.here hx rfl (hb hby at_51) (XS.iand X10.here hx rfl (hb hby at_52) rfl k))))) ?_
       rcases own_and3 p0 with hk | hk | hk | hk
       · rw [hk]
         have gx13 : n0 ≤ b10 := Nat.le_trans Zs9 (Nat.le_of_eq g10.symm)
         refine own_spec (W := 1) X10 hx hZ hown e10 (ow hw 5 rfl) (ow hw 6 rfl) (rmft0 l Z a0 hw [] b10 .null .null h10 n0 Zs11 A10 F10_keys F10_keyStarts F10_labelStarts F10_size gx13) (ow hw 7 rfl) (ow hw 4 rfl) rfl (by rw [hml]; rfl) rfl (hb hby at_53) (lenOf pd__I_V rfl) rfl rfl (by decide) (fun T12 v12 Ll12 X12 hQ12 => ?_)
         obtain ⟨ib_12, ks_12, kk_12, bl_12, kb_12, rfl, N12q, K12, P12_0, P12_1, P12_2, P12_3, P12_4, P12_5, P12_6, P12_7, P12_8, P12_9, P12_10, P12_11, P12_12, P12_13⟩ := hQ12
         have N12 := Fr.app N8 N12q
         have Zs14 : n0 ≤ T12.heap.size := Nat.le_trans Zs11 K12.1
         refine own_go (b := (T12.setTop (mkF m 64 #[iv p0, iv p1, iv p2, iv p3, iv p4, iv (0 : Int32), iv (0 : Int32), iv (0 : Int32), rv b1, rv b10] [(.int (0 : Int32)), (.ref b1), (.ref b10)]))) (fun _ k => XS.astore X12.here hx rfl (hb hby at_56) rfl rfl (l' := #[iv p0, iv p1, iv p2, iv p3, iv p4, iv (0 : Int32), iv (0 : Int32), iv (0 : Int32), rv b1, rv b10]) rfl (XS.aload X12.here hx rfl (hb hby at_58) rfl rfl (XS.aload X12.here hx rfl (hb hby at_60) rfl rfl (XS.iload X12.here hx rfl (hb hby at_62) rfl k)))) ?_
         have F16 := A10.keep K12
         have F17 := V8.ext E10
         have nx18 : b1 ≠ b10 := (own_ne V1.lt (own_tr (own_tr (Keep.of_wr W3).1 (Keep.of_wr W6).1) (Keep.of_wr W8).1) (Nat.le_of_eq g10.symm))
         have F19 := F17.keep K12 (ninS nx18 nin0)
         have gx20 : n0 ≤ ib_12 := Nat.le_trans Zs11 P12_4
         have gx21 : n0 ≤ ks_12 := Nat.le_trans Zs11 P12_5
         have nx22 : ks_12 ≠ b1 := (Ne.symm (own_ne V1.lt (own_tr (own_tr (own_tr (Keep.of_wr W3).1 (Keep.of_wr W6).1) (Keep.of_wr W8).1) E10.1) P12_5))
         refine own_virt (W := 0) X12 hx hZ hown rfl (ow hw 26 rfl) (ow hw 27 rfl) (ow hw 29 rfl) (ow hw 28 rfl) (rmap1_0N0 l Z a0 hw [] b10 b1 kl1 (own_k p2) (own_k p3) (own_k p4) ib_12 ks_12 kk_12 (0 : Int32) (0 : Int32) T12.heap n0 Zs14 F16 P12_0 P12_1 P12_2 P12_3 P12_7 P12_8 P12_12 F19 gx13 gx20 gx21 nx22 (own_pos p2) (own_pos p3) (own_pos p4)) (ow hw 30 rfl) (ow hw 4 rfl) F16 rfl (by rw [hml]; rfl) rfl (hb hby at_64) (lenOf pd___II_I rfl) rfl (by decide) (fun T15 v15 Ll15 X15 hQ15 => ?_)
         obtain ⟨ksn_15, kkn_15, rfl, N15q, K15, P15_0, P15_1, P15_2, P15_3, P15_4, P15_5⟩ := hQ15
         have N15 := Fr.app N12 N15q
         have Zs23 : n0 ≤ T15.heap.size := Nat.le_trans Zs14 K15.1
         refine own_go (b := (T15.setTop (mkF m 74 #[iv p0, iv p1, iv p2, iv p3, iv p4, iv (0 : Int32), iv (0 : Int32), iv (0 : Int32), rv b1, rv b10] [(.int (0 : Int32)), (.ref b1), (.ref b10)]))) (fun _ k => XS.pop X15.here hx rfl (hb hby at_67) rfl rfl (XS.aload X15.here hx rfl (hb hby at_68) rfl rfl (XS.aload X15.here hx rfl (hb hby at_70) rfl rfl (XS.iload X15.here hx rfl (hb hby at_72) rfl k)))) ?_
         have F25 := F16.keep K15
         have F26 := P12_7.keep K15
         have nx27 : ib_12 ≠ b10 := (Ne.symm (own_ne A10.lt (Nat.le_refl _) P12_4))
         have F28 := P12_8.keep K15 (ninS nx27 nin0)
         have F29 := F19.keep K15 (ninS nx18 nin0)
         have gx30 : n0 ≤ ksn_15 := Nat.le_trans Zs14 P15_3
         have nx31 : ksn_15 ≠ b1 := (Ne.symm (own_ne V1.lt (own_tr (own_tr (own_tr (own_tr (Keep.of_wr W3).1 (Keep.of_wr W6).1) (Keep.of_wr W8).1) E10.1) K12.1) P15_3))
         refine own_virt (W := 0) X15 hx hZ hown rfl (ow hw 26 rfl) (ow hw 27 rfl) (ow hw 29 rfl) (ow hw 28 rfl) (rmap2_1N0 l Z a0 hw [] b10 b1 kl1 (own_k p2) (own_k p3) (own_k p4) ib_12 ksn_15 kkn_15 (0 : Int32) (0 : Int32) (0 : Int32) T15.heap n0 Zs23 F25 P15_0 P15_4 P15_1 P15_2 F26 F28 P15_5 F29 gx13 gx20 gx30 nx31 (own_pos p2) (own_pos p3) (own_pos p4)) (ow hw 30 rfl) (ow hw 4 rfl) F25 rfl (by rw [hml]; rfl) rfl (hb hby at_74) (lenOf pd___II_I rfl) rfl (by decide) (fun T24 v24 Ll24 X24 hQ24 => ?_)
         obtain ⟨ksn_24, kkn_24, rfl, N24q, K24, P24_0, P24_1, P24_2, P24_3, P24_4, P24_5⟩ := hQ24
         have N24 := Fr.app N15 N24q
         have Zs32 : n0 ≤ T24.heap.size := Nat.le_trans Zs23 K24.1
         refine own_go (b := (T24.setTop (mkF m 84 #[iv p0, iv p1, iv p2, iv p3, iv p4, iv (0 : Int32), iv (0 : Int32), iv (0 : Int32), rv b1, rv b10] [(.int (0 : Int32)), (.ref b1), (.ref b10)]))) (fun _ k => XS.pop X24.here hx rfl (hb hby at_77) rfl rfl (XS.aload X24.here hx rfl (hb hby at_78) rfl rfl (XS.aload X24.here hx rfl (hb hby at_80) rfl rfl (XS.iload X24.here hx rfl (hb hby at_82) rfl k)))) ?_
         have F34 := F25.keep K24
         have F35 := F26.keep K24
         have F36 := F28.keep K24 (ninS nx27 nin0)
         have F37 := F29.keep K24 (ninS nx18 nin0)
         have gx38 : n0 ≤ ksn_24 := Nat.le_trans Zs23 P24_3
         have nx39 : ksn_24 ≠ b1 := (Ne.symm (own_ne V1.lt (own_tr (own_tr (own_tr (own_tr (own_tr (Keep.of_wr W3).1 (Keep.of_wr W6).1) (Keep.of_wr W8).1) E10.1) K12.1) K15.1) P24_3))
         refine own_virt (W := 0) X24 hx hZ hown rfl (ow hw 26 rfl) (ow hw 27 rfl) (ow hw 29 rfl) (ow hw 28 rfl) (rmap4_2N0 l Z a0 hw [] b10 b1 kl1 (own_k p2) (own_k p3) (own_k p4) ib_12 ksn_24 kkn_24 (0 : Int32) (0 : Int32) (0 : Int32) (0 : Int32) (0 : Int32) T24.heap n0 Zs32 F34 P24_0 P24_4 P24_1 P24_2 F35 F36 P24_5 F37 gx13 gx20 gx38 nx39 (own_pos p2) (own_pos p3) (own_pos p4)) (ow hw 30 rfl) (ow hw 4 rfl) F34 rfl (by rw [hml]; rfl) rfl (hb hby at_84) (lenOf pd___II_I rfl) rfl (by decide) (fun T33 v33 Ll33 X33 hQ33 => ?_)
         obtain ⟨rfl, N33q, K33, P33_0, P33_1, P33_2, P33_3, P33_4⟩ := hQ33
         have N33 := Fr.app N24 N33q
         have Zs40 : n0 ≤ T33.heap.size := Nat.le_trans Zs32 K33.1
         refine own_go (b := (T33.setTop (mkF m 91 #[iv p0, iv p1, iv p2, iv p3, iv p4, iv (0 : Int32), iv (0 : Int32), iv (0 : Int32), rv b1, rv b10] [(.int (0 : Int32)), (.ref b10)]))) (fun _ k => XS.pop X33.here hx rfl (hb hby at_87) rfl rfl (XS.aload X33.here hx rfl (hb hby at_88) rfl rfl (XS.iconst X33.here hx rfl (hb hby at_90) k))) ?_
         have F42 := F34.keep K33
         refine own_virt (W := 0) X33 hx hZ hown rfl (ow hw 68 rfl) (ow hw 69 rfl) (ow hw 71 rfl) (ow hw 70 rfl) (rmlen4_0 l Z a0 hw [] b10 ksn_24 kkn_24 (0 : Int32) (0 : Int32) (0 : Int32) (0 : Int32) T33.heap n0 Zs40 P33_3 P33_4) (ow hw 72 rfl) (ow hw 4 rfl) F42 rfl (by rw [hml]; rfl) rfl (hb hby at_91) (lenOf pd__I_I rfl) rfl (by decide) (fun T41 v41 Ll41 X41 hQ41 => ?_)
         obtain ⟨rfl, N41q, eh41⟩ := hQ41
         have N41 := Fr.app N33 N41q
         refine own_go (b := (T41.setTop (mkF m 102 #[iv p0, iv p1, iv p2, iv p3, iv p4, iv (0 : Int32), iv (0 : Int32), iv (0 : Int32), rv b1, rv b10] [(.int (1 : Int32)), (.ref b10)]))) (fun _ k => XS.iload X41.here hx rfl (hb hby at_94) rfl (XS.icmpNo X41.here hx rfl (hb hby at_96) rfl (teq (Int32.sub_self _)).2 (XS.aload X41.here hx rfl (hb hby at_99) rfl rfl (XS.iconst X41.here hx rfl (hb hby at_101) k)))) ?_
         refine own_virt (W := 0) X41 hx hZ hown eh41 (ow hw 68 rfl) (ow hw 69 rfl) (ow hw 71 rfl) (ow hw 70 rfl) (rmlen4_1 l Z a0 hw [] b10 ksn_24 kkn_24 (0 : Int32) (0 : Int32) (0 : Int32) (0 : Int32) T33.heap n0 Zs40 P33_3 P33_4) (ow hw 72 rfl) (ow hw 4 rfl) F42 rfl (by rw [hml]; rfl) rfl (hb hby at_102) (lenOf pd__I_I rfl) rfl (by decide) (fun T43 v43 Ll43 X43 hQ43 => ?_)
         obtain ⟨rfl, N43q, eh43⟩ := hQ43
         have N43 := Fr.app N41 N43q
         refine own_go (b := (T43.setTop (mkF m 113 #[iv p0, iv p1, iv p2, iv p3, iv p4, iv (0 : Int32), iv (0 : Int32), iv (0 : Int32), rv b1, rv b10] [(.int (2 : Int32)), (.ref b10)]))) (fun _ k => XS.iload X43.here hx rfl (hb hby at_105) rfl (XS.icmpNo X43.here hx rfl (hb hby at_107) rfl (teq (Int32.sub_self _)).2 (XS.aload X43.here hx rfl (hb hby at_110) rfl rfl (XS.iconst X43.here hx rfl (hb hby at_112) k)))) ?_
         refine own_virt (W := 0) X43 hx hZ hown eh43 (ow hw 68 rfl) (ow hw 69 rfl) (ow hw 71 rfl) (ow hw 70 rfl) (rmlen4_2 l Z a0 hw [] b10 ksn_24 kkn_24 (0 : Int32) (0 : Int32) (0 : Int32) (0 : Int32) T33.heap n0 Zs40 P33_3 P33_4) (ow hw 72 rfl) (ow hw 4 rfl) F42 rfl (by rw [hml]; rfl) rfl (hb hby at_113) (lenOf pd__I_I rfl) rfl (by decide) (fun T44 v44 Ll44 X44 hQ44 => ?_)
         obtain ⟨rfl, N44q, eh44⟩ := hQ44
         have N44 := Fr.app N43 N44q
         refine own_go (b := (T44.setTop (mkF m 126 #[iv p0, iv p1, iv p2, iv p3, iv p4, iv (0 : Int32), iv (0 : Int32), iv (0 : Int32), rv b1, rv b10] [(.int (1 : Int32))]))) (fun _ k => XS.iload X44.here hx rfl (hb hby at_116) rfl (XS.icmpNo X44.here hx rfl (hb hby at_118) rfl (teq (Int32.sub_self _)).2 (XS.iconst X44.here hx rfl (hb hby at_121) (XS.goto X44.here hx rfl (pc0 := 122) (pc' := 126) rfl (hb hby at_122) (by decide) (by decide) k)))) ?_
         obtain ⟨fs, hr, hrun, hended, hW, hsame⟩ := X44.leave (v := some (.int (1 : Int32))) (fun h => by rw [Bd.returns] at h; cases h)
         exact ⟨_, _, retN X44 hx (t := .boolean) Bd.returns (by simp) (hb hby at_126) hr, hrun, hended, _, _, rfl, (show Qrm0 Z p0 p1 p2 p3 p4 h0 n0 _ T44.heap _ from (by rw [eh44]; exact ⟨rfl, N44⟩)), ⟨_, rfl⟩, hW, hsame.mono (by decide) (by decide)⟩
       · rw [hk]
         have gx46 : n0 ≤ b10 := Nat.le_trans Zs9 (Nat.le_of_eq g10.symm)
         refine own_spec (W := 1) X10 hx hZ hown e10 (ow hw 5 rfl) (ow hw 6 rfl) (rmft1 l Z a0 hw [] b10 .null .null h10 n0 Zs11 A10 F10_keys F10_keyStarts F10_labelStarts F10_size gx46) (ow hw 7 rfl) (ow hw 4 rfl) rfl (by rw [hml]; rfl) rfl (hb hby at_53) (lenOf pd__I_V rfl) rfl rfl (by decide) (fun T45 v45 Ll45 X45 hQ45 => ?_)
         obtain ⟨ib_45, ks_45, kk_45, bl_45, kb_45, rfl, N45q, K45, P45_0, P45_1, P45_2, P45_3, P45_4, P45_5, P45_6, P45_7, P45_8, P45_9, P45_10, P45_11, P45_12, P45_13⟩ := hQ45
         have N45 := Fr.app N8 N45q
         have Zs47 : n0 ≤ T45.heap.size := Nat.le_trans Zs11 K45.1
         refine own_go (b := (T45.setTop (mkF m 64 #[iv p0, iv p1, iv p2, iv p3, iv p4, iv (0 : Int32), iv (0 : Int32), iv (0 : Int32), rv b1, rv b10] [(.int (0 : Int32)), (.ref b1), (.ref b10)]))) (fun _ k => XS.astore X45.here hx rfl (hb hby at_56) rfl rfl (l' := #[iv p0, iv p1, iv p2, iv p3, iv p4, iv (0 : Int32), iv (0 : Int32), iv (0 : Int32), rv b1, rv b10]) rfl (XS.aload X45.here hx rfl (hb hby at_58) rfl rfl (XS.aload X45.here hx rfl (hb hby at_60) rfl rfl (XS.iload X45.here hx rfl (hb hby at_62) rfl k)))) ?_
         have F49 := A10.keep K45
         have F50 := V8.ext E10
         have nx51 : b1 ≠ b10 := (own_ne V1.lt (own_tr (own_tr (Keep.of_wr W3).1 (Keep.of_wr W6).1) (Keep.of_wr W8).1) (Nat.le_of_eq g10.symm))
         have F52 := F50.keep K45 (ninS nx51 nin0)
         have gx53 : n0 ≤ ib_45 := Nat.le_trans Zs11 P45_4
         have gx54 : n0 ≤ ks_45 := Nat.le_trans Zs11 P45_5
         have nx55 : ks_45 ≠ b1 := (Ne.symm (own_ne V1.lt (own_tr (own_tr (own_tr (Keep.of_wr W3).1 (Keep.of_wr W6).1) (Keep.of_wr W8).1) E10.1) P45_5))
         refine own_virt (W := 0) X45 hx hZ hown rfl (ow hw 26 rfl) (ow hw 27 rfl) (ow hw 29 rfl) (ow hw 28 rfl) (rmap2_0N0 l Z a0 hw [] b10 b1 kl1 (own_k p2) (own_k p3) (own_k p4) ib_45 ks_45 kk_45 (0 : Int32) (0 : Int32) (0 : Int32) T45.heap n0 Zs47 F49 P45_0 P45_1 P45_2 P45_3 P45_7 P45_8 P45_12 F52 gx46 gx53 gx54 nx55 (own_pos p2) (own_pos p3) (own_pos p4)) (ow hw 30 rfl) (ow hw 4 rfl) F49 rfl (by rw [hml]; rfl) rfl (hb hby at_64) (lenOf pd___II_I rfl) rfl (by decide) (fun T48 v48 Ll48 X48 hQ48 => ?_)
         obtain ⟨rfl, N48q, K48, P48_0, P48_1, P48_2, P48_3, P48_4⟩ := hQ48
         have N48 := Fr.app N45 N48q
         have Zs56 : n0 ≤ T48.heap.size := Nat.le_trans Zs47 K48.1
         refine own_go (b := (T48.setTop (mkF m 74 #[iv p0, iv p1, iv p2, iv p3, iv p4, iv (0 : Int32), iv (0 : Int32), iv (0 : Int32), rv b1, rv b10] [(.int (0 : Int32)), (.ref b1), (.ref b10)]))) (fun _ k => XS.pop X48.here hx rfl (hb hby at_67) rfl rfl (XS.aload X48.here hx rfl (hb hby at_68) rfl rfl (XS.aload X48.here hx rfl (hb hby at_70) rfl rfl (XS.iload X48.here hx rfl (hb hby at_72) rfl k)))) ?_
         have F58 := F49.keep K48
         have F59 := P45_7.keep K48
         obtain ⟨cn60, An60, -⟩ := id P45_12
         have nx61 : ib_45 ≠ ks_45 := (ne_arr P45_7 (ow hw 12 rfl) An60)
         have nx62 : ib_45 ≠ b10 := (Ne.symm (own_ne A10.lt (Nat.le_refl _) P45_4))
         have F63 := P45_8.keep K48 (ninS nx62 (ninS nx61 nin0))
         have F64 := F52.keep K48 (ninS nx51 (ninS (Ne.symm nx55) nin0))
         refine own_virt (W := 0) X48 hx hZ hown rfl (ow hw 26 rfl) (ow hw 27 rfl) (ow hw 29 rfl) (ow hw 28 rfl) (rmap2_1N0 l Z a0 hw [] b10 b1 kl1 (own_k p2) (own_k p3) (own_k p4) ib_45 ks_45 kk_45 (0 : Int32) (0 : Int32) (0 : Int32) T48.heap n0 Zs56 F58 P48_0 P48_3 P48_1 P48_2 F59 F63 P48_4 F64 gx46 gx53 gx54 nx55 (own_pos p2) (own_pos p3) (own_pos p4)) (ow hw 30 rfl) (ow hw 4 rfl) F58 rfl (by rw [hml]; rfl) rfl (hb hby at_74) (lenOf pd___II_I rfl) rfl (by decide) (fun T57 v57 Ll57 X57 hQ57 => ?_)
         obtain ⟨ksn_57, kkn_57, rfl, N57q, K57, P57_0, P57_1, P57_2, P57_3, P57_4, P57_5⟩ := hQ57
         have N57 := Fr.app N48 N57q
         have Zs65 : n0 ≤ T57.heap.size := Nat.le_trans Zs56 K57.1
         refine own_go (b := (T57.setTop (mkF m 84 #[iv p0, iv p1, iv p2, iv p3, iv p4, iv (0 : Int32), iv (0 : Int32), iv (0 : Int32), rv b1, rv b10] [(.int (0 : Int32)), (.ref b1), (.ref b10)]))) (fun _ k => XS.pop X57.here hx rfl (hb hby at_77) rfl rfl (XS.aload X57.here hx rfl (hb hby at_78) rfl rfl (XS.aload X57.here hx rfl (hb hby at_80) rfl rfl (XS.iload X57.here hx rfl (hb hby at_82) rfl k)))) ?_
         have F67 := F58.keep K57
         have F68 := F59.keep K57
         have F69 := F63.keep K57 (ninS nx62 nin0)
         have F70 := F64.keep K57 (ninS nx51 nin0)
         have gx71 : n0 ≤ ksn_57 := Nat.le_trans Zs56 P57_3
         have nx72 : ksn_57 ≠ b1 := (Ne.symm (own_ne V1.lt (own_tr (own_tr (own_tr (own_tr (own_tr (Keep.of_wr W3).1 (Keep.of_wr W6).1) (Keep.of_wr W8).1) E10.1) K45.1) K48.1) P57_3))
         refine own_virt (W := 0) X57 hx hZ hown rfl (ow hw 26 rfl) (ow hw 27 rfl) (ow hw 29 rfl) (ow hw 28 rfl) (rmap4_2N0 l Z a0 hw [] b10 b1 kl1 (own_k p2) (own_k p3) (own_k p4) ib_45 ksn_57 kkn_57 (0 : Int32) (0 : Int32) (0 : Int32) (0 : Int32) (0 : Int32) T57.heap n0 Zs65 F67 P57_0 P57_4 P57_1 P57_2 F68 F69 P57_5 F70 gx46 gx53 gx71 nx72 (own_pos p2) (own_pos p3) (own_pos p4)) (ow hw 30 rfl) (ow hw 4 rfl) F67 rfl (by rw [hml]; rfl) rfl (hb hby at_84) (lenOf pd___II_I rfl) rfl (by decide) (fun T66 v66 Ll66 X66 hQ66 => ?_)
         obtain ⟨rfl, N66q, K66, P66_0, P66_1, P66_2, P66_3, P66_4⟩ := hQ66
         have N66 := Fr.app N57 N66q
         have Zs73 : n0 ≤ T66.heap.size := Nat.le_trans Zs65 K66.1
         refine own_go (b := (T66.setTop (mkF m 91 #[iv p0, iv p1, iv p2, iv p3, iv p4, iv (0 : Int32), iv (0 : Int32), iv (0 : Int32), rv b1, rv b10] [(.int (0 : Int32)), (.ref b10)]))) (fun _ k => XS.pop X66.here hx rfl (hb hby at_87) rfl rfl (XS.aload X66.here hx rfl (hb hby at_88) rfl rfl (XS.iconst X66.here hx rfl (hb hby at_90) k))) ?_
         have F75 := F67.keep K66
         refine own_virt (W := 0) X66 hx hZ hown rfl (ow hw 68 rfl) (ow hw 69 rfl) (ow hw 71 rfl) (ow hw 70 rfl) (rmlen4_0 l Z a0 hw [] b10 ksn_57 kkn_57 (0 : Int32) (0 : Int32) (0 : Int32) (0 : Int32) T66.heap n0 Zs73 P66_3 P66_4) (ow hw 72 rfl) (ow hw 4 rfl) F75 rfl (by rw [hml]; rfl) rfl (hb hby at_91) (lenOf pd__I_I rfl) rfl (by decide) (fun T74 v74 Ll74 X74 hQ74 => ?_)
         obtain ⟨rfl, N74q, eh74⟩ := hQ74
         have N74 := Fr.app N66 N74q
         refine own_go (b := (T74.setTop (mkF m 102 #[iv p0, iv p1, iv p2, iv p3, iv p4, iv (0 : Int32), iv (0 : Int32), iv (0 : Int32), rv b1, rv b10] [(.int (1 : Int32)), (.ref b10)]))) (fun _ k => XS.iload X74.here hx rfl (hb hby at_94) rfl (XS.icmpNo X74.here hx rfl (hb hby at_96) rfl (teq (Int32.sub_self _)).2 (XS.aload X74.here hx rfl (hb hby at_99) rfl rfl (XS.iconst X74.here hx rfl (hb hby at_101) k)))) ?_
         refine own_virt (W := 0) X74 hx hZ hown eh74 (ow hw 68 rfl) (ow hw 69 rfl) (ow hw 71 rfl) (ow hw 70 rfl) (rmlen4_1 l Z a0 hw [] b10 ksn_57 kkn_57 (0 : Int32) (0 : Int32) (0 : Int32) (0 : Int32) T66.heap n0 Zs73 P66_3 P66_4) (ow hw 72 rfl) (ow hw 4 rfl) F75 rfl (by rw [hml]; rfl) rfl (hb hby at_102) (lenOf pd__I_I rfl) rfl (by decide) (fun T76 v76 Ll76 X76 hQ76 => ?_)
         obtain ⟨rfl, N76q, eh76⟩ := hQ76
         have N76 := Fr.app N74 N76q
         refine own_go (b := (T76.setTop (mkF m 113 #[iv p0, iv p1, iv p2, iv p3, iv p4, iv (0 : Int32), iv (0 : Int32), iv (0 : Int32), rv b1, rv b10] [(.int (2 : Int32)), (.ref b10)]))) (fun _ k => XS.iload X76.here hx rfl (hb hby at_105) rfl (XS.icmpNo X76.here hx rfl (hb hby at_107) rfl (teq (Int32.sub_self _)).2 (XS.aload X76.here hx rfl (hb hby at_110) rfl rfl (XS.iconst X76.here hx rfl (hb hby at_112) k)))) ?_
         refine own_virt (W := 0) X76 hx hZ hown eh76 (ow hw 68 rfl) (ow hw 69 rfl) (ow hw 71 rfl) (ow hw 70 rfl) (rmlen4_2 l Z a0 hw [] b10 ksn_57 kkn_57 (0 : Int32) (0 : Int32) (0 : Int32) (0 : Int32) T66.heap n0 Zs73 P66_3 P66_4) (ow hw 72 rfl) (ow hw 4 rfl) F75 rfl (by rw [hml]; rfl) rfl (hb hby at_113) (lenOf pd__I_I rfl) rfl (by decide) (fun T77 v77 Ll77 X77 hQ77 => ?_)
         obtain ⟨rfl, N77q, eh77⟩ := hQ77
         have N77 := Fr.app N76 N77q
         refine own_go (b := (T77.setTop (mkF m 126 #[iv p0, iv p1, iv p2, iv p3, iv p4, iv (0 : Int32), iv (0 : Int32), iv (0 : Int32), rv b1, rv b10] [(.int (1 : Int32))]))) (fun _ k => XS.iload X77.here hx rfl (hb hby at_116) rfl (XS.icmpNo X77.here hx rfl (hb hby at_118) rfl (teq (Int32.sub_self _)).2 (XS.iconst X77.here hx rfl (hb hby at_121) (XS.goto X77.here hx rfl (pc0 := 122) (pc' := 126) rfl (hb hby at_122) (by decide) (by decide) k)))) ?_
         obtain ⟨fs, hr, hrun, hended, hW, hsame⟩ := X77.leave (v := some (.int (1 : Int32))) (fun h => by rw [Bd.returns] at h; cases h)
         exact ⟨_, _, retN X77 hx (t := .boolean) Bd.returns (by simp) (hb hby at_126) hr, hrun, hended, _, _, rfl, (show Qrm0 Z p0 p1 p2 p3 p4 h0 n0 _ T77.heap _ from (by rw [eh77]; exact ⟨rfl, N77⟩)), ⟨_, rfl⟩, hW, hsame.mono (by decide) (by decide)⟩
       · rw [hk]
         have gx79 : n0 ≤ b10 := Nat.le_trans Zs9 (Nat.le_of_eq g10.symm)
         refine own_spec (W := 1) X10 hx hZ hown e10 (ow hw 5 rfl) (ow hw 6 rfl) (rmft2 l Z a0 hw [] b10 .null .null h10 n0 Zs11 A10 F10_keys F10_keyStarts F10_labelStarts F10_size gx79) (ow hw 7 rfl) (ow hw 4 rfl) rfl (by rw [hml]; rfl) rfl (hb hby at_53) (lenOf pd__I_V rfl) rfl rfl (by decide) (fun T78 v78 Ll78 X78 hQ78 => ?_)
         obtain ⟨ib_78, ks_78, kk_78, bl_78, kb_78, rfl, N78q, K78, P78_0, P78_1, P78_2, P78_3, P78_4, P78_5, P78_6, P78_7, P78_8, P78_9, P78_10, P78_11, P78_12, P78_13⟩ := hQ78
         have N78 := Fr.app N8 N78q
         have Zs80 : n0 ≤ T78.heap.size := Nat.le_trans Zs11 K78.1
         refine own_go (b := (T78.setTop (mkF m 64 #[iv p0, iv p1, iv p2, iv p3, iv p4, iv (0 : Int32), iv (0 : Int32), iv (0 : Int32), rv b1, rv b10] [(.int (0 : Int32)), (.ref b1), (.ref b10)]))) (fun _ k => XS.astore X78.here hx rfl (hb hby at_56) rfl rfl (l' := #[iv p0, iv p1, iv p2, iv p3, iv p4, iv (0 : Int32), iv (0 : Int32), iv (0 : Int32), rv b1, rv b10]) rfl (XS.aload X78.here hx rfl (hb hby at_58) rfl rfl (XS.aload X78.here hx rfl (hb hby at_60) rfl rfl (XS.iload X78.here hx rfl (hb hby at_62) rfl k)))) ?_
         have F82 := A10.keep K78
         have F83 := V8.ext E10
         have nx84 : b1 ≠ b10 := (own_ne V1.lt (own_tr (own_tr (Keep.of_wr W3).1 (Keep.of_wr W6).1) (Keep.of_wr W8).1) (Nat.le_of_eq g10.symm))
         have F85 := F83.keep K78 (ninS nx84 nin0)
         have gx86 : n0 ≤ ib_78 := Nat.le_trans Zs11 P78_4
         have gx87 : n0 ≤ ks_78 := Nat.le_trans Zs11 P78_5
         have nx88 : ks_78 ≠ b1 := (Ne.symm (own_ne V1.lt (own_tr (own_tr (own_tr (Keep.of_wr W3).1 (Keep.of_wr W6).1) (Keep.of_wr W8).1) E10.1) P78_5))
         refine own_virt (W := 0) X78 hx hZ hown rfl (ow hw 26 rfl) (ow hw 27 rfl) (ow hw 29 rfl) (ow hw 28 rfl) (rmap3_0N0 l Z a0 hw [] b10 b1 kl1 (own_k p2) (own_k p3) (own_k p4) ib_78 ks_78 kk_78 (0 : Int32) (0 : Int32) (0 : Int32) (0 : Int32) T78.heap n0 Zs80 F82 P78_0 P78_1 P78_2 P78_3 P78_7 P78_8 P78_12 F85 gx79 gx86 gx87 nx88 (own_pos p2) (own_pos p3) (own_pos p4)) (ow hw 30 rfl) (ow hw 4 rfl) F82 rfl (by rw [hml]; rfl) rfl (hb hby at_64) (lenOf pd___II_I rfl) rfl (by decide) (fun T81 v81 Ll81 X81 hQ81 => ?_)
         obtain ⟨rfl, N81q, K81, P81_0, P81_1, P81_2, P81_3, P81_4⟩ := hQ81
         have N81 := Fr.app N78 N81q
         have Zs89 : n0 ≤ T81.heap.size := Nat.le_trans Zs80 K81.1
         refine own_go (b := (T81.setTop (mkF m 74 #[iv p0, iv p1, iv p2, iv p3, iv p4, iv (0 : Int32), iv (0 : Int32), iv (0 : Int32), rv b1, rv b10] [(.int (0 : Int32)), (.ref b1), (.ref b10)]))) (fun _ k => XS.pop X81.here hx rfl (hb hby at_67) rfl rfl (XS.aload X81.here hx rfl (hb hby at_68) rfl rfl (XS.aload X81.here hx rfl (hb hby at_70) rfl rfl (XS.iload X81.here hx rfl (hb hby at_72) rfl k)))) ?_
         have F91 := F82.keep K81
         have F92 := P78_7.keep K81
         obtain ⟨cn93, An93, -⟩ := id P78_12
         have nx94 : ib_78 ≠ ks_78 := (ne_arr P78_7 (ow hw 12 rfl) An93)
         have nx95 : ib_78 ≠ b10 := (Ne.symm (own_ne A10.lt (Nat.le_refl _) P78_4))
         have F96 := P78_8.keep K81 (ninS nx95 (ninS nx94 nin0))
         have F97 := F85.keep K81 (ninS nx84 (ninS (Ne.symm nx88) nin0))
         refine own_virt (W := 0) X81 hx hZ hown rfl (ow hw 26 rfl) (ow hw 27 rfl) (ow hw 29 rfl) (ow hw 28 rfl) (rmap3_1N0 l Z a0 hw [] b10 b1 kl1 (own_k p2) (own_k p3) (own_k p4) ib_78 ks_78 kk_78 (0 : Int32) (0 : Int32) (0 : Int32) (0 : Int32) T81.heap n0 Zs89 F91 P81_0 P81_3 P81_1 P81_2 F92 F96 P81_4 F97 gx79 gx86 gx87 nx88 (own_pos p2) (own_pos p3) (own_pos p4)) (ow hw 30 rfl) (ow hw 4 rfl) F91 rfl (by rw [hml]; rfl) rfl (hb hby at_74) (lenOf pd___II_I rfl) rfl (by decide) (fun T90 v90 Ll90 X90 hQ90 => ?_)
         obtain ⟨rfl, N90q, K90, P90_0, P90_1, P90_2, P90_3, P90_4⟩ := hQ90
         have N90 := Fr.app N81 N90q
         have Zs98 : n0 ≤ T90.heap.size := Nat.le_trans Zs89 K90.1
         refine own_go (b := (T90.setTop (mkF m 84 #[iv p0, iv p1, iv p2, iv p3, iv p4, iv (0 : Int32), iv (0 : Int32), iv (0 : Int32), rv b1, rv b10] [(.int (0 : Int32)), (.ref b1), (.ref b10)]))) (fun _ k => XS.pop X90.here hx rfl (hb hby at_77) rfl rfl (XS.aload X90.here hx rfl (hb hby at_78) rfl rfl (XS.aload X90.here hx rfl (hb hby at_80) rfl rfl (XS.iload X90.here hx rfl (hb hby at_82) rfl k)))) ?_
         have F100 := F91.keep K90
         have F101 := F92.keep K90
         have F102 := F96.keep K90 (ninS nx95 (ninS nx94 nin0))
         have F103 := F97.keep K90 (ninS nx84 (ninS (Ne.symm nx88) nin0))
         refine own_virt (W := 0) X90 hx hZ hown rfl (ow hw 26 rfl) (ow hw 27 rfl) (ow hw 29 rfl) (ow hw 28 rfl) (rmap3_2N0 l Z a0 hw [] b10 b1 kl1 (own_k p2) (own_k p3) (own_k p4) ib_78 ks_78 kk_78 (0 : Int32) (0 : Int32) (0 : Int32) (0 : Int32) T90.heap n0 Zs98 F100 P90_0 P90_3 P90_1 P90_2 F101 F102 P90_4 F103 gx79 gx86 gx87 nx88 (own_pos p2) (own_pos p3) (own_pos p4)) (ow hw 30 rfl) (ow hw 4 rfl) F100 rfl (by rw [hml]; rfl) rfl (hb hby at_84) (lenOf pd___II_I rfl) rfl (by decide) (fun T99 v99 Ll99 X99 hQ99 => ?_)
         obtain ⟨ksn_99, kkn_99, rfl, N99q, K99, P99_0, P99_1, P99_2, P99_3, P99_4, P99_5⟩ := hQ99
         have N99 := Fr.app N90 N99q
         have Zs104 : n0 ≤ T99.heap.size := Nat.le_trans Zs98 K99.1
         refine own_go (b := (T99.setTop (mkF m 91 #[iv p0, iv p1, iv p2, iv p3, iv p4, iv (0 : Int32), iv (0 : Int32), iv (0 : Int32), rv b1, rv b10] [(.int (0 : Int32)), (.ref b10)]))) (fun _ k => XS.pop X99.here hx rfl (hb hby at_87) rfl rfl (XS.aload X99.here hx rfl (hb hby at_88) rfl rfl (XS.iconst X99.here hx rfl (hb hby at_90) k))) ?_
         have F106 := F100.keep K99
         refine own_virt (W := 0) X99 hx hZ hown rfl (ow hw 68 rfl) (ow hw 69 rfl) (ow hw 71 rfl) (ow hw 70 rfl) (rmlen6_0 l Z a0 hw [] b10 ksn_99 kkn_99 (0 : Int32) (0 : Int32) (0 : Int32) (0 : Int32) (0 : Int32) (0 : Int32) T99.heap n0 Zs104 P99_4 P99_5) (ow hw 72 rfl) (ow hw 4 rfl) F106 rfl (by rw [hml]; rfl) rfl (hb hby at_91) (lenOf pd__I_I rfl) rfl (by decide) (fun T105 v105 Ll105 X105 hQ105 => ?_)
         obtain ⟨rfl, N105q, eh105⟩ := hQ105
         have N105 := Fr.app N99 N105q
         refine own_go (b := (T105.setTop (mkF m 102 #[iv p0, iv p1, iv p2, iv p3, iv p4, iv (0 : Int32), iv (0 : Int32), iv (0 : Int32), rv b1, rv b10] [(.int (1 : Int32)), (.ref b10)]))) (fun _ k => XS.iload X105.here hx rfl (hb hby at_94) rfl (XS.icmpNo X105.here hx rfl (hb hby at_96) rfl (teq (Int32.sub_self _)).2 (XS.aload X105.here hx rfl (hb hby at_99) rfl rfl (XS.iconst X105.here hx rfl (hb hby at_101) k)))) ?_
         refine own_virt (W := 0) X105 hx hZ hown eh105 (ow hw 68 rfl) (ow hw 69 rfl) (ow hw 71 rfl) (ow hw 70 rfl) (rmlen6_1 l Z a0 hw [] b10 ksn_99 kkn_99 (0 : Int32) (0 : Int32) (0 : Int32) (0 : Int32) (0 : Int32) (0 : Int32) T99.heap n0 Zs104 P99_4 P99_5) (ow hw 72 rfl) (ow hw 4 rfl) F106 rfl (by rw [hml]; rfl) rfl (hb hby at_102) (lenOf pd__I_I rfl) rfl (by decide) (fun T107 v107 Ll107 X107 hQ107 => ?_)
         obtain ⟨rfl, N107q, eh107⟩ := hQ107
         have N107 := Fr.app N105 N107q
         refine own_go (b := (T107.setTop (mkF m 113 #[iv p0, iv p1, iv p2, iv p3, iv p4, iv (0 : Int32), iv (0 : Int32), iv (0 : Int32), rv b1, rv b10] [(.int (2 : Int32)), (.ref b10)]))) (fun _ k => XS.iload X107.here hx rfl (hb hby at_105) rfl (XS.icmpNo X107.here hx rfl (hb hby at_107) rfl (teq (Int32.sub_self _)).2 (XS.aload X107.here hx rfl (hb hby at_110) rfl rfl (XS.iconst X107.here hx rfl (hb hby at_112) k)))) ?_
         refine own_virt (W := 0) X107 hx hZ hown eh107 (ow hw 68 rfl) (ow hw 69 rfl) (ow hw 71 rfl) (ow hw 70 rfl) (rmlen6_2 l Z a0 hw [] b10 ksn_99 kkn_99 (0 : Int32) (0 : Int32) (0 : Int32) (0 : Int32) (0 : Int32) (0 : Int32) T99.heap n0 Zs104 P99_4 P99_5) (ow hw 72 rfl) (ow hw 4 rfl) F106 rfl (by rw [hml]; rfl) rfl (hb hby at_113) (lenOf pd__I_I rfl) rfl (by decide) (fun T108 v108 Ll108 X108 hQ108 => ?_)
         obtain ⟨rfl, N108q, eh108⟩ := hQ108
         have N108 := Fr.app N107 N108q
         refine own_go (b := (T108.setTop (mkF m 126 #[iv p0, iv p1, iv p2, iv p3, iv p4, iv (0 : Int32), iv (0 : Int32), iv (0 : Int32), rv b1, rv b10] [(.int (1 : Int32))]))) (fun _ k => XS.iload X108.here hx rfl (hb hby at_116) rfl (XS.icmpNo X108.here hx rfl (hb hby at_118) rfl (teq (Int32.sub_self _)).2 (XS.iconst X108.here hx rfl (hb hby at_121) (XS.goto X108.here hx rfl (pc0 := 122) (pc' := 126) rfl (hb hby at_122) (by decide) (by decide) k)))) ?_
         obtain ⟨fs, hr, hrun, hended, hW, hsame⟩ := X108.leave (v := some (.int (1 : Int32))) (fun h => by rw [Bd.returns] at h; cases h)
         exact ⟨_, _, retN X108 hx (t := .boolean) Bd.returns (by simp) (hb hby at_126) hr, hrun, hended, _, _, rfl, (show Qrm0 Z p0 p1 p2 p3 p4 h0 n0 _ T108.heap _ from (by rw [eh108]; exact ⟨rfl, N108⟩)), ⟨_, rfl⟩, hW, hsame.mono (by decide) (by decide)⟩
       · rw [hk]
         have gx110 : n0 ≤ b10 := Nat.le_trans Zs9 (Nat.le_of_eq g10.symm)
         refine own_spec (W := 1) X10 hx hZ hown e10 (ow hw 5 rfl) (ow hw 6 rfl) (rmft3 l Z a0 hw [] b10 .null .null h10 n0 Zs11 A10 F10_keys F10_keyStarts F10_labelStarts F10_size gx110) (ow hw 7 rfl) (ow hw 4 rfl) rfl (by rw [hml]; rfl) rfl (hb hby at_53) (lenOf pd__I_V rfl) rfl rfl (by decide) (fun T109 v109 Ll109 X109 hQ109 => ?_)
         obtain ⟨ib_109, ks_109, kk_109, bl_109, kb_109, rfl, N109q, K109, P109_0, P109_1, P109_2, P109_3, P109_4, P109_5, P109_6, P109_7, P109_8, P109_9, P109_10, P109_11, P109_12, P109_13⟩ := hQ109
         have N109 := Fr.app N8 N109q
         have Zs111 : n0 ≤ T109.heap.size := Nat.le_trans Zs11 K109.1
         refine own_go (b := (T109.setTop (mkF m 64 #[iv p0, iv p1, iv p2, iv p3, iv p4, iv (0 : Int32), iv (0 : Int32), iv (0 : Int32), rv b1, rv b10] [(.int (0 : Int32)), (.ref b1), (.ref b10)]))) (fun _ k => XS.astore X109.here hx rfl (hb hby at_56) rfl rfl (l' := #[iv p0, iv p1, iv p2, iv p3, iv p4, iv (0 : Int32), iv (0 : Int32), iv (0 : Int32), rv b1, rv b10]) rfl (XS.aload X109.here hx rfl (hb hby at_58) rfl rfl (XS.aload X109.here hx rfl (hb hby at_60) rfl rfl (XS.iload X109.here hx rfl (hb hby at_62) rfl k)))) ?_
         have F113 := A10.keep K109
         have F114 := V8.ext E10
         have nx115 : b1 ≠ b10 := (own_ne V1.lt (own_tr (own_tr (Keep.of_wr W3).1 (Keep.of_wr W6).1) (Keep.of_wr W8).1) (Nat.le_of_eq g10.symm))
         have F116 := F114.keep K109 (ninS nx115 nin0)
         have gx117 : n0 ≤ ib_109 := Nat.le_trans Zs11 P109_4
         have gx118 : n0 ≤ ks_109 := Nat.le_trans Zs11 P109_5
         have nx119 : ks_109 ≠ b1 := (Ne.symm (own_ne V1.lt (own_tr (own_tr (own_tr (Keep.of_wr W3).1 (Keep.of_wr W6).1) (Keep.of_wr W8).1) E10.1) P109_5))
         refine own_virt (W := 0) X109 hx hZ hown rfl (ow hw 26 rfl) (ow hw 27 rfl) (ow hw 29 rfl) (ow hw 28 rfl) (rmap4_0N0 l Z a0 hw [] b10 b1 kl1 (own_k p2) (own_k p3) (own_k p4) ib_109 ks_109 kk_109 (0 : Int32) (0 : Int32) (0 : Int32) (0 : Int32) (0 : Int32) T109.heap n0 Zs111 F113 P109_0 P109_1 P109_2 P109_3 P109_7 P109_8 P109_12 F116 gx110 gx117 gx118 nx119 (own_pos p2) (own_pos p3) (own_pos p4)) (ow hw 30 rfl) (ow hw 4 rfl) F113 rfl (by rw [hml]; rfl) rfl (hb hby at_64) (lenOf pd___II_I rfl) rfl (by decide) (fun T112 v112 Ll112 X112 hQ112 => ?_)
         obtain ⟨rfl, N112q, K112, P112_0, P112_1, P112_2, P112_3, P112_4⟩ := hQ112
         have N112 := Fr.app N109 N112q
         have Zs120 : n0 ≤ T112.heap.size := Nat.le_trans Zs111 K112.1
         refine own_go (b := (T112.setTop (mkF m 74 #[iv p0, iv p1, iv p2, iv p3, iv p4, iv (0 : Int32), iv (0 : Int32), iv (0 : Int32), rv b1, rv b10] [(.int (0 : Int32)), (.ref b1), (.ref b10)]))) (fun _ k => XS.pop X112.here hx rfl (hb hby at_67) rfl rfl (XS.aload X112.here hx rfl (hb hby at_68) rfl rfl (XS.aload X112.here hx rfl (hb hby at_70) rfl rfl (XS.iload X112.here hx rfl (hb hby at_72) rfl k)))) ?_
         have F122 := F113.keep K112
         have F123 := P109_7.keep K112
         obtain ⟨cn124, An124, -⟩ := id P109_12
         have nx125 : ib_109 ≠ ks_109 := (ne_arr P109_7 (ow hw 12 rfl) An124)
         have nx126 : ib_109 ≠ b10 := (Ne.symm (own_ne A10.lt (Nat.le_refl _) P109_4))
         have F127 := P109_8.keep K112 (ninS nx126 (ninS nx125 nin0))
         have F128 := F116.keep K112 (ninS nx115 (ninS (Ne.symm nx119) nin0))
         refine own_virt (W := 0) X112 hx hZ hown rfl (ow hw 26 rfl) (ow hw 27 rfl) (ow hw 29 rfl) (ow hw 28 rfl) (rmap4_1N0 l Z a0 hw [] b10 b1 kl1 (own_k p2) (own_k p3) (own_k p4) ib_109 ks_109 kk_109 (0 : Int32) (0 : Int32) (0 : Int32) (0 : Int32) (0 : Int32) T112.heap n0 Zs120 F122 P112_0 P112_3 P112_1 P112_2 F123 F127 P112_4 F128 gx110 gx117 gx118 nx119 (own_pos p2) (own_pos p3) (own_pos p4)) (ow hw 30 rfl) (ow hw 4 rfl) F122 rfl (by rw [hml]; rfl) rfl (hb hby at_74) (lenOf pd___II_I rfl) rfl (by decide) (fun T121 v121 Ll121 X121 hQ121 => ?_)
         obtain ⟨rfl, N121q, K121, P121_0, P121_1, P121_2, P121_3, P121_4⟩ := hQ121
         have N121 := Fr.app N112 N121q
         have Zs129 : n0 ≤ T121.heap.size := Nat.le_trans Zs120 K121.1
         refine own_go (b := (T121.setTop (mkF m 84 #[iv p0, iv p1, iv p2, iv p3, iv p4, iv (0 : Int32), iv (0 : Int32), iv (0 : Int32), rv b1, rv b10] [(.int (0 : Int32)), (.ref b1), (.ref b10)]))) (fun _ k => XS.pop X121.here hx rfl (hb hby at_77) rfl rfl (XS.aload X121.here hx rfl (hb hby at_78) rfl rfl (XS.aload X121.here hx rfl (hb hby at_80) rfl rfl (XS.iload X121.here hx rfl (hb hby at_82) rfl k)))) ?_
         have F131 := F122.keep K121
         have F132 := F123.keep K121
         have F133 := F127.keep K121 (ninS nx126 (ninS nx125 nin0))
         have F134 := F128.keep K121 (ninS nx115 (ninS (Ne.symm nx119) nin0))
         refine own_virt (W := 0) X121 hx hZ hown rfl (ow hw 26 rfl) (ow hw 27 rfl) (ow hw 29 rfl) (ow hw 28 rfl) (rmap4_2N0 l Z a0 hw [] b10 b1 kl1 (own_k p2) (own_k p3) (own_k p4) ib_109 ks_109 kk_109 (0 : Int32) (0 : Int32) (0 : Int32) (0 : Int32) (0 : Int32) T121.heap n0 Zs129 F131 P121_0 P121_3 P121_1 P121_2 F132 F133 P121_4 F134 gx110 gx117 gx118 nx119 (own_pos p2) (own_pos p3) (own_pos p4)) (ow hw 30 rfl) (ow hw 4 rfl) F131 rfl (by rw [hml]; rfl) rfl (hb hby at_84) (lenOf pd___II_I rfl) rfl (by decide) (fun T130 v130 Ll130 X130 hQ130 => ?_)
         obtain ⟨rfl, N130q, K130, P130_0, P130_1, P130_2, P130_3, P130_4⟩ := hQ130
         have N130 := Fr.app N121 N130q
         have Zs135 : n0 ≤ T130.heap.size := Nat.le_trans Zs129 K130.1
         refine own_go (b := (T130.setTop (mkF m 91 #[iv p0, iv p1, iv p2, iv p3, iv p4, iv (0 : Int32), iv (0 : Int32), iv (0 : Int32), rv b1, rv b10] [(.int (0 : Int32)), (.ref b10)]))) (fun _ k => XS.pop X130.here hx rfl (hb hby at_87) rfl rfl (XS.aload X130.here hx rfl (hb hby at_88) rfl rfl (XS.iconst X130.here hx rfl (hb hby at_90) k))) ?_
         have F137 := F131.keep K130
         refine own_virt (W := 0) X130 hx hZ hown rfl (ow hw 68 rfl) (ow hw 69 rfl) (ow hw 71 rfl) (ow hw 70 rfl) (rmlen4_0 l Z a0 hw [] b10 ks_109 kk_109 (0 : Int32) (0 : Int32) (0 : Int32) (0 : Int32) T130.heap n0 Zs135 P130_3 P130_4) (ow hw 72 rfl) (ow hw 4 rfl) F137 rfl (by rw [hml]; rfl) rfl (hb hby at_91) (lenOf pd__I_I rfl) rfl (by decide) (fun T136 v136 Ll136 X136 hQ136 => ?_)
         obtain ⟨rfl, N136q, eh136⟩ := hQ136
         have N136 := Fr.app N130 N136q
         refine own_go (b := (T136.setTop (mkF m 102 #[iv p0, iv p1, iv p2, iv p3, iv p4, iv (0 : Int32), iv (0 : Int32), iv (0 : Int32), rv b1, rv b10] [(.int (1 : Int32)), (.ref b10)]))) (fun _ k => XS.iload X136.here hx rfl (hb hby at_94) rfl (XS.icmpNo X136.here hx rfl (hb hby at_96) rfl (teq (Int32.sub_self _)).2 (XS.aload X136.here hx rfl (hb hby at_99) rfl rfl (XS.iconst X136.here hx rfl (hb hby at_101) k)))) ?_
         refine own_virt (W := 0) X136 hx hZ hown eh136 (ow hw 68 rfl) (ow hw 69 rfl) (ow hw 71 rfl) (ow hw 70 rfl) (rmlen4_1 l Z a0 hw [] b10 ks_109 kk_109 (0 : Int32) (0 : Int32) (0 : Int32) (0 : Int32) T130.heap n0 Zs135 P130_3 P130_4) (ow hw 72 rfl) (ow hw 4 rfl) F137 rfl (by rw [hml]; rfl) rfl (hb hby at_102) (lenOf pd__I_I rfl) rfl (by decide) (fun T138 v138 Ll138 X138 hQ138 => ?_)
         obtain ⟨rfl, N138q, eh138⟩ := hQ138
         have N138 := Fr.app N136 N138q
         refine own_go (b := (T138.setTop (mkF m 113 #[iv p0, iv p1, iv p2, iv p3, iv p4, iv (0 : Int32), iv (0 : Int32), iv (0 : Int32), rv b1, rv b10] [(.int (2 : Int32)), (.ref b10)]))) (fun _ k => XS.iload X138.here hx rfl (hb hby at_105) rfl (XS.icmpNo X138.here hx rfl (hb hby at_107) rfl (teq (Int32.sub_self _)).2 (XS.aload X138.here hx rfl (hb hby at_110) rfl rfl (XS.iconst X138.here hx rfl (hb hby at_112) k)))) ?_
         refine own_virt (W := 0) X138 hx hZ hown eh138 (ow hw 68 rfl) (ow hw 69 rfl) (ow hw 71 rfl) (ow hw 70 rfl) (rmlen4_2 l Z a0 hw [] b10 ks_109 kk_109 (0 : Int32) (0 : Int32) (0 : Int32) (0 : Int32) T130.heap n0 Zs135 P130_3 P130_4) (ow hw 72 rfl) (ow hw 4 rfl) F137 rfl (by rw [hml]; rfl) rfl (hb hby at_113) (lenOf pd__I_I rfl) rfl (by decide) (fun T139 v139 Ll139 X139 hQ139 => ?_)
         obtain ⟨rfl, N139q, eh139⟩ := hQ139
         have N139 := Fr.app N138 N139q
         refine own_go (b := (T139.setTop (mkF m 126 #[iv p0, iv p1, iv p2, iv p3, iv p4, iv (0 : Int32), iv (0 : Int32), iv (0 : Int32), rv b1, rv b10] [(.int (1 : Int32))]))) (fun _ k => XS.iload X139.here hx rfl (hb hby at_116) rfl (XS.icmpNo X139.here hx rfl (hb hby at_118) rfl (teq (Int32.sub_self _)).2 (XS.iconst X139.here hx rfl (hb hby at_121) (XS.goto X139.here hx rfl (pc0 := 122) (pc' := 126) rfl (hb hby at_122) (by decide) (by decide) k)))) ?_
         obtain ⟨fs, hr, hrun, hended, hW, hsame⟩ := X139.leave (v := some (.int (1 : Int32))) (fun h => by rw [Bd.returns] at h; cases h)
         exact ⟨_, _, retN X139 hx (t := .boolean) Bd.returns (by simp) (hb hby at_126) hr, hrun, hended, _, _, rfl, (show Qrm0 Z p0 p1 p2 p3 p4 h0 n0 _ T139.heap _ from (by rw [eh139]; exact ⟨rfl, N139⟩)), ⟨_, rfl⟩, hW, hsame.mono (by decide) (by decide)⟩
     · skip
       refine own_go (b := (s₁.setTop (mkF m 20 #[iv p0, iv p1, iv p2, iv p3, iv p4, iv (0 : Int32), iv (0 : Int32), iv (own_l2 p1), .unset, .unset] [(.int (3 : Int32))]))) (fun _ k => XS.istore X0.here hx rfl (hb hby at_17) rfl (l' := #[iv p0, iv p1, iv p2, iv p3, iv p4, iv (0 : Int32), iv (0 : Int32), iv (own_l2 p1), .unset, .unset]) rfl (XS.iconst X0.here hx rfl (hb hby at_19) k)) ?_
       obtain ⟨T140, h140, kl140, X140, e140, E140, A140, st140⟩ := newP X0 hx hZ (ow hw 0 rfl) e0 (g := (mkF m 20 #[iv p0, iv p1, iv p2, iv p3, iv p4, iv (0 : Int32), iv (0 : Int32), iv (own_l2 p1), .unset, .unset] [(.int (3 : Int32))])) rfl (hb hby at_20) rfl (by decide) (cap := 3) (by decide) (by decide) (by decide) (by decide)
       obtain ⟨b140, g140⟩ : ∃ z, z = h0.size := ⟨_, rfl⟩
       rw [← g140] at A140 st140
       have Zs141 : n0 ≤ h140.size := Nat.le_trans Z0 E140.1
       have V140 : Arv Z h140 b140 kl140 .int (3 : Int32) [(.int (0 : Int32)), (.int (0 : Int32)), (.int (0 : Int32))] (.int (0 : Int32)) := (Arv.new A140 (by decide)).pad (pad_rep [] (.int (0 : Int32)) 3)
       refine own_go (b := (T140.setTop (mkF m 28 #[iv p0, iv p1, iv p2, iv p3, iv p4, iv (0 : Int32), iv (0 : Int32), iv (own_l2 p1), .unset, .unset] [(.int (own_k p2)), (.int (0 : Int32)), (.ref b140), (.ref b140)]))) (fun _ k => st140 _ (XS.dup X140.here hx rfl (hb hby at_22) rfl rfl (XS.iconst X140.here hx rfl (hb hby at_23) (XS.iloadN X140.here hx rfl (hb hby at_24) rfl (X140.ldcInt hx hown (mvT hZ (ow hw 1 rfl)) (g := (mkF m 25 #[iv p0, iv p1, iv p2, iv p3, iv p4, iv (0 : Int32), iv (0 : Int32), iv (own_l2 p1), .unset, .unset] [(.int p2), (.int (0 : Int32)), (.ref b140), (.ref b140)])) rfl (hb hby at_25) _ (XS.iand X140.here hx rfl (hb hby at_27) rfl k)))))) ?_
       obtain ⟨cl142, Ar142, ql142, Sz142, Nn142, Hl142, Gl142⟩ := id V140
       have hin142 : ¬ ((0 : Int32) < 0 ∨ cl142.slots.size ≤ ((0 : Int32)).toNatClampNeg) := inb_of Sz142 ⟨by decide, by decide⟩
       obtain ⟨T142, h142, X142, e142, W142, st142⟩ := stI X140 hx hZ e140 Ar142 (j := (0 : Int32)) hin142 (g := (mkF m 28 #[iv p0, iv p1, iv p2, iv p3, iv p4, iv (0 : Int32), iv (0 : Int32), iv (own_l2 p1), .unset, .unset] [(.int (own_k p2)), (.int (0 : Int32)), (.ref b140), (.ref b140)])) rfl rfl (hb hby at_28)
       have gx143 : n0 ≤ b140 := Nat.le_trans Z0 (Nat.le_of_eq g140.symm)
       have N142 := Fr.snoc X142 N0 gx143
       have Zs144 : n0 ≤ h142.size := Nat.le_trans Zs141 (Keep.of_wr W142).1
       have V142 : Arv Z h142 b140 kl140 .int (3 : Int32) [(.int (own_k p2)), (.int (0 : Int32)), (.int (0 : Int32))] (.int (0 : Int32)) := Arv.set Ar142 ql142 Sz142 Nn142 Hl142 Gl142 rfl W142 0 rfl (Nat.le_of_ble_eq_true rfl)
       refine own_go (b := (T142.setTop (mkF m 35 #[iv p0, iv p1, iv p2, iv p3, iv p4, iv (0 : Int32), iv (0 : Int32), iv (own_l2 p1), .unset, .unset] [(.int (own_k p3)), (.int (1 : Int32)), (.ref b140), (.ref b140)]))) (fun _ k => st142 _ (XS.dup X142.here hx rfl (hb hby at_29) rfl rfl (XS.iconst X142.here hx rfl (hb hby at_30) (XS.iloadN X142.here hx rfl (hb hby at_31) rfl (X142.ldcInt hx hown (mvT hZ (ow hw 1 rfl)) (g := (mkF m 32 #[iv p0, iv p1, iv p2, iv p3, iv p4, iv (0 : Int32), iv (0 : Int32), iv (own_l2 p1), .unset, .unset] [(.int p3), (.int (1 : Int32)), (.ref b140), (.ref b140)])) rfl (hb hby at_32) _ (XS.iand X142.here hx rfl (hb hby at_34) rfl k)))))) ?_
       obtain ⟨cl145, Ar145, ql145, Sz145, Nn145, Hl145, Gl145⟩ := id V142
       have hin145 : ¬ ((1 : Int32) < 0 ∨ cl145.slots.size ≤ ((1 : Int32)).toNatClampNeg) := inb_of Sz145 ⟨by decide, by decide⟩
       obtain ⟨T145, h145, X145, e145, W145, st145⟩ := stI X142 hx hZ e142 Ar145 (j := (1 : Int32)) hin145 (g := (mkF m 35 #[iv p0, iv p1, iv p2, iv p3, iv p4, iv (0 : Int32), iv (0 : Int32), iv (own_l2 p1), .unset, .unset] [(.int (own_k p3)), (.int (1 : Int32)), (.ref b140), (.ref b140)])) rfl rfl (hb hby at_35)
       have N145 := Fr.snoc X145 N142 gx143
       have Zs146 : n0 ≤ h145.size := Nat.le_trans Zs144 (Keep.of_wr W145).1
       have V145 : Arv Z h145 b140 kl140 .int (3 : Int32) [(.int (own_k p2)), (.int (own_k p3)), (.int (0 : Int32))] (.int (0 : Int32)) := Arv.set Ar145 ql145 Sz145 Nn145 Hl145 Gl145 rfl W145 1 rfl (Nat.le_of_ble_eq_true rfl)
       refine own_go (b := (T145.setTop (mkF m 43 #[iv p0, iv p1, iv p2, iv p3, iv p4, iv (0 : Int32), iv (0 : Int32), iv (own_l2 p1), .unset, .unset] [(.int (own_k p4)), (.int (2 : Int32)), (.ref b140), (.ref b140)]))) (fun _ k => st145 _ (XS.dup X145.here hx rfl (hb hby at_36) rfl rfl (XS.iconst X145.here hx rfl (hb hby at_37) (XS.iload X145.here hx rfl (hb hby at_38) rfl (X145.ldcInt hx hown (mvT hZ (ow hw 1 rfl)) (g := (mkF m 40 #[iv p0, iv p1, iv p2, iv p3, iv p4, iv (0 : Int32), iv (0 : Int32), iv (own_l2 p1), .unset, .unset] [(.int p4), (.int (2 : Int32)), (.ref b140), (.ref b140)])) rfl (hb hby at_40) _ (XS.iand X145.here hx rfl (hb hby at_42) rfl k)))))) ?_
       obtain ⟨cl147, Ar147, ql147, Sz147, Nn147, Hl147, Gl147⟩ := id V145
       have hin147 : ¬ ((2 : Int32) < 0 ∨ cl147.slots.size ≤ ((2 : Int32)).toNatClampNeg) := inb_of Sz147 ⟨by decide, by decide⟩
       obtain ⟨T147, h147, X147, e147, W147, st147⟩ := stI X145 hx hZ e145 Ar147 (j := (2 : Int32)) hin147 (g := (mkF m 43 #[iv p0, iv p1, iv p2, iv p3, iv p4, iv (0 : Int32), iv (0 : Int32), iv (own_l2 p1), .unset, .unset] [(.int (own_k p4)), (.int (2 : Int32)), (.ref b140), (.ref b140)])) rfl rfl (hb hby at_43)
       have N147 := Fr.snoc X147 N145 gx143
       have Zs148 : n0 ≤ h147.size := Nat.le_trans Zs146 (Keep.of_wr W147).1
       have V147 : Arv Z h147 b140 kl140 .int (3 : Int32) [(.int (own_k p2)), (.int (own_k p3)), (.int (own_k p4))] (.int (0 : Int32)) := Arv.set Ar147 ql147 Sz147 Nn147 Hl147 Gl147 rfl W147 2 rfl (Nat.le_of_ble_eq_true rfl)
       refine own_go (b := (T147.setTop (mkF m 46 #[iv p0, iv p1, iv p2, iv p3, iv p4, iv (0 : Int32), iv (0 : Int32), iv (own_l2 p1), rv b140, .unset] []))) (fun _ k => st147 _ (XS.astore X147.here hx rfl (hb hby at_44) rfl rfl (l' := #[iv p0, iv p1, iv p2, iv p3, iv p4, iv (0 : Int32), iv (0 : Int32), iv (own_l2 p1), rv b140, .unset]) rfl k)) ?_
       obtain ⟨T149, h149, X149, e149, E149, A149, D149, -, st149⟩ := newO X147 hx hZ hown (ow hw 2 rfl) (ow hw 3 rfl) (ow hw 4 rfl) e147 (g := (mkF m 46 #[iv p0, iv p1, iv p2, iv p3, iv p4, iv (0 : Int32), iv (0 : Int32), iv (own_l2 p1), rv b140, .unset] [])) rfl (hb hby at_46) (by decide) (by decide)
       obtain ⟨b149, g149⟩ : ∃ z, z = h147.size := ⟨_, rfl⟩
       rw [← g149] at A149 D149 st149
       have Zs150 : n0 ≤ h149.size := Nat.le_trans Zs148 E149.1
       have F149_keys : Fld Z h149 b149 cs0 "keys" "Lcom/example/arcwright/arcwright/parser/IntBlocks;" .null := D149 (Or.inr (ow hw 23 rfl)) (ty := (.object cs1)) (by decide)
       have F149_keyStarts : Fld Z h149 b149 cs0 "keyStarts" "[I" .null := D149 (Or.inl (ow hw 25 rfl)) (ty := (.array .int)) (by decide)
       have F149_labelStarts : Fld Z h149 b149 cs0 "labelStarts" "[I" .null := D149 (Or.inl (ow hw 32 rfl)) (ty := (.array .int)) (by decide)
       have F149_size : Fld Z h149 b149 cs0 "size" "I" (.int (0 : Int32)) := D149 (Or.inl (ow hw 34 rfl)) (ty := .int) (by decide)
       refine own_go (b := (T149.setTop (mkF m 53 #[iv p0, iv p1, iv p2, iv p3, iv p4, iv (0 : Int32), iv (0 : Int32), iv (own_l2 p1), rv b140, .unset] [(.int (p0 &&& (3 : Int32))), (.ref b149), (.ref b149)]))) (fun _ k => st149 _ (XS.dup X149.here hx rfl (hb hby at_49) rfl rfl (XS.iloadN X149.here hx rfl (hb hby at_50) rfl (XS.iconst X149.here hx rfl (hb hby at_51) (XS.iand X149.here hx rfl (hb hby at_52) rfl k))))) ?_
       rcases own_and3 p0 with hk | hk | hk | hk
       · rw [hk]
         have gx152 : n0 ≤ b149 := Nat.le_trans Zs148 (Nat.le_of_eq g149.symm)
         refine own_spec (W := 1) X149 hx hZ hown e149 (ow hw 5 rfl) (ow hw 6 rfl) (rmft0 l Z a0 hw [] b149 .null .null h149 n0 Zs150 A149 F149_keys F149_keyStarts F149_labelStarts F149_size gx152) (ow hw 7 rfl) (ow hw 4 rfl) rfl (by rw [hml]; rfl) rfl (hb hby at_53) (lenOf pd__I_V rfl) rfl rfl (by decide) (fun T151 v151 Ll151 X151 hQ151 => ?_)
         obtain ⟨ib_151, ks_151, kk_151, bl_151, kb_151, rfl, N151q, K151, P151_0, P151_1, P151_2, P151_3, P151_4, P151_5, P151_6, P151_7, P151_8, P151_9, P151_10, P151_11, P151_12, P151_13⟩ := hQ151
         have N151 := Fr.app N147 N151q
         have Zs153 : n0 ≤ T151.heap.size := Nat.le_trans Zs150 K151.1
         refine own_go (b := (T151.setTop (mkF m 64 #[iv p0, iv p1, iv p2, iv p3, iv p4, iv (0 : Int32), iv (0 : Int32), iv (own_l2 p1), rv b140, rv b149] [(.int (0 : Int32)), (.ref b140), (.ref b149)]))) (fun _ k => XS.astore X151.here hx rfl (hb hby at_56) rfl rfl (l' := #[iv p0, iv p1, iv p2, iv p3, iv p4, iv (0 : Int32), iv (0 : Int32), iv (own_l2 p1), rv b140, rv b149]) rfl (XS.aload X151.here hx rfl (hb hby at_58) rfl rfl (XS.aload X151.here hx rfl (hb hby at_60) rfl rfl (XS.iload X151.here hx rfl (hb hby at_62) rfl k)))) ?_
         have F155 := A149.keep K151
         have F156 := V147.ext E149
         have nx157 : b140 ≠ b149 := (own_ne V140.lt (own_tr (own_tr (Keep.of_wr W142).1 (Keep.of_wr W145).1) (Keep.of_wr W147).1) (Nat.le_of_eq g149.symm))
         have F158 := F156.keep K151 (ninS nx157 nin0)
         have gx159 : n0 ≤ ib_151 := Nat.le_trans Zs150 P151_4
         have gx160 : n0 ≤ ks_151 := Nat.le_trans Zs150 P151_5
         have nx161 : ks_151 ≠ b140 := (Ne.symm (own_ne V140.lt (own_tr (own_tr (own_tr (Keep.of_wr W142).1 (Keep.of_wr W145).1) (Keep.of_wr W147).1) E149.1) P151_5))
         refine own_virt (W := 0) X151 hx hZ hown rfl (ow hw 26 rfl) (ow hw 27 rfl) (ow hw 29 rfl) (ow hw 28 rfl) (rmap1_0N0 l Z a0 hw [] b149 b140 kl140 (own_k p2) (own_k p3) (own_k p4) ib_151 ks_151 kk_151 (0 : Int32) (0 : Int32) T151.heap n0 Zs153 F155 P151_0 P151_1 P151_2 P151_3 P151_7 P151_8 P151_12 F158 gx152 gx159 gx160 nx161 (own_pos p2) (own_pos p3) (own_pos p4)) (ow hw 30 rfl) (ow hw 4 rfl) F155 rfl (by rw [hml]; rfl) rfl (hb hby at_64) (lenOf pd___II_I rfl) rfl (by decide) (fun T154 v154 Ll154 X154 hQ154 => ?_)
         obtain ⟨ksn_154, kkn_154, rfl, N154q, K154, P154_0, P154_1, P154_2, P154_3, P154_4, P154_5⟩ := hQ154
         have N154 := Fr.app N151 N154q
         have Zs162 : n0 ≤ T154.heap.size := Nat.le_trans Zs153 K154.1
         refine own_go (b := (T154.setTop (mkF m 74 #[iv p0, iv p1, iv p2, iv p3, iv p4, iv (0 : Int32), iv (0 : Int32), iv (own_l2 p1), rv b140, rv b149] [(.int (0 : Int32)), (.ref b140), (.ref b149)]))) (fun _ k => XS.pop X154.here hx rfl (hb hby at_67) rfl rfl (XS.aload X154.here hx rfl (hb hby at_68) rfl rfl (XS.aload X154.here hx rfl (hb hby at_70) rfl rfl (XS.iload X154.here hx rfl (hb hby at_72) rfl k)))) ?_
         have F164 := F155.keep K154
         have F165 := P151_7.keep K154
         have nx166 : ib_151 ≠ b149 := (Ne.symm (own_ne A149.lt (Nat.le_refl _) P151_4))
         have F167 := P151_8.keep K154 (ninS nx166 nin0)
         have F168 := F158.keep K154 (ninS nx157 nin0)
         have gx169 : n0 ≤ ksn_154 := Nat.le_trans Zs153 P154_3
         have nx170 : ksn_154 ≠ b140 := (Ne.symm (own_ne V140.lt (own_tr (own_tr (own_tr (own_tr (Keep.of_wr W142).1 (Keep.of_wr W145).1) (Keep.of_wr W147).1) E149.1) K151.1) P154_3))
         refine own_virt (W := 0) X154 hx hZ hown rfl (ow hw 26 rfl) (ow hw 27 rfl) (ow hw 29 rfl) (ow hw 28 rfl) (rmap2_1N0 l Z a0 hw [] b149 b140 kl140 (own_k p2) (own_k p3) (own_k p4) ib_151 ksn_154 kkn_154 (0 : Int32) (0 : Int32) (0 : Int32) T154.heap n0 Zs162 F164 P154_0 P154_4 P154_1 P154_2 F165 F167 P154_5 F168 gx152 gx159 gx169 nx170 (own_pos p2) (own_pos p3) (own_pos p4)) (ow hw 30 rfl) (ow hw 4 rfl) F164 rfl (by rw [hml]; rfl) rfl (hb hby at_74) (lenOf pd___II_I rfl) rfl (by decide) (fun T163 v163 Ll163 X163 hQ163 => ?_)
         obtain ⟨ksn_163, kkn_163, rfl, N163q, K163, P163_0, P163_1, P163_2, P163_3, P163_4, P163_5⟩ := hQ163
         have N163 := Fr.app N154 N163q
         have Zs171 : n0 ≤ T163.heap.size := Nat.le_trans Zs162 K163.1
         refine own_go (b := (T163.setTop (mkF m 84 #[iv p0, iv p1, iv p2, iv p3, iv p4, iv (0 : Int32), iv (0 : Int32), iv (own_l2 p1), rv b140, rv b149] [(.int (own_l2 p1)), (.ref b140), (.ref b149)]))) (fun _ k => XS.pop X163.here hx rfl (hb hby at_77) rfl rfl (XS.aload X163.here hx rfl (hb hby at_78) rfl rfl (XS.aload X163.here hx rfl (hb hby at_80) rfl rfl (XS.iload X163.here hx rfl (hb hby at_82) rfl k)))) ?_
         have F173 := F164.keep K163
         have F174 := F165.keep K163
         have F175 := F167.keep K163 (ninS nx166 nin0)
         have F176 := P151_9.keep K154 (ninS nx166 nin0)
         have F177 := F176.keep K163 (ninS nx166 nin0)
         have F178 := F168.keep K163 (ninS nx157 nin0)
         have gx179 : n0 ≤ ksn_163 := Nat.le_trans Zs162 P163_3
         have nx180 : ksn_163 ≠ b140 := (Ne.symm (own_ne V140.lt (own_tr (own_tr (own_tr (own_tr (own_tr (Keep.of_wr W142).1 (Keep.of_wr W145).1) (Keep.of_wr W147).1) E149.1) K151.1) K154.1) P163_3))
         have gx181 : n0 ≤ bl_151 := Nat.le_trans Zs150 P151_6
         have nx182 : ksn_163 ≠ bl_151 := (Ne.symm (own_ne P151_10.lt K154.1 P163_3))
         have nx183 : b140 ≠ bl_151 := (own_ne V140.lt (own_tr (own_tr (own_tr (Keep.of_wr W142).1 (Keep.of_wr W145).1) (Keep.of_wr W147).1) E149.1) P151_6)
         have nx184 : bl_151 ≠ b149 := (Ne.symm (own_ne A149.lt (Nat.le_refl _) P151_6))
         have F185 := P151_10.keep K154 (ninS nx184 nin0)
         have F186 := F185.keep K163 (ninS nx184 nin0)
         refine own_virt (W := 0) X163 hx hZ hown rfl (ow hw 26 rfl) (ow hw 27 rfl) (ow hw 29 rfl) (ow hw 28 rfl) (rmap4_2E1 l Z a0 hw [] b149 b140 kl140 (own_k p2) (own_k p3) (own_k p4) (own_l2 p1) ib_151 ksn_163 kkn_163 bl_151 kb_151 (0 : Int32) (0 : Int32) (0 : Int32) (0 : Int32) T163.heap n0 Zs171 F173 P163_0 P163_4 P163_1 P163_2 F174 F175 F177 P163_5 F178 gx152 gx159 gx179 nx180 gx181 nx182 nx183 (own_pos p2) (own_pos p3) (own_pos p4) (own_nz _ hz2).1 (own_nz _ hz2).2 F186 P151_11) (ow hw 30 rfl) (ow hw 4 rfl) F173 rfl (by rw [hml]; rfl) rfl (hb hby at_84) (lenOf pd___II_I rfl) rfl (by decide) (fun T172 v172 Ll172 X172 hQ172 => ?_)
         obtain ⟨cn_172, kn_172, vsn_172, rfl, N172q, K172, P172_0, P172_1, P172_2, P172_3, P172_4, P172_5, P172_6, P172_7, P172_8, P172_9, P172_10⟩ := hQ172
         have N172 := Fr.app N163 N172q
         have Zs187 : n0 ≤ T172.heap.size := Nat.le_trans Zs171 K172.1
         refine own_go (b := (T172.setTop (mkF m 91 #[iv p0, iv p1, iv p2, iv p3, iv p4, iv (0 : Int32), iv (0 : Int32), iv (own_l2 p1), rv b140, rv b149] [(.int (0 : Int32)), (.ref b149)]))) (fun _ k => XS.pop X172.here hx rfl (hb hby at_87) rfl rfl (XS.aload X172.here hx rfl (hb hby at_88) rfl rfl (XS.iconst X172.here hx rfl (hb hby at_90) k))) ?_
         have F189 := F173.keep K172
         refine own_virt (W := 0) X172 hx hZ hown rfl (ow hw 68 rfl) (ow hw 69 rfl) (ow hw 71 rfl) (ow hw 70 rfl) (rmlen4_0 l Z a0 hw [] b149 ksn_163 kkn_163 (0 : Int32) (0 : Int32) (0 : Int32) (own_l2 p1) T172.heap n0 Zs187 P172_3 P172_4) (ow hw 72 rfl) (ow hw 4 rfl) F189 rfl (by rw [hml]; rfl) rfl (hb hby at_91) (lenOf pd__I_I rfl) rfl (by decide) (fun T188 v188 Ll188 X188 hQ188 => ?_)
         obtain ⟨rfl, N188q, eh188⟩ := hQ188
         have N188 := Fr.app N172 N188q
         refine own_go (b := (T188.setTop (mkF m 102 #[iv p0, iv p1, iv p2, iv p3, iv p4, iv (0 : Int32), iv (0 : Int32), iv (own_l2 p1), rv b140, rv b149] [(.int (1 : Int32)), (.ref b149)]))) (fun _ k => XS.iload X188.here hx rfl (hb hby at_94) rfl (XS.icmpNo X188.here hx rfl (hb hby at_96) rfl (teq (Int32.sub_self _)).2 (XS.aload X188.here hx rfl (hb hby at_99) rfl rfl (XS.iconst X188.here hx rfl (hb hby at_101) k)))) ?_
         refine own_virt (W := 0) X188 hx hZ hown eh188 (ow hw 68 rfl) (ow hw 69 rfl) (ow hw 71 rfl) (ow hw 70 rfl) (rmlen4_1 l Z a0 hw [] b149 ksn_163 kkn_163 (0 : Int32) (0 : Int32) (0 : Int32) (own_l2 p1) T172.heap n0 Zs187 P172_3 P172_4) (ow hw 72 rfl) (ow hw 4 rfl) F189 rfl (by rw [hml]; rfl) rfl (hb hby at_102) (lenOf pd__I_I rfl) rfl (by decide) (fun T190 v190 Ll190 X190 hQ190 => ?_)
         obtain ⟨rfl, N190q, eh190⟩ := hQ190
         have N190 := Fr.app N188 N190q
         refine own_go (b := (T190.setTop (mkF m 113 #[iv p0, iv p1, iv p2, iv p3, iv p4, iv (0 : Int32), iv (0 : Int32), iv (own_l2 p1), rv b140, rv b149] [(.int (2 : Int32)), (.ref b149)]))) (fun _ k => XS.iload X190.here hx rfl (hb hby at_105) rfl (XS.icmpNo X190.here hx rfl (hb hby at_107) rfl (teq (Int32.sub_self _)).2 (XS.aload X190.here hx rfl (hb hby at_110) rfl rfl (XS.iconst X190.here hx rfl (hb hby at_112) k)))) ?_
         refine own_virt (W := 0) X190 hx hZ hown eh190 (ow hw 68 rfl) (ow hw 69 rfl) (ow hw 71 rfl) (ow hw 70 rfl) (rmlen4_2 l Z a0 hw [] b149 ksn_163 kkn_163 (0 : Int32) (0 : Int32) (0 : Int32) (own_l2 p1) T172.heap n0 Zs187 P172_3 P172_4) (ow hw 72 rfl) (ow hw 4 rfl) F189 rfl (by rw [hml]; rfl) rfl (hb hby at_113) (lenOf pd__I_I rfl) rfl (by decide) (fun T191 v191 Ll191 X191 hQ191 => ?_)
         obtain ⟨rfl, N191q, eh191⟩ := hQ191
         have N191 := Fr.app N190 N191q
         refine own_go (b := (T191.setTop (mkF m 126 #[iv p0, iv p1, iv p2, iv p3, iv p4, iv (0 : Int32), iv (0 : Int32), iv (own_l2 p1), rv b140, rv b149] [(.int (1 : Int32))]))) (fun _ k => XS.iload X191.here hx rfl (hb hby at_116) rfl (XS.icmpNo X191.here hx rfl (hb hby at_118) rfl (teq (Int32.sub_zero _)).2 (XS.iconst X191.here hx rfl (hb hby at_121) (XS.goto X191.here hx rfl (pc0 := 122) (pc' := 126) rfl (hb hby at_122) (by decide) (by decide) k)))) ?_
         obtain ⟨fs, hr, hrun, hended, hW, hsame⟩ := X191.leave (v := some (.int (1 : Int32))) (fun h => by rw [Bd.returns] at h; cases h)
         exact ⟨_, _, retN X191 hx (t := .boolean) Bd.returns (by simp) (hb hby at_126) hr, hrun, hended, _, _, rfl, (show Qrm0 Z p0 p1 p2 p3 p4 h0 n0 _ T191.heap _ from (by rw [eh191]; exact ⟨rfl, N191⟩)), ⟨_, rfl⟩, hW, hsame.mono (by decide) (by decide)⟩
       · rw [hk]
         have gx193 : n0 ≤ b149 := Nat.le_trans Zs148 (Nat.le_of_eq g149.symm)
         refine own_spec (W := 1) X149 hx hZ hown e149 (ow hw 5 rfl) (ow hw 6 rfl) (rmft1 l Z a0 hw [] b149 .null .null h149 n0 Zs150 A149 F149_keys F149_keyStarts F149_labelStarts F149_size gx193) (ow hw 7 rfl) (ow hw 4 rfl) rfl (by rw [hml]; rfl) rfl (hb hby at_53) (lenOf pd__I_V rfl) rfl rfl (by decide) (fun T192 v192 Ll192 X192 hQ192 => ?_)
         obtain ⟨ib_192, ks_192, kk_192, bl_192, kb_192, rfl, N192q, K192, P192_0, P192_1, P192_2, P192_3, P192_4, P192_5, P192_6, P192_7, P192_8, P192_9, P192_10, P192_11, P192_12, P192_13⟩ := hQ192
         have N192 := Fr.app N147 N192q
         have Zs194 : n0 ≤ T192.heap.size := Nat.le_trans Zs150 K192.1
         refine own_go (b := (T192.setTop (mkF m 64 #[iv p0, iv p1, iv p2, iv p3, iv p4, iv (0 : Int32), iv (0 : Int32), iv (own_l2 p1), rv b140, rv b149] [(.int (0 : Int32)), (.ref b140), (.ref b149)]))) (fun _ k => XS.astore X192.here hx rfl (hb hby at_56) rfl rfl (l' := #[iv p0, iv p1, iv p2, iv p3, iv p4, iv (0 : Int32), iv (0 : Int32), iv (own_l2 p1), rv b140, rv b149]) rfl (XS.aload X192.here hx rfl (hb hby at_58) rfl rfl (XS.aload X192.here hx rfl (hb hby at_60) rfl rfl (XS.iload X192.here hx rfl (hb hby at_62) rfl k)))) ?_
         have F196 := A149.keep K192
         have F197 := V147.ext E149
         have nx198 : b140 ≠ b149 := (own_ne V140.lt (own_tr (own_tr (Keep.of_wr W142).1 (Keep.of_wr W145).1) (Keep.of_wr W147).1) (Nat.le_of_eq g149.symm))
         have F199 := F197.keep K192 (ninS nx198 nin0)
         have gx200 : n0 ≤ ib_192 := Nat.le_trans Zs150 P192_4
         have gx201 : n0 ≤ ks_192 := Nat.le_trans Zs150 P192_5
         have nx202 : ks_192 ≠ b140 := (Ne.symm (own_ne V140.lt (own_tr (own_tr (own_tr (Keep.of_wr W142).1 (Keep.of_wr W145).1) (Keep.of_wr W147).1) E149.1) P192_5))
         refine own_virt (W := 0) X192 hx hZ hown rfl (ow hw 26 rfl) (ow hw 27 rfl) (ow hw 29 rfl) (ow hw 28 rfl) (rmap2_0N0 l Z a0 hw [] b149 b140 kl140 (own_k p2) (own_k p3) (own_k p4) ib_192 ks_192 kk_192 (0 : Int32) (0 : Int32) (0 : Int32) T192.heap n0 Zs194 F196 P192_0 P192_1 P192_2 P192_3 P192_7 P192_8 P192_12 F199 gx193 gx200 gx201 nx202 (own_pos p2) (own_pos p3) (own_pos p4)) (ow hw 30 rfl) (ow hw 4 rfl) F196 rfl (by rw [hml]; rfl) rfl (hb hby at_64) (lenOf pd___II_I rfl) rfl (by decide) (fun T195 v195 Ll195 X195 hQ195 => ?_)
         obtain ⟨rfl, N195q, K195, P195_0, P195_1, P195_2, P195_3, P195_4⟩ := hQ195
         have N195 := Fr.app N192 N195q
         have Zs203 : n0 ≤ T195.heap.size := Nat.le_trans Zs194 K195.1
         refine own_go (b := (T195.setTop (mkF m 74 #[iv p0, iv p1, iv p2, iv p3, iv p4, iv (0 : Int32), iv (0 : Int32), iv (own_l2 p1), rv b140, rv b149] [(.int (0 : Int32)), (.ref b140), (.ref b149)]))) (fun _ k => XS.pop X195.here hx rfl (hb hby at_67) rfl rfl (XS.aload X195.here hx rfl (hb hby at_68) rfl rfl (XS.aload X195.here hx rfl (hb hby at_70) rfl rfl (XS.iload X195.here hx rfl (hb hby at_72) rfl k)))) ?_
         have F205 := F196.keep K195
         have F206 := P192_7.keep K195
         obtain ⟨cn207, An207, -⟩ := id P192_12
         have nx208 : ib_192 ≠ ks_192 := (ne_arr P192_7 (ow hw 12 rfl) An207)
         have nx209 : ib_192 ≠ b149 := (Ne.symm (own_ne A149.lt (Nat.le_refl _) P192_4))
         have F210 := P192_8.keep K195 (ninS nx209 (ninS nx208 nin0))
         have F211 := F199.keep K195 (ninS nx198 (ninS (Ne.symm nx202) nin0))
         refine own_virt (W := 0) X195 hx hZ hown rfl (ow hw 26 rfl) (ow hw 27 rfl) (ow hw 29 rfl) (ow hw 28 rfl) (rmap2_1N0 l Z a0 hw [] b149 b140 kl140 (own_k p2) (own_k p3) (own_k p4) ib_192 ks_192 kk_192 (0 : Int32) (0 : Int32) (0 : Int32) T195.heap n0 Zs203 F205 P195_0 P195_3 P195_1 P195_2 F206 F210 P195_4 F211 gx193 gx200 gx201 nx202 (own_pos p2) (own_pos p3) (own_pos p4)) (ow hw 30 rfl) (ow hw 4 rfl) F205 rfl (by rw [hml]; rfl) rfl (hb hby at_74) (lenOf pd___II_I rfl) rfl (by decide) (fun T204 v204 Ll204 X204 hQ204 => ?_)
         obtain ⟨ksn_204, kkn_204, rfl, N204q, K204, P204_0, P204_1, P204_2, P204_3, P204_4, P204_5⟩ := hQ204
         have N204 := Fr.app N195 N204q
         have Zs212 : n0 ≤ T204.heap.size := Nat.le_trans Zs203 K204.1
         refine own_go (b := (T204.setTop (mkF m 84 #[iv p0, iv p1, iv p2, iv p3, iv p4, iv (0 : Int32), iv (0 : Int32), iv (own_l2 p1), rv b140, rv b149] [(.int (own_l2 p1)), (.ref b140), (.ref b149)]))) (fun _ k => XS.pop X204.here hx rfl (hb hby at_77) rfl rfl (XS.aload X204.here hx rfl (hb hby at_78) rfl rfl (XS.aload X204.here hx rfl (hb hby at_80) rfl rfl (XS.iload X204.here hx rfl (hb hby at_82) rfl k)))) ?_
         have F214 := F205.keep K204
         have F215 := F206.keep K204
         have F216 := F210.keep K204 (ninS nx209 nin0)
         have F217 := P192_9.keep K195 (ninS nx209 (ninS nx208 nin0))
         have F218 := F217.keep K204 (ninS nx209 nin0)
         have F219 := F211.keep K204 (ninS nx198 nin0)
         have gx220 : n0 ≤ ksn_204 := Nat.le_trans Zs203 P204_3
         have nx221 : ksn_204 ≠ b140 := (Ne.symm (own_ne V140.lt (own_tr (own_tr (own_tr (own_tr (own_tr (Keep.of_wr W142).1 (Keep.of_wr W145).1) (Keep.of_wr W147).1) E149.1) K192.1) K195.1) P204_3))
         have gx222 : n0 ≤ bl_192 := Nat.le_trans Zs150 P192_6
         have nx223 : ksn_204 ≠ bl_192 := (Ne.symm (own_ne P192_10.lt K195.1 P204_3))
         have nx224 : b140 ≠ bl_192 := (own_ne V140.lt (own_tr (own_tr (own_tr (Keep.of_wr W142).1 (Keep.of_wr W145).1) (Keep.of_wr W147).1) E149.1) P192_6)
         have nx225 : bl_192 ≠ b149 := (Ne.symm (own_ne A149.lt (Nat.le_refl _) P192_6))
         have F226 := P192_10.keep K195 (ninS nx225 (ninS (Ne.symm P192_13) nin0))
         have F227 := F226.keep K204 (ninS nx225 nin0)
         refine own_virt (W := 0) X204 hx hZ hown rfl (ow hw 26 rfl) (ow hw 27 rfl) (ow hw 29 rfl) (ow hw 28 rfl) (rmap4_2E1 l Z a0 hw [] b149 b140 kl140 (own_k p2) (own_k p3) (own_k p4) (own_l2 p1) ib_192 ksn_204 kkn_204 bl_192 kb_192 (0 : Int32) (0 : Int32) (0 : Int32) (0 : Int32) T204.heap n0 Zs212 F214 P204_0 P204_4 P204_1 P204_2 F215 F216 F218 P204_5 F219 gx193 gx200 gx220 nx221 gx222 nx223 nx224 (own_pos p2) (own_pos p3) (own_pos p4) (own_nz _ hz2).1 (own_nz _ hz2).2 F227 P192_11) (ow hw 30 rfl) (ow hw 4 rfl) F214 rfl (by rw [hml]; rfl) rfl (hb hby at_84) (lenOf pd___II_I rfl) rfl (by decide) (fun T213 v213 Ll213 X213 hQ213 => ?_)
         obtain ⟨cn_213, kn_213, vsn_213, rfl, N213q, K213, P213_0, P213_1, P213_2, P213_3, P213_4, P213_5, P213_6, P213_7, P213_8, P213_9, P213_10⟩ := hQ213
         have N213 := Fr.app N204 N213q
         have Zs228 : n0 ≤ T213.heap.size := Nat.le_trans Zs212 K213.1
         refine own_go (b := (T213.setTop (mkF m 91 #[iv p0, iv p1, iv p2, iv p3, iv p4, iv (0 : Int32), iv (0 : Int32), iv (own_l2 p1), rv b140, rv b149] [(.int (0 : Int32)), (.ref b149)]))) (fun _ k => XS.pop X213.here hx rfl (hb hby at_87) rfl rfl (XS.aload X213.here hx rfl (hb hby at_88) rfl rfl (XS.iconst X213.here hx rfl (hb hby at_90) k))) ?_
         have F230 := F214.keep K213
         refine own_virt (W := 0) X213 hx hZ hown rfl (ow hw 68 rfl) (ow hw 69 rfl) (ow hw 71 rfl) (ow hw 70 rfl) (rmlen4_0 l Z a0 hw [] b149 ksn_204 kkn_204 (0 : Int32) (0 : Int32) (0 : Int32) (own_l2 p1) T213.heap n0 Zs228 P213_3 P213_4) (ow hw 72 rfl) (ow hw 4 rfl) F230 rfl (by rw [hml]; rfl) rfl (hb hby at_91) (lenOf pd__I_I rfl) rfl (by decide) (fun T229 v229 Ll229 X229 hQ229 => ?_)
         obtain ⟨rfl, N229q, eh229⟩ := hQ229
         have N229 := Fr.app N213 N229q
         refine own_go (b := (T229.setTop (mkF m 102 #[iv p0, iv p1, iv p2, iv p3, iv p4, iv (0 : Int32), iv (0 : Int32), iv (own_l2 p1), rv b140, rv b149] [(.int (1 : Int32)), (.ref b149)]))) (fun _ k => XS.iload X229.here hx rfl (hb hby at_94) rfl (XS.icmpNo X229.here hx rfl (hb hby at_96) rfl (teq (Int32.sub_self _)).2 (XS.aload X229.here hx rfl (hb hby at_99) rfl rfl (XS.iconst X229.here hx rfl (hb hby at_101) k)))) ?_
         refine own_virt (W := 0) X229 hx hZ hown eh229 (ow hw 68 rfl) (ow hw 69 rfl) (ow hw 71 rfl) (ow hw 70 rfl) (rmlen4_1 l Z a0 hw [] b149 ksn_204 kkn_204 (0 : Int32) (0 : Int32) (0 : Int32) (own_l2 p1) T213.heap n0 Zs228 P213_3 P213_4) (ow hw 72 rfl) (ow hw 4 rfl) F230 rfl (by rw [hml]; rfl) rfl (hb hby at_102) (lenOf pd__I_I rfl) rfl (by decide) (fun T231 v231 Ll231 X231 hQ231 => ?_)
         obtain ⟨rfl, N231q, eh231⟩ := hQ231
         have N231 := Fr.app N229 N231q
         refine own_go (b := (T231.setTop (mkF m 113 #[iv p0, iv p1, iv p2, iv p3, iv p4, iv (0 : Int32), iv (0 : Int32), iv (own_l2 p1), rv b140, rv b149] [(.int (2 : Int32)), (.ref b149)]))) (fun _ k => XS.iload X231.here hx rfl (hb hby at_105) rfl (XS.icmpNo X231.here hx rfl (hb hby at_107) rfl (teq (Int32.sub_self _)).2 (XS.aload X231.here hx rfl (hb hby at_110) rfl rfl (XS.iconst X231.here hx rfl (hb hby at_112) k)))) ?_
         refine own_virt (W := 0) X231 hx hZ hown eh231 (ow hw 68 rfl) (ow hw 69 rfl) (ow hw 71 rfl) (ow hw 70 rfl) (rmlen4_2 l Z a0 hw [] b149 ksn_204 kkn_204 (0 : Int32) (0 : Int32) (0 : Int32) (own_l2 p1) T213.heap n0 Zs228 P213_3 P213_4) (ow hw 72 rfl) (ow hw 4 rfl) F230 rfl (by rw [hml]; rfl) rfl (hb hby at_113) (lenOf pd__I_I rfl) rfl (by decide) (fun T232 v232 Ll232 X232 hQ232 => ?_)
         obtain ⟨rfl, N232q, eh232⟩ := hQ232
         have N232 := Fr.app N231 N232q
         refine own_go (b := (T232.setTop (mkF m 126 #[iv p0, iv p1, iv p2, iv p3, iv p4, iv (0 : Int32), iv (0 : Int32), iv (own_l2 p1), rv b140, rv b149] [(.int (1 : Int32))]))) (fun _ k => XS.iload X232.here hx rfl (hb hby at_116) rfl (XS.icmpNo X232.here hx rfl (hb hby at_118) rfl (teq (Int32.sub_zero _)).2 (XS.iconst X232.here hx rfl (hb hby at_121) (XS.goto X232.here hx rfl (pc0 := 122) (pc' := 126) rfl (hb hby at_122) (by decide) (by decide) k)))) ?_
         obtain ⟨fs, hr, hrun, hended, hW, hsame⟩ := X232.leave (v := some (.int (1 : Int32))) (fun h => by rw [Bd.returns] at h; cases h)
         exact ⟨_, _, retN X232 hx (t := .boolean) Bd.returns (by simp) (hb hby at_126) hr, hrun, hended, _, _, rfl, (show Qrm0 Z p0 p1 p2 p3 p4 h0 n0 _ T232.heap _ from (by rw [eh232]; exact ⟨rfl, N232⟩)), ⟨_, rfl⟩, hW, hsame.mono (by decide) (by decide)⟩
       · rw [hk]
         have gx234 : n0 ≤ b149 := Nat.le_trans Zs148 (Nat.le_of_eq g149.symm)
         refine own_spec (W := 1) X149 hx hZ hown e149 (ow hw 5 rfl) (ow hw 6 rfl) (rmft2 l Z a0 hw [] b149 .null .null h149 n0 Zs150 A149 F149_keys F149_keyStarts F149_labelStarts F149_size gx234) (ow hw 7 rfl) (ow hw 4 rfl) rfl (by rw [hml]; rfl) rfl (hb hby at_53) (lenOf pd__I_V rfl) rfl rfl (by decide) (fun T233 v233 Ll233 X233 hQ233 => ?_)
         obtain ⟨ib_233, ks_233, kk_233, bl_233, kb_233, rfl, N233q, K233, P233_0, P233_1, P233_2, P233_3, P233_4, P233_5, P233_6, P233_7, P233_8, P233_9, P233_10, P233_11, P233_12, P233_13⟩ := hQ233
         have N233 := Fr.app N147 N233q
         have Zs235 : n0 ≤ T233.heap.size := Nat.le_trans Zs150 K233.1
         refine own_go (b := (T233.setTop (mkF m 64 #[iv p0, iv p1, iv p2, iv p3, iv p4, iv (0 : Int32), iv (0 : Int32), iv (own_l2 p1), rv b140, rv b149] [(.int (0 : Int32)), (.ref b140), (.ref b149)]))) (fun _ k => XS.astore X233.here hx rfl (hb hby at_56) rfl rfl (l' := #[iv p0, iv p1, iv p2, iv p3, iv p4, iv (0 : Int32), iv (0 : Int32), iv (own_l2 p1), rv b140, rv b149]) rfl (XS.aload X233.here hx rfl (hb hby at_58) rfl rfl (XS.aload X233.here hx rfl (hb hby at_60) rfl rfl (XS.iload X233.here hx rfl (hb hby at_62) rfl k)))) ?_
         have F237 := A149.keep K233
         have F238 := V147.ext E149
         have nx239 : b140 ≠ b149 := (own_ne V140.lt (own_tr (own_tr (Keep.of_wr W142).1 (Keep.of_wr W145).1) (Keep.of_wr W147).1) (Nat.le_of_eq g149.symm))
         have F240 := F238.keep K233 (ninS nx239 nin0)
         have gx241 : n0 ≤ ib_233 := Nat.le_trans Zs150 P233_4
         have gx242 : n0 ≤ ks_233 := Nat.le_trans Zs150 P233_5
         have nx243 : ks_233 ≠ b140 := (Ne.symm (own_ne V140.lt (own_tr (own_tr (own_tr (Keep.of_wr W142).1 (Keep.of_wr W145).1) (Keep.of_wr W147).1) E149.1) P233_5))
         refine own_virt (W := 0) X233 hx hZ hown rfl (ow hw 26 rfl) (ow hw 27 rfl) (ow hw 29 rfl) (ow hw 28 rfl) (rmap3_0N0 l Z a0 hw [] b149 b140 kl140 (own_k p2) (own_k p3) (own_k p4) ib_233 ks_233 kk_233 (0 : Int32) (0 : Int32) (0 : Int32) (0 : Int32) T233.heap n0 Zs235 F237 P233_0 P233_1 P233_2 P233_3 P233_7 P233_8 P233_12 F240 gx234 gx241 gx242 nx243 (own_pos p2) (own_pos p3) (own_pos p4)) (ow hw 30 rfl) (ow hw 4 rfl) F237 rfl (by rw [hml]; rfl) rfl (hb hby at_64) (lenOf pd___II_I rfl) rfl (by decide) (fun T236 v236 Ll236 X236 hQ236 => ?_)
         obtain ⟨rfl, N236q, K236, P236_0, P236_1, P236_2, P236_3, P236_4⟩ := hQ236
         have N236 := Fr.app N233 N236q
         have Zs244 : n0 ≤ T236.heap.size := Nat.le_trans Zs235 K236.1
         refine own_go (b := (T236.setTop (mkF m 74 #[iv p0, iv p1, iv p2, iv p3, iv p4, iv (0 : Int32), iv (0 : Int32), iv (own_l2 p1), rv b140, rv b149] [(.int (0 : Int32)), (.ref b140), (.ref b149)]))) (fun _ k => XS.pop X236.here hx rfl (hb hby at_67) rfl rfl (XS.aload X236.here hx rfl (hb hby at_68) rfl rfl (XS.aload X236.here hx rfl (hb hby at_70) rfl rfl (XS.iload X236.here hx rfl (hb hby at_72) rfl k)))) ?_
         have F246 := F237.keep K236
         have F247 := P233_7.keep K236
         obtain ⟨cn248, An248, -⟩ := id P233_12
         have nx249 : ib_233 ≠ ks_233 := (ne_arr P233_7 (ow hw 12 rfl) An248)
         have nx250 : ib_233 ≠ b149 := (Ne.symm (own_ne A149.lt (Nat.le_refl _) P233_4))
         have F251 := P233_8.keep K236 (ninS nx250 (ninS nx249 nin0))
         have F252 := F240.keep K236 (ninS nx239 (ninS (Ne.symm nx243) nin0))
         refine own_virt (W := 0) X236 hx hZ hown rfl (ow hw 26 rfl) (ow hw 27 rfl) (ow hw 29 rfl) (ow hw 28 rfl) (rmap3_1N0 l Z a0 hw [] b149 b140 kl140 (own_k p2) (own_k p3) (own_k p4) ib_233 ks_233 kk_233 (0 : Int32) (0 : Int32) (0 : Int32) (0 : Int32) T236.heap n0 Zs244 F246 P236_0 P236_3 P236_1 P236_2 F247 F251 P236_4 F252 gx234 gx241 gx242 nx243 (own_pos p2) (own_pos p3) (own_pos p4)) (ow hw 30 rfl) (ow hw 4 rfl) F246 rfl (by rw [hml]; rfl) rfl (hb hby at_74) (lenOf pd___II_I rfl) rfl (by decide) (fun T245 v245 Ll245 X245 hQ245 => ?_)
         obtain ⟨rfl, N245q, K245, P245_0, P245_1, P245_2, P245_3, P245_4⟩ := hQ245
         have N245 := Fr.app N236 N245q
         have Zs253 : n0 ≤ T245.heap.size := Nat.le_trans Zs244 K245.1
         refine own_go (b := (T245.setTop (mkF m 84 #[iv p0, iv p1, iv p2, iv p3, iv p4, iv (0 : Int32), iv (0 : Int32), iv (own_l2 p1), rv b140, rv b149] [(.int (own_l2 p1)), (.ref b140), (.ref b149)]))) (fun _ k => XS.pop X245.here hx rfl (hb hby at_77) rfl rfl (XS.aload X245.here hx rfl (hb hby at_78) rfl rfl (XS.aload X245.here hx rfl (hb hby at_80) rfl rfl (XS.iload X245.here hx rfl (hb hby at_82) rfl k)))) ?_
         have F255 := F246.keep K245
         have F256 := F247.keep K245
         have F257 := F251.keep K245 (ninS nx250 (ninS nx249 nin0))
         have F258 := P233_9.keep K236 (ninS nx250 (ninS nx249 nin0))
         have F259 := F258.keep K245 (ninS nx250 (ninS nx249 nin0))
         have F260 := F252.keep K245 (ninS nx239 (ninS (Ne.symm nx243) nin0))
         have gx261 : n0 ≤ bl_233 := Nat.le_trans Zs150 P233_6
         have nx262 : b140 ≠ bl_233 := (own_ne V140.lt (own_tr (own_tr (own_tr (Keep.of_wr W142).1 (Keep.of_wr W145).1) (Keep.of_wr W147).1) E149.1) P233_6)
         have nx263 : bl_233 ≠ b149 := (Ne.symm (own_ne A149.lt (Nat.le_refl _) P233_6))
         have F264 := P233_10.keep K236 (ninS nx263 (ninS (Ne.symm P233_13) nin0))
         have F265 := F264.keep K245 (ninS nx263 (ninS (Ne.symm P233_13) nin0))
         refine own_virt (W := 0) X245 hx hZ hown rfl (ow hw 26 rfl) (ow hw 27 rfl) (ow hw 29 rfl) (ow hw 28 rfl) (rmap3_2E1 l Z a0 hw [] b149 b140 kl140 (own_k p2) (own_k p3) (own_k p4) (own_l2 p1) ib_233 ks_233 kk_233 bl_233 kb_233 (0 : Int32) (0 : Int32) (0 : Int32) T245.heap n0 Zs253 F255 P245_0 P245_3 P245_1 P245_2 F256 F257 F259 P245_4 F260 gx234 gx241 gx242 nx243 gx261 P233_13 nx262 (own_pos p2) (own_pos p3) (own_pos p4) (own_nz _ hz2).1 (own_nz _ hz2).2 F265 P233_11) (ow hw 30 rfl) (ow hw 4 rfl) F255 rfl (by rw [hml]; rfl) rfl (hb hby at_84) (lenOf pd___II_I rfl) rfl (by decide) (fun T254 v254 Ll254 X254 hQ254 => ?_)
         obtain ⟨ksn_254, kkn_254, cn_254, kn_254, vsn_254, rfl, N254q, K254, P254_0, P254_1, P254_2, P254_3, P254_4, P254_5, P254_6, P254_7, P254_8, P254_9, P254_10, P254_11, P254_12⟩ := hQ254
         have N254 := Fr.app N245 N254q
         have Zs266 : n0 ≤ T254.heap.size := Nat.le_trans Zs253 K254.1
         refine own_go (b := (T254.setTop (mkF m 91 #[iv p0, iv p1, iv p2, iv p3, iv p4, iv (0 : Int32), iv (0 : Int32), iv (own_l2 p1), rv b140, rv b149] [(.int (0 : Int32)), (.ref b149)]))) (fun _ k => XS.pop X254.here hx rfl (hb hby at_87) rfl rfl (XS.aload X254.here hx rfl (hb hby at_88) rfl rfl (XS.iconst X254.here hx rfl (hb hby at_90) k))) ?_
         have F268 := F255.keep K254
         refine own_virt (W := 0) X254 hx hZ hown rfl (ow hw 68 rfl) (ow hw 69 rfl) (ow hw 71 rfl) (ow hw 70 rfl) (rmlen6_0 l Z a0 hw [] b149 ksn_254 kkn_254 (0 : Int32) (0 : Int32) (0 : Int32) (own_l2 p1) (0 : Int32) (0 : Int32) T254.heap n0 Zs266 P254_4 P254_5) (ow hw 72 rfl) (ow hw 4 rfl) F268 rfl (by rw [hml]; rfl) rfl (hb hby at_91) (lenOf pd__I_I rfl) rfl (by decide) (fun T267 v267 Ll267 X267 hQ267 => ?_)
         obtain ⟨rfl, N267q, eh267⟩ := hQ267
         have N267 := Fr.app N254 N267q
         refine own_go (b := (T267.setTop (mkF m 102 #[iv p0, iv p1, iv p2, iv p3, iv p4, iv (0 : Int32), iv (0 : Int32), iv (own_l2 p1), rv b140, rv b149] [(.int (1 : Int32)), (.ref b149)]))) (fun _ k => XS.iload X267.here hx rfl (hb hby at_94) rfl (XS.icmpNo X267.here hx rfl (hb hby at_96) rfl (teq (Int32.sub_self _)).2 (XS.aload X267.here hx rfl (hb hby at_99) rfl rfl (XS.iconst X267.here hx rfl (hb hby at_101) k)))) ?_
         refine own_virt (W := 0) X267 hx hZ hown eh267 (ow hw 68 rfl) (ow hw 69 rfl) (ow hw 71 rfl) (ow hw 70 rfl) (rmlen6_1 l Z a0 hw [] b149 ksn_254 kkn_254 (0 : Int32) (0 : Int32) (0 : Int32) (own_l2 p1) (0 : Int32) (0 : Int32) T254.heap n0 Zs266 P254_4 P254_5) (ow hw 72 rfl) (ow hw 4 rfl) F268 rfl (by rw [hml]; rfl) rfl (hb hby at_102) (lenOf pd__I_I rfl) rfl (by decide) (fun T269 v269 Ll269 X269 hQ269 => ?_)
         obtain ⟨rfl, N269q, eh269⟩ := hQ269
         have N269 := Fr.app N267 N269q
         refine own_go (b := (T269.setTop (mkF m 113 #[iv p0, iv p1, iv p2, iv p3, iv p4, iv (0 : Int32), iv (0 : Int32), iv (own_l2 p1), rv b140, rv b149] [(.int (2 : Int32)), (.ref b149)]))) (fun _ k => XS.iload X269.here hx rfl (hb hby at_105) rfl (XS.icmpNo X269.here hx rfl (hb hby at_107) rfl (teq (Int32.sub_self _)).2 (XS.aload X269.here hx rfl (hb hby at_110) rfl rfl (XS.iconst X269.here hx rfl (hb hby at_112) k)))) ?_
         refine own_virt (W := 0) X269 hx hZ hown eh269 (ow hw 68 rfl) (ow hw 69 rfl) (ow hw 71 rfl) (ow hw 70 rfl) (rmlen6_2 l Z a0 hw [] b149 ksn_254 kkn_254 (0 : Int32) (0 : Int32) (0 : Int32) (own_l2 p1) (0 : Int32) (0 : Int32) T254.heap n0 Zs266 P254_4 P254_5) (ow hw 72 rfl) (ow hw 4 rfl) F268 rfl (by rw [hml]; rfl) rfl (hb hby at_113) (lenOf pd__I_I rfl) rfl (by decide) (fun T270 v270 Ll270 X270 hQ270 => ?_)
         obtain ⟨rfl, N270q, eh270⟩ := hQ270
         have N270 := Fr.app N269 N270q
         refine own_go (b := (T270.setTop (mkF m 126 #[iv p0, iv p1, iv p2, iv p3, iv p4, iv (0 : Int32), iv (0 : Int32), iv (own_l2 p1), rv b140, rv b149] [(.int (1 : Int32))]))) (fun _ k => XS.iload X270.here hx rfl (hb hby at_116) rfl (XS.icmpNo X270.here hx rfl (hb hby at_118) rfl (teq (Int32.sub_zero _)).2 (XS.iconst X270.here hx rfl (hb hby at_121) (XS.goto X270.here hx rfl (pc0 := 122) (pc' := 126) rfl (hb hby at_122) (by decide) (by decide) k)))) ?_
         obtain ⟨fs, hr, hrun, hended, hW, hsame⟩ := X270.leave (v := some (.int (1 : Int32))) (fun h => by rw [Bd.returns] at h; cases h)
         exact ⟨_, _, retN X270 hx (t := .boolean) Bd.returns (by simp) (hb hby at_126) hr, hrun, hended, _, _, rfl, (show Qrm0 Z p0 p1 p2 p3 p4 h0 n0 _ T270.heap _ from (by rw [eh270]; exact ⟨rfl, N270⟩)), ⟨_, rfl⟩, hW, hsame.mono (by decide) (by decide)⟩
       · rw [hk]
         have gx272 : n0 ≤ b149 := Nat.le_trans Zs148 (Nat.le_of_eq g149.symm)
         refine own_spec (W := 1) X149 hx hZ hown e149 (ow hw 5 rfl) (ow hw 6 rfl) (rmft3 l Z a0 hw [] b149 .null .null h149 n0 Zs150 A149 F149_keys F149_keyStarts F149_labelStarts F149_size gx272) (ow hw 7 rfl) (ow hw 4 rfl) rfl (by rw [hml]; rfl) rfl (hb hby at_53) (lenOf pd__I_V rfl) rfl rfl (by decide) (fun T271 v271 Ll271 X271 hQ271 => ?_)
         obtain ⟨ib_271, ks_271, kk_271, bl_271, kb_271, rfl, N271q, K271, P271_0, P271_1, P271_2, P271_3, P271_4, P271_5, P271_6, P271_7, P271_8, P271_9, P271_10, P271_11, P271_12, P271_13⟩ := hQ271
         have N271 := Fr.app N147 N271q
         have Zs273 : n0 ≤ T271.heap.size := Nat.le_trans Zs150 K271.1
         refine own_go (b := (T271.setTop (mkF m 64 #[iv p0, iv p1, iv p2, iv p3, iv p4, iv (0 : Int32), iv (0 : Int32), iv (own_l2 p1), rv b140, rv b149] [(.int (0 : Int32)), (.ref b140), (.ref b149)]))) (fun _ k => XS.astore X271.here hx rfl (hb hby at_56) rfl rfl (l' := #[iv p0, iv p1, iv p2, iv p3, iv p4, iv (0 : Int32), iv (0 : Int32), iv (own_l2 p1), rv b140, rv b149]) rfl (XS.aload X271.here hx rfl (hb hby at_58) rfl rfl (XS.aload X271.here hx rfl (hb hby at_60) rfl rfl (XS.iload X271.here hx rfl (hb hby at_62) rfl k)))) ?_
         have F275 := A149.keep K271
         have F276 := V147.ext E149
         have nx277 : b140 ≠ b149 := (own_ne V140.lt (own_tr (own_tr (Keep.of_wr W142).1 (Keep.of_wr W145).1) (Keep.of_wr W147).1) (Nat.le_of_eq g149.symm))
         have F278 := F276.keep K271 (ninS nx277 nin0)
         have gx279 : n0 ≤ ib_271 := Nat.le_trans Zs150 P271_4
         have gx280 : n0 ≤ ks_271 := Nat.le_trans Zs150 P271_5
         have nx281 : ks_271 ≠ b140 := (Ne.symm (own_ne V140.lt (own_tr (own_tr (own_tr (Keep.of_wr W142).1 (Keep.of_wr W145).1) (Keep.of_wr W147).1) E149.1) P271_5))
         refine own_virt (W := 0) X271 hx hZ hown rfl (ow hw 26 rfl) (ow hw 27 rfl) (ow hw 29 rfl) (ow hw 28 rfl) (rmap4_0N0 l Z a0 hw [] b149 b140 kl140 (own_k p2) (own_k p3) (own_k p4) ib_271 ks_271 kk_271 (0 : Int32) (0 : Int32) (0 : Int32) (0 : Int32) (0 : Int32) T271.heap n0 Zs273 F275 P271_0 P271_1 P271_2 P271_3 P271_7 P271_8 P271_12 F278 gx272 gx279 gx280 nx281 (own_pos p2) (own_pos p3) (own_pos p4)) (ow hw 30 rfl) (ow hw 4 rfl) F275 rfl (by rw [hml]; rfl) rfl (hb hby at_64) (lenOf pd___II_I rfl) rfl (by decide) (fun T274 v274 Ll274 X274 hQ274 => ?_)
         obtain ⟨rfl, N274q, K274, P274_0, P274_1, P274_2, P274_3, P274_4⟩ := hQ274
         have N274 := Fr.app N271 N274q
         have Zs282 : n0 ≤ T274.heap.size := Nat.le_trans Zs273 K274.1
         refine own_go (b := (T274.setTop (mkF m 74 #[iv p0, iv p1, iv p2, iv p3, iv p4, iv (0 : Int32), iv (0 : Int32), iv (own_l2 p1), rv b140, rv b149] [(.int (0 : Int32)), (.ref b140), (.ref b149)]))) (fun _ k => XS.pop X274.here hx rfl (hb hby at_67) rfl rfl (XS.aload X274.here hx rfl (hb hby at_68) rfl rfl (XS.aload X274.here hx rfl (hb hby at_70) rfl rfl (XS.iload X274.here hx rfl (hb hby at_72) rfl k)))) ?_
         have F284 := F275.keep K274
         have F285 := P271_7.keep K274
         obtain ⟨cn286, An286, -⟩ := id P271_12
         have nx287 : ib_271 ≠ ks_271 := (ne_arr P271_7 (ow hw 12 rfl) An286)
         have nx288 : ib_271 ≠ b149 := (Ne.symm (own_ne A149.lt (Nat.le_refl _) P271_4))
         have F289 := P271_8.keep K274 (ninS nx288 (ninS nx287 nin0))
         have F290 := F278.keep K274 (ninS nx277 (ninS (Ne.symm nx281) nin0))
         refine own_virt (W := 0) X274 hx hZ hown rfl (ow hw 26 rfl) (ow hw 27 rfl) (ow hw 29 rfl) (ow hw 28 rfl) (rmap4_1N0 l Z a0 hw [] b149 b140 kl140 (own_k p2) (own_k p3) (own_k p4) ib_271 ks_271 kk_271 (0 : Int32) (0 : Int32) (0 : Int32) (0 : Int32) (0 : Int32) T274.heap n0 Zs282 F284 P274_0 P274_3 P274_1 P274_2 F285 F289 P274_4 F290 gx272 gx279 gx280 nx281 (own_pos p2) (own_pos p3) (own_pos p4)) (ow hw 30 rfl) (ow hw 4 rfl) F284 rfl (by rw [hml]; rfl) rfl (hb hby at_74) (lenOf pd___II_I rfl) rfl (by decide) (fun T283 v283 Ll283 X283 hQ283 => ?_)
         obtain ⟨rfl, N283q, K283, P283_0, P283_1, P283_2, P283_3, P283_4⟩ := hQ283
         have N283 := Fr.app N274 N283q
         have Zs291 : n0 ≤ T283.heap.size := Nat.le_trans Zs282 K283.1
         refine own_go (b := (T283.setTop (mkF m 84 #[iv p0, iv p1, iv p2, iv p3, iv p4, iv (0 : Int32), iv (0 : Int32), iv (own_l2 p1), rv b140, rv b149] [(.int (own_l2 p1)), (.ref b140), (.ref b149)]))) (fun _ k => XS.pop X283.here hx rfl (hb hby at_77) rfl rfl (XS.aload X283.here hx rfl (hb hby at_78) rfl rfl (XS.aload X283.here hx rfl (hb hby at_80) rfl rfl (XS.iload X283.here hx rfl (hb hby at_82) rfl k)))) ?_
         have F293 := F284.keep K283
         have F294 := F285.keep K283
         have F295 := F289.keep K283 (ninS nx288 (ninS nx287 nin0))
         have F296 := P271_9.keep K274 (ninS nx288 (ninS nx287 nin0))
         have F297 := F296.keep K283 (ninS nx288 (ninS nx287 nin0))
         have F298 := F290.keep K283 (ninS nx277 (ninS (Ne.symm nx281) nin0))
         have gx299 : n0 ≤ bl_271 := Nat.le_trans Zs150 P271_6
         have nx300 : b140 ≠ bl_271 := (own_ne V140.lt (own_tr (own_tr (own_tr (Keep.of_wr W142).1 (Keep.of_wr W145).1) (Keep.of_wr W147).1) E149.1) P271_6)
         have nx301 : bl_271 ≠ b149 := (Ne.symm (own_ne A149.lt (Nat.le_refl _) P271_6))
         have F302 := P271_10.keep K274 (ninS nx301 (ninS (Ne.symm P271_13) nin0))
         have F303 := F302.keep K283 (ninS nx301 (ninS (Ne.symm P271_13) nin0))
         refine own_virt (W := 0) X283 hx hZ hown rfl (ow hw 26 rfl) (ow hw 27 rfl) (ow hw 29 rfl) (ow hw 28 rfl) (rmap4_2E1 l Z a0 hw [] b149 b140 kl140 (own_k p2) (own_k p3) (own_k p4) (own_l2 p1) ib_271 ks_271 kk_271 bl_271 kb_271 (0 : Int32) (0 : Int32) (0 : Int32) (0 : Int32) T283.heap n0 Zs291 F293 P283_0 P283_3 P283_1 P283_2 F294 F295 F297 P283_4 F298 gx272 gx279 gx280 nx281 gx299 P271_13 nx300 (own_pos p2) (own_pos p3) (own_pos p4) (own_nz _ hz2).1 (own_nz _ hz2).2 F303 P271_11) (ow hw 30 rfl) (ow hw 4 rfl) F293 rfl (by rw [hml]; rfl) rfl (hb hby at_84) (lenOf pd___II_I rfl) rfl (by decide) (fun T292 v292 Ll292 X292 hQ292 => ?_)
         obtain ⟨cn_292, kn_292, vsn_292, rfl, N292q, K292, P292_0, P292_1, P292_2, P292_3, P292_4, P292_5, P292_6, P292_7, P292_8, P292_9, P292_10⟩ := hQ292
         have N292 := Fr.app N283 N292q
         have Zs304 : n0 ≤ T292.heap.size := Nat.le_trans Zs291 K292.1
         refine own_go (b := (T292.setTop (mkF m 91 #[iv p0, iv p1, iv p2, iv p3, iv p4, iv (0 : Int32), iv (0 : Int32), iv (own_l2 p1), rv b140, rv b149] [(.int (0 : Int32)), (.ref b149)]))) (fun _ k => XS.pop X292.here hx rfl (hb hby at_87) rfl rfl (XS.aload X292.here hx rfl (hb hby at_88) rfl rfl (XS.iconst X292.here hx rfl (hb hby at_90) k))) ?_
         have F306 := F293.keep K292
         refine own_virt (W := 0) X292 hx hZ hown rfl (ow hw 68 rfl) (ow hw 69 rfl) (ow hw 71 rfl) (ow hw 70 rfl) (rmlen4_0 l Z a0 hw [] b149 ks_271 kk_271 (0 : Int32) (0 : Int32) (0 : Int32) (own_l2 p1) T292.heap n0 Zs304 P292_3 P292_4) (ow hw 72 rfl) (ow hw 4 rfl) F306 rfl (by rw [hml]; rfl) rfl (hb hby at_91) (lenOf pd__I_I rfl) rfl (by decide) (fun T305 v305 Ll305 X305 hQ305 => ?_)
         obtain ⟨rfl, N305q, eh305⟩ := hQ305
         have N305 := Fr.app N292 N305q
         refine own_go (b := (T305.setTop (mkF m 102 #[iv p0, iv p1, iv p2, iv p3, iv p4, iv (0 : Int32), iv (0 : Int32), iv (own_l2 p1), rv b140, rv b149] [(.int (1 : Int32)), (.ref b149)]))) (fun _ k => XS.iload X305.here hx rfl (hb hby at_94) rfl (XS.icmpNo X305.here hx rfl (hb hby at_96) rfl (teq (Int32.sub_self _)).2 (XS.aload X305.here hx rfl (hb hby at_99) rfl rfl (XS.iconst X305.here hx rfl (hb hby at_101) k)))) ?_
         refine own_virt (W := 0) X305 hx hZ hown eh305 (ow hw 68 rfl) (ow hw 69 rfl) (ow hw 71 rfl) (ow hw 70 rfl) (rmlen4_1 l Z a0 hw [] b149 ks_271 kk_271 (0 : Int32) (0 : Int32) (0 : Int32) (own_l2 p1) T292.heap n0 Zs304 P292_3 P292_4) (ow hw 72 rfl) (ow hw 4 rfl) F306 rfl (by rw [hml]; rfl) rfl (hb hby at_102) (lenOf pd__I_I rfl) rfl (by decide) (fun T307 v307 Ll307 X307 hQ307 => ?_)
         obtain ⟨rfl, N307q, eh307⟩ := hQ307
         have N307 := Fr.app N305 N307q
         refine own_go (b := (T307.setTop (mkF m 113 #[iv p0, iv p1, iv p2, iv p3, iv p4, iv (0 : Int32), iv (0 : Int32), iv (own_l2 p1), rv b140, rv b149] [(.int (2 : Int32)), (.ref b149)]))) (fun _ k => XS.iload X307.here hx rfl (hb hby at_105) rfl (XS.icmpNo X307.here hx rfl (hb hby at_107) rfl (teq (Int32.sub_self _)).2 (XS.aload X307.here hx rfl (hb hby at_110) rfl rfl (XS.iconst X307.here hx rfl (hb hby at_112) k)))) ?_
         refine own_virt (W := 0) X307 hx hZ hown eh307 (ow hw 68 rfl) (ow hw 69 rfl) (ow hw 71 rfl) (ow hw 70 rfl) (rmlen4_2 l Z a0 hw [] b149 ks_271 kk_271 (0 : Int32) (0 : Int32) (0 : Int32) (own_l2 p1) T292.heap n0 Zs304 P292_3 P292_4) (ow hw 72 rfl) (ow hw 4 rfl) F306 rfl (by rw [hml]; rfl) rfl (hb hby at_113) (lenOf pd__I_I rfl) rfl (by decide) (fun T308 v308 Ll308 X308 hQ308 => ?_)
         obtain ⟨rfl, N308q, eh308⟩ := hQ308
         have N308 := Fr.app N307 N308q
         refine own_go (b := (T308.setTop (mkF m 126 #[iv p0, iv p1, iv p2, iv p3, iv p4, iv (0 : Int32), iv (0 : Int32), iv (own_l2 p1), rv b140, rv b149] [(.int (1 : Int32))]))) (fun _ k => XS.iload X308.here hx rfl (hb hby at_116) rfl (XS.icmpNo X308.here hx rfl (hb hby at_118) rfl (teq (Int32.sub_zero _)).2 (XS.iconst X308.here hx rfl (hb hby at_121) (XS.goto X308.here hx rfl (pc0 := 122) (pc' := 126) rfl (hb hby at_122) (by decide) (by decide) k)))) ?_
         obtain ⟨fs, hr, hrun, hended, hW, hsame⟩ := X308.leave (v := some (.int (1 : Int32))) (fun h => by rw [Bd.returns] at h; cases h)
         exact ⟨_, _, retN X308 hx (t := .boolean) Bd.returns (by simp) (hb hby at_126) hr, hrun, hended, _, _, rfl, (show Qrm0 Z p0 p1 p2 p3 p4 h0 n0 _ T308.heap _ from (by rw [eh308]; exact ⟨rfl, N308⟩)), ⟨_, rfl⟩, hW, hsame.mono (by decide) (by decide)⟩
   · skip
     refine own_go (b := (s₁.setTop (mkF m 17 #[iv p0, iv p1, iv p2, iv p3, iv p4, iv (0 : Int32), iv (own_l1 p1), .unset, .unset, .unset] [(.int (own_l2 p1))]))) (fun _ k => XS.istore X0.here hx rfl (hb hby at_10) rfl (l' := #[iv p0, iv p1, iv p2, iv p3, iv p4, iv (0 : Int32), iv (own_l1 p1), .unset, .unset, .unset]) rfl (XS.iloadN X0.here hx rfl (hb hby at_12) rfl (XS.iconst X0.here hx rfl (hb hby at_13) (XS.iushr X0.here hx rfl (hb hby at_14) rfl (XS.iconst X0.here hx rfl (hb hby at_15) (XS.iand X0.here hx rfl (hb hby at_16) rfl k)))))) ?_
     by_cases hz2 : (own_l2 p1) = (0 : Int32)
     · skip
       rw [hz2]
       refine own_go (b := (s₁.setTop (mkF m 20 #[iv p0, iv p1, iv p2, iv p3, iv p4, iv (0 : Int32), iv (own_l1 p1), iv (0 : Int32), .unset, .unset] [(.int (3 : Int32))]))) (fun _ k => XS.istore X0.here hx rfl (hb hby at_17) rfl (l' := #[iv p0, iv p1, iv p2, iv p3, iv p4, iv (0 : Int32), iv (own_l1 p1), iv (0 : Int32), .unset, .unset]) rfl (XS.iconst X0.here hx rfl (hb hby at_19) k)) ?_
       obtain ⟨T309, h309, kl309, X309, e309, E309, A309, st309⟩ := newP X0 hx hZ (ow hw 0 rfl) e0 (g := (mkF m 20 #[iv p0, iv p1, iv p2, iv p3, iv p4, iv (0 : Int32), iv (own_l1 p1), iv (0 : Int32), .unset, .unset] [(.int (3 : Int32))])) rfl (hb hby at_20) rfl (by decide) (cap := 3) (by decide) (by decide) (by decide) (by decide)
       obtain ⟨b309, g309⟩ : ∃ z, z = h0.size := ⟨_, rfl⟩
       rw [← g309] at A309 st309
       have Zs310 : n0 ≤ h309.size := Nat.le_trans Z0 E309.1
       have V309 : Arv Z h309 b309 kl309 .int (3 : Int32) [(.int (0 : Int32)), (.int (0 : Int32)), (.int (0 : Int32))] (.int (0 : Int32)) := (Arv.new A309 (by decide)).pad (pad_rep [] (.int (0 : Int32)) 3)
       refine own_go (b := (T309.setTop (mkF m 28 #[iv p0, iv p1, iv p2, iv p3, iv p4, iv (0 : Int32), iv (own_l1 p1), iv (0 : Int32), .unset, .unset] [(.int (own_k p2)), (.int (0 : Int32)), (.ref b309), (.ref b309)]))) (fun _ k => st309 _ (XS.dup X309.here hx rfl (hb hby at_22) rfl rfl (XS.iconst X309.here hx rfl (hb hby at_23) (XS.iloadN X309.here hx rfl (hb hby at_24) rfl (X309.ldcInt hx hown (mvT hZ (ow hw 1 rfl)) (g := (mkF m 25 #[iv p0, iv p1, iv p2, iv p3, iv p4, iv (0 : Int32), iv (own_l1 p1), iv (0 : Int32), .unset, .unset] [(.int p2), (.int (0 : Int32)), (.ref b309), (.ref b309)])) rfl (hb hby at_25) _ (XS.iand X309.here hx rfl (hb hby at_27) rfl k)))))) ?_
       obtain ⟨cl311, Ar311, ql311, Sz311, Nn311, Hl311, Gl311⟩ := id V309
       have hin311 : ¬ ((0 : Int32) < 0 ∨ cl311.slots.size ≤ ((0 : Int32)).toNatClampNeg) := inb_of Sz311 ⟨by decide, by decide⟩
       obtain ⟨T311, h311, X311, e311, W311, st311⟩ := stI X309 hx hZ e309 Ar311 (j := (0 : Int32)) hin311 (g := (mkF m 28 #[iv p0, iv p1, iv p2, iv p3, iv p4, iv (0 : Int32), iv (own_l1 p1), iv (0 : Int32), .unset, .unset] [(.int (own_k p2)), (.int (0 : Int32)), (.ref b309), (.ref b309)])) rfl rfl (hb hby at_28)
       have gx312 : n0 ≤ b309 := Nat.le_trans Z0 (Nat.le_of_eq g309.symm)
       have N311 := Fr.snoc X311 N0 gx312
       have Zs313 : n0 ≤ h311.size := Nat.le_trans Zs310 (Keep.of_wr W311).1
       have V311 : Arv Z h311 b309 kl309 .int (3 : Int32) [(.int (own_k p2)), (.int (0 : Int32)), (.int (0 : Int32))] (.int (0 : Int32)) := Arv.set Ar311 ql311 Sz311 Nn311 Hl311 Gl311 rfl W311 0 rfl (Nat.le_of_ble_eq_true rfl)
       refine own_go (b := (T311.setTop (mkF m 35 #[iv p0, iv p1, iv p2, iv p3, iv p4, iv (0 : Int32), iv (own_l1 p1), iv (0 : Int32), .unset, .unset] [(.int (own_k p3)), (.int (1 : Int32)), (.ref b309), (.ref b309)]))) (fun _ k => st311 _ (XS.dup X311.here hx rfl (hb hby at_29) rfl rfl (XS.iconst X311.here hx rfl (hb hby at_30) (XS.iloadN X311.here hx rfl (hb hby at_31) rfl (X311.ldcInt hx hown (mvT hZ (ow hw 1 rfl)) (g := (mkF m 32 #[iv p0, iv p1, iv p2, iv p3, iv p4, iv (0 : Int32), iv (own_l1 p1), iv (0 : Int32), .unset, .unset] [(.int p3), (.int (1 : Int32)), (.ref b309), (.ref b309)])) rfl (hb hby at_32) _ (XS.iand X311.here hx rfl (hb hby at_34) rfl k)))))) ?_
       obtain ⟨cl314, Ar314, ql314, Sz314, Nn314, Hl314, Gl314⟩ := id V311
       have hin314 : ¬ ((1 : Int32) < 0 ∨ cl314.slots.size ≤ ((1 : Int32)).toNatClampNeg) := inb_of Sz314 ⟨by decide, by decide⟩
       obtain ⟨T314, h314, X314, e314, W314, st314⟩ := stI X311 hx hZ e311 Ar314 (j := (1 : Int32)) hin314 (g := (mkF m 35 #[iv p0, iv p1, iv p2, iv p3, iv p4, iv (0 : Int32), iv (own_l1 p1), iv (0 : Int32), .unset, .unset] [(.int (own_k p3)), (.int (1 : Int32)), (.ref b309), (.ref b309)])) rfl rfl (hb hby at_35)
       have N314 := Fr.snoc X314 N311 gx312
       have Zs315 : n0 ≤ h314.size := Nat.le_trans Zs313 (Keep.of_wr W314).1
       have V314 : Arv Z h314 b309 kl309 .int (3 : Int32) [(.int (own_k p2)), (.int (own_k p3)), (.int (0 : Int32))] (.int (0 : Int32)) := Arv.set Ar314 ql314 Sz314 Nn314 Hl314 Gl314 rfl W314 1 rfl (Nat.le_of_ble_eq_true rfl)
       refine own_go (b := (T314.setTop (mkF m 43 #[iv p0, iv p1, iv p2, iv p3, iv p4, iv (0 : Int32), iv (own_l1 p1), iv (0 : Int32), .unset, .unset] [(.int (own_k p4)), (.int (2 : Int32)), (.ref b309), (.ref b309)]))) (fun _ k => st314 _ (XS.dup X314.here hx rfl (hb hby at_36) rfl rfl (XS.iconst X314.here hx rfl (hb hby at_37) (XS.iload X314.here hx rfl (hb hby at_38) rfl (X314.ldcInt hx hown (mvT hZ (ow hw 1 rfl)) (g := (mkF m 40 #[iv p0, iv p1, iv p2, iv p3, iv p4, iv (0 : Int32), iv (own_l1 p1), iv (0 : Int32), .unset, .unset] [(.int p4), (.int (2 : Int32)), (.ref b309), (.ref b309)])) rfl (hb hby at_40) _ (XS.iand X314.here hx rfl (hb hby at_42) rfl k)))))) ?_
       obtain ⟨cl316, Ar316, ql316, Sz316, Nn316, Hl316, Gl316⟩ := id V314
       have hin316 : ¬ ((2 : Int32) < 0 ∨ cl316.slots.size ≤ ((2 : Int32)).toNatClampNeg) := inb_of Sz316 ⟨by decide, by decide⟩
       obtain ⟨T316, h316, X316, e316, W316, st316⟩ := stI X314 hx hZ e314 Ar316 (j := (2 : Int32)) hin316 (g := (mkF m 43 #[iv p0, iv p1, iv p2, iv p3, iv p4, iv (0 : Int32), iv (own_l1 p1), iv (0 : Int32), .unset, .unset] [(.int (own_k p4)), (.int (2 : Int32)), (.ref b309), (.ref b309)])) rfl rfl (hb hby at_43)
       have N316 := Fr.snoc X316 N314 gx312
       have Zs317 : n0 ≤ h316.size := Nat.le_trans Zs315 (Keep.of_wr W316).1
       have V316 : Arv Z h316 b309 kl309 .int (3 : Int32) [(.int (own_k p2)), (.int (own_k p3)), (.int (own_k p4))] (.int (0 : Int32)) := Arv.set Ar316 ql316 Sz316 Nn316 Hl316 Gl316 rfl W316 2 rfl (Nat.le_of_ble_eq_true rfl)
       refine own_go (b := (T316.setTop (mkF m 46 #[iv p0, iv p1, iv p2, iv p3, iv p4, iv (0 : Int32), iv (own_l1 p1), iv (0 : Int32), rv b309, .unset] []))) (fun _ k => st316 _ (XS.astore X316.here hx rfl (hb hby at_44) rfl rfl (l' := #[iv p0, iv p1, iv p2, iv p3, iv p4, iv (0 : Int32), iv (own_l1 p1), iv (0 : Int32), rv b309, .unset]) rfl k)) ?_
       obtain ⟨T318, h318, X318, e318, E318, A318, D318, -, st318⟩ := newO X316 hx hZ hown (ow hw 2 rfl) (ow hw 3 rfl) (ow hw 4 rfl) e316 (g := (mkF m 46 #[iv p0, iv p1, iv p2, iv p3, iv p4, iv (0 : Int32), iv (own_l1 p1), iv (0 : Int32), rv b309, .unset] [])) rfl (hb hby at_46) (by decide) (by decide)
       obtain ⟨b318, g318⟩ : ∃ z, z = h316.size := ⟨_, rfl⟩
       rw [← g318] at A318 D318 st318
       have Zs319 : n0 ≤ h318.size := Nat.le_trans Zs317 E318.1
       have F318_keys : Fld Z h318 b318 cs0 "keys" "Lcom/example/arcwright/arcwright/parser/IntBlocks;" .null := D318 (Or.inr (ow hw 23 rfl)) (ty := (.object cs1)) (by decide)
       have F318_keyStarts : Fld Z h318 b318 cs0 "keyStarts" "[I" .null := D318 (Or.inl (ow hw 25 rfl)) (ty := (.array .int)) (by decide)
       have F318_labelStarts : Fld Z h318 b318 cs0 "labelStarts" "[I" .null := D318 (Or.inl (ow hw 32 rfl)) (ty := (.array .int)) (by decide)
       have F318_size : Fld Z h318 b318 cs0 "size" "I" (.int (0 : Int32)) := D318 (Or.inl (ow hw 34 rfl)) (ty := .int) (by decide)
       refine own_go (b := (T318.setTop (mkF m 53 #[iv p0, iv p1, iv p2, iv p3, iv p4, iv (0 : Int32), iv (own_l1 p1), iv (0 : Int32), rv b309, .unset] [(.int (p0 &&& (3 : Int32))), (.ref b318), (.ref b318)]))) (fun _ k => st318 _ (XS.dup X318.here hx rfl (hb hby at_49) rfl rfl (XS.iloadN X318.here hx rfl (hb hby at_50) rfl (XS.iconst X318.here hx rfl (hb hby at_51) (XS.iand X318.here hx rfl (hb hby at_52) rfl k))))) ?_
       rcases own_and3 p0 with hk | hk | hk | hk
       · rw [hk]
         have gx321 : n0 ≤ b318 := Nat.le_trans Zs317 (Nat.le_of_eq g318.symm)
         refine own_spec (W := 1) X318 hx hZ hown e318 (ow hw 5 rfl) (ow hw 6 rfl) (rmft0 l Z a0 hw [] b318 .null .null h318 n0 Zs319 A318 F318_keys F318_keyStarts F318_labelStarts F318_size gx321) (ow hw 7 rfl) (ow hw 4 rfl) rfl (by rw [hml]; rfl) rfl (hb hby at_53) (lenOf pd__I_V rfl) rfl rfl (by decide) (fun T320 v320 Ll320 X320 hQ320 => ?_)
         obtain ⟨ib_320, ks_320, kk_320, bl_320, kb_320, rfl, N320q, K320, P320_0, P320_1, P320_2, P320_3, P320_4, P320_5, P320_6, P320_7, P320_8, P320_9, P320_10, P320_11, P320_12, P320_13⟩ := hQ320
         have N320 := Fr.app N316 N320q
         have Zs322 : n0 ≤ T320.heap.size := Nat.le_trans Zs319 K320.1
         refine own_go (b := (T320.setTop (mkF m 64 #[iv p0, iv p1, iv p2, iv p3, iv p4, iv (0 : Int32), iv (own_l1 p1), iv (0 : Int32), rv b309, rv b318] [(.int (0 : Int32)), (.ref b309), (.ref b318)]))) (fun _ k => XS.astore X320.here hx rfl (hb hby at_56) rfl rfl (l' := #[iv p0, iv p1, iv p2, iv p3, iv p4, iv (0 : Int32), iv (own_l1 p1), iv (0 : Int32), rv b309, rv b318]) rfl (XS.aload X320.here hx rfl (hb hby at_58) rfl rfl (XS.aload X320.here hx rfl (hb hby at_60) rfl rfl (XS.iload X320.here hx rfl (hb hby at_62) rfl k)))) ?_
         have F324 := A318.keep K320
         have F325 := V316.ext E318
         have nx326 : b309 ≠ b318 := (own_ne V309.lt (own_tr (own_tr (Keep.of_wr W311).1 (Keep.of_wr W314).1) (Keep.of_wr W316).1) (Nat.le_of_eq g318.symm))
         have F327 := F325.keep K320 (ninS nx326 nin0)
         have gx328 : n0 ≤ ib_320 := Nat.le_trans Zs319 P320_4
         have gx329 : n0 ≤ ks_320 := Nat.le_trans Zs319 P320_5
         have nx330 : ks_320 ≠ b309 := (Ne.symm (own_ne V309.lt (own_tr (own_tr (own_tr (Keep.of_wr W311).1 (Keep.of_wr W314).1) (Keep.of_wr W316).1) E318.1) P320_5))
         refine own_virt (W := 0) X320 hx hZ hown rfl (ow hw 26 rfl) (ow hw 27 rfl) (ow hw 29 rfl) (ow hw 28 rfl) (rmap1_0N0 l Z a0 hw [] b318 b309 kl309 (own_k p2) (own_k p3) (own_k p4) ib_320 ks_320 kk_320 (0 : Int32) (0 : Int32) T320.heap n0 Zs322 F324 P320_0 P320_1 P320_2 P320_3 P320_7 P320_8 P320_12 F327 gx321 gx328 gx329 nx330 (own_pos p2) (own_pos p3) (own_pos p4)) (ow hw 30 rfl) (ow hw 4 rfl) F324 rfl (by rw [hml]; rfl) rfl (hb hby at_64) (lenOf pd___II_I rfl) rfl (by decide) (fun T323 v323 Ll323 X323 hQ323 => ?_)
         obtain ⟨ksn_323, kkn_323, rfl, N323q, K323, P323_0, P323_1, P323_2, P323_3, P323_4, P323_5⟩ := hQ323
         have N323 := Fr.app N320 N323q
         have Zs331 : n0 ≤ T323.heap.size := Nat.le_trans Zs322 K323.1
         refine own_go (b := (T323.setTop (mkF m 74 #[iv p0, iv p1, iv p2, iv p3, iv p4, iv (0 : Int32), iv (own_l1 p1), iv (0 : Int32), rv b309, rv b318] [(.int (own_l1 p1)), (.ref b309), (.ref b318)]))) (fun _ k => XS.pop X323.here hx rfl (hb hby at_67) rfl rfl (XS.aload X323.here hx rfl (hb hby at_68) rfl rfl (XS.aload X323.here hx rfl (hb hby at_70) rfl rfl (XS.iload X323.here hx rfl (hb hby at_72) rfl k)))) ?_
         have F333 := F324.keep K323
         have F334 := P320_7.keep K323
         have nx335 : ib_320 ≠ b318 := (Ne.symm (own_ne A318.lt (Nat.le_refl _) P320_4))
         have F336 := P320_8.keep K323 (ninS nx335 nin0)
         have F337 := P320_9.keep K323 (ninS nx335 nin0)
         have F338 := F327.keep K323 (ninS nx326 nin0)
         have gx339 : n0 ≤ ksn_323 := Nat.le_trans Zs322 P323_3
         have nx340 : ksn_323 ≠ b309 := (Ne.symm (own_ne V309.lt (own_tr (own_tr (own_tr (own_tr (Keep.of_wr W311).1 (Keep.of_wr W314).1) (Keep.of_wr W316).1) E318.1) K320.1) P323_3))
         have gx341 : n0 ≤ bl_320 := Nat.le_trans Zs319 P320_6
         have nx342 : ksn_323 ≠ bl_320 := (Ne.symm (own_ne P320_10.lt (Nat.le_refl _) P323_3))
         have nx343 : b309 ≠ bl_320 := (own_ne V309.lt (own_tr (own_tr (own_tr (Keep.of_wr W311).1 (Keep.of_wr W314).1) (Keep.of_wr W316).1) E318.1) P320_6)
         have nx344 : bl_320 ≠ b318 := (Ne.symm (own_ne A318.lt (Nat.le_refl _) P320_6))
         have F345 := P320_10.keep K323 (ninS nx344 nin0)
         refine own_virt (W := 0) X323 hx hZ hown rfl (ow hw 26 rfl) (ow hw 27 rfl) (ow hw 29 rfl) (ow hw 28 rfl) (rmap2_1E1 l Z a0 hw [] b318 b309 kl309 (own_k p2) (own_k p3) (own_k p4) (own_l1 p1) ib_320 ksn_323 kkn_323 bl_320 kb_320 (0 : Int32) (0 : Int32) T323.heap n0 Zs331 F333 P323_0 P323_4 P323_1 P323_2 F334 F336 F337 P323_5 F338 gx321 gx328 gx339 nx340 gx341 nx342 nx343 (own_pos p2) (own_pos p3) (own_pos p4) (own_nz _ hz1).1 (own_nz _ hz1).2 F345 P320_11) (ow hw 30 rfl) (ow hw 4 rfl) F333 rfl (by rw [hml]; rfl) rfl (hb hby at_74) (lenOf pd___II_I rfl) rfl (by decide) (fun T332 v332 Ll332 X332 hQ332 => ?_)
         obtain ⟨ksn_332, kkn_332, cn_332, kn_332, vsn_332, rfl, N332q, K332, P332_0, P332_1, P332_2, P332_3, P332_4, P332_5, P332_6, P332_7, P332_8, P332_9, P332_10, P332_11, P332_12⟩ := hQ332
         have N332 := Fr.app N323 N332q
         have Zs346 : n0 ≤ T332.heap.size := Nat.le_trans Zs331 K332.1
         refine own_go (b := (T332.setTop (mkF m 84 #[iv p0, iv p1, iv p2, iv p3, iv p4, iv (0 : Int32), iv (own_l1 p1), iv (0 : Int32), rv b309, rv b318] [(.int (0 : Int32)), (.ref b309), (.ref b318)]))) (fun _ k => XS.pop X332.here hx rfl (hb hby at_77) rfl rfl (XS.aload X332.here hx rfl (hb hby at_78) rfl rfl (XS.aload X332.here hx rfl (hb hby at_80) rfl rfl (XS.iload X332.here hx rfl (hb hby at_82) rfl k)))) ?_
         have F348 := F333.keep K332
         have F349 := F334.keep K332
         have nx350 : b309 ≠ ib_320 := (own_ne V309.lt (own_tr (own_tr (own_tr (Keep.of_wr W311).1 (Keep.of_wr W314).1) (Keep.of_wr W316).1) E318.1) P320_4)
         have F351 := F338.keep K332 (ninS nx326 (ninS nx350 (ninS nx343 nin0)))
         have gx352 : n0 ≤ ksn_332 := Nat.le_trans Zs331 P332_3
         have nx353 : ksn_332 ≠ b309 := (Ne.symm (own_ne V309.lt (own_tr (own_tr (own_tr (own_tr (own_tr (Keep.of_wr W311).1 (Keep.of_wr W314).1) (Keep.of_wr W316).1) E318.1) K320.1) K323.1) P332_3))
         refine own_virt (W := 0) X332 hx hZ hown rfl (ow hw 26 rfl) (ow hw 27 rfl) (ow hw 29 rfl) (ow hw 28 rfl) (rmap4_2N0 l Z a0 hw [] b318 b309 kl309 (own_k p2) (own_k p3) (own_k p4) ib_320 ksn_332 kkn_332 (own_l1 p1) (0 : Int32) (0 : Int32) (own_l1 p1) (0 : Int32) T332.heap n0 Zs346 F348 P332_0 P332_4 P332_1 P332_2 F349 P332_6 P332_5 F351 gx321 gx328 gx352 nx353 (own_pos p2) (own_pos p3) (own_pos p4)) (ow hw 30 rfl) (ow hw 4 rfl) F348 rfl (by rw [hml]; rfl) rfl (hb hby at_84) (lenOf pd___II_I rfl) rfl (by decide) (fun T347 v347 Ll347 X347 hQ347 => ?_)
         obtain ⟨rfl, N347q, K347, P347_0, P347_1, P347_2, P347_3, P347_4⟩ := hQ347
         have N347 := Fr.app N332 N347q
         have Zs354 : n0 ≤ T347.heap.size := Nat.le_trans Zs346 K347.1
         refine own_go (b := (T347.setTop (mkF m 91 #[iv p0, iv p1, iv p2, iv p3, iv p4, iv (0 : Int32), iv (own_l1 p1), iv (0 : Int32), rv b309, rv b318] [(.int (0 : Int32)), (.ref b318)]))) (fun _ k => XS.pop X347.here hx rfl (hb hby at_87) rfl rfl (XS.aload X347.here hx rfl (hb hby at_88) rfl rfl (XS.iconst X347.here hx rfl (hb hby at_90) k))) ?_
         have F356 := F348.keep K347
         refine own_virt (W := 0) X347 hx hZ hown rfl (ow hw 68 rfl) (ow hw 69 rfl) (ow hw 71 rfl) (ow hw 70 rfl) (rmlen4_0 l Z a0 hw [] b318 ksn_332 kkn_332 (0 : Int32) (0 : Int32) (own_l1 p1) (own_l1 p1) T347.heap n0 Zs354 P347_3 P347_4) (ow hw 72 rfl) (ow hw 4 rfl) F356 rfl (by rw [hml]; rfl) rfl (hb hby at_91) (lenOf pd__I_I rfl) rfl (by decide) (fun T355 v355 Ll355 X355 hQ355 => ?_)
         obtain ⟨rfl, N355q, eh355⟩ := hQ355
         have N355 := Fr.app N347 N355q
         refine own_go (b := (T355.setTop (mkF m 102 #[iv p0, iv p1, iv p2, iv p3, iv p4, iv (0 : Int32), iv (own_l1 p1), iv (0 : Int32), rv b309, rv b318] [(.int (1 : Int32)), (.ref b318)]))) (fun _ k => XS.iload X355.here hx rfl (hb hby at_94) rfl (XS.icmpNo X355.here hx rfl (hb hby at_96) rfl (teq (Int32.sub_self _)).2 (XS.aload X355.here hx rfl (hb hby at_99) rfl rfl (XS.iconst X355.here hx rfl (hb hby at_101) k)))) ?_
         refine own_virt (W := 0) X355 hx hZ hown eh355 (ow hw 68 rfl) (ow hw 69 rfl) (ow hw 71 rfl) (ow hw 70 rfl) (rmlen4_1 l Z a0 hw [] b318 ksn_332 kkn_332 (0 : Int32) (0 : Int32) (own_l1 p1) (own_l1 p1) T347.heap n0 Zs354 P347_3 P347_4) (ow hw 72 rfl) (ow hw 4 rfl) F356 rfl (by rw [hml]; rfl) rfl (hb hby at_102) (lenOf pd__I_I rfl) rfl (by decide) (fun T357 v357 Ll357 X357 hQ357 => ?_)
         obtain ⟨rfl, N357q, eh357⟩ := hQ357
         have N357 := Fr.app N355 N357q
         refine own_go (b := (T357.setTop (mkF m 113 #[iv p0, iv p1, iv p2, iv p3, iv p4, iv (0 : Int32), iv (own_l1 p1), iv (0 : Int32), rv b309, rv b318] [(.int (2 : Int32)), (.ref b318)]))) (fun _ k => XS.iload X357.here hx rfl (hb hby at_105) rfl (XS.icmpNo X357.here hx rfl (hb hby at_107) rfl (teq (Int32.sub_zero _)).2 (XS.aload X357.here hx rfl (hb hby at_110) rfl rfl (XS.iconst X357.here hx rfl (hb hby at_112) k)))) ?_
         refine own_virt (W := 0) X357 hx hZ hown eh357 (ow hw 68 rfl) (ow hw 69 rfl) (ow hw 71 rfl) (ow hw 70 rfl) (rmlen4_2 l Z a0 hw [] b318 ksn_332 kkn_332 (0 : Int32) (0 : Int32) (own_l1 p1) (own_l1 p1) T347.heap n0 Zs354 P347_3 P347_4) (ow hw 72 rfl) (ow hw 4 rfl) F356 rfl (by rw [hml]; rfl) rfl (hb hby at_113) (lenOf pd__I_I rfl) rfl (by decide) (fun T358 v358 Ll358 X358 hQ358 => ?_)
         obtain ⟨rfl, N358q, eh358⟩ := hQ358
         have N358 := Fr.app N357 N358q
         refine own_go (b := (T358.setTop (mkF m 126 #[iv p0, iv p1, iv p2, iv p3, iv p4, iv (0 : Int32), iv (own_l1 p1), iv (0 : Int32), rv b309, rv b318] [(.int (1 : Int32))]))) (fun _ k => XS.iload X358.here hx rfl (hb hby at_116) rfl (XS.icmpNo X358.here hx rfl (hb hby at_118) rfl (teq (Int32.sub_self _)).2 (XS.iconst X358.here hx rfl (hb hby at_121) (XS.goto X358.here hx rfl (pc0 := 122) (pc' := 126) rfl (hb hby at_122) (by decide) (by decide) k)))) ?_
         obtain ⟨fs, hr, hrun, hended, hW, hsame⟩ := X358.leave (v := some (.int (1 : Int32))) (fun h => by rw [Bd.returns] at h; cases h)
         exact ⟨_, _, retN X358 hx (t := .boolean) Bd.returns (by simp) (hb hby at_126) hr, hrun, hended, _, _, rfl, (show Qrm0 Z p0 p1 p2 p3 p4 h0 n0 _ T358.heap _ from (by rw [eh358]; exact ⟨rfl, N358⟩)), ⟨_, rfl⟩, hW, hsame.mono (by decide) (by decide)⟩
       · rw [hk]
         have gx360 : n0 ≤ b318 := Nat.le_trans Zs317 (Nat.le_of_eq g318.symm)
         refine own_spec (W := 1) X318 hx hZ hown e318 (ow hw 5 rfl) (ow hw 6 rfl) (rmft1 l Z a0 hw [] b318 .null .null h318 n0 Zs319 A318 F318_keys F318_keyStarts F318_labelStarts F318_size gx360) (ow hw 7 rfl) (ow hw 4 rfl) rfl (by rw [hml]; rfl) rfl (hb hby at_53) (lenOf pd__I_V rfl) rfl rfl (by decide) (fun T359 v359 Ll359 X359 hQ359 => ?_)
         obtain ⟨ib_359, ks_359, kk_359, bl_359, kb_359, rfl, N359q, K359, P359_0, P359_1, P359_2, P359_3, P359_4, P359_5, P359_6, P359_7, P359_8, P359_9, P359_10, P359_11, P359_12, P359_13⟩ := hQ359
         have N359 := Fr.app N316 N359q
         have Zs361 : n0 ≤ T359.heap.size := Nat.le_trans Zs319 K359.1
         refine own_go (b := (T359.setTop (mkF m 64 #[iv p0, iv p1, iv p2, iv p3, iv p4, iv (0 : Int32), iv (own_l1 p1), iv (0 : Int32), rv b309, rv b318] [(.int (0 : Int32)), (.ref b309), (.ref b318)]))) (fun _ k => XS.astore X359.here hx rfl (hb hby at_56) rfl rfl (l' := #[iv p0, iv p1, iv p2, iv p3, iv p4, iv (0 : Int32), iv (own_l1 p1), iv (0 : Int32), rv b309, rv b318]) rfl (XS.aload X359.here hx rfl (hb hby at_58) rfl rfl (XS.aload X359.here hx rfl (hb hby at_60) rfl rfl (XS.iload X359.here hx rfl (hb hby at_62) rfl k)))) ?_
         have F363 := A318.keep K359
         have F364 := V316.ext E318
         have nx365 : b309 ≠ b318 := (own_ne V309.lt (own_tr (own_tr (Keep.of_wr W311).1 (Keep.of_wr W314).1) (Keep.of_wr W316).1) (Nat.le_of_eq g318.symm))
         have F366 := F364.keep K359 (ninS nx365 nin0)
         have gx367 : n0 ≤ ib_359 := Nat.le_trans Zs319 P359_4
         have gx368 : n0 ≤ ks_359 := Nat.le_trans Zs319 P359_5
         have nx369 : ks_359 ≠ b309 := (Ne.symm (own_ne V309.lt (own_tr (own_tr (own_tr (Keep.of_wr W311).1 (Keep.of_wr W314).1) (Keep.of_wr W316).1) E318.1) P359_5))
         refine own_virt (W := 0) X359 hx hZ hown rfl (ow hw 26 rfl) (ow hw 27 rfl) (ow hw 29 rfl) (ow hw 28 rfl) (rmap2_0N0 l Z a0 hw [] b318 b309 kl309 (own_k p2) (own_k p3) (own_k p4) ib_359 ks_359 kk_359 (0 : Int32) (0 : Int32) (0 : Int32) T359.heap n0 Zs361 F363 P359_0 P359_1 P359_2 P359_3 P359_7 P359_8 P359_12 F366 gx360 gx367 gx368 nx369 (own_pos p2) (own_pos p3) (own_pos p4)) (ow hw 30 rfl) (ow hw 4 rfl) F363 rfl (by rw [hml]; rfl) rfl (hb hby at_64) (lenOf pd___II_I rfl) rfl (by decide) (fun T362 v362 Ll362 X362 hQ362 => ?_)
         obtain ⟨rfl, N362q, K362, P362_0, P362_1, P362_2, P362_3, P362_4⟩ := hQ362
         have N362 := Fr.app N359 N362q
         have Zs370 : n0 ≤ T362.heap.size := Nat.le_trans Zs361 K362.1
         refine own_go (b := (T362.setTop (mkF m 74 #[iv p0, iv p1, iv p2, iv p3, iv p4, iv (0 : Int32), iv (own_l1 p1), iv (0 : Int32), rv b309, rv b318] [(.int (own_l1 p1)), (.ref b309), (.ref b318)]))) (fun _ k => XS.pop X362.here hx rfl (hb hby at_67) rfl rfl (XS.aload X362.here hx rfl (hb hby at_68) rfl rfl (XS.aload X362.here hx rfl (hb hby at_70) rfl rfl (XS.iload X362.here hx rfl (hb hby at_72) rfl k)))) ?_
         have F372 := F363.keep K362
         have F373 := P359_7.keep K362
         obtain ⟨cn374, An374, -⟩ := id P359_12
         have nx375 : ib_359 ≠ ks_359 := (ne_arr P359_7 (ow hw 12 rfl) An374)
         have nx376 : ib_359 ≠ b318 := (Ne.symm (own_ne A318.lt (Nat.le_refl _) P359_4))
         have F377 := P359_8.keep K362 (ninS nx376 (ninS nx375 nin0))
         have F378 := P359_9.keep K362 (ninS nx376 (ninS nx375 nin0))
         have F379 := F366.keep K362 (ninS nx365 (ninS (Ne.symm nx369) nin0))
         have gx380 : n0 ≤ bl_359 := Nat.le_trans Zs319 P359_6
         have nx381 : b309 ≠ bl_359 := (own_ne V309.lt (own_tr (own_tr (own_tr (Keep.of_wr W311).1 (Keep.of_wr W314).1) (Keep.of_wr W316).1) E318.1) P359_6)
         have nx382 : bl_359 ≠ b318 := (Ne.symm (own_ne A318.lt (Nat.le_refl _) P359_6))
         have F383 := P359_10.keep K362 (ninS nx382 (ninS (Ne.symm P359_13) nin0))
         refine own_virt (W := 0) X362 hx hZ hown rfl (ow hw 26 rfl) (ow hw 27 rfl) (ow hw 29 rfl) (ow hw 28 rfl) (rmap2_1E1 l Z a0 hw [] b318 b309 kl309 (own_k p2) (own_k p3) (own_k p4) (own_l1 p1) ib_359 ks_359 kk_359 bl_359 kb_359 (0 : Int32) (0 : Int32) T362.heap n0 Zs370 F372 P362_0 P362_3 P362_1 P362_2 F373 F377 F378 P362_4 F379 gx360 gx367 gx368 nx369 gx380 P359_13 nx381 (own_pos p2) (own_pos p3) (own_pos p4) (own_nz _ hz1).1 (own_nz _ hz1).2 F383 P359_11) (ow hw 30 rfl) (ow hw 4 rfl) F372 rfl (by rw [hml]; rfl) rfl (hb hby at_74) (lenOf pd___II_I rfl) rfl (by decide) (fun T371 v371 Ll371 X371 hQ371 => ?_)
         obtain ⟨ksn_371, kkn_371, cn_371, kn_371, vsn_371, rfl, N371q, K371, P371_0, P371_1, P371_2, P371_3, P371_4, P371_5, P371_6, P371_7, P371_8, P371_9, P371_10, P371_11, P371_12⟩ := hQ371
         have N371 := Fr.app N362 N371q
         have Zs384 : n0 ≤ T371.heap.size := Nat.le_trans Zs370 K371.1
         refine own_go (b := (T371.setTop (mkF m 84 #[iv p0, iv p1, iv p2, iv p3, iv p4, iv (0 : Int32), iv (own_l1 p1), iv (0 : Int32), rv b309, rv b318] [(.int (0 : Int32)), (.ref b309), (.ref b318)]))) (fun _ k => XS.pop X371.here hx rfl (hb hby at_77) rfl rfl (XS.aload X371.here hx rfl (hb hby at_78) rfl rfl (XS.aload X371.here hx rfl (hb hby at_80) rfl rfl (XS.iload X371.here hx rfl (hb hby at_82) rfl k)))) ?_
         have F386 := F372.keep K371
         have F387 := F373.keep K371
         have nx388 : b309 ≠ ib_359 := (own_ne V309.lt (own_tr (own_tr (own_tr (Keep.of_wr W311).1 (Keep.of_wr W314).1) (Keep.of_wr W316).1) E318.1) P359_4)
         have F389 := F379.keep K371 (ninS nx365 (ninS nx388 (ninS nx381 nin0)))
         have gx390 : n0 ≤ ksn_371 := Nat.le_trans Zs370 P371_3
         have nx391 : ksn_371 ≠ b309 := (Ne.symm (own_ne V309.lt (own_tr (own_tr (own_tr (own_tr (own_tr (Keep.of_wr W311).1 (Keep.of_wr W314).1) (Keep.of_wr W316).1) E318.1) K359.1) K362.1) P371_3))
         refine own_virt (W := 0) X371 hx hZ hown rfl (ow hw 26 rfl) (ow hw 27 rfl) (ow hw 29 rfl) (ow hw 28 rfl) (rmap4_2N0 l Z a0 hw [] b318 b309 kl309 (own_k p2) (own_k p3) (own_k p4) ib_359 ksn_371 kkn_371 (own_l1 p1) (0 : Int32) (0 : Int32) (own_l1 p1) (0 : Int32) T371.heap n0 Zs384 F386 P371_0 P371_4 P371_1 P371_2 F387 P371_6 P371_5 F389 gx360 gx367 gx390 nx391 (own_pos p2) (own_pos p3) (own_pos p4)) (ow hw 30 rfl) (ow hw 4 rfl) F386 rfl (by rw [hml]; rfl) rfl (hb hby at_84) (lenOf pd___II_I rfl) rfl (by decide) (fun T385 v385 Ll385 X385 hQ385 => ?_)
         obtain ⟨rfl, N385q, K385, P385_0, P385_1, P385_2, P385_3, P385_4⟩ := hQ385
         have N385 := Fr.app N371 N385q
         have Zs392 : n0 ≤ T385.heap.size := Nat.le_trans Zs384 K385.1
         refine own_go (b := (T385.setTop (mkF m 91 #[iv p0, iv p1, iv p2, iv p3, iv p4, iv (0 : Int32), iv (own_l1 p1), iv (0 : Int32), rv b309, rv b318] [(.int (0 : Int32)), (.ref b318)]))) (fun _ k => XS.pop X385.here hx rfl (hb hby at_87) rfl rfl (XS.aload X385.here hx rfl (hb hby at_88) rfl rfl (XS.iconst X385.here hx rfl (hb hby at_90) k))) ?_
         have F394 := F386.keep K385
         refine own_virt (W := 0) X385 hx hZ hown rfl (ow hw 68 rfl) (ow hw 69 rfl) (ow hw 71 rfl) (ow hw 70 rfl) (rmlen4_0 l Z a0 hw [] b318 ksn_371 kkn_371 (0 : Int32) (0 : Int32) (own_l1 p1) (own_l1 p1) T385.heap n0 Zs392 P385_3 P385_4) (ow hw 72 rfl) (ow hw 4 rfl) F394 rfl (by rw [hml]; rfl) rfl (hb hby at_91) (lenOf pd__I_I rfl) rfl (by decide) (fun T393 v393 Ll393 X393 hQ393 => ?_)
         obtain ⟨rfl, N393q, eh393⟩ := hQ393
         have N393 := Fr.app N385 N393q
         refine own_go (b := (T393.setTop (mkF m 102 #[iv p0, iv p1, iv p2, iv p3, iv p4, iv (0 : Int32), iv (own_l1 p1), iv (0 : Int32), rv b309, rv b318] [(.int (1 : Int32)), (.ref b318)]))) (fun _ k => XS.iload X393.here hx rfl (hb hby at_94) rfl (XS.icmpNo X393.here hx rfl (hb hby at_96) rfl (teq (Int32.sub_self _)).2 (XS.aload X393.here hx rfl (hb hby at_99) rfl rfl (XS.iconst X393.here hx rfl (hb hby at_101) k)))) ?_
         refine own_virt (W := 0) X393 hx hZ hown eh393 (ow hw 68 rfl) (ow hw 69 rfl) (ow hw 71 rfl) (ow hw 70 rfl) (rmlen4_1 l Z a0 hw [] b318 ksn_371 kkn_371 (0 : Int32) (0 : Int32) (own_l1 p1) (own_l1 p1) T385.heap n0 Zs392 P385_3 P385_4) (ow hw 72 rfl) (ow hw 4 rfl) F394 rfl (by rw [hml]; rfl) rfl (hb hby at_102) (lenOf pd__I_I rfl) rfl (by decide) (fun T395 v395 Ll395 X395 hQ395 => ?_)
         obtain ⟨rfl, N395q, eh395⟩ := hQ395
         have N395 := Fr.app N393 N395q
         refine own_go (b := (T395.setTop (mkF m 113 #[iv p0, iv p1, iv p2, iv p3, iv p4, iv (0 : Int32), iv (own_l1 p1), iv (0 : Int32), rv b309, rv b318] [(.int (2 : Int32)), (.ref b318)]))) (fun _ k => XS.iload X395.here hx rfl (hb hby at_105) rfl (XS.icmpNo X395.here hx rfl (hb hby at_107) rfl (teq (Int32.sub_zero _)).2 (XS.aload X395.here hx rfl (hb hby at_110) rfl rfl (XS.iconst X395.here hx rfl (hb hby at_112) k)))) ?_
         refine own_virt (W := 0) X395 hx hZ hown eh395 (ow hw 68 rfl) (ow hw 69 rfl) (ow hw 71 rfl) (ow hw 70 rfl) (rmlen4_2 l Z a0 hw [] b318 ksn_371 kkn_371 (0 : Int32) (0 : Int32) (own_l1 p1) (own_l1 p1) T385.heap n0 Zs392 P385_3 P385_4) (ow hw 72 rfl) (ow hw 4 rfl) F394 rfl (by rw [hml]; rfl) rfl (hb hby at_113) (lenOf pd__I_I rfl) rfl (by decide) (fun T396 v396 Ll396 X396 hQ396 => ?_)
         obtain ⟨rfl, N396q, eh396⟩ := hQ396
         have N396 := Fr.app N395 N396q
         refine own_go (b := (T396.setTop (mkF m 126 #[iv p0, iv p1, iv p2, iv p3, iv p4, iv (0 : Int32), iv (own_l1 p1), iv (0 : Int32), rv b309, rv b318] [(.int (1 : Int32))]))) (fun _ k => XS.iload X396.here hx rfl (hb hby at_116) rfl (XS.icmpNo X396.here hx rfl (hb hby at_118) rfl (teq (Int32.sub_self _)).2 (XS.iconst X396.here hx rfl (hb hby at_121) (XS.goto X396.here hx rfl (pc0 := 122) (pc' := 126) rfl (hb hby at_122) (by decide) (by decide) k)))) ?_
         obtain ⟨fs, hr, hrun, hended, hW, hsame⟩ := X396.leave (v := some (.int (1 : Int32))) (fun h => by rw [Bd.returns] at h; cases h)
         exact ⟨_, _, retN X396 hx (t := .boolean) Bd.returns (by simp) (hb hby at_126) hr, hrun, hended, _, _, rfl, (show Qrm0 Z p0 p1 p2 p3 p4 h0 n0 _ T396.heap _ from (by rw [eh396]; exact ⟨rfl, N396⟩)), ⟨_, rfl⟩, hW, hsame.mono (by decide) (by decide)⟩
       · rw [hk]
         have gx398 : n0 ≤ b318 := Nat.le_trans Zs317 (Nat.le_of_eq g318.symm)
         refine own_spec (W := 1) X318 hx hZ hown e318 (ow hw 5 rfl) (ow hw 6 rfl) (rmft2 l Z a0 hw [] b318 .null .null h318 n0 Zs319 A318 F318_keys F318_keyStarts F318_labelStarts F318_size gx398) (ow hw 7 rfl) (ow hw 4 rfl) rfl (by rw [hml]; rfl) rfl (hb hby at_53) (lenOf pd__I_V rfl) rfl rfl (by decide) (fun T397 v397 Ll397 X397 hQ397 => ?_)
         obtain ⟨ib_397, ks_397, kk_397, bl_397, kb_397, rfl, N397q, K397, P397_0, P397_1, P397_2, P397_3, P397_4, P397_5, P397_6, P397_7, P397_8, P397_9, P397_10, P397_11, P397_12, P397_13⟩ := hQ397
         have N397 := Fr.app N316 N397q
         have Zs399 : n0 ≤ T397.heap.size := Nat.le_trans Zs319 K397.1
         refine own_go (b := (T397.setTop (mkF m 64 #[iv p0, iv p1, iv p2, iv p3, iv p4, iv (0 : Int32), iv (own_l1 p1), iv (0 : Int32), rv b309, rv b318] [(.int (0 : Int32)), (.ref b309), (.ref b318)]))) (fun _ k => XS.astore X397.here hx rfl (hb hby at_56) rfl rfl (l' := #[iv p0, iv p1, iv p2, iv p3, iv p4, iv (0 : Int32), iv (own_l1 p1), iv (0 : Int32), rv b309, rv b318]) rfl (XS.aload X397.here hx rfl (hb hby at_58) rfl rfl (XS.aload X397.here hx rfl (hb hby at_60) rfl rfl (XS.iload X397.here hx rfl (hb hby at_62) rfl k)))) ?_
         have F401 := A318.keep K397
         have F402 := V316.ext E318
         have nx403 : b309 ≠ b318 := (own_ne V309.lt (own_tr (own_tr (Keep.of_wr W311).1 (Keep.of_wr W314).1) (Keep.of_wr W316).1) (Nat.le_of_eq g318.symm))
         have F404 := F402.keep K397 (ninS nx403 nin0)
         have gx405 : n0 ≤ ib_397 := Nat.le_trans Zs319 P397_4
         have gx406 : n0 ≤ ks_397 := Nat.le_trans Zs319 P397_5
         have nx407 : ks_397 ≠ b309 := (Ne.symm (own_ne V309.lt (own_tr (own_tr (own_tr (Keep.of_wr W311).1 (Keep.of_wr W314).1) (Keep.of_wr W316).1) E318.1) P397_5))
         refine own_virt (W := 0) X397 hx hZ hown rfl (ow hw 26 rfl) (ow hw 27 rfl) (ow hw 29 rfl) (ow hw 28 rfl) (rmap3_0N0 l Z a0 hw [] b318 b309 kl309 (own_k p2) (own_k p3) (own_k p4) ib_397 ks_397 kk_397 (0 : Int32) (0 : Int32) (0 : Int32) (0 : Int32) T397.heap n0 Zs399 F401 P397_0 P397_1 P397_2 P397_3 P397_7 P397_8 P397_12 F404 gx398 gx405 gx406 nx407 (own_pos p2) (own_pos p3) (own_pos p4)) (ow hw 30 rfl) (ow hw 4 rfl) F401 rfl (by rw [hml]; rfl) rfl (hb hby at_64) (lenOf pd___II_I rfl) rfl (by decide) (fun T400 v400 Ll400 X400 hQ400 => ?_)
         obtain ⟨rfl, N400q, K400, P400_0, P400_1, P400_2, P400_3, P400_4⟩ := hQ400
         have N400 := Fr.app N397 N400q
         have Zs408 : n0 ≤ T400.heap.size := Nat.le_trans Zs399 K400.1
         refine own_go (b := (T400.setTop (mkF m 74 #[iv p0, iv p1, iv p2, iv p3, iv p4, iv (0 : Int32), iv (own_l1 p1), iv (0 : Int32), rv b309, rv b318] [(.int (own_l1 p1)), (.ref b309), (.ref b318)]))) (fun _ k => XS.pop X400.here hx rfl (hb hby at_67) rfl rfl (XS.aload X400.here hx rfl (hb hby at_68) rfl rfl (XS.aload X400.here hx rfl (hb hby at_70) rfl rfl (XS.iload X400.here hx rfl (hb hby at_72) rfl k)))) ?_
         have F410 := F401.keep K400
         have F411 := P397_7.keep K400
         obtain ⟨cn412, An412, -⟩ := id P397_12
         have nx413 : ib_397 ≠ ks_397 := (ne_arr P397_7 (ow hw 12 rfl) An412)
         have nx414 : ib_397 ≠ b318 := (Ne.symm (own_ne A318.lt (Nat.le_refl _) P397_4))
         have F415 := P397_8.keep K400 (ninS nx414 (ninS nx413 nin0))
         have F416 := P397_9.keep K400 (ninS nx414 (ninS nx413 nin0))
         have F417 := F404.keep K400 (ninS nx403 (ninS (Ne.symm nx407) nin0))
         have gx418 : n0 ≤ bl_397 := Nat.le_trans Zs319 P397_6
         have nx419 : b309 ≠ bl_397 := (own_ne V309.lt (own_tr (own_tr (own_tr (Keep.of_wr W311).1 (Keep.of_wr W314).1) (Keep.of_wr W316).1) E318.1) P397_6)
         have nx420 : bl_397 ≠ b318 := (Ne.symm (own_ne A318.lt (Nat.le_refl _) P397_6))
         have F421 := P397_10.keep K400 (ninS nx420 (ninS (Ne.symm P397_13) nin0))
         refine own_virt (W := 0) X400 hx hZ hown rfl (ow hw 26 rfl) (ow hw 27 rfl) (ow hw 29 rfl) (ow hw 28 rfl) (rmap3_1E1 l Z a0 hw [] b318 b309 kl309 (own_k p2) (own_k p3) (own_k p4) (own_l1 p1) ib_397 ks_397 kk_397 bl_397 kb_397 (0 : Int32) (0 : Int32) (0 : Int32) T400.heap n0 Zs408 F410 P400_0 P400_3 P400_1 P400_2 F411 F415 F416 P400_4 F417 gx398 gx405 gx406 nx407 gx418 P397_13 nx419 (own_pos p2) (own_pos p3) (own_pos p4) (own_nz _ hz1).1 (own_nz _ hz1).2 F421 P397_11) (ow hw 30 rfl) (ow hw 4 rfl) F410 rfl (by rw [hml]; rfl) rfl (hb hby at_74) (lenOf pd___II_I rfl) rfl (by decide) (fun T409 v409 Ll409 X409 hQ409 => ?_)
         obtain ⟨cn_409, kn_409, vsn_409, rfl, N409q, K409, P409_0, P409_1, P409_2, P409_3, P409_4, P409_5, P409_6, P409_7, P409_8, P409_9, P409_10⟩ := hQ409
         have N409 := Fr.app N400 N409q
         have Zs422 : n0 ≤ T409.heap.size := Nat.le_trans Zs408 K409.1
         refine own_go (b := (T409.setTop (mkF m 84 #[iv p0, iv p1, iv p2, iv p3, iv p4, iv (0 : Int32), iv (own_l1 p1), iv (0 : Int32), rv b309, rv b318] [(.int (0 : Int32)), (.ref b309), (.ref b318)]))) (fun _ k => XS.pop X409.here hx rfl (hb hby at_77) rfl rfl (XS.aload X409.here hx rfl (hb hby at_78) rfl rfl (XS.aload X409.here hx rfl (hb hby at_80) rfl rfl (XS.iload X409.here hx rfl (hb hby at_82) rfl k)))) ?_
         have F424 := F410.keep K409
         have F425 := F411.keep K409
         have nx426 : b309 ≠ ib_397 := (own_ne V309.lt (own_tr (own_tr (own_tr (Keep.of_wr W311).1 (Keep.of_wr W314).1) (Keep.of_wr W316).1) E318.1) P397_4)
         have F427 := F417.keep K409 (ninS nx403 (ninS nx426 (ninS (Ne.symm nx407) (ninS nx419 nin0))))
         refine own_virt (W := 0) X409 hx hZ hown rfl (ow hw 26 rfl) (ow hw 27 rfl) (ow hw 29 rfl) (ow hw 28 rfl) (rmap3_2N0 l Z a0 hw [] b318 b309 kl309 (own_k p2) (own_k p3) (own_k p4) ib_397 ks_397 kk_397 (own_l1 p1) (0 : Int32) (0 : Int32) (own_l1 p1) T409.heap n0 Zs422 F424 P409_0 P409_3 P409_1 P409_2 F425 P409_5 P409_4 F427 gx398 gx405 gx406 nx407 (own_pos p2) (own_pos p3) (own_pos p4)) (ow hw 30 rfl) (ow hw 4 rfl) F424 rfl (by rw [hml]; rfl) rfl (hb hby at_84) (lenOf pd___II_I rfl) rfl (by decide) (fun T423 v423 Ll423 X423 hQ423 => ?_)
         obtain ⟨ksn_423, kkn_423, rfl, N423q, K423, P423_0, P423_1, P423_2, P423_3, P423_4, P423_5⟩ := hQ423
         have N423 := Fr.app N409 N423q
         have Zs428 : n0 ≤ T423.heap.size := Nat.le_trans Zs422 K423.1
         refine own_go (b := (T423.setTop (mkF m 91 #[iv p0, iv p1, iv p2, iv p3, iv p4, iv (0 : Int32), iv (own_l1 p1), iv (0 : Int32), rv b309, rv b318] [(.int (0 : Int32)), (.ref b318)]))) (fun _ k => XS.pop X423.here hx rfl (hb hby at_87) rfl rfl (XS.aload X423.here hx rfl (hb hby at_88) rfl rfl (XS.iconst X423.here hx rfl (hb hby at_90) k))) ?_
         have F430 := F424.keep K423
         refine own_virt (W := 0) X423 hx hZ hown rfl (ow hw 68 rfl) (ow hw 69 rfl) (ow hw 71 rfl) (ow hw 70 rfl) (rmlen6_0 l Z a0 hw [] b318 ksn_423 kkn_423 (0 : Int32) (0 : Int32) (own_l1 p1) (own_l1 p1) (0 : Int32) (0 : Int32) T423.heap n0 Zs428 P423_4 P423_5) (ow hw 72 rfl) (ow hw 4 rfl) F430 rfl (by rw [hml]; rfl) rfl (hb hby at_91) (lenOf pd__I_I rfl) rfl (by decide) (fun T429 v429 Ll429 X429 hQ429 => ?_)
         obtain ⟨rfl, N429q, eh429⟩ := hQ429
         have N429 := Fr.app N423 N429q
         refine own_go (b := (T429.setTop (mkF m 102 #[iv p0, iv p1, iv p2, iv p3, iv p4, iv (0 : Int32), iv (own_l1 p1), iv (0 : Int32), rv b309, rv b318] [(.int (1 : Int32)), (.ref b318)]))) (fun _ k => XS.iload X429.here hx rfl (hb hby at_94) rfl (XS.icmpNo X429.here hx rfl (hb hby at_96) rfl (teq (Int32.sub_self _)).2 (XS.aload X429.here hx rfl (hb hby at_99) rfl rfl (XS.iconst X429.here hx rfl (hb hby at_101) k)))) ?_
         refine own_virt (W := 0) X429 hx hZ hown eh429 (ow hw 68 rfl) (ow hw 69 rfl) (ow hw 71 rfl) (ow hw 70 rfl) (rmlen6_1 l Z a0 hw [] b318 ksn_423 kkn_423 (0 : Int32) (0 : Int32) (own_l1 p1) (own_l1 p1) (0 : Int32) (0 : Int32) T423.heap n0 Zs428 P423_4 P423_5) (ow hw 72 rfl) (ow hw 4 rfl) F430 rfl (by rw [hml]; rfl) rfl (hb hby at_102) (lenOf pd__I_I rfl) rfl (by decide) (fun T431 v431 Ll431 X431 hQ431 => ?_)
         obtain ⟨rfl, N431q, eh431⟩ := hQ431
         have N431 := Fr.app N429 N431q
         refine own_go (b := (T431.setTop (mkF m 113 #[iv p0, iv p1, iv p2, iv p3, iv p4, iv (0 : Int32), iv (own_l1 p1), iv (0 : Int32), rv b309, rv b318] [(.int (2 : Int32)), (.ref b318)]))) (fun _ k => XS.iload X431.here hx rfl (hb hby at_105) rfl (XS.icmpNo X431.here hx rfl (hb hby at_107) rfl (teq (Int32.sub_zero _)).2 (XS.aload X431.here hx rfl (hb hby at_110) rfl rfl (XS.iconst X431.here hx rfl (hb hby at_112) k)))) ?_
         refine own_virt (W := 0) X431 hx hZ hown eh431 (ow hw 68 rfl) (ow hw 69 rfl) (ow hw 71 rfl) (ow hw 70 rfl) (rmlen6_2 l Z a0 hw [] b318 ksn_423 kkn_423 (0 : Int32) (0 : Int32) (own_l1 p1) (own_l1 p1) (0 : Int32) (0 : Int32) T423.heap n0 Zs428 P423_4 P423_5) (ow hw 72 rfl) (ow hw 4 rfl) F430 rfl (by rw [hml]; rfl) rfl (hb hby at_113) (lenOf pd__I_I rfl) rfl (by decide) (fun T432 v432 Ll432 X432 hQ432 => ?_)
         obtain ⟨rfl, N432q, eh432⟩ := hQ432
         have N432 := Fr.app N431 N432q
         refine own_go (b := (T432.setTop (mkF m 126 #[iv p0, iv p1, iv p2, iv p3, iv p4, iv (0 : Int32), iv (own_l1 p1), iv (0 : Int32), rv b309, rv b318] [(.int (1 : Int32))]))) (fun _ k => XS.iload X432.here hx rfl (hb hby at_116) rfl (XS.icmpNo X432.here hx rfl (hb hby at_118) rfl (teq (Int32.sub_self _)).2 (XS.iconst X432.here hx rfl (hb hby at_121) (XS.goto X432.here hx rfl (pc0 := 122) (pc' := 126) rfl (hb hby at_122) (by decide) (by decide) k)))) ?_
         obtain ⟨fs, hr, hrun, hended, hW, hsame⟩ := X432.leave (v := some (.int (1 : Int32))) (fun h => by rw [Bd.returns] at h; cases h)
         exact ⟨_, _, retN X432 hx (t := .boolean) Bd.returns (by simp) (hb hby at_126) hr, hrun, hended, _, _, rfl, (show Qrm0 Z p0 p1 p2 p3 p4 h0 n0 _ T432.heap _ from (by rw [eh432]; exact ⟨rfl, N432⟩)), ⟨_, rfl⟩, hW, hsame.mono (by decide) (by decide)⟩
       · rw [hk]
         have gx434 : n0 ≤ b318 := Nat.le_trans Zs317 (Nat.le_of_eq g318.symm)
         refine own_spec (W := 1) X318 hx hZ hown e318 (ow hw 5 rfl) (ow hw 6 rfl) (rmft3 l Z a0 hw [] b318 .null .null h318 n0 Zs319 A318 F318_keys F318_keyStarts F318_labelStarts F318_size gx434) (ow hw 7 rfl) (ow hw 4 rfl) rfl (by rw [hml]; rfl) rfl (hb hby at_53) (lenOf pd__I_V rfl) rfl rfl (by decide) (fun T433 v433 Ll433 X433 hQ433 => ?_)
         obtain ⟨ib_433, ks_433, kk_433, bl_433, kb_433, rfl, N433q, K433, P433_0, P433_1, P433_2, P433_3, P433_4, P433_5, P433_6, P433_7, P433_8, P433_9, P433_10, P433_11, P433_12, P433_13⟩ := hQ433
         have N433 := Fr.app N316 N433q
         have Zs435 : n0 ≤ T433.heap.size := Nat.le_trans Zs319 K433.1
         refine own_go (b := (T433.setTop (mkF m 64 #[iv p0, iv p1, iv p2, iv p3, iv p4, iv (0 : Int32), iv (own_l1 p1), iv (0 : Int32), rv b309, rv b318] [(.int (0 : Int32)), (.ref b309), (.ref b318)]))) (fun _ k => XS.astore X433.here hx rfl (hb hby at_56) rfl rfl (l' := #[iv p0, iv p1, iv p2, iv p3, iv p4, iv (0 : Int32), iv (own_l1 p1), iv (0 : Int32), rv b309, rv b318]) rfl (XS.aload X433.here hx rfl (hb hby at_58) rfl rfl (XS.aload X433.here hx rfl (hb hby at_60) rfl rfl (XS.iload X433.here hx rfl (hb hby at_62) rfl k)))) ?_
         have F437 := A318.keep K433
         have F438 := V316.ext E318
         have nx439 : b309 ≠ b318 := (own_ne V309.lt (own_tr (own_tr (Keep.of_wr W311).1 (Keep.of_wr W314).1) (Keep.of_wr W316).1) (Nat.le_of_eq g318.symm))
         have F440 := F438.keep K433 (ninS nx439 nin0)
         have gx441 : n0 ≤ ib_433 := Nat.le_trans Zs319 P433_4
         have gx442 : n0 ≤ ks_433 := Nat.le_trans Zs319 P433_5
         have nx443 : ks_433 ≠ b309 := (Ne.symm (own_ne V309.lt (own_tr (own_tr (own_tr (Keep.of_wr W311).1 (Keep.of_wr W314).1) (Keep.of_wr W316).1) E318.1) P433_5))
         refine own_virt (W := 0) X433 hx hZ hown rfl (ow hw 26 rfl) (ow hw 27 rfl) (ow hw 29 rfl) (ow hw 28 rfl) (rmap4_0N0 l Z a0 hw [] b318 b309 kl309 (own_k p2) (own_k p3) (own_k p4) ib_433 ks_433 kk_433 (0 : Int32) (0 : Int32) (0 : Int32) (0 : Int32) (0 : Int32) T433.heap n0 Zs435 F437 P433_0 P433_1 P433_2 P433_3 P433_7 P433_8 P433_12 F440 gx434 gx441 gx442 nx443 (own_pos p2) (own_pos p3) (own_pos p4)) (ow hw 30 rfl) (ow hw 4 rfl) F437 rfl (by rw [hml]; rfl) rfl (hb hby at_64) (lenOf pd___II_I rfl) rfl (by decide) (fun T436 v436 Ll436 X436 hQ436 => ?_)
         obtain ⟨rfl, N436q, K436, P436_0, P436_1, P436_2, P436_3, P436_4⟩ := hQ436
         have N436 := Fr.app N433 N436q
         have Zs444 : n0 ≤ T436.heap.size := Nat.le_trans Zs435 K436.1
         refine own_go (b := (T436.setTop (mkF m 74 #[iv p0, iv p1, iv p2, iv p3, iv p4, iv (0 : Int32), iv (own_l1 p1), iv (0 : Int32), rv b309, rv b318] [(.int (own_l1 p1)), (.ref b309), (.ref b318)]))) (fun _ k => XS.pop X436.here hx rfl (hb hby at_67) rfl rfl (XS.aload X436.here hx rfl (hb hby at_68) rfl rfl (XS.aload X436.here hx rfl (hb hby at_70) rfl rfl (XS.iload X436.here hx rfl (hb hby at_72) rfl k)))) ?_
         have F446 := F437.keep K436
         have F447 := P433_7.keep K436
         obtain ⟨cn448, An448, -⟩ := id P433_12
         have nx449 : ib_433 ≠ ks_433 := (ne_arr P433_7 (ow hw 12 rfl) An448)
         have nx450 : ib_433 ≠ b318 := (Ne.symm (own_ne A318.lt (Nat.le_refl _) P433_4))
         have F451 := P433_8.keep K436 (ninS nx450 (ninS nx449 nin0))
         have F452 := P433_9.keep K436 (ninS nx450 (ninS nx449 nin0))
         have F453 := F440.keep K436 (ninS nx439 (ninS (Ne.symm nx443) nin0))
         have gx454 : n0 ≤ bl_433 := Nat.le_trans Zs319 P433_6
         have nx455 : b309 ≠ bl_433 := (own_ne V309.lt (own_tr (own_tr (own_tr (Keep.of_wr W311).1 (Keep.of_wr W314).1) (Keep.of_wr W316).1) E318.1) P433_6)
         have nx456 : bl_433 ≠ b318 := (Ne.symm (own_ne A318.lt (Nat.le_refl _) P433_6))
         have F457 := P433_10.keep K436 (ninS nx456 (ninS (Ne.symm P433_13) nin0))
         refine own_virt (W := 0) X436 hx hZ hown rfl (ow hw 26 rfl) (ow hw 27 rfl) (ow hw 29 rfl) (ow hw 28 rfl) (rmap4_1E1 l Z a0 hw [] b318 b309 kl309 (own_k p2) (own_k p3) (own_k p4) (own_l1 p1) ib_433 ks_433 kk_433 bl_433 kb_433 (0 : Int32) (0 : Int32) (0 : Int32) (0 : Int32) T436.heap n0 Zs444 F446 P436_0 P436_3 P436_1 P436_2 F447 F451 F452 P436_4 F453 gx434 gx441 gx442 nx443 gx454 P433_13 nx455 (own_pos p2) (own_pos p3) (own_pos p4) (own_nz _ hz1).1 (own_nz _ hz1).2 F457 P433_11) (ow hw 30 rfl) (ow hw 4 rfl) F446 rfl (by rw [hml]; rfl) rfl (hb hby at_74) (lenOf pd___II_I rfl) rfl (by decide) (fun T445 v445 Ll445 X445 hQ445 => ?_)
         obtain ⟨cn_445, kn_445, vsn_445, rfl, N445q, K445, P445_0, P445_1, P445_2, P445_3, P445_4, P445_5, P445_6, P445_7, P445_8, P445_9, P445_10⟩ := hQ445
         have N445 := Fr.app N436 N445q
         have Zs458 : n0 ≤ T445.heap.size := Nat.le_trans Zs444 K445.1
         refine own_go (b := (T445.setTop (mkF m 84 #[iv p0, iv p1, iv p2, iv p3, iv p4, iv (0 : Int32), iv (own_l1 p1), iv (0 : Int32), rv b309, rv b318] [(.int (0 : Int32)), (.ref b309), (.ref b318)]))) (fun _ k => XS.pop X445.here hx rfl (hb hby at_77) rfl rfl (XS.aload X445.here hx rfl (hb hby at_78) rfl rfl (XS.aload X445.here hx rfl (hb hby at_80) rfl rfl (XS.iload X445.here hx rfl (hb hby at_82) rfl k)))) ?_
         have F460 := F446.keep K445
         have F461 := F447.keep K445
         have nx462 : b309 ≠ ib_433 := (own_ne V309.lt (own_tr (own_tr (own_tr (Keep.of_wr W311).1 (Keep.of_wr W314).1) (Keep.of_wr W316).1) E318.1) P433_4)
         have F463 := F453.keep K445 (ninS nx439 (ninS nx462 (ninS (Ne.symm nx443) (ninS nx455 nin0))))
         refine own_virt (W := 0) X445 hx hZ hown rfl (ow hw 26 rfl) (ow hw 27 rfl) (ow hw 29 rfl) (ow hw 28 rfl) (rmap4_2N0 l Z a0 hw [] b318 b309 kl309 (own_k p2) (own_k p3) (own_k p4) ib_433 ks_433 kk_433 (own_l1 p1) (0 : Int32) (0 : Int32) (own_l1 p1) (0 : Int32) T445.heap n0 Zs458 F460 P445_0 P445_3 P445_1 P445_2 F461 P445_5 P445_4 F463 gx434 gx441 gx442 nx443 (own_pos p2) (own_pos p3) (own_pos p4)) (ow hw 30 rfl) (ow hw 4 rfl) F460 rfl (by rw [hml]; rfl) rfl (hb hby at_84) (lenOf pd___II_I rfl) rfl (by decide) (fun T459 v459 Ll459 X459 hQ459 => ?_)
         obtain ⟨rfl, N459q, K459, P459_0, P459_1, P459_2, P459_3, P459_4⟩ := hQ459
         have N459 := Fr.app N445 N459q
         have Zs464 : n0 ≤ T459.heap.size := Nat.le_trans Zs458 K459.1
         refine own_go (b := (T459.setTop (mkF m 91 #[iv p0, iv p1, iv p2, iv p3, iv p4, iv (0 : Int32), iv (own_l1 p1), iv (0 : Int32), rv b309, rv b318] [(.int (0 : Int32)), (.ref b318)]))) (fun _ k => XS.pop X459.here hx rfl (hb hby at_87) rfl rfl (XS.aload X459.here hx rfl (hb hby at_88) rfl rfl (XS.iconst X459.here hx rfl (hb hby at_90) k))) ?_
         have F466 := F460.keep K459
         refine own_virt (W := 0) X459 hx hZ hown rfl (ow hw 68 rfl) (ow hw 69 rfl) (ow hw 71 rfl) (ow hw 70 rfl) (rmlen4_0 l Z a0 hw [] b318 ks_433 kk_433 (0 : Int32) (0 : Int32) (own_l1 p1) (own_l1 p1) T459.heap n0 Zs464 P459_3 P459_4) (ow hw 72 rfl) (ow hw 4 rfl) F466 rfl (by rw [hml]; rfl) rfl (hb hby at_91) (lenOf pd__I_I rfl) rfl (by decide) (fun T465 v465 Ll465 X465 hQ465 => ?_)
         obtain ⟨rfl, N465q, eh465⟩ := hQ465
         have N465 := Fr.app N459 N465q
         refine own_go (b := (T465.setTop (mkF m 102 #[iv p0, iv p1, iv p2, iv p3, iv p4, iv (0 : Int32), iv (own_l1 p1), iv (0 : Int32), rv b309, rv b318] [(.int (1 : Int32)), (.ref b318)]))) (fun _ k => XS.iload X465.here hx rfl (hb hby at_94) rfl (XS.icmpNo X465.here hx rfl (hb hby at_96) rfl (teq (Int32.sub_self _)).2 (XS.aload X465.here hx rfl (hb hby at_99) rfl rfl (XS.iconst X465.here hx rfl (hb hby at_101) k)))) ?_
         refine own_virt (W := 0) X465 hx hZ hown eh465 (ow hw 68 rfl) (ow hw 69 rfl) (ow hw 71 rfl) (ow hw 70 rfl) (rmlen4_1 l Z a0 hw [] b318 ks_433 kk_433 (0 : Int32) (0 : Int32) (own_l1 p1) (own_l1 p1) T459.heap n0 Zs464 P459_3 P459_4) (ow hw 72 rfl) (ow hw 4 rfl) F466 rfl (by rw [hml]; rfl) rfl (hb hby at_102) (lenOf pd__I_I rfl) rfl (by decide) (fun T467 v467 Ll467 X467 hQ467 => ?_)
         obtain ⟨rfl, N467q, eh467⟩ := hQ467
         have N467 := Fr.app N465 N467q
         refine own_go (b := (T467.setTop (mkF m 113 #[iv p0, iv p1, iv p2, iv p3, iv p4, iv (0 : Int32), iv (own_l1 p1), iv (0 : Int32), rv b309, rv b318] [(.int (2 : Int32)), (.ref b318)]))) (fun _ k => XS.iload X467.here hx rfl (hb hby at_105) rfl (XS.icmpNo X467.here hx rfl (hb hby at_107) rfl (teq (Int32.sub_zero _)).2 (XS.aload X467.here hx rfl (hb hby at_110) rfl rfl (XS.iconst X467.here hx rfl (hb hby at_112) k)))) ?_
         refine own_virt (W := 0) X467 hx hZ hown eh467 (ow hw 68 rfl) (ow hw 69 rfl) (ow hw 71 rfl) (ow hw 70 rfl) (rmlen4_2 l Z a0 hw [] b318 ks_433 kk_433 (0 : Int32) (0 : Int32) (own_l1 p1) (own_l1 p1) T459.heap n0 Zs464 P459_3 P459_4) (ow hw 72 rfl) (ow hw 4 rfl) F466 rfl (by rw [hml]; rfl) rfl (hb hby at_113) (lenOf pd__I_I rfl) rfl (by decide) (fun T468 v468 Ll468 X468 hQ468 => ?_)
         obtain ⟨rfl, N468q, eh468⟩ := hQ468
         have N468 := Fr.app N467 N468q
         refine own_go (b := (T468.setTop (mkF m 126 #[iv p0, iv p1, iv p2, iv p3, iv p4, iv (0 : Int32), iv (own_l1 p1), iv (0 : Int32), rv b309, rv b318] [(.int (1 : Int32))]))) (fun _ k => XS.iload X468.here hx rfl (hb hby at_116) rfl (XS.icmpNo X468.here hx rfl (hb hby at_118) rfl (teq (Int32.sub_self _)).2 (XS.iconst X468.here hx rfl (hb hby at_121) (XS.goto X468.here hx rfl (pc0 := 122) (pc' := 126) rfl (hb hby at_122) (by decide) (by decide) k)))) ?_
         obtain ⟨fs, hr, hrun, hended, hW, hsame⟩ := X468.leave (v := some (.int (1 : Int32))) (fun h => by rw [Bd.returns] at h; cases h)
         exact ⟨_, _, retN X468 hx (t := .boolean) Bd.returns (by simp) (hb hby at_126) hr, hrun, hended, _, _, rfl, (show Qrm0 Z p0 p1 p2 p3 p4 h0 n0 _ T468.heap _ from (by rw [eh468]; exact ⟨rfl, N468⟩)), ⟨_, rfl⟩, hW, hsame.mono (by decide) (by decide)⟩
     · skip
       refine own_go (b := (s₁.setTop (mkF m 20 #[iv p0, iv p1, iv p2, iv p3, iv p4, iv (0 : Int32), iv (own_l1 p1), iv (own_l2 p1), .unset, .unset] [(.int (3 : Int32))]))) (fun _ k => XS.istore X0.here hx rfl (hb hby at_17) rfl (l' := #[iv p0, iv p1, iv p2, iv p3, iv p4, iv (0 : Int32), iv (own_l1 p1), iv (own_l2 p1), .unset, .unset]) rfl (XS.iconst X0.here hx rfl (hb hby at_19) k)) ?_
       obtain ⟨T469, h469, kl469, X469, e469, E469, A469, st469⟩ := newP X0 hx hZ (ow hw 0 rfl) e0 (g := (mkF m 20 #[iv p0, iv p1, iv p2, iv p3, iv p4, iv (0 : Int32), iv (own_l1 p1), iv (own_l2 p1), .unset, .unset] [(.int (3 : Int32))])) rfl (hb hby at_20) rfl (by decide) (cap := 3) (by decide) (by decide) (by decide) (by decide)
       obtain ⟨b469, g469⟩ : ∃ z, z = h0.size := ⟨_, rfl⟩
       rw [← g469] at A469 st469
       have Zs470 : n0 ≤ h469.size := Nat.le_trans Z0 E469.1
       have V469 : Arv Z h469 b469 kl469 .int (3 : Int32) [(.int (0 : Int32)), (.int (0 : Int32)), (.int (0 : Int32))] (.int (0 : Int32)) := (Arv.new A469 (by decide)).pad (pad_rep [] (.int (0 : Int32)) 3)
       refine own_go (b := (T469.setTop (mkF m 28 #[iv p0, iv p1, iv p2, iv p3, iv p4, iv (0 : Int32), iv (own_l1 p1), iv (own_l2 p1), .unset, .unset] [(.int (own_k p2)), (.int (0 : Int32)), (.ref b469), (.ref b469)]))) (fun _ k => st469 _ (XS.dup X469.here hx rfl (hb hby at_22) rfl rfl (XS.iconst X469.here hx rfl (hb hby at_23) (XS.iloadN X469.here hx rfl (hb hby at_24) rfl (X469.ldcInt hx hown (mvT hZ (ow hw 1 rfl)) (g := (mkF m 25 #[iv p0, iv p1, iv p2, iv p3, iv p4, iv (0 : Int32), iv (own_l1 p1), iv (own_l2 p1), .unset, .unset] [(.int p2), (.int (0 : Int32)), (.ref b469), (.ref b469)])) rfl (hb hby at_25) _ (XS.iand X469.here hx rfl (hb hby at_27) rfl k)))))) ?_
       obtain ⟨cl471, Ar471, ql471, Sz471, Nn471, Hl471, Gl471⟩ := id V469
       have hin471 : ¬ ((0 : Int32) < 0 ∨ cl471.slots.size ≤ ((0 : Int32)).toNatClampNeg) := inb_of Sz471 ⟨by decide, by decide⟩
       obtain ⟨T471, h471, X471, e471, W471, st471⟩ := stI X469 hx hZ e469 Ar471 (j := (0 : Int32)) hin471 (g := (mkF m 28 #[iv p0, iv p1, iv p2, iv p3, iv p4, iv (0 : Int32), iv (own_l1 p1), iv (own_l2 p1), .unset, .unset] [(.int (own_k p2)), (.int (0 : Int32)), (.ref b469), (.ref b469)])) rfl rfl (hb hby at_28)
       have gx472 : n0 ≤ b469 := Nat.le_trans Z0 (Nat.le_of_eq g469.symm)
       have N471 := Fr.snoc X471 N0 gx472
       have Zs473 : n0 ≤ h471.size := Nat.le_trans Zs470 (Keep.of_wr W471).1
       have V471 : Arv Z h471 b469 kl469 .int (3 : Int32) [(.int (own_k p2)), (.int (0 : Int32)), (.int (0 : Int32))] (.int (0 : Int32)) := Arv.set Ar471 ql471 Sz471 Nn471 Hl471 Gl471 rfl W471 0 rfl (Nat.le_of_ble_eq_true rfl)
       refine own_go (b := (T471.setTop (mkF m 35 #[iv p0, iv p1, iv p2, iv p3, iv p4, iv (0 : Int32), iv (own_l1 p1), iv (own_l2 p1), .unset, .unset] [(.int (own_k p3)), (.int (1 : Int32)), (.ref b469), (.ref b469)]))) (fun _ k => st471 _ (XS.dup X471.here hx rfl (hb hby at_29) rfl rfl (XS.iconst X471.here hx rfl (hb hby at_30) (XS.iloadN X471.here hx rfl (hb hby at_31) rfl (X471.ldcInt hx hown (mvT hZ (ow hw 1 rfl)) (g := (mkF m 32 #[iv p0, iv p1, iv p2, iv p3, iv p4, iv (0 : Int32), iv (own_l1 p1), iv (own_l2 p1), .unset, .unset] [(.int p3), (.int (1 : Int32)), (.ref b469), (.ref b469)])) rfl (hb hby at_32) _ (XS.iand X471.here hx rfl (hb hby at_34) rfl k)))))) ?_
       obtain ⟨cl474, Ar474, ql474, Sz474, Nn474, Hl474, Gl474⟩ := id V471
       have hin474 : ¬ ((1 : Int32) < 0 ∨ cl474.slots.size ≤ ((1 : Int32)).toNatClampNeg) := inb_of Sz474 ⟨by decide, by decide⟩
       obtain ⟨T474, h474, X474, e474, W474, st474⟩ := stI X471 hx hZ e471 Ar474 (j := (1 : Int32)) hin474 (g := (mkF m 35 #[iv p0, iv p1, iv p2, iv p3, iv p4, iv (0 : Int32), iv (own_l1 p1), iv (own_l2 p1), .unset, .unset] [(.int (own_k p3)), (.int (1 : Int32)), (.ref b469), (.ref b469)])) rfl rfl (hb hby at_35)
       have N474 := Fr.snoc X474 N471 gx472
       have Zs475 : n0 ≤ h474.size := Nat.le_trans Zs473 (Keep.of_wr W474).1
       have V474 : Arv Z h474 b469 kl469 .int (3 : Int32) [(.int (own_k p2)), (.int (own_k p3)), (.int (0 : Int32))] (.int (0 : Int32)) := Arv.set Ar474 ql474 Sz474 Nn474 Hl474 Gl474 rfl W474 1 rfl (Nat.le_of_ble_eq_true rfl)
       refine own_go (b := (T474.setTop (mkF m 43 #[iv p0, iv p1, iv p2, iv p3, iv p4, iv (0 : Int32), iv (own_l1 p1), iv (own_l2 p1), .unset, .unset] [(.int (own_k p4)), (.int (2 : Int32)), (.ref b469), (.ref b469)]))) (fun _ k => st474 _ (XS.dup X474.here hx rfl (hb hby at_36) rfl rfl (XS.iconst X474.here hx rfl (hb hby at_37) (XS.iload X474.here hx rfl (hb hby at_38) rfl (X474.ldcInt hx hown (mvT hZ (ow hw 1 rfl)) (g := (mkF m 40 #[iv p0, iv p1, iv p2, iv p3, iv p4, iv (0 : Int32), iv (own_l1 p1), iv (own_l2 p1), .unset, .unset] [(.int p4), (.int (2 : Int32)), (.ref b469), (.ref b469)])) rfl (hb hby at_40) _ (XS.iand X474.here hx rfl (hb hby at_42) rfl k)))))) ?_
       obtain ⟨cl476, Ar476, ql476, Sz476, Nn476, Hl476, Gl476⟩ := id V474
       have hin476 : ¬ ((2 : Int32) < 0 ∨ cl476.slots.size ≤ ((2 : Int32)).toNatClampNeg) := inb_of Sz476 ⟨by decide, by decide⟩
       obtain ⟨T476, h476, X476, e476, W476, st476⟩ := stI X474 hx hZ e474 Ar476 (j := (2 : Int32)) hin476 (g := (mkF m 43 #[iv p0, iv p1, iv p2, iv p3, iv p4, iv (0 : Int32), iv (own_l1 p1), iv (own_l2 p1), .unset, .unset] [(.int (own_k p4)), (.int (2 : Int32)), (.ref b469), (.ref b469)])) rfl rfl (hb hby at_43)
       have N476 := Fr.snoc X476 N474 gx472
       have Zs477 : n0 ≤ h476.size := Nat.le_trans Zs475 (Keep.of_wr W476).1
       have V476 : Arv Z h476 b469 kl469 .int (3 : Int32) [(.int (own_k p2)), (.int (own_k p3)), (.int (own_k p4))] (.int (0 : Int32)) := Arv.set Ar476 ql476 Sz476 Nn476 Hl476 Gl476 rfl W476 2 rfl (Nat.le_of_ble_eq_true rfl)
       refine own_go (b := (T476.setTop (mkF m 46 #[iv p0, iv p1, iv p2, iv p3, iv p4, iv (0 : Int32), iv (own_l1 p1), iv (own_l2 p1), rv b469, .unset] []))) (fun _ k => st476 _ (XS.astore X476.here hx rfl (hb hby at_44) rfl rfl (l' := #[iv p0, iv p1, iv p2, iv p3, iv p4, iv (0 : Int32), iv (own_l1 p1), iv (own_l2 p1), rv b469, .unset]) rfl k)) ?_
       obtain ⟨T478, h478, X478, e478, E478, A478, D478, -, st478⟩ := newO X476 hx hZ hown (ow hw 2 rfl) (ow hw 3 rfl) (ow hw 4 rfl) e476 (g := (mkF m 46 #[iv p0, iv p1, iv p2, iv p3, iv p4, iv (0 : Int32), iv (own_l1 p1), iv (own_l2 p1), rv b469, .unset] [])) rfl (hb hby at_46) (by decide) (by decide)
       obtain ⟨b478, g478⟩ : ∃ z, z = h476.size := ⟨_, rfl⟩
       rw [← g478] at A478 D478 st478
       have Zs479 : n0 ≤ h478.size := Nat.le_trans Zs477 E478.1
       have F478_keys : Fld Z h478 b478 cs0 "keys" "Lcom/example/arcwright/arcwright/parser/IntBlocks;" .null := D478 (Or.inr (ow hw 23 rfl)) (ty := (.object cs1)) (by decide)
       have F478_keyStarts : Fld Z h478 b478 cs0 "keyStarts" "[I" .null := D478 (Or.inl (ow hw 25 rfl)) (ty := (.array .int)) (by decide)
       have F478_labelStarts : Fld Z h478 b478 cs0 "labelStarts" "[I" .null := D478 (Or.inl (ow hw 32 rfl)) (ty := (.array .int)) (by decide)
       have F478_size : Fld Z h478 b478 cs0 "size" "I" (.int (0 : Int32)) := D478 (Or.inl (ow hw 34 rfl)) (ty := .int) (by decide)
       refine own_go (b := (T478.setTop (mkF m 53 #[iv p0, iv p1, iv p2, iv p3, iv p4, iv (0 : Int32), iv (own_l1 p1), iv (own_l2 p1), rv b469, .unset] [(.int (p0 &&& (3 : Int32))), (.ref b478), (.ref b478)]))) (fun _ k => st478 _ (XS.dup X478.here hx rfl (hb hby at_49) rfl rfl (XS.iloadN X478.here hx rfl (hb hby at_50) rfl (XS.iconst X478.here hx rfl (hb hby at_51) (XS.iand X478.here hx rfl (hb hby at_52) rfl k))))) ?_
       rcases own_and3 p0 with hk | hk | hk | hk
       · rw [hk]
         have gx481 : n0 ≤ b478 := Nat.le_trans Zs477 (Nat.le_of_eq g478.symm)
         refine own_spec (W := 1) X478 hx hZ hown e478 (ow hw 5 rfl) (ow hw 6 rfl) (rmft0 l Z a0 hw [] b478 .null .null h478 n0 Zs479 A478 F478_keys F478_keyStarts F478_labelStarts F478_size gx481) (ow hw 7 rfl) (ow hw 4 rfl) rfl (by rw [hml]; rfl) rfl (hb hby at_53) (lenOf pd__I_V rfl) rfl rfl (by decide) (fun T480 v480 Ll480 X480 hQ480 => ?_)
         obtain ⟨ib_480, ks_480, kk_480, bl_480, kb_480, rfl, N480q, K480, P480_0, P480_1, P480_2, P480_3, P480_4, P480_5, P480_6, P480_7, P480_8, P480_9, P480_10, P480_11, P480_12, P480_13⟩ := hQ480
         have N480 := Fr.app N476 N480q
         have Zs482 : n0 ≤ T480.heap.size := Nat.le_trans Zs479 K480.1
         refine own_go (b := (T480.setTop (mkF m 64 #[iv p0, iv p1, iv p2, iv p3, iv p4, iv (0 : Int32), iv (own_l1 p1), iv (own_l2 p1), rv b469, rv b478] [(.int (0 : Int32)), (.ref b469), (.ref b478)]))) (fun _ k => XS.astore X480.here hx rfl (hb hby at_56) rfl rfl (l' := #[iv p0, iv p1, iv p2, iv p3, iv p4, iv (0 : Int32), iv (own_l1 p1), iv (own_l2 p1), rv b469, rv b478]) rfl (XS.aload X480.here hx rfl (hb hby at_58) rfl rfl (XS.aload X480.here hx rfl (hb hby at_60) rfl rfl (XS.iload X480.here hx rfl (hb hby at_62) rfl k)))) ?_
         have F484 := A478.keep K480
         have F485 := V476.ext E478
         have nx486 : b469 ≠ b478 := (own_ne V469.lt (own_tr (own_tr (Keep.of_wr W471).1 (Keep.of_wr W474).1) (Keep.of_wr W476).1) (Nat.le_of_eq g478.symm))
         have F487 := F485.keep K480 (ninS nx486 nin0)
         have gx488 : n0 ≤ ib_480 := Nat.le_trans Zs479 P480_4
         have gx489 : n0 ≤ ks_480 := Nat.le_trans Zs479 P480_5
         have nx490 : ks_480 ≠ b469 := (Ne.symm (own_ne V469.lt (own_tr (own_tr (own_tr (Keep.of_wr W471).1 (Keep.of_wr W474).1) (Keep.of_wr W476).1) E478.1) P480_5))
         refine own_virt (W := 0) X480 hx hZ hown rfl (ow hw 26 rfl) (ow hw 27 rfl) (ow hw 29 rfl) (ow hw 28 rfl) (rmap1_0N0 l Z a0 hw [] b478 b469 kl469 (own_k p2) (own_k p3) (own_k p4) ib_480 ks_480 kk_480 (0 : Int32) (0 : Int32) T480.heap n0 Zs482 F484 P480_0 P480_1 P480_2 P480_3 P480_7 P480_8 P480_12 F487 gx481 gx488 gx489 nx490 (own_pos p2) (own_pos p3) (own_pos p4)) (ow hw 30 rfl) (ow hw 4 rfl) F484 rfl (by rw [hml]; rfl) rfl (hb hby at_64) (lenOf pd___II_I rfl) rfl (by decide) (fun T483 v483 Ll483 X483 hQ483 => ?_)
         obtain ⟨ksn_483, kkn_483, rfl, N483q, K483, P483_0, P483_1, P483_2, P483_3, P483_4, P483_5⟩ := hQ483
         have N483 := Fr.app N480 N483q
         have Zs491 : n0 ≤ T483.heap.size := Nat.le_trans Zs482 K483.1
         refine own_go (b := (T483.setTop (mkF m 74 #[iv p0, iv p1, iv p2, iv p3, iv p4, iv (0 : Int32), iv (own_l1 p1), iv (own_l2 p1), rv b469, rv b478] [(.int (own_l1 p1)), (.ref b469), (.ref b478)]))) (fun _ k => XS.pop X483.here hx rfl (hb hby at_67) rfl rfl (XS.aload X483.here hx rfl (hb hby at_68) rfl rfl (XS.aload X483.here hx rfl (hb hby at_70) rfl rfl (XS.iload X483.here hx rfl (hb hby at_72) rfl k)))) ?_
         have F493 := F484.keep K483
         have F494 := P480_7.keep K483
         have nx495 : ib_480 ≠ b478 := (Ne.symm (own_ne A478.lt (Nat.le_refl _) P480_4))
         have F496 := P480_8.keep K483 (ninS nx495 nin0)
         have F497 := P480_9.keep K483 (ninS nx495 nin0)
         have F498 := F487.keep K483 (ninS nx486 nin0)
         have gx499 : n0 ≤ ksn_483 := Nat.le_trans Zs482 P483_3
         have nx500 : ksn_483 ≠ b469 := (Ne.symm (own_ne V469.lt (own_tr (own_tr (own_tr (own_tr (Keep.of_wr W471).1 (Keep.of_wr W474).1) (Keep.of_wr W476).1) E478.1) K480.1) P483_3))
         have gx501 : n0 ≤ bl_480 := Nat.le_trans Zs479 P480_6
         have nx502 : ksn_483 ≠ bl_480 := (Ne.symm (own_ne P480_10.lt (Nat.le_refl _) P483_3))
         have nx503 : b469 ≠ bl_480 := (own_ne V469.lt (own_tr (own_tr (own_tr (Keep.of_wr W471).1 (Keep.of_wr W474).1) (Keep.of_wr W476).1) E478.1) P480_6)
         have nx504 : bl_480 ≠ b478 := (Ne.symm (own_ne A478.lt (Nat.le_refl _) P480_6))
         have F505 := P480_10.keep K483 (ninS nx504 nin0)
         refine own_virt (W := 0) X483 hx hZ hown rfl (ow hw 26 rfl) (ow hw 27 rfl) (ow hw 29 rfl) (ow hw 28 rfl) (rmap2_1E1 l Z a0 hw [] b478 b469 kl469 (own_k p2) (own_k p3) (own_k p4) (own_l1 p1) ib_480 ksn_483 kkn_483 bl_480 kb_480 (0 : Int32) (0 : Int32) T483.heap n0 Zs491 F493 P483_0 P483_4 P483_1 P483_2 F494 F496 F497 P483_5 F498 gx481 gx488 gx499 nx500 gx501 nx502 nx503 (own_pos p2) (own_pos p3) (own_pos p4) (own_nz _ hz1).1 (own_nz _ hz1).2 F505 P480_11) (ow hw 30 rfl) (ow hw 4 rfl) F493 rfl (by rw [hml]; rfl) rfl (hb hby at_74) (lenOf pd___II_I rfl) rfl (by decide) (fun T492 v492 Ll492 X492 hQ492 => ?_)
         obtain ⟨ksn_492, kkn_492, cn_492, kn_492, vsn_492, rfl, N492q, K492, P492_0, P492_1, P492_2, P492_3, P492_4, P492_5, P492_6, P492_7, P492_8, P492_9, P492_10, P492_11, P492_12⟩ := hQ492
         have N492 := Fr.app N483 N492q
         have Zs506 : n0 ≤ T492.heap.size := Nat.le_trans Zs491 K492.1
         refine own_go (b := (T492.setTop (mkF m 84 #[iv p0, iv p1, iv p2, iv p3, iv p4, iv (0 : Int32), iv (own_l1 p1), iv (own_l2 p1), rv b469, rv b478] [(.int (own_l2 p1)), (.ref b469), (.ref b478)]))) (fun _ k => XS.pop X492.here hx rfl (hb hby at_77) rfl rfl (XS.aload X492.here hx rfl (hb hby at_78) rfl rfl (XS.aload X492.here hx rfl (hb hby at_80) rfl rfl (XS.iload X492.here hx rfl (hb hby at_82) rfl k)))) ?_
         have F508 := F493.keep K492
         have F509 := F494.keep K492
         have nx510 : b469 ≠ ib_480 := (own_ne V469.lt (own_tr (own_tr (own_tr (Keep.of_wr W471).1 (Keep.of_wr W474).1) (Keep.of_wr W476).1) E478.1) P480_4)
         have F511 := F498.keep K492 (ninS nx486 (ninS nx510 (ninS nx503 nin0)))
         have gx512 : n0 ≤ ksn_492 := Nat.le_trans Zs491 P492_3
         have nx513 : ksn_492 ≠ b469 := (Ne.symm (own_ne V469.lt (own_tr (own_tr (own_tr (own_tr (own_tr (Keep.of_wr W471).1 (Keep.of_wr W474).1) (Keep.of_wr W476).1) E478.1) K480.1) K483.1) P492_3))
         have nx514 : ksn_492 ≠ bl_480 := (Ne.symm (own_ne P480_10.lt K483.1 P492_3))
         have gx515 : n0 ≤ cn_492 := Nat.le_trans Zs491 P492_8
         have nx516 : b469 ≠ cn_492 := (own_ne V469.lt (own_tr (own_tr (own_tr (own_tr (own_tr (Keep.of_wr W471).1 (Keep.of_wr W474).1) (Keep.of_wr W476).1) E478.1) K480.1) K483.1) P492_8)
         have nx517 : bl_480 ≠ cn_492 := (own_ne P480_10.lt K483.1 P492_8)
         refine own_virt (W := 0) X492 hx hZ hown rfl (ow hw 26 rfl) (ow hw 27 rfl) (ow hw 29 rfl) (ow hw 28 rfl) (rmap4_2F1 l Z a0 hw [] b478 b469 kl469 (own_k p2) (own_k p3) (own_k p4) (own_l2 p1) ib_480 ksn_492 kkn_492 bl_480 kb_480 (0 : Int32) (0 : Int32) (own_l1 p1) (0 : Int32) (own_l1 p1) cn_492 kn_492 vsn_492 T492.heap n0 Zs506 F508 P492_0 P492_4 P492_1 P492_2 F509 P492_6 P492_7 P492_5 F511 gx481 gx488 gx512 nx513 gx501 nx514 nx503 (own_pos p2) (own_pos p3) (own_pos p4) (own_nz _ hz2).1 (own_nz _ hz2).2 P492_9 P492_10 P492_11 gx515 nx516 nx517 P492_12 (own_nz _ hz1).1 (own_36 (own_nz _ hz1).2)) (ow hw 30 rfl) (ow hw 4 rfl) F508 rfl (by rw [hml]; rfl) rfl (hb hby at_84) (lenOf pd___II_I rfl) rfl (by decide) (fun T507 v507 Ll507 X507 hQ507 => ?_)
         obtain ⟨vsn_507, rfl, N507q, K507, P507_0, P507_1, P507_2, P507_3, P507_4, P507_5, P507_6, P507_7, P507_8⟩ := hQ507
         have N507 := Fr.app N492 N507q
         have Zs518 : n0 ≤ T507.heap.size := Nat.le_trans Zs506 K507.1
         refine own_go (b := (T507.setTop (mkF m 91 #[iv p0, iv p1, iv p2, iv p3, iv p4, iv (0 : Int32), iv (own_l1 p1), iv (own_l2 p1), rv b469, rv b478] [(.int (0 : Int32)), (.ref b478)]))) (fun _ k => XS.pop X507.here hx rfl (hb hby at_87) rfl rfl (XS.aload X507.here hx rfl (hb hby at_88) rfl rfl (XS.iconst X507.here hx rfl (hb hby at_90) k))) ?_
         have F520 := F508.keep K507
         refine own_virt (W := 0) X507 hx hZ hown rfl (ow hw 68 rfl) (ow hw 69 rfl) (ow hw 71 rfl) (ow hw 70 rfl) (rmlen4_0 l Z a0 hw [] b478 ksn_492 kkn_492 (0 : Int32) (0 : Int32) (own_l1 p1) ((own_l1 p1) + (own_l2 p1)) T507.heap n0 Zs518 P507_3 P507_4) (ow hw 72 rfl) (ow hw 4 rfl) F520 rfl (by rw [hml]; rfl) rfl (hb hby at_91) (lenOf pd__I_I rfl) rfl (by decide) (fun T519 v519 Ll519 X519 hQ519 => ?_)
         obtain ⟨rfl, N519q, eh519⟩ := hQ519
         have N519 := Fr.app N507 N519q
         refine own_go (b := (T519.setTop (mkF m 102 #[iv p0, iv p1, iv p2, iv p3, iv p4, iv (0 : Int32), iv (own_l1 p1), iv (own_l2 p1), rv b469, rv b478] [(.int (1 : Int32)), (.ref b478)]))) (fun _ k => XS.iload X519.here hx rfl (hb hby at_94) rfl (XS.icmpNo X519.here hx rfl (hb hby at_96) rfl (teq (Int32.sub_self _)).2 (XS.aload X519.here hx rfl (hb hby at_99) rfl rfl (XS.iconst X519.here hx rfl (hb hby at_101) k)))) ?_
         refine own_virt (W := 0) X519 hx hZ hown eh519 (ow hw 68 rfl) (ow hw 69 rfl) (ow hw 71 rfl) (ow hw 70 rfl) (rmlen4_1 l Z a0 hw [] b478 ksn_492 kkn_492 (0 : Int32) (0 : Int32) (own_l1 p1) ((own_l1 p1) + (own_l2 p1)) T507.heap n0 Zs518 P507_3 P507_4) (ow hw 72 rfl) (ow hw 4 rfl) F520 rfl (by rw [hml]; rfl) rfl (hb hby at_102) (lenOf pd__I_I rfl) rfl (by decide) (fun T521 v521 Ll521 X521 hQ521 => ?_)
         obtain ⟨rfl, N521q, eh521⟩ := hQ521
         have N521 := Fr.app N519 N521q
         refine own_go (b := (T521.setTop (mkF m 113 #[iv p0, iv p1, iv p2, iv p3, iv p4, iv (0 : Int32), iv (own_l1 p1), iv (own_l2 p1), rv b469, rv b478] [(.int (2 : Int32)), (.ref b478)]))) (fun _ k => XS.iload X521.here hx rfl (hb hby at_105) rfl (XS.icmpNo X521.here hx rfl (hb hby at_107) rfl (teq (Int32.sub_zero _)).2 (XS.aload X521.here hx rfl (hb hby at_110) rfl rfl (XS.iconst X521.here hx rfl (hb hby at_112) k)))) ?_
         refine own_virt (W := 0) X521 hx hZ hown eh521 (ow hw 68 rfl) (ow hw 69 rfl) (ow hw 71 rfl) (ow hw 70 rfl) (rmlen4_2 l Z a0 hw [] b478 ksn_492 kkn_492 (0 : Int32) (0 : Int32) (own_l1 p1) ((own_l1 p1) + (own_l2 p1)) T507.heap n0 Zs518 P507_3 P507_4) (ow hw 72 rfl) (ow hw 4 rfl) F520 rfl (by rw [hml]; rfl) rfl (hb hby at_113) (lenOf pd__I_I rfl) rfl (by decide) (fun T522 v522 Ll522 X522 hQ522 => ?_)
         obtain ⟨rfl, N522q, eh522⟩ := hQ522
         have N522 := Fr.app N521 N522q
         refine own_go (b := (T522.setTop (mkF m 126 #[iv p0, iv p1, iv p2, iv p3, iv p4, iv (0 : Int32), iv (own_l1 p1), iv (own_l2 p1), rv b469, rv b478] [(.int (1 : Int32))]))) (fun _ k => XS.iload X522.here hx rfl (hb hby at_116) rfl (XS.icmpNo X522.here hx rfl (hb hby at_118) rfl (teq (own_addsub _ _)).2 (XS.iconst X522.here hx rfl (hb hby at_121) (XS.goto X522.here hx rfl (pc0 := 122) (pc' := 126) rfl (hb hby at_122) (by decide) (by decide) k)))) ?_
         obtain ⟨fs, hr, hrun, hended, hW, hsame⟩ := X522.leave (v := some (.int (1 : Int32))) (fun h => by rw [Bd.returns] at h; cases h)
         exact ⟨_, _, retN X522 hx (t := .boolean) Bd.returns (by simp) (hb hby at_126) hr, hrun, hended, _, _, rfl, (show Qrm0 Z p0 p1 p2 p3 p4 h0 n0 _ T522.heap _ from (by rw [eh522]; exact ⟨rfl, N522⟩)), ⟨_, rfl⟩, hW, hsame.mono (by decide) (by decide)⟩
       · rw [hk]
         have gx524 : n0 ≤ b478 := Nat.le_trans Zs477 (Nat.le_of_eq g478.symm)
         refine own_spec (W := 1) X478 hx hZ hown e478 (ow hw 5 rfl) (ow hw 6 rfl) (rmft1 l Z a0 hw [] b478 .null .null h478 n0 Zs479 A478 F478_keys F478_keyStarts F478_labelStarts F478_size gx524) (ow hw 7 rfl) (ow hw 4 rfl) rfl (by rw [hml]; rfl) rfl (hb hby at_53) (lenOf pd__I_V rfl) rfl rfl (by decide) (fun T523 v523 Ll523 X523 hQ523 => ?_)
         obtain ⟨ib_523, ks_523, kk_523, bl_523, kb_523, rfl, N523q, K523, P523_0, P523_1, P523_2, P523_3, P523_4, P523_5, P523_6, P523_7, P523_8, P523_9, P523_10, P523_11, P523_12, P523_13⟩ := hQ523
         have N523 := Fr.app N476 N523q
         have Zs525 : n0 ≤ T523.heap.size := Nat.le_trans Zs479 K523.1
         refine own_go (b := (T523.setTop (mkF m 64 #[iv p0, iv p1, iv p2, iv p3, iv p4, iv (0 : Int32), iv (own_l1 p1), iv (own_l2 p1), rv b469, rv b478] [(.int (0 : Int32)), (.ref b469), (.ref b478)]))) (fun _ k => XS.astore X523.here hx rfl (hb hby at_56) rfl rfl (l' := #[iv p0, iv p1, iv p2, iv p3, iv p4, iv (0 : Int32), iv (own_l1 p1), iv (own_l2 p1), rv b469, rv b478]) rfl (XS.aload X523.here hx rfl (hb hby at_58) rfl rfl (XS.aload X523.here hx rfl (hb hby at_60) rfl rfl (XS.iload X523.here hx rfl (hb hby at_62) rfl k)))) ?_
         have F527 := A478.keep K523
         have F528 := V476.ext E478
         have nx529 : b469 ≠ b478 := (own_ne V469.lt (own_tr (own_tr (Keep.of_wr W471).1 (Keep.of_wr W474).1) (Keep.of_wr W476).1) (Nat.le_of_eq g478.symm))
         have F530 := F528.keep K523 (ninS nx529 nin0)
         have gx531 : n0 ≤ ib_523 := Nat.le_trans Zs479 P523_4
         have gx532 : n0 ≤ ks_523 := Nat.le_trans Zs479 P523_5
         have nx533 : ks_523 ≠ b469 := (Ne.symm (own_ne V469.lt (own_tr (own_tr (own_tr (Keep.of_wr W471).1 (Keep.of_wr W474).1) (Keep.of_wr W476).1) E478.1) P523_5))
         refine own_virt (W := 0) X523 hx hZ hown rfl (ow hw 26 rfl) (ow hw 27 rfl) (ow hw 29 rfl) (ow hw 28 rfl) (rmap2_0N0 l Z a0 hw [] b478 b469 kl469 (own_k p2) (own_k p3) (own_k p4) ib_523 ks_523 kk_523 (0 : Int32) (0 : Int32) (0 : Int32) T523.heap n0 Zs525 F527 P523_0 P523_1 P523_2 P523_3 P523_7 P523_8 P523_12 F530 gx524 gx531 gx532 nx533 (own_pos p2) (own_pos p3) (own_pos p4)) (ow hw 30 rfl) (ow hw 4 rfl) F527 rfl (by rw [hml]; rfl) rfl (hb hby at_64) (lenOf pd___II_I rfl) rfl (by decide) (fun T526 v526 Ll526 X526 hQ526 => ?_)
         obtain ⟨rfl, N526q, K526, P526_0, P526_1, P526_2, P526_3, P526_4⟩ := hQ526
         have N526 := Fr.app N523 N526q
         have Zs534 : n0 ≤ T526.heap.size := Nat.le_trans Zs525 K526.1
         refine own_go (b := (T526.setTop (mkF m 74 #[iv p0, iv p1, iv p2, iv p3, iv p4, iv (0 : Int32), iv (own_l1 p1), iv (own_l2 p1), rv b469, rv b478] [(.int (own_l1 p1)), (.ref b469), (.ref b478)]))) (fun _ k => XS.pop X526.here hx rfl (hb hby at_67) rfl rfl (XS.aload X526.here hx rfl (hb hby at_68) rfl rfl (XS.aload X526.here hx rfl (hb hby at_70) rfl rfl (XS.iload X526.here hx rfl (hb hby at_72) rfl k)))) ?_
         have F536 := F527.keep K526
         have F537 := P523_7.keep K526
         obtain ⟨cn538, An538, -⟩ := id P523_12
         have nx539 : ib_523 ≠ ks_523 := (ne_arr P523_7 (ow hw 12 rfl) An538)
         have nx540 : ib_523 ≠ b478 := (Ne.symm (own_ne A478.lt (Nat.le_refl _) P523_4))
         have F541 := P523_8.keep K526 (ninS nx540 (ninS nx539 nin0))
         have F542 := P523_9.keep K526 (ninS nx540 (ninS nx539 nin0))
         have F543 := F530.keep K526 (ninS nx529 (ninS (Ne.symm nx533) nin0))
         have gx544 : n0 ≤ bl_523 := Nat.le_trans Zs479 P523_6
         have nx545 : b469 ≠ bl_523 := (own_ne V469.lt (own_tr (own_tr (own_tr (Keep.of_wr W471).1 (Keep.of_wr W474).1) (Keep.of_wr W476).1) E478.1) P523_6)
         have nx546 : bl_523 ≠ b478 := (Ne.symm (own_ne A478.lt (Nat.le_refl _) P523_6))
         have F547 := P523_10.keep K526 (ninS nx546 (ninS (Ne.symm P523_13) nin0))
         refine own_virt (W := 0) X526 hx hZ hown rfl (ow hw 26 rfl) (ow hw 27 rfl) (ow hw 29 rfl) (ow hw 28 rfl) (rmap2_1E1 l Z a0 hw [] b478 b469 kl469 (own_k p2) (own_k p3) (own_k p4) (own_l1 p1) ib_523 ks_523 kk_523 bl_523 kb_523 (0 : Int32) (0 : Int32) T526.heap n0 Zs534 F536 P526_0 P526_3 P526_1 P526_2 F537 F541 F542 P526_4 F543 gx524 gx531 gx532 nx533 gx544 P523_13 nx545 (own_pos p2) (own_pos p3) (own_pos p4) (own_nz _ hz1).1 (own_nz _ hz1).2 F547 P523_11) (ow hw 30 rfl) (ow hw 4 rfl) F536 rfl (by rw [hml]; rfl) rfl (hb hby at_74) (lenOf pd___II_I rfl) rfl (by decide) (fun T535 v535 Ll535 X535 hQ535 => ?_)
         obtain ⟨ksn_535, kkn_535, cn_535, kn_535, vsn_535, rfl, N535q, K535, P535_0, P535_1, P535_2, P535_3, P535_4, P535_5, P535_6, P535_7, P535_8, P535_9, P535_10, P535_11, P535_12⟩ := hQ535
         have N535 := Fr.app N526 N535q
         have Zs548 : n0 ≤ T535.heap.size := Nat.le_trans Zs534 K535.1
         refine own_go (b := (T535.setTop (mkF m 84 #[iv p0, iv p1, iv p2, iv p3, iv p4, iv (0 : Int32), iv (own_l1 p1), iv (own_l2 p1), rv b469, rv b478] [(.int (own_l2 p1)), (.ref b469), (.ref b478)]))) (fun _ k => XS.pop X535.here hx rfl (hb hby at_77) rfl rfl (XS.aload X535.here hx rfl (hb hby at_78) rfl rfl (XS.aload X535.here hx rfl (hb hby at_80) rfl rfl (XS.iload X535.here hx rfl (hb hby at_82) rfl k)))) ?_
         have F550 := F536.keep K535
         have F551 := F537.keep K535
         have nx552 : b469 ≠ ib_523 := (own_ne V469.lt (own_tr (own_tr (own_tr (Keep.of_wr W471).1 (Keep.of_wr W474).1) (Keep.of_wr W476).1) E478.1) P523_4)
         have F553 := F543.keep K535 (ninS nx529 (ninS nx552 (ninS nx545 nin0)))
         have gx554 : n0 ≤ ksn_535 := Nat.le_trans Zs534 P535_3
         have nx555 : ksn_535 ≠ b469 := (Ne.symm (own_ne V469.lt (own_tr (own_tr (own_tr (own_tr (own_tr (Keep.of_wr W471).1 (Keep.of_wr W474).1) (Keep.of_wr W476).1) E478.1) K523.1) K526.1) P535_3))
         have nx556 : ksn_535 ≠ bl_523 := (Ne.symm (own_ne P523_10.lt K526.1 P535_3))
         have gx557 : n0 ≤ cn_535 := Nat.le_trans Zs534 P535_8
         have nx558 : b469 ≠ cn_535 := (own_ne V469.lt (own_tr (own_tr (own_tr (own_tr (own_tr (Keep.of_wr W471).1 (Keep.of_wr W474).1) (Keep.of_wr W476).1) E478.1) K523.1) K526.1) P535_8)
         have nx559 : bl_523 ≠ cn_535 := (own_ne P523_10.lt K526.1 P535_8)
         refine own_virt (W := 0) X535 hx hZ hown rfl (ow hw 26 rfl) (ow hw 27 rfl) (ow hw 29 rfl) (ow hw 28 rfl) (rmap4_2F1 l Z a0 hw [] b478 b469 kl469 (own_k p2) (own_k p3) (own_k p4) (own_l2 p1) ib_523 ksn_535 kkn_535 bl_523 kb_523 (0 : Int32) (0 : Int32) (own_l1 p1) (0 : Int32) (own_l1 p1) cn_535 kn_535 vsn_535 T535.heap n0 Zs548 F550 P535_0 P535_4 P535_1 P535_2 F551 P535_6 P535_7 P535_5 F553 gx524 gx531 gx554 nx555 gx544 nx556 nx545 (own_pos p2) (own_pos p3) (own_pos p4) (own_nz _ hz2).1 (own_nz _ hz2).2 P535_9 P535_10 P535_11 gx557 nx558 nx559 P535_12 (own_nz _ hz1).1 (own_36 (own_nz _ hz1).2)) (ow hw 30 rfl) (ow hw 4 rfl) F550 rfl (by rw [hml]; rfl) rfl (hb hby at_84) (lenOf pd___II_I rfl) rfl (by decide) (fun T549 v549 Ll549 X549 hQ549 => ?_)
         obtain ⟨vsn_549, rfl, N549q, K549, P549_0, P549_1, P549_2, P549_3, P549_4, P549_5, P549_6, P549_7, P549_8⟩ := hQ549
         have N549 := Fr.app N535 N549q
         have Zs560 : n0 ≤ T549.heap.size := Nat.le_trans Zs548 K549.1
         refine own_go (b := (T549.setTop (mkF m 91 #[iv p0, iv p1, iv p2, iv p3, iv p4, iv (0 : Int32), iv (own_l1 p1), iv (own_l2 p1), rv b469, rv b478] [(.int (0 : Int32)), (.ref b478)]))) (fun _ k => XS.pop X549.here hx rfl (hb hby at_87) rfl rfl (XS.aload X549.here hx rfl (hb hby at_88) rfl rfl (XS.iconst X549.here hx rfl (hb hby at_90) k))) ?_
         have F562 := F550.keep K549
         refine own_virt (W := 0) X549 hx hZ hown rfl (ow hw 68 rfl) (ow hw 69 rfl) (ow hw 71 rfl) (ow hw 70 rfl) (rmlen4_0 l Z a0 hw [] b478 ksn_535 kkn_535 (0 : Int32) (0 : Int32) (own_l1 p1) ((own_l1 p1) + (own_l2 p1)) T549.heap n0 Zs560 P549_3 P549_4) (ow hw 72 rfl) (ow hw 4 rfl) F562 rfl (by rw [hml]; rfl) rfl (hb hby at_91) (lenOf pd__I_I rfl) rfl (by decide) (fun T561 v561 Ll561 X561 hQ561 => ?_)
         obtain ⟨rfl, N561q, eh561⟩ := hQ561
         have N561 := Fr.app N549 N561q
         refine own_go (b := (T561.setTop (mkF m 102 #[iv p0, iv p1, iv p2, iv p3, iv p4, iv (0 : Int32), iv (own_l1 p1), iv (own_l2 p1), rv b469, rv b478] [(.int (1 : Int32)), (.ref b478)]))) (fun _ k => XS.iload X561.here hx rfl (hb hby at_94) rfl (XS.icmpNo X561.here hx rfl (hb hby at_96) rfl (teq (Int32.sub_self _)).2 (XS.aload X561.here hx rfl (hb hby at_99) rfl rfl (XS.iconst X561.here hx rfl (hb hby at_101) k)))) ?_
         refine own_virt (W := 0) X561 hx hZ hown eh561 (ow hw 68 rfl) (ow hw 69 rfl) (ow hw 71 rfl) (ow hw 70 rfl) (rmlen4_1 l Z a0 hw [] b478 ksn_535 kkn_535 (0 : Int32) (0 : Int32) (own_l1 p1) ((own_l1 p1) + (own_l2 p1)) T549.heap n0 Zs560 P549_3 P549_4) (ow hw 72 rfl) (ow hw 4 rfl) F562 rfl (by rw [hml]; rfl) rfl (hb hby at_102) (lenOf pd__I_I rfl) rfl (by decide) (fun T563 v563 Ll563 X563 hQ563 => ?_)
         obtain ⟨rfl, N563q, eh563⟩ := hQ563
         have N563 := Fr.app N561 N563q
         refine own_go (b := (T563.setTop (mkF m 113 #[iv p0, iv p1, iv p2, iv p3, iv p4, iv (0 : Int32), iv (own_l1 p1), iv (own_l2 p1), rv b469, rv b478] [(.int (2 : Int32)), (.ref b478)]))) (fun _ k => XS.iload X563.here hx rfl (hb hby at_105) rfl (XS.icmpNo X563.here hx rfl (hb hby at_107) rfl (teq (Int32.sub_zero _)).2 (XS.aload X563.here hx rfl (hb hby at_110) rfl rfl (XS.iconst X563.here hx rfl (hb hby at_112) k)))) ?_
         refine own_virt (W := 0) X563 hx hZ hown eh563 (ow hw 68 rfl) (ow hw 69 rfl) (ow hw 71 rfl) (ow hw 70 rfl) (rmlen4_2 l Z a0 hw [] b478 ksn_535 kkn_535 (0 : Int32) (0 : Int32) (own_l1 p1) ((own_l1 p1) + (own_l2 p1)) T549.heap n0 Zs560 P549_3 P549_4) (ow hw 72 rfl) (ow hw 4 rfl) F562 rfl (by rw [hml]; rfl) rfl (hb hby at_113) (lenOf pd__I_I rfl) rfl (by decide) (fun T564 v564 Ll564 X564 hQ564 => ?_)
         obtain ⟨rfl, N564q, eh564⟩ := hQ564
         have N564 := Fr.app N563 N564q
         refine own_go (b := (T564.setTop (mkF m 126 #[iv p0, iv p1, iv p2, iv p3, iv p4, iv (0 : Int32), iv (own_l1 p1), iv (own_l2 p1), rv b469, rv b478] [(.int (1 : Int32))]))) (fun _ k => XS.iload X564.here hx rfl (hb hby at_116) rfl (XS.icmpNo X564.here hx rfl (hb hby at_118) rfl (teq (own_addsub _ _)).2 (XS.iconst X564.here hx rfl (hb hby at_121) (XS.goto X564.here hx rfl (pc0 := 122) (pc' := 126) rfl (hb hby at_122) (by decide) (by decide) k)))) ?_
         obtain ⟨fs, hr, hrun, hended, hW, hsame⟩ := X564.leave (v := some (.int (1 : Int32))) (fun h => by rw [Bd.returns] at h; cases h)
         exact ⟨_, _, retN X564 hx (t := .boolean) Bd.returns (by simp) (hb hby at_126) hr, hrun, hended, _, _, rfl, (show Qrm0 Z p0 p1 p2 p3 p4 h0 n0 _ T564.heap _ from (by rw [eh564]; exact ⟨rfl, N564⟩)), ⟨_, rfl⟩, hW, hsame.mono (by decide) (by decide)⟩
       · rw [hk]
         have gx566 : n0 ≤ b478 := Nat.le_trans Zs477 (Nat.le_of_eq g478.symm)
         refine own_spec (W := 1) X478 hx hZ hown e478 (ow hw 5 rfl) (ow hw 6 rfl) (rmft2 l Z a0 hw [] b478 .null .null h478 n0 Zs479 A478 F478_keys F478_keyStarts F478_labelStarts F478_size gx566) (ow hw 7 rfl) (ow hw 4 rfl) rfl (by rw [hml]; rfl) rfl (hb hby at_53) (lenOf pd__I_V rfl) rfl rfl (by decide) (fun T565 v565 Ll565 X565 hQ565 => ?_)
         obtain ⟨ib_565, ks_565, kk_565, bl_565, kb_565, rfl, N565q, K565, P565_0, P565_1, P565_2, P565_3, P565_4, P565_5, P565_6, P565_7, P565_8, P565_9, P565_10, P565_11, P565_12, P565_13⟩ := hQ565
         have N565 := Fr.app N476 N565q
         have Zs567 : n0 ≤ T565.heap.size := Nat.le_trans Zs479 K565.1
         refine own_go (b := (T565.setTop (mkF m 64 #[iv p0, iv p1, iv p2, iv p3, iv p4, iv (0 : Int32), iv (own_l1 p1), iv (own_l2 p1), rv b469, rv b478] [(.int (0 : Int32)), (.ref b469), (.ref b478)]))) (fun _ k => XS.astore X565.here hx rfl (hb hby at_56) rfl rfl (l' := #[iv p0, iv p1, iv p2, iv p3, iv p4, iv (0 : Int32), iv (own_l1 p1), iv (own_l2 p1), rv b469, rv b478]) rfl (XS.aload X565.here hx rfl (hb hby at_58) rfl rfl (XS.aload X565.here hx rfl (hb hby at_60) rfl rfl (XS.iload X565.here hx rfl (hb hby at_62) rfl k)))) ?_
         have F569 := A478.keep K565
         have F570 := V476.ext E478
         have nx571 : b469 ≠ b478 := (own_ne V469.lt (own_tr (own_tr (Keep.of_wr W471).1 (Keep.of_wr W474).1) (Keep.of_wr W476).1) (Nat.le_of_eq g478.symm))
         have F572 := F570.keep K565 (ninS nx571 nin0)
         have gx573 : n0 ≤ ib_565 := Nat.le_trans Zs479 P565_4
         have gx574 : n0 ≤ ks_565 := Nat.le_trans Zs479 P565_5
         have nx575 : ks_565 ≠ b469 := (Ne.symm (own_ne V469.lt (own_tr (own_tr (own_tr (Keep.of_wr W471).1 (Keep.of_wr W474).1) (Keep.of_wr W476).1) E478.1) P565_5))
         refine own_virt (W := 0) X565 hx hZ hown rfl (ow hw 26 rfl) (ow hw 27 rfl) (ow hw 29 rfl) (ow hw 28 rfl) (rmap3_0N0 l Z a0 hw [] b478 b469 kl469 (own_k p2) (own_k p3) (own_k p4) ib_565 ks_565 kk_565 (0 : Int32) (0 : Int32) (0 : Int32) (0 : Int32) T565.heap n0 Zs567 F569 P565_0 P565_1 P565_2 P565_3 P565_7 P565_8 P565_12 F572 gx566 gx573 gx574 nx575 (own_pos p2) (own_pos p3) (own_pos p4)) (ow hw 30 rfl) (ow hw 4 rfl) F569 rfl (by rw [hml]; rfl) rfl (hb hby at_64) (lenOf pd___II_I rfl) rfl (by decide) (fun T568 v568 Ll568 X568 hQ568 => ?_)
         obtain ⟨rfl, N568q, K568, P568_0, P568_1, P568_2, P568_3, P568_4⟩ := hQ568
         have N568 := Fr.app N565 N568q
         have Zs576 : n0 ≤ T568.heap.size := Nat.le_trans Zs567 K568.1
         refine own_go (b := (T568.setTop (mkF m 74 #[iv p0, iv p1, iv p2, iv p3, iv p4, iv (0 : Int32), iv (own_l1 p1), iv (own_l2 p1), rv b469, rv b478] [(.int (own_l1 p1)), (.ref b469), (.ref b478)]))) (fun _ k => XS.pop X568.here hx rfl (hb hby at_67) rfl rfl (XS.aload X568.here hx rfl (hb hby at_68) rfl rfl (XS.aload X568.here hx rfl (hb hby at_70) rfl rfl (XS.iload X568.here hx rfl (hb hby at_72) rfl k)))) ?_
         have F578 := F569.keep K568
         have F579 := P565_7.keep K568
         obtain ⟨cn580, An580, -⟩ := id P565_12
         have nx581 : ib_565 ≠ ks_565 := (ne_arr P565_7 (ow hw 12 rfl) An580)
         have nx582 : ib_565 ≠ b478 := (Ne.symm (own_ne A478.lt (Nat.le_refl _) P565_4))
         have F583 := P565_8.keep K568 (ninS nx582 (ninS nx581 nin0))
         have F584 := P565_9.keep K568 (ninS nx582 (ninS nx581 nin0))
         have F585 := F572.keep K568 (ninS nx571 (ninS (Ne.symm nx575) nin0))
         have gx586 : n0 ≤ bl_565 := Nat.le_trans Zs479 P565_6
         have nx587 : b469 ≠ bl_565 := (own_ne V469.lt (own_tr (own_tr (own_tr (Keep.of_wr W471).1 (Keep.of_wr W474).1) (Keep.of_wr W476).1) E478.1) P565_6)
         have nx588 : bl_565 ≠ b478 := (Ne.symm (own_ne A478.lt (Nat.le_refl _) P565_6))
         have F589 := P565_10.keep K568 (ninS nx588 (ninS (Ne.symm P565_13) nin0))
         refine own_virt (W := 0) X568 hx hZ hown rfl (ow hw 26 rfl) (ow hw 27 rfl) (ow hw 29 rfl) (ow hw 28 rfl) (rmap3_1E1 l Z a0 hw [] b478 b469 kl469 (own_k p2) (own_k p3) (own_k p4) (own_l1 p1) ib_565 ks_565 kk_565 bl_565 kb_565 (0 : Int32) (0 : Int32) (0 : Int32) T568.heap n0 Zs576 F578 P568_0 P568_3 P568_1 P568_2 F579 F583 F584 P568_4 F585 gx566 gx573 gx574 nx575 gx586 P565_13 nx587 (own_pos p2) (own_pos p3) (own_pos p4) (own_nz _ hz1).1 (own_nz _ hz1).2 F589 P565_11) (ow hw 30 rfl) (ow hw 4 rfl) F578 rfl (by rw [hml]; rfl) rfl (hb hby at_74) (lenOf pd___II_I rfl) rfl (by decide) (fun T577 v577 Ll577 X577 hQ577 => ?_)
         obtain ⟨cn_577, kn_577, vsn_577, rfl, N577q, K577, P577_0, P577_1, P577_2, P577_3, P577_4, P577_5, P577_6, P577_7, P577_8, P577_9, P577_10⟩ := hQ577
         have N577 := Fr.app N568 N577q
         have Zs590 : n0 ≤ T577.heap.size := Nat.le_trans Zs576 K577.1
         refine own_go (b := (T577.setTop (mkF m 84 #[iv p0, iv p1, iv p2, iv p3, iv p4, iv (0 : Int32), iv (own_l1 p1), iv (own_l2 p1), rv b469, rv b478] [(.int (own_l2 p1)), (.ref b469), (.ref b478)]))) (fun _ k => XS.pop X577.here hx rfl (hb hby at_77) rfl rfl (XS.aload X577.here hx rfl (hb hby at_78) rfl rfl (XS.aload X577.here hx rfl (hb hby at_80) rfl rfl (XS.iload X577.here hx rfl (hb hby at_82) rfl k)))) ?_
         have F592 := F578.keep K577
         have F593 := F579.keep K577
         have nx594 : b469 ≠ ib_565 := (own_ne V469.lt (own_tr (own_tr (own_tr (Keep.of_wr W471).1 (Keep.of_wr W474).1) (Keep.of_wr W476).1) E478.1) P565_4)
         have F595 := F585.keep K577 (ninS nx571 (ninS nx594 (ninS (Ne.symm nx575) (ninS nx587 nin0))))
         have gx596 : n0 ≤ cn_577 := Nat.le_trans Zs576 P577_7
         have nx597 : b469 ≠ cn_577 := (own_ne V469.lt (own_tr (own_tr (own_tr (own_tr (own_tr (Keep.of_wr W471).1 (Keep.of_wr W474).1) (Keep.of_wr W476).1) E478.1) K565.1) K568.1) P577_7)
         have nx598 : bl_565 ≠ cn_577 := (own_ne P565_10.lt K568.1 P577_7)
         have nx599 : ks_565 ≠ cn_577 := (own_ne P565_12.lt K568.1 P577_7)
         refine own_virt (W := 0) X577 hx hZ hown rfl (ow hw 26 rfl) (ow hw 27 rfl) (ow hw 29 rfl) (ow hw 28 rfl) (rmap3_2F1 l Z a0 hw [] b478 b469 kl469 (own_k p2) (own_k p3) (own_k p4) (own_l2 p1) ib_565 ks_565 kk_565 bl_565 kb_565 (0 : Int32) (0 : Int32) (own_l1 p1) (own_l1 p1) cn_577 kn_577 vsn_577 T577.heap n0 Zs590 F592 P577_0 P577_3 P577_1 P577_2 F593 P577_5 P577_6 P577_4 F595 gx566 gx573 gx574 nx575 gx586 P565_13 nx587 (own_pos p2) (own_pos p3) (own_pos p4) (own_nz _ hz2).1 (own_nz _ hz2).2 P577_8 P577_9 P577_10 gx596 nx597 nx598 nx599 (own_nz _ hz1).1 (own_36 (own_nz _ hz1).2)) (ow hw 30 rfl) (ow hw 4 rfl) F592 rfl (by rw [hml]; rfl) rfl (hb hby at_84) (lenOf pd___II_I rfl) rfl (by decide) (fun T591 v591 Ll591 X591 hQ591 => ?_)
         obtain ⟨ksn_591, kkn_591, vsn_591, rfl, N591q, K591, P591_0, P591_1, P591_2, P591_3, P591_4, P591_5, P591_6, P591_7, P591_8, P591_9⟩ := hQ591
         have N591 := Fr.app N577 N591q
         have Zs600 : n0 ≤ T591.heap.size := Nat.le_trans Zs590 K591.1
         refine own_go (b := (T591.setTop (mkF m 91 #[iv p0, iv p1, iv p2, iv p3, iv p4, iv (0 : Int32), iv (own_l1 p1), iv (own_l2 p1), rv b469, rv b478] [(.int (0 : Int32)), (.ref b478)]))) (fun _ k => XS.pop X591.here hx rfl (hb hby at_87) rfl rfl (XS.aload X591.here hx rfl (hb hby at_88) rfl rfl (XS.iconst X591.here hx rfl (hb hby at_90) k))) ?_
         have F602 := F592.keep K591
         refine own_virt (W := 0) X591 hx hZ hown rfl (ow hw 68 rfl) (ow hw 69 rfl) (ow hw 71 rfl) (ow hw 70 rfl) (rmlen6_0 l Z a0 hw [] b478 ksn_591 kkn_591 (0 : Int32) (0 : Int32) (own_l1 p1) ((own_l1 p1) + (own_l2 p1)) (0 : Int32) (0 : Int32) T591.heap n0 Zs600 P591_4 P591_5) (ow hw 72 rfl) (ow hw 4 rfl) F602 rfl (by rw [hml]; rfl) rfl (hb hby at_91) (lenOf pd__I_I rfl) rfl (by decide) (fun T601 v601 Ll601 X601 hQ601 => ?_)
         obtain ⟨rfl, N601q, eh601⟩ := hQ601
         have N601 := Fr.app N591 N601q
         refine own_go (b := (T601.setTop (mkF m 102 #[iv p0, iv p1, iv p2, iv p3, iv p4, iv (0 : Int32), iv (own_l1 p1), iv (own_l2 p1), rv b469, rv b478] [(.int (1 : Int32)), (.ref b478)]))) (fun _ k => XS.iload X601.here hx rfl (hb hby at_94) rfl (XS.icmpNo X601.here hx rfl (hb hby at_96) rfl (teq (Int32.sub_self _)).2 (XS.aload X601.here hx rfl (hb hby at_99) rfl rfl (XS.iconst X601.here hx rfl (hb hby at_101) k)))) ?_
         refine own_virt (W := 0) X601 hx hZ hown eh601 (ow hw 68 rfl) (ow hw 69 rfl) (ow hw 71 rfl) (ow hw 70 rfl) (rmlen6_1 l Z a0 hw [] b478 ksn_591 kkn_591 (0 : Int32) (0 : Int32) (own_l1 p1) ((own_l1 p1) + (own_l2 p1)) (0 : Int32) (0 : Int32) T591.heap n0 Zs600 P591_4 P591_5) (ow hw 72 rfl) (ow hw 4 rfl) F602 rfl (by rw [hml]; rfl) rfl (hb hby at_102) (lenOf pd__I_I rfl) rfl (by decide) (fun T603 v603 Ll603 X603 hQ603 => ?_)
         obtain ⟨rfl, N603q, eh603⟩ := hQ603
         have N603 := Fr.app N601 N603q
         refine own_go (b := (T603.setTop (mkF m 113 #[iv p0, iv p1, iv p2, iv p3, iv p4, iv (0 : Int32), iv (own_l1 p1), iv (own_l2 p1), rv b469, rv b478] [(.int (2 : Int32)), (.ref b478)]))) (fun _ k => XS.iload X603.here hx rfl (hb hby at_105) rfl (XS.icmpNo X603.here hx rfl (hb hby at_107) rfl (teq (Int32.sub_zero _)).2 (XS.aload X603.here hx rfl (hb hby at_110) rfl rfl (XS.iconst X603.here hx rfl (hb hby at_112) k)))) ?_
         refine own_virt (W := 0) X603 hx hZ hown eh603 (ow hw 68 rfl) (ow hw 69 rfl) (ow hw 71 rfl) (ow hw 70 rfl) (rmlen6_2 l Z a0 hw [] b478 ksn_591 kkn_591 (0 : Int32) (0 : Int32) (own_l1 p1) ((own_l1 p1) + (own_l2 p1)) (0 : Int32) (0 : Int32) T591.heap n0 Zs600 P591_4 P591_5) (ow hw 72 rfl) (ow hw 4 rfl) F602 rfl (by rw [hml]; rfl) rfl (hb hby at_113) (lenOf pd__I_I rfl) rfl (by decide) (fun T604 v604 Ll604 X604 hQ604 => ?_)
         obtain ⟨rfl, N604q, eh604⟩ := hQ604
         have N604 := Fr.app N603 N604q
         refine own_go (b := (T604.setTop (mkF m 126 #[iv p0, iv p1, iv p2, iv p3, iv p4, iv (0 : Int32), iv (own_l1 p1), iv (own_l2 p1), rv b469, rv b478] [(.int (1 : Int32))]))) (fun _ k => XS.iload X604.here hx rfl (hb hby at_116) rfl (XS.icmpNo X604.here hx rfl (hb hby at_118) rfl (teq (own_addsub _ _)).2 (XS.iconst X604.here hx rfl (hb hby at_121) (XS.goto X604.here hx rfl (pc0 := 122) (pc' := 126) rfl (hb hby at_122) (by decide) (by decide) k)))) ?_
         obtain ⟨fs, hr, hrun, hended, hW, hsame⟩ := X604.leave (v := some (.int (1 : Int32))) (fun h => by rw [Bd.returns] at h; cases h)
         exact ⟨_, _, retN X604 hx (t := .boolean) Bd.returns (by simp) (hb hby at_126) hr, hrun, hended, _, _, rfl, (show Qrm0 Z p0 p1 p2 p3 p4 h0 n0 _ T604.heap _ from (by rw [eh604]; exact ⟨rfl, N604⟩)), ⟨_, rfl⟩, hW, hsame.mono (by decide) (by decide)⟩
       · rw [hk]
         have gx606 : n0 ≤ b478 := Nat.le_trans Zs477 (Nat.le_of_eq g478.symm)
         refine own_spec (W := 1) X478 hx hZ hown e478 (ow hw 5 rfl) (ow hw 6 rfl) (rmft3 l Z a0 hw [] b478 .null .null h478 n0 Zs479 A478 F478_keys F478_keyStarts F478_labelStarts F478_size gx606) (ow hw 7 rfl) (ow hw 4 rfl) rfl (by rw [hml]; rfl) rfl (hb hby at_53) (lenOf pd__I_V rfl) rfl rfl (by decide) (fun T605 v605 Ll605 X605 hQ605 => ?_)
         obtain ⟨ib_605, ks_605, kk_605, bl_605, kb_605, rfl, N605q, K605, P605_0, P605_1, P605_2, P605_3, P605_4, P605_5, P605_6, P605_7, P605_8, P605_9, P605_10, P605_11, P605_12, P605_13⟩ := hQ605
         have N605 := Fr.app N476 N605q
         have Zs607 : n0 ≤ T605.heap.size := Nat.le_trans Zs479 K605.1
         refine own_go (b := (T605.setTop (mkF m 64 #[iv p0, iv p1, iv p2, iv p3, iv p4, iv (0 : Int32), iv (own_l1 p1), iv (own_l2 p1), rv b469, rv b478] [(.int (0 : Int32)), (.ref b469), (.ref b478)]))) (fun _ k => XS.astore X605.here hx rfl (hb hby at_56) rfl rfl (l' := #[iv p0, iv p1, iv p2, iv p3, iv p4, iv (0 : Int32), iv (own_l1 p1), iv (own_l2 p1), rv b469, rv b478]) rfl (XS.aload X605.here hx rfl (hb hby at_58) rfl rfl (XS.aload X605.here hx rfl (hb hby at_60) rfl rfl (XS.iload X605.here hx rfl (hb hby at_62) rfl k)))) ?_
         have F609 := A478.keep K605
         have F610 := V476.ext E478
         have nx611 : b469 ≠ b478 := (own_ne V469.lt (own_tr (own_tr (Keep.of_wr W471).1 (Keep.of_wr W474).1) (Keep.of_wr W476).1) (Nat.le_of_eq g478.symm))
         have F612 := F610.keep K605 (ninS nx611 nin0)
         have gx613 : n0 ≤ ib_605 := Nat.le_trans Zs479 P605_4
         have gx614 : n0 ≤ ks_605 := Nat.le_trans Zs479 P605_5
         have nx615 : ks_605 ≠ b469 := (Ne.symm (own_ne V469.lt (own_tr (own_tr (own_tr (Keep.of_wr W471).1 (Keep.of_wr W474).1) (Keep.of_wr W476).1) E478.1) P605_5))
         refine own_virt (W := 0) X605 hx hZ hown rfl (ow hw 26 rfl) (ow hw 27 rfl) (ow hw 29 rfl) (ow hw 28 rfl) (rmap4_0N0 l Z a0 hw [] b478 b469 kl469 (own_k p2) (own_k p3) (own_k p4) ib_605 ks_605 kk_605 (0 : Int32) (0 : Int32) (0 : Int32) (0 : Int32) (0 : Int32) T605.heap n0 Zs607 F609 P605_0 P605_1 P605_2 P605_3 P605_7 P605_8 P605_12 F612 gx606 gx613 gx614 nx615 (own_pos p2) (own_pos p3) (own_pos p4)) (ow hw 30 rfl) (ow hw 4 rfl) F609 rfl (by rw [hml]; rfl) rfl (hb hby at_64) (lenOf pd___II_I rfl) rfl (by decide) (fun T608 v608 Ll608 X608 hQ608 => ?_)
         obtain ⟨rfl, N608q, K608, P608_0, P608_1, P608_2, P608_3, P608_4⟩ := hQ608
         have N608 := Fr.app N605 N608q
         have Zs616 : n0 ≤ T608.heap.size := Nat.le_trans Zs607 K608.1
         refine own_go (b := (T608.setTop (mkF m 74 #[iv p0, iv p1, iv p2, iv p3, iv p4, iv (0 : Int32), iv (own_l1 p1), iv (own_l2 p1), rv b469, rv b478] [(.int (own_l1 p1)), (.ref b469), (.ref b478)]))) (fun _ k => XS.pop X608.here hx rfl (hb hby at_67) rfl rfl (XS.aload X608.here hx rfl (hb hby at_68) rfl rfl (XS.aload X608.here hx rfl (hb hby at_70) rfl rfl (XS.iload X608.here hx rfl (hb hby at_72) rfl k)))) ?_
         have F618 := F609.keep K608
         have F619 := P605_7.keep K608
         obtain ⟨cn620, An620, -⟩ := id P605_12
         have nx621 : ib_605 ≠ ks_605 := (ne_arr P605_7 (ow hw 12 rfl) An620)
         have nx622 : ib_605 ≠ b478 := (Ne.symm (own_ne A478.lt (Nat.le_refl _) P605_4))
         have F623 := P605_8.keep K608 (ninS nx622 (ninS nx621 nin0))
         have F624 := P605_9.keep K608 (ninS nx622 (ninS nx621 nin0))
         have F625 := F612.keep K608 (ninS nx611 (ninS (Ne.symm nx615) nin0))
         have gx626 : n0 ≤ bl_605 := Nat.le_trans Zs479 P605_6
         have nx627 : b469 ≠ bl_605 := (own_ne V469.lt (own_tr (own_tr (own_tr (Keep.of_wr W471).1 (Keep.of_wr W474).1) (Keep.of_wr W476).1) E478.1) P605_6)
         have nx628 : bl_605 ≠ b478 := (Ne.symm (own_ne A478.lt (Nat.le_refl _) P605_6))
         have F629 := P605_10.keep K608 (ninS nx628 (ninS (Ne.symm P605_13) nin0))
         refine own_virt (W := 0) X608 hx hZ hown rfl (ow hw 26 rfl) (ow hw 27 rfl) (ow hw 29 rfl) (ow hw 28 rfl) (rmap4_1E1 l Z a0 hw [] b478 b469 kl469 (own_k p2) (own_k p3) (own_k p4) (own_l1 p1) ib_605 ks_605 kk_605 bl_605 kb_605 (0 : Int32) (0 : Int32) (0 : Int32) (0 : Int32) T608.heap n0 Zs616 F618 P608_0 P608_3 P608_1 P608_2 F619 F623 F624 P608_4 F625 gx606 gx613 gx614 nx615 gx626 P605_13 nx627 (own_pos p2) (own_pos p3) (own_pos p4) (own_nz _ hz1).1 (own_nz _ hz1).2 F629 P605_11) (ow hw 30 rfl) (ow hw 4 rfl) F618 rfl (by rw [hml]; rfl) rfl (hb hby at_74) (lenOf pd___II_I rfl) rfl (by decide) (fun T617 v617 Ll617 X617 hQ617 => ?_)
         obtain ⟨cn_617, kn_617, vsn_617, rfl, N617q, K617, P617_0, P617_1, P617_2, P617_3, P617_4, P617_5, P617_6, P617_7, P617_8, P617_9, P617_10⟩ := hQ617
         have N617 := Fr.app N608 N617q
         have Zs630 : n0 ≤ T617.heap.size := Nat.le_trans Zs616 K617.1
         refine own_go (b := (T617.setTop (mkF m 84 #[iv p0, iv p1, iv p2, iv p3, iv p4, iv (0 : Int32), iv (own_l1 p1), iv (own_l2 p1), rv b469, rv b478] [(.int (own_l2 p1)), (.ref b469), (.ref b478)]))) (fun _ k => XS.pop X617.here hx rfl (hb hby at_77) rfl rfl (XS.aload X617.here hx rfl (hb hby at_78) rfl rfl (XS.aload X617.here hx rfl (hb hby at_80) rfl rfl (XS.iload X617.here hx rfl (hb hby at_82) rfl k)))) ?_
         have F632 := F618.keep K617
         have F633 := F619.keep K617
         have nx634 : b469 ≠ ib_605 := (own_ne V469.lt (own_tr (own_tr (own_tr (Keep.of_wr W471).1 (Keep.of_wr W474).1) (Keep.of_wr W476).1) E478.1) P605_4)
         have F635 := F625.keep K617 (ninS nx611 (ninS nx634 (ninS (Ne.symm nx615) (ninS nx627 nin0))))
         have gx636 : n0 ≤ cn_617 := Nat.le_trans Zs616 P617_7
         have nx637 : b469 ≠ cn_617 := (own_ne V469.lt (own_tr (own_tr (own_tr (own_tr (own_tr (Keep.of_wr W471).1 (Keep.of_wr W474).1) (Keep.of_wr W476).1) E478.1) K605.1) K608.1) P617_7)
         have nx638 : bl_605 ≠ cn_617 := (own_ne P605_10.lt K608.1 P617_7)
         have nx639 : ks_605 ≠ cn_617 := (own_ne P605_12.lt K608.1 P617_7)
         refine own_virt (W := 0) X617 hx hZ hown rfl (ow hw 26 rfl) (ow hw 27 rfl) (ow hw 29 rfl) (ow hw 28 rfl) (rmap4_2F1 l Z a0 hw [] b478 b469 kl469 (own_k p2) (own_k p3) (own_k p4) (own_l2 p1) ib_605 ks_605 kk_605 bl_605 kb_605 (0 : Int32) (0 : Int32) (own_l1 p1) (0 : Int32) (own_l1 p1) cn_617 kn_617 vsn_617 T617.heap n0 Zs630 F632 P617_0 P617_3 P617_1 P617_2 F633 P617_5 P617_6 P617_4 F635 gx606 gx613 gx614 nx615 gx626 P605_13 nx627 (own_pos p2) (own_pos p3) (own_pos p4) (own_nz _ hz2).1 (own_nz _ hz2).2 P617_8 P617_9 P617_10 gx636 nx637 nx638 nx639 (own_nz _ hz1).1 (own_36 (own_nz _ hz1).2)) (ow hw 30 rfl) (ow hw 4 rfl) F632 rfl (by rw [hml]; rfl) rfl (hb hby at_84) (lenOf pd___II_I rfl) rfl (by decide) (fun T631 v631 Ll631 X631 hQ631 => ?_)
         obtain ⟨vsn_631, rfl, N631q, K631, P631_0, P631_1, P631_2, P631_3, P631_4, P631_5, P631_6, P631_7, P631_8⟩ := hQ631
         have N631 := Fr.app N617 N631q
         have Zs640 : n0 ≤ T631.heap.size := Nat.le_trans Zs630 K631.1
         refine own_go (b := (T631.setTop (mkF m 91 #[iv p0, iv p1, iv p2, iv p3, iv p4, iv (0 : Int32), iv (own_l1 p1), iv (own_l2 p1), rv b469, rv b478] [(.int (0 : Int32)), (.ref b478)]))) (fun _ k => XS.pop X631.here hx rfl (hb hby at_87) rfl rfl (XS.aload X631.here hx rfl (hb hby at_88) rfl rfl (XS.iconst X631.here hx rfl (hb hby at_90) k))) ?_
         have F642 := F632.keep K631
         refine own_virt (W := 0) X631 hx hZ hown rfl (ow hw 68 rfl) (ow hw 69 rfl) (ow hw 71 rfl) (ow hw 70 rfl) (rmlen4_0 l Z a0 hw [] b478 ks_605 kk_605 (0 : Int32) (0 : Int32) (own_l1 p1) ((own_l1 p1) + (own_l2 p1)) T631.heap n0 Zs640 P631_3 P631_4) (ow hw 72 rfl) (ow hw 4 rfl) F642 rfl (by rw [hml]; rfl) rfl (hb hby at_91) (lenOf pd__I_I rfl) rfl (by decide) (fun T641 v641 Ll641 X641 hQ641 => ?_)
         obtain ⟨rfl, N641q, eh641⟩ := hQ641
         have N641 := Fr.app N631 N641q
         refine own_go (b := (T641.setTop (mkF m 102 #[iv p0, iv p1, iv p2, iv p3, iv p4, iv (0 : Int32), iv (own_l1 p1), iv (own_l2 p1), rv b469, rv b478] [(.int (1 : Int32)), (.ref b478)]))) (fun _ k => XS.iload X641.here hx rfl (hb hby at_94) rfl (XS.icmpNo X641.here hx rfl (hb hby at_96) rfl (teq (Int32.sub_self _)).2 (XS.aload X641.here hx rfl (hb hby at_99) rfl rfl (XS.iconst X641.here hx rfl (hb hby at_101) k)))) ?_
         refine own_virt (W := 0) X641 hx hZ hown eh641 (ow hw 68 rfl) (ow hw 69 rfl) (ow hw 71 rfl) (ow hw 70 rfl) (rmlen4_1 l Z a0 hw [] b478 ks_605 kk_605 (0 : Int32) (0 : Int32) (own_l1 p1) ((own_l1 p1) + (own_l2 p1)) T631.heap n0 Zs640 P631_3 P631_4) (ow hw 72 rfl) (ow hw 4 rfl) F642 rfl (by rw [hml]; rfl) rfl (hb hby at_102) (lenOf pd__I_I rfl) rfl (by decide) (fun T643 v643 Ll643 X643 hQ643 => ?_)
         obtain ⟨rfl, N643q, eh643⟩ := hQ643
         have N643 := Fr.app N641 N643q
         refine own_go (b := (T643.setTop (mkF m 113 #[iv p0, iv p1, iv p2, iv p3, iv p4, iv (0 : Int32), iv (own_l1 p1), iv (own_l2 p1), rv b469, rv b478] [(.int (2 : Int32)), (.ref b478)]))) (fun _ k => XS.iload X643.here hx rfl (hb hby at_105) rfl (XS.icmpNo X643.here hx rfl (hb hby at_107) rfl (teq (Int32.sub_zero _)).2 (XS.aload X643.here hx rfl (hb hby at_110) rfl rfl (XS.iconst X643.here hx rfl (hb hby at_112) k)))) ?_
         refine own_virt (W := 0) X643 hx hZ hown eh643 (ow hw 68 rfl) (ow hw 69 rfl) (ow hw 71 rfl) (ow hw 70 rfl) (rmlen4_2 l Z a0 hw [] b478 ks_605 kk_605 (0 : Int32) (0 : Int32) (own_l1 p1) ((own_l1 p1) + (own_l2 p1)) T631.heap n0 Zs640 P631_3 P631_4) (ow hw 72 rfl) (ow hw 4 rfl) F642 rfl (by rw [hml]; rfl) rfl (hb hby at_113) (lenOf pd__I_I rfl) rfl (by decide) (fun T644 v644 Ll644 X644 hQ644 => ?_)
         obtain ⟨rfl, N644q, eh644⟩ := hQ644
         have N644 := Fr.app N643 N644q
         refine own_go (b := (T644.setTop (mkF m 126 #[iv p0, iv p1, iv p2, iv p3, iv p4, iv (0 : Int32), iv (own_l1 p1), iv (own_l2 p1), rv b469, rv b478] [(.int (1 : Int32))]))) (fun _ k => XS.iload X644.here hx rfl (hb hby at_116) rfl (XS.icmpNo X644.here hx rfl (hb hby at_118) rfl (teq (own_addsub _ _)).2 (XS.iconst X644.here hx rfl (hb hby at_121) (XS.goto X644.here hx rfl (pc0 := 122) (pc' := 126) rfl (hb hby at_122) (by decide) (by decide) k)))) ?_
         obtain ⟨fs, hr, hrun, hended, hW, hsame⟩ := X644.leave (v := some (.int (1 : Int32))) (fun h => by rw [Bd.returns] at h; cases h)
         exact ⟨_, _, retN X644 hx (t := .boolean) Bd.returns (by simp) (hb hby at_126) hr, hrun, hended, _, _, rfl, (show Qrm0 Z p0 p1 p2 p3 p4 h0 n0 _ T644.heap _ from (by rw [eh644]; exact ⟨rfl, N644⟩)), ⟨_, rfl⟩, hW, hsame.mono (by decide) (by decide)⟩
 · skip
   refine own_go (b := (s₁.setTop (mkF m 10 #[iv p0, iv p1, iv p2, iv p3, iv p4, iv (own_l0 p1), .unset, .unset, .unset, .unset] [(.int (own_l1 p1))]))) (fun _ k => XS.istore X0.here hx rfl (hb hby at_3) rfl (l' := #[iv p0, iv p1, iv p2, iv p3, iv p4, iv (own_l0 p1), .unset, .unset, .unset, .unset]) rfl (XS.iloadN X0.here hx rfl (hb hby at_5) rfl (XS.iconst X0.here hx rfl (hb hby at_6) (XS.iushr X0.here hx rfl (hb hby at_7) rfl (XS.iconst X0.here hx rfl (hb hby at_8) (XS.iand X0.here hx rfl (hb hby at_9) rfl k)))))) ?_
   by_cases hz1 : (own_l1 p1) = (0 : Int32)
   · skip
     rw [hz1]
     refine own_go (b := (s₁.setTop (mkF m 17 #[iv p0, iv p1, iv p2, iv p3, iv p4, iv (own_l0 p1), iv (0 : Int32), .unset, .unset, .unset] [(.int (own_l2 p1))]))) (fun _ k => XS.istore X0.here hx rfl (hb hby at_10) rfl (l' := #[iv p0, iv p1, iv p2, iv p3, iv p4, iv (own_l0 p1), iv (0 : Int32), .unset, .unset, .unset]) rfl (XS.iloadN X0.here hx rfl (hb hby at_12) rfl (XS.iconst X0.here hx rfl (hb hby at_13) (XS.iushr X0.here hx rfl (hb hby at_14) rfl (XS.iconst X0.here hx rfl (hb hby at_15) (XS.iand X0.here hx rfl (hb hby at_16) rfl k)))))) ?_
     by_cases hz2 : (own_l2 p1) = (0 : Int32)
     · skip
       rw [hz2]
       refine own_go (b := (s₁.setTop (mkF m 20 #[iv p0, iv p1, iv p2, iv p3, iv p4, iv (own_l0 p1), iv (0 : Int32), iv (0 : Int32), .unset, .unset] [(.int (3 : Int32))]))) (fun _ k => XS.istore X0.here hx rfl (hb hby at_17) rfl (l' := #[iv p0, iv p1, iv p2, iv p3, iv p4, iv (own_l0 p1), iv (0 : Int32), iv (0 : Int32), .unset, .unset]) rfl (XS.iconst X0.here hx rfl (hb hby at_19) k)) ?_
       obtain ⟨T645, h645, kl645, X645, e645, E645, A645, st645⟩ := newP X0 hx hZ (ow hw 0 rfl) e0 (g := (mkF m 20 #[iv p0, iv p1, iv p2, iv p3, iv p4, iv (own_l0 p1), iv (0 : Int32), iv (0 : Int32), .unset, .unset] [(.int (3 : Int32))])) rfl (hb hby at_20) rfl (by decide) (cap := 3) (by decide) (by decide) (by decide) (by decide)
       obtain ⟨b645, g645⟩ : ∃ z, z = h0.size := ⟨_, rfl⟩
       rw [← g645] at A645 st645
       have Zs646 : n0 ≤ h645.size := Nat.le_trans Z0 E645.1
       have V645 : Arv Z h645 b645 kl645 .int (3 : Int32) [(.int (0 : Int32)), (.int (0 : Int32)), (.int (0 : Int32))] (.int (0 : Int32)) := (Arv.new A645 (by decide)).pad (pad_rep [] (.int (0 : Int32)) 3)
       refine own_go (b := (T645.setTop (mkF m 28 #[iv p0, iv p1, iv p2, iv p3, iv p4, iv (own_l0 p1), iv (0 : Int32), iv (0 : Int32), .unset, .unset] [(.int (own_k p2)), (.int (0 : Int32)), (.ref b645), (.ref b645)]))) (fun _ k => st645 _ (XS.dup X645.here hx rfl (hb hby at_22) rfl rfl (XS.iconst X645.here hx rfl (hb hby at_23) (XS.iloadN X645.here hx rfl (hb hby at_24) rfl (X645.ldcInt hx hown (mvT hZ (ow hw 1 rfl)) (g := (mkF m 25 #[iv p0, iv p1, iv p2, iv p3, iv p4, iv (own_l0 p1), iv (0 : Int32), iv (0 : Int32), .unset, .unset] [(.int p2), (.int (0 : Int32)), (.ref b645), (.ref b645)])) rfl (hb hby at_25) _ (XS.iand X645.here hx rfl (hb hby at_27) rfl k)))))) ?_
       obtain ⟨cl647, Ar647, ql647, Sz647, Nn647, Hl647, Gl647⟩ := id V645
       have hin647 : ¬ ((0 : Int32) < 0 ∨ cl647.slots.size ≤ ((0 : Int32)).toNatClampNeg) := inb_of Sz647 ⟨by decide, by decide⟩
       obtain ⟨T647, h647, X647, e647, W647, st647⟩ := stI X645 hx hZ e645 Ar647 (j := (0 : Int32)) hin647 (g := (mkF m 28 #[iv p0, iv p1, iv p2, iv p3, iv p4, iv (own_l0 p1), iv (0 : Int32), iv (0 : Int32), .unset, .unset] [(.int (own_k p2)), (.int (0 : Int32)), (.ref b645), (.ref b645)])) rfl rfl (hb hby at_28)
       have gx648 : n0 ≤ b645 := Nat.le_trans Z0 (Nat.le_of_eq g645.symm)
       have N647 := Fr.snoc X647 N0 gx648
       have Zs649 : n0 ≤ h647.size := Nat.le_trans Zs646 (Keep.of_wr W647).1
       have V647 : Arv Z h647 b645 kl645 .int (3 : Int32) [(.int (own_k p2)), (.int (0 : Int32)), (.int (0 : Int32))] (.int (0 : Int32)) := Arv.set Ar647 ql647 Sz647 Nn647 Hl647 Gl647 rfl W647 0 rfl (Nat.le_of_ble_eq_true rfl)
       refine own_go (b := (T647.setTop (mkF m 35 #[iv p0, iv p1, iv p2, iv p3, iv p4, iv (own_l0 p1), iv (0 : Int32), iv (0 : Int32), .unset, .unset] [(.int (own_k p3)), (.int (1 : Int32)), (.ref b645), (.ref b645)]))) (fun _ k => st647 _ (XS.dup X647.here hx rfl (hb hby at_29) rfl rfl (XS.iconst X647.here hx rfl (hb hby at_30) (XS.iloadN X647.here hx rfl (hb hby at_31) rfl (X647.ldcInt hx hown (mvT hZ (ow hw 1 rfl)) (g := (mkF m 32 #[iv p0, iv p1, iv p2, iv p3, iv p4, iv (own_l0 p1), iv (0 : Int32), iv (0 : Int32), .unset, .unset] [(.int p3), (.int (1 : Int32)), (.ref b645), (.ref b645)])) rfl (hb hby at_32) _ (XS.iand X647.here hx rfl (hb hby at_34) rfl k)))))) ?_
       obtain ⟨cl650, Ar650, ql650, Sz650, Nn650, Hl650, Gl650⟩ := id V647
       have hin650 : ¬ ((1 : Int32) < 0 ∨ cl650.slots.size ≤ ((1 : Int32)).toNatClampNeg) := inb_of Sz650 ⟨by decide, by decide⟩
       obtain ⟨T650, h650, X650, e650, W650, st650⟩ := stI X647 hx hZ e647 Ar650 (j := (1 : Int32)) hin650 (g := (mkF m 35 #[iv p0, iv p1, iv p2, iv p3, iv p4, iv (own_l0 p1), iv (0 : Int32), iv (0 : Int32), .unset, .unset] [(.int (own_k p3)), (.int (1 : Int32)), (.ref b645), (.ref b645)])) rfl rfl (hb hby at_35)
       have N650 := Fr.snoc X650 N647 gx648
       have Zs651 : n0 ≤ h650.size := Nat.le_trans Zs649 (Keep.of_wr W650).1
       have V650 : Arv Z h650 b645 kl645 .int (3 : Int32) [(.int (own_k p2)), (.int (own_k p3)), (.int (0 : Int32))] (.int (0 : Int32)) := Arv.set Ar650 ql650 Sz650 Nn650 Hl650 Gl650 rfl W650 1 rfl (Nat.le_of_ble_eq_true rfl)
       refine own_go (b := (T650.setTop (mkF m 43 #[iv p0, iv p1, iv p2, iv p3, iv p4, iv (own_l0 p1), iv (0 : Int32), iv (0 : Int32), .unset, .unset] [(.int (own_k p4)), (.int (2 : Int32)), (.ref b645), (.ref b645)]))) (fun _ k => st650 _ (XS.dup X650.here hx rfl (hb hby at_36) rfl rfl (XS.iconst X650.here hx rfl (hb hby at_37) (XS.iload X650.here hx rfl (hb hby at_38) rfl (X650.ldcInt hx hown (mvT hZ (ow hw 1 rfl)) (g := (mkF m 40 #[iv p0, iv p1, iv p2, iv p3, iv p4, iv (own_l0 p1), iv (0 : Int32), iv (0 : Int32), .unset, .unset] [(.int p4), (.int (2 : Int32)), (.ref b645), (.ref b645)])) rfl (hb hby at_40) _ (XS.iand X650.here hx rfl (hb hby at_42) rfl k)))))) ?_
       obtain ⟨cl652, Ar652, ql652, Sz652, Nn652, Hl652, Gl652⟩ := id V650
       have hin652 : ¬ ((2 : Int32) < 0 ∨ cl652.slots.size ≤ ((2 : Int32)).toNatClampNeg) := inb_of Sz652 ⟨by decide, by decide⟩
       obtain ⟨T652, h652, X652, e652, W652, st652⟩ := stI X650 hx hZ e650 Ar652 (j := (2 : Int32)) hin652 (g := (mkF m 43 #[iv p0, iv p1, iv p2, iv p3, iv p4, iv (own_l0 p1), iv (0 : Int32), iv (0 : Int32), .unset, .unset] [(.int (own_k p4)), (.int (2 : Int32)), (.ref b645), (.ref b645)])) rfl rfl (hb hby at_43)
       have N652 := Fr.snoc X652 N650 gx648
       have Zs653 : n0 ≤ h652.size := Nat.le_trans Zs651 (Keep.of_wr W652).1
       have V652 : Arv Z h652 b645 kl645 .int (3 : Int32) [(.int (own_k p2)), (.int (own_k p3)), (.int (own_k p4))] (.int (0 : Int32)) := Arv.set Ar652 ql652 Sz652 Nn652 Hl652 Gl652 rfl W652 2 rfl (Nat.le_of_ble_eq_true rfl)
       refine own_go (b := (T652.setTop (mkF m 46 #[iv p0, iv p1, iv p2, iv p3, iv p4, iv (own_l0 p1), iv (0 : Int32), iv (0 : Int32), rv b645, .unset] []))) (fun _ k => st652 _ (XS.astore X652.here hx rfl (hb hby at_44) rfl rfl (l' := #[iv p0, iv p1, iv p2, iv p3, iv p4, iv (own_l0 p1), iv (0 : Int32), iv (0 : Int32), rv b645, .unset]) rfl k)) ?_
       obtain ⟨T654, h654, X654, e654, E654, A654, D654, -, st654⟩ := newO X652 hx hZ hown (ow hw 2 rfl) (ow hw 3 rfl) (ow hw 4 rfl) e652 (g := (mkF m 46 #[iv p0, iv p1, iv p2, iv p3, iv p4, iv (own_l0 p1), iv (0 : Int32), iv (0 : Int32), rv b645, .unset] [])) rfl (hb hby at_46) (by decide) (by decide)
       obtain ⟨b654, g654⟩ : ∃ z, z = h652.size := ⟨_, rfl⟩
       rw [← g654] at A654 D654 st654
       have Zs655 : n0 ≤ h654.size := Nat.le_trans Zs653 E654.1
       have F654_keys : Fld Z h654 b654 cs0 "keys" "Lcom/example/arcwright/arcwright/parser/IntBlocks;" .null := D654 (Or.inr (ow hw 23 rfl)) (ty := (.object cs1)) (by decide)
       have F654_keyStarts : Fld Z h654 b654 cs0 "keyStarts" "[I" .null := D654 (Or.inl (ow hw 25 rfl)) (ty := (.array .int)) (by decide)
       have F654_labelStarts : Fld Z h654 b654 cs0 "labelStarts" "[I" .null := D654 (Or.inl (ow hw 32 rfl)) (ty := (.array .int)) (by decide)
       have F654_size : Fld Z h654 b654 cs0 "size" "I" (.int (0 : Int32)) := D654 (Or.inl (ow hw 34 rfl)) (ty := .int) (by decide)
       refine own_go (b := (T654.setTop (mkF m 53 #[iv p0, iv p1, iv p2, iv p3, iv p4, iv (own_l0 p1), iv (0 : Int32), iv (0 : Int32), rv b645, .unset] [(.int (p0 &&& (3 : Int32))), (.ref b654), (.ref b654)]))) (fun _ k => st654 _ (XS.dup X654.here hx rfl (hb hby at_49) rfl rfl (XS.iloadN X654.here hx rfl (hb hby at_50) rfl (XS.iconst X654.here hx rfl (hb hby at_51) (XS.iand X654.here hx rfl (hb hby at_52) rfl k))))) ?_
       rcases own_and3 p0 with hk | hk | hk | hk
       · rw [hk]
         have gx657 : n0 ≤ b654 := Nat.le_trans Zs653 (Nat.le_of_eq g654.symm)
         refine own_spec (W := 1) X654 hx hZ hown e654 (ow hw 5 rfl) (ow hw 6 rfl) (rmft0 l Z a0 hw [] b654 .null .null h654 n0 Zs655 A654 F654_keys F654_keyStarts F654_labelStarts F654_size gx657) (ow hw 7 rfl) (ow hw 4 rfl) rfl (by rw [hml]; rfl) rfl (hb hby at_53) (lenOf pd__I_V rfl) rfl rfl (by decide) (fun T656 v656 Ll656 X656 hQ656 => ?_)
         obtain ⟨ib_656, ks_656, kk_656, bl_656, kb_656, rfl, N656q, K656, P656_0, P656_1, P656_2, P656_3, P656_4, P656_5, P656_6, P656_7, P656_8, P656_9, P656_10, P656_11, P656_12, P656_13⟩ := hQ656
         have N656 := Fr.app N652 N656q
         have Zs658 : n0 ≤ T656.heap.size := Nat.le_trans Zs655 K656.1
         refine own_go (b := (T656.setTop (mkF m 64 #[iv p0, iv p1, iv p2, iv p3, iv p4, iv (own_l0 p1), iv (0 : Int32), iv (0 : Int32), rv b645, rv b654] [(.int (own_l0 p1)), (.ref b645), (.ref b654)]))) (fun _ k => XS.astore X656.here hx rfl (hb hby at_56) rfl rfl (l' := #[iv p0, iv p1, iv p2, iv p3, iv p4, iv (own_l0 p1), iv (0 : Int32), iv (0 : Int32), rv b645, rv b654]) rfl (XS.aload X656.here hx rfl (hb hby at_58) rfl rfl (XS.aload X656.here hx rfl (hb hby at_60) rfl rfl (XS.iload X656.here hx rfl (hb hby at_62) rfl k)))) ?_
         have F660 := A654.keep K656
         have F661 := V652.ext E654
         have nx662 : b645 ≠ b654 := (own_ne V645.lt (own_tr (own_tr (Keep.of_wr W647).1 (Keep.of_wr W650).1) (Keep.of_wr W652).1) (Nat.le_of_eq g654.symm))
         have F663 := F661.keep K656 (ninS nx662 nin0)
         have gx664 : n0 ≤ ib_656 := Nat.le_trans Zs655 P656_4
         have gx665 : n0 ≤ ks_656 := Nat.le_trans Zs655 P656_5
         have nx666 : ks_656 ≠ b645 := (Ne.symm (own_ne V645.lt (own_tr (own_tr (own_tr (Keep.of_wr W647).1 (Keep.of_wr W650).1) (Keep.of_wr W652).1) E654.1) P656_5))
         have gx667 : n0 ≤ bl_656 := Nat.le_trans Zs655 P656_6
         have nx668 : b645 ≠ bl_656 := (own_ne V645.lt (own_tr (own_tr (own_tr (Keep.of_wr W647).1 (Keep.of_wr W650).1) (Keep.of_wr W652).1) E654.1) P656_6)
         refine own_virt (W := 0) X656 hx hZ hown rfl (ow hw 26 rfl) (ow hw 27 rfl) (ow hw 29 rfl) (ow hw 28 rfl) (rmap1_0E1 l Z a0 hw [] b654 b645 kl645 (own_k p2) (own_k p3) (own_k p4) (own_l0 p1) ib_656 ks_656 kk_656 bl_656 kb_656 (0 : Int32) T656.heap n0 Zs658 F660 P656_0 P656_1 P656_2 P656_3 P656_7 P656_8 P656_9 P656_12 F663 gx657 gx664 gx665 nx666 gx667 P656_13 nx668 (own_pos p2) (own_pos p3) (own_pos p4) (own_nz _ hz0).1 (own_nz _ hz0).2 P656_10 P656_11) (ow hw 30 rfl) (ow hw 4 rfl) F660 rfl (by rw [hml]; rfl) rfl (hb hby at_64) (lenOf pd___II_I rfl) rfl (by decide) (fun T659 v659 Ll659 X659 hQ659 => ?_)
         obtain ⟨ksn_659, kkn_659, cn_659, kn_659, vsn_659, rfl, N659q, K659, P659_0, P659_1, P659_2, P659_3, P659_4, P659_5, P659_6, P659_7, P659_8, P659_9, P659_10, P659_11, P659_12⟩ := hQ659
         have N659 := Fr.app N656 N659q
         have Zs669 : n0 ≤ T659.heap.size := Nat.le_trans Zs658 K659.1
         refine own_go (b := (T659.setTop (mkF m 74 #[iv p0, iv p1, iv p2, iv p3, iv p4, iv (own_l0 p1), iv (0 : Int32), iv (0 : Int32), rv b645, rv b654] [(.int (0 : Int32)), (.ref b645), (.ref b654)]))) (fun _ k => XS.pop X659.here hx rfl (hb hby at_67) rfl rfl (XS.aload X659.here hx rfl (hb hby at_68) rfl rfl (XS.aload X659.here hx rfl (hb hby at_70) rfl rfl (XS.iload X659.here hx rfl (hb hby at_72) rfl k)))) ?_
         have F671 := F660.keep K659
         have F672 := P656_7.keep K659
         have nx673 : b645 ≠ ib_656 := (own_ne V645.lt (own_tr (own_tr (own_tr (Keep.of_wr W647).1 (Keep.of_wr W650).1) (Keep.of_wr W652).1) E654.1) P656_4)
         have F674 := F663.keep K659 (ninS nx662 (ninS nx673 (ninS nx668 nin0)))
         have gx675 : n0 ≤ ksn_659 := Nat.le_trans Zs658 P659_3
         have nx676 : ksn_659 ≠ b645 := (Ne.symm (own_ne V645.lt (own_tr (own_tr (own_tr (own_tr (Keep.of_wr W647).1 (Keep.of_wr W650).1) (Keep.of_wr W652).1) E654.1) K656.1) P659_3))
         refine own_virt (W := 0) X659 hx hZ hown rfl (ow hw 26 rfl) (ow hw 27 rfl) (ow hw 29 rfl) (ow hw 28 rfl) (rmap2_1N0 l Z a0 hw [] b654 b645 kl645 (own_k p2) (own_k p3) (own_k p4) ib_656 ksn_659 kkn_659 (own_l0 p1) (0 : Int32) (own_l0 p1) T659.heap n0 Zs669 F671 P659_0 P659_4 P659_1 P659_2 F672 P659_6 P659_5 F674 gx657 gx664 gx675 nx676 (own_pos p2) (own_pos p3) (own_pos p4)) (ow hw 30 rfl) (ow hw 4 rfl) F671 rfl (by rw [hml]; rfl) rfl (hb hby at_74) (lenOf pd___II_I rfl) rfl (by decide) (fun T670 v670 Ll670 X670 hQ670 => ?_)
         obtain ⟨ksn_670, kkn_670, rfl, N670q, K670, P670_0, P670_1, P670_2, P670_3, P670_4, P670_5⟩ := hQ670
         have N670 := Fr.app N659 N670q
         have Zs677 : n0 ≤ T670.heap.size := Nat.le_trans Zs669 K670.1
         refine own_go (b := (T670.setTop (mkF m 84 #[iv p0, iv p1, iv p2, iv p3, iv p4, iv (own_l0 p1), iv (0 : Int32), iv (0 : Int32), rv b645, rv b654] [(.int (0 : Int32)), (.ref b645), (.ref b654)]))) (fun _ k => XS.pop X670.here hx rfl (hb hby at_77) rfl rfl (XS.aload X670.here hx rfl (hb hby at_78) rfl rfl (XS.aload X670.here hx rfl (hb hby at_80) rfl rfl (XS.iload X670.here hx rfl (hb hby at_82) rfl k)))) ?_
         have F679 := F671.keep K670
         have F680 := F672.keep K670
         have nx681 : ib_656 ≠ b654 := (Ne.symm (own_ne A654.lt (Nat.le_refl _) P656_4))
         have F682 := P659_6.keep K670 (ninS nx681 nin0)
         have F683 := F674.keep K670 (ninS nx662 nin0)
         have gx684 : n0 ≤ ksn_670 := Nat.le_trans Zs669 P670_3
         have nx685 : ksn_670 ≠ b645 := (Ne.symm (own_ne V645.lt (own_tr (own_tr (own_tr (own_tr (own_tr (Keep.of_wr W647).1 (Keep.of_wr W650).1) (Keep.of_wr W652).1) E654.1) K656.1) K659.1) P670_3))
         refine own_virt (W := 0) X670 hx hZ hown rfl (ow hw 26 rfl) (ow hw 27 rfl) (ow hw 29 rfl) (ow hw 28 rfl) (rmap4_2N0 l Z a0 hw [] b654 b645 kl645 (own_k p2) (own_k p3) (own_k p4) ib_656 ksn_670 kkn_670 (own_l0 p1) (0 : Int32) (own_l0 p1) (own_l0 p1) (0 : Int32) T670.heap n0 Zs677 F679 P670_0 P670_4 P670_1 P670_2 F680 F682 P670_5 F683 gx657 gx664 gx684 nx685 (own_pos p2) (own_pos p3) (own_pos p4)) (ow hw 30 rfl) (ow hw 4 rfl) F679 rfl (by rw [hml]; rfl) rfl (hb hby at_84) (lenOf pd___II_I rfl) rfl (by decide) (fun T678 v678 Ll678 X678 hQ678 => ?_)
         obtain ⟨rfl, N678q, K678, P678_0, P678_1, P678_2, P678_3, P678_4⟩ := hQ678
         have N678 := Fr.app N670 N678q
         have Zs686 : n0 ≤ T678.heap.size := Nat.le_trans Zs677 K678.1
         refine own_go (b := (T678.setTop (mkF m 91 #[iv p0, iv p1, iv p2, iv p3, iv p4, iv (own_l0 p1), iv (0 : Int32), iv (0 : Int32), rv b645, rv b654] [(.int (0 : Int32)), (.ref b654)]))) (fun _ k => XS.pop X678.here hx rfl (hb hby at_87) rfl rfl (XS.aload X678.here hx rfl (hb hby at_88) rfl rfl (XS.iconst X678.here hx rfl (hb hby at_90) k))) ?_
         have F688 := F679.keep K678
         refine own_virt (W := 0) X678 hx hZ hown rfl (ow hw 68 rfl) (ow hw 69 rfl) (ow hw 71 rfl) (ow hw 70 rfl) (rmlen4_0 l Z a0 hw [] b654 ksn_670 kkn_670 (0 : Int32) (own_l0 p1) (own_l0 p1) (own_l0 p1) T678.heap n0 Zs686 P678_3 P678_4) (ow hw 72 rfl) (ow hw 4 rfl) F688 rfl (by rw [hml]; rfl) rfl (hb hby at_91) (lenOf pd__I_I rfl) rfl (by decide) (fun T687 v687 Ll687 X687 hQ687 => ?_)
         obtain ⟨rfl, N687q, eh687⟩ := hQ687
         have N687 := Fr.app N678 N687q
         refine own_go (b := (T687.setTop (mkF m 102 #[iv p0, iv p1, iv p2, iv p3, iv p4, iv (own_l0 p1), iv (0 : Int32), iv (0 : Int32), rv b645, rv b654] [(.int (1 : Int32)), (.ref b654)]))) (fun _ k => XS.iload X687.here hx rfl (hb hby at_94) rfl (XS.icmpNo X687.here hx rfl (hb hby at_96) rfl (teq (Int32.sub_zero _)).2 (XS.aload X687.here hx rfl (hb hby at_99) rfl rfl (XS.iconst X687.here hx rfl (hb hby at_101) k)))) ?_
         refine own_virt (W := 0) X687 hx hZ hown eh687 (ow hw 68 rfl) (ow hw 69 rfl) (ow hw 71 rfl) (ow hw 70 rfl) (rmlen4_1 l Z a0 hw [] b654 ksn_670 kkn_670 (0 : Int32) (own_l0 p1) (own_l0 p1) (own_l0 p1) T678.heap n0 Zs686 P678_3 P678_4) (ow hw 72 rfl) (ow hw 4 rfl) F688 rfl (by rw [hml]; rfl) rfl (hb hby at_102) (lenOf pd__I_I rfl) rfl (by decide) (fun T689 v689 Ll689 X689 hQ689 => ?_)
         obtain ⟨rfl, N689q, eh689⟩ := hQ689
         have N689 := Fr.app N687 N689q
         refine own_go (b := (T689.setTop (mkF m 113 #[iv p0, iv p1, iv p2, iv p3, iv p4, iv (own_l0 p1), iv (0 : Int32), iv (0 : Int32), rv b645, rv b654] [(.int (2 : Int32)), (.ref b654)]))) (fun _ k => XS.iload X689.here hx rfl (hb hby at_105) rfl (XS.icmpNo X689.here hx rfl (hb hby at_107) rfl (teq (Int32.sub_self _)).2 (XS.aload X689.here hx rfl (hb hby at_110) rfl rfl (XS.iconst X689.here hx rfl (hb hby at_112) k)))) ?_
         refine own_virt (W := 0) X689 hx hZ hown eh689 (ow hw 68 rfl) (ow hw 69 rfl) (ow hw 71 rfl) (ow hw 70 rfl) (rmlen4_2 l Z a0 hw [] b654 ksn_670 kkn_670 (0 : Int32) (own_l0 p1) (own_l0 p1) (own_l0 p1) T678.heap n0 Zs686 P678_3 P678_4) (ow hw 72 rfl) (ow hw 4 rfl) F688 rfl (by rw [hml]; rfl) rfl (hb hby at_113) (lenOf pd__I_I rfl) rfl (by decide) (fun T690 v690 Ll690 X690 hQ690 => ?_)
         obtain ⟨rfl, N690q, eh690⟩ := hQ690
         have N690 := Fr.app N689 N690q
         refine own_go (b := (T690.setTop (mkF m 126 #[iv p0, iv p1, iv p2, iv p3, iv p4, iv (own_l0 p1), iv (0 : Int32), iv (0 : Int32), rv b645, rv b654] [(.int (1 : Int32))]))) (fun _ k => XS.iload X690.here hx rfl (hb hby at_116) rfl (XS.icmpNo X690.here hx rfl (hb hby at_118) rfl (teq (Int32.sub_self _)).2 (XS.iconst X690.here hx rfl (hb hby at_121) (XS.goto X690.here hx rfl (pc0 := 122) (pc' := 126) rfl (hb hby at_122) (by decide) (by decide) k)))) ?_
         obtain ⟨fs, hr, hrun, hended, hW, hsame⟩ := X690.leave (v := some (.int (1 : Int32))) (fun h => by rw [Bd.returns] at h; cases h)
         exact ⟨_, _, retN X690 hx (t := .boolean) Bd.returns (by simp) (hb hby at_126) hr, hrun, hended, _, _, rfl, (show Qrm0 Z p0 p1 p2 p3 p4 h0 n0 _ T690.heap _ from (by rw [eh690]; exact ⟨rfl, N690⟩)), ⟨_, rfl⟩, hW, hsame.mono (by decide) (by decide)⟩
       · rw [hk]
         have gx692 : n0 ≤ b654 := Nat.le_trans Zs653 (Nat.le_of_eq g654.symm)
         refine own_spec (W := 1) X654 hx hZ hown e654 (ow hw 5 rfl) (ow hw 6 rfl) (rmft1 l Z a0 hw [] b654 .null .null h654 n0 Zs655 A654 F654_keys F654_keyStarts F654_labelStarts F654_size gx692) (ow hw 7 rfl) (ow hw 4 rfl) rfl (by rw [hml]; rfl) rfl (hb hby at_53) (lenOf pd__I_V rfl) rfl rfl (by decide) (fun T691 v691 Ll691 X691 hQ691 => ?_)
         obtain ⟨ib_691, ks_691, kk_691, bl_691, kb_691, rfl, N691q, K691, P691_0, P691_1, P691_2, P691_3, P691_4, P691_5, P691_6, P691_7, P691_8, P691_9, P691_10, P691_11, P691_12, P691_13⟩ := hQ691
         have N691 := Fr.app N652 N691q
         have Zs693 : n0 ≤ T691.heap.size := Nat.le_trans Zs655 K691.1
         refine own_go (b := (T691.setTop (mkF m 64 #[iv p0, iv p1, iv p2, iv p3, iv p4, iv (own_l0 p1), iv (0 : Int32), iv (0 : Int32), rv b645, rv b654] [(.int (own_l0 p1)), (.ref b645), (.ref b654)]))) (fun _ k => XS.astore X691.here hx rfl (hb hby at_56) rfl rfl (l' := #[iv p0, iv p1, iv p2, iv p3, iv p4, iv (own_l0 p1), iv (0 : Int32), iv (0 : Int32), rv b645, rv b654]) rfl (XS.aload X691.here hx rfl (hb hby at_58) rfl rfl (XS.aload X691.here hx rfl (hb hby at_60) rfl rfl (XS.iload X691.here hx rfl (hb hby at_62) rfl k)))) ?_
         have F695 := A654.keep K691
         have F696 := V652.ext E654
         have nx697 : b645 ≠ b654 := (own_ne V645.lt (own_tr (own_tr (Keep.of_wr W647).1 (Keep.of_wr W650).1) (Keep.of_wr W652).1) (Nat.le_of_eq g654.symm))
         have F698 := F696.keep K691 (ninS nx697 nin0)
         have gx699 : n0 ≤ ib_691 := Nat.le_trans Zs655 P691_4
         have gx700 : n0 ≤ ks_691 := Nat.le_trans Zs655 P691_5
         have nx701 : ks_691 ≠ b645 := (Ne.symm (own_ne V645.lt (own_tr (own_tr (own_tr (Keep.of_wr W647).1 (Keep.of_wr W650).1) (Keep.of_wr W652).1) E654.1) P691_5))
         have gx702 : n0 ≤ bl_691 := Nat.le_trans Zs655 P691_6
         have nx703 : b645 ≠ bl_691 := (own_ne V645.lt (own_tr (own_tr (own_tr (Keep.of_wr W647).1 (Keep.of_wr W650).1) (Keep.of_wr W652).1) E654.1) P691_6)
         refine own_virt (W := 0) X691 hx hZ hown rfl (ow hw 26 rfl) (ow hw 27 rfl) (ow hw 29 rfl) (ow hw 28 rfl) (rmap2_0E1 l Z a0 hw [] b654 b645 kl645 (own_k p2) (own_k p3) (own_k p4) (own_l0 p1) ib_691 ks_691 kk_691 bl_691 kb_691 (0 : Int32) (0 : Int32) T691.heap n0 Zs693 F695 P691_0 P691_1 P691_2 P691_3 P691_7 P691_8 P691_9 P691_12 F698 gx692 gx699 gx700 nx701 gx702 P691_13 nx703 (own_pos p2) (own_pos p3) (own_pos p4) (own_nz _ hz0).1 (own_nz _ hz0).2 P691_10 P691_11) (ow hw 30 rfl) (ow hw 4 rfl) F695 rfl (by rw [hml]; rfl) rfl (hb hby at_64) (lenOf pd___II_I rfl) rfl (by decide) (fun T694 v694 Ll694 X694 hQ694 => ?_)
         obtain ⟨cn_694, kn_694, vsn_694, rfl, N694q, K694, P694_0, P694_1, P694_2, P694_3, P694_4, P694_5, P694_6, P694_7, P694_8, P694_9, P694_10⟩ := hQ694
         have N694 := Fr.app N691 N694q
         have Zs704 : n0 ≤ T694.heap.size := Nat.le_trans Zs693 K694.1
         refine own_go (b := (T694.setTop (mkF m 74 #[iv p0, iv p1, iv p2, iv p3, iv p4, iv (own_l0 p1), iv (0 : Int32), iv (0 : Int32), rv b645, rv b654] [(.int (0 : Int32)), (.ref b645), (.ref b654)]))) (fun _ k => XS.pop X694.here hx rfl (hb hby at_67) rfl rfl (XS.aload X694.here hx rfl (hb hby at_68) rfl rfl (XS.aload X694.here hx rfl (hb hby at_70) rfl rfl (XS.iload X694.here hx rfl (hb hby at_72) rfl k)))) ?_
         have F706 := F695.keep K694
         have F707 := P691_7.keep K694
         have nx708 : b645 ≠ ib_691 := (own_ne V645.lt (own_tr (own_tr (own_tr (Keep.of_wr W647).1 (Keep.of_wr W650).1) (Keep.of_wr W652).1) E654.1) P691_4)
         have F709 := F698.keep K694 (ninS nx697 (ninS nx708 (ninS (Ne.symm nx701) (ninS nx703 nin0))))
         refine own_virt (W := 0) X694 hx hZ hown rfl (ow hw 26 rfl) (ow hw 27 rfl) (ow hw 29 rfl) (ow hw 28 rfl) (rmap2_1N0 l Z a0 hw [] b654 b645 kl645 (own_k p2) (own_k p3) (own_k p4) ib_691 ks_691 kk_691 (own_l0 p1) (0 : Int32) (own_l0 p1) T694.heap n0 Zs704 F706 P694_0 P694_3 P694_1 P694_2 F707 P694_5 P694_4 F709 gx692 gx699 gx700 nx701 (own_pos p2) (own_pos p3) (own_pos p4)) (ow hw 30 rfl) (ow hw 4 rfl) F706 rfl (by rw [hml]; rfl) rfl (hb hby at_74) (lenOf pd___II_I rfl) rfl (by decide) (fun T705 v705 Ll705 X705 hQ705 => ?_)
         obtain ⟨ksn_705, kkn_705, rfl, N705q, K705, P705_0, P705_1, P705_2, P705_3, P705_4, P705_5⟩ := hQ705
         have N705 := Fr.app N694 N705q
         have Zs710 : n0 ≤ T705.heap.size := Nat.le_trans Zs704 K705.1
         refine own_go (b := (T705.setTop (mkF m 84 #[iv p0, iv p1, iv p2, iv p3, iv p4, iv (own_l0 p1), iv (0 : Int32), iv (0 : Int32), rv b645, rv b654] [(.int (0 : Int32)), (.ref b645), (.ref b654)]))) (fun _ k => XS.pop X705.here hx rfl (hb hby at_77) rfl rfl (XS.aload X705.here hx rfl (hb hby at_78) rfl rfl (XS.aload X705.here hx rfl (hb hby at_80) rfl rfl (XS.iload X705.here hx rfl (hb hby at_82) rfl k)))) ?_
         have F712 := F706.keep K705
         have F713 := F707.keep K705
         have nx714 : ib_691 ≠ b654 := (Ne.symm (own_ne A654.lt (Nat.le_refl _) P691_4))
         have F715 := P694_5.keep K705 (ninS nx714 nin0)
         have F716 := F709.keep K705 (ninS nx697 nin0)
         have gx717 : n0 ≤ ksn_705 := Nat.le_trans Zs704 P705_3
         have nx718 : ksn_705 ≠ b645 := (Ne.symm (own_ne V645.lt (own_tr (own_tr (own_tr (own_tr (own_tr (Keep.of_wr W647).1 (Keep.of_wr W650).1) (Keep.of_wr W652).1) E654.1) K691.1) K694.1) P705_3))
         refine own_virt (W := 0) X705 hx hZ hown rfl (ow hw 26 rfl) (ow hw 27 rfl) (ow hw 29 rfl) (ow hw 28 rfl) (rmap4_2N0 l Z a0 hw [] b654 b645 kl645 (own_k p2) (own_k p3) (own_k p4) ib_691 ksn_705 kkn_705 (own_l0 p1) (0 : Int32) (own_l0 p1) (own_l0 p1) (0 : Int32) T705.heap n0 Zs710 F712 P705_0 P705_4 P705_1 P705_2 F713 F715 P705_5 F716 gx692 gx699 gx717 nx718 (own_pos p2) (own_pos p3) (own_pos p4)) (ow hw 30 rfl) (ow hw 4 rfl) F712 rfl (by rw [hml]; rfl) rfl (hb hby at_84) (lenOf pd___II_I rfl) rfl (by decide) (fun T711 v711 Ll711 X711 hQ711 => ?_)
         obtain ⟨rfl, N711q, K711, P711_0, P711_1, P711_2, P711_3, P711_4⟩ := hQ711
         have N711 := Fr.app N705 N711q
         have Zs719 : n0 ≤ T711.heap.size := Nat.le_trans Zs710 K711.1
         refine own_go (b := (T711.setTop (mkF m 91 #[iv p0, iv p1, iv p2, iv p3, iv p4, iv (own_l0 p1), iv (0 : Int32), iv (0 : Int32), rv b645, rv b654] [(.int (0 : Int32)), (.ref b654)]))) (fun _ k => XS.pop X711.here hx rfl (hb hby at_87) rfl rfl (XS.aload X711.here hx rfl (hb hby at_88) rfl rfl (XS.iconst X711.here hx rfl (hb hby at_90) k))) ?_
         have F721 := F712.keep K711
         refine own_virt (W := 0) X711 hx hZ hown rfl (ow hw 68 rfl) (ow hw 69 rfl) (ow hw 71 rfl) (ow hw 70 rfl) (rmlen4_0 l Z a0 hw [] b654 ksn_705 kkn_705 (0 : Int32) (own_l0 p1) (own_l0 p1) (own_l0 p1) T711.heap n0 Zs719 P711_3 P711_4) (ow hw 72 rfl) (ow hw 4 rfl) F721 rfl (by rw [hml]; rfl) rfl (hb hby at_91) (lenOf pd__I_I rfl) rfl (by decide) (fun T720 v720 Ll720 X720 hQ720 => ?_)
         obtain ⟨rfl, N720q, eh720⟩ := hQ720
         have N720 := Fr.app N711 N720q
         refine own_go (b := (T720.setTop (mkF m 102 #[iv p0, iv p1, iv p2, iv p3, iv p4, iv (own_l0 p1), iv (0 : Int32), iv (0 : Int32), rv b645, rv b654] [(.int (1 : Int32)), (.ref b654)]))) (fun _ k => XS.iload X720.here hx rfl (hb hby at_94) rfl (XS.icmpNo X720.here hx rfl (hb hby at_96) rfl (teq (Int32.sub_zero _)).2 (XS.aload X720.here hx rfl (hb hby at_99) rfl rfl (XS.iconst X720.here hx rfl (hb hby at_101) k)))) ?_
         refine own_virt (W := 0) X720 hx hZ hown eh720 (ow hw 68 rfl) (ow hw 69 rfl) (ow hw 71 rfl) (ow hw 70 rfl) (rmlen4_1 l Z a0 hw [] b654 ksn_705 kkn_705 (0 : Int32) (own_l0 p1) (own_l0 p1) (own_l0 p1) T711.heap n0 Zs719 P711_3 P711_4) (ow hw 72 rfl) (ow hw 4 rfl) F721 rfl (by rw [hml]; rfl) rfl (hb hby at_102) (lenOf pd__I_I rfl) rfl (by decide) (fun T722 v722 Ll722 X722 hQ722 => ?_)
         obtain ⟨rfl, N722q, eh722⟩ := hQ722
         have N722 := Fr.app N720 N722q
         refine own_go (b := (T722.setTop (mkF m 113 #[iv p0, iv p1, iv p2, iv p3, iv p4, iv (own_l0 p1), iv (0 : Int32), iv (0 : Int32), rv b645, rv b654] [(.int (2 : Int32)), (.ref b654)]))) (fun _ k => XS.iload X722.here hx rfl (hb hby at_105) rfl (XS.icmpNo X722.here hx rfl (hb hby at_107) rfl (teq (Int32.sub_self _)).2 (XS.aload X722.here hx rfl (hb hby at_110) rfl rfl (XS.iconst X722.here hx rfl (hb hby at_112) k)))) ?_
         refine own_virt (W := 0) X722 hx hZ hown eh722 (ow hw 68 rfl) (ow hw 69 rfl) (ow hw 71 rfl) (ow hw 70 rfl) (rmlen4_2 l Z a0 hw [] b654 ksn_705 kkn_705 (0 : Int32) (own_l0 p1) (own_l0 p1) (own_l0 p1) T711.heap n0 Zs719 P711_3 P711_4) (ow hw 72 rfl) (ow hw 4 rfl) F721 rfl (by rw [hml]; rfl) rfl (hb hby at_113) (lenOf pd__I_I rfl) rfl (by decide) (fun T723 v723 Ll723 X723 hQ723 => ?_)
         obtain ⟨rfl, N723q, eh723⟩ := hQ723
         have N723 := Fr.app N722 N723q
         refine own_go (b := (T723.setTop (mkF m 126 #[iv p0, iv p1, iv p2, iv p3, iv p4, iv (own_l0 p1), iv (0 : Int32), iv (0 : Int32), rv b645, rv b654] [(.int (1 : Int32))]))) (fun _ k => XS.iload X723.here hx rfl (hb hby at_116) rfl (XS.icmpNo X723.here hx rfl (hb hby at_118) rfl (teq (Int32.sub_self _)).2 (XS.iconst X723.here hx rfl (hb hby at_121) (XS.goto X723.here hx rfl (pc0 := 122) (pc' := 126) rfl (hb hby at_122) (by decide) (by decide) k)))) ?_
         obtain ⟨fs, hr, hrun, hended, hW, hsame⟩ := X723.leave (v := some (.int (1 : Int32))) (fun h => by rw [Bd.returns] at h; cases h)
         exact ⟨_, _, retN X723 hx (t := .boolean) Bd.returns (by simp) (hb hby at_126) hr, hrun, hended, _, _, rfl, (show Qrm0 Z p0 p1 p2 p3 p4 h0 n0 _ T723.heap _ from (by rw [eh723]; exact ⟨rfl, N723⟩)), ⟨_, rfl⟩, hW, hsame.mono (by decide) (by decide)⟩
       · rw [hk]
         have gx725 : n0 ≤ b654 := Nat.le_trans Zs653 (Nat.le_of_eq g654.symm)
         refine own_spec (W := 1) X654 hx hZ hown e654 (ow hw 5 rfl) (ow hw 6 rfl) (rmft2 l Z a0 hw [] b654 .null .null h654 n0 Zs655 A654 F654_keys F654_keyStarts F654_labelStarts F654_size gx725) (ow hw 7 rfl) (ow hw 4 rfl) rfl (by rw [hml]; rfl) rfl (hb hby at_53) (lenOf pd__I_V rfl) rfl rfl (by decide) (fun T724 v724 Ll724 X724 hQ724 => ?_)
         obtain ⟨ib_724, ks_724, kk_724, bl_724, kb_724, rfl, N724q, K724, P724_0, P724_1, P724_2, P724_3, P724_4, P724_5, P724_6, P724_7, P724_8, P724_9, P724_10, P724_11, P724_12, P724_13⟩ := hQ724
         have N724 := Fr.app N652 N724q
         have Zs726 : n0 ≤ T724.heap.size := Nat.le_trans Zs655 K724.1
         refine own_go (b := (T724.setTop (mkF m 64 #[iv p0, iv p1, iv p2, iv p3, iv p4, iv (own_l0 p1), iv (0 : Int32), iv (0 : Int32), rv b645, rv b654] [(.int (own_l0 p1)), (.ref b645), (.ref b654)]))) (fun _ k => XS.astore X724.here hx rfl (hb hby at_56) rfl rfl (l' := #[iv p0, iv p1, iv p2, iv p3, iv p4, iv (own_l0 p1), iv (0 : Int32), iv (0 : Int32), rv b645, rv b654]) rfl (XS.aload X724.here hx rfl (hb hby at_58) rfl rfl (XS.aload X724.here hx rfl (hb hby at_60) rfl rfl (XS.iload X724.here hx rfl (hb hby at_62) rfl k)))) ?_
         have F728 := A654.keep K724
         have F729 := V652.ext E654
         have nx730 : b645 ≠ b654 := (own_ne V645.lt (own_tr (own_tr (Keep.of_wr W647).1 (Keep.of_wr W650).1) (Keep.of_wr W652).1) (Nat.le_of_eq g654.symm))
         have F731 := F729.keep K724 (ninS nx730 nin0)
         have gx732 : n0 ≤ ib_724 := Nat.le_trans Zs655 P724_4
         have gx733 : n0 ≤ ks_724 := Nat.le_trans Zs655 P724_5
         have nx734 : ks_724 ≠ b645 := (Ne.symm (own_ne V645.lt (own_tr (own_tr (own_tr (Keep.of_wr W647).1 (Keep.of_wr W650).1) (Keep.of_wr W652).1) E654.1) P724_5))
         have gx735 : n0 ≤ bl_724 := Nat.le_trans Zs655 P724_6
         have nx736 : b645 ≠ bl_724 := (own_ne V645.lt (own_tr (own_tr (own_tr (Keep.of_wr W647).1 (Keep.of_wr W650).1) (Keep.of_wr W652).1) E654.1) P724_6)
         refine own_virt (W := 0) X724 hx hZ hown rfl (ow hw 26 rfl) (ow hw 27 rfl) (ow hw 29 rfl) (ow hw 28 rfl) (rmap3_0E1 l Z a0 hw [] b654 b645 kl645 (own_k p2) (own_k p3) (own_k p4) (own_l0 p1) ib_724 ks_724 kk_724 bl_724 kb_724 (0 : Int32) (0 : Int32) (0 : Int32) T724.heap n0 Zs726 F728 P724_0 P724_1 P724_2 P724_3 P724_7 P724_8 P724_9 P724_12 F731 gx725 gx732 gx733 nx734 gx735 P724_13 nx736 (own_pos p2) (own_pos p3) (own_pos p4) (own_nz _ hz0).1 (own_nz _ hz0).2 P724_10 P724_11) (ow hw 30 rfl) (ow hw 4 rfl) F728 rfl (by rw [hml]; rfl) rfl (hb hby at_64) (lenOf pd___II_I rfl) rfl (by decide) (fun T727 v727 Ll727 X727 hQ727 => ?_)
         obtain ⟨cn_727, kn_727, vsn_727, rfl, N727q, K727, P727_0, P727_1, P727_2, P727_3, P727_4, P727_5, P727_6, P727_7, P727_8, P727_9, P727_10⟩ := hQ727
         have N727 := Fr.app N724 N727q
         have Zs737 : n0 ≤ T727.heap.size := Nat.le_trans Zs726 K727.1
         refine own_go (b := (T727.setTop (mkF m 74 #[iv p0, iv p1, iv p2, iv p3, iv p4, iv (own_l0 p1), iv (0 : Int32), iv (0 : Int32), rv b645, rv b654] [(.int (0 : Int32)), (.ref b645), (.ref b654)]))) (fun _ k => XS.pop X727.here hx rfl (hb hby at_67) rfl rfl (XS.aload X727.here hx rfl (hb hby at_68) rfl rfl (XS.aload X727.here hx rfl (hb hby at_70) rfl rfl (XS.iload X727.here hx rfl (hb hby at_72) rfl k)))) ?_
         have F739 := F728.keep K727
         have F740 := P724_7.keep K727
         have nx741 : b645 ≠ ib_724 := (own_ne V645.lt (own_tr (own_tr (own_tr (Keep.of_wr W647).1 (Keep.of_wr W650).1) (Keep.of_wr W652).1) E654.1) P724_4)
         have F742 := F731.keep K727 (ninS nx730 (ninS nx741 (ninS (Ne.symm nx734) (ninS nx736 nin0))))
         refine own_virt (W := 0) X727 hx hZ hown rfl (ow hw 26 rfl) (ow hw 27 rfl) (ow hw 29 rfl) (ow hw 28 rfl) (rmap3_1N0 l Z a0 hw [] b654 b645 kl645 (own_k p2) (own_k p3) (own_k p4) ib_724 ks_724 kk_724 (own_l0 p1) (0 : Int32) (own_l0 p1) (0 : Int32) T727.heap n0 Zs737 F739 P727_0 P727_3 P727_1 P727_2 F740 P727_5 P727_4 F742 gx725 gx732 gx733 nx734 (own_pos p2) (own_pos p3) (own_pos p4)) (ow hw 30 rfl) (ow hw 4 rfl) F739 rfl (by rw [hml]; rfl) rfl (hb hby at_74) (lenOf pd___II_I rfl) rfl (by decide) (fun T738 v738 Ll738 X738 hQ738 => ?_)
         obtain ⟨rfl, N738q, K738, P738_0, P738_1, P738_2, P738_3, P738_4⟩ := hQ738
         have N738 := Fr.app N727 N738q
         have Zs743 : n0 ≤ T738.heap.size := Nat.le_trans Zs737 K738.1
         refine own_go (b := (T738.setTop (mkF m 84 #[iv p0, iv p1, iv p2, iv p3, iv p4, iv (own_l0 p1), iv (0 : Int32), iv (0 : Int32), rv b645, rv b654] [(.int (0 : Int32)), (.ref b645), (.ref b654)]))) (fun _ k => XS.pop X738.here hx rfl (hb hby at_77) rfl rfl (XS.aload X738.here hx rfl (hb hby at_78) rfl rfl (XS.aload X738.here hx rfl (hb hby at_80) rfl rfl (XS.iload X738.here hx rfl (hb hby at_82) rfl k)))) ?_
         have F745 := F739.keep K738
         have F746 := F740.keep K738
         obtain ⟨cn747, An747, -⟩ := id P724_12
         have nx748 : ib_724 ≠ ks_724 := (ne_arr P724_7 (ow hw 12 rfl) An747)
         have nx749 : ib_724 ≠ b654 := (Ne.symm (own_ne A654.lt (Nat.le_refl _) P724_4))
         have F750 := P727_5.keep K738 (ninS nx749 (ninS nx748 nin0))
         have F751 := F742.keep K738 (ninS nx730 (ninS (Ne.symm nx734) nin0))
         refine own_virt (W := 0) X738 hx hZ hown rfl (ow hw 26 rfl) (ow hw 27 rfl) (ow hw 29 rfl) (ow hw 28 rfl) (rmap3_2N0 l Z a0 hw [] b654 b645 kl645 (own_k p2) (own_k p3) (own_k p4) ib_724 ks_724 kk_724 (own_l0 p1) (0 : Int32) (own_l0 p1) (own_l0 p1) T738.heap n0 Zs743 F745 P738_0 P738_3 P738_1 P738_2 F746 F750 P738_4 F751 gx725 gx732 gx733 nx734 (own_pos p2) (own_pos p3) (own_pos p4)) (ow hw 30 rfl) (ow hw 4 rfl) F745 rfl (by rw [hml]; rfl) rfl (hb hby at_84) (lenOf pd___II_I rfl) rfl (by decide) (fun T744 v744 Ll744 X744 hQ744 => ?_)
         obtain ⟨ksn_744, kkn_744, rfl, N744q, K744, P744_0, P744_1, P744_2, P744_3, P744_4, P744_5⟩ := hQ744
         have N744 := Fr.app N738 N744q
         have Zs752 : n0 ≤ T744.heap.size := Nat.le_trans Zs743 K744.1
         refine own_go (b := (T744.setTop (mkF m 91 #[iv p0, iv p1, iv p2, iv p3, iv p4, iv (own_l0 p1), iv (0 : Int32), iv (0 : Int32), rv b645, rv b654] [(.int (0 : Int32)), (.ref b654)]))) (fun _ k => XS.pop X744.here hx rfl (hb hby at_87) rfl rfl (XS.aload X744.here hx rfl (hb hby at_88) rfl rfl (XS.iconst X744.here hx rfl (hb hby at_90) k))) ?_
         have F754 := F745.keep K744
         refine own_virt (W := 0) X744 hx hZ hown rfl (ow hw 68 rfl) (ow hw 69 rfl) (ow hw 71 rfl) (ow hw 70 rfl) (rmlen6_0 l Z a0 hw [] b654 ksn_744 kkn_744 (0 : Int32) (own_l0 p1) (own_l0 p1) (own_l0 p1) (0 : Int32) (0 : Int32) T744.heap n0 Zs752 P744_4 P744_5) (ow hw 72 rfl) (ow hw 4 rfl) F754 rfl (by rw [hml]; rfl) rfl (hb hby at_91) (lenOf pd__I_I rfl) rfl (by decide) (fun T753 v753 Ll753 X753 hQ753 => ?_)
         obtain ⟨rfl, N753q, eh753⟩ := hQ753
         have N753 := Fr.app N744 N753q
         refine own_go (b := (T753.setTop (mkF m 102 #[iv p0, iv p1, iv p2, iv p3, iv p4, iv (own_l0 p1), iv (0 : Int32), iv (0 : Int32), rv b645, rv b654] [(.int (1 : Int32)), (.ref b654)]))) (fun _ k => XS.iload X753.here hx rfl (hb hby at_94) rfl (XS.icmpNo X753.here hx rfl (hb hby at_96) rfl (teq (Int32.sub_zero _)).2 (XS.aload X753.here hx rfl (hb hby at_99) rfl rfl (XS.iconst X753.here hx rfl (hb hby at_101) k)))) ?_
         refine own_virt (W := 0) X753 hx hZ hown eh753 (ow hw 68 rfl) (ow hw 69 rfl) (ow hw 71 rfl) (ow hw 70 rfl) (rmlen6_1 l Z a0 hw [] b654 ksn_744 kkn_744 (0 : Int32) (own_l0 p1) (own_l0 p1) (own_l0 p1) (0 : Int32) (0 : Int32) T744.heap n0 Zs752 P744_4 P744_5) (ow hw 72 rfl) (ow hw 4 rfl) F754 rfl (by rw [hml]; rfl) rfl (hb hby at_102) (lenOf pd__I_I rfl) rfl (by decide) (fun T755 v755 Ll755 X755 hQ755 => ?_)
         obtain ⟨rfl, N755q, eh755⟩ := hQ755
         have N755 := Fr.app N753 N755q
         refine own_go (b := (T755.setTop (mkF m 113 #[iv p0, iv p1, iv p2, iv p3, iv p4, iv (own_l0 p1), iv (0 : Int32), iv (0 : Int32), rv b645, rv b654] [(.int (2 : Int32)), (.ref b654)]))) (fun _ k => XS.iload X755.here hx rfl (hb hby at_105) rfl (XS.icmpNo X755.here hx rfl (hb hby at_107) rfl (teq (Int32.sub_self _)).2 (XS.aload X755.here hx rfl (hb hby at_110) rfl rfl (XS.iconst X755.here hx rfl (hb hby at_112) k)))) ?_
         refine own_virt (W := 0) X755 hx hZ hown eh755 (ow hw 68 rfl) (ow hw 69 rfl) (ow hw 71 rfl) (ow hw 70 rfl) (rmlen6_2 l Z a0 hw [] b654 ksn_744 kkn_744 (0 : Int32) (own_l0 p1) (own_l0 p1) (own_l0 p1) (0 : Int32) (0 : Int32) T744.heap n0 Zs752 P744_4 P744_5) (ow hw 72 rfl) (ow hw 4 rfl) F754 rfl (by rw [hml]; rfl) rfl (hb hby at_113) (lenOf pd__I_I rfl) rfl (by decide) (fun T756 v756 Ll756 X756 hQ756 => ?_)
         obtain ⟨rfl, N756q, eh756⟩ := hQ756
         have N756 := Fr.app N755 N756q
         refine own_go (b := (T756.setTop (mkF m 126 #[iv p0, iv p1, iv p2, iv p3, iv p4, iv (own_l0 p1), iv (0 : Int32), iv (0 : Int32), rv b645, rv b654] [(.int (1 : Int32))]))) (fun _ k => XS.iload X756.here hx rfl (hb hby at_116) rfl (XS.icmpNo X756.here hx rfl (hb hby at_118) rfl (teq (Int32.sub_self _)).2 (XS.iconst X756.here hx rfl (hb hby at_121) (XS.goto X756.here hx rfl (pc0 := 122) (pc' := 126) rfl (hb hby at_122) (by decide) (by decide) k)))) ?_
         obtain ⟨fs, hr, hrun, hended, hW, hsame⟩ := X756.leave (v := some (.int (1 : Int32))) (fun h => by rw [Bd.returns] at h; cases h)
         exact ⟨_, _, retN X756 hx (t := .boolean) Bd.returns (by simp) (hb hby at_126) hr, hrun, hended, _, _, rfl, (show Qrm0 Z p0 p1 p2 p3 p4 h0 n0 _ T756.heap _ from (by rw [eh756]; exact ⟨rfl, N756⟩)), ⟨_, rfl⟩, hW, hsame.mono (by decide) (by decide)⟩
       · rw [hk]
         have gx758 : n0 ≤ b654 := Nat.le_trans Zs653 (Nat.le_of_eq g654.symm)
         refine own_spec (W := 1) X654 hx hZ hown e654 (ow hw 5 rfl) (ow hw 6 rfl) (rmft3 l Z a0 hw [] b654 .null .null h654 n0 Zs655 A654 F654_keys F654_keyStarts F654_labelStarts F654_size gx758) (ow hw 7 rfl) (ow hw 4 rfl) rfl (by rw [hml]; rfl) rfl (hb hby at_53) (lenOf pd__I_V rfl) rfl rfl (by decide) (fun T757 v757 Ll757 X757 hQ757 => ?_)
         obtain ⟨ib_757, ks_757, kk_757, bl_757, kb_757, rfl, N757q, K757, P757_0, P757_1, P757_2, P757_3, P757_4, P757_5, P757_6, P757_7, P757_8, P757_9, P757_10, P757_11, P757_12, P757_13⟩ := hQ757
         have N757 := Fr.app N652 N757q
         have Zs759 : n0 ≤ T757.heap.size := Nat.le_trans Zs655 K757.1
         refine own_go (b := (T757.setTop (mkF m 64 #[iv p0, iv p1, iv p2, iv p3, iv p4, iv (own_l0 p1), iv (0 : Int32), iv (0 : Int32), rv b645, rv b654] [(.int (own_l0 p1)), (.ref b645), (.ref b654)]))) (fun _ k => XS.astore X757.here hx rfl (hb hby at_56) rfl rfl (l' := #[iv p0, iv p1, iv p2, iv p3, iv p4, iv (own_l0 p1), iv (0 : Int32), iv (0 : Int32), rv b645, rv b654]) rfl (XS.aload X757.here hx rfl (hb hby at_58) rfl rfl (XS.aload X757.here hx rfl (hb hby at_60) rfl rfl (XS.iload X757.here hx rfl (hb hby at_62) rfl k)))) ?_
         have F761 := A654.keep K757
         have F762 := V652.ext E654
         have nx763 : b645 ≠ b654 := (own_ne V645.lt (own_tr (own_tr (Keep.of_wr W647).1 (Keep.of_wr W650).1) (Keep.of_wr W652).1) (Nat.le_of_eq g654.symm))
         have F764 := F762.keep K757 (ninS nx763 nin0)
         have gx765 : n0 ≤ ib_757 := Nat.le_trans Zs655 P757_4
         have gx766 : n0 ≤ ks_757 := Nat.le_trans Zs655 P757_5
         have nx767 : ks_757 ≠ b645 := (Ne.symm (own_ne V645.lt (own_tr (own_tr (own_tr (Keep.of_wr W647).1 (Keep.of_wr W650).1) (Keep.of_wr W652).1) E654.1) P757_5))
         have gx768 : n0 ≤ bl_757 := Nat.le_trans Zs655 P757_6
         have nx769 : b645 ≠ bl_757 := (own_ne V645.lt (own_tr (own_tr (own_tr (Keep.of_wr W647).1 (Keep.of_wr W650).1) (Keep.of_wr W652).1) E654.1) P757_6)
         refine own_virt (W := 0) X757 hx hZ hown rfl (ow hw 26 rfl) (ow hw 27 rfl) (ow hw 29 rfl) (ow hw 28 rfl) (rmap4_0E1 l Z a0 hw [] b654 b645 kl645 (own_k p2) (own_k p3) (own_k p4) (own_l0 p1) ib_757 ks_757 kk_757 bl_757 kb_757 (0 : Int32) (0 : Int32) (0 : Int32) (0 : Int32) T757.heap n0 Zs759 F761 P757_0 P757_1 P757_2 P757_3 P757_7 P757_8 P757_9 P757_12 F764 gx758 gx765 gx766 nx767 gx768 P757_13 nx769 (own_pos p2) (own_pos p3) (own_pos p4) (own_nz _ hz0).1 (own_nz _ hz0).2 P757_10 P757_11) (ow hw 30 rfl) (ow hw 4 rfl) F761 rfl (by rw [hml]; rfl) rfl (hb hby at_64) (lenOf pd___II_I rfl) rfl (by decide) (fun T760 v760 Ll760 X760 hQ760 => ?_)
         obtain ⟨cn_760, kn_760, vsn_760, rfl, N760q, K760, P760_0, P760_1, P760_2, P760_3, P760_4, P760_5, P760_6, P760_7, P760_8, P760_9, P760_10⟩ := hQ760
         have N760 := Fr.app N757 N760q
         have Zs770 : n0 ≤ T760.heap.size := Nat.le_trans Zs759 K760.1
         refine own_go (b := (T760.setTop (mkF m 74 #[iv p0, iv p1, iv p2, iv p3, iv p4, iv (own_l0 p1), iv (0 : Int32), iv (0 : Int32), rv b645, rv b654] [(.int (0 : Int32)), (.ref b645), (.ref b654)]))) (fun _ k => XS.pop X760.here hx rfl (hb hby at_67) rfl rfl (XS.aload X760.here hx rfl (hb hby at_68) rfl rfl (XS.aload X760.here hx rfl (hb hby at_70) rfl rfl (XS.iload X760.here hx rfl (hb hby at_72) rfl k)))) ?_
         have F772 := F761.keep K760
         have F773 := P757_7.keep K760
         have nx774 : b645 ≠ ib_757 := (own_ne V645.lt (own_tr (own_tr (own_tr (Keep.of_wr W647).1 (Keep.of_wr W650).1) (Keep.of_wr W652).1) E654.1) P757_4)
         have F775 := F764.keep K760 (ninS nx763 (ninS nx774 (ninS (Ne.symm nx767) (ninS nx769 nin0))))
         refine own_virt (W := 0) X760 hx hZ hown rfl (ow hw 26 rfl) (ow hw 27 rfl) (ow hw 29 rfl) (ow hw 28 rfl) (rmap4_1N0 l Z a0 hw [] b654 b645 kl645 (own_k p2) (own_k p3) (own_k p4) ib_757 ks_757 kk_757 (own_l0 p1) (0 : Int32) (own_l0 p1) (0 : Int32) (0 : Int32) T760.heap n0 Zs770 F772 P760_0 P760_3 P760_1 P760_2 F773 P760_5 P760_4 F775 gx758 gx765 gx766 nx767 (own_pos p2) (own_pos p3) (own_pos p4)) (ow hw 30 rfl) (ow hw 4 rfl) F772 rfl (by rw [hml]; rfl) rfl (hb hby at_74) (lenOf pd___II_I rfl) rfl (by decide) (fun T771 v771 Ll771 X771 hQ771 => ?_)
         obtain ⟨rfl, N771q, K771, P771_0, P771_1, P771_2, P771_3, P771_4⟩ := hQ771
         have N771 := Fr.app N760 N771q
         have Zs776 : n0 ≤ T771.heap.size := Nat.le_trans Zs770 K771.1
         refine own_go (b := (T771.setTop (mkF m 84 #[iv p0, iv p1, iv p2, iv p3, iv p4, iv (own_l0 p1), iv (0 : Int32), iv (0 : Int32), rv b645, rv b654] [(.int (0 : Int32)), (.ref b645), (.ref b654)]))) (fun _ k => XS.pop X771.here hx rfl (hb hby at_77) rfl rfl (XS.aload X771.here hx rfl (hb hby at_78) rfl rfl (XS.aload X771.here hx rfl (hb hby at_80) rfl rfl (XS.iload X771.here hx rfl (hb hby at_82) rfl k)))) ?_
         have F778 := F772.keep K771
         have F779 := F773.keep K771
         obtain ⟨cn780, An780, -⟩ := id P757_12
         have nx781 : ib_757 ≠ ks_757 := (ne_arr P757_7 (ow hw 12 rfl) An780)
         have nx782 : ib_757 ≠ b654 := (Ne.symm (own_ne A654.lt (Nat.le_refl _) P757_4))
         have F783 := P760_5.keep K771 (ninS nx782 (ninS nx781 nin0))
         have F784 := F775.keep K771 (ninS nx763 (ninS (Ne.symm nx767) nin0))
         refine own_virt (W := 0) X771 hx hZ hown rfl (ow hw 26 rfl) (ow hw 27 rfl) (ow hw 29 rfl) (ow hw 28 rfl) (rmap4_2N0 l Z a0 hw [] b654 b645 kl645 (own_k p2) (own_k p3) (own_k p4) ib_757 ks_757 kk_757 (own_l0 p1) (0 : Int32) (own_l0 p1) (own_l0 p1) (0 : Int32) T771.heap n0 Zs776 F778 P771_0 P771_3 P771_1 P771_2 F779 F783 P771_4 F784 gx758 gx765 gx766 nx767 (own_pos p2) (own_pos p3) (own_pos p4)) (ow hw 30 rfl) (ow hw 4 rfl) F778 rfl (by rw [hml]; rfl) rfl (hb hby at_84) (lenOf pd___II_I rfl) rfl (by decide) (fun T777 v777 Ll777 X777 hQ777 => ?_)
         obtain ⟨rfl, N777q, K777, P777_0, P777_1, P777_2, P777_3, P777_4⟩ := hQ777
         have N777 := Fr.app N771 N777q
         have Zs785 : n0 ≤ T777.heap.size := Nat.le_trans Zs776 K777.1
         refine own_go (b := (T777.setTop (mkF m 91 #[iv p0, iv p1, iv p2, iv p3, iv p4, iv (own_l0 p1), iv (0 : Int32), iv (0 : Int32), rv b645, rv b654] [(.int (0 : Int32)), (.ref b654)]))) (fun _ k => XS.pop X777.here hx rfl (hb hby at_87) rfl rfl (XS.aload X777.here hx rfl (hb hby at_88) rfl rfl (XS.iconst X777.here hx rfl (hb hby at_90) k))) ?_
         have F787 := F778.keep K777
         refine own_virt (W := 0) X777 hx hZ hown rfl (ow hw 68 rfl) (ow hw 69 rfl) (ow hw 71 rfl) (ow hw 70 rfl) (rmlen4_0 l Z a0 hw [] b654 ks_757 kk_757 (0 : Int32) (own_l0 p1) (own_l0 p1) (own_l0 p1) T777.heap n0 Zs785 P777_3 P777_4) (ow hw 72 rfl) (ow hw 4 rfl) F787 rfl (by rw [hml]; rfl) rfl (hb hby at_91) (lenOf pd__I_I rfl) rfl (by decide) (fun T786 v786 Ll786 X786 hQ786 => ?_)
         obtain ⟨rfl, N786q, eh786⟩ := hQ786
         have N786 := Fr.app N777 N786q
         refine own_go (b := (T786.setTop (mkF m 102 #[iv p0, iv p1, iv p2, iv p3, iv p4, iv (own_l0 p1), iv (0 : Int32), iv (0 : Int32), rv b645, rv b654] [(.int (1 : Int32)), (.ref b654)]))) (fun _ k => XS.iload X786.here hx rfl (hb hby at_94) rfl (XS.icmpNo X786.here hx rfl (hb hby at_96) rfl (teq (Int32.sub_zero _)).2 (XS.aload X786.here hx rfl (hb hby at_99) rfl rfl (XS.iconst X786.here hx rfl (hb hby at_101) k)))) ?_
         refine own_virt (W := 0) X786 hx hZ hown eh786 (ow hw 68 rfl) (ow hw 69 rfl) (ow hw 71 rfl) (ow hw 70 rfl) (rmlen4_1 l Z a0 hw [] b654 ks_757 kk_757 (0 : Int32) (own_l0 p1) (own_l0 p1) (own_l0 p1) T777.heap n0 Zs785 P777_3 P777_4) (ow hw 72 rfl) (ow hw 4 rfl) F787 rfl (by rw [hml]; rfl) rfl (hb hby at_102) (lenOf pd__I_I rfl) rfl (by decide) (fun T788 v788 Ll788 X788 hQ788 => ?_)
         obtain ⟨rfl, N788q, eh788⟩ := hQ788
         have N788 := Fr.app N786 N788q
         refine own_go (b := (T788.setTop (mkF m 113 #[iv p0, iv p1, iv p2, iv p3, iv p4, iv (own_l0 p1), iv (0 : Int32), iv (0 : Int32), rv b645, rv b654] [(.int (2 : Int32)), (.ref b654)]))) (fun _ k => XS.iload X788.here hx rfl (hb hby at_105) rfl (XS.icmpNo X788.here hx rfl (hb hby at_107) rfl (teq (Int32.sub_self _)).2 (XS.aload X788.here hx rfl (hb hby at_110) rfl rfl (XS.iconst X788.here hx rfl (hb hby at_112) k)))) ?_
         refine own_virt (W := 0) X788 hx hZ hown eh788 (ow hw 68 rfl) (ow hw 69 rfl) (ow hw 71 rfl) (ow hw 70 rfl) (rmlen4_2 l Z a0 hw [] b654 ks_757 kk_757 (0 : Int32) (own_l0 p1) (own_l0 p1) (own_l0 p1) T777.heap n0 Zs785 P777_3 P777_4) (ow hw 72 rfl) (ow hw 4 rfl) F787 rfl (by rw [hml]; rfl) rfl (hb hby at_113) (lenOf pd__I_I rfl) rfl (by decide) (fun T789 v789 Ll789 X789 hQ789 => ?_)
         obtain ⟨rfl, N789q, eh789⟩ := hQ789
         have N789 := Fr.app N788 N789q
         refine own_go (b := (T789.setTop (mkF m 126 #[iv p0, iv p1, iv p2, iv p3, iv p4, iv (own_l0 p1), iv (0 : Int32), iv (0 : Int32), rv b645, rv b654] [(.int (1 : Int32))]))) (fun _ k => XS.iload X789.here hx rfl (hb hby at_116) rfl (XS.icmpNo X789.here hx rfl (hb hby at_118) rfl (teq (Int32.sub_self _)).2 (XS.iconst X789.here hx rfl (hb hby at_121) (XS.goto X789.here hx rfl (pc0 := 122) (pc' := 126) rfl (hb hby at_122) (by decide) (by decide) k)))) ?_
         obtain ⟨fs, hr, hrun, hended, hW, hsame⟩ := X789.leave (v := some (.int (1 : Int32))) (fun h => by rw [Bd.returns] at h; cases h)
         exact ⟨_, _, retN X789 hx (t := .boolean) Bd.returns (by simp) (hb hby at_126) hr, hrun, hended, _, _, rfl, (show Qrm0 Z p0 p1 p2 p3 p4 h0 n0 _ T789.heap _ from (by rw [eh789]; exact ⟨rfl, N789⟩)), ⟨_, rfl⟩, hW, hsame.mono (by decide) (by decide)⟩
     · skip
       refine own_go (b := (s₁.setTop (mkF m 20 #[iv p0, iv p1, iv p2, iv p3, iv p4, iv (own_l0 p1), iv (0 : Int32), iv (own_l2 p1), .unset, .unset] [(.int (3 : Int32))]))) (fun _ k => XS.istore X0.here hx rfl (hb hby at_17) rfl (l' := #[iv p0, iv p1, iv p2, iv p3, iv p4, iv (own_l0 p1), iv (0 : Int32), iv (own_l2 p1), .unset, .unset]) rfl (XS.iconst X0.here hx rfl (hb hby at_19) k)) ?_
       obtain ⟨T790, h790, kl790, X790, e790, E790, A790, st790⟩ := newP X0 hx hZ (ow hw 0 rfl) e0 (g := (mkF m 20 #[iv p0, iv p1, iv p2, iv p3, iv p4, iv (own_l0 p1), iv (0 : Int32), iv (own_l2 p1), .unset, .unset] [(.int (3 : Int32))])) rfl (hb hby at_20) rfl (by decide) (cap := 3) (by decide) (by decide) (by decide) (by decide)
       obtain ⟨b790, g790⟩ : ∃ z, z = h0.size := ⟨_, rfl⟩
       rw [← g790] at A790 st790
       have Zs791 : n0 ≤ h790.size := Nat.le_trans Z0 E790.1
       have V790 : Arv Z h790 b790 kl790 .int (3 : Int32) [(.int (0 : Int32)), (.int (0 : Int32)), (.int (0 : Int32))] (.int (0 : Int32)) := (Arv.new A790 (by decide)).pad (pad_rep [] (.int (0 : Int32)) 3)
       refine own_go (b := (T790.setTop (mkF m 28 #[iv p0, iv p1, iv p2, iv p3, iv p4, iv (own_l0 p1), iv (0 : Int32), iv (own_l2 p1), .unset, .unset] [(.int (own_k p2)), (.int (0 : Int32)), (.ref b790), (.ref b790)]))) (fun _ k => st790 _ (XS.dup X790.here hx rfl (hb hby at_22) rfl rfl (XS.iconst X790.here hx rfl (hb hby at_23) (XS.iloadN X790.here hx rfl (hb hby at_24) rfl (X790.ldcInt hx hown (mvT hZ (ow hw 1 rfl)) (g := (mkF m 25 #[iv p0, iv p1, iv p2, iv p3, iv p4, iv (own_l0 p1), iv (0 : Int32), iv (own_l2 p1), .unset, .unset] [(.int p2), (.int (0 : Int32)), (.ref b790), (.ref b790)])) rfl (hb hby at_25) _ (XS.iand X790.here hx rfl (hb hby at_27) rfl k)))))) ?_
       obtain ⟨cl792, Ar792, ql792, Sz792, Nn792, Hl792, Gl792⟩ := id V790
       have hin792 : ¬ ((0 : Int32) < 0 ∨ cl792.slots.size ≤ ((0 : Int32)).toNatClampNeg) := inb_of Sz792 ⟨by decide, by decide⟩
       obtain ⟨T792, h792, X792, e792, W792, st792⟩ := stI X790 hx hZ e790 Ar792 (j := (0 : Int32)) hin792 (g := (mkF m 28 #[iv p0, iv p1, iv p2, iv p3, iv p4, iv (own_l0 p1), iv (0 : Int32), iv (own_l2 p1), .unset, .unset] [(.int (own_k p2)), (.int (0 : Int32)), (.ref b790), (.ref b790)])) rfl rfl (hb hby at_28)
       have gx793 : n0 ≤ b790 := Nat.le_trans Z0 (Nat.le_of_eq g790.symm)
       have N792 := Fr.snoc X792 N0 gx793
       have Zs794 : n0 ≤ h792.size := Nat.le_trans Zs791 (Keep.of_wr W792).1
       have V792 : Arv Z h792 b790 kl790 .int (3 : Int32) [(.int (own_k p2)), (.int (0 : Int32)), (.int (0 : Int32))] (.int (0 : Int32)) := Arv.set Ar792 ql792 Sz792 Nn792 Hl792 Gl792 rfl W792 0 rfl (Nat.le_of_ble_eq_true rfl)
       refine own_go (b := (T792.setTop (mkF m 35 #[iv p0, iv p1, iv p2, iv p3, iv p4, iv (own_l0 p1), iv (0 : Int32), iv (own_l2 p1), .unset, .unset] [(.int (own_k p3)), (.int (1 : Int32)), (.ref b790), (.ref b790)]))) (fun _ k => st792 _ (XS.dup X792.here hx rfl (hb hby at_29) rfl rfl (XS.iconst X792.here hx rfl (hb hby at_30) (XS.iloadN X792.here hx rfl (hb hby at_31) rfl (X792.ldcInt hx hown (mvT hZ (ow hw 1 rfl)) (g := (mkF m 32 #[iv p0, iv p1, iv p2, iv p3, iv p4, iv (own_l0 p1), iv (0 : Int32), iv (own_l2 p1), .unset, .unset] [(.int p3), (.int (1 : Int32)), (.ref b790), (.ref b790)])) rfl (hb hby at_32) _ (XS.iand X792.here hx rfl (hb hby at_34) rfl k)))))) ?_
       obtain ⟨cl795, Ar795, ql795, Sz795, Nn795, Hl795, Gl795⟩ := id V792
       have hin795 : ¬ ((1 : Int32) < 0 ∨ cl795.slots.size ≤ ((1 : Int32)).toNatClampNeg) := inb_of Sz795 ⟨by decide, by decide⟩
       obtain ⟨T795, h795, X795, e795, W795, st795⟩ := stI X792 hx hZ e792 Ar795 (j := (1 : Int32)) hin795 (g := (mkF m 35 #[iv p0, iv p1, iv p2, iv p3, iv p4, iv (own_l0 p1), iv (0 : Int32), iv (own_l2 p1), .unset, .unset] [(.int (own_k p3)), (.int (1 : Int32)), (.ref b790), (.ref b790)])) rfl rfl (hb hby at_35)
       have N795 := Fr.snoc X795 N792 gx793
       have Zs796 : n0 ≤ h795.size := Nat.le_trans Zs794 (Keep.of_wr W795).1
       have V795 : Arv Z h795 b790 kl790 .int (3 : Int32) [(.int (own_k p2)), (.int (own_k p3)), (.int (0 : Int32))] (.int (0 : Int32)) := Arv.set Ar795 ql795 Sz795 Nn795 Hl795 Gl795 rfl W795 1 rfl (Nat.le_of_ble_eq_true rfl)
       refine own_go (b := (T795.setTop (mkF m 43 #[iv p0, iv p1, iv p2, iv p3, iv p4, iv (own_l0 p1), iv (0 : Int32), iv (own_l2 p1), .unset, .unset] [(.int (own_k p4)), (.int (2 : Int32)), (.ref b790), (.ref b790)]))) (fun _ k => st795 _ (XS.dup X795.here hx rfl (hb hby at_36) rfl rfl (XS.iconst X795.here hx rfl (hb hby at_37) (XS.iload X795.here hx rfl (hb hby at_38) rfl (X795.ldcInt hx hown (mvT hZ (ow hw 1 rfl)) (g := (mkF m 40 #[iv p0, iv p1, iv p2, iv p3, iv p4, iv (own_l0 p1), iv (0 : Int32), iv (own_l2 p1), .unset, .unset] [(.int p4), (.int (2 : Int32)), (.ref b790), (.ref b790)])) rfl (hb hby at_40) _ (XS.iand X795.here hx rfl (hb hby at_42) rfl k)))))) ?_
       obtain ⟨cl797, Ar797, ql797, Sz797, Nn797, Hl797, Gl797⟩ := id V795
       have hin797 : ¬ ((2 : Int32) < 0 ∨ cl797.slots.size ≤ ((2 : Int32)).toNatClampNeg) := inb_of Sz797 ⟨by decide, by decide⟩
       obtain ⟨T797, h797, X797, e797, W797, st797⟩ := stI X795 hx hZ e795 Ar797 (j := (2 : Int32)) hin797 (g := (mkF m 43 #[iv p0, iv p1, iv p2, iv p3, iv p4, iv (own_l0 p1), iv (0 : Int32), iv (own_l2 p1), .unset, .unset] [(.int (own_k p4)), (.int (2 : Int32)), (.ref b790), (.ref b790)])) rfl rfl (hb hby at_43)
       have N797 := Fr.snoc X797 N795 gx793
       have Zs798 : n0 ≤ h797.size := Nat.le_trans Zs796 (Keep.of_wr W797).1
       have V797 : Arv Z h797 b790 kl790 .int (3 : Int32) [(.int (own_k p2)), (.int (own_k p3)), (.int (own_k p4))] (.int (0 : Int32)) := Arv.set Ar797 ql797 Sz797 Nn797 Hl797 Gl797 rfl W797 2 rfl (Nat.le_of_ble_eq_true rfl)
       refine own_go (b := (T797.setTop (mkF m 46 #[iv p0, iv p1, iv p2, iv p3, iv p4, iv (own_l0 p1), iv (0 : Int32), iv (own_l2 p1), rv b790, .unset] []))) (fun _ k => st797 _ (XS.astore X797.here hx rfl (hb hby at_44) rfl rfl (l' := #[iv p0, iv p1, iv p2, iv p3, iv p4, iv (own_l0 p1), iv (0 : Int32), iv (own_l2 p1), rv b790, .unset]) rfl k)) ?_
       obtain ⟨T799, h799, X799, e799, E799, A799, D799, -, st799⟩ := newO X797 hx hZ hown (ow hw 2 rfl) (ow hw 3 rfl) (ow hw 4 rfl) e797 (g := (mkF m 46 #[iv p0, iv p1, iv p2, iv p3, iv p4, iv (own_l0 p1), iv (0 : Int32), iv (own_l2 p1), rv b790, .unset] [])) rfl (hb hby at_46) (by decide) (by decide)
       obtain ⟨b799, g799⟩ : ∃ z, z = h797.size := ⟨_, rfl⟩
       rw [← g799] at A799 D799 st799
       have Zs800 : n0 ≤ h799.size := Nat.le_trans Zs798 E799.1
       have F799_keys : Fld Z h799 b799 cs0 "keys" "Lcom/example/arcwright/arcwright/parser/IntBlocks;" .null := D799 (Or.inr (ow hw 23 rfl)) (ty := (.object cs1)) (by decide)
       have F799_keyStarts : Fld Z h799 b799 cs0 "keyStarts" "[I" .null := D799 (Or.inl (ow hw 25 rfl)) (ty := (.array .int)) (by decide)
       have F799_labelStarts : Fld Z h799 b799 cs0 "labelStarts" "[I" .null := D799 (Or.inl (ow hw 32 rfl)) (ty := (.array .int)) (by decide)
       have F799_size : Fld Z h799 b799 cs0 "size" "I" (.int (0 : Int32)) := D799 (Or.inl (ow hw 34 rfl)) (ty := .int) (by decide)
       refine own_go (b := (T799.setTop (mkF m 53 #[iv p0, iv p1, iv p2, iv p3, iv p4, iv (own_l0 p1), iv (0 : Int32), iv (own_l2 p1), rv b790, .unset] [(.int (p0 &&& (3 : Int32))), (.ref b799), (.ref b799)]))) (fun _ k => st799 _ (XS.dup X799.here hx rfl (hb hby at_49) rfl rfl (XS.iloadN X799.here hx rfl (hb hby at_50) rfl (XS.iconst X799.here hx rfl (hb hby at_51) (XS.iand X799.here hx rfl (hb hby at_52) rfl k))))) ?_
       rcases own_and3 p0 with hk | hk | hk | hk
       · rw [hk]
         have gx802 : n0 ≤ b799 := Nat.le_trans Zs798 (Nat.le_of_eq g799.symm)
         refine own_spec (W := 1) X799 hx hZ hown e799 (ow hw 5 rfl) (ow hw 6 rfl) (rmft0 l Z a0 hw [] b799 .null .null h799 n0 Zs800 A799 F799_keys F799_keyStarts F799_labelStarts F799_size gx802) (ow hw 7 rfl) (ow hw 4 rfl) rfl (by rw [hml]; rfl) rfl (hb hby at_53) (lenOf pd__I_V rfl) rfl rfl (by decide) (fun T801 v801 Ll801 X801 hQ801 => ?_)
         obtain ⟨ib_801, ks_801, kk_801, bl_801, kb_801, rfl, N801q, K801, P801_0, P801_1, P801_2, P801_3, P801_4, P801_5, P801_6, P801_7, P801_8, P801_9, P801_10, P801_11, P801_12, P801_13⟩ := hQ801
         have N801 := Fr.app N797 N801q
         have Zs803 : n0 ≤ T801.heap.size := Nat.le_trans Zs800 K801.1
         refine own_go (b := (T801.setTop (mkF m 64 #[iv p0, iv p1, iv p2, iv p3, iv p4, iv (own_l0 p1), iv (0 : Int32), iv (own_l2 p1), rv b790, rv b799] [(.int (own_l0 p1)), (.ref b790), (.ref b799)]))) (fun _ k => XS.astore X801.here hx rfl (hb hby at_56) rfl rfl (l' := #[iv p0, iv p1, iv p2, iv p3, iv p4, iv (own_l0 p1), iv (0 : Int32), iv (own_l2 p1), rv b790, rv b799]) rfl (XS.aload X801.here hx rfl (hb hby at_58) rfl rfl (XS.aload X801.here hx rfl (hb hby at_60) rfl rfl (XS.iload X801.here hx rfl (hb hby at_62) rfl k)))) ?_
         have F805 := A799.keep K801
         have F806 := V797.ext E799
         have nx807 : b790 ≠ b799 := (own_ne V790.lt (own_tr (own_tr (Keep.of_wr W792).1 (Keep.of_wr W795).1) (Keep.of_wr W797).1) (Nat.le_of_eq g799.symm))
         have F808 := F806.keep K801 (ninS nx807 nin0)
         have gx809 : n0 ≤ ib_801 := Nat.le_trans Zs800 P801_4
         have gx810 : n0 ≤ ks_801 := Nat.le_trans Zs800 P801_5
         have nx811 : ks_801 ≠ b790 := (Ne.symm (own_ne V790.lt (own_tr (own_tr (own_tr (Keep.of_wr W792).1 (Keep.of_wr W795).1) (Keep.of_wr W797).1) E799.1) P801_5))
         have gx812 : n0 ≤ bl_801 := Nat.le_trans Zs800 P801_6
         have nx813 : b790 ≠ bl_801 := (own_ne V790.lt (own_tr (own_tr (own_tr (Keep.of_wr W792).1 (Keep.of_wr W795).1) (Keep.of_wr W797).1) E799.1) P801_6)
         refine own_virt (W := 0) X801 hx hZ hown rfl (ow hw 26 rfl) (ow hw 27 rfl) (ow hw 29 rfl) (ow hw 28 rfl) (rmap1_0E1 l Z a0 hw [] b799 b790 kl790 (own_k p2) (own_k p3) (own_k p4) (own_l0 p1) ib_801 ks_801 kk_801 bl_801 kb_801 (0 : Int32) T801.heap n0 Zs803 F805 P801_0 P801_1 P801_2 P801_3 P801_7 P801_8 P801_9 P801_12 F808 gx802 gx809 gx810 nx811 gx812 P801_13 nx813 (own_pos p2) (own_pos p3) (own_pos p4) (own_nz _ hz0).1 (own_nz _ hz0).2 P801_10 P801_11) (ow hw 30 rfl) (ow hw 4 rfl) F805 rfl (by rw [hml]; rfl) rfl (hb hby at_64) (lenOf pd___II_I rfl) rfl (by decide) (fun T804 v804 Ll804 X804 hQ804 => ?_)
         obtain ⟨ksn_804, kkn_804, cn_804, kn_804, vsn_804, rfl, N804q, K804, P804_0, P804_1, P804_2, P804_3, P804_4, P804_5, P804_6, P804_7, P804_8, P804_9, P804_10, P804_11, P804_12⟩ := hQ804
         have N804 := Fr.app N801 N804q
         have Zs814 : n0 ≤ T804.heap.size := Nat.le_trans Zs803 K804.1
         refine own_go (b := (T804.setTop (mkF m 74 #[iv p0, iv p1, iv p2, iv p3, iv p4, iv (own_l0 p1), iv (0 : Int32), iv (own_l2 p1), rv b790, rv b799] [(.int (0 : Int32)), (.ref b790), (.ref b799)]))) (fun _ k => XS.pop X804.here hx rfl (hb hby at_67) rfl rfl (XS.aload X804.here hx rfl (hb hby at_68) rfl rfl (XS.aload X804.here hx rfl (hb hby at_70) rfl rfl (XS.iload X804.here hx rfl (hb hby at_72) rfl k)))) ?_
         have F816 := F805.keep K804
         have F817 := P801_7.keep K804
         have nx818 : b790 ≠ ib_801 := (own_ne V790.lt (own_tr (own_tr (own_tr (Keep.of_wr W792).1 (Keep.of_wr W795).1) (Keep.of_wr W797).1) E799.1) P801_4)
         have F819 := F808.keep K804 (ninS nx807 (ninS nx818 (ninS nx813 nin0)))
         have gx820 : n0 ≤ ksn_804 := Nat.le_trans Zs803 P804_3
         have nx821 : ksn_804 ≠ b790 := (Ne.symm (own_ne V790.lt (own_tr (own_tr (own_tr (own_tr (Keep.of_wr W792).1 (Keep.of_wr W795).1) (Keep.of_wr W797).1) E799.1) K801.1) P804_3))
         refine own_virt (W := 0) X804 hx hZ hown rfl (ow hw 26 rfl) (ow hw 27 rfl) (ow hw 29 rfl) (ow hw 28 rfl) (rmap2_1N0 l Z a0 hw [] b799 b790 kl790 (own_k p2) (own_k p3) (own_k p4) ib_801 ksn_804 kkn_804 (own_l0 p1) (0 : Int32) (own_l0 p1) T804.heap n0 Zs814 F816 P804_0 P804_4 P804_1 P804_2 F817 P804_6 P804_5 F819 gx802 gx809 gx820 nx821 (own_pos p2) (own_pos p3) (own_pos p4)) (ow hw 30 rfl) (ow hw 4 rfl) F816 rfl (by rw [hml]; rfl) rfl (hb hby at_74) (lenOf pd___II_I rfl) rfl (by decide) (fun T815 v815 Ll815 X815 hQ815 => ?_)
         obtain ⟨ksn_815, kkn_815, rfl, N815q, K815, P815_0, P815_1, P815_2, P815_3, P815_4, P815_5⟩ := hQ815
         have N815 := Fr.app N804 N815q
         have Zs822 : n0 ≤ T815.heap.size := Nat.le_trans Zs814 K815.1
         refine own_go (b := (T815.setTop (mkF m 84 #[iv p0, iv p1, iv p2, iv p3, iv p4, iv (own_l0 p1), iv (0 : Int32), iv (own_l2 p1), rv b790, rv b799] [(.int (own_l2 p1)), (.ref b790), (.ref b799)]))) (fun _ k => XS.pop X815.here hx rfl (hb hby at_77) rfl rfl (XS.aload X815.here hx rfl (hb hby at_78) rfl rfl (XS.aload X815.here hx rfl (hb hby at_80) rfl rfl (XS.iload X815.here hx rfl (hb hby at_82) rfl k)))) ?_
         have F824 := F816.keep K815
         have F825 := F817.keep K815
         have nx826 : ib_801 ≠ b799 := (Ne.symm (own_ne A799.lt (Nat.le_refl _) P801_4))
         have F827 := P804_6.keep K815 (ninS nx826 nin0)
         have F828 := P804_7.keep K815 (ninS nx826 nin0)
         have F829 := F819.keep K815 (ninS nx807 nin0)
         have gx830 : n0 ≤ ksn_815 := Nat.le_trans Zs814 P815_3
         have nx831 : ksn_815 ≠ b790 := (Ne.symm (own_ne V790.lt (own_tr (own_tr (own_tr (own_tr (own_tr (Keep.of_wr W792).1 (Keep.of_wr W795).1) (Keep.of_wr W797).1) E799.1) K801.1) K804.1) P815_3))
         have nx832 : ksn_815 ≠ bl_801 := (Ne.symm (own_ne P801_10.lt K804.1 P815_3))
         have nx833 : bl_801 ≠ b799 := (Ne.symm (own_ne A799.lt (Nat.le_refl _) P801_6))
         have F834 := P804_9.keep K815 (ninS nx833 nin0)
         have nx835 : cn_804 ≠ b799 := (Ne.symm (own_ne A799.lt K801.1 P804_8))
         have F836 := P804_10.keep K815 (ninS nx835 nin0)
         have gx837 : n0 ≤ cn_804 := Nat.le_trans Zs803 P804_8
         have nx838 : b790 ≠ cn_804 := (own_ne V790.lt (own_tr (own_tr (own_tr (own_tr (Keep.of_wr W792).1 (Keep.of_wr W795).1) (Keep.of_wr W797).1) E799.1) K801.1) P804_8)
         have nx839 : bl_801 ≠ cn_804 := (own_ne P801_10.lt (Nat.le_refl _) P804_8)
         have nx840 : ksn_815 ≠ cn_804 := (Ne.symm (own_ne P804_10.lt (Nat.le_refl _) P815_3))
         refine own_virt (W := 0) X815 hx hZ hown rfl (ow hw 26 rfl) (ow hw 27 rfl) (ow hw 29 rfl) (ow hw 28 rfl) (rmap4_2F1 l Z a0 hw [] b799 b790 kl790 (own_k p2) (own_k p3) (own_k p4) (own_l2 p1) ib_801 ksn_815 kkn_815 bl_801 kb_801 (0 : Int32) (own_l0 p1) (own_l0 p1) (0 : Int32) (own_l0 p1) cn_804 kn_804 vsn_804 T815.heap n0 Zs822 F824 P815_0 P815_4 P815_1 P815_2 F825 F827 F828 P815_5 F829 gx802 gx809 gx830 nx831 gx812 nx832 nx813 (own_pos p2) (own_pos p3) (own_pos p4) (own_nz _ hz2).1 (own_nz _ hz2).2 F834 F836 P804_11 gx837 nx838 nx839 nx840 (own_nz _ hz0).1 (own_36 (own_nz _ hz0).2)) (ow hw 30 rfl) (ow hw 4 rfl) F824 rfl (by rw [hml]; rfl) rfl (hb hby at_84) (lenOf pd___II_I rfl) rfl (by decide) (fun T823 v823 Ll823 X823 hQ823 => ?_)
         obtain ⟨vsn_823, rfl, N823q, K823, P823_0, P823_1, P823_2, P823_3, P823_4, P823_5, P823_6, P823_7, P823_8⟩ := hQ823
         have N823 := Fr.app N815 N823q
         have Zs841 : n0 ≤ T823.heap.size := Nat.le_trans Zs822 K823.1
         refine own_go (b := (T823.setTop (mkF m 91 #[iv p0, iv p1, iv p2, iv p3, iv p4, iv (own_l0 p1), iv (0 : Int32), iv (own_l2 p1), rv b790, rv b799] [(.int (0 : Int32)), (.ref b799)]))) (fun _ k => XS.pop X823.here hx rfl (hb hby at_87) rfl rfl (XS.aload X823.here hx rfl (hb hby at_88) rfl rfl (XS.iconst X823.here hx rfl (hb hby at_90) k))) ?_
         have F843 := F824.keep K823
         refine own_virt (W := 0) X823 hx hZ hown rfl (ow hw 68 rfl) (ow hw 69 rfl) (ow hw 71 rfl) (ow hw 70 rfl) (rmlen4_0 l Z a0 hw [] b799 ksn_815 kkn_815 (0 : Int32) (own_l0 p1) (own_l0 p1) ((own_l0 p1) + (own_l2 p1)) T823.heap n0 Zs841 P823_3 P823_4) (ow hw 72 rfl) (ow hw 4 rfl) F843 rfl (by rw [hml]; rfl) rfl (hb hby at_91) (lenOf pd__I_I rfl) rfl (by decide) (fun T842 v842 Ll842 X842 hQ842 => ?_)
         obtain ⟨rfl, N842q, eh842⟩ := hQ842
         have N842 := Fr.app N823 N842q
         refine own_go (b := (T842.setTop (mkF m 102 #[iv p0, iv p1, iv p2, iv p3, iv p4, iv (own_l0 p1), iv (0 : Int32), iv (own_l2 p1), rv b790, rv b799] [(.int (1 : Int32)), (.ref b799)]))) (fun _ k => XS.iload X842.here hx rfl (hb hby at_94) rfl (XS.icmpNo X842.here hx rfl (hb hby at_96) rfl (teq (Int32.sub_zero _)).2 (XS.aload X842.here hx rfl (hb hby at_99) rfl rfl (XS.iconst X842.here hx rfl (hb hby at_101) k)))) ?_
         refine own_virt (W := 0) X842 hx hZ hown eh842 (ow hw 68 rfl) (ow hw 69 rfl) (ow hw 71 rfl) (ow hw 70 rfl) (rmlen4_1 l Z a0 hw [] b799 ksn_815 kkn_815 (0 : Int32) (own_l0 p1) (own_l0 p1) ((own_l0 p1) + (own_l2 p1)) T823.heap n0 Zs841 P823_3 P823_4) (ow hw 72 rfl) (ow hw 4 rfl) F843 rfl (by rw [hml]; rfl) rfl (hb hby at_102) (lenOf pd__I_I rfl) rfl (by decide) (fun T844 v844 Ll844 X844 hQ844 => ?_)
         obtain ⟨rfl, N844q, eh844⟩ := hQ844
         have N844 := Fr.app N842 N844q
         refine own_go (b := (T844.setTop (mkF m 113 #[iv p0, iv p1, iv p2, iv p3, iv p4, iv (own_l0 p1), iv (0 : Int32), iv (own_l2 p1), rv b790, rv b799] [(.int (2 : Int32)), (.ref b799)]))) (fun _ k => XS.iload X844.here hx rfl (hb hby at_105) rfl (XS.icmpNo X844.here hx rfl (hb hby at_107) rfl (teq (Int32.sub_self _)).2 (XS.aload X844.here hx rfl (hb hby at_110) rfl rfl (XS.iconst X844.here hx rfl (hb hby at_112) k)))) ?_
         refine own_virt (W := 0) X844 hx hZ hown eh844 (ow hw 68 rfl) (ow hw 69 rfl) (ow hw 71 rfl) (ow hw 70 rfl) (rmlen4_2 l Z a0 hw [] b799 ksn_815 kkn_815 (0 : Int32) (own_l0 p1) (own_l0 p1) ((own_l0 p1) + (own_l2 p1)) T823.heap n0 Zs841 P823_3 P823_4) (ow hw 72 rfl) (ow hw 4 rfl) F843 rfl (by rw [hml]; rfl) rfl (hb hby at_113) (lenOf pd__I_I rfl) rfl (by decide) (fun T845 v845 Ll845 X845 hQ845 => ?_)
         obtain ⟨rfl, N845q, eh845⟩ := hQ845
         have N845 := Fr.app N844 N845q
         refine own_go (b := (T845.setTop (mkF m 126 #[iv p0, iv p1, iv p2, iv p3, iv p4, iv (own_l0 p1), iv (0 : Int32), iv (own_l2 p1), rv b790, rv b799] [(.int (1 : Int32))]))) (fun _ k => XS.iload X845.here hx rfl (hb hby at_116) rfl (XS.icmpNo X845.here hx rfl (hb hby at_118) rfl (teq (own_addsub _ _)).2 (XS.iconst X845.here hx rfl (hb hby at_121) (XS.goto X845.here hx rfl (pc0 := 122) (pc' := 126) rfl (hb hby at_122) (by decide) (by decide) k)))) ?_
         obtain ⟨fs, hr, hrun, hended, hW, hsame⟩ := X845.leave (v := some (.int (1 : Int32))) (fun h => by rw [Bd.returns] at h; cases h)
         exact ⟨_, _, retN X845 hx (t := .boolean) Bd.returns (by simp) (hb hby at_126) hr, hrun, hended, _, _, rfl, (show Qrm0 Z p0 p1 p2 p3 p4 h0 n0 _ T845.heap _ from (by rw [eh845]; exact ⟨rfl, N845⟩)), ⟨_, rfl⟩, hW, hsame.mono (by decide) (by decide)⟩
       · rw [hk]
         have gx847 : n0 ≤ b799 := Nat.le_trans Zs798 (Nat.le_of_eq g799.symm)
         refine own_spec (W := 1) X799 hx hZ hown e799 (ow hw 5 rfl) (ow hw 6 rfl) (rmft1 l Z a0 hw [] b799 .null .null h799 n0 Zs800 A799 F799_keys F799_keyStarts F799_labelStarts F799_size gx847) (ow hw 7 rfl) (ow hw 4 rfl) rfl (by rw [hml]; rfl) rfl (hb hby at_53) (lenOf pd__I_V rfl) rfl rfl (by decide) (fun T846 v846 Ll846 X846 hQ846 => ?_)
         obtain ⟨ib_846, ks_846, kk_846, bl_846, kb_846, rfl, N846q, K846, P846_0, P846_1, P846_2, P846_3, P846_4, P846_5, P846_6, P846_7, P846_8, P846_9, P846_10, P846_11, P846_12, P846_13⟩ := hQ846
         have N846 := Fr.app N797 N846q
         have Zs848 : n0 ≤ T846.heap.size := Nat.le_trans Zs800 K846.1
         refine own_go (b := (T846.setTop (mkF m 64 #[iv p0, iv p1, iv p2, iv p3, iv p4, iv (own_l0 p1), iv (0 : Int32), iv (own_l2 p1), rv b790, rv b799] [(.int (own_l0 p1)), (.ref b790), (.ref b799)]))) (fun _ k => XS.astore X846.here hx rfl (hb hby at_56) rfl rfl (l' := #[iv p0, iv p1, iv p2, iv p3, iv p4, iv (own_l0 p1), iv (0 : Int32), iv (own_l2 p1), rv b790, rv b799]) rfl (XS.aload X846.here hx rfl (hb hby at_58) rfl rfl (XS.aload X846.here hx rfl (hb hby at_60) rfl rfl (XS.iload X846.here hx rfl (hb hby at_62) rfl k)))) ?_
         have F850 := A799.keep K846
         have F851 := V797.ext E799
         have nx852 : b790 ≠ b799 := (own_ne V790.lt (own_tr (own_tr (Keep.of_wr W792).1 (Keep.of_wr W795).1) (Keep.of_wr W797).1) (Nat.le_of_eq g799.symm))
         have F853 := F851.keep K846 (ninS nx852 nin0)
         have gx854 : n0 ≤ ib_846 := Nat.le_trans Zs800 P846_4
         have gx855 : n0 ≤ ks_846 := Nat.le_trans Zs800 P846_5
         have nx856 : ks_846 ≠ b790 := (Ne.symm (own_ne V790.lt (own_tr (own_tr (own_tr (Keep.of_wr W792).1 (Keep.of_wr W795).1) (Keep.of_wr W797).1) E799.1) P846_5))
         have gx857 : n0 ≤ bl_846 := Nat.le_trans Zs800 P846_6
         have nx858 : b790 ≠ bl_846 := (own_ne V790.lt (own_tr (own_tr (own_tr (Keep.of_wr W792).1 (Keep.of_wr W795).1) (Keep.of_wr W797).1) E799.1) P846_6)
         refine own_virt (W := 0) X846 hx hZ hown rfl (ow hw 26 rfl) (ow hw 27 rfl) (ow hw 29 rfl) (ow hw 28 rfl) (rmap2_0E1 l Z a0 hw [] b799 b790 kl790 (own_k p2) (own_k p3) (own_k p4) (own_l0 p1) ib_846 ks_846 kk_846 bl_846 kb_846 (0 : Int32) (0 : Int32) T846.heap n0 Zs848 F850 P846_0 P846_1 P846_2 P846_3 P846_7 P846_8 P846_9 P846_12 F853 gx847 gx854 gx855 nx856 gx857 P846_13 nx858 (own_pos p2) (own_pos p3) (own_pos p4) (own_nz _ hz0).1 (own_nz _ hz0).2 P846_10 P846_11) (ow hw 30 rfl) (ow hw 4 rfl) F850 rfl (by rw [hml]; rfl) rfl (hb hby at_64) (lenOf pd___II_I rfl) rfl (by decide) (fun T849 v849 Ll849 X849 hQ849 => ?_)
         obtain ⟨cn_849, kn_849, vsn_849, rfl, N849q, K849, P849_0, P849_1, P849_2, P849_3, P849_4, P849_5, P849_6, P849_7, P849_8, P849_9, P849_10⟩ := hQ849
         have N849 := Fr.app N846 N849q
         have Zs859 : n0 ≤ T849.heap.size := Nat.le_trans Zs848 K849.1
         refine own_go (b := (T849.setTop (mkF m 74 #[iv p0, iv p1, iv p2, iv p3, iv p4, iv (own_l0 p1), iv (0 : Int32), iv (own_l2 p1), rv b790, rv b799] [(.int (0 : Int32)), (.ref b790), (.ref b799)]))) (fun _ k => XS.pop X849.here hx rfl (hb hby at_67) rfl rfl (XS.aload X849.here hx rfl (hb hby at_68) rfl rfl (XS.aload X849.here hx rfl (hb hby at_70) rfl rfl (XS.iload X849.here hx rfl (hb hby at_72) rfl k)))) ?_
         have F861 := F850.keep K849
         have F862 := P846_7.keep K849
         have nx863 : b790 ≠ ib_846 := (own_ne V790.lt (own_tr (own_tr (own_tr (Keep.of_wr W792).1 (Keep.of_wr W795).1) (Keep.of_wr W797).1) E799.1) P846_4)
         have F864 := F853.keep K849 (ninS nx852 (ninS nx863 (ninS (Ne.symm nx856) (ninS nx858 nin0))))
         refine own_virt (W := 0) X849 hx hZ hown rfl (ow hw 26 rfl) (ow hw 27 rfl) (ow hw 29 rfl) (ow hw 28 rfl) (rmap2_1N0 l Z a0 hw [] b799 b790 kl790 (own_k p2) (own_k p3) (own_k p4) ib_846 ks_846 kk_846 (own_l0 p1) (0 : Int32) (own_l0 p1) T849.heap n0 Zs859 F861 P849_0 P849_3 P849_1 P849_2 F862 P849_5 P849_4 F864 gx847 gx854 gx855 nx856 (own_pos p2) (own_pos p3) (own_pos p4)) (ow hw 30 rfl) (ow hw 4 rfl) F861 rfl (by rw [hml]; rfl) rfl (hb hby at_74) (lenOf pd___II_I rfl) rfl (by decide) (fun T860 v860 Ll860 X860 hQ860 => ?_)
         obtain ⟨ksn_860, kkn_860, rfl, N860q, K860, P860_0, P860_1, P860_2, P860_3, P860_4, P860_5⟩ := hQ860
         have N860 := Fr.app N849 N860q
         have Zs865 : n0 ≤ T860.heap.size := Nat.le_trans Zs859 K860.1
         refine own_go (b := (T860.setTop (mkF m 84 #[iv p0, iv p1, iv p2, iv p3, iv p4, iv (own_l0 p1), iv (0 : Int32), iv (own_l2 p1), rv b790, rv b799] [(.int (own_l2 p1)), (.ref b790), (.ref b799)]))) (fun _ k => XS.pop X860.here hx rfl (hb hby at_77) rfl rfl (XS.aload X860.here hx rfl (hb hby at_78) rfl rfl (XS.aload X860.here hx rfl (hb hby at_80) rfl rfl (XS.iload X860.here hx rfl (hb hby at_82) rfl k)))) ?_
         have F867 := F861.keep K860
         have F868 := F862.keep K860
         have nx869 : ib_846 ≠ b799 := (Ne.symm (own_ne A799.lt (Nat.le_refl _) P846_4))
         have F870 := P849_5.keep K860 (ninS nx869 nin0)
         have F871 := P849_6.keep K860 (ninS nx869 nin0)
         have F872 := F864.keep K860 (ninS nx852 nin0)
         have gx873 : n0 ≤ ksn_860 := Nat.le_trans Zs859 P860_3
         have nx874 : ksn_860 ≠ b790 := (Ne.symm (own_ne V790.lt (own_tr (own_tr (own_tr (own_tr (own_tr (Keep.of_wr W792).1 (Keep.of_wr W795).1) (Keep.of_wr W797).1) E799.1) K846.1) K849.1) P860_3))
         have nx875 : ksn_860 ≠ bl_846 := (Ne.symm (own_ne P846_10.lt K849.1 P860_3))
         have nx876 : bl_846 ≠ b799 := (Ne.symm (own_ne A799.lt (Nat.le_refl _) P846_6))
         have F877 := P849_8.keep K860 (ninS nx876 nin0)
         have nx878 : cn_849 ≠ b799 := (Ne.symm (own_ne A799.lt K846.1 P849_7))
         have F879 := P849_9.keep K860 (ninS nx878 nin0)
         have gx880 : n0 ≤ cn_849 := Nat.le_trans Zs848 P849_7
         have nx881 : b790 ≠ cn_849 := (own_ne V790.lt (own_tr (own_tr (own_tr (own_tr (Keep.of_wr W792).1 (Keep.of_wr W795).1) (Keep.of_wr W797).1) E799.1) K846.1) P849_7)
         have nx882 : bl_846 ≠ cn_849 := (own_ne P846_10.lt (Nat.le_refl _) P849_7)
         have nx883 : ksn_860 ≠ cn_849 := (Ne.symm (own_ne P849_9.lt (Nat.le_refl _) P860_3))
         refine own_virt (W := 0) X860 hx hZ hown rfl (ow hw 26 rfl) (ow hw 27 rfl) (ow hw 29 rfl) (ow hw 28 rfl) (rmap4_2F1 l Z a0 hw [] b799 b790 kl790 (own_k p2) (own_k p3) (own_k p4) (own_l2 p1) ib_846 ksn_860 kkn_860 bl_846 kb_846 (0 : Int32) (own_l0 p1) (own_l0 p1) (0 : Int32) (own_l0 p1) cn_849 kn_849 vsn_849 T860.heap n0 Zs865 F867 P860_0 P860_4 P860_1 P860_2 F868 F870 F871 P860_5 F872 gx847 gx854 gx873 nx874 gx857 nx875 nx858 (own_pos p2) (own_pos p3) (own_pos p4) (own_nz _ hz2).1 (own_nz _ hz2).2 F877 F879 P849_10 gx880 nx881 nx882 nx883 (own_nz _ hz0).1 (own_36 (own_nz _ hz0).2)) (ow hw 30 rfl) (ow hw 4 rfl) F867 rfl (by rw [hml]; rfl) rfl (hb hby at_84) (lenOf pd___II_I rfl) rfl (by decide) (fun T866 v866 Ll866 X866 hQ866 => ?_)
         obtain ⟨vsn_866, rfl, N866q, K866, P866_0, P866_1, P866_2, P866_3, P866_4, P866_5, P866_6, P866_7, P866_8⟩ := hQ866
         have N866 := Fr.app N860 N866q
         have Zs884 : n0 ≤ T866.heap.size := Nat.le_trans Zs865 K866.1
         refine own_go (b := (T866.setTop (mkF m 91 #[iv p0, iv p1, iv p2, iv p3, iv p4, iv (own_l0 p1), iv (0 : Int32), iv (own_l2 p1), rv b790, rv b799] [(.int (0 : Int32)), (.ref b799)]))) (fun _ k => XS.pop X866.here hx rfl (hb hby at_87) rfl rfl (XS.aload X866.here hx rfl (hb hby at_88) rfl rfl (XS.iconst X866.here hx rfl (hb hby at_90) k))) ?_
         have F886 := F867.keep K866
         refine own_virt (W := 0) X866 hx hZ hown rfl (ow hw 68 rfl) (ow hw 69 rfl) (ow hw 71 rfl) (ow hw 70 rfl) (rmlen4_0 l Z a0 hw [] b799 ksn_860 kkn_860 (0 : Int32) (own_l0 p1) (own_l0 p1) ((own_l0 p1) + (own_l2 p1)) T866.heap n0 Zs884 P866_3 P866_4) (ow hw 72 rfl) (ow hw 4 rfl) F886 rfl (by rw [hml]; rfl) rfl (hb hby at_91) (lenOf pd__I_I rfl) rfl (by decide) (fun T885 v885 Ll885 X885 hQ885 => ?_)
         obtain ⟨rfl, N885q, eh885⟩ := hQ885
         have N885 := Fr.app N866 N885q
         refine own_go (b := (T885.setTop (mkF m 102 #[iv p0, iv p1, iv p2, iv p3, iv p4, iv (own_l0 p1), iv (0 : Int32), iv (own_l2 p1), rv b790, rv b799] [(.int (1 : Int32)), (.ref b799)]))) (fun _ k => XS.iload X885.here hx rfl (hb hby at_94) rfl (XS.icmpNo X885.here hx rfl (hb hby at_96) rfl (teq (Int32.sub_zero _)).2 (XS.aload X885.here hx rfl (hb hby at_99) rfl rfl (XS.iconst X885.here hx rfl (hb hby at_101) k)))) ?_
         refine own_virt (W := 0) X885 hx hZ hown eh885 (ow hw 68 rfl) (ow hw 69 rfl) (ow hw 71 rfl) (ow hw 70 rfl) (rmlen4_1 l Z a0 hw [] b799 ksn_860 kkn_860 (0 : Int32) (own_l0 p1) (own_l0 p1) ((own_l0 p1) + (own_l2 p1)) T866.heap n0 Zs884 P866_3 P866_4) (ow hw 72 rfl) (ow hw 4 rfl) F886 rfl (by rw [hml]; rfl) rfl (hb hby at_102) (lenOf pd__I_I rfl) rfl (by decide) (fun T887 v887 Ll887 X887 hQ887 => ?_)
         obtain ⟨rfl, N887q, eh887⟩ := hQ887
         have N887 := Fr.app N885 N887q
         refine own_go (b := (T887.setTop (mkF m 113 #[iv p0, iv p1, iv p2, iv p3, iv p4, iv (own_l0 p1), iv (0 : Int32), iv (own_l2 p1), rv b790, rv b799] [(.int (2 : Int32)), (.ref b799)]))) (fun _ k => XS.iload X887.here hx rfl (hb hby at_105) rfl (XS.icmpNo X887.here hx rfl (hb hby at_107) rfl (teq (Int32.sub_self _)).2 (XS.aload X887.here hx rfl (hb hby at_110) rfl rfl (XS.iconst X887.here hx rfl (hb hby at_112) k)))) ?_
         refine own_virt (W := 0) X887 hx hZ hown eh887 (ow hw 68 rfl) (ow hw 69 rfl) (ow hw 71 rfl) (ow hw 70 rfl) (rmlen4_2 l Z a0 hw [] b799 ksn_860 kkn_860 (0 : Int32) (own_l0 p1) (own_l0 p1) ((own_l0 p1) + (own_l2 p1)) T866.heap n0 Zs884 P866_3 P866_4) (ow hw 72 rfl) (ow hw 4 rfl) F886 rfl (by rw [hml]; rfl) rfl (hb hby at_113) (lenOf pd__I_I rfl) rfl (by decide) (fun T888 v888 Ll888 X888 hQ888 => ?_)
         obtain ⟨rfl, N888q, eh888⟩ := hQ888
         have N888 := Fr.app N887 N888q
         refine own_go (b := (T888.setTop (mkF m 126 #[iv p0, iv p1, iv p2, iv p3, iv p4, iv (own_l0 p1), iv (0 : Int32), iv (own_l2 p1), rv b790, rv b799] [(.int (1 : Int32))]))) (fun _ k => XS.iload X888.here hx rfl (hb hby at_116) rfl (XS.icmpNo X888.here hx rfl (hb hby at_118) rfl (teq (own_addsub _ _)).2 (XS.iconst X888.here hx rfl (hb hby at_121) (XS.goto X888.here hx rfl (pc0 := 122) (pc' := 126) rfl (hb hby at_122) (by decide) (by decide) k)))) ?_
         obtain ⟨fs, hr, hrun, hended, hW, hsame⟩ := X888.leave (v := some (.int (1 : Int32))) (fun h => by rw [Bd.returns] at h; cases h)
         exact ⟨_, _, retN X888 hx (t := .boolean) Bd.returns (by simp) (hb hby at_126) hr, hrun, hended, _, _, rfl, (show Qrm0 Z p0 p1 p2 p3 p4 h0 n0 _ T888.heap _ from (by rw [eh888]; exact ⟨rfl, N888⟩)), ⟨_, rfl⟩, hW, hsame.mono (by decide) (by decide)⟩
       · rw [hk]
         have gx890 : n0 ≤ b799 := Nat.le_trans Zs798 (Nat.le_of_eq g799.symm)
         refine own_spec (W := 1) X799 hx hZ hown e799 (ow hw 5 rfl) (ow hw 6 rfl) (rmft2 l Z a0 hw [] b799 .null .null h799 n0 Zs800 A799 F799_keys F799_keyStarts F799_labelStarts F799_size gx890) (ow hw 7 rfl) (ow hw 4 rfl) rfl (by rw [hml]; rfl) rfl (hb hby at_53) (lenOf pd__I_V rfl) rfl rfl (by decide) (fun T889 v889 Ll889 X889 hQ889 => ?_)
         obtain ⟨ib_889, ks_889, kk_889, bl_889, kb_889, rfl, N889q, K889, P889_0, P889_1, P889_2, P889_3, P889_4, P889_5, P889_6, P889_7, P889_8, P889_9, P889_10, P889_11, P889_12, P889_13⟩ := hQ889
         have N889 := Fr.app N797 N889q
         have Zs891 : n0 ≤ T889.heap.size := Nat.le_trans Zs800 K889.1
         refine own_go (b := (T889.setTop (mkF m 64 #[iv p0, iv p1, iv p2, iv p3, iv p4, iv (own_l0 p1), iv (0 : Int32), iv (own_l2 p1), rv b790, rv b799] [(.int (own_l0 p1)), (.ref b790), (.ref b799)]))) (fun _ k => XS.astore X889.here hx rfl (hb hby at_56) rfl rfl (l' := #[iv p0, iv p1, iv p2, iv p3, iv p4, iv (own_l0 p1), iv (0 : Int32), iv (own_l2 p1), rv b790, rv b799]) rfl (XS.aload X889.here hx rfl (hb hby at_58) rfl rfl (XS.aload X889.here hx rfl (hb hby at_60) rfl rfl (XS.iload X889.here hx rfl (hb hby at_62) rfl k)))) ?_
         have F893 := A799.keep K889
         have F894 := V797.ext E799
         have nx895 : b790 ≠ b799 := (own_ne V790.lt (own_tr (own_tr (Keep.of_wr W792).1 (Keep.of_wr W795).1) (Keep.of_wr W797).1) (Nat.le_of_eq g799.symm))
         have F896 := F894.keep K889 (ninS nx895 nin0)
         have gx897 : n0 ≤ ib_889 := Nat.le_trans Zs800 P889_4
         have gx898 : n0 ≤ ks_889 := Nat.le_trans Zs800 P889_5
         have nx899 : ks_889 ≠ b790 := (Ne.symm (own_ne V790.lt (own_tr (own_tr (own_tr (Keep.of_wr W792).1 (Keep.of_wr W795).1) (Keep.of_wr W797).1) E799.1) P889_5))
         have gx900 : n0 ≤ bl_889 := Nat.le_trans Zs800 P889_6
         have nx901 : b790 ≠ bl_889 := (own_ne V790.lt (own_tr (own_tr (own_tr (Keep.of_wr W792).1 (Keep.of_wr W795).1) (Keep.of_wr W797).1) E799.1) P889_6)
         refine own_virt (W := 0) X889 hx hZ hown rfl (ow hw 26 rfl) (ow hw 27 rfl) (ow hw 29 rfl) (ow hw 28 rfl) (rmap3_0E1 l Z a0 hw [] b799 b790 kl790 (own_k p2) (own_k p3) (own_k p4) (own_l0 p1) ib_889 ks_889 kk_889 bl_889 kb_889 (0 : Int32) (0 : Int32) (0 : Int32) T889.heap n0 Zs891 F893 P889_0 P889_1 P889_2 P889_3 P889_7 P889_8 P889_9 P889_12 F896 gx890 gx897 gx898 nx899 gx900 P889_13 nx901 (own_pos p2) (own_pos p3) (own_pos p4) (own_nz _ hz0).1 (own_nz _ hz0).2 P889_10 P889_11) (ow hw 30 rfl) (ow hw 4 rfl) F893 rfl (by rw [hml]; rfl) rfl (hb hby at_64) (lenOf pd___II_I rfl) rfl (by decide) (fun T892 v892 Ll892 X892 hQ892 => ?_)
         obtain ⟨cn_892, kn_892, vsn_892, rfl, N892q, K892, P892_0, P892_1, P892_2, P892_3, P892_4, P892_5, P892_6, P892_7, P892_8, P892_9, P892_10⟩ := hQ892
         have N892 := Fr.app N889 N892q
         have Zs902 : n0 ≤ T892.heap.size := Nat.le_trans Zs891 K892.1
         refine own_go (b := (T892.setTop (mkF m 74 #[iv p0, iv p1, iv p2, iv p3, iv p4, iv (own_l0 p1), iv (0 : Int32), iv (own_l2 p1), rv b790, rv b799] [(.int (0 : Int32)), (.ref b790), (.ref b799)]))) (fun _ k => XS.pop X892.here hx rfl (hb hby at_67) rfl rfl (XS.aload X892.here hx rfl (hb hby at_68) rfl rfl (XS.aload X892.here hx rfl (hb hby at_70) rfl rfl (XS.iload X892.here hx rfl (hb hby at_72) rfl k)))) ?_
         have F904 := F893.keep K892
         have F905 := P889_7.keep K892
         have nx906 : b790 ≠ ib_889 := (own_ne V790.lt (own_tr (own_tr (own_tr (Keep.of_wr W792).1 (Keep.of_wr W795).1) (Keep.of_wr W797).1) E799.1) P889_4)
         have F907 := F896.keep K892 (ninS nx895 (ninS nx906 (ninS (Ne.symm nx899) (ninS nx901 nin0))))
         refine own_virt (W := 0) X892 hx hZ hown rfl (ow hw 26 rfl) (ow hw 27 rfl) (ow hw 29 rfl) (ow hw 28 rfl) (rmap3_1N0 l Z a0 hw [] b799 b790 kl790 (own_k p2) (own_k p3) (own_k p4) ib_889 ks_889 kk_889 (own_l0 p1) (0 : Int32) (own_l0 p1) (0 : Int32) T892.heap n0 Zs902 F904 P892_0 P892_3 P892_1 P892_2 F905 P892_5 P892_4 F907 gx890 gx897 gx898 nx899 (own_pos p2) (own_pos p3) (own_pos p4)) (ow hw 30 rfl) (ow hw 4 rfl) F904 rfl (by rw [hml]; rfl) rfl (hb hby at_74) (lenOf pd___II_I rfl) rfl (by decide) (fun T903 v903 Ll903 X903 hQ903 => ?_)
         obtain ⟨rfl, N903q, K903, P903_0, P903_1, P903_2, P903_3, P903_4⟩ := hQ903
         have N903 := Fr.app N892 N903q
         have Zs908 : n0 ≤ T903.heap.size := Nat.le_trans Zs902 K903.1
         refine own_go (b := (T903.setTop (mkF m 84 #[iv p0, iv p1, iv p2, iv p3, iv p4, iv (own_l0 p1), iv (0 : Int32), iv (own_l2 p1), rv b790, rv b799] [(.int (own_l2 p1)), (.ref b790), (.ref b799)]))) (fun _ k => XS.pop X903.here hx rfl (hb hby at_77) rfl rfl (XS.aload X903.here hx rfl (hb hby at_78) rfl rfl (XS.aload X903.here hx rfl (hb hby at_80) rfl rfl (XS.iload X903.here hx rfl (hb hby at_82) rfl k)))) ?_
         have F910 := F904.keep K903
         have F911 := F905.keep K903
         obtain ⟨cn912, An912, -⟩ := id P889_12
         have nx913 : ib_889 ≠ ks_889 := (ne_arr P889_7 (ow hw 12 rfl) An912)
         have nx914 : ib_889 ≠ b799 := (Ne.symm (own_ne A799.lt (Nat.le_refl _) P889_4))
         have F915 := P892_5.keep K903 (ninS nx914 (ninS nx913 nin0))
         have F916 := P892_6.keep K903 (ninS nx914 (ninS nx913 nin0))
         have F917 := F907.keep K903 (ninS nx895 (ninS (Ne.symm nx899) nin0))
         have nx918 : bl_889 ≠ b799 := (Ne.symm (own_ne A799.lt (Nat.le_refl _) P889_6))
         have F919 := P892_8.keep K903 (ninS nx918 (ninS (Ne.symm P889_13) nin0))
         have nx920 : cn_892 ≠ ks_889 := (Ne.symm (own_ne P889_12.lt (Nat.le_refl _) P892_7))
         have nx921 : cn_892 ≠ b799 := (Ne.symm (own_ne A799.lt K889.1 P892_7))
         have F922 := P892_9.keep K903 (ninS nx921 (ninS nx920 nin0))
         have gx923 : n0 ≤ cn_892 := Nat.le_trans Zs891 P892_7
         have nx924 : b790 ≠ cn_892 := (own_ne V790.lt (own_tr (own_tr (own_tr (own_tr (Keep.of_wr W792).1 (Keep.of_wr W795).1) (Keep.of_wr W797).1) E799.1) K889.1) P892_7)
         have nx925 : bl_889 ≠ cn_892 := (own_ne P889_10.lt (Nat.le_refl _) P892_7)
         refine own_virt (W := 0) X903 hx hZ hown rfl (ow hw 26 rfl) (ow hw 27 rfl) (ow hw 29 rfl) (ow hw 28 rfl) (rmap3_2F1 l Z a0 hw [] b799 b790 kl790 (own_k p2) (own_k p3) (own_k p4) (own_l2 p1) ib_889 ks_889 kk_889 bl_889 kb_889 (0 : Int32) (own_l0 p1) (own_l0 p1) (own_l0 p1) cn_892 kn_892 vsn_892 T903.heap n0 Zs908 F910 P903_0 P903_3 P903_1 P903_2 F911 F915 F916 P903_4 F917 gx890 gx897 gx898 nx899 gx900 P889_13 nx901 (own_pos p2) (own_pos p3) (own_pos p4) (own_nz _ hz2).1 (own_nz _ hz2).2 F919 F922 P892_10 gx923 nx924 nx925 (Ne.symm nx920) (own_nz _ hz0).1 (own_36 (own_nz _ hz0).2)) (ow hw 30 rfl) (ow hw 4 rfl) F910 rfl (by rw [hml]; rfl) rfl (hb hby at_84) (lenOf pd___II_I rfl) rfl (by decide) (fun T909 v909 Ll909 X909 hQ909 => ?_)
         obtain ⟨ksn_909, kkn_909, vsn_909, rfl, N909q, K909, P909_0, P909_1, P909_2, P909_3, P909_4, P909_5, P909_6, P909_7, P909_8, P909_9⟩ := hQ909
         have N909 := Fr.app N903 N909q
         have Zs926 : n0 ≤ T909.heap.size := Nat.le_trans Zs908 K909.1
         refine own_go (b := (T909.setTop (mkF m 91 #[iv p0, iv p1, iv p2, iv p3, iv p4, iv (own_l0 p1), iv (0 : Int32), iv (own_l2 p1), rv b790, rv b799] [(.int (0 : Int32)), (.ref b799)]))) (fun _ k => XS.pop X909.here hx rfl (hb hby at_87) rfl rfl (XS.aload X909.here hx rfl (hb hby at_88) rfl rfl (XS.iconst X909.here hx rfl (hb hby at_90) k))) ?_
         have F928 := F910.keep K909
         refine own_virt (W := 0) X909 hx hZ hown rfl (ow hw 68 rfl) (ow hw 69 rfl) (ow hw 71 rfl) (ow hw 70 rfl) (rmlen6_0 l Z a0 hw [] b799 ksn_909 kkn_909 (0 : Int32) (own_l0 p1) (own_l0 p1) ((own_l0 p1) + (own_l2 p1)) (0 : Int32) (0 : Int32) T909.heap n0 Zs926 P909_4 P909_5) (ow hw 72 rfl) (ow hw 4 rfl) F928 rfl (by rw [hml]; rfl) rfl (hb hby at_91) (lenOf pd__I_I rfl) rfl (by decide) (fun T927 v927 Ll927 X927 hQ927 => ?_)
         obtain ⟨rfl, N927q, eh927⟩ := hQ927
         have N927 := Fr.app N909 N927q
         refine own_go (b := (T927.setTop (mkF m 102 #[iv p0, iv p1, iv p2, iv p3, iv p4, iv (own_l0 p1), iv (0 : Int32), iv (own_l2 p1), rv b790, rv b799] [(.int (1 : Int32)), (.ref b799)]))) (fun _ k => XS.iload X927.here hx rfl (hb hby at_94) rfl (XS.icmpNo X927.here hx rfl (hb hby at_96) rfl (teq (Int32.sub_zero _)).2 (XS.aload X927.here hx rfl (hb hby at_99) rfl rfl (XS.iconst X927.here hx rfl (hb hby at_101) k)))) ?_
         refine own_virt (W := 0) X927 hx hZ hown eh927 (ow hw 68 rfl) (ow hw 69 rfl) (ow hw 71 rfl) (ow hw 70 rfl) (rmlen6_1 l Z a0 hw [] b799 ksn_909 kkn_909 (0 : Int32) (own_l0 p1) (own_l0 p1) ((own_l0 p1) + (own_l2 p1)) (0 : Int32) (0 : Int32) T909.heap n0 Zs926 P909_4 P909_5) (ow hw 72 rfl) (ow hw 4 rfl) F928 rfl (by rw [hml]; rfl) rfl (hb hby at_102) (lenOf pd__I_I rfl) rfl (by decide) (fun T929 v929 Ll929 X929 hQ929 => ?_)
         obtain ⟨rfl, N929q, eh929⟩ := hQ929
         have N929 := Fr.app N927 N929q
         refine own_go (b := (T929.setTop (mkF m 113 #[iv p0, iv p1, iv p2, iv p3, iv p4, iv (own_l0 p1), iv (0 : Int32), iv (own_l2 p1), rv b790, rv b799] [(.int (2 : Int32)), (.ref b799)]))) (fun _ k => XS.iload X929.here hx rfl (hb hby at_105) rfl (XS.icmpNo X929.here hx rfl (hb hby at_107) rfl (teq (Int32.sub_self _)).2 (XS.aload X929.here hx rfl (hb hby at_110) rfl rfl (XS.iconst X929.here hx rfl (hb hby at_112) k)))) ?_
         refine own_virt (W := 0) X929 hx hZ hown eh929 (ow hw 68 rfl) (ow hw 69 rfl) (ow hw 71 rfl) (ow hw 70 rfl) (rmlen6_2 l Z a0 hw [] b799 ksn_909 kkn_909 (0 : Int32) (own_l0 p1) (own_l0 p1) ((own_l0 p1) + (own_l2 p1)) (0 : Int32) (0 : Int32) T909.heap n0 Zs926 P909_4 P909_5) (ow hw 72 rfl) (ow hw 4 rfl) F928 rfl (by rw [hml]; rfl) rfl (hb hby at_113) (lenOf pd__I_I rfl) rfl (by decide) (fun T930 v930 Ll930 X930 hQ930 => ?_)
         obtain ⟨rfl, N930q, eh930⟩ := hQ930
         have N930 := Fr.app N929 N930q
         refine own_go (b := (T930.setTop (mkF m 126 #[iv p0, iv p1, iv p2, iv p3, iv p4, iv (own_l0 p1), iv (0 : Int32), iv (own_l2 p1), rv b790, rv b799] [(.int (1 : Int32))]))) (fun _ k => XS.iload X930.here hx rfl (hb hby at_116) rfl (XS.icmpNo X930.here hx rfl (hb hby at_118) rfl (teq (own_addsub _ _)).2 (XS.iconst X930.here hx rfl (hb hby at_121) (XS.goto X930.here hx rfl (pc0 := 122) (pc' := 126) rfl (hb hby at_122) (by decide) (by decide) k)))) ?_
         obtain ⟨fs, hr, hrun, hended, hW, hsame⟩ := X930.leave (v := some (.int (1 : Int32))) (fun h => by rw [Bd.returns] at h; cases h)
         exact ⟨_, _, retN X930 hx (t := .boolean) Bd.returns (by simp) (hb hby at_126) hr, hrun, hended, _, _, rfl, (show Qrm0 Z p0 p1 p2 p3 p4 h0 n0 _ T930.heap _ from (by rw [eh930]; exact ⟨rfl, N930⟩)), ⟨_, rfl⟩, hW, hsame.mono (by decide) (by decide)⟩
       · rw [hk]
         have gx932 : n0 ≤ b799 := Nat.le_trans Zs798 (Nat.le_of_eq g799.symm)
         refine own_spec (W := 1) X799 hx hZ hown e799 (ow hw 5 rfl) (ow hw 6 rfl) (rmft3 l Z a0 hw [] b799 .null .null h799 n0 Zs800 A799 F799_keys F799_keyStarts F799_labelStarts F799_size gx932) (ow hw 7 rfl) (ow hw 4 rfl) rfl (by rw [hml]; rfl) rfl (hb hby at_53) (lenOf pd__I_V rfl) rfl rfl (by decide) (fun T931 v931 Ll931 X931 hQ931 => ?_)
         obtain ⟨ib_931, ks_931, kk_931, bl_931, kb_931, rfl, N931q, K931, P931_0, P931_1, P931_2, P931_3, P931_4, P931_5, P931_6, P931_7, P931_8, P931_9, P931_10, P931_11, P931_12, P931_13⟩ := hQ931
         have N931 := Fr.app N797 N931q
         have Zs933 : n0 ≤ T931.heap.size := Nat.le_trans Zs800 K931.1
         refine own_go (b := (T931.setTop (mkF m 64 #[iv p0, iv p1, iv p2, iv p3, iv p4, iv (own_l0 p1), iv (0 : Int32), iv (own_l2 p1), rv b790, rv b799] [(.int (own_l0 p1)), (.ref b790), (.ref b799)]))) (fun _ k => XS.astore X931.here hx rfl (hb hby at_56) rfl rfl (l' := #[iv p0, iv p1, iv p2, iv p3, iv p4, iv (own_l0 p1), iv (0 : Int32), iv (own_l2 p1), rv b790, rv b799]) rfl (XS.aload X931.here hx rfl (hb hby at_58) rfl rfl (XS.aload X931.here hx rfl (hb hby at_60) rfl rfl (XS.iload X931.here hx rfl (hb hby at_62) rfl k)))) ?_
         have F935 := A799.keep K931
         have F936 := V797.ext E799
         have nx937 : b790 ≠ b799 := (own_ne V790.lt (own_tr (own_tr (Keep.of_wr W792).1 (Keep.of_wr W795).1) (Keep.of_wr W797).1) (Nat.le_of_eq g799.symm))
         have F938 := F936.keep K931 (ninS nx937 nin0)
         have gx939 : n0 ≤ ib_931 := Nat.le_trans Zs800 P931_4
         have gx940 : n0 ≤ ks_931 := Nat.le_trans Zs800 P931_5
         have nx941 : ks_931 ≠ b790 := (Ne.symm (own_ne V790.lt (own_tr (own_tr (own_tr (Keep.of_wr W792).1 (Keep.of_wr W795).1) (Keep.of_wr W797).1) E799.1) P931_5))
         have gx942 : n0 ≤ bl_931 := Nat.le_trans Zs800 P931_6
         have nx943 : b790 ≠ bl_931 := (own_ne V790.lt (own_tr (own_tr (own_tr (Keep.of_wr W792).1 (Keep.of_wr W795).1) (Keep.of_wr W797).1) E799.1) P931_6)
         refine own_virt (W := 0) X931 hx hZ hown rfl (ow hw 26 rfl) (ow hw 27 rfl) (ow hw 29 rfl) (ow hw 28 rfl) (rmap4_0E1 l Z a0 hw [] b799 b790 kl790 (own_k p2) (own_k p3) (own_k p4) (own_l0 p1) ib_931 ks_931 kk_931 bl_931 kb_931 (0 : Int32) (0 : Int32) (0 : Int32) (0 : Int32) T931.heap n0 Zs933 F935 P931_0 P931_1 P931_2 P931_3 P931_7 P931_8 P931_9 P931_12 F938 gx932 gx939 gx940 nx941 gx942 P931_13 nx943 (own_pos p2) (own_pos p3) (own_pos p4) (own_nz _ hz0).1 (own_nz _ hz0).2 P931_10 P931_11) (ow hw 30 rfl) (ow hw 4 rfl) F935 rfl (by rw [hml]; rfl) rfl (hb hby at_64) (lenOf pd___II_I rfl) rfl (by decide) (fun T934 v934 Ll934 X934 hQ934 => ?_)
         obtain ⟨cn_934, kn_934, vsn_934, rfl, N934q, K934, P934_0, P934_1, P934_2, P934_3, P934_4, P934_5, P934_6, P934_7, P934_8, P934_9, P934_10⟩ := hQ934
         have N934 := Fr.app N931 N934q
         have Zs944 : n0 ≤ T934.heap.size := Nat.le_trans Zs933 K934.1
         refine own_go (b := (T934.setTop (mkF m 74 #[iv p0, iv p1, iv p2, iv p3, iv p4, iv (own_l0 p1), iv (0 : Int32), iv (own_l2 p1), rv b790, rv b799] [(.int (0 : Int32)), (.ref b790), (.ref b799)]))) (fun _ k => XS.pop X934.here hx rfl (hb hby at_67) rfl rfl (XS.aload X934.here hx rfl (hb hby at_68) rfl rfl (XS.aload X934.here hx rfl (hb hby at_70) rfl rfl (XS.iload X934.here hx rfl (hb hby at_72) rfl k)))) ?_
         have F946 := F935.keep K934
         have F947 := P931_7.keep K934
         have nx948 : b790 ≠ ib_931 := (own_ne V790.lt (own_tr (own_tr (own_tr (Keep.of_wr W792).1 (Keep.of_wr W795).1) (Keep.of_wr W797).1) E799.1) P931_4)
         have F949 := F938.keep K934 (ninS nx937 (ninS nx948 (ninS (Ne.symm nx941) (ninS nx943 nin0))))
         refine own_virt (W := 0) X934 hx hZ hown rfl (ow hw 26 rfl) (ow hw 27 rfl) (ow hw 29 rfl) (ow hw 28 rfl) (rmap4_1N0 l Z a0 hw [] b799 b790 kl790 (own_k p2) (own_k p3) (own_k p4) ib_931 ks_931 kk_931 (own_l0 p1) (0 : Int32) (own_l0 p1) (0 : Int32) (0 : Int32) T934.heap n0 Zs944 F946 P934_0 P934_3 P934_1 P934_2 F947 P934_5 P934_4 F949 gx932 gx939 gx940 nx941 (own_pos p2) (own_pos p3) (own_pos p4)) (ow hw 30 rfl) (ow hw 4 rfl) F946 rfl (by rw [hml]; rfl) rfl (hb hby at_74) (lenOf pd___II_I rfl) rfl (by decide) (fun T945 v945 Ll945 X945 hQ945 => ?_)
         obtain ⟨rfl, N945q, K945, P945_0, P945_1, P945_2, P945_3, P945_4⟩ := hQ945
         have N945 := Fr.app N934 N945q
         have Zs950 : n0 ≤ T945.heap.size := Nat.le_trans Zs944 K945.1
         refine own_go (b := (T945.setTop (mkF m 84 #[iv p0, iv p1, iv p2, iv p3, iv p4, iv (own_l0 p1), iv (0 : Int32), iv (own_l2 p1), rv b790, rv b799] [(.int (own_l2 p1)), (.ref b790), (.ref b799)]))) (fun _ k => XS.pop X945.here hx rfl (hb hby at_77) rfl rfl (XS.aload X945.here hx rfl (hb hby at_78) rfl rfl (XS.aload X945.here hx rfl (hb hby at_80) rfl rfl (XS.iload X945.here hx rfl (hb hby at_82) rfl k)))) ?_
         have F952 := F946.keep K945
         have F953 := F947.keep K945
         obtain ⟨cn954, An954, -⟩ := id P931_12
         have nx955 : ib_931 ≠ ks_931 := (ne_arr P931_7 (ow hw 12 rfl) An954)
         have nx956 : ib_931 ≠ b799 := (Ne.symm (own_ne A799.lt (Nat.le_refl _) P931_4))
         have F957 := P934_5.keep K945 (ninS nx956 (ninS nx955 nin0))
         have F958 := P934_6.keep K945 (ninS nx956 (ninS nx955 nin0))
         have F959 := F949.keep K945 (ninS nx937 (ninS (Ne.symm nx941) nin0))
         have nx960 : bl_931 ≠ b799 := (Ne.symm (own_ne A799.lt (Nat.le_refl _) P931_6))
         have F961 := P934_8.keep K945 (ninS nx960 (ninS (Ne.symm P931_13) nin0))
         have nx962 : cn_934 ≠ ks_931 := (Ne.symm (own_ne P931_12.lt (Nat.le_refl _) P934_7))
         have nx963 : cn_934 ≠ b799 := (Ne.symm (own_ne A799.lt K931.1 P934_7))
         have F964 := P934_9.keep K945 (ninS nx963 (ninS nx962 nin0))
         have gx965 : n0 ≤ cn_934 := Nat.le_trans Zs933 P934_7
         have nx966 : b790 ≠ cn_934 := (own_ne V790.lt (own_tr (own_tr (own_tr (own_tr (Keep.of_wr W792).1 (Keep.of_wr W795).1) (Keep.of_wr W797).1) E799.1) K931.1) P934_7)
         have nx967 : bl_931 ≠ cn_934 := (own_ne P931_10.lt (Nat.le_refl _) P934_7)
         refine own_virt (W := 0) X945 hx hZ hown rfl (ow hw 26 rfl) (ow hw 27 rfl) (ow hw 29 rfl) (ow hw 28 rfl) (rmap4_2F1 l Z a0 hw [] b799 b790 kl790 (own_k p2) (own_k p3) (own_k p4) (own_l2 p1) ib_931 ks_931 kk_931 bl_931 kb_931 (0 : Int32) (own_l0 p1) (own_l0 p1) (0 : Int32) (own_l0 p1) cn_934 kn_934 vsn_934 T945.heap n0 Zs950 F952 P945_0 P945_3 P945_1 P945_2 F953 F957 F958 P945_4 F959 gx932 gx939 gx940 nx941 gx942 P931_13 nx943 (own_pos p2) (own_pos p3) (own_pos p4) (own_nz _ hz2).1 (own_nz _ hz2).2 F961 F964 P934_10 gx965 nx966 nx967 (Ne.symm nx962) (own_nz _ hz0).1 (own_36 (own_nz _ hz0).2)) (ow hw 30 rfl) (ow hw 4 rfl) F952 rfl (by rw [hml]; rfl) rfl (hb hby at_84) (lenOf pd___II_I rfl) rfl (by decide) (fun T951 v951 Ll951 X951 hQ951 => ?_)
         obtain ⟨vsn_951, rfl, N951q, K951, P951_0, P951_1, P951_2, P951_3, P951_4, P951_5, P951_6, P951_7, P951_8⟩ := hQ951
         have N951 := Fr.app N945 N951q
         have Zs968 : n0 ≤ T951.heap.size := Nat.le_trans Zs950 K951.1
         refine own_go (b := (T951.setTop (mkF m 91 #[iv p0, iv p1, iv p2, iv p3, iv p4, iv (own_l0 p1), iv (0 : Int32), iv (own_l2 p1), rv b790, rv b799] [(.int (0 : Int32)), (.ref b799)]))) (fun _ k => XS.pop X951.here hx rfl (hb hby at_87) rfl rfl (XS.aload X951.here hx rfl (hb hby at_88) rfl rfl (XS.iconst X951.here hx rfl (hb hby at_90) k))) ?_
         have F970 := F952.keep K951
         refine own_virt (W := 0) X951 hx hZ hown rfl (ow hw 68 rfl) (ow hw 69 rfl) (ow hw 71 rfl) (ow hw 70 rfl) (rmlen4_0 l Z a0 hw [] b799 ks_931 kk_931 (0 : Int32) (own_l0 p1) (own_l0 p1) ((own_l0 p1) + (own_l2 p1)) T951.heap n0 Zs968 P951_3 P951_4) (ow hw 72 rfl) (ow hw 4 rfl) F970 rfl (by rw [hml]; rfl) rfl (hb hby at_91) (lenOf pd__I_I rfl) rfl (by decide) (fun T969 v969 Ll969 X969 hQ969 => ?_)
         obtain ⟨rfl, N969q, eh969⟩ := hQ969
         have N969 := Fr.app N951 N969q
         refine own_go (b := (T969.setTop (mkF m 102 #[iv p0, iv p1, iv p2, iv p3, iv p4, iv (own_l0 p1), iv (0 : Int32), iv (own_l2 p1), rv b790, rv b799] [(.int (1 : Int32)), (.ref b799)]))) (fun _ k => XS.iload X969.here hx rfl (hb hby at_94) rfl (XS.icmpNo X969.here hx rfl (hb hby at_96) rfl (teq (Int32.sub_zero _)).2 (XS.aload X969.here hx rfl (hb hby at_99) rfl rfl (XS.iconst X969.here hx rfl (hb hby at_101) k)))) ?_
         refine own_virt (W := 0) X969 hx hZ hown eh969 (ow hw 68 rfl) (ow hw 69 rfl) (ow hw 71 rfl) (ow hw 70 rfl) (rmlen4_1 l Z a0 hw [] b799 ks_931 kk_931 (0 : Int32) (own_l0 p1) (own_l0 p1) ((own_l0 p1) + (own_l2 p1)) T951.heap n0 Zs968 P951_3 P951_4) (ow hw 72 rfl) (ow hw 4 rfl) F970 rfl (by rw [hml]; rfl) rfl (hb hby at_102) (lenOf pd__I_I rfl) rfl (by decide) (fun T971 v971 Ll971 X971 hQ971 => ?_)
         obtain ⟨rfl, N971q, eh971⟩ := hQ971
         have N971 := Fr.app N969 N971q
         refine own_go (b := (T971.setTop (mkF m 113 #[iv p0, iv p1, iv p2, iv p3, iv p4, iv (own_l0 p1), iv (0 : Int32), iv (own_l2 p1), rv b790, rv b799] [(.int (2 : Int32)), (.ref b799)]))) (fun _ k => XS.iload X971.here hx rfl (hb hby at_105) rfl (XS.icmpNo X971.here hx rfl (hb hby at_107) rfl (teq (Int32.sub_self _)).2 (XS.aload X971.here hx rfl (hb hby at_110) rfl rfl (XS.iconst X971.here hx rfl (hb hby at_112) k)))) ?_
         refine own_virt (W := 0) X971 hx hZ hown eh971 (ow hw 68 rfl) (ow hw 69 rfl) (ow hw 71 rfl) (ow hw 70 rfl) (rmlen4_2 l Z a0 hw [] b799 ks_931 kk_931 (0 : Int32) (own_l0 p1) (own_l0 p1) ((own_l0 p1) + (own_l2 p1)) T951.heap n0 Zs968 P951_3 P951_4) (ow hw 72 rfl) (ow hw 4 rfl) F970 rfl (by rw [hml]; rfl) rfl (hb hby at_113) (lenOf pd__I_I rfl) rfl (by decide) (fun T972 v972 Ll972 X972 hQ972 => ?_)
         obtain ⟨rfl, N972q, eh972⟩ := hQ972
         have N972 := Fr.app N971 N972q
         refine own_go (b := (T972.setTop (mkF m 126 #[iv p0, iv p1, iv p2, iv p3, iv p4, iv (own_l0 p1), iv (0 : Int32), iv (own_l2 p1), rv b790, rv b799] [(.int (1 : Int32))]))) (fun _ k => XS.iload X972.here hx rfl (hb hby at_116) rfl (XS.icmpNo X972.here hx rfl (hb hby at_118) rfl (teq (own_addsub _ _)).2 (XS.iconst X972.here hx rfl (hb hby at_121) (XS.goto X972.here hx rfl (pc0 := 122) (pc' := 126) rfl (hb hby at_122) (by decide) (by decide) k)))) ?_
         obtain ⟨fs, hr, hrun, hended, hW, hsame⟩ := X972.leave (v := some (.int (1 : Int32))) (fun h => by rw [Bd.returns] at h; cases h)
         exact ⟨_, _, retN X972 hx (t := .boolean) Bd.returns (by simp) (hb hby at_126) hr, hrun, hended, _, _, rfl, (show Qrm0 Z p0 p1 p2 p3 p4 h0 n0 _ T972.heap _ from (by rw [eh972]; exact ⟨rfl, N972⟩)), ⟨_, rfl⟩, hW, hsame.mono (by decide) (by decide)⟩
   · skip
     refine own_go (b := (s₁.setTop (mkF m 17 #[iv p0, iv p1, iv p2, iv p3, iv p4, iv (own_l0 p1), iv (own_l1 p1), .unset, .unset, .unset] [(.int (own_l2 p1))]))) (fun _ k => XS.istore X0.here hx rfl (hb hby at_10) rfl (l' := #[iv p0, iv p1, iv p2, iv p3, iv p4, iv (own_l0 p1), iv (own_l1 p1), .unset, .unset, .unset]) rfl (XS.iloadN X0.here hx rfl (hb hby at_12) rfl (XS.iconst X0.here hx rfl (hb hby at_13) (XS.iushr X0.here hx rfl (hb hby at_14) rfl (XS.iconst X0.here hx rfl (hb hby at_15) (XS.iand X0.here hx rfl (hb hby at_16) rfl k)))))) ?_
     by_cases hz2 : (own_l2 p1) = (0 : Int32)
     · skip
       rw [hz2]
       refine own_go (b := (s₁.setTop (mkF m 20 #[iv p0, iv p1, iv p2, iv p3, iv p4, iv (own_l0 p1), iv (own_l1 p1), iv (0 : Int32), .unset, .unset] [(.int (3 : Int32))]))) (fun _ k => XS.istore X0.here hx rfl (hb hby at_17) rfl (l' := #[iv p0, iv p1, iv p2, iv p3, iv p4, iv (own_l0 p1), iv (own_l1 p1), iv (0 : Int32), .unset, .unset]) rfl (XS.iconst X0.here hx rfl (hb hby at_19) k)) ?_
       obtain ⟨T973, h973, kl973, X973, e973, E973, A973, st973⟩ := newP X0 hx hZ (ow hw 0 rfl) e0 (g := (mkF m 20 #[iv p0, iv p1, iv p2, iv p3, iv p4, iv (own_l0 p1), iv (own_l1 p1), iv (0 : Int32), .unset, .unset] [(.int (3 : Int32))])) rfl (hb hby at_20) rfl (by decide) (cap := 3) (by decide) (by decide) (by decide) (by decide)
       obtain ⟨b973, g973⟩ : ∃ z, z = h0.size := ⟨_, rfl⟩
       rw [← g973] at A973 st973
       have Zs974 : n0 ≤ h973.size := Nat.le_trans Z0 E973.1
       have V973 : Arv Z h973 b973 kl973 .int (3 : Int32) [(.int (0 : Int32)), (.int (0 : Int32)), (.int (0 : Int32))] (.int (0 : Int32)) := (Arv.new A973 (by decide)).pad (pad_rep [] (.int (0 : Int32)) 3)
       refine own_go (b := (T973.setTop (mkF m 28 #[iv p0, iv p1, iv p2, iv p3, iv p4, iv (own_l0 p1), iv (own_l1 p1), iv (0 : Int32), .unset, .unset] [(.int (own_k p2)), (.int (0 : Int32)), (.ref b973), (.ref b973)]))) (fun _ k => st973 _ (XS.dup X973.here hx rfl (hb hby at_22) rfl rfl (XS.iconst X973.here hx rfl (hb hby at_23) (XS.iloadN X973.here hx rfl (hb hby at_24) rfl (X973.ldcInt hx hown (mvT hZ (ow hw 1 rfl)) (g := (mkF m 25 #[iv p0, iv p1, iv p2, iv p3, iv p4, iv (own_l0 p1), iv (own_l1 p1), iv (0 : Int32), .unset, .unset] [(.int p2), (.int (0 : Int32)), (.ref b973), (.ref b973)])) rfl (hb hby at_25) _ (XS.iand X973.here hx rfl (hb hby at_27) rfl k)))))) ?_
       obtain ⟨cl975, Ar975, ql975, Sz975, Nn975, Hl975, Gl975⟩ := id V973
       have hin975 : ¬ ((0 : Int32) < 0 ∨ cl975.slots.size ≤ ((0 : Int32)).toNatClampNeg) := inb_of Sz975 ⟨by decide, by decide⟩
       obtain ⟨T975, h975, X975, e975, W975, st975⟩ := stI X973 hx hZ e973 Ar975 (j := (0 : Int32)) hin975 (g := (mkF m 28 #[iv p0, iv p1, iv p2, iv p3, iv p4, iv (own_l0 p1), iv (own_l1 p1), iv (0 : Int32), .unset, .unset] [(.int (own_k p2)), (.int (0 : Int32)), (.ref b973), (.ref b973)])) rfl rfl (hb hby at_28)
       have gx976 : n0 ≤ b973 := Nat.le_trans Z0 (Nat.le_of_eq g973.symm)
       have N975 := Fr.snoc X975 N0 gx976
       have Zs977 : n0 ≤ h975.size := Nat.le_trans Zs974 (Keep.of_wr W975).1
       have V975 : Arv Z h975 b973 kl973 .int (3 : Int32) [(.int (own_k p2)), (.int (0 : Int32)), (.int (0 : Int32))] (.int (0 : Int32)) := Arv.set Ar975 ql975 Sz975 Nn975 Hl975 Gl975 rfl W975 0 rfl (Nat.le_of_ble_eq_true rfl)
       refine own_go (b := (T975.setTop (mkF m 35 #[iv p0, iv p1, iv p2, iv p3, iv p4, iv (own_l0 p1), iv (own_l1 p1), iv (0 : Int32), .unset, .unset] [(.int (own_k p3)), (.int (1 : Int32)), (.ref b973), (.ref b973)]))) (fun _ k => st975 _ (XS.dup X975.here hx rfl (hb hby at_29) rfl rfl (XS.iconst X975.here hx rfl (hb hby at_30) (XS.iloadN X975.here hx rfl (hb hby at_31) rfl (X975.ldcInt hx hown (mvT hZ (ow hw 1 rfl)) (g := (mkF m 32 #[iv p0, iv p1, iv p2, iv p3, iv p4, iv (own_l0 p1), iv (own_l1 p1), iv (0 : Int32), .unset, .unset] [(.int p3), (.int (1 : Int32)), (.ref b973), (.ref b973)])) rfl (hb hby at_32) _ (XS.iand X975.here hx rfl (hb hby at_34) rfl k)))))) ?_
       obtain ⟨cl978, Ar978, ql978, Sz978, Nn978, Hl978, Gl978⟩ := id V975
       have hin978 : ¬ ((1 : Int32) < 0 ∨ cl978.slots.size ≤ ((1 : Int32)).toNatClampNeg) := inb_of Sz978 ⟨by decide, by decide⟩
       obtain ⟨T978, h978, X978, e978, W978, st978⟩ := stI X975 hx hZ e975 Ar978 (j := (1 : Int32)) hin978 (g := (mkF m 35 #[iv p0, iv p1, iv p2, iv p3, iv p4, iv (own_l0 p1), iv (own_l1 p1), iv (0 : Int32), .unset, .unset] [(.int (own_k p3)), (.int (1 : Int32)), (.ref b973), (.ref b973)])) rfl rfl (hb hby at_35)
       have N978 := Fr.snoc X978 N975 gx976
       have Zs979 : n0 ≤ h978.size := Nat.le_trans Zs977 (Keep.of_wr W978).1
       have V978 : Arv Z h978 b973 kl973 .int (3 : Int32) [(.int (own_k p2)), (.int (own_k p3)), (.int (0 : Int32))] (.int (0 : Int32)) := Arv.set Ar978 ql978 Sz978 Nn978 Hl978 Gl978 rfl W978 1 rfl (Nat.le_of_ble_eq_true rfl)
       refine own_go (b := (T978.setTop (mkF m 43 #[iv p0, iv p1, iv p2, iv p3, iv p4, iv (own_l0 p1), iv (own_l1 p1), iv (0 : Int32), .unset, .unset] [(.int (own_k p4)), (.int (2 : Int32)), (.ref b973), (.ref b973)]))) (fun _ k => st978 _ (XS.dup X978.here hx rfl (hb hby at_36) rfl rfl (XS.iconst X978.here hx rfl (hb hby at_37) (XS.iload X978.here hx rfl (hb hby at_38) rfl (X978.ldcInt hx hown (mvT hZ (ow hw 1 rfl)) (g := (mkF m 40 #[iv p0, iv p1, iv p2, iv p3, iv p4, iv (own_l0 p1), iv (own_l1 p1), iv (0 : Int32), .unset, .unset] [(.int p4), (.int (2 : Int32)), (.ref b973), (.ref b973)])) rfl (hb hby at_40) _ (XS.iand X978.here hx rfl (hb hby at_42) rfl k)))))) ?_
       obtain ⟨cl980, Ar980, ql980, Sz980, Nn980, Hl980, Gl980⟩ := id V978
       have hin980 : ¬ ((2 : Int32) < 0 ∨ cl980.slots.size ≤ ((2 : Int32)).toNatClampNeg) := inb_of Sz980 ⟨by decide, by decide⟩
       obtain ⟨T980, h980, X980, e980, W980, st980⟩ := stI X978 hx hZ e978 Ar980 (j := (2 : Int32)) hin980 (g := (mkF m 43 #[iv p0, iv p1, iv p2, iv p3, iv p4, iv (own_l0 p1), iv (own_l1 p1), iv (0 : Int32), .unset, .unset] [(.int (own_k p4)), (.int (2 : Int32)), (.ref b973), (.ref b973)])) rfl rfl (hb hby at_43)
       have N980 := Fr.snoc X980 N978 gx976
       have Zs981 : n0 ≤ h980.size := Nat.le_trans Zs979 (Keep.of_wr W980).1
       have V980 : Arv Z h980 b973 kl973 .int (3 : Int32) [(.int (own_k p2)), (.int (own_k p3)), (.int (own_k p4))] (.int (0 : Int32)) := Arv.set Ar980 ql980 Sz980 Nn980 Hl980 Gl980 rfl W980 2 rfl (Nat.le_of_ble_eq_true rfl)
       refine own_go (b := (T980.setTop (mkF m 46 #[iv p0, iv p1, iv p2, iv p3, iv p4, iv (own_l0 p1), iv (own_l1 p1), iv (0 : Int32), rv b973, .unset] []))) (fun _ k => st980 _ (XS.astore X980.here hx rfl (hb hby at_44) rfl rfl (l' := #[iv p0, iv p1, iv p2, iv p3, iv p4, iv (own_l0 p1), iv (own_l1 p1), iv (0 : Int32), rv b973, .unset]) rfl k)) ?_
       obtain ⟨T982, h982, X982, e982, E982, A982, D982, -, st982⟩ := newO X980 hx hZ hown (ow hw 2 rfl) (ow hw 3 rfl) (ow hw 4 rfl) e980 (g := (mkF m 46 #[iv p0, iv p1, iv p2, iv p3, iv p4, iv (own_l0 p1), iv (own_l1 p1), iv (0 : Int32), rv b973, .unset] [])) rfl (hb hby at_46) (by decide) (by decide)
       obtain ⟨b982, g982⟩ : ∃ z, z = h980.size := ⟨_, rfl⟩
       rw [← g982] at A982 D982 st982
       have Zs983 : n0 ≤ h982.size := Nat.le_trans Zs981 E982.1
       have F982_keys : Fld Z h982 b982 cs0 "keys" "Lcom/example/arcwright/arcwright/parser/IntBlocks;" .null := D982 (Or.inr (ow hw 23 rfl)) (ty := (.object cs1)) (by decide)
       have F982_keyStarts : Fld Z h982 b982 cs0 "keyStarts" "[I" .null := D982 (Or.inl (ow hw 25 rfl)) (ty := (.array .int)) (by decide)
       have F982_labelStarts : Fld Z h982 b982 cs0 "labelStarts" "[I" .null := D982 (Or.inl (ow hw 32 rfl)) (ty := (.array .int)) (by decide)
       have F982_size : Fld Z h982 b982 cs0 "size" "I" (.int (0 : Int32)) := D982 (Or.inl (ow hw 34 rfl)) (ty := .int) (by decide)
       refine own_go (b := (T982.setTop (mkF m 53 #[iv p0, iv p1, iv p2, iv p3, iv p4, iv (own_l0 p1), iv (own_l1 p1), iv (0 : Int32), rv b973, .unset] [(.int (p0 &&& (3 : Int32))), (.ref b982), (.ref b982)]))) (fun _ k => st982 _ (XS.dup X982.here hx rfl (hb hby at_49) rfl rfl (XS.iloadN X982.here hx rfl (hb hby at_50) rfl (XS.iconst X982.here hx rfl (hb hby at_51) (XS.iand X982.here hx rfl (hb hby at_52) rfl k))))) ?_
       rcases own_and3 p0 with hk | hk | hk | hk
       · rw [hk]
         have gx985 : n0 ≤ b982 := Nat.le_trans Zs981 (Nat.le_of_eq g982.symm)
         refine own_spec (W := 1) X982 hx hZ hown e982 (ow hw 5 rfl) (ow hw 6 rfl) (rmft0 l Z a0 hw [] b982 .null .null h982 n0 Zs983 A982 F982_keys F982_keyStarts F982_labelStarts F982_size gx985) (ow hw 7 rfl) (ow hw 4 rfl) rfl (by rw [hml]; rfl) rfl (hb hby at_53) (lenOf pd__I_V rfl) rfl rfl (by decide) (fun T984 v984 Ll984 X984 hQ984 => ?_)
         obtain ⟨ib_984, ks_984, kk_984, bl_984, kb_984, rfl, N984q, K984, P984_0, P984_1, P984_2, P984_3, P984_4, P984_5, P984_6, P984_7, P984_8, P984_9, P984_10, P984_11, P984_12, P984_13⟩ := hQ984
         have N984 := Fr.app N980 N984q
         have Zs986 : n0 ≤ T984.heap.size := Nat.le_trans Zs983 K984.1
         refine own_go (b := (T984.setTop (mkF m 64 #[iv p0, iv p1, iv p2, iv p3, iv p4, iv (own_l0 p1), iv (own_l1 p1), iv (0 : Int32), rv b973, rv b982] [(.int (own_l0 p1)), (.ref b973), (.ref b982)]))) (fun _ k => XS.astore X984.here hx rfl (hb hby at_56) rfl rfl (l' := #[iv p0, iv p1, iv p2, iv p3, iv p4, iv (own_l0 p1), iv (own_l1 p1), iv (0 : Int32), rv b973, rv b982]) rfl (XS.aload X984.here hx rfl (hb hby at_58) rfl rfl (XS.aload X984.here hx rfl (hb hby at_60) rfl rfl (XS.iload X984.here hx rfl (hb hby at_62) rfl k)))) ?_
         have F988 := A982.keep K984
         have F989 := V980.ext E982
         have nx990 : b973 ≠ b982 := (own_ne V973.lt (own_tr (own_tr (Keep.of_wr W975).1 (Keep.of_wr W978).1) (Keep.of_wr W980).1) (Nat.le_of_eq g982.symm))
         have F991 := F989.keep K984 (ninS nx990 nin0)
         have gx992 : n0 ≤ ib_984 := Nat.le_trans Zs983 P984_4
         have gx993 : n0 ≤ ks_984 := Nat.le_trans Zs983 P984_5
         have nx994 : ks_984 ≠ b973 := (Ne.symm (own_ne V973.lt (own_tr (own_tr (own_tr (Keep.of_wr W975).1 (Keep.of_wr W978).1) (Keep.of_wr W980).1) E982.1) P984_5))
         have gx995 : n0 ≤ bl_984 := Nat.le_trans Zs983 P984_6
         have nx996 : b973 ≠ bl_984 := (own_ne V973.lt (own_tr (own_tr (own_tr (Keep.of_wr W975).1 (Keep.of_wr W978).1) (Keep.of_wr W980).1) E982.1) P984_6)
         refine own_virt (W := 0) X984 hx hZ hown rfl (ow hw 26 rfl) (ow hw 27 rfl) (ow hw 29 rfl) (ow hw 28 rfl) (rmap1_0E1 l Z a0 hw [] b982 b973 kl973 (own_k p2) (own_k p3) (own_k p4) (own_l0 p1) ib_984 ks_984 kk_984 bl_984 kb_984 (0 : Int32) T984.heap n0 Zs986 F988 P984_0 P984_1 P984_2 P984_3 P984_7 P984_8 P984_9 P984_12 F991 gx985 gx992 gx993 nx994 gx995 P984_13 nx996 (own_pos p2) (own_pos p3) (own_pos p4) (own_nz _ hz0).1 (own_nz _ hz0).2 P984_10 P984_11) (ow hw 30 rfl) (ow hw 4 rfl) F988 rfl (by rw [hml]; rfl) rfl (hb hby at_64) (lenOf pd___II_I rfl) rfl (by decide) (fun T987 v987 Ll987 X987 hQ987 => ?_)
         obtain ⟨ksn_987, kkn_987, cn_987, kn_987, vsn_987, rfl, N987q, K987, P987_0, P987_1, P987_2, P987_3, P987_4, P987_5, P987_6, P987_7, P987_8, P987_9, P987_10, P987_11, P987_12⟩ := hQ987
         have N987 := Fr.app N984 N987q
         have Zs997 : n0 ≤ T987.heap.size := Nat.le_trans Zs986 K987.1
         refine own_go (b := (T987.setTop (mkF m 74 #[iv p0, iv p1, iv p2, iv p3, iv p4, iv (own_l0 p1), iv (own_l1 p1), iv (0 : Int32), rv b973, rv b982] [(.int (own_l1 p1)), (.ref b973), (.ref b982)]))) (fun _ k => XS.pop X987.here hx rfl (hb hby at_67) rfl rfl (XS.aload X987.here hx rfl (hb hby at_68) rfl rfl (XS.aload X987.here hx rfl (hb hby at_70) rfl rfl (XS.iload X987.here hx rfl (hb hby at_72) rfl k)))) ?_
         have F999 := F988.keep K987
         have F1000 := P984_7.keep K987
         have nx1001 : b973 ≠ ib_984 := (own_ne V973.lt (own_tr (own_tr (own_tr (Keep.of_wr W975).1 (Keep.of_wr W978).1) (Keep.of_wr W980).1) E982.1) P984_4)
         have F1002 := F991.keep K987 (ninS nx990 (ninS nx1001 (ninS nx996 nin0)))
         have gx1003 : n0 ≤ ksn_987 := Nat.le_trans Zs986 P987_3
         have nx1004 : ksn_987 ≠ b973 := (Ne.symm (own_ne V973.lt (own_tr (own_tr (own_tr (own_tr (Keep.of_wr W975).1 (Keep.of_wr W978).1) (Keep.of_wr W980).1) E982.1) K984.1) P987_3))
         have nx1005 : ksn_987 ≠ bl_984 := (Ne.symm (own_ne P984_10.lt (Nat.le_refl _) P987_3))
         have gx1006 : n0 ≤ cn_987 := Nat.le_trans Zs986 P987_8
         have nx1007 : b973 ≠ cn_987 := (own_ne V973.lt (own_tr (own_tr (own_tr (own_tr (Keep.of_wr W975).1 (Keep.of_wr W978).1) (Keep.of_wr W980).1) E982.1) K984.1) P987_8)
         have nx1008 : bl_984 ≠ cn_987 := (own_ne P984_10.lt (Nat.le_refl _) P987_8)
         refine own_virt (W := 0) X987 hx hZ hown rfl (ow hw 26 rfl) (ow hw 27 rfl) (ow hw 29 rfl) (ow hw 28 rfl) (rmap2_1F1 l Z a0 hw [] b982 b973 kl973 (own_k p2) (own_k p3) (own_k p4) (own_l1 p1) ib_984 ksn_987 kkn_987 bl_984 kb_984 (0 : Int32) (own_l0 p1) (own_l0 p1) cn_987 kn_987 vsn_987 T987.heap n0 Zs997 F999 P987_0 P987_4 P987_1 P987_2 F1000 P987_6 P987_7 P987_5 F1002 gx985 gx992 gx1003 nx1004 gx995 nx1005 nx996 (own_pos p2) (own_pos p3) (own_pos p4) (own_nz _ hz1).1 (own_nz _ hz1).2 P987_9 P987_10 P987_11 gx1006 nx1007 nx1008 P987_12 (own_nz _ hz0).1 (own_36 (own_nz _ hz0).2)) (ow hw 30 rfl) (ow hw 4 rfl) F999 rfl (by rw [hml]; rfl) rfl (hb hby at_74) (lenOf pd___II_I rfl) rfl (by decide) (fun T998 v998 Ll998 X998 hQ998 => ?_)
         obtain ⟨ksn_998, kkn_998, vsn_998, rfl, N998q, K998, P998_0, P998_1, P998_2, P998_3, P998_4, P998_5, P998_6, P998_7, P998_8, P998_9⟩ := hQ998
         have N998 := Fr.app N987 N998q
         have Zs1009 : n0 ≤ T998.heap.size := Nat.le_trans Zs997 K998.1
         refine own_go (b := (T998.setTop (mkF m 84 #[iv p0, iv p1, iv p2, iv p3, iv p4, iv (own_l0 p1), iv (own_l1 p1), iv (0 : Int32), rv b973, rv b982] [(.int (0 : Int32)), (.ref b973), (.ref b982)]))) (fun _ k => XS.pop X998.here hx rfl (hb hby at_77) rfl rfl (XS.aload X998.here hx rfl (hb hby at_78) rfl rfl (XS.aload X998.here hx rfl (hb hby at_80) rfl rfl (XS.iload X998.here hx rfl (hb hby at_82) rfl k)))) ?_
         have F1011 := F999.keep K998
         have F1012 := F1000.keep K998
         have F1013 := F1002.keep K998 (ninS nx990 (ninS nx1001 (ninS nx1007 nin0)))
         have gx1014 : n0 ≤ ksn_998 := Nat.le_trans Zs997 P998_3
         have nx1015 : ksn_998 ≠ b973 := (Ne.symm (own_ne V973.lt (own_tr (own_tr (own_tr (own_tr (own_tr (Keep.of_wr W975).1 (Keep.of_wr W978).1) (Keep.of_wr W980).1) E982.1) K984.1) K987.1) P998_3))
         refine own_virt (W := 0) X998 hx hZ hown rfl (ow hw 26 rfl) (ow hw 27 rfl) (ow hw 29 rfl) (ow hw 28 rfl) (rmap4_2N0 l Z a0 hw [] b982 b973 kl973 (own_k p2) (own_k p3) (own_k p4) ib_984 ksn_998 kkn_998 ((own_l0 p1) + (own_l1 p1)) (0 : Int32) (own_l0 p1) ((own_l0 p1) + (own_l1 p1)) (0 : Int32) T998.heap n0 Zs1009 F1011 P998_0 P998_4 P998_1 P998_2 F1012 P998_6 P998_5 F1013 gx985 gx992 gx1014 nx1015 (own_pos p2) (own_pos p3) (own_pos p4)) (ow hw 30 rfl) (ow hw 4 rfl) F1011 rfl (by rw [hml]; rfl) rfl (hb hby at_84) (lenOf pd___II_I rfl) rfl (by decide) (fun T1010 v1010 Ll1010 X1010 hQ1010 => ?_)
         obtain ⟨rfl, N1010q, K1010, P1010_0, P1010_1, P1010_2, P1010_3, P1010_4⟩ := hQ1010
         have N1010 := Fr.app N998 N1010q
         have Zs1016 : n0 ≤ T1010.heap.size := Nat.le_trans Zs1009 K1010.1
         refine own_go (b := (T1010.setTop (mkF m 91 #[iv p0, iv p1, iv p2, iv p3, iv p4, iv (own_l0 p1), iv (own_l1 p1), iv (0 : Int32), rv b973, rv b982] [(.int (0 : Int32)), (.ref b982)]))) (fun _ k => XS.pop X1010.here hx rfl (hb hby at_87) rfl rfl (XS.aload X1010.here hx rfl (hb hby at_88) rfl rfl (XS.iconst X1010.here hx rfl (hb hby at_90) k))) ?_
         have F1018 := F1011.keep K1010
         refine own_virt (W := 0) X1010 hx hZ hown rfl (ow hw 68 rfl) (ow hw 69 rfl) (ow hw 71 rfl) (ow hw 70 rfl) (rmlen4_0 l Z a0 hw [] b982 ksn_998 kkn_998 (0 : Int32) (own_l0 p1) ((own_l0 p1) + (own_l1 p1)) ((own_l0 p1) + (own_l1 p1)) T1010.heap n0 Zs1016 P1010_3 P1010_4) (ow hw 72 rfl) (ow hw 4 rfl) F1018 rfl (by rw [hml]; rfl) rfl (hb hby at_91) (lenOf pd__I_I rfl) rfl (by decide) (fun T1017 v1017 Ll1017 X1017 hQ1017 => ?_)
         obtain ⟨rfl, N1017q, eh1017⟩ := hQ1017
         have N1017 := Fr.app N1010 N1017q
         refine own_go (b := (T1017.setTop (mkF m 102 #[iv p0, iv p1, iv p2, iv p3, iv p4, iv (own_l0 p1), iv (own_l1 p1), iv (0 : Int32), rv b973, rv b982] [(.int (1 : Int32)), (.ref b982)]))) (fun _ k => XS.iload X1017.here hx rfl (hb hby at_94) rfl (XS.icmpNo X1017.here hx rfl (hb hby at_96) rfl (teq (Int32.sub_zero _)).2 (XS.aload X1017.here hx rfl (hb hby at_99) rfl rfl (XS.iconst X1017.here hx rfl (hb hby at_101) k)))) ?_
         refine own_virt (W := 0) X1017 hx hZ hown eh1017 (ow hw 68 rfl) (ow hw 69 rfl) (ow hw 71 rfl) (ow hw 70 rfl) (rmlen4_1 l Z a0 hw [] b982 ksn_998 kkn_998 (0 : Int32) (own_l0 p1) ((own_l0 p1) + (own_l1 p1)) ((own_l0 p1) + (own_l1 p1)) T1010.heap n0 Zs1016 P1010_3 P1010_4) (ow hw 72 rfl) (ow hw 4 rfl) F1018 rfl (by rw [hml]; rfl) rfl (hb hby at_102) (lenOf pd__I_I rfl) rfl (by decide) (fun T1019 v1019 Ll1019 X1019 hQ1019 => ?_)
         obtain ⟨rfl, N1019q, eh1019⟩ := hQ1019
         have N1019 := Fr.app N1017 N1019q
         refine own_go (b := (T1019.setTop (mkF m 113 #[iv p0, iv p1, iv p2, iv p3, iv p4, iv (own_l0 p1), iv (own_l1 p1), iv (0 : Int32), rv b973, rv b982] [(.int (2 : Int32)), (.ref b982)]))) (fun _ k => XS.iload X1019.here hx rfl (hb hby at_105) rfl (XS.icmpNo X1019.here hx rfl (hb hby at_107) rfl (teq (own_addsub _ _)).2 (XS.aload X1019.here hx rfl (hb hby at_110) rfl rfl (XS.iconst X1019.here hx rfl (hb hby at_112) k)))) ?_
         refine own_virt (W := 0) X1019 hx hZ hown eh1019 (ow hw 68 rfl) (ow hw 69 rfl) (ow hw 71 rfl) (ow hw 70 rfl) (rmlen4_2 l Z a0 hw [] b982 ksn_998 kkn_998 (0 : Int32) (own_l0 p1) ((own_l0 p1) + (own_l1 p1)) ((own_l0 p1) + (own_l1 p1)) T1010.heap n0 Zs1016 P1010_3 P1010_4) (ow hw 72 rfl) (ow hw 4 rfl) F1018 rfl (by rw [hml]; rfl) rfl (hb hby at_113) (lenOf pd__I_I rfl) rfl (by decide) (fun T1020 v1020 Ll1020 X1020 hQ1020 => ?_)
         obtain ⟨rfl, N1020q, eh1020⟩ := hQ1020
         have N1020 := Fr.app N1019 N1020q
         refine own_go (b := (T1020.setTop (mkF m 126 #[iv p0, iv p1, iv p2, iv p3, iv p4, iv (own_l0 p1), iv (own_l1 p1), iv (0 : Int32), rv b973, rv b982] [(.int (1 : Int32))]))) (fun _ k => XS.iload X1020.here hx rfl (hb hby at_116) rfl (XS.icmpNo X1020.here hx rfl (hb hby at_118) rfl (teq (Int32.sub_self _)).2 (XS.iconst X1020.here hx rfl (hb hby at_121) (XS.goto X1020.here hx rfl (pc0 := 122) (pc' := 126) rfl (hb hby at_122) (by decide) (by decide) k)))) ?_
         obtain ⟨fs, hr, hrun, hended, hW, hsame⟩ := X1020.leave (v := some (.int (1 : Int32))) (fun h => by rw [Bd.returns] at h; cases h)
         exact ⟨_, _, retN X1020 hx (t := .boolean) Bd.returns (by simp) (hb hby at_126) hr, hrun, hended, _, _, rfl, (show Qrm0 Z p0 p1 p2 p3 p4 h0 n0 _ T1020.heap _ from (by rw [eh1020]; exact ⟨rfl, N1020⟩)), ⟨_, rfl⟩, hW, hsame.mono (by decide) (by decide)⟩
       · rw [hk]
         have gx1022 : n0 ≤ b982 := Nat.le_trans Zs981 (Nat.le_of_eq g982.symm)
         refine own_spec (W := 1) X982 hx hZ hown e982 (ow hw 5 rfl) (ow hw 6 rfl) (rmft1 l Z a0 hw [] b982 .null .null h982 n0 Zs983 A982 F982_keys F982_keyStarts F982_labelStarts F982_size gx1022) (ow hw 7 rfl) (ow hw 4 rfl) rfl (by rw [hml]; rfl) rfl (hb hby at_53) (lenOf pd__I_V rfl) rfl rfl (by decide) (fun T1021 v1021 Ll1021 X1021 hQ1021 => ?_)
         obtain ⟨ib_1021, ks_1021, kk_1021, bl_1021, kb_1021, rfl, N1021q, K1021, P1021_0, P1021_1, P1021_2, P1021_3, P1021_4, P1021_5, P1021_6, P1021_7, P1021_8, P1021_9, P1021_10, P1021_11, P1021_12, P1021_13⟩ := hQ1021
         have N1021 := Fr.app N980 N1021q
         have Zs1023 : n0 ≤ T1021.heap.size := Nat.le_trans Zs983 K1021.1
         refine own_go (b := (T1021.setTop (mkF m 64 #[iv p0, iv p1, iv p2, iv p3, iv p4, iv (own_l0 p1), iv (own_l1 p1), iv (0 : Int32), rv b973, rv b982] [(.int (own_l0 p1)), (.ref b973), (.ref b982)]))) (fun _ k => XS.astore X1021.here hx rfl (hb hby at_56) rfl rfl (l' := #[iv p0, iv p1, iv p2, iv p3, iv p4, iv (own_l0 p1), iv (own_l1 p1), iv (0 : Int32), rv b973, rv b982]) rfl (XS.aload X1021.here hx rfl (hb hby at_58) rfl rfl (XS.aload X1021.here hx rfl (hb hby at_60) rfl rfl (XS.iload X1021.here hx rfl (hb hby at_62) rfl k)))) ?_
         have F1025 := A982.keep K1021
         have F1026 := V980.ext E982
         have nx1027 : b973 ≠ b982 := (own_ne V973.lt (own_tr (own_tr (Keep.of_wr W975).1 (Keep.of_wr W978).1) (Keep.of_wr W980).1) (Nat.le_of_eq g982.symm))
         have F1028 := F1026.keep K1021 (ninS nx1027 nin0)
         have gx1029 : n0 ≤ ib_1021 := Nat.le_trans Zs983 P1021_4
         have gx1030 : n0 ≤ ks_1021 := Nat.le_trans Zs983 P1021_5
         have nx1031 : ks_1021 ≠ b973 := (Ne.symm (own_ne V973.lt (own_tr (own_tr (own_tr (Keep.of_wr W975).1 (Keep.of_wr W978).1) (Keep.of_wr W980).1) E982.1) P1021_5))
         have gx1032 : n0 ≤ bl_1021 := Nat.le_trans Zs983 P1021_6
         have nx1033 : b973 ≠ bl_1021 := (own_ne V973.lt (own_tr (own_tr (own_tr (Keep.of_wr W975).1 (Keep.of_wr W978).1) (Keep.of_wr W980).1) E982.1) P1021_6)
         refine own_virt (W := 0) X1021 hx hZ hown rfl (ow hw 26 rfl) (ow hw 27 rfl) (ow hw 29 rfl) (ow hw 28 rfl) (rmap2_0E1 l Z a0 hw [] b982 b973 kl973 (own_k p2) (own_k p3) (own_k p4) (own_l0 p1) ib_1021 ks_1021 kk_1021 bl_1021 kb_1021 (0 : Int32) (0 : Int32) T1021.heap n0 Zs1023 F1025 P1021_0 P1021_1 P1021_2 P1021_3 P1021_7 P1021_8 P1021_9 P1021_12 F1028 gx1022 gx1029 gx1030 nx1031 gx1032 P1021_13 nx1033 (own_pos p2) (own_pos p3) (own_pos p4) (own_nz _ hz0).1 (own_nz _ hz0).2 P1021_10 P1021_11) (ow hw 30 rfl) (ow hw 4 rfl) F1025 rfl (by rw [hml]; rfl) rfl (hb hby at_64) (lenOf pd___II_I rfl) rfl (by decide) (fun T1024 v1024 Ll1024 X1024 hQ1024 => ?_)
         obtain ⟨cn_1024, kn_1024, vsn_1024, rfl, N1024q, K1024, P1024_0, P1024_1, P1024_2, P1024_3, P1024_4, P1024_5, P1024_6, P1024_7, P1024_8, P1024_9, P1024_10⟩ := hQ1024
         have N1024 := Fr.app N1021 N1024q
         have Zs1034 : n0 ≤ T1024.heap.size := Nat.le_trans Zs1023 K1024.1
         refine own_go (b := (T1024.setTop (mkF m 74 #[iv p0, iv p1, iv p2, iv p3, iv p4, iv (own_l0 p1), iv (own_l1 p1), iv (0 : Int32), rv b973, rv b982] [(.int (own_l1 p1)), (.ref b973), (.ref b982)]))) (fun _ k => XS.pop X1024.here hx rfl (hb hby at_67) rfl rfl (XS.aload X1024.here hx rfl (hb hby at_68) rfl rfl (XS.aload X1024.here hx rfl (hb hby at_70) rfl rfl (XS.iload X1024.here hx rfl (hb hby at_72) rfl k)))) ?_
         have F1036 := F1025.keep K1024
         have F1037 := P1021_7.keep K1024
         have nx1038 : b973 ≠ ib_1021 := (own_ne V973.lt (own_tr (own_tr (own_tr (Keep.of_wr W975).1 (Keep.of_wr W978).1) (Keep.of_wr W980).1) E982.1) P1021_4)
         have F1039 := F1028.keep K1024 (ninS nx1027 (ninS nx1038 (ninS (Ne.symm nx1031) (ninS nx1033 nin0))))
         have gx1040 : n0 ≤ cn_1024 := Nat.le_trans Zs1023 P1024_7
         have nx1041 : b973 ≠ cn_1024 := (own_ne V973.lt (own_tr (own_tr (own_tr (own_tr (Keep.of_wr W975).1 (Keep.of_wr W978).1) (Keep.of_wr W980).1) E982.1) K1021.1) P1024_7)
         have nx1042 : bl_1021 ≠ cn_1024 := (own_ne P1021_10.lt (Nat.le_refl _) P1024_7)
         have nx1043 : ks_1021 ≠ cn_1024 := (own_ne P1021_12.lt (Nat.le_refl _) P1024_7)
         refine own_virt (W := 0) X1024 hx hZ hown rfl (ow hw 26 rfl) (ow hw 27 rfl) (ow hw 29 rfl) (ow hw 28 rfl) (rmap2_1F1 l Z a0 hw [] b982 b973 kl973 (own_k p2) (own_k p3) (own_k p4) (own_l1 p1) ib_1021 ks_1021 kk_1021 bl_1021 kb_1021 (0 : Int32) (own_l0 p1) (own_l0 p1) cn_1024 kn_1024 vsn_1024 T1024.heap n0 Zs1034 F1036 P1024_0 P1024_3 P1024_1 P1024_2 F1037 P1024_5 P1024_6 P1024_4 F1039 gx1022 gx1029 gx1030 nx1031 gx1032 P1021_13 nx1033 (own_pos p2) (own_pos p3) (own_pos p4) (own_nz _ hz1).1 (own_nz _ hz1).2 P1024_8 P1024_9 P1024_10 gx1040 nx1041 nx1042 nx1043 (own_nz _ hz0).1 (own_36 (own_nz _ hz0).2)) (ow hw 30 rfl) (ow hw 4 rfl) F1036 rfl (by rw [hml]; rfl) rfl (hb hby at_74) (lenOf pd___II_I rfl) rfl (by decide) (fun T1035 v1035 Ll1035 X1035 hQ1035 => ?_)
         obtain ⟨ksn_1035, kkn_1035, vsn_1035, rfl, N1035q, K1035, P1035_0, P1035_1, P1035_2, P1035_3, P1035_4, P1035_5, P1035_6, P1035_7, P1035_8, P1035_9⟩ := hQ1035
         have N1035 := Fr.app N1024 N1035q
         have Zs1044 : n0 ≤ T1035.heap.size := Nat.le_trans Zs1034 K1035.1
         refine own_go (b := (T1035.setTop (mkF m 84 #[iv p0, iv p1, iv p2, iv p3, iv p4, iv (own_l0 p1), iv (own_l1 p1), iv (0 : Int32), rv b973, rv b982] [(.int (0 : Int32)), (.ref b973), (.ref b982)]))) (fun _ k => XS.pop X1035.here hx rfl (hb hby at_77) rfl rfl (XS.aload X1035.here hx rfl (hb hby at_78) rfl rfl (XS.aload X1035.here hx rfl (hb hby at_80) rfl rfl (XS.iload X1035.here hx rfl (hb hby at_82) rfl k)))) ?_
         have F1046 := F1036.keep K1035
         have F1047 := F1037.keep K1035
         have F1048 := F1039.keep K1035 (ninS nx1027 (ninS nx1038 (ninS nx1041 nin0)))
         have gx1049 : n0 ≤ ksn_1035 := Nat.le_trans Zs1034 P1035_3
         have nx1050 : ksn_1035 ≠ b973 := (Ne.symm (own_ne V973.lt (own_tr (own_tr (own_tr (own_tr (own_tr (Keep.of_wr W975).1 (Keep.of_wr W978).1) (Keep.of_wr W980).1) E982.1) K1021.1) K1024.1) P1035_3))
         refine own_virt (W := 0) X1035 hx hZ hown rfl (ow hw 26 rfl) (ow hw 27 rfl) (ow hw 29 rfl) (ow hw 28 rfl) (rmap4_2N0 l Z a0 hw [] b982 b973 kl973 (own_k p2) (own_k p3) (own_k p4) ib_1021 ksn_1035 kkn_1035 ((own_l0 p1) + (own_l1 p1)) (0 : Int32) (own_l0 p1) ((own_l0 p1) + (own_l1 p1)) (0 : Int32) T1035.heap n0 Zs1044 F1046 P1035_0 P1035_4 P1035_1 P1035_2 F1047 P1035_6 P1035_5 F1048 gx1022 gx1029 gx1049 nx1050 (own_pos p2) (own_pos p3) (own_pos p4)) (ow hw 30 rfl) (ow hw 4 rfl) F1046 rfl (by rw [hml]; rfl) rfl (hb hby at_84) (lenOf pd___II_I rfl) rfl (by decide) (fun T1045 v1045 Ll1045 X1045 hQ1045 => ?_)
         obtain ⟨rfl, N1045q, K1045, P1045_0, P1045_1, P1045_2, P1045_3, P1045_4⟩ := hQ1045
         have N1045 := Fr.app N1035 N1045q
         have Zs1051 : n0 ≤ T1045.heap.size := Nat.le_trans Zs1044 K1045.1
         refine own_go (b := (T1045.setTop (mkF m 91 #[iv p0, iv p1, iv p2, iv p3, iv p4, iv (own_l0 p1), iv (own_l1 p1), iv (0 : Int32), rv b973, rv b982] [(.int (0 : Int32)), (.ref b982)]))) (fun _ k => XS.pop X1045.here hx rfl (hb hby at_87) rfl rfl (XS.aload X1045.here hx rfl (hb hby at_88) rfl rfl (XS.iconst X1045.here hx rfl (hb hby at_90) k))) ?_
         have F1053 := F1046.keep K1045
         refine own_virt (W := 0) X1045 hx hZ hown rfl (ow hw 68 rfl) (ow hw 69 rfl) (ow hw 71 rfl) (ow hw 70 rfl) (rmlen4_0 l Z a0 hw [] b982 ksn_1035 kkn_1035 (0 : Int32) (own_l0 p1) ((own_l0 p1) + (own_l1 p1)) ((own_l0 p1) + (own_l1 p1)) T1045.heap n0 Zs1051 P1045_3 P1045_4) (ow hw 72 rfl) (ow hw 4 rfl) F1053 rfl (by rw [hml]; rfl) rfl (hb hby at_91) (lenOf pd__I_I rfl) rfl (by decide) (fun T1052 v1052 Ll1052 X1052 hQ1052 => ?_)
         obtain ⟨rfl, N1052q, eh1052⟩ := hQ1052
         have N1052 := Fr.app N1045 N1052q
         refine own_go (b := (T1052.setTop (mkF m 102 #[iv p0, iv p1, iv p2, iv p3, iv p4, iv (own_l0 p1), iv (own_l1 p1), iv (0 : Int32), rv b973, rv b982] [(.int (1 : Int32)), (.ref b982)]))) (fun _ k => XS.iload X1052.here hx rfl (hb hby at_94) rfl (XS.icmpNo X1052.here hx rfl (hb hby at_96) rfl (teq (Int32.sub_zero _)).2 (XS.aload X1052.here hx rfl (hb hby at_99) rfl rfl (XS.iconst X1052.here hx rfl (hb hby at_101) k)))) ?_
         refine own_virt (W := 0) X1052 hx hZ hown eh1052 (ow hw 68 rfl) (ow hw 69 rfl) (ow hw 71 rfl) (ow hw 70 rfl) (rmlen4_1 l Z a0 hw [] b982 ksn_1035 kkn_1035 (0 : Int32) (own_l0 p1) ((own_l0 p1) + (own_l1 p1)) ((own_l0 p1) + (own_l1 p1)) T1045.heap n0 Zs1051 P1045_3 P1045_4) (ow hw 72 rfl) (ow hw 4 rfl) F1053 rfl (by rw [hml]; rfl) rfl (hb hby at_102) (lenOf pd__I_I rfl) rfl (by decide) (fun T1054 v1054 Ll1054 X1054 hQ1054 => ?_)
         obtain ⟨rfl, N1054q, eh1054⟩ := hQ1054
         have N1054 := Fr.app N1052 N1054q
         refine own_go (b := (T1054.setTop (mkF m 113 #[iv p0, iv p1, iv p2, iv p3, iv p4, iv (own_l0 p1), iv (own_l1 p1), iv (0 : Int32), rv b973, rv b982] [(.int (2 : Int32)), (.ref b982)]))) (fun _ k => XS.iload X1054.here hx rfl (hb hby at_105) rfl (XS.icmpNo X1054.here hx rfl (hb hby at_107) rfl (teq (own_addsub _ _)).2 (XS.aload X1054.here hx rfl (hb hby at_110) rfl rfl (XS.iconst X1054.here hx rfl (hb hby at_112) k)))) ?_
         refine own_virt (W := 0) X1054 hx hZ hown eh1054 (ow hw 68 rfl) (ow hw 69 rfl) (ow hw 71 rfl) (ow hw 70 rfl) (rmlen4_2 l Z a0 hw [] b982 ksn_1035 kkn_1035 (0 : Int32) (own_l0 p1) ((own_l0 p1) + (own_l1 p1)) ((own_l0 p1) + (own_l1 p1)) T1045.heap n0 Zs1051 P1045_3 P1045_4) (ow hw 72 rfl) (ow hw 4 rfl) F1053 rfl (by rw [hml]; rfl) rfl (hb hby at_113) (lenOf pd__I_I rfl) rfl (by decide) (fun T1055 v1055 Ll1055 X1055 hQ1055 => ?_)
         obtain ⟨rfl, N1055q, eh1055⟩ := hQ1055
         have N1055 := Fr.app N1054 N1055q
         refine own_go (b := (T1055.setTop (mkF m 126 #[iv p0, iv p1, iv p2, iv p3, iv p4, iv (own_l0 p1), iv (own_l1 p1), iv (0 : Int32), rv b973, rv b982] [(.int (1 : Int32))]))) (fun _ k => XS.iload X1055.here hx rfl (hb hby at_116) rfl (XS.icmpNo X1055.here hx rfl (hb hby at_118) rfl (teq (Int32.sub_self _)).2 (XS.iconst X1055.here hx rfl (hb hby at_121) (XS.goto X1055.here hx rfl (pc0 := 122) (pc' := 126) rfl (hb hby at_122) (by decide) (by decide) k)))) ?_
         obtain ⟨fs, hr, hrun, hended, hW, hsame⟩ := X1055.leave (v := some (.int (1 : Int32))) (fun h => by rw [Bd.returns] at h; cases h)
         exact ⟨_, _, retN X1055 hx (t := .boolean) Bd.returns (by simp) (hb hby at_126) hr, hrun, hended, _, _, rfl, (show Qrm0 Z p0 p1 p2 p3 p4 h0 n0 _ T1055.heap _ from (by rw [eh1055]; exact ⟨rfl, N1055⟩)), ⟨_, rfl⟩, hW, hsame.mono (by decide) (by decide)⟩
       · rw [hk]
         have gx1057 : n0 ≤ b982 := Nat.le_trans Zs981 (Nat.le_of_eq g982.symm)
         refine own_spec (W := 1) X982 hx hZ hown e982 (ow hw 5 rfl) (ow hw 6 rfl) (rmft2 l Z a0 hw [] b982 .null .null h982 n0 Zs983 A982 F982_keys F982_keyStarts F982_labelStarts F982_size gx1057) (ow hw 7 rfl) (ow hw 4 rfl) rfl (by rw [hml]; rfl) rfl (hb hby at_53) (lenOf pd__I_V rfl) rfl rfl (by decide) (fun T1056 v1056 Ll1056 X1056 hQ1056 => ?_)
         obtain ⟨ib_1056, ks_1056, kk_1056, bl_1056, kb_1056, rfl, N1056q, K1056, P1056_0, P1056_1, P1056_2, P1056_3, P1056_4, P1056_5, P1056_6, P1056_7, P1056_8, P1056_9, P1056_10, P1056_11, P1056_12, P1056_13⟩ := hQ1056
         have N1056 := Fr.app N980 N1056q
         have Zs1058 : n0 ≤ T1056.heap.size := Nat.le_trans Zs983 K1056.1
         refine own_go (b := (T1056.setTop (mkF m 64 #[iv p0, iv p1, iv p2, iv p3, iv p4, iv (own_l0 p1), iv (own_l1 p1), iv (0 : Int32), rv b973, rv b982] [(.int (own_l0 p1)), (.ref b973), (.ref b982)]))) (fun _ k => XS.astore X1056.here hx rfl (hb hby at_56) rfl rfl (l' := #[iv p0, iv p1, iv p2, iv p3, iv p4, iv (own_l0 p1), iv (own_l1 p1), iv (0 : Int32), rv b973, rv b982]) rfl (XS.aload X1056.here hx rfl (hb hby at_58) rfl rfl (XS.aload X1056.here hx rfl (hb hby at_60) rfl rfl (XS.iload X1056.here hx rfl (hb hby at_62) rfl k)))) ?_
         have F1060 := A982.keep K1056
         have F1061 := V980.ext E982
         have nx1062 : b973 ≠ b982 := (own_ne V973.lt (own_tr (own_tr (Keep.of_wr W975).1 (Keep.of_wr W978).1) (Keep.of_wr W980).1) (Nat.le_of_eq g982.symm))
         have F1063 := F1061.keep K1056 (ninS nx1062 nin0)
         have gx1064 : n0 ≤ ib_1056 := Nat.le_trans Zs983 P1056_4
         have gx1065 : n0 ≤ ks_1056 := Nat.le_trans Zs983 P1056_5
         have nx1066 : ks_1056 ≠ b973 := (Ne.symm (own_ne V973.lt (own_tr (own_tr (own_tr (Keep.of_wr W975).1 (Keep.of_wr W978).1) (Keep.of_wr W980).1) E982.1) P1056_5))
         have gx1067 : n0 ≤ bl_1056 := Nat.le_trans Zs983 P1056_6
         have nx1068 : b973 ≠ bl_1056 := (own_ne V973.lt (own_tr (own_tr (own_tr (Keep.of_wr W975).1 (Keep.of_wr W978).1) (Keep.of_wr W980).1) E982.1) P1056_6)
         refine own_virt (W := 0) X1056 hx hZ hown rfl (ow hw 26 rfl) (ow hw 27 rfl) (ow hw 29 rfl) (ow hw 28 rfl) (rmap3_0E1 l Z a0 hw [] b982 b973 kl973 (own_k p2) (own_k p3) (own_k p4) (own_l0 p1) ib_1056 ks_1056 kk_1056 bl_1056 kb_1056 (0 : Int32) (0 : Int32) (0 : Int32) T1056.heap n0 Zs1058 F1060 P1056_0 P1056_1 P1056_2 P1056_3 P1056_7 P1056_8 P1056_9 P1056_12 F1063 gx1057 gx1064 gx1065 nx1066 gx1067 P1056_13 nx1068 (own_pos p2) (own_pos p3) (own_pos p4) (own_nz _ hz0).1 (own_nz _ hz0).2 P1056_10 P1056_11) (ow hw 30 rfl) (ow hw 4 rfl) F1060 rfl (by rw [hml]; rfl) rfl (hb hby at_64) (lenOf pd___II_I rfl) rfl (by decide) (fun T1059 v1059 Ll1059 X1059 hQ1059 => ?_)
         obtain ⟨cn_1059, kn_1059, vsn_1059, rfl, N1059q, K1059, P1059_0, P1059_1, P1059_2, P1059_3, P1059_4, P1059_5, P1059_6, P1059_7, P1059_8, P1059_9, P1059_10⟩ := hQ1059
         have N1059 := Fr.app N1056 N1059q
         have Zs1069 : n0 ≤ T1059.heap.size := Nat.le_trans Zs1058 K1059.1
         refine own_go (b := (T1059.setTop (mkF m 74 #[iv p0, iv p1, iv p2, iv p3, iv p4, iv (own_l0 p1), iv (own_l1 p1), iv (0 : Int32), rv b973, rv b982] [(.int (own_l1 p1)), (.ref b973), (.ref b982)]))) (fun _ k => XS.pop X1059.here hx rfl (hb hby at_67) rfl rfl (XS.aload X1059.here hx rfl (hb hby at_68) rfl rfl (XS.aload X1059.here hx rfl (hb hby at_70) rfl rfl (XS.iload X1059.here hx rfl (hb hby at_72) rfl k)))) ?_
         have F1071 := F1060.keep K1059
         have F1072 := P1056_7.keep K1059
         have nx1073 : b973 ≠ ib_1056 := (own_ne V973.lt (own_tr (own_tr (own_tr (Keep.of_wr W975).1 (Keep.of_wr W978).1) (Keep.of_wr W980).1) E982.1) P1056_4)
         have F1074 := F1063.keep K1059 (ninS nx1062 (ninS nx1073 (ninS (Ne.symm nx1066) (ninS nx1068 nin0))))
         have gx1075 : n0 ≤ cn_1059 := Nat.le_trans Zs1058 P1059_7
         have nx1076 : b973 ≠ cn_1059 := (own_ne V973.lt (own_tr (own_tr (own_tr (own_tr (Keep.of_wr W975).1 (Keep.of_wr W978).1) (Keep.of_wr W980).1) E982.1) K1056.1) P1059_7)
         have nx1077 : bl_1056 ≠ cn_1059 := (own_ne P1056_10.lt (Nat.le_refl _) P1059_7)
         have nx1078 : ks_1056 ≠ cn_1059 := (own_ne P1056_12.lt (Nat.le_refl _) P1059_7)
         refine own_virt (W := 0) X1059 hx hZ hown rfl (ow hw 26 rfl) (ow hw 27 rfl) (ow hw 29 rfl) (ow hw 28 rfl) (rmap3_1F1 l Z a0 hw [] b982 b973 kl973 (own_k p2) (own_k p3) (own_k p4) (own_l1 p1) ib_1056 ks_1056 kk_1056 bl_1056 kb_1056 (0 : Int32) (own_l0 p1) (0 : Int32) (own_l0 p1) cn_1059 kn_1059 vsn_1059 T1059.heap n0 Zs1069 F1071 P1059_0 P1059_3 P1059_1 P1059_2 F1072 P1059_5 P1059_6 P1059_4 F1074 gx1057 gx1064 gx1065 nx1066 gx1067 P1056_13 nx1068 (own_pos p2) (own_pos p3) (own_pos p4) (own_nz _ hz1).1 (own_nz _ hz1).2 P1059_8 P1059_9 P1059_10 gx1075 nx1076 nx1077 nx1078 (own_nz _ hz0).1 (own_36 (own_nz _ hz0).2)) (ow hw 30 rfl) (ow hw 4 rfl) F1071 rfl (by rw [hml]; rfl) rfl (hb hby at_74) (lenOf pd___II_I rfl) rfl (by decide) (fun T1070 v1070 Ll1070 X1070 hQ1070 => ?_)
         obtain ⟨vsn_1070, rfl, N1070q, K1070, P1070_0, P1070_1, P1070_2, P1070_3, P1070_4, P1070_5, P1070_6, P1070_7, P1070_8⟩ := hQ1070
         have N1070 := Fr.app N1059 N1070q
         have Zs1079 : n0 ≤ T1070.heap.size := Nat.le_trans Zs1069 K1070.1
         refine own_go (b := (T1070.setTop (mkF m 84 #[iv p0, iv p1, iv p2, iv p3, iv p4, iv (own_l0 p1), iv (own_l1 p1), iv (0 : Int32), rv b973, rv b982] [(.int (0 : Int32)), (.ref b973), (.ref b982)]))) (fun _ k => XS.pop X1070.here hx rfl (hb hby at_77) rfl rfl (XS.aload X1070.here hx rfl (hb hby at_78) rfl rfl (XS.aload X1070.here hx rfl (hb hby at_80) rfl rfl (XS.iload X1070.here hx rfl (hb hby at_82) rfl k)))) ?_
         have F1081 := F1071.keep K1070
         have F1082 := F1072.keep K1070
         have F1083 := F1074.keep K1070 (ninS nx1062 (ninS nx1073 (ninS (Ne.symm nx1066) (ninS nx1076 nin0))))
         refine own_virt (W := 0) X1070 hx hZ hown rfl (ow hw 26 rfl) (ow hw 27 rfl) (ow hw 29 rfl) (ow hw 28 rfl) (rmap3_2N0 l Z a0 hw [] b982 b973 kl973 (own_k p2) (own_k p3) (own_k p4) ib_1056 ks_1056 kk_1056 ((own_l0 p1) + (own_l1 p1)) (0 : Int32) (own_l0 p1) ((own_l0 p1) + (own_l1 p1)) T1070.heap n0 Zs1079 F1081 P1070_0 P1070_3 P1070_1 P1070_2 F1082 P1070_5 P1070_4 F1083 gx1057 gx1064 gx1065 nx1066 (own_pos p2) (own_pos p3) (own_pos p4)) (ow hw 30 rfl) (ow hw 4 rfl) F1081 rfl (by rw [hml]; rfl) rfl (hb hby at_84) (lenOf pd___II_I rfl) rfl (by decide) (fun T1080 v1080 Ll1080 X1080 hQ1080 => ?_)
         obtain ⟨ksn_1080, kkn_1080, rfl, N1080q, K1080, P1080_0, P1080_1, P1080_2, P1080_3, P1080_4, P1080_5⟩ := hQ1080
         have N1080 := Fr.app N1070 N1080q
         have Zs1084 : n0 ≤ T1080.heap.size := Nat.le_trans Zs1079 K1080.1
         refine own_go (b := (T1080.setTop (mkF m 91 #[iv p0, iv p1, iv p2, iv p3, iv p4, iv (own_l0 p1), iv (own_l1 p1), iv (0 : Int32), rv b973, rv b982] [(.int (0 : Int32)), (.ref b982)]))) (fun _ k => XS.pop X1080.here hx rfl (hb hby at_87) rfl rfl (XS.aload X1080.here hx rfl (hb hby at_88) rfl rfl (XS.iconst X1080.here hx rfl (hb hby at_90) k))) ?_
         have F1086 := F1081.keep K1080
         refine own_virt (W := 0) X1080 hx hZ hown rfl (ow hw 68 rfl) (ow hw 69 rfl) (ow hw 71 rfl) (ow hw 70 rfl) (rmlen6_0 l Z a0 hw [] b982 ksn_1080 kkn_1080 (0 : Int32) (own_l0 p1) ((own_l0 p1) + (own_l1 p1)) ((own_l0 p1) + (own_l1 p1)) (0 : Int32) (0 : Int32) T1080.heap n0 Zs1084 P1080_4 P1080_5) (ow hw 72 rfl) (ow hw 4 rfl) F1086 rfl (by rw [hml]; rfl) rfl (hb hby at_91) (lenOf pd__I_I rfl) rfl (by decide) (fun T1085 v1085 Ll1085 X1085 hQ1085 => ?_)
         obtain ⟨rfl, N1085q, eh1085⟩ := hQ1085
         have N1085 := Fr.app N1080 N1085q
         refine own_go (b := (T1085.setTop (mkF m 102 #[iv p0, iv p1, iv p2, iv p3, iv p4, iv (own_l0 p1), iv (own_l1 p1), iv (0 : Int32), rv b973, rv b982] [(.int (1 : Int32)), (.ref b982)]))) (fun _ k => XS.iload X1085.here hx rfl (hb hby at_94) rfl (XS.icmpNo X1085.here hx rfl (hb hby at_96) rfl (teq (Int32.sub_zero _)).2 (XS.aload X1085.here hx rfl (hb hby at_99) rfl rfl (XS.iconst X1085.here hx rfl (hb hby at_101) k)))) ?_
         refine own_virt (W := 0) X1085 hx hZ hown eh1085 (ow hw 68 rfl) (ow hw 69 rfl) (ow hw 71 rfl) (ow hw 70 rfl) (rmlen6_1 l Z a0 hw [] b982 ksn_1080 kkn_1080 (0 : Int32) (own_l0 p1) ((own_l0 p1) + (own_l1 p1)) ((own_l0 p1) + (own_l1 p1)) (0 : Int32) (0 : Int32) T1080.heap n0 Zs1084 P1080_4 P1080_5) (ow hw 72 rfl) (ow hw 4 rfl) F1086 rfl (by rw [hml]; rfl) rfl (hb hby at_102) (lenOf pd__I_I rfl) rfl (by decide) (fun T1087 v1087 Ll1087 X1087 hQ1087 => ?_)
         obtain ⟨rfl, N1087q, eh1087⟩ := hQ1087
         have N1087 := Fr.app N1085 N1087q
         refine own_go (b := (T1087.setTop (mkF m 113 #[iv p0, iv p1, iv p2, iv p3, iv p4, iv (own_l0 p1), iv (own_l1 p1), iv (0 : Int32), rv b973, rv b982] [(.int (2 : Int32)), (.ref b982)]))) (fun _ k => XS.iload X1087.here hx rfl (hb hby at_105) rfl (XS.icmpNo X1087.here hx rfl (hb hby at_107) rfl (teq (own_addsub _ _)).2 (XS.aload X1087.here hx rfl (hb hby at_110) rfl rfl (XS.iconst X1087.here hx rfl (hb hby at_112) k)))) ?_
         refine own_virt (W := 0) X1087 hx hZ hown eh1087 (ow hw 68 rfl) (ow hw 69 rfl) (ow hw 71 rfl) (ow hw 70 rfl) (rmlen6_2 l Z a0 hw [] b982 ksn_1080 kkn_1080 (0 : Int32) (own_l0 p1) ((own_l0 p1) + (own_l1 p1)) ((own_l0 p1) + (own_l1 p1)) (0 : Int32) (0 : Int32) T1080.heap n0 Zs1084 P1080_4 P1080_5) (ow hw 72 rfl) (ow hw 4 rfl) F1086 rfl (by rw [hml]; rfl) rfl (hb hby at_113) (lenOf pd__I_I rfl) rfl (by decide) (fun T1088 v1088 Ll1088 X1088 hQ1088 => ?_)
         obtain ⟨rfl, N1088q, eh1088⟩ := hQ1088
         have N1088 := Fr.app N1087 N1088q
         refine own_go (b := (T1088.setTop (mkF m 126 #[iv p0, iv p1, iv p2, iv p3, iv p4, iv (own_l0 p1), iv (own_l1 p1), iv (0 : Int32), rv b973, rv b982] [(.int (1 : Int32))]))) (fun _ k => XS.iload X1088.here hx rfl (hb hby at_116) rfl (XS.icmpNo X1088.here hx rfl (hb hby at_118) rfl (teq (Int32.sub_self _)).2 (XS.iconst X1088.here hx rfl (hb hby at_121) (XS.goto X1088.here hx rfl (pc0 := 122) (pc' := 126) rfl (hb hby at_122) (by decide) (by decide) k)))) ?_
         obtain ⟨fs, hr, hrun, hended, hW, hsame⟩ := X1088.leave (v := some (.int (1 : Int32))) (fun h => by rw [Bd.returns] at h; cases h)
         exact ⟨_, _, retN X1088 hx (t := .boolean) Bd.returns (by simp) (hb hby at_126) hr, hrun, hended, _, _, rfl, (show Qrm0 Z p0 p1 p2 p3 p4 h0 n0 _ T1088.heap _ from (by rw [eh1088]; exact ⟨rfl, N1088⟩)), ⟨_, rfl⟩, hW, hsame.mono (by decide) (by decide)⟩
       · rw [hk]
         have gx1090 : n0 ≤ b982 := Nat.le_trans Zs981 (Nat.le_of_eq g982.symm)
         refine own_spec (W := 1) X982 hx hZ hown e982 (ow hw 5 rfl) (ow hw 6 rfl) (rmft3 l Z a0 hw [] b982 .null .null h982 n0 Zs983 A982 F982_keys F982_keyStarts F982_labelStarts F982_size gx1090) (ow hw 7 rfl) (ow hw 4 rfl) rfl (by rw [hml]; rfl) rfl (hb hby at_53) (lenOf pd__I_V rfl) rfl rfl (by decide) (fun T1089 v1089 Ll1089 X1089 hQ1089 => ?_)
         obtain ⟨ib_1089, ks_1089, kk_1089, bl_1089, kb_1089, rfl, N1089q, K1089, P1089_0, P1089_1, P1089_2, P1089_3, P1089_4, P1089_5, P1089_6, P1089_7, P1089_8, P1089_9, P1089_10, P1089_11, P1089_12, P1089_13⟩ := hQ1089
         have N1089 := Fr.app N980 N1089q
         have Zs1091 : n0 ≤ T1089.heap.size := Nat.le_trans Zs983 K1089.1
         refine own_go (b := (T1089.setTop (mkF m 64 #[iv p0, iv p1, iv p2, iv p3, iv p4, iv (own_l0 p1), iv (own_l1 p1), iv (0 : Int32), rv b973, rv b982] [(.int (own_l0 p1)), (.ref b973), (.ref b982)]))) (fun _ k => XS.astore X1089.here hx rfl (hb hby at_56) rfl rfl (l' := #[iv p0, iv p1, iv p2, iv p3, iv p4, iv (own_l0 p1), iv (own_l1 p1), iv (0 : Int32), rv b973, rv b982]) rfl (XS.aload X1089.here hx rfl (hb hby at_58) rfl rfl (XS.aload X1089.here hx rfl (hb hby at_60) rfl rfl (XS.iload X1089.here hx rfl (hb hby at_62) rfl k)))) ?_
         have F1093 := A982.keep K1089
         have F1094 := V980.ext E982
         have nx1095 : b973 ≠ b982 := (own_ne V973.lt (own_tr (own_tr (Keep.of_wr W975).1 (Keep.of_wr W978).1) (Keep.of_wr W980).1) (Nat.le_of_eq g982.symm))
         have F1096 := F1094.keep K1089 (ninS nx1095 nin0)
         have gx1097 : n0 ≤ ib_1089 := Nat.le_trans Zs983 P1089_4
         have gx1098 : n0 ≤ ks_1089 := Nat.le_trans Zs983 P1089_5
         have nx1099 : ks_1089 ≠ b973 := (Ne.symm (own_ne V973.lt (own_tr (own_tr (own_tr (Keep.of_wr W975).1 (Keep.of_wr W978).1) (Keep.of_wr W980).1) E982.1) P1089_5))
         have gx1100 : n0 ≤ bl_1089 := Nat.le_trans Zs983 P1089_6
         have nx1101 : b973 ≠ bl_1089 := (own_ne V973.lt (own_tr (own_tr (own_tr (Keep.of_wr W975).1 (Keep.of_wr W978).1) (Keep.of_wr W980).1) E982.1) P1089_6)
         refine own_virt (W := 0) X1089 hx hZ hown rfl (ow hw 26 rfl) (ow hw 27 rfl) (ow hw 29 rfl) (ow hw 28 rfl) (rmap4_0E1 l Z a0 hw [] b982 b973 kl973 (own_k p2) (own_k p3) (own_k p4) (own_l0 p1) ib_1089 ks_1089 kk_1089 bl_1089 kb_1089 (0 : Int32) (0 : Int32) (0 : Int32) (0 : Int32) T1089.heap n0 Zs1091 F1093 P1089_0 P1089_1 P1089_2 P1089_3 P1089_7 P1089_8 P1089_9 P1089_12 F1096 gx1090 gx1097 gx1098 nx1099 gx1100 P1089_13 nx1101 (own_pos p2) (own_pos p3) (own_pos p4) (own_nz _ hz0).1 (own_nz _ hz0).2 P1089_10 P1089_11) (ow hw 30 rfl) (ow hw 4 rfl) F1093 rfl (by rw [hml]; rfl) rfl (hb hby at_64) (lenOf pd___II_I rfl) rfl (by decide) (fun T1092 v1092 Ll1092 X1092 hQ1092 => ?_)
         obtain ⟨cn_1092, kn_1092, vsn_1092, rfl, N1092q, K1092, P1092_0, P1092_1, P1092_2, P1092_3, P1092_4, P1092_5, P1092_6, P1092_7, P1092_8, P1092_9, P1092_10⟩ := hQ1092
         have N1092 := Fr.app N1089 N1092q
         have Zs1102 : n0 ≤ T1092.heap.size := Nat.le_trans Zs1091 K1092.1
         refine own_go (b := (T1092.setTop (mkF m 74 #[iv p0, iv p1, iv p2, iv p3, iv p4, iv (own_l0 p1), iv (own_l1 p1), iv (0 : Int32), rv b973, rv b982] [(.int (own_l1 p1)), (.ref b973), (.ref b982)]))) (fun _ k => XS.pop X1092.here hx rfl (hb hby at_67) rfl rfl (XS.aload X1092.here hx rfl (hb hby at_68) rfl rfl (XS.aload X1092.here hx rfl (hb hby at_70) rfl rfl (XS.iload X1092.here hx rfl (hb hby at_72) rfl k)))) ?_
         have F1104 := F1093.keep K1092
         have F1105 := P1089_7.keep K1092
         have nx1106 : b973 ≠ ib_1089 := (own_ne V973.lt (own_tr (own_tr (own_tr (Keep.of_wr W975).1 (Keep.of_wr W978).1) (Keep.of_wr W980).1) E982.1) P1089_4)
         have F1107 := F1096.keep K1092 (ninS nx1095 (ninS nx1106 (ninS (Ne.symm nx1099) (ninS nx1101 nin0))))
         have gx1108 : n0 ≤ cn_1092 := Nat.le_trans Zs1091 P1092_7
         have nx1109 : b973 ≠ cn_1092 := (own_ne V973.lt (own_tr (own_tr (own_tr (own_tr (Keep.of_wr W975).1 (Keep.of_wr W978).1) (Keep.of_wr W980).1) E982.1) K1089.1) P1092_7)
         have nx1110 : bl_1089 ≠ cn_1092 := (own_ne P1089_10.lt (Nat.le_refl _) P1092_7)
         have nx1111 : ks_1089 ≠ cn_1092 := (own_ne P1089_12.lt (Nat.le_refl _) P1092_7)
         refine own_virt (W := 0) X1092 hx hZ hown rfl (ow hw 26 rfl) (ow hw 27 rfl) (ow hw 29 rfl) (ow hw 28 rfl) (rmap4_1F1 l Z a0 hw [] b982 b973 kl973 (own_k p2) (own_k p3) (own_k p4) (own_l1 p1) ib_1089 ks_1089 kk_1089 bl_1089 kb_1089 (0 : Int32) (own_l0 p1) (0 : Int32) (0 : Int32) (own_l0 p1) cn_1092 kn_1092 vsn_1092 T1092.heap n0 Zs1102 F1104 P1092_0 P1092_3 P1092_1 P1092_2 F1105 P1092_5 P1092_6 P1092_4 F1107 gx1090 gx1097 gx1098 nx1099 gx1100 P1089_13 nx1101 (own_pos p2) (own_pos p3) (own_pos p4) (own_nz _ hz1).1 (own_nz _ hz1).2 P1092_8 P1092_9 P1092_10 gx1108 nx1109 nx1110 nx1111 (own_nz _ hz0).1 (own_36 (own_nz _ hz0).2)) (ow hw 30 rfl) (ow hw 4 rfl) F1104 rfl (by rw [hml]; rfl) rfl (hb hby at_74) (lenOf pd___II_I rfl) rfl (by decide) (fun T1103 v1103 Ll1103 X1103 hQ1103 => ?_)
         obtain ⟨vsn_1103, rfl, N1103q, K1103, P1103_0, P1103_1, P1103_2, P1103_3, P1103_4, P1103_5, P1103_6, P1103_7, P1103_8⟩ := hQ1103
         have N1103 := Fr.app N1092 N1103q
         have Zs1112 : n0 ≤ T1103.heap.size := Nat.le_trans Zs1102 K1103.1
         refine own_go (b := (T1103.setTop (mkF m 84 #[iv p0, iv p1, iv p2, iv p3, iv p4, iv (own_l0 p1), iv (own_l1 p1), iv (0 : Int32), rv b973, rv b982] [(.int (0 : Int32)), (.ref b973), (.ref b982)]))) (fun _ k => XS.pop X1103.here hx rfl (hb hby at_77) rfl rfl (XS.aload X1103.here hx rfl (hb hby at_78) rfl rfl (XS.aload X1103.here hx rfl (hb hby at_80) rfl rfl (XS.iload X1103.here hx rfl (hb hby at_82) rfl k)))) ?_
         have F1114 := F1104.keep K1103
         have F1115 := F1105.keep K1103
         have F1116 := F1107.keep K1103 (ninS nx1095 (ninS nx1106 (ninS (Ne.symm nx1099) (ninS nx1109 nin0))))
         refine own_virt (W := 0) X1103 hx hZ hown rfl (ow hw 26 rfl) (ow hw 27 rfl) (ow hw 29 rfl) (ow hw 28 rfl) (rmap4_2N0 l Z a0 hw [] b982 b973 kl973 (own_k p2) (own_k p3) (own_k p4) ib_1089 ks_1089 kk_1089 ((own_l0 p1) + (own_l1 p1)) (0 : Int32) (own_l0 p1) ((own_l0 p1) + (own_l1 p1)) (0 : Int32) T1103.heap n0 Zs1112 F1114 P1103_0 P1103_3 P1103_1 P1103_2 F1115 P1103_5 P1103_4 F1116 gx1090 gx1097 gx1098 nx1099 (own_pos p2) (own_pos p3) (own_pos p4)) (ow hw 30 rfl) (ow hw 4 rfl) F1114 rfl (by rw [hml]; rfl) rfl (hb hby at_84) (lenOf pd___II_I rfl) rfl (by decide) (fun T1113 v1113 Ll1113 X1113 hQ1113 => ?_)
         obtain ⟨rfl, N1113q, K1113, P1113_0, P1113_1, P1113_2, P1113_3, P1113_4⟩ := hQ1113
         have N1113 := Fr.app N1103 N1113q
         have Zs1117 : n0 ≤ T1113.heap.size := Nat.le_trans Zs1112 K1113.1
         refine own_go (b := (T1113.setTop (mkF m 91 #[iv p0, iv p1, iv p2, iv p3, iv p4, iv (own_l0 p1), iv (own_l1 p1), iv (0 : Int32), rv b973, rv b982] [(.int (0 : Int32)), (.ref b982)]))) (fun _ k => XS.pop X1113.here hx rfl (hb hby at_87) rfl rfl (XS.aload X1113.here hx rfl (hb hby at_88) rfl rfl (XS.iconst X1113.here hx rfl (hb hby at_90) k))) ?_
         have F1119 := F1114.keep K1113
         refine own_virt (W := 0) X1113 hx hZ hown rfl (ow hw 68 rfl) (ow hw 69 rfl) (ow hw 71 rfl) (ow hw 70 rfl) (rmlen4_0 l Z a0 hw [] b982 ks_1089 kk_1089 (0 : Int32) (own_l0 p1) ((own_l0 p1) + (own_l1 p1)) ((own_l0 p1) + (own_l1 p1)) T1113.heap n0 Zs1117 P1113_3 P1113_4) (ow hw 72 rfl) (ow hw 4 rfl) F1119 rfl (by rw [hml]; rfl) rfl (hb hby at_91) (lenOf pd__I_I rfl) rfl (by decide) (fun T1118 v1118 Ll1118 X1118 hQ1118 => ?_)
         obtain ⟨rfl, N1118q, eh1118⟩ := hQ1118
         have N1118 := Fr.app N1113 N1118q
         refine own_go (b := (T1118.setTop (mkF m 102 #[iv p0, iv p1, iv p2, iv p3, iv p4, iv (own_l0 p1), iv (own_l1 p1), iv (0 : Int32), rv b973, rv b982] [(.int (1 : Int32)), (.ref b982)]))) (fun _ k => XS.iload X1118.here hx rfl (hb hby at_94) rfl (XS.icmpNo X1118.here hx rfl (hb hby at_96) rfl (teq (Int32.sub_zero _)).2 (XS.aload X1118.here hx rfl (hb hby at_99) rfl rfl (XS.iconst X1118.here hx rfl (hb hby at_101) k)))) ?_
         refine own_virt (W := 0) X1118 hx hZ hown eh1118 (ow hw 68 rfl) (ow hw 69 rfl) (ow hw 71 rfl) (ow hw 70 rfl) (rmlen4_1 l Z a0 hw [] b982 ks_1089 kk_1089 (0 : Int32) (own_l0 p1) ((own_l0 p1) + (own_l1 p1)) ((own_l0 p1) + (own_l1 p1)) T1113.heap n0 Zs1117 P1113_3 P1113_4) (ow hw 72 rfl) (ow hw 4 rfl) F1119 rfl (by rw [hml]; rfl) rfl (hb hby at_102) (lenOf pd__I_I rfl) rfl (by decide) (fun T1120 v1120 Ll1120 X1120 hQ1120 => ?_)
         obtain ⟨rfl, N1120q, eh1120⟩ := hQ1120
         have N1120 := Fr.app N1118 N1120q
         refine own_go (b := (T1120.setTop (mkF m 113 #[iv p0, iv p1, iv p2, iv p3, iv p4, iv (own_l0 p1), iv (own_l1 p1), iv (0 : Int32), rv b973, rv b982] [(.int (2 : Int32)), (.ref b982)]))) (fun _ k => XS.iload X1120.here hx rfl (hb hby at_105) rfl (XS.icmpNo X1120.here hx rfl (hb hby at_107) rfl (teq (own_addsub _ _)).2 (XS.aload X1120.here hx rfl (hb hby at_110) rfl rfl (XS.iconst X1120.here hx rfl (hb hby at_112) k)))) ?_
         refine own_virt (W := 0) X1120 hx hZ hown eh1120 (ow hw 68 rfl) (ow hw 69 rfl) (ow hw 71 rfl) (ow hw 70 rfl) (rmlen4_2 l Z a0 hw [] b982 ks_1089 kk_1089 (0 : Int32) (own_l0 p1) ((own_l0 p1) + (own_l1 p1)) ((own_l0 p1) + (own_l1 p1)) T1113.heap n0 Zs1117 P1113_3 P1113_4) (ow hw 72 rfl) (ow hw 4 rfl) F1119 rfl (by rw [hml]; rfl) rfl (hb hby at_113) (lenOf pd__I_I rfl) rfl (by decide) (fun T1121 v1121 Ll1121 X1121 hQ1121 => ?_)
         obtain ⟨rfl, N1121q, eh1121⟩ := hQ1121
         have N1121 := Fr.app N1120 N1121q
         refine own_go (b := (T1121.setTop (mkF m 126 #[iv p0, iv p1, iv p2, iv p3, iv p4, iv (own_l0 p1), iv (own_l1 p1), iv (0 : Int32), rv b973, rv b982] [(.int (1 : Int32))]))) (fun _ k => XS.iload X1121.here hx rfl (hb hby at_116) rfl (XS.icmpNo X1121.here hx rfl (hb hby at_118) rfl (teq (Int32.sub_self _)).2 (XS.iconst X1121.here hx rfl (hb hby at_121) (XS.goto X1121.here hx rfl (pc0 := 122) (pc' := 126) rfl (hb hby at_122) (by decide) (by decide) k)))) ?_
         obtain ⟨fs, hr, hrun, hended, hW, hsame⟩ := X1121.leave (v := some (.int (1 : Int32))) (fun h => by rw [Bd.returns] at h; cases h)
         exact ⟨_, _, retN X1121 hx (t := .boolean) Bd.returns (by simp) (hb hby at_126) hr, hrun, hended, _, _, rfl, (show Qrm0 Z p0 p1 p2 p3 p4 h0 n0 _ T1121.heap _ from (by rw [eh1121]; exact ⟨rfl, N1121⟩)), ⟨_, rfl⟩, hW, hsame.mono (by decide) (by decide)⟩
     · skip
       refine own_go (b := (s₁.setTop (mkF m 20 #[iv p0, iv p1, iv p2, iv p3, iv p4, iv (own_l0 p1), iv (own_l1 p1), iv (own_l2 p1), .unset, .unset] [(.int (3 : Int32))]))) (fun _ k => XS.istore X0.here hx rfl (hb hby at_17) rfl (l' := #[iv p0, iv p1, iv p2, iv p3, iv p4, iv (own_l0 p1), iv (own_l1 p1), iv (own_l2 p1), .unset, .unset]) rfl (XS.iconst X0.here hx rfl (hb hby at_19) k)) ?_
       obtain ⟨T1122, h1122, kl1122, X1122, e1122, E1122, A1122, st1122⟩ := newP X0 hx hZ (ow hw 0 rfl) e0 (g := (mkF m 20 #[iv p0, iv p1, iv p2, iv p3, iv p4, iv (own_l0 p1), iv (own_l1 p1), iv (own_l2 p1), .unset, .unset] [(.int (3 : Int32))])) rfl (hb hby at_20) rfl (by decide) (cap := 3) (by decide) (by decide) (by decide) (by decide)
       obtain ⟨b1122, g1122⟩ : ∃ z, z = h0.size := ⟨_, rfl⟩
       rw [← g1122] at A1122 st1122
       have Zs1123 : n0 ≤ h1122.size := Nat.le_trans Z0 E1122.1
       have V1122 : Arv Z h1122 b1122 kl1122 .int (3 : Int32) [(.int (0 : Int32)), (.int (0 : Int32)), (.int (0 : Int32))] (.int (0 : Int32)) := (Arv.new A1122 (by decide)).pad (pad_rep [] (.int (0 : Int32)) 3)
       refine own_go (b := (T1122.setTop (mkF m 28 #[iv p0, iv p1, iv p2, iv p3, iv p4, iv (own_l0 p1), iv (own_l1 p1), iv (own_l2 p1), .unset, .unset] [(.int (own_k p2)), (.int (0 : Int32)), (.ref b1122), (.ref b1122)]))) (fun _ k => st1122 _ (XS.dup X1122.here hx rfl (hb hby at_22) rfl rfl (XS.iconst X1122.here hx rfl (hb hby at_23) (XS.iloadN X1122.here hx rfl (hb hby at_24) rfl (X1122.ldcInt hx hown (mvT hZ (ow hw 1 rfl)) (g := (mkF m 25 #[iv p0, iv p1, iv p2, iv p3, iv p4, iv (own_l0 p1), iv (own_l1 p1), iv (own_l2 p1), .unset, .unset] [(.int p2), (.int (0 : Int32)), (.ref b1122), (.ref b1122)])) rfl (hb hby at_25) _ (XS.iand X1122.here hx rfl (hb hby at_27) rfl k)))))) ?_
       obtain ⟨cl1124, Ar1124, ql1124, Sz1124, Nn1124, Hl1124, Gl1124⟩ := id V1122
       have hin1124 : ¬ ((0 : Int32) < 0 ∨ cl1124.slots.size ≤ ((0 : Int32)).toNatClampNeg) := inb_of Sz1124 ⟨by decide, by decide⟩
       obtain ⟨T1124, h1124, X1124, e1124, W1124, st1124⟩ := stI X1122 hx hZ e1122 Ar1124 (j := (0 : Int32)) hin1124 (g := (mkF m 28 #[iv p0, iv p1, iv p2, iv p3, iv p4, iv (own_l0 p1), iv (own_l1 p1), iv (own_l2 p1), .unset, .unset] [(.int (own_k p2)), (.int (0 : Int32)), (.ref b1122), (.ref b1122)])) rfl rfl (hb hby at_28)
       have gx1125 : n0 ≤ b1122 := Nat.le_trans Z0 (Nat.le_of_eq g1122.symm)
       have N1124 := Fr.snoc X1124 N0 gx1125
       have Zs1126 : n0 ≤ h1124.size := Nat.le_trans Zs1123 (Keep.of_wr W1124).1
       have V1124 : Arv Z h1124 b1122 kl1122 .int (3 : Int32) [(.int (own_k p2)), (.int (0 : Int32)), (.int (0 : Int32))] (.int (0 : Int32)) := Arv.set Ar1124 ql1124 Sz1124 Nn1124 Hl1124 Gl1124 rfl W1124 0 rfl (Nat.le_of_ble_eq_true rfl)
       refine own_go (b := (T1124.setTop (mkF m 35 #[iv p0, iv p1, iv p2, iv p3, iv p4, iv (own_l0 p1), iv (own_l1 p1), iv (own_l2 p1), .unset, .unset] [(.int (own_k p3)), (.int (1 : Int32)), (.ref b1122), (.ref b1122)]))) (fun _ k => st1124 _ (XS.dup X1124.here hx rfl (hb hby at_29) rfl rfl (XS.iconst X1124.here hx rfl (hb hby at_30) (XS.iloadN X1124.here hx rfl (hb hby at_31) rfl (X1124.ldcInt hx hown (mvT hZ (ow hw 1 rfl)) (g := (mkF m 32 #[iv p0, iv p1, iv p2, iv p3, iv p4, iv (own_l0 p1), iv (own_l1 p1), iv (own_l2 p1), .unset, .unset] [(.int p3), (.int (1 : Int32)), (.ref b1122), (.ref b1122)])) rfl (hb hby at_32) _ (XS.iand X1124.here hx rfl (hb hby at_34) rfl k)))))) ?_
       obtain ⟨cl1127, Ar1127, ql1127, Sz1127, Nn1127, Hl1127, Gl1127⟩ := id V1124
       have hin1127 : ¬ ((1 : Int32) < 0 ∨ cl1127.slots.size ≤ ((1 : Int32)).toNatClampNeg) := inb_of Sz1127 ⟨by decide, by decide⟩
       obtain ⟨T1127, h1127, X1127, e1127, W1127, st1127⟩ := stI X1124 hx hZ e1124 Ar1127 (j := (1 : Int32)) hin1127 (g := (mkF m 35 #[iv p0, iv p1, iv p2, iv p3, iv p4, iv (own_l0 p1), iv (own_l1 p1), iv (own_l2 p1), .unset, .unset] [(.int (own_k p3)), (.int (1 : Int32)), (.ref b1122), (.ref b1122)])) rfl rfl (hb hby at_35)
       have N1127 := Fr.snoc X1127 N1124 gx1125
       have Zs1128 : n0 ≤ h1127.size := Nat.le_trans Zs1126 (Keep.of_wr W1127).1
       have V1127 : Arv Z h1127 b1122 kl1122 .int (3 : Int32) [(.int (own_k p2)), (.int (own_k p3)), (.int (0 : Int32))] (.int (0 : Int32)) := Arv.set Ar1127 ql1127 Sz1127 Nn1127 Hl1127 Gl1127 rfl W1127 1 rfl (Nat.le_of_ble_eq_true rfl)
       refine own_go (b := (T1127.setTop (mkF m 43 #[iv p0, iv p1, iv p2, iv p3, iv p4, iv (own_l0 p1), iv (own_l1 p1), iv (own_l2 p1), .unset, .unset] [(.int (own_k p4)), (.int (2 : Int32)), (.ref b1122), (.ref b1122)]))) (fun _ k => st1127 _ (XS.dup X1127.here hx rfl (hb hby at_36) rfl rfl (XS.iconst X1127.here hx rfl (hb hby at_37) (XS.iload X1127.here hx rfl (hb hby at_38) rfl (X1127.ldcInt hx hown (mvT hZ (ow hw 1 rfl)) (g := (mkF m 40 #[iv p0, iv p1, iv p2, iv p3, iv p4, iv (own_l0 p1), iv (own_l1 p1), iv (own_l2 p1), .unset, .unset] [(.int p4), (.int (2 : Int32)), (.ref b1122), (.ref b1122)])) rfl (hb hby at_40) _ (XS.iand X1127.here hx rfl (hb hby at_42) rfl k)))))) ?_
       obtain ⟨cl1129, Ar1129, ql1129, Sz1129, Nn1129, Hl1129, Gl1129⟩ := id V1127
       have hin1129 : ¬ ((2 : Int32) < 0 ∨ cl1129.slots.size ≤ ((2 : Int32)).toNatClampNeg) := inb_of Sz1129 ⟨by decide, by decide⟩
       obtain ⟨T1129, h1129, X1129, e1129, W1129, st1129⟩ := stI X1127 hx hZ e1127 Ar1129 (j := (2 : Int32)) hin1129 (g := (mkF m 43 #[iv p0, iv p1, iv p2, iv p3, iv p4, iv (own_l0 p1), iv (own_l1 p1), iv (own_l2 p1), .unset, .unset] [(.int (own_k p4)), (.int (2 : Int32)), (.ref b1122), (.ref b1122)])) rfl rfl (hb hby at_43)
       have N1129 := Fr.snoc X1129 N1127 gx1125
       have Zs1130 : n0 ≤ h1129.size := Nat.le_trans Zs1128 (Keep.of_wr W1129).1
       have V1129 : Arv Z h1129 b1122 kl1122 .int (3 : Int32) [(.int (own_k p2)), (.int (own_k p3)), (.int (own_k p4))] (.int (0 : Int32)) := Arv.set Ar1129 ql1129 Sz1129 Nn1129 Hl1129 Gl1129 rfl W1129 2 rfl (Nat.le_of_ble_eq_true rfl)
       refine own_go (b := (T1129.setTop (mkF m 46 #[iv p0, iv p1, iv p2, iv p3, iv p4, iv (own_l0 p1), iv (own_l1 p1), iv (own_l2 p1), rv b1122, .unset] []))) (fun _ k => st1129 _ (XS.astore X1129.here hx rfl (hb hby at_44) rfl rfl (l' := #[iv p0, iv p1, iv p2, iv p3, iv p4, iv (own_l0 p1), iv (own_l1 p1), iv (own_l2 p1), rv b1122, .unset]) rfl k)) ?_
       obtain ⟨T1131, h1131, X1131, e1131, E1131, A1131, D1131, -, st1131⟩ := newO X1129 hx hZ hown (ow hw 2 rfl) (ow hw 3 rfl) (ow hw 4 rfl) e1129 (g := (mkF m 46 #[iv p0, iv p1, iv p2, iv p3, iv p4, iv (own_l0 p1), iv (own_l1 p1), iv (own_l2 p1), rv b1122, .unset] [])) rfl (hb hby at_46) (by decide) (by decide)
       obtain ⟨b1131, g1131⟩ : ∃ z, z = h1129.size := ⟨_, rfl⟩
       rw [← g1131] at A1131 D1131 st1131
       have Zs1132 : n0 ≤ h1131.size := Nat.le_trans Zs1130 E1131.1
       have F1131_keys : Fld Z h1131 b1131 cs0 "keys" "Lcom/example/arcwright/arcwright/parser/IntBlocks;" .null := D1131 (Or.inr (ow hw 23 rfl)) (ty := (.object cs1)) (by decide)
       have F1131_keyStarts : Fld Z h1131 b1131 cs0 "keyStarts" "[I" .null := D1131 (Or.inl (ow hw 25 rfl)) (ty := (.array .int)) (by decide)
       have F1131_labelStarts : Fld Z h1131 b1131 cs0 "labelStarts" "[I" .null := D1131 (Or.inl (ow hw 32 rfl)) (ty := (.array .int)) (by decide)
       have F1131_size : Fld Z h1131 b1131 cs0 "size" "I" (.int (0 : Int32)) := D1131 (Or.inl (ow hw 34 rfl)) (ty := .int) (by decide)
       refine own_go (b := (T1131.setTop (mkF m 53 #[iv p0, iv p1, iv p2, iv p3, iv p4, iv (own_l0 p1), iv (own_l1 p1), iv (own_l2 p1), rv b1122, .unset] [(.int (p0 &&& (3 : Int32))), (.ref b1131), (.ref b1131)]))) (fun _ k => st1131 _ (XS.dup X1131.here hx rfl (hb hby at_49) rfl rfl (XS.iloadN X1131.here hx rfl (hb hby at_50) rfl (XS.iconst X1131.here hx rfl (hb hby at_51) (XS.iand X1131.here hx rfl (hb hby at_52) rfl k))))) ?_
       rcases own_and3 p0 with hk | hk | hk | hk
       · rw [hk]
         have gx1134 : n0 ≤ b1131 := Nat.le_trans Zs1130 (Nat.le_of_eq g1131.symm)
         refine own_spec (W := 1) X1131 hx hZ hown e1131 (ow hw 5 rfl) (ow hw 6 rfl) (rmft0 l Z a0 hw [] b1131 .null .null h1131 n0 Zs1132 A1131 F1131_keys F1131_keyStarts F1131_labelStarts F1131_size gx1134) (ow hw 7 rfl) (ow hw 4 rfl) rfl (by rw [hml]; rfl) rfl (hb hby at_53) (lenOf pd__I_V rfl) rfl rfl (by decide) (fun T1133 v1133 Ll1133 X1133 hQ1133 => ?_)
         obtain ⟨ib_1133, ks_1133, kk_1133, bl_1133, kb_1133, rfl, N1133q, K1133, P1133_0, P1133_1, P1133_2, P1133_3, P1133_4, P1133_5, P1133_6, P1133_7, P1133_8, P1133_9, P1133_10, P1133_11, P1133_12, P1133_13⟩ := hQ1133
         have N1133 := Fr.app N1129 N1133q
         have Zs1135 : n0 ≤ T1133.heap.size := Nat.le_trans Zs1132 K1133.1
         refine own_go (b := (T1133.setTop (mkF m 64 #[iv p0, iv p1, iv p2, iv p3, iv p4, iv (own_l0 p1), iv (own_l1 p1), iv (own_l2 p1), rv b1122, rv b1131] [(.int (own_l0 p1)), (.ref b1122), (.ref b1131)]))) (fun _ k => XS.astore X1133.here hx rfl (hb hby at_56) rfl rfl (l' := #[iv p0, iv p1, iv p2, iv p3, iv p4, iv (own_l0 p1), iv (own_l1 p1), iv (own_l2 p1), rv b1122, rv b1131]) rfl (XS.aload X1133.here hx rfl (hb hby at_58) rfl rfl (XS.aload X1133.here hx rfl (hb hby at_60) rfl rfl (XS.iload X1133.here hx rfl (hb hby at_62) rfl k)))) ?_
         have F1137 := A1131.keep K1133
         have F1138 := V1129.ext E1131
         have nx1139 : b1122 ≠ b1131 := (own_ne V1122.lt (own_tr (own_tr (Keep.of_wr W1124).1 (Keep.of_wr W1127).1) (Keep.of_wr W1129).1) (Nat.le_of_eq g1131.symm))
         have F1140 := F1138.keep K1133 (ninS nx1139 nin0)
         have gx1141 : n0 ≤ ib_1133 := Nat.le_trans Zs1132 P1133_4
         have gx1142 : n0 ≤ ks_1133 := Nat.le_trans Zs1132 P1133_5
         have nx1143 : ks_1133 ≠ b1122 := (Ne.symm (own_ne V1122.lt (own_tr (own_tr (own_tr (Keep.of_wr W1124).1 (Keep.of_wr W1127).1) (Keep.of_wr W1129).1) E1131.1) P1133_5))
         have gx1144 : n0 ≤ bl_1133 := Nat.le_trans Zs1132 P1133_6
         have nx1145 : b1122 ≠ bl_1133 := (own_ne V1122.lt (own_tr (own_tr (own_tr (Keep.of_wr W1124).1 (Keep.of_wr W1127).1) (Keep.of_wr W1129).1) E1131.1) P1133_6)
         refine own_virt (W := 0) X1133 hx hZ hown rfl (ow hw 26 rfl) (ow hw 27 rfl) (ow hw 29 rfl) (ow hw 28 rfl) (rmap1_0E1 l Z a0 hw [] b1131 b1122 kl1122 (own_k p2) (own_k p3) (own_k p4) (own_l0 p1) ib_1133 ks_1133 kk_1133 bl_1133 kb_1133 (0 : Int32) T1133.heap n0 Zs1135 F1137 P1133_0 P1133_1 P1133_2 P1133_3 P1133_7 P1133_8 P1133_9 P1133_12 F1140 gx1134 gx1141 gx1142 nx1143 gx1144 P1133_13 nx1145 (own_pos p2) (own_pos p3) (own_pos p4) (own_nz _ hz0).1 (own_nz _ hz0).2 P1133_10 P1133_11) (ow hw 30 rfl) (ow hw 4 rfl) F1137 rfl (by rw [hml]; rfl) rfl (hb hby at_64) (lenOf pd___II_I rfl) rfl (by decide) (fun T1136 v1136 Ll1136 X1136 hQ1136 => ?_)
         obtain ⟨ksn_1136, kkn_1136, cn_1136, kn_1136, vsn_1136, rfl, N1136q, K1136, P1136_0, P1136_1, P1136_2, P1136_3, P1136_4, P1136_5, P1136_6, P1136_7, P1136_8, P1136_9, P1136_10, P1136_11, P1136_12⟩ := hQ1136
         have N1136 := Fr.app N1133 N1136q
         have Zs1146 : n0 ≤ T1136.heap.size := Nat.le_trans Zs1135 K1136.1
         refine own_go (b := (T1136.setTop (mkF m 74 #[iv p0, iv p1, iv p2, iv p3, iv p4, iv (own_l0 p1), iv (own_l1 p1), iv (own_l2 p1), rv b1122, rv b1131] [(.int (own_l1 p1)), (.ref b1122), (.ref b1131)]))) (fun _ k => XS.pop X1136.here hx rfl (hb hby at_67) rfl rfl (XS.aload X1136.here hx rfl (hb hby at_68) rfl rfl (XS.aload X1136.here hx rfl (hb hby at_70) rfl rfl (XS.iload X1136.here hx rfl (hb hby at_72) rfl k)))) ?_
         have F1148 := F1137.keep K1136
         have F1149 := P1133_7.keep K1136
         have nx1150 : b1122 ≠ ib_1133 := (own_ne V1122.lt (own_tr (own_tr (own_tr (Keep.of_wr W1124).1 (Keep.of_wr W1127).1) (Keep.of_wr W1129).1) E1131.1) P1133_4)
         have F1151 := F1140.keep K1136 (ninS nx1139 (ninS nx1150 (ninS nx1145 nin0)))
         have gx1152 : n0 ≤ ksn_1136 := Nat.le_trans Zs1135 P1136_3
         have nx1153 : ksn_1136 ≠ b1122 := (Ne.symm (own_ne V1122.lt (own_tr (own_tr (own_tr (own_tr (Keep.of_wr W1124).1 (Keep.of_wr W1127).1) (Keep.of_wr W1129).1) E1131.1) K1133.1) P1136_3))
         have nx1154 : ksn_1136 ≠ bl_1133 := (Ne.symm (own_ne P1133_10.lt (Nat.le_refl _) P1136_3))
         have gx1155 : n0 ≤ cn_1136 := Nat.le_trans Zs1135 P1136_8
         have nx1156 : b1122 ≠ cn_1136 := (own_ne V1122.lt (own_tr (own_tr (own_tr (own_tr (Keep.of_wr W1124).1 (Keep.of_wr W1127).1) (Keep.of_wr W1129).1) E1131.1) K1133.1) P1136_8)
         have nx1157 : bl_1133 ≠ cn_1136 := (own_ne P1133_10.lt (Nat.le_refl _) P1136_8)
         refine own_virt (W := 0) X1136 hx hZ hown rfl (ow hw 26 rfl) (ow hw 27 rfl) (ow hw 29 rfl) (ow hw 28 rfl) (rmap2_1F1 l Z a0 hw [] b1131 b1122 kl1122 (own_k p2) (own_k p3) (own_k p4) (own_l1 p1) ib_1133 ksn_1136 kkn_1136 bl_1133 kb_1133 (0 : Int32) (own_l0 p1) (own_l0 p1) cn_1136 kn_1136 vsn_1136 T1136.heap n0 Zs1146 F1148 P1136_0 P1136_4 P1136_1 P1136_2 F1149 P1136_6 P1136_7 P1136_5 F1151 gx1134 gx1141 gx1152 nx1153 gx1144 nx1154 nx1145 (own_pos p2) (own_pos p3) (own_pos p4) (own_nz _ hz1).1 (own_nz _ hz1).2 P1136_9 P1136_10 P1136_11 gx1155 nx1156 nx1157 P1136_12 (own_nz _ hz0).1 (own_36 (own_nz _ hz0).2)) (ow hw 30 rfl) (ow hw 4 rfl) F1148 rfl (by rw [hml]; rfl) rfl (hb hby at_74) (lenOf pd___II_I rfl) rfl (by decide) (fun T1147 v1147 Ll1147 X1147 hQ1147 => ?_)
         obtain ⟨ksn_1147, kkn_1147, vsn_1147, rfl, N1147q, K1147, P1147_0, P1147_1, P1147_2, P1147_3, P1147_4, P1147_5, P1147_6, P1147_7, P1147_8, P1147_9⟩ := hQ1147
         have N1147 := Fr.app N1136 N1147q
         have Zs1158 : n0 ≤ T1147.heap.size := Nat.le_trans Zs1146 K1147.1
         refine own_go (b := (T1147.setTop (mkF m 84 #[iv p0, iv p1, iv p2, iv p3, iv p4, iv (own_l0 p1), iv (own_l1 p1), iv (own_l2 p1), rv b1122, rv b1131] [(.int (own_l2 p1)), (.ref b1122), (.ref b1131)]))) (fun _ k => XS.pop X1147.here hx rfl (hb hby at_77) rfl rfl (XS.aload X1147.here hx rfl (hb hby at_78) rfl rfl (XS.aload X1147.here hx rfl (hb hby at_80) rfl rfl (XS.iload X1147.here hx rfl (hb hby at_82) rfl k)))) ?_
         have F1160 := F1148.keep K1147
         have F1161 := F1149.keep K1147
         have F1162 := F1151.keep K1147 (ninS nx1139 (ninS nx1150 (ninS nx1156 nin0)))
         have gx1163 : n0 ≤ ksn_1147 := Nat.le_trans Zs1146 P1147_3
         have nx1164 : ksn_1147 ≠ b1122 := (Ne.symm (own_ne V1122.lt (own_tr (own_tr (own_tr (own_tr (own_tr (Keep.of_wr W1124).1 (Keep.of_wr W1127).1) (Keep.of_wr W1129).1) E1131.1) K1133.1) K1136.1) P1147_3))
         have nx1165 : ksn_1147 ≠ bl_1133 := (Ne.symm (own_ne P1133_10.lt K1136.1 P1147_3))
         obtain ⟨cn1166, An1166, -⟩ := id P1133_10
         have nx1167 : bl_1133 ≠ ib_1133 := (Ne.symm (ne_arr P1133_7 (ow hw 12 rfl) An1166))
         have nx1168 : bl_1133 ≠ b1131 := (Ne.symm (own_ne A1131.lt (Nat.le_refl _) P1133_6))
         have F1169 := P1136_9.keep K1147 (ninS nx1168 (ninS nx1167 (ninS nx1157 nin0)))
         have nx1170 : ksn_1147 ≠ cn_1136 := (Ne.symm (own_ne P1136_10.lt (Nat.le_refl _) P1147_3))
         refine own_virt (W := 0) X1147 hx hZ hown rfl (ow hw 26 rfl) (ow hw 27 rfl) (ow hw 29 rfl) (ow hw 28 rfl) (rmap4_2F1 l Z a0 hw [] b1131 b1122 kl1122 (own_k p2) (own_k p3) (own_k p4) (own_l2 p1) ib_1133 ksn_1147 kkn_1147 bl_1133 kb_1133 (0 : Int32) (own_l0 p1) ((own_l0 p1) + (own_l1 p1)) (0 : Int32) ((own_l0 p1) + (own_l1 p1)) cn_1136 kn_1136 vsn_1147 T1147.heap n0 Zs1158 F1160 P1147_0 P1147_4 P1147_1 P1147_2 F1161 P1147_6 P1147_7 P1147_5 F1162 gx1134 gx1141 gx1163 nx1164 gx1144 nx1165 nx1145 (own_pos p2) (own_pos p3) (own_pos p4) (own_nz _ hz2).1 (own_nz _ hz2).2 F1169 P1147_8 P1147_9 gx1155 nx1156 nx1157 nx1170 (own_sum (own_nz _ hz0).1 (own_nz _ hz0).2 (own_nz _ hz1).1 (own_nz _ hz1).2).1 (own_sum (own_nz _ hz0).1 (own_nz _ hz0).2 (own_nz _ hz1).1 (own_nz _ hz1).2).2) (ow hw 30 rfl) (ow hw 4 rfl) F1160 rfl (by rw [hml]; rfl) rfl (hb hby at_84) (lenOf pd___II_I rfl) rfl (by decide) (fun T1159 v1159 Ll1159 X1159 hQ1159 => ?_)
         obtain ⟨vsn_1159, rfl, N1159q, K1159, P1159_0, P1159_1, P1159_2, P1159_3, P1159_4, P1159_5, P1159_6, P1159_7, P1159_8⟩ := hQ1159
         have N1159 := Fr.app N1147 N1159q
         have Zs1171 : n0 ≤ T1159.heap.size := Nat.le_trans Zs1158 K1159.1
         refine own_go (b := (T1159.setTop (mkF m 91 #[iv p0, iv p1, iv p2, iv p3, iv p4, iv (own_l0 p1), iv (own_l1 p1), iv (own_l2 p1), rv b1122, rv b1131] [(.int (0 : Int32)), (.ref b1131)]))) (fun _ k => XS.pop X1159.here hx rfl (hb hby at_87) rfl rfl (XS.aload X1159.here hx rfl (hb hby at_88) rfl rfl (XS.iconst X1159.here hx rfl (hb hby at_90) k))) ?_
         have F1173 := F1160.keep K1159
         refine own_virt (W := 0) X1159 hx hZ hown rfl (ow hw 68 rfl) (ow hw 69 rfl) (ow hw 71 rfl) (ow hw 70 rfl) (rmlen4_0 l Z a0 hw [] b1131 ksn_1147 kkn_1147 (0 : Int32) (own_l0 p1) ((own_l0 p1) + (own_l1 p1)) (((own_l0 p1) + (own_l1 p1)) + (own_l2 p1)) T1159.heap n0 Zs1171 P1159_3 P1159_4) (ow hw 72 rfl) (ow hw 4 rfl) F1173 rfl (by rw [hml]; rfl) rfl (hb hby at_91) (lenOf pd__I_I rfl) rfl (by decide) (fun T1172 v1172 Ll1172 X1172 hQ1172 => ?_)
         obtain ⟨rfl, N1172q, eh1172⟩ := hQ1172
         have N1172 := Fr.app N1159 N1172q
         refine own_go (b := (T1172.setTop (mkF m 102 #[iv p0, iv p1, iv p2, iv p3, iv p4, iv (own_l0 p1), iv (own_l1 p1), iv (own_l2 p1), rv b1122, rv b1131] [(.int (1 : Int32)), (.ref b1131)]))) (fun _ k => XS.iload X1172.here hx rfl (hb hby at_94) rfl (XS.icmpNo X1172.here hx rfl (hb hby at_96) rfl (teq (Int32.sub_zero _)).2 (XS.aload X1172.here hx rfl (hb hby at_99) rfl rfl (XS.iconst X1172.here hx rfl (hb hby at_101) k)))) ?_
         refine own_virt (W := 0) X1172 hx hZ hown eh1172 (ow hw 68 rfl) (ow hw 69 rfl) (ow hw 71 rfl) (ow hw 70 rfl) (rmlen4_1 l Z a0 hw [] b1131 ksn_1147 kkn_1147 (0 : Int32) (own_l0 p1) ((own_l0 p1) + (own_l1 p1)) (((own_l0 p1) + (own_l1 p1)) + (own_l2 p1)) T1159.heap n0 Zs1171 P1159_3 P1159_4) (ow hw 72 rfl) (ow hw 4 rfl) F1173 rfl (by rw [hml]; rfl) rfl (hb hby at_102) (lenOf pd__I_I rfl) rfl (by decide) (fun T1174 v1174 Ll1174 X1174 hQ1174 => ?_)
         obtain ⟨rfl, N1174q, eh1174⟩ := hQ1174
         have N1174 := Fr.app N1172 N1174q
         refine own_go (b := (T1174.setTop (mkF m 113 #[iv p0, iv p1, iv p2, iv p3, iv p4, iv (own_l0 p1), iv (own_l1 p1), iv (own_l2 p1), rv b1122, rv b1131] [(.int (2 : Int32)), (.ref b1131)]))) (fun _ k => XS.iload X1174.here hx rfl (hb hby at_105) rfl (XS.icmpNo X1174.here hx rfl (hb hby at_107) rfl (teq (own_addsub _ _)).2 (XS.aload X1174.here hx rfl (hb hby at_110) rfl rfl (XS.iconst X1174.here hx rfl (hb hby at_112) k)))) ?_
         refine own_virt (W := 0) X1174 hx hZ hown eh1174 (ow hw 68 rfl) (ow hw 69 rfl) (ow hw 71 rfl) (ow hw 70 rfl) (rmlen4_2 l Z a0 hw [] b1131 ksn_1147 kkn_1147 (0 : Int32) (own_l0 p1) ((own_l0 p1) + (own_l1 p1)) (((own_l0 p1) + (own_l1 p1)) + (own_l2 p1)) T1159.heap n0 Zs1171 P1159_3 P1159_4) (ow hw 72 rfl) (ow hw 4 rfl) F1173 rfl (by rw [hml]; rfl) rfl (hb hby at_113) (lenOf pd__I_I rfl) rfl (by decide) (fun T1175 v1175 Ll1175 X1175 hQ1175 => ?_)
         obtain ⟨rfl, N1175q, eh1175⟩ := hQ1175
         have N1175 := Fr.app N1174 N1175q
         refine own_go (b := (T1175.setTop (mkF m 126 #[iv p0, iv p1, iv p2, iv p3, iv p4, iv (own_l0 p1), iv (own_l1 p1), iv (own_l2 p1), rv b1122, rv b1131] [(.int (1 : Int32))]))) (fun _ k => XS.iload X1175.here hx rfl (hb hby at_116) rfl (XS.icmpNo X1175.here hx rfl (hb hby at_118) rfl (teq (own_addsub _ _)).2 (XS.iconst X1175.here hx rfl (hb hby at_121) (XS.goto X1175.here hx rfl (pc0 := 122) (pc' := 126) rfl (hb hby at_122) (by decide) (by decide) k)))) ?_
         obtain ⟨fs, hr, hrun, hended, hW, hsame⟩ := X1175.leave (v := some (.int (1 : Int32))) (fun h => by rw [Bd.returns] at h; cases h)
         exact ⟨_, _, retN X1175 hx (t := .boolean) Bd.returns (by simp) (hb hby at_126) hr, hrun, hended, _, _, rfl, (show Qrm0 Z p0 p1 p2 p3 p4 h0 n0 _ T1175.heap _ from (by rw [eh1175]; exact ⟨rfl, N1175⟩)), ⟨_, rfl⟩, hW, hsame.mono (by decide) (by decide)⟩
       · rw [hk]
         have gx1177 : n0 ≤ b1131 := Nat.le_trans Zs1130 (Nat.le_of_eq g1131.symm)
         refine own_spec (W := 1) X1131 hx hZ hown e1131 (ow hw 5 rfl) (ow hw 6 rfl) (rmft1 l Z a0 hw [] b1131 .null .null h1131 n0 Zs1132 A1131 F1131_keys F1131_keyStarts F1131_labelStarts F1131_size gx1177) (ow hw 7 rfl) (ow hw 4 rfl) rfl (by rw [hml]; rfl) rfl (hb hby at_53) (lenOf pd__I_V rfl) rfl rfl (by decide) (fun T1176 v1176 Ll1176 X1176 hQ1176 => ?_)
         obtain ⟨ib_1176, ks_1176, kk_1176, bl_1176, kb_1176, rfl, N1176q, K1176, P1176_0, P1176_1, P1176_2, P1176_3, P1176_4, P1176_5, P1176_6, P1176_7, P1176_8, P1176_9, P1176_10, P1176_11, P1176_12, P1176_13⟩ := hQ1176
         have N1176 := Fr.app N1129 N1176q
         have Zs1178 : n0 ≤ T1176.heap.size := Nat.le_trans Zs1132 K1176.1
         refine own_go (b := (T1176.setTop (mkF m 64 #[iv p0, iv p1, iv p2, iv p3, iv p4, iv (own_l0 p1), iv (own_l1 p1), iv (own_l2 p1), rv b1122, rv b1131] [(.int (own_l0 p1)), (.ref b1122), (.ref b1131)]))) (fun _ k => XS.astore X1176.here hx rfl (hb hby at_56) rfl rfl (l' := #[iv p0, iv p1, iv p2, iv p3, iv p4, iv (own_l0 p1), iv (own_l1 p1), iv (own_l2 p1), rv b1122, rv b1131]) rfl (XS.aload X1176.here hx rfl (hb hby at_58) rfl rfl (XS.aload X1176.here hx rfl (hb hby at_60) rfl rfl (XS.iload X1176.here hx rfl (hb hby at_62) rfl k)))) ?_
         have F1180 := A1131.keep K1176
         have F1181 := V1129.ext E1131
         have nx1182 : b1122 ≠ b1131 := (own_ne V1122.lt (own_tr (own_tr (Keep.of_wr W1124).1 (Keep.of_wr W1127).1) (Keep.of_wr W1129).1) (Nat.le_of_eq g1131.symm))
         have F1183 := F1181.keep K1176 (ninS nx1182 nin0)
         have gx1184 : n0 ≤ ib_1176 := Nat.le_trans Zs1132 P1176_4
         have gx1185 : n0 ≤ ks_1176 := Nat.le_trans Zs1132 P1176_5
         have nx1186 : ks_1176 ≠ b1122 := (Ne.symm (own_ne V1122.lt (own_tr (own_tr (own_tr (Keep.of_wr W1124).1 (Keep.of_wr W1127).1) (Keep.of_wr W1129).1) E1131.1) P1176_5))
         have gx1187 : n0 ≤ bl_1176 := Nat.le_trans Zs1132 P1176_6
         have nx1188 : b1122 ≠ bl_1176 := (own_ne V1122.lt (own_tr (own_tr (own_tr (Keep.of_wr W1124).1 (Keep.of_wr W1127).1) (Keep.of_wr W1129).1) E1131.1) P1176_6)
         refine own_virt (W := 0) X1176 hx hZ hown rfl (ow hw 26 rfl) (ow hw 27 rfl) (ow hw 29 rfl) (ow hw 28 rfl) (rmap2_0E1 l Z a0 hw [] b1131 b1122 kl1122 (own_k p2) (own_k p3) (own_k p4) (own_l0 p1) ib_1176 ks_1176 kk_1176 bl_1176 kb_1176 (0 : Int32) (0 : Int32) T1176.heap n0 Zs1178 F1180 P1176_0 P1176_1 P1176_2 P1176_3 P1176_7 P1176_8 P1176_9 P1176_12 F1183 gx1177 gx1184 gx1185 nx1186 gx1187 P1176_13 nx1188 (own_pos p2) (own_pos p3) (own_pos p4) (own_nz _ hz0).1 (own_nz _ hz0).2 P1176_10 P1176_11) (ow hw 30 rfl) (ow hw 4 rfl) F1180 rfl (by rw [hml]; rfl) rfl (hb hby at_64) (lenOf pd___II_I rfl) rfl (by decide) (fun T1179 v1179 Ll1179 X1179 hQ1179 => ?_)
         obtain ⟨cn_1179, kn_1179, vsn_1179, rfl, N1179q, K1179, P1179_0, P1179_1, P1179_2, P1179_3, P1179_4, P1179_5, P1179_6, P1179_7, P1179_8, P1179_9, P1179_10⟩ := hQ1179
         have N1179 := Fr.app N1176 N1179q
         have Zs1189 : n0 ≤ T1179.heap.size := Nat.le_trans Zs1178 K1179.1
         refine own_go (b := (T1179.setTop (mkF m 74 #[iv p0, iv p1, iv p2, iv p3, iv p4, iv (own_l0 p1), iv (own_l1 p1), iv (own_l2 p1), rv b1122, rv b1131] [(.int (own_l1 p1)), (.ref b1122), (.ref b1131)]))) (fun _ k => XS.pop X1179.here hx rfl (hb hby at_67) rfl rfl (XS.aload X1179.here hx rfl (hb hby at_68) rfl rfl (XS.aload X1179.here hx rfl (hb hby at_70) rfl rfl (XS.iload X1179.here hx rfl (hb hby at_72) rfl k)))) ?_
         have F1191 := F1180.keep K1179
         have F1192 := P1176_7.keep K1179
         have nx1193 : b1122 ≠ ib_1176 := (own_ne V1122.lt (own_tr (own_tr (own_tr (Keep.of_wr W1124).1 (Keep.of_wr W1127).1) (Keep.of_wr W1129).1) E1131.1) P1176_4)
         have F1194 := F1183.keep K1179 (ninS nx1182 (ninS nx1193 (ninS (Ne.symm nx1186) (ninS nx1188 nin0))))
         have gx1195 : n0 ≤ cn_1179 := Nat.le_trans Zs1178 P1179_7
         have nx1196 : b1122 ≠ cn_1179 := (own_ne V1122.lt (own_tr (own_tr (own_tr (own_tr (Keep.of_wr W1124).1 (Keep.of_wr W1127).1) (Keep.of_wr W1129).1) E1131.1) K1176.1) P1179_7)
         have nx1197 : bl_1176 ≠ cn_1179 := (own_ne P1176_10.lt (Nat.le_refl _) P1179_7)
         have nx1198 : ks_1176 ≠ cn_1179 := (own_ne P1176_12.lt (Nat.le_refl _) P1179_7)
         refine own_virt (W := 0) X1179 hx hZ hown rfl (ow hw 26 rfl) (ow hw 27 rfl) (ow hw 29 rfl) (ow hw 28 rfl) (rmap2_1F1 l Z a0 hw [] b1131 b1122 kl1122 (own_k p2) (own_k p3) (own_k p4) (own_l1 p1) ib_1176 ks_1176 kk_1176 bl_1176 kb_1176 (0 : Int32) (own_l0 p1) (own_l0 p1) cn_1179 kn_1179 vsn_1179 T1179.heap n0 Zs1189 F1191 P1179_0 P1179_3 P1179_1 P1179_2 F1192 P1179_5 P1179_6 P1179_4 F1194 gx1177 gx1184 gx1185 nx1186 gx1187 P1176_13 nx1188 (own_pos p2) (own_pos p3) (own_pos p4) (own_nz _ hz1).1 (own_nz _ hz1).2 P1179_8 P1179_9 P1179_10 gx1195 nx1196 nx1197 nx1198 (own_nz _ hz0).1 (own_36 (own_nz _ hz0).2)) (ow hw 30 rfl) (ow hw 4 rfl) F1191 rfl (by rw [hml]; rfl) rfl (hb hby at_74) (lenOf pd___II_I rfl) rfl (by decide) (fun T1190 v1190 Ll1190 X1190 hQ1190 => ?_)
         obtain ⟨ksn_1190, kkn_1190, vsn_1190, rfl, N1190q, K1190, P1190_0, P1190_1, P1190_2, P1190_3, P1190_4, P1190_5, P1190_6, P1190_7, P1190_8, P1190_9⟩ := hQ1190
         have N1190 := Fr.app N1179 N1190q
         have Zs1199 : n0 ≤ T1190.heap.size := Nat.le_trans Zs1189 K1190.1
         refine own_go (b := (T1190.setTop (mkF m 84 #[iv p0, iv p1, iv p2, iv p3, iv p4, iv (own_l0 p1), iv (own_l1 p1), iv (own_l2 p1), rv b1122, rv b1131] [(.int (own_l2 p1)), (.ref b1122), (.ref b1131)]))) (fun _ k => XS.pop X1190.here hx rfl (hb hby at_77) rfl rfl (XS.aload X1190.here hx rfl (hb hby at_78) rfl rfl (XS.aload X1190.here hx rfl (hb hby at_80) rfl rfl (XS.iload X1190.here hx rfl (hb hby at_82) rfl k)))) ?_
         have F1201 := F1191.keep K1190
         have F1202 := F1192.keep K1190
         have F1203 := F1194.keep K1190 (ninS nx1182 (ninS nx1193 (ninS nx1196 nin0)))
         have gx1204 : n0 ≤ ksn_1190 := Nat.le_trans Zs1189 P1190_3
         have nx1205 : ksn_1190 ≠ b1122 := (Ne.symm (own_ne V1122.lt (own_tr (own_tr (own_tr (own_tr (own_tr (Keep.of_wr W1124).1 (Keep.of_wr W1127).1) (Keep.of_wr W1129).1) E1131.1) K1176.1) K1179.1) P1190_3))
         have nx1206 : ksn_1190 ≠ bl_1176 := (Ne.symm (own_ne P1176_10.lt K1179.1 P1190_3))
         obtain ⟨cn1207, An1207, -⟩ := id P1176_10
         have nx1208 : bl_1176 ≠ ib_1176 := (Ne.symm (ne_arr P1176_7 (ow hw 12 rfl) An1207))
         have nx1209 : bl_1176 ≠ b1131 := (Ne.symm (own_ne A1131.lt (Nat.le_refl _) P1176_6))
         have F1210 := P1179_8.keep K1190 (ninS nx1209 (ninS nx1208 (ninS nx1197 nin0)))
         have nx1211 : ksn_1190 ≠ cn_1179 := (Ne.symm (own_ne P1179_9.lt (Nat.le_refl _) P1190_3))
         refine own_virt (W := 0) X1190 hx hZ hown rfl (ow hw 26 rfl) (ow hw 27 rfl) (ow hw 29 rfl) (ow hw 28 rfl) (rmap4_2F1 l Z a0 hw [] b1131 b1122 kl1122 (own_k p2) (own_k p3) (own_k p4) (own_l2 p1) ib_1176 ksn_1190 kkn_1190 bl_1176 kb_1176 (0 : Int32) (own_l0 p1) ((own_l0 p1) + (own_l1 p1)) (0 : Int32) ((own_l0 p1) + (own_l1 p1)) cn_1179 kn_1179 vsn_1190 T1190.heap n0 Zs1199 F1201 P1190_0 P1190_4 P1190_1 P1190_2 F1202 P1190_6 P1190_7 P1190_5 F1203 gx1177 gx1184 gx1204 nx1205 gx1187 nx1206 nx1188 (own_pos p2) (own_pos p3) (own_pos p4) (own_nz _ hz2).1 (own_nz _ hz2).2 F1210 P1190_8 P1190_9 gx1195 nx1196 nx1197 nx1211 (own_sum (own_nz _ hz0).1 (own_nz _ hz0).2 (own_nz _ hz1).1 (own_nz _ hz1).2).1 (own_sum (own_nz _ hz0).1 (own_nz _ hz0).2 (own_nz _ hz1).1 (own_nz _ hz1).2).2) (ow hw 30 rfl) (ow hw 4 rfl) F1201 rfl (by rw [hml]; rfl) rfl (hb hby at_84) (lenOf pd___II_I rfl) rfl (by decide) (fun T1200 v1200 Ll1200 X1200 hQ1200 => ?_)
         obtain ⟨vsn_1200, rfl, N1200q, K1200, P1200_0, P1200_1, P1200_2, P1200_3, P1200_4, P1200_5, P1200_6, P1200_7, P1200_8⟩ := hQ1200
         have N1200 := Fr.app N1190 N1200q
         have Zs1212 : n0 ≤ T1200.heap.size := Nat.le_trans Zs1199 K1200.1
         refine own_go (b := (T1200.setTop (mkF m 91 #[iv p0, iv p1, iv p2, iv p3, iv p4, iv (own_l0 p1), iv (own_l1 p1), iv (own_l2 p1), rv b1122, rv b1131] [(.int (0 : Int32)), (.ref b1131)]))) (fun _ k => XS.pop X1200.here hx rfl (hb hby at_87) rfl rfl (XS.aload X1200.here hx rfl (hb hby at_88) rfl rfl (XS.iconst X1200.here hx rfl (hb hby at_90) k))) ?_
         have F1214 := F1201.keep K1200
         refine own_virt (W := 0) X1200 hx hZ hown rfl (ow hw 68 rfl) (ow hw 69 rfl) (ow hw 71 rfl) (ow hw 70 rfl) (rmlen4_0 l Z a0 hw [] b1131 ksn_1190 kkn_1190 (0 : Int32) (own_l0 p1) ((own_l0 p1) + (own_l1 p1)) (((own_l0 p1) + (own_l1 p1)) + (own_l2 p1)) T1200.heap n0 Zs1212 P1200_3 P1200_4) (ow hw 72 rfl) (ow hw 4 rfl) F1214 rfl (by rw [hml]; rfl) rfl (hb hby at_91) (lenOf pd__I_I rfl) rfl (by decide) (fun T1213 v1213 Ll1213 X1213 hQ1213 => ?_)
         obtain ⟨rfl, N1213q, eh1213⟩ := hQ1213
         have N1213 := Fr.app N1200 N1213q
         refine own_go (b := (T1213.setTop (mkF m 102 #[iv p0, iv p1, iv p2, iv p3, iv p4, iv (own_l0 p1), iv (own_l1 p1), iv (own_l2 p1), rv b1122, rv b1131] [(.int (1 : Int32)), (.ref b1131)]))) (fun _ k => XS.iload X1213.here hx rfl (hb hby at_94) rfl (XS.icmpNo X1213.here hx rfl (hb hby at_96) rfl (teq (Int32.sub_zero _)).2 (XS.aload X1213.here hx rfl (hb hby at_99) rfl rfl (XS.iconst X1213.here hx rfl (hb hby at_101) k)))) ?_
         refine own_virt (W := 0) X1213 hx hZ hown eh1213 (ow hw 68 rfl) (ow hw 69 rfl) (ow hw 71 rfl) (ow hw 70 rfl) (rmlen4_1 l Z a0 hw [] b1131 ksn_1190 kkn_1190 (0 : Int32) (own_l0 p1) ((own_l0 p1) + (own_l1 p1)) (((own_l0 p1) + (own_l1 p1)) + (own_l2 p1)) T1200.heap n0 Zs1212 P1200_3 P1200_4) (ow hw 72 rfl) (ow hw 4 rfl) F1214 rfl (by rw [hml]; rfl) rfl (hb hby at_102) (lenOf pd__I_I rfl) rfl (by decide) (fun T1215 v1215 Ll1215 X1215 hQ1215 => ?_)
         obtain ⟨rfl, N1215q, eh1215⟩ := hQ1215
         have N1215 := Fr.app N1213 N1215q
         refine own_go (b := (T1215.setTop (mkF m 113 #[iv p0, iv p1, iv p2, iv p3, iv p4, iv (own_l0 p1), iv (own_l1 p1), iv (own_l2 p1), rv b1122, rv b1131] [(.int (2 : Int32)), (.ref b1131)]))) (fun _ k => XS.iload X1215.here hx rfl (hb hby at_105) rfl (XS.icmpNo X1215.here hx rfl (hb hby at_107) rfl (teq (own_addsub _ _)).2 (XS.aload X1215.here hx rfl (hb hby at_110) rfl rfl (XS.iconst X1215.here hx rfl (hb hby at_112) k)))) ?_
         refine own_virt (W := 0) X1215 hx hZ hown eh1215 (ow hw 68 rfl) (ow hw 69 rfl) (ow hw 71 rfl) (ow hw 70 rfl) (rmlen4_2 l Z a0 hw [] b1131 ksn_1190 kkn_1190 (0 : Int32) (own_l0 p1) ((own_l0 p1) + (own_l1 p1)) (((own_l0 p1) + (own_l1 p1)) + (own_l2 p1)) T1200.heap n0 Zs1212 P1200_3 P1200_4) (ow hw 72 rfl) (ow hw 4 rfl) F1214 rfl (by rw [hml]; rfl) rfl (hb hby at_113) (lenOf pd__I_I rfl) rfl (by decide) (fun T1216 v1216 Ll1216 X1216 hQ1216 => ?_)
         obtain ⟨rfl, N1216q, eh1216⟩ := hQ1216
         have N1216 := Fr.app N1215 N1216q
         refine own_go (b := (T1216.setTop (mkF m 126 #[iv p0, iv p1, iv p2, iv p3, iv p4, iv (own_l0 p1), iv (own_l1 p1), iv (own_l2 p1), rv b1122, rv b1131] [(.int (1 : Int32))]))) (fun _ k => XS.iload X1216.here hx rfl (hb hby at_116) rfl (XS.icmpNo X1216.here hx rfl (hb hby at_118) rfl (teq (own_addsub _ _)).2 (XS.iconst X1216.here hx rfl (hb hby at_121) (XS.goto X1216.here hx rfl (pc0 := 122) (pc' := 126) rfl (hb hby at_122) (by decide) (by decide) k)))) ?_
         obtain ⟨fs, hr, hrun, hended, hW, hsame⟩ := X1216.leave (v := some (.int (1 : Int32))) (fun h => by rw [Bd.returns] at h; cases h)
         exact ⟨_, _, retN X1216 hx (t := .boolean) Bd.returns (by simp) (hb hby at_126) hr, hrun, hended, _, _, rfl, (show Qrm0 Z p0 p1 p2 p3 p4 h0 n0 _ T1216.heap _ from (by rw [eh1216]; exact ⟨rfl, N1216⟩)), ⟨_, rfl⟩, hW, hsame.mono (by decide) (by decide)⟩
       · rw [hk]
         have gx1218 : n0 ≤ b1131 := Nat.le_trans Zs1130 (Nat.le_of_eq g1131.symm)
         refine own_spec (W := 1) X1131 hx hZ hown e1131 (ow hw 5 rfl) (ow hw 6 rfl) (rmft2 l Z a0 hw [] b1131 .null .null h1131 n0 Zs1132 A1131 F1131_keys F1131_keyStarts F1131_labelStarts F1131_size gx1218) (ow hw 7 rfl) (ow hw 4 rfl) rfl (by rw [hml]; rfl) rfl (hb hby at_53) (lenOf pd__I_V rfl) rfl rfl (by decide) (fun T1217 v1217 Ll1217 X1217 hQ1217 => ?_)
         obtain ⟨ib_1217, ks_1217, kk_1217, bl_1217, kb_1217, rfl, N1217q, K1217, P1217_0, P1217_1, P1217_2, P1217_3, P1217_4, P1217_5, P1217_6, P1217_7, P1217_8, P1217_9, P1217_10, P1217_11, P1217_12, P1217_13⟩ := hQ1217
         have N1217 := Fr.app N1129 N1217q
         have Zs1219 : n0 ≤ T1217.heap.size := Nat.le_trans Zs1132 K1217.1
         refine own_go (b := (T1217.setTop (mkF m 64 #[iv p0, iv p1, iv p2, iv p3, iv p4, iv (own_l0 p1), iv (own_l1 p1), iv (own_l2 p1), rv b1122, rv b1131] [(.int (own_l0 p1)), (.ref b1122), (.ref b1131)]))) (fun _ k => XS.astore X1217.here hx rfl (hb hby at_56) rfl rfl (l' := #[iv p0, iv p1, iv p2, iv p3, iv p4, iv (own_l0 p1), iv (own_l1 p1), iv (own_l2 p1), rv b1122, rv b1131]) rfl (XS.aload X1217.here hx rfl (hb hby at_58) rfl rfl (XS.aload X1217.here hx rfl (hb hby at_60) rfl rfl (XS.iload X1217.here hx rfl (hb hby at_62) rfl k)))) ?_
         have F1221 := A1131.keep K1217
         have F1222 := V1129.ext E1131
         have nx1223 : b1122 ≠ b1131 := (own_ne V1122.lt (own_tr (own_tr (Keep.of_wr W1124).1 (Keep.of_wr W1127).1) (Keep.of_wr W1129).1) (Nat.le_of_eq g1131.symm))
         have F1224 := F1222.keep K1217 (ninS nx1223 nin0)
         have gx1225 : n0 ≤ ib_1217 := Nat.le_trans Zs1132 P1217_4
         have gx1226 : n0 ≤ ks_1217 := Nat.le_trans Zs1132 P1217_5
         have nx1227 : ks_1217 ≠ b1122 := (Ne.symm (own_ne V1122.lt (own_tr (own_tr (own_tr (Keep.of_wr W1124).1 (Keep.of_wr W1127).1) (Keep.of_wr W1129).1) E1131.1) P1217_5))
         have gx1228 : n0 ≤ bl_1217 := Nat.le_trans Zs1132 P1217_6
         have nx1229 : b1122 ≠ bl_1217 := (own_ne V1122.lt (own_tr (own_tr (own_tr (Keep.of_wr W1124).1 (Keep.of_wr W1127).1) (Keep.of_wr W1129).1) E1131.1) P1217_6)
         refine own_virt (W := 0) X1217 hx hZ hown rfl (ow hw 26 rfl) (ow hw 27 rfl) (ow hw 29 rfl) (ow hw 28 rfl) (rmap3_0E1 l Z a0 hw [] b1131 b1122 kl1122 (own_k p2) (own_k p3) (own_k p4) (own_l0 p1) ib_1217 ks_1217 kk_1217 bl_1217 kb_1217 (0 : Int32) (0 : Int32) (0 : Int32) T1217.heap n0 Zs1219 F1221 P1217_0 P1217_1 P1217_2 P1217_3 P1217_7 P1217_8 P1217_9 P1217_12 F1224 gx1218 gx1225 gx1226 nx1227 gx1228 P1217_13 nx1229 (own_pos p2) (own_pos p3) (own_pos p4) (own_nz _ hz0).1 (own_nz _ hz0).2 P1217_10 P1217_11) (ow hw 30 rfl) (ow hw 4 rfl) F1221 rfl (by rw [hml]; rfl) rfl (hb hby at_64) (lenOf pd___II_I rfl) rfl (by decide) (fun T1220 v1220 Ll1220 X1220 hQ1220 => ?_)
         obtain ⟨cn_1220, kn_1220, vsn_1220, rfl, N1220q, K1220, P1220_0, P1220_1, P1220_2, P1220_3, P1220_4, P1220_5, P1220_6, P1220_7, P1220_8, P1220_9, P1220_10⟩ := hQ1220
         have N1220 := Fr.app N1217 N1220q
         have Zs1230 : n0 ≤ T1220.heap.size := Nat.le_trans Zs1219 K1220.1
         refine own_go (b := (T1220.setTop (mkF m 74 #[iv p0, iv p1, iv p2, iv p3, iv p4, iv (own_l0 p1), iv (own_l1 p1), iv (own_l2 p1), rv b1122, rv b1131] [(.int (own_l1 p1)), (.ref b1122), (.ref b1131)]))) (fun _ k => XS.pop X1220.here hx rfl (hb hby at_67) rfl rfl (XS.aload X1220.here hx rfl (hb hby at_68) rfl rfl (XS.aload X1220.here hx rfl (hb hby at_70) rfl rfl (XS.iload X1220.here hx rfl (hb hby at_72) rfl k)))) ?_
         have F1232 := F1221.keep K1220
         have F1233 := P1217_7.keep K1220
         have nx1234 : b1122 ≠ ib_1217 := (own_ne V1122.lt (own_tr (own_tr (own_tr (Keep.of_wr W1124).1 (Keep.of_wr W1127).1) (Keep.of_wr W1129).1) E1131.1) P1217_4)
         have F1235 := F1224.keep K1220 (ninS nx1223 (ninS nx1234 (ninS (Ne.symm nx1227) (ninS nx1229 nin0))))
         have gx1236 : n0 ≤ cn_1220 := Nat.le_trans Zs1219 P1220_7
         have nx1237 : b1122 ≠ cn_1220 := (own_ne V1122.lt (own_tr (own_tr (own_tr (own_tr (Keep.of_wr W1124).1 (Keep.of_wr W1127).1) (Keep.of_wr W1129).1) E1131.1) K1217.1) P1220_7)
         have nx1238 : bl_1217 ≠ cn_1220 := (own_ne P1217_10.lt (Nat.le_refl _) P1220_7)
         have nx1239 : ks_1217 ≠ cn_1220 := (own_ne P1217_12.lt (Nat.le_refl _) P1220_7)
         refine own_virt (W := 0) X1220 hx hZ hown rfl (ow hw 26 rfl) (ow hw 27 rfl) (ow hw 29 rfl) (ow hw 28 rfl) (rmap3_1F1 l Z a0 hw [] b1131 b1122 kl1122 (own_k p2) (own_k p3) (own_k p4) (own_l1 p1) ib_1217 ks_1217 kk_1217 bl_1217 kb_1217 (0 : Int32) (own_l0 p1) (0 : Int32) (own_l0 p1) cn_1220 kn_1220 vsn_1220 T1220.heap n0 Zs1230 F1232 P1220_0 P1220_3 P1220_1 P1220_2 F1233 P1220_5 P1220_6 P1220_4 F1235 gx1218 gx1225 gx1226 nx1227 gx1228 P1217_13 nx1229 (own_pos p2) (own_pos p3) (own_pos p4) (own_nz _ hz1).1 (own_nz _ hz1).2 P1220_8 P1220_9 P1220_10 gx1236 nx1237 nx1238 nx1239 (own_nz _ hz0).1 (own_36 (own_nz _ hz0).2)) (ow hw 30 rfl) (ow hw 4 rfl) F1232 rfl (by rw [hml]; rfl) rfl (hb hby at_74) (lenOf pd___II_I rfl) rfl (by decide) (fun T1231 v1231 Ll1231 X1231 hQ1231 => ?_)
         obtain ⟨vsn_1231, rfl, N1231q, K1231, P1231_0, P1231_1, P1231_2, P1231_3, P1231_4, P1231_5, P1231_6, P1231_7, P1231_8⟩ := hQ1231
         have N1231 := Fr.app N1220 N1231q
         have Zs1240 : n0 ≤ T1231.heap.size := Nat.le_trans Zs1230 K1231.1
         refine own_go (b := (T1231.setTop (mkF m 84 #[iv p0, iv p1, iv p2, iv p3, iv p4, iv (own_l0 p1), iv (own_l1 p1), iv (own_l2 p1), rv b1122, rv b1131] [(.int (own_l2 p1)), (.ref b1122), (.ref b1131)]))) (fun _ k => XS.pop X1231.here hx rfl (hb hby at_77) rfl rfl (XS.aload X1231.here hx rfl (hb hby at_78) rfl rfl (XS.aload X1231.here hx rfl (hb hby at_80) rfl rfl (XS.iload X1231.here hx rfl (hb hby at_82) rfl k)))) ?_
         have F1242 := F1232.keep K1231
         have F1243 := F1233.keep K1231
         have F1244 := F1235.keep K1231 (ninS nx1223 (ninS nx1234 (ninS (Ne.symm nx1227) (ninS nx1237 nin0))))
         obtain ⟨cn1245, An1245, -⟩ := id P1217_10
         have nx1246 : bl_1217 ≠ ib_1217 := (Ne.symm (ne_arr P1217_7 (ow hw 12 rfl) An1245))
         have nx1247 : bl_1217 ≠ b1131 := (Ne.symm (own_ne A1131.lt (Nat.le_refl _) P1217_6))
         have F1248 := P1220_8.keep K1231 (ninS nx1247 (ninS nx1246 (ninS (Ne.symm P1217_13) (ninS nx1238 nin0))))
         refine own_virt (W := 0) X1231 hx hZ hown rfl (ow hw 26 rfl) (ow hw 27 rfl) (ow hw 29 rfl) (ow hw 28 rfl) (rmap3_2F1 l Z a0 hw [] b1131 b1122 kl1122 (own_k p2) (own_k p3) (own_k p4) (own_l2 p1) ib_1217 ks_1217 kk_1217 bl_1217 kb_1217 (0 : Int32) (own_l0 p1) ((own_l0 p1) + (own_l1 p1)) ((own_l0 p1) + (own_l1 p1)) cn_1220 kn_1220 vsn_1231 T1231.heap n0 Zs1240 F1242 P1231_0 P1231_3 P1231_1 P1231_2 F1243 P1231_5 P1231_6 P1231_4 F1244 gx1218 gx1225 gx1226 nx1227 gx1228 P1217_13 nx1229 (own_pos p2) (own_pos p3) (own_pos p4) (own_nz _ hz2).1 (own_nz _ hz2).2 F1248 P1231_7 P1231_8 gx1236 nx1237 nx1238 nx1239 (own_sum (own_nz _ hz0).1 (own_nz _ hz0).2 (own_nz _ hz1).1 (own_nz _ hz1).2).1 (own_sum (own_nz _ hz0).1 (own_nz _ hz0).2 (own_nz _ hz1).1 (own_nz _ hz1).2).2) (ow hw 30 rfl) (ow hw 4 rfl) F1242 rfl (by rw [hml]; rfl) rfl (hb hby at_84) (lenOf pd___II_I rfl) rfl (by decide) (fun T1241 v1241 Ll1241 X1241 hQ1241 => ?_)
         obtain ⟨ksn_1241, kkn_1241, vsn_1241, rfl, N1241q, K1241, P1241_0, P1241_1, P1241_2, P1241_3, P1241_4, P1241_5, P1241_6, P1241_7, P1241_8, P1241_9⟩ := hQ1241
         have N1241 := Fr.app N1231 N1241q
         have Zs1249 : n0 ≤ T1241.heap.size := Nat.le_trans Zs1240 K1241.1
         refine own_go (b := (T1241.setTop (mkF m 91 #[iv p0, iv p1, iv p2, iv p3, iv p4, iv (own_l0 p1), iv (own_l1 p1), iv (own_l2 p1), rv b1122, rv b1131] [(.int (0 : Int32)), (.ref b1131)]))) (fun _ k => XS.pop X1241.here hx rfl (hb hby at_87) rfl rfl (XS.aload X1241.here hx rfl (hb hby at_88) rfl rfl (XS.iconst X1241.here hx rfl (hb hby at_90) k))) ?_
         have F1251 := F1242.keep K1241
         refine own_virt (W := 0) X1241 hx hZ hown rfl (ow hw 68 rfl) (ow hw 69 rfl) (ow hw 71 rfl) (ow hw 70 rfl) (rmlen6_0 l Z a0 hw [] b1131 ksn_1241 kkn_1241 (0 : Int32) (own_l0 p1) ((own_l0 p1) + (own_l1 p1)) (((own_l0 p1) + (own_l1 p1)) + (own_l2 p1)) (0 : Int32) (0 : Int32) T1241.heap n0 Zs1249 P1241_4 P1241_5) (ow hw 72 rfl) (ow hw 4 rfl) F1251 rfl (by rw [hml]; rfl) rfl (hb hby at_91) (lenOf pd__I_I rfl) rfl (by decide) (fun T1250 v1250 Ll1250 X1250 hQ1250 => ?_)
         obtain ⟨rfl, N1250q, eh1250⟩ := hQ1250
         have N1250 := Fr.app N1241 N1250q
         refine own_go (b := (T1250.setTop (mkF m 102 #[iv p0, iv p1, iv p2, iv p3, iv p4, iv (own_l0 p1), iv (own_l1 p1), iv (own_l2 p1), rv b1122, rv b1131] [(.int (1 : Int32)), (.ref b1131)]))) (fun _ k => XS.iload X1250.here hx rfl (hb hby at_94) rfl (XS.icmpNo X1250.here hx rfl (hb hby at_96) rfl (teq (Int32.sub_zero _)).2 (XS.aload X1250.here hx rfl (hb hby at_99) rfl rfl (XS.iconst X1250.here hx rfl (hb hby at_101) k)))) ?_
         refine own_virt (W := 0) X1250 hx hZ hown eh1250 (ow hw 68 rfl) (ow hw 69 rfl) (ow hw 71 rfl) (ow hw 70 rfl) (rmlen6_1 l Z a0 hw [] b1131 ksn_1241 kkn_1241 (0 : Int32) (own_l0 p1) ((own_l0 p1) + (own_l1 p1)) (((own_l0 p1) + (own_l1 p1)) + (own_l2 p1)) (0 : Int32) (0 : Int32) T1241.heap n0 Zs1249 P1241_4 P1241_5) (ow hw 72 rfl) (ow hw 4 rfl) F1251 rfl (by rw [hml]; rfl) rfl (hb hby at_102) (lenOf pd__I_I rfl) rfl (by decide) (fun T1252 v1252 Ll1252 X1252 hQ1252 => ?_)
         obtain ⟨rfl, N1252q, eh1252⟩ := hQ1252
         have N1252 := Fr.app N1250 N1252q
         refine own_go (b := (T1252.setTop (mkF m 113 #[iv p0, iv p1, iv p2, iv p3, iv p4, iv (own_l0 p1), iv (own_l1 p1), iv (own_l2 p1), rv b1122, rv b1131] [(.int (2 : Int32)), (.ref b1131)]))) (fun _ k => XS.iload X1252.here hx rfl (hb hby at_105) rfl (XS.icmpNo X1252.here hx rfl (hb hby at_107) rfl (teq (own_addsub _ _)).2 (XS.aload X1252.here hx rfl (hb hby at_110) rfl rfl (XS.iconst X1252.here hx rfl (hb hby at_112) k)))) ?_
         refine own_virt (W := 0) X1252 hx hZ hown eh1252 (ow hw 68 rfl) (ow hw 69 rfl) (ow hw 71 rfl) (ow hw 70 rfl) (rmlen6_2 l Z a0 hw [] b1131 ksn_1241 kkn_1241 (0 : Int32) (own_l0 p1) ((own_l0 p1) + (own_l1 p1)) (((own_l0 p1) + (own_l1 p1)) + (own_l2 p1)) (0 : Int32) (0 : Int32) T1241.heap n0 Zs1249 P1241_4 P1241_5) (ow hw 72 rfl) (ow hw 4 rfl) F1251 rfl (by rw [hml]; rfl) rfl (hb hby at_113) (lenOf pd__I_I rfl) rfl (by decide) (fun T1253 v1253 Ll1253 X1253 hQ1253 => ?_)
         obtain ⟨rfl, N1253q, eh1253⟩ := hQ1253
         have N1253 := Fr.app N1252 N1253q
         refine own_go (b := (T1253.setTop (mkF m 126 #[iv p0, iv p1, iv p2, iv p3, iv p4, iv (own_l0 p1), iv (own_l1 p1), iv (own_l2 p1), rv b1122, rv b1131] [(.int (1 : Int32))]))) (fun _ k => XS.iload X1253.here hx rfl (hb hby at_116) rfl (XS.icmpNo X1253.here hx rfl (hb hby at_118) rfl (teq (own_addsub _ _)).2 (XS.iconst X1253.here hx rfl (hb hby at_121) (XS.goto X1253.here hx rfl (pc0 := 122) (pc' := 126) rfl (hb hby at_122) (by decide) (by decide) k)))) ?_
         obtain ⟨fs, hr, hrun, hended, hW, hsame⟩ := X1253.leave (v := some (.int (1 : Int32))) (fun h => by rw [Bd.returns] at h; cases h)
         exact ⟨_, _, retN X1253 hx (t := .boolean) Bd.returns (by simp) (hb hby at_126) hr, hrun, hended, _, _, rfl, (show Qrm0 Z p0 p1 p2 p3 p4 h0 n0 _ T1253.heap _ from (by rw [eh1253]; exact ⟨rfl, N1253⟩)), ⟨_, rfl⟩, hW, hsame.mono (by decide) (by decide)⟩
       · rw [hk]
         have gx1255 : n0 ≤ b1131 := Nat.le_trans Zs1130 (Nat.le_of_eq g1131.symm)
         refine own_spec (W := 1) X1131 hx hZ hown e1131 (ow hw 5 rfl) (ow hw 6 rfl) (rmft3 l Z a0 hw [] b1131 .null .null h1131 n0 Zs1132 A1131 F1131_keys F1131_keyStarts F1131_labelStarts F1131_size gx1255) (ow hw 7 rfl) (ow hw 4 rfl) rfl (by rw [hml]; rfl) rfl (hb hby at_53) (lenOf pd__I_V rfl) rfl rfl (by decide) (fun T1254 v1254 Ll1254 X1254 hQ1254 => ?_)
         obtain ⟨ib_1254, ks_1254, kk_1254, bl_1254, kb_1254, rfl, N1254q, K1254, P1254_0, P1254_1, P1254_2, P1254_3, P1254_4, P1254_5, P1254_6, P1254_7, P1254_8, P1254_9, P1254_10, P1254_11, P1254_12, P1254_13⟩ := hQ1254
         have N1254 := Fr.app N1129 N1254q
         have Zs1256 : n0 ≤ T1254.heap.size := Nat.le_trans Zs1132 K1254.1
         refine own_go (b := (T1254.setTop (mkF m 64 #[iv p0, iv p1, iv p2, iv p3, iv p4, iv (own_l0 p1), iv (own_l1 p1), iv (own_l2 p1), rv b1122, rv b1131] [(.int (own_l0 p1)), (.ref b1122), (.ref b1131)]))) (fun _ k => XS.astore X1254.here hx rfl (hb hby at_56) rfl rfl (l' := #[iv p0, iv p1, iv p2, iv p3, iv p4, iv (own_l0 p1), iv (own_l1 p1), iv (own_l2 p1), rv b1122, rv b1131]) rfl (XS.aload X1254.here hx rfl (hb hby at_58) rfl rfl (XS.aload X1254.here hx rfl (hb hby at_60) rfl rfl (XS.iload X1254.here hx rfl (hb hby at_62) rfl k)))) ?_
         have F1258 := A1131.keep K1254
         have F1259 := V1129.ext E1131
         have nx1260 : b1122 ≠ b1131 := (own_ne V1122.lt (own_tr (own_tr (Keep.of_wr W1124).1 (Keep.of_wr W1127).1) (Keep.of_wr W1129).1) (Nat.le_of_eq g1131.symm))
         have F1261 := F1259.keep K1254 (ninS nx1260 nin0)
         have gx1262 : n0 ≤ ib_1254 := Nat.le_trans Zs1132 P1254_4
         have gx1263 : n0 ≤ ks_1254 := Nat.le_trans Zs1132 P1254_5
         have nx1264 : ks_1254 ≠ b1122 := (Ne.symm (own_ne V1122.lt (own_tr (own_tr (own_tr (Keep.of_wr W1124).1 (Keep.of_wr W1127).1) (Keep.of_wr W1129).1) E1131.1) P1254_5))
         have gx1265 : n0 ≤ bl_1254 := Nat.le_trans Zs1132 P1254_6
         have nx1266 : b1122 ≠ bl_1254 := (own_ne V1122.lt (own_tr (own_tr (own_tr (Keep.of_wr W1124).1 (Keep.of_wr W1127).1) (Keep.of_wr W1129).1) E1131.1) P1254_6)
         refine own_virt (W := 0) X1254 hx hZ hown rfl (ow hw 26 rfl) (ow hw 27 rfl) (ow hw 29 rfl) (ow hw 28 rfl) (rmap4_0E1 l Z a0 hw [] b1131 b1122 kl1122 (own_k p2) (own_k p3) (own_k p4) (own_l0 p1) ib_1254 ks_1254 kk_1254 bl_1254 kb_1254 (0 : Int32) (0 : Int32) (0 : Int32) (0 : Int32) T1254.heap n0 Zs1256 F1258 P1254_0 P1254_1 P1254_2 P1254_3 P1254_7 P1254_8 P1254_9 P1254_12 F1261 gx1255 gx1262 gx1263 nx1264 gx1265 P1254_13 nx1266 (own_pos p2) (own_pos p3) (own_pos p4) (own_nz _ hz0).1 (own_nz _ hz0).2 P1254_10 P1254_11) (ow hw 30 rfl) (ow hw 4 rfl) F1258 rfl (by rw [hml]; rfl) rfl (hb hby at_64) (lenOf pd___II_I rfl) rfl (by decide) (fun T1257 v1257 Ll1257 X1257 hQ1257 => ?_)
         obtain ⟨cn_1257, kn_1257, vsn_1257, rfl, N1257q, K1257, P1257_0, P1257_1, P1257_2, P1257_3, P1257_4, P1257_5, P1257_6, P1257_7, P1257_8, P1257_9, P1257_10⟩ := hQ1257
         have N1257 := Fr.app N1254 N1257q
         have Zs1267 : n0 ≤ T1257.heap.size := Nat.le_trans Zs1256 K1257.1
         refine own_go (b := (T1257.setTop (mkF m 74 #[iv p0, iv p1, iv p2, iv p3, iv p4, iv (own_l0 p1), iv (own_l1 p1), iv (own_l2 p1), rv b1122, rv b1131] [(.int (own_l1 p1)), (.ref b1122), (.ref b1131)]))) (fun _ k => XS.pop X1257.here hx rfl (hb hby at_67) rfl rfl (XS.aload X1257.here hx rfl (hb hby at_68) rfl rfl (XS.aload X1257.here hx rfl (hb hby at_70) rfl rfl (XS.iload X1257.here hx rfl (hb hby at_72) rfl k)))) ?_
         have F1269 := F1258.keep K1257
         have F1270 := P1254_7.keep K1257
         have nx1271 : b1122 ≠ ib_1254 := (own_ne V1122.lt (own_tr (own_tr (own_tr (Keep.of_wr W1124).1 (Keep.of_wr W1127).1) (Keep.of_wr W1129).1) E1131.1) P1254_4)
         have F1272 := F1261.keep K1257 (ninS nx1260 (ninS nx1271 (ninS (Ne.symm nx1264) (ninS nx1266 nin0))))
         have gx1273 : n0 ≤ cn_1257 := Nat.le_trans Zs1256 P1257_7
         have nx1274 : b1122 ≠ cn_1257 := (own_ne V1122.lt (own_tr (own_tr (own_tr (own_tr (Keep.of_wr W1124).1 (Keep.of_wr W1127).1) (Keep.of_wr W1129).1) E1131.1) K1254.1) P1257_7)
         have nx1275 : bl_1254 ≠ cn_1257 := (own_ne P1254_10.lt (Nat.le_refl _) P1257_7)
         have nx1276 : ks_1254 ≠ cn_1257 := (own_ne P1254_12.lt (Nat.le_refl _) P1257_7)
         refine own_virt (W := 0) X1257 hx hZ hown rfl (ow hw 26 rfl) (ow hw 27 rfl) (ow hw 29 rfl) (ow hw 28 rfl) (rmap4_1F1 l Z a0 hw [] b1131 b1122 kl1122 (own_k p2) (own_k p3) (own_k p4) (own_l1 p1) ib_1254 ks_1254 kk_1254 bl_1254 kb_1254 (0 : Int32) (own_l0 p1) (0 : Int32) (0 : Int32) (own_l0 p1) cn_1257 kn_1257 vsn_1257 T1257.heap n0 Zs1267 F1269 P1257_0 P1257_3 P1257_1 P1257_2 F1270 P1257_5 P1257_6 P1257_4 F1272 gx1255 gx1262 gx1263 nx1264 gx1265 P1254_13 nx1266 (own_pos p2) (own_pos p3) (own_pos p4) (own_nz _ hz1).1 (own_nz _ hz1).2 P1257_8 P1257_9 P1257_10 gx1273 nx1274 nx1275 nx1276 (own_nz _ hz0).1 (own_36 (own_nz _ hz0).2)) (ow hw 30 rfl) (ow hw 4 rfl) F1269 rfl (by rw [hml]; rfl) rfl (hb hby at_74) (lenOf pd___II_I rfl) rfl (by decide) (fun T1268 v1268 Ll1268 X1268 hQ1268 => ?_)
         obtain ⟨vsn_1268, rfl, N1268q, K1268, P1268_0, P1268_1, P1268_2, P1268_3, P1268_4, P1268_5, P1268_6, P1268_7, P1268_8⟩ := hQ1268
         have N1268 := Fr.app N1257 N1268q
         have Zs1277 : n0 ≤ T1268.heap.size := Nat.le_trans Zs1267 K1268.1
         refine own_go (b := (T1268.setTop (mkF m 84 #[iv p0, iv p1, iv p2, iv p3, iv p4, iv (own_l0 p1), iv (own_l1 p1), iv (own_l2 p1), rv b1122, rv b1131] [(.int (own_l2 p1)), (.ref b1122), (.ref b1131)]))) (fun _ k => XS.pop X1268.here hx rfl (hb hby at_77) rfl rfl (XS.aload X1268.here hx rfl (hb hby at_78) rfl rfl (XS.aload X1268.here hx rfl (hb hby at_80) rfl rfl (XS.iload X1268.here hx rfl (hb hby at_82) rfl k)))) ?_
         have F1279 := F1269.keep K1268
         have F1280 := F1270.keep K1268
         have F1281 := F1272.keep K1268 (ninS nx1260 (ninS nx1271 (ninS (Ne.symm nx1264) (ninS nx1274 nin0))))
         obtain ⟨cn1282, An1282, -⟩ := id P1254_10
         have nx1283 : bl_1254 ≠ ib_1254 := (Ne.symm (ne_arr P1254_7 (ow hw 12 rfl) An1282))
         have nx1284 : bl_1254 ≠ b1131 := (Ne.symm (own_ne A1131.lt (Nat.le_refl _) P1254_6))
         have F1285 := P1257_8.keep K1268 (ninS nx1284 (ninS nx1283 (ninS (Ne.symm P1254_13) (ninS nx1275 nin0))))
         refine own_virt (W := 0) X1268 hx hZ hown rfl (ow hw 26 rfl) (ow hw 27 rfl) (ow hw 29 rfl) (ow hw 28 rfl) (rmap4_2F1 l Z a0 hw [] b1131 b1122 kl1122 (own_k p2) (own_k p3) (own_k p4) (own_l2 p1) ib_1254 ks_1254 kk_1254 bl_1254 kb_1254 (0 : Int32) (own_l0 p1) ((own_l0 p1) + (own_l1 p1)) (0 : Int32) ((own_l0 p1) + (own_l1 p1)) cn_1257 kn_1257 vsn_1268 T1268.heap n0 Zs1277 F1279 P1268_0 P1268_3 P1268_1 P1268_2 F1280 P1268_5 P1268_6 P1268_4 F1281 gx1255 gx1262 gx1263 nx1264 gx1265 P1254_13 nx1266 (own_pos p2) (own_pos p3) (own_pos p4) (own_nz _ hz2).1 (own_nz _ hz2).2 F1285 P1268_7 P1268_8 gx1273 nx1274 nx1275 nx1276 (own_sum (own_nz _ hz0).1 (own_nz _ hz0).2 (own_nz _ hz1).1 (own_nz _ hz1).2).1 (own_sum (own_nz _ hz0).1 (own_nz _ hz0).2 (own_nz _ hz1).1 (own_nz _ hz1).2).2) (ow hw 30 rfl) (ow hw 4 rfl) F1279 rfl (by rw [hml]; rfl) rfl (hb hby at_84) (lenOf pd___II_I rfl) rfl (by decide) (fun T1278 v1278 Ll1278 X1278 hQ1278 => ?_)
         obtain ⟨vsn_1278, rfl, N1278q, K1278, P1278_0, P1278_1, P1278_2, P1278_3, P1278_4, P1278_5, P1278_6, P1278_7, P1278_8⟩ := hQ1278
         have N1278 := Fr.app N1268 N1278q
         have Zs1286 : n0 ≤ T1278.heap.size := Nat.le_trans Zs1277 K1278.1
         refine own_go (b := (T1278.setTop (mkF m 91 #[iv p0, iv p1, iv p2, iv p3, iv p4, iv (own_l0 p1), iv (own_l1 p1), iv (own_l2 p1), rv b1122, rv b1131] [(.int (0 : Int32)), (.ref b1131)]))) (fun _ k => XS.pop X1278.here hx rfl (hb hby at_87) rfl rfl (XS.aload X1278.here hx rfl (hb hby at_88) rfl rfl (XS.iconst X1278.here hx rfl (hb hby at_90) k))) ?_
         have F1288 := F1279.keep K1278
         refine own_virt (W := 0) X1278 hx hZ hown rfl (ow hw 68 rfl) (ow hw 69 rfl) (ow hw 71 rfl) (ow hw 70 rfl) (rmlen4_0 l Z a0 hw [] b1131 ks_1254 kk_1254 (0 : Int32) (own_l0 p1) ((own_l0 p1) + (own_l1 p1)) (((own_l0 p1) + (own_l1 p1)) + (own_l2 p1)) T1278.heap n0 Zs1286 P1278_3 P1278_4) (ow hw 72 rfl) (ow hw 4 rfl) F1288 rfl (by rw [hml]; rfl) rfl (hb hby at_91) (lenOf pd__I_I rfl) rfl (by decide) (fun T1287 v1287 Ll1287 X1287 hQ1287 => ?_)
         obtain ⟨rfl, N1287q, eh1287⟩ := hQ1287
         have N1287 := Fr.app N1278 N1287q
         refine own_go (b := (T1287.setTop (mkF m 102 #[iv p0, iv p1, iv p2, iv p3, iv p4, iv (own_l0 p1), iv (own_l1 p1), iv (own_l2 p1), rv b1122, rv b1131] [(.int (1 : Int32)), (.ref b1131)]))) (fun _ k => XS.iload X1287.here hx rfl (hb hby at_94) rfl (XS.icmpNo X1287.here hx rfl (hb hby at_96) rfl (teq (Int32.sub_zero _)).2 (XS.aload X1287.here hx rfl (hb hby at_99) rfl rfl (XS.iconst X1287.here hx rfl (hb hby at_101) k)))) ?_
         refine own_virt (W := 0) X1287 hx hZ hown eh1287 (ow hw 68 rfl) (ow hw 69 rfl) (ow hw 71 rfl) (ow hw 70 rfl) (rmlen4_1 l Z a0 hw [] b1131 ks_1254 kk_1254 (0 : Int32) (own_l0 p1) ((own_l0 p1) + (own_l1 p1)) (((own_l0 p1) + (own_l1 p1)) + (own_l2 p1)) T1278.heap n0 Zs1286 P1278_3 P1278_4) (ow hw 72 rfl) (ow hw 4 rfl) F1288 rfl (by rw [hml]; rfl) rfl (hb hby at_102) (lenOf pd__I_I rfl) rfl (by decide) (fun T1289 v1289 Ll1289 X1289 hQ1289 => ?_)
         obtain ⟨rfl, N1289q, eh1289⟩ := hQ1289
         have N1289 := Fr.app N1287 N1289q
         refine own_go (b := (T1289.setTop (mkF m 113 #[iv p0, iv p1, iv p2, iv p3, iv p4, iv (own_l0 p1), iv (own_l1 p1), iv (own_l2 p1), rv b1122, rv b1131] [(.int (2 : Int32)), (.ref b1131)]))) (fun _ k => XS.iload X1289.here hx rfl (hb hby at_105) rfl (XS.icmpNo X1289.here hx rfl (hb hby at_107) rfl (teq (own_addsub _ _)).2 (XS.aload X1289.here hx rfl (hb hby at_110) rfl rfl (XS.iconst X1289.here hx rfl (hb hby at_112) k)))) ?_
         refine own_virt (W := 0) X1289 hx hZ hown eh1289 (ow hw 68 rfl) (ow hw 69 rfl) (ow hw 71 rfl) (ow hw 70 rfl) (rmlen4_2 l Z a0 hw [] b1131 ks_1254 kk_1254 (0 : Int32) (own_l0 p1) ((own_l0 p1) + (own_l1 p1)) (((own_l0 p1) + (own_l1 p1)) + (own_l2 p1)) T1278.heap n0 Zs1286 P1278_3 P1278_4) (ow hw 72 rfl) (ow hw 4 rfl) F1288 rfl (by rw [hml]; rfl) rfl (hb hby at_113) (lenOf pd__I_I rfl) rfl (by decide) (fun T1290 v1290 Ll1290 X1290 hQ1290 => ?_)
         obtain ⟨rfl, N1290q, eh1290⟩ := hQ1290
         have N1290 := Fr.app N1289 N1290q
         refine own_go (b := (T1290.setTop (mkF m 126 #[iv p0, iv p1, iv p2, iv p3, iv p4, iv (own_l0 p1), iv (own_l1 p1), iv (own_l2 p1), rv b1122, rv b1131] [(.int (1 : Int32))]))) (fun _ k => XS.iload X1290.here hx rfl (hb hby at_116) rfl (XS.icmpNo X1290.here hx rfl (hb hby at_118) rfl (teq (own_addsub _ _)).2 (XS.iconst X1290.here hx rfl (hb hby at_121) (XS.goto X1290.here hx rfl (pc0 := 122) (pc' := 126) rfl (hb hby at_122) (by decide) (by decide) k)))) ?_
         obtain ⟨fs, hr, hrun, hended, hW, hsame⟩ := X1290.leave (v := some (.int (1 : Int32))) (fun h => by rw [Bd.returns] at h; cases h)
         exact ⟨_, _, retN X1290 hx (t := .boolean) Bd.returns (by simp) (hb hby at_126) hr, hrun, hended, _, _, rfl, (show Qrm0 Z p0 p1 p2 p3 p4 h0 n0 _ T1290.heap _ from (by rw [eh1290]; exact ⟨rfl, N1290⟩)), ⟨_, rfl⟩, hW, hsame.mono (by decide) (by decide)⟩
set_option maxRecDepth 65536 in
set_option maxHeartbeats 40000000 in
theorem comes_1 {Post : Tables → Env → Array Value → State → Outcome → State → Prop} (hpost : ∀ tb e args s v u, (limb_1_1.after args s (.returned v) u = true ∧ limb_1_2.after args s (.returned v) u = true ∧ True) → FrameEnd s (.returned v) u (Jvm.fieldLocs frame_1_writes args s ++ Jvm.arrayLocs frame_1_arrays args s ++ Jvm.staticLocs frame_1_statics s) 24 131264 → Post tb e args s (.returned v) u) :
    ArmFor flags0 classFile x code maxLocals ret World_1 tables_1 room_1 Calls_1 rest_1 Pre_1 Post := by
  intro l hfl _ _ p e ha hc hk s m args below hf hA hF happ hP
  obtain ⟨hcalls, hrest, hpre⟩ := hP
  obtain ⟨-, -, -, hnamed, -, -, -, hat⟩ := (Spec.applies_iff hf).mp happ
  obtain ⟨hg, hn⟩ := and_e (Cond.before_iff.mp (show (Jvm.Cond.and given_1 narrow_1).before args s = true from hpre))
  obtain ⟨gc0, gr0⟩ := and_e hg
  obtain ⟨gc1, gr1⟩ := and_e gr0
  obtain ⟨gc2, gr2⟩ := and_e gr1
  obtain ⟨gc3, gr3⟩ := and_e gr2
  obtain ⟨gc4, gr4⟩ := and_e gr3
  obtain ⟨w0, w1, w2, w3, w4, rfl⟩ : ∃ w0 w1 w2 w3 w4 : Value, args = #[w0, w1, w2, w3, w4] := by
    have hs : args.size = 5 := by simpa [Cond.value, given_1] using gc0
    obtain ⟨L⟩ := args
    match L, hs with
    | [w0, w1, w2, w3, w4], _ => exact ⟨w0, w1, w2, w3, w4, rfl⟩
  have hw := fun d (hd : d ∈ tables_1) => atoms_spec (ws := Jvm.Cond.code x code maxLocals ret :: tables_1) hat d (List.mem_cons_of_mem _ hd)
  have hfit : Fit s := fun {y c} hc i hi => by
    obtain ⟨ha, rfl⟩ := Array.getElem?_eq_some_iff.mp hc
    have q := List.all_eq_true.mp ((Array.all_eq_true_iff_forall_mem.mp hF) _ (Array.getElem_mem ha)) i (List.mem_range.mpr hi)
    simpa [Array.getElem?_eq_getElem hi] using q
  obtain ⟨i0, ei0⟩ := is_v gc1
  obtain rfl : w0 = (.int i0) := Option.some.inj ei0
  obtain ⟨i1, ei1⟩ := is_v gc2
  obtain rfl : w1 = (.int i1) := Option.some.inj ei1
  obtain ⟨i2, ei2⟩ := is_v gc3
  obtain rfl : w2 = (.int i2) := Option.some.inj ei2
  obtain ⟨i3, ei3⟩ := is_v gc4
  obtain rfl : w3 = (.int i3) := Option.some.inj ei3
  obtain ⟨i4, ei4⟩ := is_v gr4
  obtain rfl : w4 = (.int i4) := Option.some.inj ei4
  obtain ⟨n, o, h1, h2, h3, _, L, rfl, ⟨rfl, N⟩, hq⟩ := rm0 l s _ hw tables_1 i0 i1 i2 i3 i4 s.heap s.heap.size (Nat.le_refl _) p e ha hc hk s m _ below hf ((Spec.applies_iff_loose hf).mp happ).1 ⟨rfl, State.Warmed39.refl s, rfl⟩ trivial
  refine ⟨n, _, h1, h2, h3, hpost _ _ _ _ _ _ ⟨Cond.after_iff.mpr rfl, Cond.after_iff.mpr (eq_i res_at (Term.int_eval (1)) rfl), trivial⟩ ⟨hq.1, hq.2.1, (hq.2.2.sift fun y hy => Or.inr (N y hy)).mono (by decide) (by decide)⟩⟩
theorem main_1_1 : Claimed_1_1 := comes_1 fun _ _ _ _ _ _ h hF => ⟨h.1, hF⟩
theorem main_1_2 : Claimed_1_2 := comes_1 fun _ _ _ _ _ _ h hF => ⟨h.2.1, hF⟩
end Jvm.Pilot.@@N@@
namespace Jvm.Pilot.@@N@@
open Jvm Jvm.ClassFile Sem Op Lib Jvm.Free Jvm.Stand Jvm.Pilot.@@N@@.Jvm.D
/-! MADE BY PROGRAM (witnessworld.py) out of the Statement's table words and the real class files: 13 classes; the members and pool entries that the words name. The judged class is class 1, her method 1. -/
namespace start1
open Jvm.ClassFile
def u (s : String) : CpInfo := .utf8 (stringToUtf16 s)
/-- a pool by its gaps: so many unusable entries, then the entry; so many at the end -/
def gap : Nat → List CpInfo → List CpInfo
  | 0, r => r
  | n + 1, r => .unusable :: gap n r
def poolList (es : List (Nat × CpInfo)) (last : Nat) : List CpInfo := es.foldr (fun e r => gap e.1 (e.2 :: r)) (gap last [])
def pool (es : List (Nat × CpInfo)) (last : Nat) : Array CpInfo := ⟨poolList es last⟩
def fileOf (pool : Array CpInfo) (this : Nat) (attrs : Array Attribute := #[]) (ms : Array MethodInfo := #[]) (fl : Nat := 33) (sup : Nat := 0) (ifs : Array Nat := #[]) (fds : Array FieldInfo := #[]) : ClassFile where
  minorVersion := 0
  majorVersion := 65
  constantPool := pool
  accessFlags := fl
  thisClass := this
  superClass := sup
  interfaces := ifs
  fields := fds
  methods := ms
  attributes := attrs
def plain (name : String) (sup : Option ClassId) : Class where
  name := name
  kind := .ordinary
  loader := none
  accessFlags := 33
  super := sup
  interfaces := #[]
  cf := none
  fields := #[]
  methods := #[]
  instanceTypes := #[]
  staticTypes := #[]
  resolved := #[]
  callSites := []
  init := .initialized
  statics := none
  mirror := none

def pool0 : Array CpInfo := pool [(5, u "<init>"), (0, u "()V"), (1, .class_ 10), (1, u "java/lang/Object")] 113

def k0c0 : Code := { maxStack := 0, maxLocals := 1, code := object_method_1_code, exceptionTable := #[], attributes := #[] }
def k0m0 : Method := { name := "<init>", desc := "()V", sig := { parameters := [], returnType := none }, accessFlags := 1, code := some k0c0 }
/-- java/lang/Object -/
def k0 : Class := { plain "java/lang/Object" none with
  accessFlags := 33
  interfaces := #[]
  cf := some (fileOf pool0 8 #[] #[{ accessFlags := 1, nameIndex := 5, descriptorIndex := 6, attributes := #[] }] 33 0 #[] #[])
  fields := #[]
  methods := #[k0m0]
  instanceTypes := #[]
  staticTypes := #[]
  resolved := Array.replicate 124 none
  statics := none }

def pool1 : Array CpInfo := pool [(2, .class_ 4), (1, u "java/lang/Object"), (0, u "<init>"), (0, u "()V"), (0, .integer 2147483647), (0, .class_ 9), (0, u "com/example/arcwright/arcwright/parser/FeatureTable"), (0, .methodref 8 11), (0, .nameAndType 5 12), (0, u "(I)V"), (0, .methodref 8 14), (0, .nameAndType 15 16), (0, u "append"), (0, u "([II)I"), (0, .methodref 8 18), (0, .nameAndType 19 20), (0, u "length"), (0, u "(I)I"), (0, .class_ 22), (0, u "com/example/arcwright/arcwright/parser/FeatureTableLengthPinLaw"), (2, u "law"), (0, u "(IIIII)Z")] 5

def k1m0 : Method := { name := "<init>", desc := "()V", sig := { parameters := [], returnType := none }, accessFlags := 1, code := none }
def k1c1 : Code := { maxStack := 5, maxLocals := 10, code := code, exceptionTable := #[], attributes := #[] }
def k1m1 : Method := { name := "law", desc := "(IIIII)Z", sig := { parameters := [.int, .int, .int, .int, .int], returnType := some .boolean }, accessFlags := 9, code := some k1c1 }
/-- com/example/arcwright/arcwright/parser/FeatureTableLengthPinLaw -/
def k1 : Class := { plain "com/example/arcwright/arcwright/parser/FeatureTableLengthPinLaw" (some 0) with
  accessFlags := 49
  interfaces := #[]
  cf := some (fileOf pool1 21 #[] #[{ accessFlags := 1, nameIndex := 5, descriptorIndex := 6, attributes := #[] }, { accessFlags := 9, nameIndex := 25, descriptorIndex := 26, attributes := #[] }] 49 2 #[] #[])
  fields := #[]
  methods := #[k1m0, k1m1]
  instanceTypes := #[]
  staticTypes := #[]
  resolved := Array.replicate 32 none
  statics := none }

def pool2 : Array CpInfo := pool [(2, .class_ 4), (1, u "com/example/arcwright/arcwright/parser/FeatureTable"), (0, u "<init>"), (0, u "(I)V"), (0, .methodref 8 9), (0, .class_ 10), (0, .nameAndType 5 11), (0, u "java/lang/Object"), (0, u "()V"), (0, .class_ 13), (0, u "com/example/arcwright/arcwright/parser/IntBlocks"), (0, .methodref 12 9), (0, .fieldref 2 16), (0, .nameAndType 17 18), (0, u "keys"), (0, u "Lcom/example/arcwright/arcwright/parser/IntBlocks;"), (0, .fieldref 2 20), (0, .nameAndType 21 22), (0, u "keyStarts"), (0, u "[I"), (0, .fieldref 2 24), (0, .nameAndType 25 22), (0, u "labelStarts"), (14, .fieldref 2 41), (0, .nameAndType 42 43), (0, u "size"), (0, u "I"), (0, .methodref 45 46), (0, .class_ 47), (0, .nameAndType 48 49), (0, u "java/util/Arrays"), (0, u "copyOf"), (0, u "([II)[I"), (0, .methodref 12 51), (0, .nameAndType 52 53), (0, u "add"), (0, u "([III)V"), (0, .methodref 12 55), (0, .nameAndType 42 56), (0, u "()I"), (2, u "length"), (0, u "(I)I"), (13, u "labels"), (11, u "append"), (0, u "([II)I")] 29

def k2m0 : Method := { name := "<init>", desc := "()V", sig := { parameters := [], returnType := none }, accessFlags := 0, code := none }
def k2c1 : Code := { maxStack := 3, maxLocals := 2, code := prog_25_method_2_code, exceptionTable := #[], attributes := #[] }
def k2m1 : Method := { name := "<init>", desc := "(I)V", sig := { parameters := [.int], returnType := none }, accessFlags := 0, code := some k2c1 }
def k2c2 : Code := { maxStack := 4, maxLocals := 4, code := prog_25_method_3_code, exceptionTable := #[], attributes := #[] }
def k2m2 : Method := { name := "append", desc := "([II)I", sig := { parameters := [(.array .int), .int], returnType := some .int }, accessFlags := 0, code := some k2c2 }
def k2c3 : Code := { maxStack := 3, maxLocals := 2, code := prog_25_method_6_code, exceptionTable := #[], attributes := #[] }
def k2m3 : Method := { name := "length", desc := "(I)I", sig := { parameters := [.int], returnType := some .int }, accessFlags := 0, code := some k2c3 }
/-- com/example/arcwright/arcwright/parser/FeatureTable -/
def k2 : Class := { plain "com/example/arcwright/arcwright/parser/FeatureTable" (some 0) with
  accessFlags := 48
  interfaces := #[]
  cf := some (fileOf pool2 2 #[] #[{ accessFlags := 0, nameIndex := 5, descriptorIndex := 11, attributes := #[] }, { accessFlags := 0, nameIndex := 5, descriptorIndex := 6, attributes := #[] }, { accessFlags := 0, nameIndex := 86, descriptorIndex := 87, attributes := #[] }, { accessFlags := 0, nameIndex := 59, descriptorIndex := 60, attributes := #[] }] 48 8 #[] #[{ accessFlags := 18, nameIndex := 17, descriptorIndex := 18, attributes := #[] }, { accessFlags := 2, nameIndex := 21, descriptorIndex := 22, attributes := #[] }, { accessFlags := 2, nameIndex := 42, descriptorIndex := 43, attributes := #[] }, { accessFlags := 2, nameIndex := 25, descriptorIndex := 22, attributes := #[] }, { accessFlags := 2, nameIndex := 74, descriptorIndex := 22, attributes := #[] }])
  fields := #[{ name := "keys", type := (.object "com/example/arcwright/arcwright/parser/IntBlocks"), accessFlags := 18, slot := 0, constantValue := 0 }, { name := "keyStarts", type := (.array .int), accessFlags := 2, slot := 1, constantValue := 0 }, { name := "size", type := .int, accessFlags := 2, slot := 2, constantValue := 0 }, { name := "labelStarts", type := (.array .int), accessFlags := 2, slot := 3, constantValue := 0 }, { name := "labels", type := (.array .int), accessFlags := 2, slot := 4, constantValue := 0 }]
  methods := #[k2m0, k2m1, k2m2, k2m3]
  instanceTypes := #[(.object "com/example/arcwright/arcwright/parser/IntBlocks"), (.array .int), .int, (.array .int), (.array .int)]
  staticTypes := #[]
  resolved := Array.replicate 117 none
  statics := none }

def pool3 : Array CpInfo := pool [(1, .class_ 2), (0, u "com/example/arcwright/arcwright/parser/IntBlocks"), (0, .methodref 4 5), (0, .class_ 6), (0, .nameAndType 7 8), (0, u "java/lang/Object"), (0, u "<init>"), (0, u "()V"), (0, .class_ 10), (0, u "[I"), (0, .fieldref 1 12), (0, .nameAndType 13 14), (0, u "blocks"), (0, u "[[I"), (0, .fieldref 1 16), (0, .nameAndType 17 18), (0, u "size"), (0, u "I"), (0, .integer 65535), (0, .integer 65536), (4, .methodref 1 26), (0, .nameAndType 27 28), (0, u "newBlock"), (0, u "(I)V"), (0, .methodref 30 31), (0, .class_ 32), (0, .nameAndType 33 34), (0, u "java/lang/Math"), (0, u "min"), (0, u "(II)I"), (0, .methodref 36 37), (0, .class_ 38), (0, .nameAndType 39 40), (0, u "java/lang/System"), (0, u "arraycopy"), (0, u "(Ljava/lang/Object;ILjava/lang/Object;II)V"), (7, u "BLOCK_BITS"), (2, u "BLOCK"), (0, u "MASK"), (2, u "()I"), (5, u "add"), (0, u "([III)V")] 4

def k3c0 : Code := { maxStack := 2, maxLocals := 1, code := prog_30_method_1_code, exceptionTable := #[], attributes := #[] }
def k3m0 : Method := { name := "<init>", desc := "()V", sig := { parameters := [], returnType := none }, accessFlags := 0, code := some k3c0 }
def k3c1 : Code := { maxStack := 1, maxLocals := 1, code := prog_30_method_2_code, exceptionTable := #[], attributes := #[] }
def k3m1 : Method := { name := "size", desc := "()I", sig := { parameters := [], returnType := some .int }, accessFlags := 0, code := some k3c1 }
def k3c2 : Code := { maxStack := 5, maxLocals := 7, code := prog_30_method_7_code, exceptionTable := #[], attributes := #[] }
def k3m2 : Method := { name := "add", desc := "([III)V", sig := { parameters := [(.array .int), .int, .int], returnType := none }, accessFlags := 0, code := some k3c2 }
def k3c3 : Code := { maxStack := 4, maxLocals := 2, code := prog_30_method_9_code, exceptionTable := #[], attributes := #[] }
def k3m3 : Method := { name := "newBlock", desc := "(I)V", sig := { parameters := [.int], returnType := none }, accessFlags := 2, code := some k3c3 }
/-- com/example/arcwright/arcwright/parser/IntBlocks -/
def k3 : Class := { plain "com/example/arcwright/arcwright/parser/IntBlocks" (some 0) with
  accessFlags := 48
  interfaces := #[]
  cf := some (fileOf pool3 1 #[] #[{ accessFlags := 0, nameIndex := 7, descriptorIndex := 8, attributes := #[] }, { accessFlags := 0, nameIndex := 17, descriptorIndex := 55, attributes := #[] }, { accessFlags := 0, nameIndex := 61, descriptorIndex := 62, attributes := #[] }, { accessFlags := 2, nameIndex := 27, descriptorIndex := 28, attributes := #[] }] 48 4 #[] #[{ accessFlags := 26, nameIndex := 48, descriptorIndex := 18, attributes := #[] }, { accessFlags := 24, nameIndex := 51, descriptorIndex := 18, attributes := #[] }, { accessFlags := 26, nameIndex := 52, descriptorIndex := 18, attributes := #[] }, { accessFlags := 2, nameIndex := 13, descriptorIndex := 14, attributes := #[] }, { accessFlags := 2, nameIndex := 17, descriptorIndex := 18, attributes := #[] }])
  fields := #[{ name := "BLOCK_BITS", type := .int, accessFlags := 26, slot := 0, constantValue := 0 }, { name := "BLOCK", type := .int, accessFlags := 24, slot := 1, constantValue := 0 }, { name := "MASK", type := .int, accessFlags := 26, slot := 2, constantValue := 0 }, { name := "blocks", type := (.array (.array .int)), accessFlags := 2, slot := 0, constantValue := 0 }, { name := "size", type := .int, accessFlags := 2, slot := 1, constantValue := 0 }]
  methods := #[k3m0, k3m1, k3m2, k3m3]
  instanceTypes := #[(.array (.array .int)), .int]
  staticTypes := #[.int, .int, .int]
  resolved := Array.replicate 67 none
  statics := none }

def pool4 : Array CpInfo := pool [(2, .class_ 4), (1, u "java/lang/Object"), (0, u "<init>"), (0, u "()V"), (7, .class_ 16), (1, u "java/util/Arrays"), (57, .class_ 76), (1, u "java/util/Arrays$NaturalOrder"), (36, .class_ 115), (1, u "java/util/Arrays$LegacyMergeSort"), (1, u "Z"), (32, .methodref 151 152), (0, .class_ 153), (0, .nameAndType 154 155), (0, u "java/lang/System"), (0, u "arraycopy"), (0, u "(Ljava/lang/Object;ILjava/lang/Object;II)V"), (146, u "copyOf"), (1, .methodref 305 306), (0, .class_ 307), (0, .nameAndType 308 309), (0, u "java/lang/Math"), (0, u "min"), (0, u "(II)I"), (65, .class_ 376), (0, u "java/util/Arrays$ArrayList"), (68, u "$assertionsDisabled"), (269, u "MIN_ARRAY_SORT_GRAN"), (0, u "I"), (2, u "INSERTIONSORT_THRESHOLD"), (151, u "([II)[I"), (103, .class_ 976), (0, u "java/util/Arrays$ArrayItr")] 52

def k4m0 : Method := { name := "<init>", desc := "()V", sig := { parameters := [], returnType := none }, accessFlags := 2, code := none }
def k4c1 : Code := { maxStack := 6, maxLocals := 3, code := jdk_65_method_123_code, exceptionTable := #[], attributes := #[] }
def k4m1 : Method := { name := "copyOf", desc := "([II)[I", sig := { parameters := [(.array .int), .int], returnType := some (.array .int) }, accessFlags := 9, code := some k4c1 }
/-- java/util/Arrays -/
def k4 : Class := { plain "java/util/Arrays" (some 0) with
  accessFlags := 49
  interfaces := #[]
  cf := some (fileOf pool4 14 #[.nestMembers #[975, 375, 113, 74]] #[{ accessFlags := 2, nameIndex := 5, descriptorIndex := 6, attributes := #[] }, { accessFlags := 9, nameIndex := 302, descriptorIndex := 871, attributes := #[] }] 49 2 #[] #[{ accessFlags := 26, nameIndex := 715, descriptorIndex := 716, attributes := #[] }, { accessFlags := 26, nameIndex := 719, descriptorIndex := 716, attributes := #[] }, { accessFlags := 4120, nameIndex := 445, descriptorIndex := 117, attributes := #[] }])
  fields := #[{ name := "MIN_ARRAY_SORT_GRAN", type := .int, accessFlags := 26, slot := 0, constantValue := 0 }, { name := "INSERTIONSORT_THRESHOLD", type := .int, accessFlags := 26, slot := 1, constantValue := 0 }, { name := "$assertionsDisabled", type := .boolean, accessFlags := 4120, slot := 2, constantValue := 0 }]
  methods := #[k4m0, k4m1]
  instanceTypes := #[]
  staticTypes := #[.int, .int, .boolean]
  resolved := Array.replicate 1029 none
  statics := none }

def pool5 : Array CpInfo := pool [(1, .class_ 2), (0, u "java/lang/Math"), (1, .class_ 6), (1, u "java/lang/Object"), (0, u "<init>"), (0, u "()V"), (89, .class_ 100), (1, u "java/lang/Math$RandomNumberGeneratorHolder"), (71, u "negativeZeroFloatBits"), (0, u "J"), (2, u "negativeZeroDoubleBits"), (24, u "min"), (43, u "$assertionsDisabled"), (0, u "Z"), (88, u "(II)I"), (2, u "twoToTheDoubleScaleDown"), (0, u "D"), (4, u "twoToTheDoubleScaleUp"), (9, u "E"), (3, u "PI"), (2, u "TAU"), (2, u "DEGREES_TO_RADIANS"), (0, u "RADIANS_TO_DEGREES")] 94

def k5m0 : Method := { name := "<init>", desc := "()V", sig := { parameters := [], returnType := none }, accessFlags := 2, code := none }
def k5c1 : Code := { maxStack := 2, maxLocals := 2, code := jdk_29_method_69_code, exceptionTable := #[], attributes := #[] }
def k5m1 : Method := { name := "min", desc := "(II)I", sig := { parameters := [.int, .int], returnType := some .int }, accessFlags := 9, code := some k5c1 }
/-- java/lang/Math -/
def k5 : Class := { plain "java/lang/Math" (some 0) with
  accessFlags := 49
  interfaces := #[]
  cf := some (fileOf pool5 1 #[.nestMembers #[98]] #[{ accessFlags := 2, nameIndex := 7, descriptorIndex := 8, attributes := #[] }, { accessFlags := 9, nameIndex := 201, descriptorIndex := 335, attributes := #[] }] 49 4 #[] #[{ accessFlags := 25, nameIndex := 354, descriptorIndex := 339, attributes := #[] }, { accessFlags := 25, nameIndex := 358, descriptorIndex := 339, attributes := #[] }, { accessFlags := 25, nameIndex := 361, descriptorIndex := 339, attributes := #[] }, { accessFlags := 26, nameIndex := 364, descriptorIndex := 339, attributes := #[] }, { accessFlags := 26, nameIndex := 365, descriptorIndex := 339, attributes := #[] }, { accessFlags := 26, nameIndex := 172, descriptorIndex := 173, attributes := #[] }, { accessFlags := 26, nameIndex := 176, descriptorIndex := 173, attributes := #[] }, { accessFlags := 8, nameIndex := 344, descriptorIndex := 339, attributes := #[] }, { accessFlags := 8, nameIndex := 338, descriptorIndex := 339, attributes := #[] }, { accessFlags := 4120, nameIndex := 245, descriptorIndex := 246, attributes := #[] }])
  fields := #[{ name := "E", type := .double, accessFlags := 25, slot := 0, constantValue := 0 }, { name := "PI", type := .double, accessFlags := 25, slot := 1, constantValue := 0 }, { name := "TAU", type := .double, accessFlags := 25, slot := 2, constantValue := 0 }, { name := "DEGREES_TO_RADIANS", type := .double, accessFlags := 26, slot := 3, constantValue := 0 }, { name := "RADIANS_TO_DEGREES", type := .double, accessFlags := 26, slot := 4, constantValue := 0 }, { name := "negativeZeroFloatBits", type := .long, accessFlags := 26, slot := 5, constantValue := 0 }, { name := "negativeZeroDoubleBits", type := .long, accessFlags := 26, slot := 6, constantValue := 0 }, { name := "twoToTheDoubleScaleUp", type := .double, accessFlags := 8, slot := 7, constantValue := 0 }, { name := "twoToTheDoubleScaleDown", type := .double, accessFlags := 8, slot := 8, constantValue := 0 }, { name := "$assertionsDisabled", type := .boolean, accessFlags := 4120, slot := 9, constantValue := 0 }]
  methods := #[k5m0, k5m1]
  instanceTypes := #[]
  staticTypes := #[.double, .double, .double, .double, .double, .long, .long, .double, .double, .boolean]
  resolved := Array.replicate 460 none
  statics := none }

def pool6 : Array CpInfo := pool [(2, .class_ 4), (1, u "java/lang/Object"), (0, u "<init>"), (0, u "()V"), (1, .class_ 10), (1, u "java/lang/System"), (0, u "allowSecurityManager"), (0, u "I"), (16, u "cons"), (0, u "Ljava/io/Console;"), (77, .class_ 110), (1, u "java/lang/System$CallersHolder"), (43, u "initialErrStream"), (0, u "Ljava/io/PrintStream;"), (19, u "security"), (0, u "Ljava/lang/SecurityManager;"), (31, .class_ 209), (0, u "java/lang/System$1"), (7, u "props"), (0, u "Ljava/util/Properties;"), (2, u "lineSeparator"), (0, u "Ljava/lang/String;"), (96, .class_ 321), (1, u "java/lang/System$LoggerFinder"), (5, .class_ 328), (0, u "java/lang/System$Logger"), (67, u "err"), (2, u "out"), (91, u "notSupportedJnuEncoding"), (15, u "in"), (17, u "initialIn"), (0, u "Ljava/io/InputStream;"), (35, u "bootLayer"), (0, u "Ljava/lang/ModuleLayer;"), (99, .class_ 664), (0, u "java/lang/System$2"), (9, u "NEVER"), (2, u "MAYBE"), (49, u "arraycopy"), (0, u "(Ljava/lang/Object;ILjava/lang/Object;II)V"), (72, .class_ 802), (0, u "java/lang/System$Logger$Level")] 31

def k6m0 : Method := { name := "<init>", desc := "()V", sig := { parameters := [], returnType := none }, accessFlags := 2, code := none }
def k6m1 : Method := { name := "arraycopy", desc := "(Ljava/lang/Object;ILjava/lang/Object;II)V", sig := { parameters := [(.object "java/lang/Object"), .int, (.object "java/lang/Object"), .int, .int], returnType := none }, accessFlags := 265, code := none }
/-- java/lang/System -/
def k6 : Class := { plain "java/lang/System" (some 0) with
  accessFlags := 49
  interfaces := #[]
  cf := some (fileOf pool6 8 #[.nestMembers #[319, 327, 801, 108, 663, 208]] #[{ accessFlags := 2, nameIndex := 5, descriptorIndex := 6, attributes := #[] }, { accessFlags := 265, nameIndex := 727, descriptorIndex := 728, attributes := #[] }] 49 2 #[] #[{ accessFlags := 25, nameIndex := 507, descriptorIndex := 526, attributes := #[] }, { accessFlags := 25, nameIndex := 399, descriptorIndex := 155, attributes := #[] }, { accessFlags := 25, nameIndex := 396, descriptorIndex := 155, attributes := #[] }, { accessFlags := 10, nameIndex := 525, descriptorIndex := 526, attributes := #[] }, { accessFlags := 26, nameIndex := 674, descriptorIndex := 12, attributes := #[] }, { accessFlags := 26, nameIndex := 677, descriptorIndex := 12, attributes := #[] }, { accessFlags := 10, nameIndex := 11, descriptorIndex := 12, attributes := #[] }, { accessFlags := 74, nameIndex := 175, descriptorIndex := 176, attributes := #[] }, { accessFlags := 10, nameIndex := 491, descriptorIndex := 222, attributes := #[] }, { accessFlags := 74, nameIndex := 29, descriptorIndex := 30, attributes := #[] }, { accessFlags := 74, nameIndex := 154, descriptorIndex := 155, attributes := #[] }, { accessFlags := 10, nameIndex := 217, descriptorIndex := 218, attributes := #[] }, { accessFlags := 10, nameIndex := 221, descriptorIndex := 222, attributes := #[] }, { accessFlags := 8, nameIndex := 562, descriptorIndex := 563, attributes := #[] }])
  fields := #[{ name := "in", type := (.object "java/io/InputStream"), accessFlags := 25, slot := 0, constantValue := 0 }, { name := "out", type := (.object "java/io/PrintStream"), accessFlags := 25, slot := 1, constantValue := 0 }, { name := "err", type := (.object "java/io/PrintStream"), accessFlags := 25, slot := 2, constantValue := 0 }, { name := "initialIn", type := (.object "java/io/InputStream"), accessFlags := 10, slot := 3, constantValue := 0 }, { name := "NEVER", type := .int, accessFlags := 26, slot := 4, constantValue := 0 }, { name := "MAYBE", type := .int, accessFlags := 26, slot := 5, constantValue := 0 }, { name := "allowSecurityManager", type := .int, accessFlags := 10, slot := 6, constantValue := 0 }, { name := "security", type := (.object "java/lang/SecurityManager"), accessFlags := 74, slot := 7, constantValue := 0 }, { name := "notSupportedJnuEncoding", type := (.object "java/lang/String"), accessFlags := 10, slot := 8, constantValue := 0 }, { name := "cons", type := (.object "java/io/Console"), accessFlags := 74, slot := 9, constantValue := 0 }, { name := "initialErrStream", type := (.object "java/io/PrintStream"), accessFlags := 74, slot := 10, constantValue := 0 }, { name := "props", type := (.object "java/util/Properties"), accessFlags := 10, slot := 11, constantValue := 0 }, { name := "lineSeparator", type := (.object "java/lang/String"), accessFlags := 10, slot := 12, constantValue := 0 }, { name := "bootLayer", type := (.object "java/lang/ModuleLayer"), accessFlags := 8, slot := 13, constantValue := 0 }]
  methods := #[k6m0, k6m1]
  instanceTypes := #[]
  staticTypes := #[(.object "java/io/InputStream"), (.object "java/io/PrintStream"), (.object "java/io/PrintStream"), (.object "java/io/InputStream"), .int, .int, .int, (.object "java/lang/SecurityManager"), (.object "java/lang/String"), (.object "java/io/Console"), (.object "java/io/PrintStream"), (.object "java/util/Properties"), (.object "java/lang/String"), (.object "java/lang/ModuleLayer")]
  resolved := Array.replicate 834 none
  statics := none }

def pool7 : Array CpInfo := pool [(1, u "java/lang/Cloneable"), (0, .class_ 1), (0, u "java/lang/Object"), (0, .class_ 3)] 3

/-- java/lang/Cloneable -/
def k7 : Class := { plain "java/lang/Cloneable" (some 0) with
  accessFlags := 1537
  interfaces := #[]
  cf := some (fileOf pool7 2 #[] #[] 1537 4 #[] #[])
  fields := #[]
  methods := #[]
  instanceTypes := #[]
  staticTypes := #[]
  resolved := Array.replicate 8 none
  statics := none }

def pool8 : Array CpInfo := pool [(1, u "java/io/Serializable"), (0, .class_ 1), (0, u "java/lang/Object"), (0, .class_ 3)] 3

/-- java/io/Serializable -/
def k8 : Class := { plain "java/io/Serializable" (some 0) with
  accessFlags := 1537
  interfaces := #[]
  cf := some (fileOf pool8 2 #[] #[] 1537 4 #[] #[])
  fields := #[]
  methods := #[]
  instanceTypes := #[]
  staticTypes := #[]
  resolved := Array.replicate 8 none
  statics := none }

/-- the primitive byte -/
def k9 : Class := { plain "byte" none with kind := .primitive 'B', accessFlags := 0x411 }
/-- [B -/
def k10 : Class := { plain "[B" (some 0) with kind := .array 9 .byte, interfaces := #[7, 8], accessFlags := 1041 }

/-- the primitive int -/
def k11 : Class := { plain "int" none with kind := .primitive 'I', accessFlags := 0x411 }
/-- [I -/
def k12 : Class := { plain "[I" (some 0) with kind := .array 11 .int, interfaces := #[7, 8], accessFlags := 1041 }

def k13 : Class := { plain "[[I" (some 0) with kind := .array 12 (.array .int), interfaces := #[7, 8], accessFlags := 1041 }
def heap : Heap := #[]
def classes : Array Class := #[k0, k1, k2, k3, k4, k5, k6, k7, k8, k9, k10, k11, k12, k13]
def interned : List (Array UInt16 × Addr) := []
def slotsUsed : Nat := 0
def theMethod : MethodId := ⟨1, 1⟩
def args0 : Array Value := #[.int 5, .int 6, .int 7, .int 8, .int 9]
def aboutOver (below : List Frame) : State where
  vm := { classes := classes, interned := interned.toArray }
  heap := heap
  slotsUsed := slotsUsed
  threads := #[{ frames := .invoking theMethod args0 :: below }]
def below0 : List Frame := [.native { method := ⟨0, 0⟩, args := #[] }]
def about1 : State := aboutOver below0
def p0 : Program := .bare "" "" ""
def e0 : Env := launch0.env 0 0 0
theorem w_frames : about1.frames = Frame.invoking theMethod args0 :: below0 := rfl
set_option maxRecDepth 65536 in
theorem w_args : argsFit about1.vm theMethod args0 = true := by decide +kernel
set_option maxRecDepth 65536 in
theorem w_heap : heapFits about1 = true := by decide +kernel
set_option maxRecDepth 65536 in
theorem w_runnable : about1.curStatus? = some .runnable := by decide +kernel
set_option maxRecDepth 65536 in
theorem w_alone : about1.alone = true := by decide +kernel
set_option maxRecDepth 65536 in
theorem w_named : about1.methodNamed? x = some theMethod := by decide +kernel
set_option maxRecDepth 65536 in
theorem w_hears : about1.hears theMethod below0 = true := by decide +kernel
set_option maxRecDepth 65536 in
theorem w_ripe : about1.ripe theMethod args0 below0 = true := by decide +kernel
theorem w_running : about1.status = .running := rfl
set_option maxRecDepth 65536 in
theorem w_room : about1.hasRoom e0.platform room_1 = true :=
  launch0.hasRoom_least _ room_1 (by decide +kernel) (by decide +kernel) (by decide +kernel) (by decide +kernel) (by decide +kernel) (by decide +kernel)
theorem allAtoms_all (ts : List Jvm.Cond) (a : Array Jvm.Value) (st : Jvm.State) : (allAtoms ts).before a st = ts.all (fun c => c.before a st) := by
  induction ts with
  | nil => rfl
  | cons c t ih =>
    show (Jvm.Cond.and c (allAtoms t)).before a st = _
    rw [Jvm.Cond.before_and, ih, List.all_cons]
def words1 : List Jvm.Cond := Jvm.Cond.code x code maxLocals ret :: tables_1
/-- a 'code' word, met by the world's own term for the bytes: nothing is compared byte by byte -/
theorem code_word {y : MethodName} {bytes : ByteArray} {mx : Nat} {rt : Option FieldType} {a : Array Value} {s : State} {m : MethodId} {meth : Method} {c : Code} (h1 : s.methodNamed? y = some m) (h2 : s.vm.method? m = some meth) (h3 : meth.code = some c) (h4 : c.code = bytes)
    (h5 : (c.maxLocals == mx && c.exceptionTable.isEmpty && decide (c.maxStack ≤ mostOperands) && decide (meth.sig.returnType = rt) && !meth.locks && decide (parseMethodDescriptor y.desc = some meth.sig)) = true) : (Jvm.Cond.code y bytes mx rt).before a s = true := by
  simp only [Bool.and_eq_true, beq_iff_eq, Bool.not_eq_true', decide_eq_true_eq] at h5
  obtain ⟨⟨⟨⟨⟨g1, g2⟩, g3⟩, g4⟩, g5⟩, g6⟩ := h5
  simp [Cond.before, Cond.holds, Cond.value, h1, h2, h3, h4, g1, g2, g3, g4, g5, g6]
def isCode : Jvm.Cond → Bool
  | .code _ _ _ _ => true
  | _ => false
theorem all_split {L : List Jvm.Cond} {P : Jvm.Cond → Bool} (h1 : L.all (fun c => isCode c || P c) = true) (h2 : ∀ c ∈ L.filter isCode, P c = true) : L.all P = true := by
  refine List.all_eq_true.mpr fun c hc => ?_
  have h := List.all_eq_true.mp h1 c hc
  rcases Bool.eq_false_or_eq_true (isCode c) with hi | hi
  · exact h2 c (List.mem_filter.mpr ⟨hc, hi⟩)
  · simpa [hi] using h
set_option maxRecDepth 65536 in
theorem w_c0 : (Jvm.Cond.code x code maxLocals ret).before args0 about1 = true := code_word (m := ⟨1, 1⟩) (meth := k1m1) (c := k1c1) (by decide +kernel) rfl rfl rfl (by decide +kernel)
set_option maxRecDepth 65536 in
theorem w_c1 : (Jvm.Cond.code ({ cls := "com/example/arcwright/arcwright/parser/FeatureTable", name := "<init>", desc := "(I)V" } : Jvm.MethodName) prog_25_method_2_code (2 : Nat) (Option.none : Option Jvm.ClassFile.FieldType)).before args0 about1 = true := code_word (m := ⟨2, 1⟩) (meth := k2m1) (c := k2c1) (by decide +kernel) rfl rfl rfl (by decide +kernel)
set_option maxRecDepth 65536 in
theorem w_c2 : (Jvm.Cond.code ({ cls := "java/lang/Object", name := "<init>", desc := "()V" } : Jvm.MethodName) object_method_1_code (1 : Nat) (Option.none : Option Jvm.ClassFile.FieldType)).before args0 about1 = true := code_word (m := ⟨0, 0⟩) (meth := k0m0) (c := k0c0) (by decide +kernel) rfl rfl rfl (by decide +kernel)
set_option maxRecDepth 65536 in
theorem w_c3 : (Jvm.Cond.code ({ cls := "com/example/arcwright/arcwright/parser/IntBlocks", name := "<init>", desc := "()V" } : Jvm.MethodName) prog_30_method_1_code (1 : Nat) (Option.none : Option Jvm.ClassFile.FieldType)).before args0 about1 = true := code_word (m := ⟨3, 0⟩) (meth := k3m0) (c := k3c0) (by decide +kernel) rfl rfl rfl (by decide +kernel)
set_option maxRecDepth 65536 in
theorem w_c4 : (Jvm.Cond.code ({ cls := "com/example/arcwright/arcwright/parser/FeatureTable", name := "append", desc := "([II)I" } : Jvm.MethodName) prog_25_method_3_code (4 : Nat) (Option.some Jvm.ClassFile.FieldType.int)).before args0 about1 = true := code_word (m := ⟨2, 2⟩) (meth := k2m2) (c := k2c2) (by decide +kernel) rfl rfl rfl (by decide +kernel)
set_option maxRecDepth 65536 in
theorem w_c5 : (Jvm.Cond.code ({ cls := "java/util/Arrays", name := "copyOf", desc := "([II)[I" } : Jvm.MethodName) jdk_65_method_123_code (3 : Nat) (Option.some (Jvm.ClassFile.FieldType.array Jvm.ClassFile.FieldType.int))).before args0 about1 = true := code_word (m := ⟨4, 1⟩) (meth := k4m1) (c := k4c1) (by decide +kernel) rfl rfl rfl (by decide +kernel)
set_option maxRecDepth 65536 in
theorem w_c6 : (Jvm.Cond.code ({ cls := "java/lang/Math", name := "min", desc := "(II)I" } : Jvm.MethodName) jdk_29_method_69_code (2 : Nat) (Option.some Jvm.ClassFile.FieldType.int)).before args0 about1 = true := code_word (m := ⟨5, 1⟩) (meth := k5m1) (c := k5c1) (by decide +kernel) rfl rfl rfl (by decide +kernel)
set_option maxRecDepth 65536 in
theorem w_c7 : (Jvm.Cond.code ({ cls := "com/example/arcwright/arcwright/parser/IntBlocks", name := "add", desc := "([III)V" } : Jvm.MethodName) prog_30_method_7_code (7 : Nat) (Option.none : Option Jvm.ClassFile.FieldType)).before args0 about1 = true := code_word (m := ⟨3, 2⟩) (meth := k3m2) (c := k3c2) (by decide +kernel) rfl rfl rfl (by decide +kernel)
set_option maxRecDepth 65536 in
theorem w_c8 : (Jvm.Cond.code ({ cls := "com/example/arcwright/arcwright/parser/IntBlocks", name := "newBlock", desc := "(I)V" } : Jvm.MethodName) prog_30_method_9_code (2 : Nat) (Option.none : Option Jvm.ClassFile.FieldType)).before args0 about1 = true := code_word (m := ⟨3, 3⟩) (meth := k3m3) (c := k3c3) (by decide +kernel) rfl rfl rfl (by decide +kernel)
set_option maxRecDepth 65536 in
theorem w_c9 : (Jvm.Cond.code ({ cls := "com/example/arcwright/arcwright/parser/IntBlocks", name := "size", desc := "()I" } : Jvm.MethodName) prog_30_method_2_code (1 : Nat) (Option.some Jvm.ClassFile.FieldType.int)).before args0 about1 = true := code_word (m := ⟨3, 1⟩) (meth := k3m1) (c := k3c1) (by decide +kernel) rfl rfl rfl (by decide +kernel)
set_option maxRecDepth 65536 in
theorem w_c10 : (Jvm.Cond.code ({ cls := "com/example/arcwright/arcwright/parser/FeatureTable", name := "length", desc := "(I)I" } : Jvm.MethodName) prog_25_method_6_code (2 : Nat) (Option.some Jvm.ClassFile.FieldType.int)).before args0 about1 = true := code_word (m := ⟨2, 3⟩) (meth := k2m3) (c := k2c3) (by decide +kernel) rfl rfl rfl (by decide +kernel)
def codes1 : List Jvm.Cond := [Jvm.Cond.code x code maxLocals ret, Jvm.Cond.code ({ cls := "com/example/arcwright/arcwright/parser/FeatureTable", name := "<init>", desc := "(I)V" } : Jvm.MethodName) prog_25_method_2_code (2 : Nat) (Option.none : Option Jvm.ClassFile.FieldType), Jvm.Cond.code ({ cls := "java/lang/Object", name := "<init>", desc := "()V" } : Jvm.MethodName) object_method_1_code (1 : Nat) (Option.none : Option Jvm.ClassFile.FieldType), Jvm.Cond.code ({ cls := "com/example/arcwright/arcwright/parser/IntBlocks", name := "<init>", desc := "()V" } : Jvm.MethodName) prog_30_method_1_code (1 : Nat) (Option.none : Option Jvm.ClassFile.FieldType), Jvm.Cond.code ({ cls := "com/example/arcwright/arcwright/parser/FeatureTable", name := "append", desc := "([II)I" } : Jvm.MethodName) prog_25_method_3_code (4 : Nat) (Option.some Jvm.ClassFile.FieldType.int), Jvm.Cond.code ({ cls := "java/util/Arrays", name := "copyOf", desc := "([II)[I" } : Jvm.MethodName) jdk_65_method_123_code (3 : Nat) (Option.some (Jvm.ClassFile.FieldType.array Jvm.ClassFile.FieldType.int)), Jvm.Cond.code ({ cls := "java/lang/Math", name := "min", desc := "(II)I" } : Jvm.MethodName) jdk_29_method_69_code (2 : Nat) (Option.some Jvm.ClassFile.FieldType.int), Jvm.Cond.code ({ cls := "com/example/arcwright/arcwright/parser/IntBlocks", name := "add", desc := "([III)V" } : Jvm.MethodName) prog_30_method_7_code (7 : Nat) (Option.none : Option Jvm.ClassFile.FieldType), Jvm.Cond.code ({ cls := "com/example/arcwright/arcwright/parser/IntBlocks", name := "newBlock", desc := "(I)V" } : Jvm.MethodName) prog_30_method_9_code (2 : Nat) (Option.none : Option Jvm.ClassFile.FieldType), Jvm.Cond.code ({ cls := "com/example/arcwright/arcwright/parser/IntBlocks", name := "size", desc := "()I" } : Jvm.MethodName) prog_30_method_2_code (1 : Nat) (Option.some Jvm.ClassFile.FieldType.int), Jvm.Cond.code ({ cls := "com/example/arcwright/arcwright/parser/FeatureTable", name := "length", desc := "(I)I" } : Jvm.MethodName) prog_25_method_6_code (2 : Nat) (Option.some Jvm.ClassFile.FieldType.int)]
set_option maxRecDepth 65536 in
theorem codes_eq : words1.filter isCode = codes1 := rfl
theorem w_codes : ∀ c ∈ words1.filter isCode, c.before args0 about1 = true := by
  rw [codes_eq]
  intro c hc
  simp only [codes1, List.mem_cons, List.not_mem_nil, or_false] at hc
  rcases hc with rfl | rfl | rfl | rfl | rfl | rfl | rfl | rfl | rfl | rfl | rfl
  · exact w_c0
  · exact w_c1
  · exact w_c2
  · exact w_c3
  · exact w_c4
  · exact w_c5
  · exact w_c6
  · exact w_c7
  · exact w_c8
  · exact w_c9
  · exact w_c10
set_option maxRecDepth 65536 in
theorem w_t1 : (words1.take 24).all (fun c => isCode c || c.before args0 about1) = true := by decide +kernel
set_option maxRecDepth 65536 in
theorem w_t2 : ((words1.drop 24).take 24).all (fun c => isCode c || c.before args0 about1) = true := by decide +kernel
set_option maxRecDepth 65536 in
theorem w_t3 : (((words1.drop 24).drop 24).take 24).all (fun c => isCode c || c.before args0 about1) = true := by decide +kernel
set_option maxRecDepth 65536 in
theorem w_t4 : (((words1.drop 24).drop 24).drop 24).all (fun c => isCode c || c.before args0 about1) = true := by decide +kernel
theorem w_tables : (allAtoms (Jvm.Cond.code x code maxLocals ret :: tables_1)).before args0 about1 = true := by
  rw [allAtoms_all]
  show words1.all (fun c => c.before args0 about1) = true
  refine all_split ?_ w_codes
  rw [← List.take_append_drop 24 words1, List.all_append, w_t1, ← List.take_append_drop 24 (words1.drop 24), List.all_append, w_t2, ← List.take_append_drop 24 ((words1.drop 24).drop 24), List.all_append, w_t3, w_t4]
  rfl
set_option maxRecDepth 65536 in
theorem w_case : (Jvm.Cond.and given_1 narrow_1).before args0 about1 = true := by decide +kernel
theorem w_applies : (headSpec (Jvm.Cond.code x code maxLocals ret :: tables_1) room_1).applies x e0.platform about1 = true :=
  (Spec.applies_iff w_frames).mpr ⟨w_running, w_runnable, w_alone, w_named, w_hears, w_ripe, w_room, w_tables⟩
theorem atStart : AtStart classFile x code maxLocals ret World_1 tables_1 room_1 Calls_1 rest_1 Pre_1 launch0 p0 e0 about1 theMethod args0 below0 :=
  ⟨lists_1, trivial, launch0.admits_env _ _ _, launch0.least_env, fairChoices_fair.cas, fairChoices_fair.clock, w_frames, w_args, w_heap, w_applies, trivial, trivial, w_case⟩
end start1
theorem witness_1 : WitnessClaimed_1 := ⟨start1.p0, start1.e0, start1.about1, start1.theMethod, start1.args0, start1.below0, start1.atStart⟩
end Jvm.Pilot.@@N@@
