import JvmDerived
import JvmDerived.Pilot.@@N@@Statement
import JvmDerived.Pilot.@@N@@Code
set_option linter.unusedVariables false
set_option linter.unusedSimpArgs false
@@BLOCK:NumsL.lean.txt@@
namespace Jvm.RoadKit
open Sem ClassFile Op Lib Jvm.Stand Jvm.Free Jvm.LawKit
/-- a step taken in front of a run that ends well -/
theorem own_go {tb : Tables} {e : Env} {below : List Frame} {a b : State} {P : State → Outcome → Prop} (h : ∀ target, Steps tb e below b target → Steps tb e below a target) (k : ∃ t o, Steps tb e below b t ∧ P t o) : ∃ t o, Steps tb e below a t ∧ P t o := by
  obtain ⟨t, o, h1, h2⟩ := k
  exact ⟨t, o, h _ h1, h2⟩
theorem own_ne {a n m b : Nat} (h1 : a < n) (h2 : n ≤ m) (h3 : m ≤ b) : a ≠ b := Nat.ne_of_lt (Nat.lt_of_lt_of_le h1 (Nat.le_trans h2 h3))
theorem own_tr {a b c : Nat} (h1 : a ≤ b) (h2 : b ≤ c) : a ≤ c := Nat.le_trans h1 h2
/-- a word of the tables by its place -/
theorem ow {ws : List Jvm.Cond} {a0 : Array Value} {Z : State} (hw : ∀ d ∈ ws, d.before a0 Z = true) (i : Nat) {d : Jvm.Cond} (h : ws[i]? = some d) : d.before a0 Z = true := hw d (List.mem_of_getElem? h)
/-- several roads meet -/
theorem own_join {A : Type} {C : A → Prop} {tb : Tables} {e : Env} {below : List Frame} {P : State → Outcome → Prop} {f : A → State} {a : State} (body : ∀ x, C x → ∃ t o, Steps tb e below (f x) t ∧ P t o)
    (use : (∀ x, C x → ∃ t o, Steps tb e below (f x) t ∧ P t o) → ∃ t o, Steps tb e below a t ∧ P t o) : ∃ t o, Steps tb e below a t ∧ P t o := use body
/-- a private method is its own selection -/
theorem own_selp {args : Array Value} {s : State} {y : MethodName} {n : Nat} (wi : (Cond.instantiable y.cls n).before args s = true) (wp : (Cond.privateMethod y).before args s = true) (wm : (Cond.instanceMethod y).before args s = true) (ny : y.cls ≠ "java/lang/invoke/MethodHandle" ∧ y.cls ≠ "java/lang/invoke/VarHandle") :
    (Cond.selects y.cls y y).before args s = true := by
  obtain ⟨c, k, h1, h2, -, h4, -⟩ := Cond.instantiable_spec wi
  obtain ⟨m, meth, g1, g2, -⟩ := Cond.instanceMethod_spec wm
  have hp := Cond.privateMethod_at wp m meth g1 g2
  have hc : m.cls = c := by
    have := findClass_of_methodNamed g1
    rw [h1] at this; exact (Option.some.inj this).symm
  have hi : k.isInterface = false := by simp at h4; exact h4.1
  have hf : s.methodFound? y.cls y.name y.desc = some m := State.methodFound?_of_named g1 ny
  simp [Cond.before, Cond.holds, Cond.value, h1, hf, g1, selectMethod_private g2 hp, hc, h2, hi]
section OwnCalls
variable {p : Program} {l : Launch} {e : Env} {R : Room} {s : State} {m : MethodId} {args : Array Value} {below : List Frame} {meth : Method} {c : Code} {T : State} {locs : List Loc} {cells slots : Nat} {Z : State} {a0 : Array Value} {h : Heap} {P : State → Outcome → Prop}
  {own C : String} {index W : Nat} {y z : MethodName} {bytes : ByteArray} {maxL : Nat} {ret : Option FieldType} {rm : Room} {Q : Option Value → Heap → List Loc → Prop} {b : Addr} {g : JFrame} {argsL rest : List Value}
/-- a static call by its contract, taken in front of a run that ends well -/
theorem own_stat (X : Stand p l e R s m args below meth c T locs cells slots) (hx : p.tables.exec = Jvm.exec) (hZ : Z.Warmed39 s.vm) (hown : s.vm.findClass own = some m.cls) (E : T.heap = h)
    (w1 : (Cond.methodLink own index y).before a0 Z = true) (w2 : (Cond.static y).before a0 Z = true)
    (hM : MetFree l y (head1 [Cond.code y bytes maxL ret] rm) (fun a U => a = argsL.toArray ∧ Z.Warmed39 U.vm ∧ U.heap = h) (fun _ _ _ _ _ => True) (fun _ U o U' => ∃ v L, o = .returned v ∧ Q v U'.heap L ∧ FrameEnd U o U' L rm.cells rm.slots))
    (wc : (Cond.code y bytes maxL ret).before a0 Z = true) (wz : (Cond.initialized y.cls).before a0 Z = true)
    (hg : g.method = m) (hsize : g.locals.size = c.maxLocals) (hs : g.stack = argsL.reverse ++ rest) (hd : decode c.code g.pc = .ok (.invokestatic index, 3))
    (hlen : ∀ sig, parseMethodDescriptor y.desc = some sig → argsL.length = sig.parameters.length) (hW : 2 * g.monitorRoom + (rest.map fun v => v.category).sum = W)
    (hnum : (y.cls ≠ "java/lang/invoke/MethodHandle" ∧ y.cls ≠ "java/lang/invoke/VarHandle") ∧ rm.frames + 1 ≤ R.frames ∧ W + (maxL + 11) + rm.locals ≤ R.locals ∧ cells + rm.cells ≤ R.cells ∧ slots + rm.slots ≤ R.slots)
    (K : ∀ (T' : State) (v : Option Value) (L : List Loc), Stand p l e R s m args below meth c T' (locs ++ L) (cells + rm.cells) (slots + rm.slots) → Q v T'.heap L → ∃ t o, Steps p.tables e below (T'.setTop { g with pc := g.pc + 3, stack := v.toList ++ rest }) t ∧ P t o) :
    ∃ t o, Steps p.tables e below (T.setTop g) t ∧ P t o := by
  obtain ⟨hy, hf, hl, hc, hsl⟩ := hnum
  obtain ⟨v, _, ⟨T', L, kz, nz⟩, -, X', ⟨Lc, hQ, l1, y1, z1⟩, st⟩ := Jvm.LawKit.callS X hx (y := y) hown (mvT hZ w1) (mvT hZ w2) (mvT hZ wz) (mvT hZ wc) hy (backOf (W := W) hM hZ wc wz hf hl) (g := g) hg hsize (argsL := argsL) (rest := rest) hlen hs (Nat.le_of_eq hW) hd (fun _ _ => ⟨rfl, E, hc, hsl⟩)
  dsimp only [Pt.U, Pt.locs, Pt.cells, Pt.slots] at X' l1 y1 z1 st hQ
  subst l1 y1 z1
  obtain ⟨t, o, k1, k2⟩ := K T' v Lc X' hQ
  exact ⟨t, o, st _ k1, k2⟩
/-- a constructor by its contract -/
theorem own_spec (X : Stand p l e R s m args below meth c T locs cells slots) (hx : p.tables.exec = Jvm.exec) (hZ : Z.Warmed39 s.vm) (hown : s.vm.findClass own = some m.cls) (E : T.heap = h)
    (w1 : (Cond.methodLink own index y).before a0 Z = true) (w2 : (Cond.instanceMethod y).before a0 Z = true)
    (hM : MetFree l y (head1 [Cond.code y bytes maxL none] rm) (fun a U => a = (.ref b :: argsL).toArray ∧ Z.Warmed39 U.vm ∧ U.heap = h) (fun _ _ _ _ _ => True) (fun _ U o U' => ∃ v L, o = .returned v ∧ Q v U'.heap L ∧ FrameEnd U o U' L rm.cells rm.slots))
    (wc : (Cond.code y bytes maxL none).before a0 Z = true) (wz : (Cond.initialized y.cls).before a0 Z = true)
    (hg : g.method = m) (hsize : g.locals.size = c.maxLocals) (hs : g.stack = argsL.reverse ++ .ref b :: rest) (hd : decode c.code g.pc = .ok (.invokespecial index, 3))
    (hlen : ∀ sig, parseMethodDescriptor y.desc = some sig → argsL.length = sig.parameters.length) (hW : 2 * g.monitorRoom + (rest.map fun v => v.category).sum = W)
    (hy1 : y.name = "<init>") (hnum : (y.cls ≠ "java/lang/invoke/MethodHandle" ∧ y.cls ≠ "java/lang/invoke/VarHandle") ∧ rm.frames + 1 ≤ R.frames ∧ W + (maxL + 11) + rm.locals ≤ R.locals ∧ cells + rm.cells ≤ R.cells ∧ slots + rm.slots ≤ R.slots)
    (K : ∀ (T' : State) (v : Option Value) (L : List Loc), Stand p l e R s m args below meth c T' (locs ++ L) (cells + rm.cells) (slots + rm.slots) → Q v T'.heap L → ∃ t o, Steps p.tables e below (T'.setTop { g with pc := g.pc + 3, stack := v.toList ++ rest }) t ∧ P t o) :
    ∃ t o, Steps p.tables e below (T.setTop g) t ∧ P t o := by
  obtain ⟨hy, hf, hl, hc, hsl⟩ := hnum
  obtain ⟨v, _, ⟨T', L, kz, nz⟩, -, X', ⟨Lc, hQ, l1, y1, z1⟩, st⟩ := X.specialBack hx (y := y) hy1 hown (mvT hZ w1) (mvT hZ w2) (mvT hZ wc) hy (backOf (W := W) hM hZ wc wz hf hl) (g := g) hg hsize (Steps.refl _) (a := b) (argsL := argsL) (rest := rest) hlen hs (Nat.le_of_eq hW) hd (fun _ _ => ⟨rfl, E, hc, hsl⟩)
  dsimp only [Pt.U, Pt.locs, Pt.cells, Pt.slots] at X' l1 y1 z1 st hQ
  subst l1 y1 z1
  obtain ⟨t, o, k1, k2⟩ := K T' v Lc X' hQ
  exact ⟨t, o, st.trans k1, k2⟩
/-- a virtual call by the contract of what the receiver's class selects -/
theorem own_virt (X : Stand p l e R s m args below meth c T locs cells slots) (hx : p.tables.exec = Jvm.exec) (hZ : Z.Warmed39 s.vm) (hown : s.vm.findClass own = some m.cls) (E : T.heap = h)
    (w1 : (Cond.methodLink own index y).before a0 Z = true) (w2 : (Cond.declares y).before a0 Z = true) (w3 : (Cond.selects C y y).before a0 Z = true) (w4 : (Cond.instanceMethod y).before a0 Z = true)
    (hM : MetFree l y (head1 [Cond.code y bytes maxL ret] rm) (fun a U => a = (.ref b :: argsL).toArray ∧ Z.Warmed39 U.vm ∧ U.heap = h) (fun _ _ _ _ _ => True) (fun _ U o U' => ∃ v L, o = .returned v ∧ Q v U'.heap L ∧ FrameEnd U o U' L rm.cells rm.slots))
    (wc : (Cond.code y bytes maxL ret).before a0 Z = true) (wz : (Cond.initialized y.cls).before a0 Z = true) (Ex : Exa Z h b C)
    (hg : g.method = m) (hsize : g.locals.size = c.maxLocals) (hs : g.stack = argsL.reverse ++ .ref b :: rest) (hd : decode c.code g.pc = .ok (.invokevirtual index, 3))
    (hlen : ∀ sig, parseMethodDescriptor y.desc = some sig → argsL.length = sig.parameters.length) (hW : 2 * g.monitorRoom + (rest.map fun v => v.category).sum = W)
    (hnum : (y.cls ≠ "java/lang/invoke/MethodHandle" ∧ y.cls ≠ "java/lang/invoke/VarHandle") ∧ rm.frames + 1 ≤ R.frames ∧ W + (maxL + 11) + rm.locals ≤ R.locals ∧ cells + rm.cells ≤ R.cells ∧ slots + rm.slots ≤ R.slots)
    (K : ∀ (T' : State) (v : Option Value) (L : List Loc), Stand p l e R s m args below meth c T' (locs ++ L) (cells + rm.cells) (slots + rm.slots) → Q v T'.heap L → ∃ t o, Steps p.tables e below (T'.setTop { g with pc := g.pc + 3, stack := v.toList ++ rest }) t ∧ P t o) :
    ∃ t o, Steps p.tables e below (T.setTop g) t ∧ P t o := by
  obtain ⟨hy, hf, hl, hc, hsl⟩ := hnum
  obtain ⟨cq, kq, qa, qb, qc⟩ := isOf hZ E Ex
  obtain ⟨v, _, ⟨T', L, kz, nz⟩, -, X', ⟨Lc, hQ, l1, y1, z1⟩, st⟩ := X.virtualBack hx (y := y) (z := y) hown (mvT hZ w1) (mvT hZ w2) (notFace_of_selects (args := #[]) (mvT hZ w3)) (mvT hZ w3) (mvT hZ w4) hy (backOf (W := W) hM hZ wc wz hf hl) qa qc (g := g) hg hsize (Steps.refl _) (argsL := argsL) (rest := rest) hlen hs (Nat.le_of_eq hW) hd (fun _ _ => ⟨rfl, E, hc, hsl⟩)
  dsimp only [Pt.U, Pt.locs, Pt.cells, Pt.slots] at X' l1 y1 z1 st hQ
  subst l1 y1 z1
  obtain ⟨t, o, k1, k2⟩ := K T' v Lc X' hQ
  exact ⟨t, o, st.trans k1, k2⟩
/-- getfield -/
theorem own_getf (X : Stand p l e R s m args below meth c T locs cells slots) (hx : p.tables.exec = Jvm.exec) (hZ : Z.Warmed39 s.vm) {R0 O n d : String} (hown : s.vm.findClass own = some m.cls) (w : (Cond.fieldLink own index R0 n d).before a0 Z = true) (via : Via Z R0 O n d)
    (E : T.heap = h) {v : Value} (F : Fld Z h b O n d v) (hg : g.method = m) (hs : g.stack = .ref b :: rest) (hd : decode c.code g.pc = .ok (.getfield index, 3))
    (K : ∀ T' : State, Stand p l e R s m args below meth c T' locs cells slots → T'.heap = h → ∃ t o, Steps p.tables e below (T'.setTop { g with pc := g.pc + 3, stack := v :: rest }) t ∧ P t o) : ∃ t o, Steps p.tables e below (T.setTop g) t ∧ P t o := by
  obtain ⟨T', X', e', st⟩ := getF X hx hZ hown (host := "") (Or.inl w) via E F (g := g) hg hs hd
  obtain ⟨t, o, k1, k2⟩ := K T' X' e'
  exact ⟨t, o, st _ k1, k2⟩
end OwnCalls
/-- a field of an object of the start that the case fixes as an int -/
theorem own_fint {args : Array Value} {s : State} {t : Term} {C n d : String} {k : Int32} {x : Addr} (h : (Jvm.Cond.eq (Term.field t C n d) (Term.int k)).value args s none s [] = some true) (ht : t.eval args s none [] s = some (.ref x)) : Fld s s.heap x C n d (.int k) := by
  obtain ⟨u, v, h1, h2, h3, h4⟩ := cmp_v (Or.inl h)
  have e2 : v = .int k := by rw [Term.int_eval] at h2; exact (Option.some.inj h2).symm
  subst e2
  obtain ⟨z, rfl⟩ : ∃ z, u = .int z := h4
  have q := gotT (Cond.eq_ints h1 h2) h
  subst q
  exact Fld.start (by rw [← fld_at (C := C) (n := n) (dd := d) ht]; exact h1)
end Jvm.RoadKit
namespace Jvm.RoadKit
open Sem ClassFile Op Lib Jvm.Stand Jvm.Free Jvm.LawKit
section OwnSync
variable {p : Program} {l : Launch} {e : Env} {R : Room} {s : State} {m : MethodId} {args : Array Value} {below : List Frame} {meth : Method} {c : Code} {T : State} {locs : List Loc} {cells slots : Nat} {Z : State} {a0 : Array Value} {h : Heap} {P : State → Outcome → Prop}
  {own C : String} {index W : Nat} {y : MethodName} {bytes : ByteArray} {maxL : Nat} {ret : Option FieldType} {rm : Room} {Q : Option Value → Heap → List Loc → Prop} {a b : Addr} {g : JFrame} {argsL rest : List Value} {as' : Array Value}
theorem own_unt_enter {U : State} (N : Unt h a) : ∃ cell : Cell, h[a]? = some cell ∧ cell.enterable U.cur := by
  obtain ⟨cl, u1, -, u3⟩ := N
  exact ⟨cl, u1, by rw [Cell.enterable, u3]; simp⟩
theorem own_left (cl : Cell) : ∃ mo, cl.left = { cl with monitor := mo } := by
  unfold Cell.left; split <;> exact ⟨_, rfl⟩
theorem own_keep1 {cl : Cell} {mo : Monitor} (hc : h[a]? = some cl) : Keep h (h.setIfInBounds a { cl with monitor := mo }) [a] := by
  refine ⟨by simp, fun x q hx hn => ?_, fun x q hx => ?_⟩
  · have : x ≠ a := fun e => hn (by simp [e])
    rw [Array.getElem?_setIfInBounds_ne (Ne.symm this)]; exact hx
  · by_cases e : x = a
    · subst e
      cases hx.symm.trans hc
      exact ⟨{ cl with monitor := mo }, by rw [Array.getElem?_setIfInBounds_self_of_lt (Array.getElem?_eq_some_iff.mp hc).1], rfl, rfl, rfl⟩
    · exact ⟨q, by rw [Array.getElem?_setIfInBounds_ne (Ne.symm e)]; exact hx, rfl, rfl, rfl⟩
/-- the entry of a synchronized method: what the heap is then -/
theorem own_enterS {s0 s₁ : State} {cell : Cell} {S : Spec} {x : MethodName} {code : ByteArray} {maxLocals : Nat} (B : BodySyncLoose p l x S code maxLocals ret e s0 m args below meth c a cell s₁) : Mon s0.heap s₁.heap ∧ Keep s0.heap s₁.heap [a] := by
  rw [B.state]
  exact ⟨mon_set B.object _, own_keep1 B.object⟩
/-- and its leaving -/
theorem own_leaveS {s0 : State} {cell : Cell} (X : Stand p l e R (s0.setCell a (cell.withEntry s0.cur)) m args below meth c T locs cells slots) (hc : s0.heap[a]? = some cell) (ho : cell.enterable s0.cur) (hl : meth.locks = true) (N : Unt s0.heap a)
    {v : Option Value} (hv : meth.sig.returnType = none → v = none) : ∃ V : State, (∀ (f : JFrame) (acts : List Action), f.method = m → f.locked = some a → f.entered = [] → (doReturn e (T.setTop f) acts v).1 = V) ∧ V.status = .running ∧ Ended V below (.returned v) ∧
      Mon T.heap V.heap ∧ Keep T.heap V.heap [a] ∧ Unt V.heap a ∧ s0.WarmedH V.vm ∧ s0.sameButNew { V with vm := s0.vm } locs cells slots := by
  obtain ⟨fs, cellT, q1, q2, q3, q4, q5, q6⟩ := X.leaveSync hc ho hl hv
  obtain ⟨mo, em⟩ := own_left cellT
  refine ⟨_, q2, q3, q4, ?_, ?_, ?_, q5, q6⟩
  · show Mon T.heap (T.heap.setIfInBounds a cellT.left)
    rw [em]; exact mon_set q1 mo
  · show Keep T.heap (T.heap.setIfInBounds a cellT.left) [a]
    rw [em]; exact own_keep1 q1
  · obtain ⟨cl, u1, u2, u3⟩ := N
    obtain ⟨c', r1, r2, -⟩ := q6.2.2.2.2.2 a cl u1
    exact ⟨c', r1, by rw [r2]; exact u2, by rw [r2]; exact u3⟩
theorem own_backS {len : Nat} (hM : MetFree l y (head1 [Cond.codeSync y bytes maxL ret, Cond.instanceMethod y] rm) (fun a U => a = as' ∧ Z.Warmed39 U.vm ∧ U.heap = h) (fun _ _ _ _ _ => True) (fun _ U o U' => ∃ v L, o = .returned v ∧ Q v U'.heap L ∧ FrameEnd U o U' L rm.cells rm.slots))
    (hZ : Z.Warmed39 s.vm) (wc : (Cond.codeSync y bytes maxL ret).before a0 Z = true) (wi : (Cond.instanceMethod y).before a0 Z = true) (wz : (Cond.initialized y.cls).before a0 Z = true) (hf : rm.frames + 1 ≤ R.frames) (hl : W + (maxL + 11) + rm.locals ≤ R.locals) :
    Back l R p e below s args y len W (fun A a => a = as' ∧ A.U.heap = h ∧ A.cells + rm.cells ≤ R.cells ∧ A.slots + rm.slots ≤ R.slots)
      (fun A _ v B => ∃ L, Q v B.U.heap L ∧ B.locs = A.locs ++ L ∧ B.cells = A.cells + rm.cells ∧ B.slots = A.slots + rm.slots) :=
  Jvm.Free.XT.back_of_sync (bytes := bytes) (maxL := maxL) (ret := ret) (E := fun _ _ o t L k n => k = rm.cells ∧ n = rm.slots ∧ ∃ v, o = .returned v ∧ Q v t.heap L) hM hf hl
    (fun _ _ _ A as Y hp => have hU : Z.Warmed39 A.U.vm := wtrans hZ Y.warmed
      ⟨by show (Cond.and _ (Cond.and _ .tt)).before as A.U = true; rw [Cond.before_and, Cond.before_and, mv hU wc, mv hU wi]; rfl, mv hU wc, mv hU wz, hp.2.2.1, hp.2.2.2⟩)
    (fun _ _ _ _ _ _ _ Y hp => ⟨hp.1, wtrans hZ Y.warmed, hp.2.1⟩) (fun _ _ _ _ _ _ _ _ _ => trivial)
    (fun _ _ _ _ ⟨v, L, h1, h2, h3⟩ => ⟨L, _, _, h3, rfl, rfl, v, h1, h2⟩)
    (fun _ _ _ _ _ _ _ _ _ L _ _ _ _ _ _ ⟨e1, e2, _, e3, e4⟩ => by cases e3; subst e1 e2; exact ⟨L, e4, rfl, rfl, rfl⟩)
/-- a virtual call of a synchronized method by its contract -/
theorem own_virtS (X : Stand p l e R s m args below meth c T locs cells slots) (hx : p.tables.exec = Jvm.exec) (hZ : Z.Warmed39 s.vm) (hown : s.vm.findClass own = some m.cls) (E : T.heap = h)
    (w1 : (Cond.methodLink own index y).before a0 Z = true) (w2 : (Cond.declares y).before a0 Z = true) (w3 : (Cond.selects C y y).before a0 Z = true) (w4 : (Cond.instanceMethod y).before a0 Z = true)
    (hM : MetFree l y (head1 [Cond.codeSync y bytes maxL ret, Cond.instanceMethod y] rm) (fun a U => a = (.ref b :: argsL).toArray ∧ Z.Warmed39 U.vm ∧ U.heap = h) (fun _ _ _ _ _ => True) (fun _ U o U' => ∃ v L, o = .returned v ∧ Q v U'.heap L ∧ FrameEnd U o U' L rm.cells rm.slots))
    (wc : (Cond.codeSync y bytes maxL ret).before a0 Z = true) (wz : (Cond.initialized y.cls).before a0 Z = true) (Ex : Exa Z h b C)
    (hg : g.method = m) (hsize : g.locals.size = c.maxLocals) (hs : g.stack = argsL.reverse ++ .ref b :: rest) (hd : decode c.code g.pc = .ok (.invokevirtual index, 3))
    (hlen : ∀ sig, parseMethodDescriptor y.desc = some sig → argsL.length = sig.parameters.length) (hW : 2 * g.monitorRoom + (rest.map fun v => v.category).sum = W)
    (hnum : (y.cls ≠ "java/lang/invoke/MethodHandle" ∧ y.cls ≠ "java/lang/invoke/VarHandle") ∧ rm.frames + 1 ≤ R.frames ∧ W + (maxL + 11) + rm.locals ≤ R.locals ∧ cells + rm.cells ≤ R.cells ∧ slots + rm.slots ≤ R.slots)
    (K : ∀ (T' : State) (v : Option Value) (L : List Loc), Stand p l e R s m args below meth c T' (locs ++ L) (cells + rm.cells) (slots + rm.slots) → Q v T'.heap L → ∃ t o, Steps p.tables e below (T'.setTop { g with pc := g.pc + 3, stack := v.toList ++ rest }) t ∧ P t o) :
    ∃ t o, Steps p.tables e below (T.setTop g) t ∧ P t o := by
  obtain ⟨hy, hf, hl, hc, hsl⟩ := hnum
  obtain ⟨cq, kq, qa, qb, qc⟩ := isOf hZ E Ex
  obtain ⟨v, _, ⟨T', L, kz, nz⟩, -, X', ⟨Lc, hQ, l1, y1, z1⟩, st⟩ := X.virtualBack hx (y := y) (z := y) hown (mvT hZ w1) (mvT hZ w2) (notFace_of_selects (args := #[]) (mvT hZ w3)) (mvT hZ w3) (mvT hZ w4) hy (own_backS (W := W) hM hZ wc w4 wz hf hl) qa qc (g := g) hg hsize (Steps.refl _) (argsL := argsL) (rest := rest) hlen hs (Nat.le_of_eq hW) hd (fun _ _ => ⟨rfl, E, hc, hsl⟩)
  dsimp only [Pt.U, Pt.locs, Pt.cells, Pt.slots] at X' l1 y1 z1 st hQ
  subst l1 y1 z1
  obtain ⟨t, o, k1, k2⟩ := K T' v Lc X' hQ
  exact ⟨t, o, st.trans k1, k2⟩
end OwnSync
end Jvm.RoadKit
namespace Jvm.Pilot.@@N@@
open Jvm Jvm.ClassFile Sem Op Lib Jvm.Free Jvm.Stand Jvm.LawKit Jvm.RoadKit Bundle Jvm.Pilot.@@N@@.Jvm.D
def own_m (x : Int32) : Int32 := x &&& (536870911 : Int32)
def own_n (x : Int32) : Int32 := x &&& (2147483647 : Int32)
def own_sh (x : Int64) : Int64 := ((x.toUInt64 >>> ((7 : Int32) &&& 0x3f).toInt64.toUInt64).toInt64)
theorem own_and3 (x : Int32) : (x &&& 3) = 0 ∨ (x &&& 3) = 1 ∨ (x &&& 3) = 2 ∨ (x &&& 3) = 3 := by
  have e1 : (x &&& 3).toInt = x.toInt % 2 ^ 2 := Jvm.Kit.i32_mask x 3 (k := 2) (by decide) (by decide)
  have e0 : (0 : Int32).toInt = 0 := by decide
  have e4 : (1 : Int32).toInt = 1 := by decide
  have e5 : (2 : Int32).toInt = 2 := by decide
  have e6 : (3 : Int32).toInt = 3 := by decide
  simp only [← Int32.toInt_inj]
  omega
theorem own_mb (x : Int32) : 0 ≤ (own_m x).toInt := by
  have e1 : (x &&& 536870911).toInt = x.toInt % 2 ^ 29 := Jvm.Kit.i32_mask x 536870911 (k := 29) (by decide) (by decide)
  show 0 ≤ (x &&& 536870911).toInt
  omega
theorem own_nb (x : Int32) : 0 ≤ (own_n x).toInt := by
  have e1 : (x &&& 2147483647).toInt = x.toInt % 2 ^ 31 := Jvm.Kit.i32_mask x 2147483647 (k := 31) (by decide) (by decide)
  show 0 ≤ (x &&& 2147483647).toInt
  omega
theorem own_addsub (b c : Int32) : (b + c) - b = c := by rw [Int32.add_comm, Int32.add_sub_cancel]
theorem own_g1 (x : Int32) (h : 0 ≤ x.toInt) : 0 ≤ ((x - (-1 : Int32)) - (1 : Int32)).toInt := by
  have : (x - (-1 : Int32)) - (1 : Int32) = x := by
    apply Int32.toBitVec_inj.mp
    rw [Int32.toBitVec_sub, Int32.toBitVec_sub]
    show x.toBitVec - (-1#32) - 1#32 = _
    rw [BitVec.sub_eq_add_neg x.toBitVec, BitVec.neg_neg, BitVec.add_sub_cancel]
  rw [this]; exact h
theorem own_g2 (d y : Int32) (h : 0 ≤ y.toInt) : 0 ≤ ((((d + (1 : Int32)) + y) - d) - (1 : Int32)).toInt := by
  rw [Int32.add_assoc, own_addsub, own_addsub]; exact h
theorem own_i2l (x : Int32) (h : 0 ≤ x.toInt) : 0 ≤ x.toInt64.toInt ∧ x.toInt64.toInt < 2147483648 := by
  rw [Int32.toInt_toInt64]
  have := Int32.toInt_lt x
  omega
theorem own_lshr (q : Int64) (k : Nat) (n : Int32) (hn : (n &&& 0x3f).toInt64.toUInt64.toBitVec.toNat % 64 = k) : ((q.toUInt64 >>> (n &&& 0x3f).toInt64.toUInt64).toInt64).toBitVec = q.toBitVec >>> k := by
  show (q.toUInt64 >>> (n &&& 0x3f).toInt64.toUInt64).toBitVec = _
  rw [UInt64.toBitVec_shiftRight]
  show q.toBitVec >>> ((n &&& 0x3f).toInt64.toUInt64.toBitVec % 64) = _
  rw [BitVec.ushiftRight_eq', BitVec.toNat_umod]
  show q.toBitVec >>> ((n &&& 0x3f).toInt64.toUInt64.toBitVec.toNat % 64) = _
  rw [hn]
theorem own_nat (x : Int64) (h : 0 ≤ x.toInt) : x.toInt = (x.toBitVec.toNat : Int) ∧ x.toBitVec.toNat < 9223372036854775808 := by
  have e : x.toInt = x.toBitVec.toInt := rfl
  rw [BitVec.toInt_eq_toNat_cond] at e
  have := x.toBitVec.isLt
  split at e <;> omega
theorem own_shi (x : Int64) (h : 0 ≤ x.toInt) : (own_sh x).toInt = x.toInt / 128 := by
  obtain ⟨e1, e2⟩ := own_nat x h
  have e3 : (own_sh x).toBitVec = x.toBitVec >>> 7 := own_lshr x 7 7 (by decide)
  have e4 : (own_sh x).toInt = (x.toBitVec >>> 7).toInt := by rw [← e3]; rfl
  rw [e4, BitVec.toInt_eq_toNat_cond, BitVec.toNat_ushiftRight, Nat.shiftRight_eq_div_pow, e1]
  split <;> omega
theorem own_z (x : Int64) (h0 : 0 ≤ x.toInt) (h1 : x.toInt < 128) : (x &&& (-128 : Int64)) = 0 := by
  obtain ⟨e1, e2⟩ := own_nat x h0
  apply Int64.toBitVec_inj.mp
  rw [Int64.toBitVec_and]
  have e : x.toBitVec = (x.toBitVec.setWidth 7).setWidth 64 := by
    apply BitVec.eq_of_toNat_eq; rw [BitVec.toNat_setWidth, BitVec.toNat_setWidth]; omega
  rw [e]
  have : ∀ b : BitVec 7, b.setWidth 64 &&& (-128 : Int64).toBitVec = (0 : Int64).toBitVec := by decide +kernel
  exact this _
theorem own_z4 (q : Int64) (h : 0 ≤ q.toInt ∧ q.toInt < 2147483648) : (own_sh (own_sh (own_sh (own_sh q))) &&& (-128 : Int64)) = 0 := by
  have e1 := own_shi q h.1
  have e2 := own_shi (own_sh q) (by omega)
  have e3 := own_shi (own_sh (own_sh q)) (by omega)
  have e4 := own_shi (own_sh (own_sh (own_sh q))) (by omega)
  exact own_z _ (by omega) (by omega)
theorem own_cap (n : Int32) (h : 0 ≤ n.toInt ∧ n.toInt < 32) : ¬ ((0 : Int32) < ((n + (1 : Int32)) - (32 : Int32))) := by
  have e0 : (0 : Int32).toInt = 0 := by decide
  have e1 : (1 : Int32).toInt = 1 := by decide
  have e2 : (32 : Int32).toInt = 32 := by decide
  rw [Int32.lt_iff_toInt_lt, Int32.toInt_sub, Int32.toInt_add, e0, e1, e2]
  simp only [Int.bmod_def]
  omega
theorem own_inc (n : Int32) (h : 0 ≤ n.toInt ∧ n.toInt < 32) : (n + (1 : Int32)).toInt = n.toInt + 1 := by
  have e1 : (1 : Int32).toInt = 1 := by decide
  rw [Int32.toInt_add, e1]
  simp only [Int.bmod_def]
  omega
theorem own_in (n : Int32) (h : 0 ≤ n.toInt ∧ n.toInt < 32) : ¬ n < 0 ∧ n < (32 : Int32) := by
  have e0 : (0 : Int32).toInt = 0 := by decide
  have e2 : (32 : Int32).toInt = 32 := by decide
  rw [Int32.lt_iff_toInt_lt, Int32.lt_iff_toInt_lt, e0, e2]
  omega
theorem own_cl (n : Int32) (h : 0 ≤ n.toInt ∧ n.toInt < 32) {vs : List Value} (hv : vs.length = 32) : n.toNatClampNeg < vs.length := by
  show n.toInt.toNat < _
  omega
theorem d5_0 : decode jdk_2038_method_1_code 0 = .ok (.aload_n 0, 1) := by decide +kernel
theorem d5_1 : decode jdk_2038_method_1_code 1 = .ok (.invokespecial 1, 3) := by decide +kernel
theorem d5_4 : decode jdk_2038_method_1_code 4 = .ok (.return_, 1) := by decide +kernel
theorem pn_5 : plainName "java/io/OutputStream" = true := by first | (simp [plainName, overriddenIn]; done) | decide +kernel
theorem ef_rmos (m : MethodId) (x0 : Addr) : entryFrame m #[(.ref x0)] 1 = mkF m 0 #[.val (.ref x0)] [] := by first | (simp [entryFrame, mkF, argsToLocals, Value.category]; done) | rfl
def Qrmos (Z : State) (g : Addr) (h0 : Heap) (n0 : Nat) (v : Option Value) (h : Heap) (L : List Loc) : Prop := v = none ∧ Fr n0 L ∧ h = h0
set_option maxRecDepth 65536 in
set_option maxHeartbeats 40000000 in
theorem rmos (l : Launch) (Z : State) (a0 : Array Value) (hw : ∀ d ∈ tables_1, d.before a0 Z = true) (ws : List Jvm.Cond) (g : Addr) (h0 : Heap) (n0 : Nat) (Z0 : n0 ≤ h0.size) :
    MetFree l (⟨"java/io/OutputStream", "<init>", "()V"⟩ : MethodName) (head1 (Jvm.Cond.code (⟨"java/io/OutputStream", "<init>", "()V"⟩ : MethodName) jdk_2038_method_1_code 1 none :: ws) ({ frames := 1, cells := 0, slots := 0, locals := 12 } : Room)) (fun a U => a = #[(.ref g)] ∧ Z.Warmed39 U.vm ∧ U.heap = h0) (fun _ _ _ _ _ => True) (fun _ U o U' => ∃ v L, o = .returned v ∧ Qrmos Z g h0 n0 v U'.heap L ∧ FrameEnd U o U' L ({ frames := 1, cells := 0, slots := 0, locals := 12 } : Room).cells ({ frames := 1, cells := 0, slots := 0, locals := 12 } : Room).slots) := by
 refine MetFree.of_bodySF (plainFor_of_name pn_5) hisR ?_
 intro p e s m args below meth c s₁ Bd hml0 hP hK
 obtain ⟨rfl, hZ, hh⟩ := hP
 have hx := Bd.exec
 have hby := Bd.bytes
 have hml : c.maxLocals = 1 := hml0
 have hown : s.vm.findClass "java/io/OutputStream" = some m.cls := findClass_of_methodNamed Bd.named
 have hnm := (name_of_methodNamed Bd.named Bd.method).1
 have X0 : Stand p l e ({ frames := 1, cells := 0, slots := 0, locals := 12 } : Room) s m #[(.ref g)] below meth c s₁ [] 0 0 := Stand.of_body Bd
 have e0 : s₁.heap = h0 := by rw [← hh, Bd.state]; rfl
 have N0 := Fr.nil n0
 refine own_go (b := (s₁.setTop (mkF m 0 #[.val (.ref g)] []))) (fun _ k => castTop (ef_rmos m g) k) ?_
 refine own_go (b := (s₁.setTop (mkF m 1 #[.val (.ref g)] [(.ref g)]))) (fun _ k => XS.aloadN X0.here hx rfl (hb hby d5_0) rfl rfl k) ?_
 obtain ⟨T1, X1, e1, st1⟩ := initO X0 hx hZ hown (hw _ (List.mem_of_getElem? (i := 25) rfl)) (hw _ (List.mem_of_getElem? (i := 7) rfl)) (hw _ (List.mem_of_getElem? (i := 8) rfl)) e0 (g := (mkF m 1 #[.val (.ref g)] [(.ref g)])) rfl (by rw [hml]; rfl) rfl (hb hby d5_1) (by decide) (W := 0) (by show 2 * 0 + _ ≤ _; exact Nat.le_of_eq rfl) (by decide)
 refine own_go (b := (T1.setTop (mkF m 4 #[.val (.ref g)] []))) (fun _ k => st1 _ k) ?_
 obtain ⟨fs, hr, hrun, hended, hW, hsame⟩ := X1.leave (v := none) (fun _ => rfl)
 exact ⟨_, _, X1.returnOut hx Bd.returns (hb hby d5_4) hr, hrun, hended, _, _, rfl, (show Qrmos Z g h0 n0 _ T1.heap _ from (by rw [e1]; exact ⟨rfl, N0, rfl⟩)), ⟨_, rfl⟩, hW, hsame.mono (by decide) (by decide)⟩
theorem d4_0 : decode jdk_2005_method_2_code 0 = .ok (.aload_n 0, 1) := by decide +kernel
theorem d4_1 : decode jdk_2005_method_2_code 1 = .ok (.invokespecial 7, 3) := by decide +kernel
theorem d4_4 : decode jdk_2005_method_2_code 4 = .ok (.iload_n 1, 1) := by decide +kernel
theorem d4_5 : decode jdk_2005_method_2_code 5 = .ok (.ifCond .ge 30, 3) := by decide +kernel
theorem d4_8 : decode jdk_2005_method_2_code 8 = .ok (.new 12, 3) := by decide +kernel
theorem d4_11 : decode jdk_2005_method_2_code 11 = .ok (.dup, 1) := by decide +kernel
theorem d4_12 : decode jdk_2005_method_2_code 12 = .ok (.new 14, 3) := by decide +kernel
theorem d4_15 : decode jdk_2005_method_2_code 15 = .ok (.dup, 1) := by decide +kernel
theorem d4_16 : decode jdk_2005_method_2_code 16 = .ok (.invokespecial 16, 3) := by decide +kernel
theorem d4_19 : decode jdk_2005_method_2_code 19 = .ok (.ldc 17, 2) := by decide +kernel
theorem d4_21 : decode jdk_2005_method_2_code 21 = .ok (.invokevirtual 19, 3) := by decide +kernel
theorem d4_24 : decode jdk_2005_method_2_code 24 = .ok (.iload_n 1, 1) := by decide +kernel
theorem d4_25 : decode jdk_2005_method_2_code 25 = .ok (.invokevirtual 23, 3) := by decide +kernel
theorem d4_28 : decode jdk_2005_method_2_code 28 = .ok (.invokevirtual 26, 3) := by decide +kernel
theorem d4_31 : decode jdk_2005_method_2_code 31 = .ok (.invokespecial 30, 3) := by decide +kernel
theorem d4_34 : decode jdk_2005_method_2_code 34 = .ok (.athrow, 1) := by decide +kernel
theorem d4_35 : decode jdk_2005_method_2_code 35 = .ok (.aload_n 0, 1) := by decide +kernel
theorem d4_36 : decode jdk_2005_method_2_code 36 = .ok (.iload_n 1, 1) := by decide +kernel
theorem d4_37 : decode jdk_2005_method_2_code 37 = .ok (.newarray .byte, 2) := by decide +kernel
theorem d4_39 : decode jdk_2005_method_2_code 39 = .ok (.putfield 33, 3) := by decide +kernel
theorem d4_42 : decode jdk_2005_method_2_code 42 = .ok (.return_, 1) := by decide +kernel
theorem pd___V : parseMethodDescriptor "()V" = some ⟨[], none⟩ := by decide +kernel
theorem pn_4 : plainName "java/io/ByteArrayOutputStream" = true := by first | (simp [plainName, overriddenIn]; done) | decide +kernel
theorem ef_rmbi (m : MethodId) (x0 : Addr) (x1 : Int32) : entryFrame m #[(.ref x0), (.int x1)] 2 = mkF m 0 #[.val (.ref x0), .val (.int x1)] [] := by first | (simp [entryFrame, mkF, argsToLocals, Value.category]; done) | rfl
def Qrmbi (Z : State) (g : Addr) (h0 : Heap) (n0 : Nat) (v : Option Value) (h : Heap) (L : List Loc) : Prop := ∃ (bf : Addr) (kf : ClassId) (vs : List Value), v = none ∧ Fr n0 L ∧ Keep h0 h [g] ∧ (h0.size ≤ bf) ∧ (Fld Z h g "java/io/ByteArrayOutputStream" "buf" "[B" (.ref bf)) ∧ (Arv Z h bf kf .byte (32 : Int32) vs (.int (0 : Int32))) ∧ (vs.length = 32) ∧ (Unt h g) ∧ (Fld Z h g "java/io/ByteArrayOutputStream" "count" "I" (.int (0 : Int32)))
set_option maxRecDepth 65536 in
set_option maxHeartbeats 40000000 in
theorem rmbi (l : Launch) (Z : State) (a0 : Array Value) (hw : ∀ d ∈ tables_1, d.before a0 Z = true) (ws : List Jvm.Cond) (g : Addr) (h0 : Heap) (n0 : Nat) (Z0 : n0 ≤ h0.size) (E_g : Exa Z h0 g "java/io/ByteArrayOutputStream") (Fld_g_buf : Fld Z h0 g "java/io/ByteArrayOutputStream" "buf" "[B" .null) (Fld_g_count : Fld Z h0 g "java/io/ByteArrayOutputStream" "count" "I" (.int (0 : Int32))) (g_g : n0 ≤ g) (U_g : Unt h0 g) :
    MetFree l (⟨"java/io/ByteArrayOutputStream", "<init>", "(I)V"⟩ : MethodName) (head1 (Jvm.Cond.code (⟨"java/io/ByteArrayOutputStream", "<init>", "(I)V"⟩ : MethodName) jdk_2005_method_2_code 2 none :: ws) ({ frames := 2, cells := 1, slots := 32, locals := 24 } : Room)) (fun a U => a = #[(.ref g), (.int (32 : Int32))] ∧ Z.Warmed39 U.vm ∧ U.heap = h0) (fun _ _ _ _ _ => True) (fun _ U o U' => ∃ v L, o = .returned v ∧ Qrmbi Z g h0 n0 v U'.heap L ∧ FrameEnd U o U' L ({ frames := 2, cells := 1, slots := 32, locals := 24 } : Room).cells ({ frames := 2, cells := 1, slots := 32, locals := 24 } : Room).slots) := by
 refine MetFree.of_bodySF (plainFor_of_name pn_4) hisR ?_
 intro p e s m args below meth c s₁ Bd hml0 hP hK
 obtain ⟨rfl, hZ, hh⟩ := hP
 have hx := Bd.exec
 have hby := Bd.bytes
 have hml : c.maxLocals = 2 := hml0
 have hown : s.vm.findClass "java/io/ByteArrayOutputStream" = some m.cls := findClass_of_methodNamed Bd.named
 have hnm := (name_of_methodNamed Bd.named Bd.method).1
 have X0 : Stand p l e ({ frames := 2, cells := 1, slots := 32, locals := 24 } : Room) s m #[(.ref g), (.int (32 : Int32))] below meth c s₁ [] 0 0 := Stand.of_body Bd
 have e0 : s₁.heap = h0 := by rw [← hh, Bd.state]; rfl
 have N0 := Fr.nil n0
 refine own_go (b := (s₁.setTop (mkF m 0 #[.val (.ref g), .val (.int (32 : Int32))] []))) (fun _ k => castTop (ef_rmbi m g (32 : Int32)) k) ?_
 refine own_go (b := (s₁.setTop (mkF m 1 #[.val (.ref g), .val (.int (32 : Int32))] [(.ref g)]))) (fun _ k => XS.aloadN X0.here hx rfl (hb hby d4_0) rfl rfl k) ?_
 refine own_spec (W := 0) X0 hx hZ hown e0 (hw _ (List.mem_of_getElem? (i := 19) rfl)) (hw _ (List.mem_of_getElem? (i := 20) rfl)) (rmos l Z a0 hw [] g h0 n0 Z0) (hw _ (List.mem_of_getElem? (i := 24) rfl)) (hw _ (List.mem_of_getElem? (i := 23) rfl)) rfl (by rw [hml]; rfl) rfl (hb hby d4_1) (lenOf pd___V rfl) rfl rfl (by decide) (fun T1 v1 Ll1 X1 hQ1 => ?_)
 obtain ⟨rfl, N1q, eh1⟩ := hQ1
 have N1 := Fr.app N0 N1q
 refine own_go (b := (T1.setTop (mkF m 37 #[.val (.ref g), .val (.int (32 : Int32))] [(.int (32 : Int32)), (.ref g)]))) (fun _ k => XS.iloadN X1.here hx rfl (hb hby d4_4) rfl (XS.ifYes X1.here hx rfl (pc0 := 5) (pc' := 35) rfl (hb hby d4_5) rfl ((if0 _ _).trans (flt (by decide : ¬ ((32 : Int32) < (0 : Int32)))).2.1) (by decide) (by decide) (XS.aloadN X1.here hx rfl (hb hby d4_35) rfl rfl (XS.iloadN X1.here hx rfl (hb hby d4_36) rfl k)))) ?_
 obtain ⟨T2, h2, kl2, X2, e2, E2, A2, st2⟩ := newP X1 hx hZ (hw _ (List.mem_of_getElem? (i := 26) rfl)) eh1 (g := (mkF m 37 #[.val (.ref g), .val (.int (32 : Int32))] [(.int (32 : Int32)), (.ref g)])) rfl (hb hby d4_37) rfl (by decide) (cap := 32) (by decide) (by decide) (by decide) (by decide)
 obtain ⟨b2, g2⟩ : ∃ z, z = h0.size := ⟨_, rfl⟩
 rw [← g2] at A2 st2
 have Zs3 : n0 ≤ h2.size := Nat.le_trans Z0 E2.1
 have V2 : Arv Z h2 b2 kl2 .byte (32 : Int32) [(.int (0 : Int32)), (.int (0 : Int32)), (.int (0 : Int32)), (.int (0 : Int32)), (.int (0 : Int32)), (.int (0 : Int32)), (.int (0 : Int32)), (.int (0 : Int32)), (.int (0 : Int32)), (.int (0 : Int32)), (.int (0 : Int32)), (.int (0 : Int32)), (.int (0 : Int32)), (.int (0 : Int32)), (.int (0 : Int32)), (.int (0 : Int32)), (.int (0 : Int32)), (.int (0 : Int32)), (.int (0 : Int32)), (.int (0 : Int32)), (.int (0 : Int32)), (.int (0 : Int32)), (.int (0 : Int32)), (.int (0 : Int32)), (.int (0 : Int32)), (.int (0 : Int32)), (.int (0 : Int32)), (.int (0 : Int32)), (.int (0 : Int32)), (.int (0 : Int32)), (.int (0 : Int32)), (.int (0 : Int32))] (.int (0 : Int32)) := (Arv.new A2 (by decide)).pad (pad_rep [] (.int (0 : Int32)) 32)
 refine own_go (b := (T2.setTop (mkF m 39 #[.val (.ref g), .val (.int (32 : Int32))] [(.ref b2), (.ref g)]))) (fun _ k => st2 _ k) ?_
 have F4 := E_g.ext E2
 have F5 := Fld_g_buf.ext E2
 obtain ⟨T6, h6, X6, e6, W6, st6⟩ := putF X2 hx hZ hown (host := "") (Or.inl (hw _ (List.mem_of_getElem? (i := 27) rfl))) Via.refl e2 F5 F4 (Or.inl (hw _ (List.mem_of_getElem? (i := 28) rfl))) (hw _ (List.mem_of_getElem? (i := 10) rfl)) (ty := (.array .byte)) (by decide) rfl rfl (g := (mkF m 39 #[.val (.ref g), .val (.int (32 : Int32))] [(.ref b2), (.ref g)])) rfl rfl (hb hby d4_39)
 have N6 := Fr.snoc X6 N1 g_g
 have Zs7 : n0 ≤ h6.size := Nat.le_trans Zs3 (Keep.of_wr W6).1
 have F6 : Fld Z h6 g "java/io/ByteArrayOutputStream" "buf" "[B" (.ref b2) := F5.same W6
 refine own_go (b := (T6.setTop (mkF m 42 #[.val (.ref g), .val (.int (32 : Int32))] []))) (fun _ k => st6 _ k) ?_
 have K8 := (Keep.refl h0 [g]).ext E2
 have K9 := K8.wr W6 (Or.inl (List.mem_of_getElem? (i := 0) rfl))
 have nx10 : b2 ≠ g := (Ne.symm (own_ne E_g.lt (Nat.le_refl _) (Nat.le_of_eq g2.symm)))
 have F11 := V2.other W6 nx10
 have F12 := U_g.ext E2
 have F13 := F12.wr W6
 have F14 := Fld_g_count.ext E2
 have F15 := F14.other W6 (Or.inr (slot_ne (Or.inl (hw _ (List.mem_of_getElem? (i := 57) rfl))) (Or.inl (hw _ (List.mem_of_getElem? (i := 28) rfl))) (by decide) (t := .int) (t' := (.array .byte)) (by decide) (by decide)))
 obtain ⟨fs, hr, hrun, hended, hW, hsame⟩ := X6.leave (v := none) (fun _ => rfl)
 exact ⟨_, _, X6.returnOut hx Bd.returns (hb hby d4_42) hr, hrun, hended, _, _, rfl, (show Qrmbi Z g h0 n0 _ T6.heap _ from (by rw [e6]; exact ⟨b2, kl2, [(.int (0 : Int32)), (.int (0 : Int32)), (.int (0 : Int32)), (.int (0 : Int32)), (.int (0 : Int32)), (.int (0 : Int32)), (.int (0 : Int32)), (.int (0 : Int32)), (.int (0 : Int32)), (.int (0 : Int32)), (.int (0 : Int32)), (.int (0 : Int32)), (.int (0 : Int32)), (.int (0 : Int32)), (.int (0 : Int32)), (.int (0 : Int32)), (.int (0 : Int32)), (.int (0 : Int32)), (.int (0 : Int32)), (.int (0 : Int32)), (.int (0 : Int32)), (.int (0 : Int32)), (.int (0 : Int32)), (.int (0 : Int32)), (.int (0 : Int32)), (.int (0 : Int32)), (.int (0 : Int32)), (.int (0 : Int32)), (.int (0 : Int32)), (.int (0 : Int32)), (.int (0 : Int32)), (.int (0 : Int32))], rfl, N6, K9, (Nat.le_trans (Nat.le_refl _) (Nat.le_of_eq g2.symm)), F6, F11, rfl, F13, F15⟩)), ⟨_, rfl⟩, hW, hsame.mono (by decide) (by decide)⟩
theorem d3_0 : decode jdk_2005_method_1_code 0 = .ok (.aload_n 0, 1) := by decide +kernel
theorem d3_1 : decode jdk_2005_method_1_code 1 = .ok (.bipush 32, 2) := by decide +kernel
theorem d3_3 : decode jdk_2005_method_1_code 3 = .ok (.invokespecial 1, 3) := by decide +kernel
theorem d3_6 : decode jdk_2005_method_1_code 6 = .ok (.return_, 1) := by decide +kernel
theorem pd__I_V : parseMethodDescriptor "(I)V" = some ⟨[.int], none⟩ := by decide +kernel
theorem pn_3 : plainName "java/io/ByteArrayOutputStream" = true := by first | (simp [plainName, overriddenIn]; done) | decide +kernel
theorem ef_rmb0 (m : MethodId) (x0 : Addr) : entryFrame m #[(.ref x0)] 1 = mkF m 0 #[.val (.ref x0)] [] := by first | (simp [entryFrame, mkF, argsToLocals, Value.category]; done) | rfl
def Qrmb0 (Z : State) (g : Addr) (h0 : Heap) (n0 : Nat) (v : Option Value) (h : Heap) (L : List Loc) : Prop := ∃ (bf : Addr) (kf : ClassId) (vs : List Value), v = none ∧ Fr n0 L ∧ Keep h0 h [g] ∧ (h0.size ≤ bf) ∧ (Fld Z h g "java/io/ByteArrayOutputStream" "buf" "[B" (.ref bf)) ∧ (Arv Z h bf kf .byte (32 : Int32) vs (.int (0 : Int32))) ∧ (vs.length = 32) ∧ (Unt h g) ∧ (Fld Z h g "java/io/ByteArrayOutputStream" "count" "I" (.int (0 : Int32)))
set_option maxRecDepth 65536 in
set_option maxHeartbeats 40000000 in
theorem rmb0 (l : Launch) (Z : State) (a0 : Array Value) (hw : ∀ d ∈ tables_1, d.before a0 Z = true) (ws : List Jvm.Cond) (g : Addr) (h0 : Heap) (n0 : Nat) (Z0 : n0 ≤ h0.size) (E_g : Exa Z h0 g "java/io/ByteArrayOutputStream") (Fld_g_buf : Fld Z h0 g "java/io/ByteArrayOutputStream" "buf" "[B" .null) (Fld_g_count : Fld Z h0 g "java/io/ByteArrayOutputStream" "count" "I" (.int (0 : Int32))) (g_g : n0 ≤ g) (U_g : Unt h0 g) :
    MetFree l (⟨"java/io/ByteArrayOutputStream", "<init>", "()V"⟩ : MethodName) (head1 (Jvm.Cond.code (⟨"java/io/ByteArrayOutputStream", "<init>", "()V"⟩ : MethodName) jdk_2005_method_1_code 1 none :: ws) ({ frames := 3, cells := 1, slots := 32, locals := 37 } : Room)) (fun a U => a = #[(.ref g)] ∧ Z.Warmed39 U.vm ∧ U.heap = h0) (fun _ _ _ _ _ => True) (fun _ U o U' => ∃ v L, o = .returned v ∧ Qrmb0 Z g h0 n0 v U'.heap L ∧ FrameEnd U o U' L ({ frames := 3, cells := 1, slots := 32, locals := 37 } : Room).cells ({ frames := 3, cells := 1, slots := 32, locals := 37 } : Room).slots) := by
 refine MetFree.of_bodySF (plainFor_of_name pn_3) hisR ?_
 intro p e s m args below meth c s₁ Bd hml0 hP hK
 obtain ⟨rfl, hZ, hh⟩ := hP
 have hx := Bd.exec
 have hby := Bd.bytes
 have hml : c.maxLocals = 1 := hml0
 have hown : s.vm.findClass "java/io/ByteArrayOutputStream" = some m.cls := findClass_of_methodNamed Bd.named
 have hnm := (name_of_methodNamed Bd.named Bd.method).1
 have X0 : Stand p l e ({ frames := 3, cells := 1, slots := 32, locals := 37 } : Room) s m #[(.ref g)] below meth c s₁ [] 0 0 := Stand.of_body Bd
 have e0 : s₁.heap = h0 := by rw [← hh, Bd.state]; rfl
 have N0 := Fr.nil n0
 refine own_go (b := (s₁.setTop (mkF m 0 #[.val (.ref g)] []))) (fun _ k => castTop (ef_rmb0 m g) k) ?_
 refine own_go (b := (s₁.setTop (mkF m 3 #[.val (.ref g)] [(.int (32 : Int32)), (.ref g)]))) (fun _ k => XS.aloadN X0.here hx rfl (hb hby d3_0) rfl rfl (XS.bipush X0.here hx rfl (hb hby d3_1) k)) ?_
 refine own_spec (W := 0) X0 hx hZ hown e0 (hw _ (List.mem_of_getElem? (i := 15) rfl)) (hw _ (List.mem_of_getElem? (i := 16) rfl)) (rmbi l Z a0 hw [] g h0 n0 Z0 E_g Fld_g_buf Fld_g_count g_g U_g) (hw _ (List.mem_of_getElem? (i := 18) rfl)) (hw _ (List.mem_of_getElem? (i := 11) rfl)) rfl (by rw [hml]; rfl) rfl (hb hby d3_3) (lenOf pd__I_V rfl) rfl rfl (by decide) (fun T1 v1 Ll1 X1 hQ1 => ?_)
 obtain ⟨bf_1, kf_1, vs_1, rfl, N1q, K1, P1_0, P1_1, P1_2, P1_3, P1_4, P1_5⟩ := hQ1
 have N1 := Fr.app N0 N1q
 have Zs2 : n0 ≤ T1.heap.size := Nat.le_trans Z0 K1.1
 have K3 := (Keep.refl h0 [g]).trans K1 (allS (Or.inl (List.mem_of_getElem? (i := 0) rfl)) all0)
 obtain ⟨fs, hr, hrun, hended, hW, hsame⟩ := X1.leave (v := none) (fun _ => rfl)
 exact ⟨_, _, X1.returnOut hx Bd.returns (hb hby d3_6) hr, hrun, hended, _, _, rfl, (show Qrmb0 Z g h0 n0 _ T1.heap _ from (by exact ⟨bf_1, kf_1, vs_1, rfl, N1, K3, (Nat.le_trans (Nat.le_refl _) P1_0), P1_1, P1_2, P1_3, P1_4, P1_5⟩)), ⟨_, rfl⟩, hW, hsame.mono (by decide) (by decide)⟩
theorem d1_0 : decode prog_21_method_1_code 0 = .ok (.aload_n 0, 1) := by decide +kernel
theorem d1_1 : decode prog_21_method_1_code 1 = .ok (.invokespecial 1, 3) := by decide +kernel
theorem d1_4 : decode prog_21_method_1_code 4 = .ok (.aload_n 0, 1) := by decide +kernel
theorem d1_5 : decode prog_21_method_1_code 5 = .ok (.new 7, 3) := by decide +kernel
theorem d1_8 : decode prog_21_method_1_code 8 = .ok (.dup, 1) := by decide +kernel
theorem d1_9 : decode prog_21_method_1_code 9 = .ok (.invokespecial 9, 3) := by decide +kernel
theorem d1_12 : decode prog_21_method_1_code 12 = .ok (.putfield 10, 3) := by decide +kernel
theorem d1_15 : decode prog_21_method_1_code 15 = .ok (.aload_n 0, 1) := by decide +kernel
theorem d1_16 : decode prog_21_method_1_code 16 = .ok (.iconst (-1), 1) := by decide +kernel
theorem d1_17 : decode prog_21_method_1_code 17 = .ok (.putfield 16, 3) := by decide +kernel
theorem d1_20 : decode prog_21_method_1_code 20 = .ok (.return_, 1) := by decide +kernel
theorem pn_1 : plainName "com/example/urd/urd/documents/Postings$Ascending" = true := by first | (simp [plainName, overriddenIn]; done) | decide +kernel
theorem ef_rmai (m : MethodId) (x0 : Addr) : entryFrame m #[(.ref x0)] 1 = mkF m 0 #[.val (.ref x0)] [] := by first | (simp [entryFrame, mkF, argsToLocals, Value.category]; done) | rfl
def Qrmai (Z : State) (a1 : Addr) (h0 : Heap) (n0 : Nat) (v : Option Value) (h : Heap) (L : List Loc) : Prop := ∃ (g : Addr) (bf : Addr) (kf : ClassId) (vs : List Value), v = none ∧ Fr n0 L ∧ Keep h0 h [a1] ∧ (Fld Z h a1 "com/example/urd/urd/documents/Postings$Ascending" "gaps" "Ljava/io/ByteArrayOutputStream;" (.ref g)) ∧ (Fld Z h a1 "com/example/urd/urd/documents/Postings$Ascending" "last" "I" (.int (-1 : Int32))) ∧ (Fld Z h a1 "com/example/urd/urd/documents/Postings$Ascending" "count" "I" (.int (0 : Int32))) ∧ (h0.size ≤ g) ∧ (h0.size ≤ bf) ∧ (Exa Z h g "java/io/ByteArrayOutputStream") ∧ (Fld Z h g "java/io/ByteArrayOutputStream" "buf" "[B" (.ref bf)) ∧ (Fld Z h g "java/io/ByteArrayOutputStream" "count" "I" (.int (0 : Int32))) ∧ (Arv Z h bf kf .byte (32 : Int32) vs (.int (0 : Int32))) ∧ (vs.length = 32) ∧ (Unt h g)
set_option maxRecDepth 65536 in
set_option maxHeartbeats 40000000 in
theorem rmai (l : Launch) (Z : State) (a0 : Array Value) (hw : ∀ d ∈ tables_1, d.before a0 Z = true) (ws : List Jvm.Cond) (a1 : Addr) (h0 : Heap) (n0 : Nat) (Z0 : n0 ≤ h0.size) (E_a1 : Exa Z h0 a1 "com/example/urd/urd/documents/Postings$Ascending") (Fld_a1_gaps : Fld Z h0 a1 "com/example/urd/urd/documents/Postings$Ascending" "gaps" "Ljava/io/ByteArrayOutputStream;" .null) (Fld_a1_last : Fld Z h0 a1 "com/example/urd/urd/documents/Postings$Ascending" "last" "I" (.int (0 : Int32))) (Fld_a1_count : Fld Z h0 a1 "com/example/urd/urd/documents/Postings$Ascending" "count" "I" (.int (0 : Int32))) (g_a1 : n0 ≤ a1) :
    MetFree l (⟨"com/example/urd/urd/documents/Postings$Ascending", "<init>", "()V"⟩ : MethodName) (head1 (Jvm.Cond.code (⟨"com/example/urd/urd/documents/Postings$Ascending", "<init>", "()V"⟩ : MethodName) prog_21_method_1_code 1 none :: ws) ({ frames := 4, cells := 2, slots := 34, locals := 51 } : Room)) (fun a U => a = #[(.ref a1)] ∧ Z.Warmed39 U.vm ∧ U.heap = h0) (fun _ _ _ _ _ => True) (fun _ U o U' => ∃ v L, o = .returned v ∧ Qrmai Z a1 h0 n0 v U'.heap L ∧ FrameEnd U o U' L ({ frames := 4, cells := 2, slots := 34, locals := 51 } : Room).cells ({ frames := 4, cells := 2, slots := 34, locals := 51 } : Room).slots) := by
 refine MetFree.of_bodySF (plainFor_of_name pn_1) hisR ?_
 intro p e s m args below meth c s₁ Bd hml0 hP hK
 obtain ⟨rfl, hZ, hh⟩ := hP
 have hx := Bd.exec
 have hby := Bd.bytes
 have hml : c.maxLocals = 1 := hml0
 have hown : s.vm.findClass "com/example/urd/urd/documents/Postings$Ascending" = some m.cls := findClass_of_methodNamed Bd.named
 have hnm := (name_of_methodNamed Bd.named Bd.method).1
 have X0 : Stand p l e ({ frames := 4, cells := 2, slots := 34, locals := 51 } : Room) s m #[(.ref a1)] below meth c s₁ [] 0 0 := Stand.of_body Bd
 have e0 : s₁.heap = h0 := by rw [← hh, Bd.state]; rfl
 have N0 := Fr.nil n0
 refine own_go (b := (s₁.setTop (mkF m 0 #[.val (.ref a1)] []))) (fun _ k => castTop (ef_rmai m a1) k) ?_
 refine own_go (b := (s₁.setTop (mkF m 1 #[.val (.ref a1)] [(.ref a1)]))) (fun _ k => XS.aloadN X0.here hx rfl (hb hby d1_0) rfl rfl k) ?_
 obtain ⟨T1, X1, e1, st1⟩ := initO X0 hx hZ hown (hw _ (List.mem_of_getElem? (i := 6) rfl)) (hw _ (List.mem_of_getElem? (i := 7) rfl)) (hw _ (List.mem_of_getElem? (i := 8) rfl)) e0 (g := (mkF m 1 #[.val (.ref a1)] [(.ref a1)])) rfl (by rw [hml]; rfl) rfl (hb hby d1_1) (by decide) (W := 0) (by show 2 * 0 + _ ≤ _; exact Nat.le_of_eq rfl) (by decide)
 refine own_go (b := (T1.setTop (mkF m 5 #[.val (.ref a1)] [(.ref a1)]))) (fun _ k => st1 _ (XS.aloadN X1.here hx rfl (hb hby d1_4) rfl rfl k)) ?_
 obtain ⟨T2, h2, X2, e2, E2, A2, D2, Un2, st2⟩ := newO X1 hx hZ hown (hw _ (List.mem_of_getElem? (i := 9) rfl)) (hw _ (List.mem_of_getElem? (i := 10) rfl)) (hw _ (List.mem_of_getElem? (i := 11) rfl)) e1 (g := (mkF m 5 #[.val (.ref a1)] [(.ref a1)])) rfl (hb hby d1_5) (by decide) (by decide)
 obtain ⟨b2, g2⟩ : ∃ z, z = h0.size := ⟨_, rfl⟩
 rw [← g2] at A2 D2 Un2 st2
 have Zs3 : n0 ≤ h2.size := Nat.le_trans Z0 E2.1
 have F2_buf : Fld Z h2 b2 "java/io/ByteArrayOutputStream" "buf" "[B" .null := D2 (Or.inl (hw _ (List.mem_of_getElem? (i := 28) rfl))) (ty := (.array .byte)) (by decide)
 have F2_count : Fld Z h2 b2 "java/io/ByteArrayOutputStream" "count" "I" (.int (0 : Int32)) := D2 (Or.inl (hw _ (List.mem_of_getElem? (i := 57) rfl))) (ty := .int) (by decide)
 refine own_go (b := (T2.setTop (mkF m 9 #[.val (.ref a1)] [(.ref b2), (.ref b2), (.ref a1)]))) (fun _ k => st2 _ (XS.dup X2.here hx rfl (hb hby d1_8) rfl rfl k)) ?_
 have gx5 : n0 ≤ b2 := Nat.le_trans Z0 (Nat.le_of_eq g2.symm)
 refine own_spec (W := 2) X2 hx hZ hown e2 (hw _ (List.mem_of_getElem? (i := 12) rfl)) (hw _ (List.mem_of_getElem? (i := 13) rfl)) (rmb0 l Z a0 hw [] b2 h2 n0 Zs3 A2 F2_buf F2_count gx5 Un2) (hw _ (List.mem_of_getElem? (i := 14) rfl)) (hw _ (List.mem_of_getElem? (i := 11) rfl)) rfl (by rw [hml]; rfl) rfl (hb hby d1_9) (lenOf pd___V rfl) rfl rfl (by decide) (fun T4 v4 Ll4 X4 hQ4 => ?_)
 obtain ⟨bf_4, kf_4, vs_4, rfl, N4q, K4, P4_0, P4_1, P4_2, P4_3, P4_4, P4_5⟩ := hQ4
 have N4 := Fr.app N0 N4q
 have Zs6 : n0 ≤ T4.heap.size := Nat.le_trans Zs3 K4.1
 have F7 := E_a1.ext E2
 have F8 := F7.keep K4
 have F9 := Fld_a1_gaps.ext E2
 have nx10 : a1 ≠ b2 := (own_ne E_a1.lt (Nat.le_refl _) (Nat.le_of_eq g2.symm))
 have F11 := F9.keep K4 (ninS nx10 nin0)
 obtain ⟨T12, h12, X12, e12, W12, st12⟩ := putF X4 hx hZ hown (host := "") (Or.inl (hw _ (List.mem_of_getElem? (i := 29) rfl))) Via.refl rfl F11 F8 (Or.inr ⟨(hw _ (List.mem_of_getElem? (i := 30) rfl)), rfl, hnm⟩) (hw _ (List.mem_of_getElem? (i := 1) rfl)) (ty := (.object "java/io/ByteArrayOutputStream")) (by decide) rfl rfl (g := (mkF m 12 #[.val (.ref a1)] [(.ref b2), (.ref a1)])) rfl rfl (hb hby d1_12)
 have N12 := Fr.snoc X12 N4 g_a1
 have Zs13 : n0 ≤ h12.size := Nat.le_trans Zs6 (Keep.of_wr W12).1
 have F12 : Fld Z h12 a1 "com/example/urd/urd/documents/Postings$Ascending" "gaps" "Ljava/io/ByteArrayOutputStream;" (.ref b2) := F11.same W12
 refine own_go (b := (T12.setTop (mkF m 17 #[.val (.ref a1)] [(.int (-1 : Int32)), (.ref a1)]))) (fun _ k => st12 _ (XS.aloadN X12.here hx rfl (hb hby d1_15) rfl rfl (XS.iconst X12.here hx rfl (hb hby d1_16) k))) ?_
 have F14 := F8.wr W12
 have F15 := Fld_a1_last.ext E2
 have F16 := F15.keep K4 (ninS nx10 nin0)
 have F17 := F16.other W12 (Or.inr (slot_ne (Or.inl (hw _ (List.mem_of_getElem? (i := 32) rfl))) (Or.inr (hw _ (List.mem_of_getElem? (i := 30) rfl))) (by decide) (t := .int) (t' := (.object "java/io/ByteArrayOutputStream")) (by decide) (by decide)))
 obtain ⟨T18, h18, X18, e18, W18, st18⟩ := putF X12 hx hZ hown (host := "") (Or.inl (hw _ (List.mem_of_getElem? (i := 31) rfl))) Via.refl e12 F17 F14 (Or.inl (hw _ (List.mem_of_getElem? (i := 32) rfl))) (hw _ (List.mem_of_getElem? (i := 1) rfl)) (ty := .int) (by decide) rfl rfl (g := (mkF m 17 #[.val (.ref a1)] [(.int (-1 : Int32)), (.ref a1)])) rfl rfl (hb hby d1_17)
 have N18 := Fr.snoc X18 N12 g_a1
 have Zs19 : n0 ≤ h18.size := Nat.le_trans Zs13 (Keep.of_wr W18).1
 have F18 : Fld Z h18 a1 "com/example/urd/urd/documents/Postings$Ascending" "last" "I" (.int (-1 : Int32)) := F17.same W18
 refine own_go (b := (T18.setTop (mkF m 20 #[.val (.ref a1)] []))) (fun _ k => st18 _ k) ?_
 have K20 := (Keep.refl h0 [a1]).ext E2
 have K21 := K20.trans K4 (allS (Or.inr (Nat.le_trans (Nat.le_refl _) (Nat.le_of_eq g2.symm))) all0)
 have K22 := K21.wr W12 (Or.inl (List.mem_of_getElem? (i := 0) rfl))
 have K23 := K22.wr W18 (Or.inl (List.mem_of_getElem? (i := 0) rfl))
 have F24 := F12.other W18 (Or.inr (slot_ne (Or.inr (hw _ (List.mem_of_getElem? (i := 30) rfl))) (Or.inl (hw _ (List.mem_of_getElem? (i := 32) rfl))) (by decide) (t := (.object "java/io/ByteArrayOutputStream")) (t' := .int) (by decide) (by decide)))
 have F25 := Fld_a1_count.ext E2
 have F26 := F25.keep K4 (ninS nx10 nin0)
 have F27 := F26.other W12 (Or.inr (slot_ne (Or.inl (hw _ (List.mem_of_getElem? (i := 39) rfl))) (Or.inr (hw _ (List.mem_of_getElem? (i := 30) rfl))) (by decide) (t := .int) (t' := (.object "java/io/ByteArrayOutputStream")) (by decide) (by decide)))
 have F28 := F27.other W18 (Or.inr (slot_ne (Or.inl (hw _ (List.mem_of_getElem? (i := 39) rfl))) (Or.inl (hw _ (List.mem_of_getElem? (i := 32) rfl))) (by decide) (t := .int) (t' := .int) (by decide) (by decide)))
 have F29 := A2.keep K4
 have F30 := F29.wr W12
 have F31 := F30.wr W18
 have F32 := P4_1.other W12 (Or.inl (Ne.symm nx10))
 have F33 := F32.other W18 (Or.inl (Ne.symm nx10))
 have F34 := P4_5.other W12 (Or.inl (Ne.symm nx10))
 have F35 := F34.other W18 (Or.inl (Ne.symm nx10))
 have nx36 : bf_4 ≠ a1 := (Ne.symm (own_ne E_a1.lt E2.1 P4_0))
 have F37 := P4_2.other W12 nx36
 have F38 := F37.other W18 nx36
 have F39 := P4_4.wr W12
 have F40 := F39.wr W18
 obtain ⟨fs, hr, hrun, hended, hW, hsame⟩ := X18.leave (v := none) (fun _ => rfl)
 exact ⟨_, _, X18.returnOut hx Bd.returns (hb hby d1_20) hr, hrun, hended, _, _, rfl, (show Qrmai Z a1 h0 n0 _ T18.heap _ from (by rw [e18]; exact ⟨b2, bf_4, kf_4, vs_4, rfl, N18, K23, F24, F18, F28, (Nat.le_trans (Nat.le_refl _) (Nat.le_of_eq g2.symm)), (Nat.le_trans E2.1 P4_0), F31, F33, F35, F38, P4_3, F40⟩)), ⟨_, rfl⟩, hW, hsame.mono (by decide) (by decide)⟩
theorem d6_0 : decode prog_21_method_3_code 0 = .ok (.aload_n 0, 1) := by decide +kernel
theorem d6_1 : decode prog_21_method_3_code 1 = .ok (.getfield 26, 3) := by decide +kernel
theorem d6_4 : decode prog_21_method_3_code 4 = .ok (.ifCond .ne 7, 3) := by decide +kernel
theorem d6_7 : decode prog_21_method_3_code 7 = .ok (.iconst 1, 1) := by decide +kernel
theorem d6_8 : decode prog_21_method_3_code 8 = .ok (.goto 4, 3) := by decide +kernel
theorem d6_11 : decode prog_21_method_3_code 11 = .ok (.iconst 0, 1) := by decide +kernel
theorem d6_12 : decode prog_21_method_3_code 12 = .ok (.ireturn, 1) := by decide +kernel
theorem pn_6 : plainName "com/example/urd/urd/documents/Postings$Ascending" = true := by first | (simp [plainName, overriddenIn]; done) | decide +kernel
theorem ef_rmT (m : MethodId) (x0 : Addr) : entryFrame m #[(.ref x0)] 1 = mkF m 0 #[.val (.ref x0)] [] := by first | (simp [entryFrame, mkF, argsToLocals, Value.category]; done) | rfl
def QrmT (Z : State) (a1 : Addr) (h0 : Heap) (n0 : Nat) (v : Option Value) (h : Heap) (L : List Loc) : Prop := v = some (.int (1 : Int32)) ∧ Fr n0 L ∧ h = h0
set_option maxRecDepth 65536 in
set_option maxHeartbeats 40000000 in
theorem rmT (l : Launch) (Z : State) (a0 : Array Value) (hw : ∀ d ∈ tables_1, d.before a0 Z = true) (ws : List Jvm.Cond) (a1 : Addr) (h0 : Heap) (n0 : Nat) (Z0 : n0 ≤ h0.size) (Fld_a1_count : Fld Z h0 a1 "com/example/urd/urd/documents/Postings$Ascending" "count" "I" (.int (0 : Int32))) :
    MetFree l (⟨"com/example/urd/urd/documents/Postings$Ascending", "isEmpty", "()Z"⟩ : MethodName) (head1 (Jvm.Cond.code (⟨"com/example/urd/urd/documents/Postings$Ascending", "isEmpty", "()Z"⟩ : MethodName) prog_21_method_3_code 1 (some .boolean) :: ws) ({ frames := 0, cells := 0, slots := 0, locals := 0 } : Room)) (fun a U => a = #[(.ref a1)] ∧ Z.Warmed39 U.vm ∧ U.heap = h0) (fun _ _ _ _ _ => True) (fun _ U o U' => ∃ v L, o = .returned v ∧ QrmT Z a1 h0 n0 v U'.heap L ∧ FrameEnd U o U' L ({ frames := 0, cells := 0, slots := 0, locals := 0 } : Room).cells ({ frames := 0, cells := 0, slots := 0, locals := 0 } : Room).slots) := by
 refine MetFree.of_bodySF (plainFor_of_name pn_6) hisR ?_
 intro p e s m args below meth c s₁ Bd hml0 hP hK
 obtain ⟨rfl, hZ, hh⟩ := hP
 have hx := Bd.exec
 have hby := Bd.bytes
 have hml : c.maxLocals = 1 := hml0
 have hown : s.vm.findClass "com/example/urd/urd/documents/Postings$Ascending" = some m.cls := findClass_of_methodNamed Bd.named
 have hnm := (name_of_methodNamed Bd.named Bd.method).1
 have X0 : Stand p l e ({ frames := 0, cells := 0, slots := 0, locals := 0 } : Room) s m #[(.ref a1)] below meth c s₁ [] 0 0 := Stand.of_body Bd
 have e0 : s₁.heap = h0 := by rw [← hh, Bd.state]; rfl
 have N0 := Fr.nil n0
 refine own_go (b := (s₁.setTop (mkF m 0 #[.val (.ref a1)] []))) (fun _ k => castTop (ef_rmT m a1) k) ?_
 refine own_go (b := (s₁.setTop (mkF m 1 #[.val (.ref a1)] [(.ref a1)]))) (fun _ k => XS.aloadN X0.here hx rfl (hb hby d6_0) rfl rfl k) ?_
 refine own_getf X0 hx hZ hown (hw _ (List.mem_of_getElem? (i := 38) rfl)) Via.refl e0 Fld_a1_count rfl rfl (hb hby d6_1) (fun T1 X1 e1 => ?_)
 refine own_go (b := (T1.setTop (mkF m 12 #[.val (.ref a1)] [(.int (1 : Int32))]))) (fun _ k => XS.ifNo X1.here hx rfl (hb hby d6_4) rfl ((if0 _ _).trans (teq (rfl : (0 : Int32) = (0 : Int32))).2) (XS.iconst X1.here hx rfl (hb hby d6_7) (XS.goto X1.here hx rfl (pc0 := 8) (pc' := 12) rfl (hb hby d6_8) (by decide) (by decide) k))) ?_
 obtain ⟨fs, hr, hrun, hended, hW, hsame⟩ := X1.leave (v := some (.int (1 : Int32))) (fun h => by rw [Bd.returns] at h; cases h)
 exact ⟨_, _, retN X1 hx (t := .boolean) Bd.returns (by simp) (hb hby d6_12) hr, hrun, hended, _, _, rfl, (show QrmT Z a1 h0 n0 _ T1.heap _ from (by rw [e1]; exact ⟨rfl, N0, rfl⟩)), ⟨_, rfl⟩, hW, hsame.mono (by decide) (by decide)⟩
theorem ef_rmF (m : MethodId) (x0 : Addr) : entryFrame m #[(.ref x0)] 1 = mkF m 0 #[.val (.ref x0)] [] := by first | (simp [entryFrame, mkF, argsToLocals, Value.category]; done) | rfl
def QrmF (Z : State) (a1 : Addr) (kt : Int32) (h0 : Heap) (n0 : Nat) (v : Option Value) (h : Heap) (L : List Loc) : Prop := v = some (.int (0 : Int32)) ∧ Fr n0 L ∧ h = h0
set_option maxRecDepth 65536 in
set_option maxHeartbeats 40000000 in
theorem rmF (l : Launch) (Z : State) (a0 : Array Value) (hw : ∀ d ∈ tables_1, d.before a0 Z = true) (ws : List Jvm.Cond) (a1 : Addr) (kt : Int32) (h0 : Heap) (n0 : Nat) (Z0 : n0 ≤ h0.size) (Fld_a1_count : Fld Z h0 a1 "com/example/urd/urd/documents/Postings$Ascending" "count" "I" (.int kt)) (hk : ¬ (kt = (0 : Int32))) :
    MetFree l (⟨"com/example/urd/urd/documents/Postings$Ascending", "isEmpty", "()Z"⟩ : MethodName) (head1 (Jvm.Cond.code (⟨"com/example/urd/urd/documents/Postings$Ascending", "isEmpty", "()Z"⟩ : MethodName) prog_21_method_3_code 1 (some .boolean) :: ws) ({ frames := 0, cells := 0, slots := 0, locals := 0 } : Room)) (fun a U => a = #[(.ref a1)] ∧ Z.Warmed39 U.vm ∧ U.heap = h0) (fun _ _ _ _ _ => True) (fun _ U o U' => ∃ v L, o = .returned v ∧ QrmF Z a1 kt h0 n0 v U'.heap L ∧ FrameEnd U o U' L ({ frames := 0, cells := 0, slots := 0, locals := 0 } : Room).cells ({ frames := 0, cells := 0, slots := 0, locals := 0 } : Room).slots) := by
 refine MetFree.of_bodySF (plainFor_of_name pn_6) hisR ?_
 intro p e s m args below meth c s₁ Bd hml0 hP hK
 obtain ⟨rfl, hZ, hh⟩ := hP
 have hx := Bd.exec
 have hby := Bd.bytes
 have hml : c.maxLocals = 1 := hml0
 have hown : s.vm.findClass "com/example/urd/urd/documents/Postings$Ascending" = some m.cls := findClass_of_methodNamed Bd.named
 have hnm := (name_of_methodNamed Bd.named Bd.method).1
 have X0 : Stand p l e ({ frames := 0, cells := 0, slots := 0, locals := 0 } : Room) s m #[(.ref a1)] below meth c s₁ [] 0 0 := Stand.of_body Bd
 have e0 : s₁.heap = h0 := by rw [← hh, Bd.state]; rfl
 have N0 := Fr.nil n0
 refine own_go (b := (s₁.setTop (mkF m 0 #[.val (.ref a1)] []))) (fun _ k => castTop (ef_rmF m a1) k) ?_
 refine own_go (b := (s₁.setTop (mkF m 1 #[.val (.ref a1)] [(.ref a1)]))) (fun _ k => XS.aloadN X0.here hx rfl (hb hby d6_0) rfl rfl k) ?_
 refine own_getf X0 hx hZ hown (hw _ (List.mem_of_getElem? (i := 38) rfl)) Via.refl e0 Fld_a1_count rfl rfl (hb hby d6_1) (fun T1 X1 e1 => ?_)
 refine own_go (b := (T1.setTop (mkF m 12 #[.val (.ref a1)] [(.int (0 : Int32))]))) (fun _ k => XS.ifYes X1.here hx rfl (pc0 := 4) (pc' := 11) rfl (hb hby d6_4) rfl ((if0 _ _).trans (feq hk).2) (by decide) (by decide) (XS.iconst X1.here hx rfl (hb hby d6_11) k)) ?_
 obtain ⟨fs, hr, hrun, hended, hW, hsame⟩ := X1.leave (v := some (.int (0 : Int32))) (fun h => by rw [Bd.returns] at h; cases h)
 exact ⟨_, _, retN X1 hx (t := .boolean) Bd.returns (by simp) (hb hby d6_12) hr, hrun, hended, _, _, rfl, (show QrmF Z a1 kt h0 n0 _ T1.heap _ from (by rw [e1]; exact ⟨rfl, N0, rfl⟩)), ⟨_, rfl⟩, hW, hsame.mono (by decide) (by decide)⟩
theorem d9_0 : decode jdk_2005_method_3_code 0 = .ok (.aload_n 0, 1) := by decide +kernel
theorem d9_1 : decode jdk_2005_method_3_code 1 = .ok (.getfield 33, 3) := by decide +kernel
theorem d9_4 : decode jdk_2005_method_3_code 4 = .ok (.arraylength, 1) := by decide +kernel
theorem d9_5 : decode jdk_2005_method_3_code 5 = .ok (.istore_n 2, 1) := by decide +kernel
theorem d9_6 : decode jdk_2005_method_3_code 6 = .ok (.iload_n 1, 1) := by decide +kernel
theorem d9_7 : decode jdk_2005_method_3_code 7 = .ok (.iload_n 2, 1) := by decide +kernel
theorem d9_8 : decode jdk_2005_method_3_code 8 = .ok (.isub, 1) := by decide +kernel
theorem d9_9 : decode jdk_2005_method_3_code 9 = .ok (.istore_n 3, 1) := by decide +kernel
theorem d9_10 : decode jdk_2005_method_3_code 10 = .ok (.iload_n 3, 1) := by decide +kernel
theorem d9_11 : decode jdk_2005_method_3_code 11 = .ok (.ifCond .le 20, 3) := by decide +kernel
theorem d9_14 : decode jdk_2005_method_3_code 14 = .ok (.aload_n 0, 1) := by decide +kernel
theorem d9_15 : decode jdk_2005_method_3_code 15 = .ok (.aload_n 0, 1) := by decide +kernel
theorem d9_16 : decode jdk_2005_method_3_code 16 = .ok (.getfield 33, 3) := by decide +kernel
theorem d9_19 : decode jdk_2005_method_3_code 19 = .ok (.iload_n 2, 1) := by decide +kernel
theorem d9_20 : decode jdk_2005_method_3_code 20 = .ok (.iload_n 3, 1) := by decide +kernel
theorem d9_21 : decode jdk_2005_method_3_code 21 = .ok (.iload_n 2, 1) := by decide +kernel
theorem d9_22 : decode jdk_2005_method_3_code 22 = .ok (.invokestatic 37, 3) := by decide +kernel
theorem d9_25 : decode jdk_2005_method_3_code 25 = .ok (.invokestatic 43, 3) := by decide +kernel
theorem d9_28 : decode jdk_2005_method_3_code 28 = .ok (.putfield 33, 3) := by decide +kernel
theorem d9_31 : decode jdk_2005_method_3_code 31 = .ok (.return_, 1) := by decide +kernel
theorem pn_9 : plainName "java/io/ByteArrayOutputStream" = true := by first | (simp [plainName, overriddenIn]; done) | decide +kernel
theorem ef_rmec (m : MethodId) (x0 : Addr) (x1 : Int32) : entryFrame m #[(.ref x0), (.int x1)] 4 = mkF m 0 #[.val (.ref x0), .val (.int x1), .unset, .unset] [] := by first | (simp [entryFrame, mkF, argsToLocals, Value.category]; done) | rfl
def Qrmec (Z : State) (g : Addr) (q : Int32) (bf : Addr) (kf : ClassId) (vs : List Value) (h0 : Heap) (n0 : Nat) (v : Option Value) (h : Heap) (L : List Loc) : Prop := v = none ∧ Fr n0 L ∧ h = h0
set_option maxRecDepth 65536 in
set_option maxHeartbeats 40000000 in
theorem rmec (l : Launch) (Z : State) (a0 : Array Value) (hw : ∀ d ∈ tables_1, d.before a0 Z = true) (ws : List Jvm.Cond) (g : Addr) (q : Int32) (bf : Addr) (kf : ClassId) (vs : List Value) (h0 : Heap) (n0 : Nat) (Z0 : n0 ≤ h0.size) (Fld_g_buf : Fld Z h0 g "java/io/ByteArrayOutputStream" "buf" "[B" (.ref bf)) (V_bf : Arv Z h0 bf kf .byte (32 : Int32) vs (.int (0 : Int32))) (hq : ¬ ((0 : Int32) < (q - (32 : Int32)))) :
    MetFree l (⟨"java/io/ByteArrayOutputStream", "ensureCapacity", "(I)V"⟩ : MethodName) (head1 (Jvm.Cond.code (⟨"java/io/ByteArrayOutputStream", "ensureCapacity", "(I)V"⟩ : MethodName) jdk_2005_method_3_code 4 none :: ws) ({ frames := 0, cells := 0, slots := 0, locals := 0 } : Room)) (fun a U => a = #[(.ref g), (.int q)] ∧ Z.Warmed39 U.vm ∧ U.heap = h0) (fun _ _ _ _ _ => True) (fun _ U o U' => ∃ v L, o = .returned v ∧ Qrmec Z g q bf kf vs h0 n0 v U'.heap L ∧ FrameEnd U o U' L ({ frames := 0, cells := 0, slots := 0, locals := 0 } : Room).cells ({ frames := 0, cells := 0, slots := 0, locals := 0 } : Room).slots) := by
 refine MetFree.of_bodySF (plainFor_of_name pn_9) hisR ?_
 intro p e s m args below meth c s₁ Bd hml0 hP hK
 obtain ⟨rfl, hZ, hh⟩ := hP
 have hx := Bd.exec
 have hby := Bd.bytes
 have hml : c.maxLocals = 4 := hml0
 have hown : s.vm.findClass "java/io/ByteArrayOutputStream" = some m.cls := findClass_of_methodNamed Bd.named
 have hnm := (name_of_methodNamed Bd.named Bd.method).1
 have X0 : Stand p l e ({ frames := 0, cells := 0, slots := 0, locals := 0 } : Room) s m #[(.ref g), (.int q)] below meth c s₁ [] 0 0 := Stand.of_body Bd
 have e0 : s₁.heap = h0 := by rw [← hh, Bd.state]; rfl
 have N0 := Fr.nil n0
 refine own_go (b := (s₁.setTop (mkF m 0 #[.val (.ref g), .val (.int q), .unset, .unset] []))) (fun _ k => castTop (ef_rmec m g q) k) ?_
 refine own_go (b := (s₁.setTop (mkF m 1 #[.val (.ref g), .val (.int q), .unset, .unset] [(.ref g)]))) (fun _ k => XS.aloadN X0.here hx rfl (hb hby d9_0) rfl rfl k) ?_
 refine own_getf X0 hx hZ hown (hw _ (List.mem_of_getElem? (i := 27) rfl)) Via.refl e0 Fld_g_buf rfl rfl (hb hby d9_1) (fun T1 X1 e1 => ?_)
 obtain ⟨cl2, Ar2, -, Sz2, Nn2, -, -⟩ := id V_bf
 refine own_go (b := (T1.setTop (mkF m 31 #[.val (.ref g), .val (.int q), .val (.int (32 : Int32)), .val (.int (q - (32 : Int32)))] []))) (fun _ k => X1.arraylength hx (by rw [e1]; exact Ar2.1) (State.isArrayOf_alike hZ.alike Ar2.2.1) (g := (mkF m 4 #[.val (.ref g), .val (.int q), .unset, .unset] [(.ref bf)])) rfl rfl (hb hby d9_4) _ (by rw [len_of Sz2 Nn2]; exact (XS.istoreN X1.here hx rfl (hb hby d9_5) rfl (l' := #[.val (.ref g), .val (.int q), .val (.int (32 : Int32)), .unset]) rfl (XS.iloadN X1.here hx rfl (hb hby d9_6) rfl (XS.iloadN X1.here hx rfl (hb hby d9_7) rfl (XS.isub X1.here hx rfl (hb hby d9_8) rfl (XS.istoreN X1.here hx rfl (hb hby d9_9) rfl (l' := #[.val (.ref g), .val (.int q), .val (.int (32 : Int32)), .val (.int (q - (32 : Int32)))]) rfl (XS.iloadN X1.here hx rfl (hb hby d9_10) rfl (XS.ifYes X1.here hx rfl (pc0 := 11) (pc' := 31) rfl (hb hby d9_11) rfl ((if0 _ _).trans (flt hq).2.2.2) (by decide) (by decide) k))))))))) ?_
 obtain ⟨fs, hr, hrun, hended, hW, hsame⟩ := X1.leave (v := none) (fun _ => rfl)
 exact ⟨_, _, X1.returnOut hx Bd.returns (hb hby d9_31) hr, hrun, hended, _, _, rfl, (show Qrmec Z g q bf kf vs h0 n0 _ T1.heap _ from (by rw [e1]; exact ⟨rfl, N0, rfl⟩)), ⟨_, rfl⟩, hW, hsame.mono (by decide) (by decide)⟩
theorem d11_0 : decode jdk_2005_method_4_code 0 = .ok (.aload_n 0, 1) := by decide +kernel
theorem d11_1 : decode jdk_2005_method_4_code 1 = .ok (.aload_n 0, 1) := by decide +kernel
theorem d11_2 : decode jdk_2005_method_4_code 2 = .ok (.getfield 49, 3) := by decide +kernel
theorem d11_5 : decode jdk_2005_method_4_code 5 = .ok (.iconst 1, 1) := by decide +kernel
theorem d11_6 : decode jdk_2005_method_4_code 6 = .ok (.iadd, 1) := by decide +kernel
theorem d11_7 : decode jdk_2005_method_4_code 7 = .ok (.invokevirtual 53, 3) := by decide +kernel
theorem d11_10 : decode jdk_2005_method_4_code 10 = .ok (.aload_n 0, 1) := by decide +kernel
theorem d11_11 : decode jdk_2005_method_4_code 11 = .ok (.getfield 33, 3) := by decide +kernel
theorem d11_14 : decode jdk_2005_method_4_code 14 = .ok (.aload_n 0, 1) := by decide +kernel
theorem d11_15 : decode jdk_2005_method_4_code 15 = .ok (.getfield 49, 3) := by decide +kernel
theorem d11_18 : decode jdk_2005_method_4_code 18 = .ok (.iload_n 1, 1) := by decide +kernel
theorem d11_19 : decode jdk_2005_method_4_code 19 = .ok (.i2b, 1) := by decide +kernel
theorem d11_20 : decode jdk_2005_method_4_code 20 = .ok (.bastore, 1) := by decide +kernel
theorem d11_21 : decode jdk_2005_method_4_code 21 = .ok (.aload_n 0, 1) := by decide +kernel
theorem d11_22 : decode jdk_2005_method_4_code 22 = .ok (.dup, 1) := by decide +kernel
theorem d11_23 : decode jdk_2005_method_4_code 23 = .ok (.getfield 49, 3) := by decide +kernel
theorem d11_26 : decode jdk_2005_method_4_code 26 = .ok (.iconst 1, 1) := by decide +kernel
theorem d11_27 : decode jdk_2005_method_4_code 27 = .ok (.iadd, 1) := by decide +kernel
theorem d11_28 : decode jdk_2005_method_4_code 28 = .ok (.putfield 49, 3) := by decide +kernel
theorem d11_31 : decode jdk_2005_method_4_code 31 = .ok (.return_, 1) := by decide +kernel
theorem pn_11 : plainName "java/io/ByteArrayOutputStream" = true := by first | (simp [plainName, overriddenIn]; done) | decide +kernel
theorem ef_rmwr (m : MethodId) (x0 : Addr) (x1 : Int32) : entryFrameSync m #[(.ref x0), (.int x1)] 2 x0 = mkL x0 m 0 #[.val (.ref x0), .val (.int x1)] [] := by first | (simp [entryFrameSync, entryFrame, mkL, argsToLocals, Value.category]; done) | rfl
def Qrmwr (Z : State) (g : Addr) (pv : Int32) (bf : Addr) (kf : ClassId) (vs : List Value) (cn : Int32) (h0 : Heap) (n0 : Nat) (v : Option Value) (h : Heap) (L : List Loc) : Prop := ∃ (us : List Value) (dn : Int32), v = none ∧ Fr n0 L ∧ Keep h0 h [g, bf] ∧ (Fld Z h g "java/io/ByteArrayOutputStream" "buf" "[B" (.ref bf)) ∧ (Fld Z h g "java/io/ByteArrayOutputStream" "count" "I" (.int dn)) ∧ (Arv Z h bf kf .byte (32 : Int32) us (.int (0 : Int32))) ∧ (us.length = 32) ∧ (Unt h g) ∧ (dn.toInt = cn.toInt + 1)
set_option maxRecDepth 65536 in
set_option maxHeartbeats 40000000 in
theorem rmwr (l : Launch) (Z : State) (a0 : Array Value) (hw : ∀ d ∈ tables_1, d.before a0 Z = true) (ws : List Jvm.Cond) (g : Addr) (pv : Int32) (bf : Addr) (kf : ClassId) (vs : List Value) (cn : Int32) (h0 : Heap) (n0 : Nat) (Z0 : n0 ≤ h0.size) (E_g : Exa Z h0 g "java/io/ByteArrayOutputStream") (Fld_g_buf : Fld Z h0 g "java/io/ByteArrayOutputStream" "buf" "[B" (.ref bf)) (Fld_g_count : Fld Z h0 g "java/io/ByteArrayOutputStream" "count" "I" (.int cn)) (V_bf : Arv Z h0 bf kf .byte (32 : Int32) vs (.int (0 : Int32))) (hvs : vs.length = 32) (U_g : Unt h0 g) (g_g : n0 ≤ g) (g_bf : n0 ≤ bf) (hc : 0 ≤ cn.toInt ∧ cn.toInt < 32) :
    MetFree l (⟨"java/io/ByteArrayOutputStream", "write", "(I)V"⟩ : MethodName) (head1 [Jvm.Cond.codeSync (⟨"java/io/ByteArrayOutputStream", "write", "(I)V"⟩ : MethodName) jdk_2005_method_4_code 2 none, Jvm.Cond.instanceMethod (⟨"java/io/ByteArrayOutputStream", "write", "(I)V"⟩ : MethodName)] ({ frames := 1, cells := 0, slots := 0, locals := 17 } : Room)) (fun a U => a = #[(.ref g), (.int pv)] ∧ Z.Warmed39 U.vm ∧ U.heap = h0) (fun _ _ _ _ _ => True) (fun _ U o U' => ∃ v L, o = .returned v ∧ Qrmwr Z g pv bf kf vs cn h0 n0 v U'.heap L ∧ FrameEnd U o U' L ({ frames := 1, cells := 0, slots := 0, locals := 17 } : Room).cells ({ frames := 1, cells := 0, slots := 0, locals := 17 } : Room).slots) := by
 refine MetFree.of_bodySync (plainFor_of_name pn_11) (hisS (List.mem_cons_self ..)) ?_ ?_
 · rintro args s - ⟨rfl, -, hh⟩
   obtain ⟨cell, q1, q2⟩ := own_unt_enter (U := s) U_g
   exact ⟨_, cell, rfl, by rw [hh]; exact q1, q2⟩
 intro p e s0 m args below meth c ax cell s₁ Bd hml0 hP hK
 obtain ⟨rfl, hZ0, hh⟩ := hP
 obtain rfl : g = ax := by have q := Bd.receiver; exact Value.ref.inj (Option.some.inj q)
 have hx := Bd.exec
 have hby := Bd.bytes
 have hml : c.maxLocals = 2 := hml0
 obtain ⟨s, hs⟩ : ∃ s, s = s0.setCell g (cell.withEntry s0.cur) := ⟨_, rfl⟩
 have hZ : Z.Warmed39 s.vm := by rw [hs]; exact hZ0
 have hown : s.vm.findClass "java/io/ByteArrayOutputStream" = some m.cls := by rw [hs]; exact findClass_of_methodNamed Bd.named
 have hnm := (name_of_methodNamed Bd.named Bd.method).1
 have X0 : Stand p l e ({ frames := 1, cells := 0, slots := 0, locals := 17 } : Room) s m #[(.ref g), (.int pv)] below meth c s₁ [] 0 0 := by rw [hs]; exact Stand.of_bodySync Bd
 have M0 := own_enterS Bd
 rw [hh] at M0
 have N0 := Fr.nil n0
 refine own_go (b := (s₁.setTop (mkL g m 0 #[.val (.ref g), .val (.int pv)] []))) (fun _ k => castTop (ef_rmwr m g pv) k) ?_
 have Zs1 : n0 ≤ s₁.heap.size := Nat.le_trans Z0 M0.2.1
 refine own_go (b := (s₁.setTop (mkL g m 2 #[.val (.ref g), .val (.int pv)] [(.ref g), (.ref g)]))) (fun _ k => XS.aloadN X0.here hx rfl (hb hby d11_0) rfl rfl (XS.aloadN X0.here hx rfl (hb hby d11_1) rfl rfl k)) ?_
 have F2 := Fld_g_count.mon M0.1
 refine own_getf X0 hx hZ hown (hw _ (List.mem_of_getElem? (i := 56) rfl)) Via.refl rfl F2 rfl rfl (hb hby d11_2) (fun T3 X3 e3 => ?_)
 refine own_go (b := (T3.setTop (mkL g m 7 #[.val (.ref g), .val (.int pv)] [(.int (cn + (1 : Int32))), (.ref g)]))) (fun _ k => XS.iconst X3.here hx rfl (hb hby d11_5) (XS.iadd X3.here hx rfl (hb hby d11_6) rfl k)) ?_
 have F5 := Fld_g_buf.mon M0.1
 obtain ⟨cn6, An6, -⟩ := id V_bf
 have nx7 : bf ≠ g := (Ne.symm (ne_arr E_g (hw _ (List.mem_of_getElem? (i := 10) rfl)) An6))
 have F8 := V_bf.keep M0.2 (ninS nx7 nin0)
 have F9 := E_g.mon M0.1
 obtain ⟨cq4, qc4, qc4'⟩ := F9.cell
 obtain ⟨_, _, ⟨T4, Ll4, kz4, nz4⟩, -, X4, ⟨Lc4, hQ4, lz4, yz4, zz4⟩, st4⟩ := X3.privateBack hx (y := (⟨"java/io/ByteArrayOutputStream", "ensureCapacity", "(I)V"⟩ : MethodName)) hown (mvT hZ (hw _ (List.mem_of_getElem? (i := 58) rfl))) (mvT hZ (hw _ (List.mem_of_getElem? (i := 59) rfl))) (mvT hZ (hw _ (List.mem_of_getElem? (i := 61) rfl))) (Cond.privateMethod_at (mvP hZ (hw _ (List.mem_of_getElem? (i := 60) rfl)) (args := #[]))) (mvT hZ (hw _ (List.mem_of_getElem? (i := 62) rfl))) (by decide) (backOf (W := 2) (rmec l Z a0 hw [] g (cn + (1 : Int32)) bf kf vs s₁.heap n0 Zs1 F5 F8 (own_cap cn hc)) hZ (hw _ (List.mem_of_getElem? (i := 62) rfl)) (hw _ (List.mem_of_getElem? (i := 11) rfl)) (by decide) (by decide)) (g := (mkL g m 7 #[.val (.ref g), .val (.int pv)] [(.int (cn + (1 : Int32))), (.ref g)])) rfl (by rw [hml]; rfl) (Steps.refl _) (a := g) (by rw [e3]; exact qc4) qc4' (argsL := [(.int (cn + (1 : Int32)))]) (rest := []) (lenOf pd__I_V rfl) rfl (by show 2 * 1 + _ ≤ _; exact Nat.le_of_eq rfl) (hb hby d11_7) (fun _ _ => ⟨rfl, e3, (by decide : 0 + 0 ≤ _), (by decide : 0 + 0 ≤ _)⟩)
 dsimp only [Pt.U, Pt.locs, Pt.cells, Pt.slots] at X4 lz4 yz4 zz4 st4 hQ4
 subst lz4 yz4 zz4
 obtain ⟨rfl, N4q, eh4⟩ := hQ4
 have N4 := Fr.app N0 N4q
 refine own_go (b := (T4.setTop (mkL g m 11 #[.val (.ref g), .val (.int pv)] [(.ref g)]))) (fun _ k => st4.trans (XS.aloadN X4.here hx rfl (hb hby d11_10) rfl rfl k)) ?_
 refine own_getf X4 hx hZ hown (hw _ (List.mem_of_getElem? (i := 27) rfl)) Via.refl eh4 F5 rfl rfl (hb hby d11_11) (fun T10 X10 e10 => ?_)
 refine own_go (b := (T10.setTop (mkL g m 15 #[.val (.ref g), .val (.int pv)] [(.ref g), (.ref bf)]))) (fun _ k => XS.aloadN X10.here hx rfl (hb hby d11_14) rfl rfl k) ?_
 refine own_getf X10 hx hZ hown (hw _ (List.mem_of_getElem? (i := 56) rfl)) Via.refl e10 F2 rfl rfl (hb hby d11_15) (fun T11 X11 e11 => ?_)
 refine own_go (b := (T11.setTop (mkL g m 20 #[.val (.ref g), .val (.int pv)] [(.int (pv.toInt8.toInt32)), (.int cn), (.ref bf)]))) (fun _ k => XS.iloadN X11.here hx rfl (hb hby d11_18) rfl (XS.i2b X11.here hx rfl (hb hby d11_19) rfl k)) ?_
 obtain ⟨cl12, Ar12, ql12, Sz12, Nn12, Hl12, Gl12⟩ := id F8
 have hin12 : ¬ (cn < 0 ∨ cl12.slots.size ≤ (cn).toNatClampNeg) := inb_of Sz12 (own_in _ hc)
 obtain ⟨T12, h12, X12, e12, W12, st12⟩ := stB X11 hx hZ e11 Ar12 (j := cn) hin12 (g := (mkL g m 20 #[.val (.ref g), .val (.int pv)] [(.int (pv.toInt8.toInt32)), (.int cn), (.ref bf)])) rfl rfl (hb hby d11_20)
 have N12 := Fr.snoc X12 N4 g_bf
 have Zs13 : n0 ≤ h12.size := Nat.le_trans Zs1 (Keep.of_wr W12).1
 have V12 : Arv Z h12 bf kf .byte (32 : Int32) (vs.set cn.toNatClampNeg (.int (nar .byte (pv.toInt8.toInt32)))) (.int (0 : Int32)) := Arv.set Ar12 ql12 Sz12 Nn12 Hl12 Gl12 (fits_nar_byte _) W12 _ rfl (own_cl cn hc hvs)
 refine own_go (b := (T12.setTop (mkL g m 23 #[.val (.ref g), .val (.int pv)] [(.ref g), (.ref g)]))) (fun _ k => st12 _ (XS.aloadN X12.here hx rfl (hb hby d11_21) rfl rfl (XS.dup X12.here hx rfl (hb hby d11_22) rfl rfl k))) ?_
 have F14 := F2.other W12 (Or.inl (Ne.symm nx7))
 refine own_getf X12 hx hZ hown (hw _ (List.mem_of_getElem? (i := 56) rfl)) Via.refl e12 F14 rfl rfl (hb hby d11_23) (fun T15 X15 e15 => ?_)
 refine own_go (b := (T15.setTop (mkL g m 28 #[.val (.ref g), .val (.int pv)] [(.int (cn + (1 : Int32))), (.ref g)]))) (fun _ k => XS.iconst X15.here hx rfl (hb hby d11_26) (XS.iadd X15.here hx rfl (hb hby d11_27) rfl k)) ?_
 have F16 := F9.wr W12
 obtain ⟨T17, h17, X17, e17, W17, st17⟩ := putF X15 hx hZ hown (host := "") (Or.inl (hw _ (List.mem_of_getElem? (i := 56) rfl))) Via.refl e15 F14 F16 (Or.inl (hw _ (List.mem_of_getElem? (i := 57) rfl))) (hw _ (List.mem_of_getElem? (i := 10) rfl)) (ty := .int) (by decide) rfl rfl (g := (mkL g m 28 #[.val (.ref g), .val (.int pv)] [(.int (cn + (1 : Int32))), (.ref g)])) rfl rfl (hb hby d11_28)
 have N17 := Fr.snoc X17 N12 g_g
 have Zs18 : n0 ≤ h17.size := Nat.le_trans Zs13 (Keep.of_wr W17).1
 have F17 : Fld Z h17 g "java/io/ByteArrayOutputStream" "count" "I" (.int (cn + (1 : Int32))) := F14.same W17
 refine own_go (b := (T17.setTop (mkL g m 31 #[.val (.ref g), .val (.int pv)] []))) (fun _ k => st17 _ k) ?_
 have XL := X17
 rw [hs] at XL
 obtain ⟨V, hr, hrun, hended, MV, KV, UV, hW, hsame⟩ := own_leaveS XL Bd.object Bd.enterable Bd.synchronized (by rw [hh]; exact U_g) (v := none) (fun _ => rfl)
 rw [e17] at MV KV
 have Zs19 : n0 ≤ V.heap.size := Nat.le_trans Zs18 KV.1
 have K20 := (Keep.refl h0 [g, bf]).trans M0.2 (allS (Or.inl (List.mem_of_getElem? (i := 0) rfl)) all0)
 have K21 := K20.wr W12 (Or.inl (List.mem_of_getElem? (i := 1) rfl))
 have K22 := K21.wr W17 (Or.inl (List.mem_of_getElem? (i := 0) rfl))
 have K23 := K22.trans KV (allS (Or.inl (List.mem_of_getElem? (i := 0) rfl)) all0)
 have F24 := F5.other W12 (Or.inl (Ne.symm nx7))
 have F25 := F24.other W17 (Or.inr (slot_ne (Or.inl (hw _ (List.mem_of_getElem? (i := 28) rfl))) (Or.inl (hw _ (List.mem_of_getElem? (i := 57) rfl))) (by decide) (t := (.array .byte)) (t' := .int) (by decide) (by decide)))
 have F26 := F25.mon MV
 have F27 := F17.mon MV
 have F28 := V12.other W17 nx7
 have F29 := F28.keep KV (ninS nx7 nin0)
 exact ⟨V, _, retS0 X17 hx Bd.returns (hb hby d11_31) hr, hrun, hended, _, _, rfl, (show Qrmwr Z g pv bf kf vs cn h0 n0 _ V.heap _ from (by exact ⟨(vs.set cn.toNatClampNeg (.int (nar .byte (pv.toInt8.toInt32)))), (cn + (1 : Int32)), rfl, N17, K23, F26, F27, F29, (by rw [List.length_set]; exact hvs), UV, (own_inc cn hc)⟩)), ⟨_, rfl⟩, hW, hsame.mono (by decide) (by decide)⟩
theorem d12_0 : decode jdk_2005_method_8_code 0 = .ok (.aload_n 0, 1) := by decide +kernel
theorem d12_1 : decode jdk_2005_method_8_code 1 = .ok (.iconst 0, 1) := by decide +kernel
theorem d12_2 : decode jdk_2005_method_8_code 2 = .ok (.putfield 49, 3) := by decide +kernel
theorem d12_5 : decode jdk_2005_method_8_code 5 = .ok (.return_, 1) := by decide +kernel
theorem pn_12 : plainName "java/io/ByteArrayOutputStream" = true := by first | (simp [plainName, overriddenIn]; done) | decide +kernel
theorem ef_rmre (m : MethodId) (x0 : Addr) : entryFrameSync m #[(.ref x0)] 1 x0 = mkL x0 m 0 #[.val (.ref x0)] [] := by first | (simp [entryFrameSync, entryFrame, mkL, argsToLocals, Value.category]; done) | rfl
def Qrmre (Z : State) (g : Addr) (bf : Addr) (kf : ClassId) (vs : List Value) (cn : Int32) (h0 : Heap) (n0 : Nat) (v : Option Value) (h : Heap) (L : List Loc) : Prop := v = none ∧ Fr n0 L ∧ Keep h0 h [g] ∧ (Fld Z h g "java/io/ByteArrayOutputStream" "buf" "[B" (.ref bf)) ∧ (Fld Z h g "java/io/ByteArrayOutputStream" "count" "I" (.int (0 : Int32))) ∧ (Unt h g)
set_option maxRecDepth 65536 in
set_option maxHeartbeats 40000000 in
theorem rmre (l : Launch) (Z : State) (a0 : Array Value) (hw : ∀ d ∈ tables_1, d.before a0 Z = true) (ws : List Jvm.Cond) (g : Addr) (bf : Addr) (kf : ClassId) (vs : List Value) (cn : Int32) (h0 : Heap) (n0 : Nat) (Z0 : n0 ≤ h0.size) (E_g : Exa Z h0 g "java/io/ByteArrayOutputStream") (Fld_g_buf : Fld Z h0 g "java/io/ByteArrayOutputStream" "buf" "[B" (.ref bf)) (Fld_g_count : Fld Z h0 g "java/io/ByteArrayOutputStream" "count" "I" (.int cn)) (V_bf : Arv Z h0 bf kf .byte (32 : Int32) vs (.int (0 : Int32))) (hvs : vs.length = 32) (U_g : Unt h0 g) (g_g : n0 ≤ g) (g_bf : n0 ≤ bf) :
    MetFree l (⟨"java/io/ByteArrayOutputStream", "reset", "()V"⟩ : MethodName) (head1 [Jvm.Cond.codeSync (⟨"java/io/ByteArrayOutputStream", "reset", "()V"⟩ : MethodName) jdk_2005_method_8_code 1 none, Jvm.Cond.instanceMethod (⟨"java/io/ByteArrayOutputStream", "reset", "()V"⟩ : MethodName)] ({ frames := 0, cells := 0, slots := 0, locals := 0 } : Room)) (fun a U => a = #[(.ref g)] ∧ Z.Warmed39 U.vm ∧ U.heap = h0) (fun _ _ _ _ _ => True) (fun _ U o U' => ∃ v L, o = .returned v ∧ Qrmre Z g bf kf vs cn h0 n0 v U'.heap L ∧ FrameEnd U o U' L ({ frames := 0, cells := 0, slots := 0, locals := 0 } : Room).cells ({ frames := 0, cells := 0, slots := 0, locals := 0 } : Room).slots) := by
 refine MetFree.of_bodySync (plainFor_of_name pn_12) (hisS (List.mem_cons_self ..)) ?_ ?_
 · rintro args s - ⟨rfl, -, hh⟩
   obtain ⟨cell, q1, q2⟩ := own_unt_enter (U := s) U_g
   exact ⟨_, cell, rfl, by rw [hh]; exact q1, q2⟩
 intro p e s0 m args below meth c ax cell s₁ Bd hml0 hP hK
 obtain ⟨rfl, hZ0, hh⟩ := hP
 obtain rfl : g = ax := by have q := Bd.receiver; exact Value.ref.inj (Option.some.inj q)
 have hx := Bd.exec
 have hby := Bd.bytes
 have hml : c.maxLocals = 1 := hml0
 obtain ⟨s, hs⟩ : ∃ s, s = s0.setCell g (cell.withEntry s0.cur) := ⟨_, rfl⟩
 have hZ : Z.Warmed39 s.vm := by rw [hs]; exact hZ0
 have hown : s.vm.findClass "java/io/ByteArrayOutputStream" = some m.cls := by rw [hs]; exact findClass_of_methodNamed Bd.named
 have hnm := (name_of_methodNamed Bd.named Bd.method).1
 have X0 : Stand p l e ({ frames := 0, cells := 0, slots := 0, locals := 0 } : Room) s m #[(.ref g)] below meth c s₁ [] 0 0 := by rw [hs]; exact Stand.of_bodySync Bd
 have M0 := own_enterS Bd
 rw [hh] at M0
 have N0 := Fr.nil n0
 refine own_go (b := (s₁.setTop (mkL g m 0 #[.val (.ref g)] []))) (fun _ k => castTop (ef_rmre m g) k) ?_
 have Zs1 : n0 ≤ s₁.heap.size := Nat.le_trans Z0 M0.2.1
 refine own_go (b := (s₁.setTop (mkL g m 2 #[.val (.ref g)] [(.int (0 : Int32)), (.ref g)]))) (fun _ k => XS.aloadN X0.here hx rfl (hb hby d12_0) rfl rfl (XS.iconst X0.here hx rfl (hb hby d12_1) k)) ?_
 have F2 := E_g.mon M0.1
 have F3 := Fld_g_count.mon M0.1
 obtain ⟨T4, h4, X4, e4, W4, st4⟩ := putF X0 hx hZ hown (host := "") (Or.inl (hw _ (List.mem_of_getElem? (i := 56) rfl))) Via.refl rfl F3 F2 (Or.inl (hw _ (List.mem_of_getElem? (i := 57) rfl))) (hw _ (List.mem_of_getElem? (i := 10) rfl)) (ty := .int) (by decide) rfl rfl (g := (mkL g m 2 #[.val (.ref g)] [(.int (0 : Int32)), (.ref g)])) rfl rfl (hb hby d12_2)
 have N4 := Fr.snoc X4 N0 g_g
 have Zs5 : n0 ≤ h4.size := Nat.le_trans Zs1 (Keep.of_wr W4).1
 have F4 : Fld Z h4 g "java/io/ByteArrayOutputStream" "count" "I" (.int (0 : Int32)) := F3.same W4
 refine own_go (b := (T4.setTop (mkL g m 5 #[.val (.ref g)] []))) (fun _ k => st4 _ k) ?_
 have XL := X4
 rw [hs] at XL
 obtain ⟨V, hr, hrun, hended, MV, KV, UV, hW, hsame⟩ := own_leaveS XL Bd.object Bd.enterable Bd.synchronized (by rw [hh]; exact U_g) (v := none) (fun _ => rfl)
 rw [e4] at MV KV
 have Zs6 : n0 ≤ V.heap.size := Nat.le_trans Zs5 KV.1
 have K7 := (Keep.refl h0 [g]).trans M0.2 (allS (Or.inl (List.mem_of_getElem? (i := 0) rfl)) all0)
 have K8 := K7.wr W4 (Or.inl (List.mem_of_getElem? (i := 0) rfl))
 have K9 := K8.trans KV (allS (Or.inl (List.mem_of_getElem? (i := 0) rfl)) all0)
 have F10 := Fld_g_buf.mon M0.1
 have F11 := F10.other W4 (Or.inr (slot_ne (Or.inl (hw _ (List.mem_of_getElem? (i := 28) rfl))) (Or.inl (hw _ (List.mem_of_getElem? (i := 57) rfl))) (by decide) (t := (.array .byte)) (t' := .int) (by decide) (by decide)))
 have F12 := F11.mon MV
 have F13 := F4.mon MV
 exact ⟨V, _, retS0 X4 hx Bd.returns (hb hby d12_5) hr, hrun, hended, _, _, rfl, (show Qrmre Z g bf kf vs cn h0 n0 _ V.heap _ from (by exact ⟨rfl, N4, K9, F12, F13, UV⟩)), ⟨_, rfl⟩, hW, hsame.mono (by decide) (by decide)⟩
theorem d8_0 : decode prog_20_method_2_code 0 = .ok (.lload_n 1, 1) := by decide +kernel
theorem d8_1 : decode prog_20_method_2_code 1 = .ok (.lstore_n 3, 1) := by decide +kernel
theorem d8_2 : decode prog_20_method_2_code 2 = .ok (.lload_n 3, 1) := by decide +kernel
theorem d8_3 : decode prog_20_method_2_code 3 = .ok (.ldc2_w 9, 3) := by decide +kernel
theorem d8_6 : decode prog_20_method_2_code 6 = .ok (.land, 1) := by decide +kernel
theorem d8_7 : decode prog_20_method_2_code 7 = .ok (.lconst 0, 1) := by decide +kernel
theorem d8_8 : decode prog_20_method_2_code 8 = .ok (.lcmp, 1) := by decide +kernel
theorem d8_9 : decode prog_20_method_2_code 9 = .ok (.ifCond .eq 25, 3) := by decide +kernel
theorem d8_12 : decode prog_20_method_2_code 12 = .ok (.aload_n 0, 1) := by decide +kernel
theorem d8_13 : decode prog_20_method_2_code 13 = .ok (.lload_n 3, 1) := by decide +kernel
theorem d8_14 : decode prog_20_method_2_code 14 = .ok (.ldc2_w 11, 3) := by decide +kernel
theorem d8_17 : decode prog_20_method_2_code 17 = .ok (.land, 1) := by decide +kernel
theorem d8_18 : decode prog_20_method_2_code 18 = .ok (.l2i, 1) := by decide +kernel
theorem d8_19 : decode prog_20_method_2_code 19 = .ok (.sipush 128, 3) := by decide +kernel
theorem d8_22 : decode prog_20_method_2_code 22 = .ok (.ior, 1) := by decide +kernel
theorem d8_23 : decode prog_20_method_2_code 23 = .ok (.invokevirtual 13, 3) := by decide +kernel
theorem d8_26 : decode prog_20_method_2_code 26 = .ok (.lload_n 3, 1) := by decide +kernel
theorem d8_27 : decode prog_20_method_2_code 27 = .ok (.bipush 7, 2) := by decide +kernel
theorem d8_29 : decode prog_20_method_2_code 29 = .ok (.lushr, 1) := by decide +kernel
theorem d8_30 : decode prog_20_method_2_code 30 = .ok (.lstore_n 3, 1) := by decide +kernel
theorem d8_31 : decode prog_20_method_2_code 31 = .ok (.goto (-29), 3) := by decide +kernel
theorem d8_34 : decode prog_20_method_2_code 34 = .ok (.aload_n 0, 1) := by decide +kernel
theorem d8_35 : decode prog_20_method_2_code 35 = .ok (.lload_n 3, 1) := by decide +kernel
theorem d8_36 : decode prog_20_method_2_code 36 = .ok (.l2i, 1) := by decide +kernel
theorem d8_37 : decode prog_20_method_2_code 37 = .ok (.invokevirtual 13, 3) := by decide +kernel
theorem d8_40 : decode prog_20_method_2_code 40 = .ok (.return_, 1) := by decide +kernel
theorem pn_8 : plainName "com/example/urd/urd/documents/Postings" = true := by first | (simp [plainName, overriddenIn]; done) | decide +kernel
theorem ef_rmwn (m : MethodId) (x0 : Addr) (x1 : Int64) : entryFrame m #[(.ref x0), (.long x1)] 5 = mkF m 0 #[.val (.ref x0), .val (.long x1), .second, .unset, .unset] [] := by first | (simp [entryFrame, mkF, argsToLocals, Value.category]; done) | rfl
def Qrmwn (Z : State) (g : Addr) (q : Int64) (bf : Addr) (kf : ClassId) (vs : List Value) (cn : Int32) (h0 : Heap) (n0 : Nat) (v : Option Value) (h : Heap) (L : List Loc) : Prop := ∃ (us : List Value) (dn : Int32), v = none ∧ Fr n0 L ∧ Keep h0 h [g, bf] ∧ (Fld Z h g "java/io/ByteArrayOutputStream" "buf" "[B" (.ref bf)) ∧ (Fld Z h g "java/io/ByteArrayOutputStream" "count" "I" (.int dn)) ∧ (Arv Z h bf kf .byte (32 : Int32) us (.int (0 : Int32))) ∧ (us.length = 32) ∧ (Unt h g) ∧ (0 ≤ dn.toInt ∧ dn.toInt ≤ cn.toInt + 5)
set_option maxRecDepth 65536 in
set_option maxHeartbeats 40000000 in
theorem rmwn (l : Launch) (Z : State) (a0 : Array Value) (hw : ∀ d ∈ tables_1, d.before a0 Z = true) (ws : List Jvm.Cond) (g : Addr) (q : Int64) (bf : Addr) (kf : ClassId) (vs : List Value) (cn : Int32) (h0 : Heap) (n0 : Nat) (Z0 : n0 ≤ h0.size) (E_g : Exa Z h0 g "java/io/ByteArrayOutputStream") (Fld_g_buf : Fld Z h0 g "java/io/ByteArrayOutputStream" "buf" "[B" (.ref bf)) (Fld_g_count : Fld Z h0 g "java/io/ByteArrayOutputStream" "count" "I" (.int cn)) (V_bf : Arv Z h0 bf kf .byte (32 : Int32) vs (.int (0 : Int32))) (hvs : vs.length = 32) (U_g : Unt h0 g) (g_g : n0 ≤ g) (g_bf : n0 ≤ bf) (hq : 0 ≤ q.toInt ∧ q.toInt < 2147483648) (hc : 0 ≤ cn.toInt ∧ cn.toInt ≤ 27) :
    MetFree l (⟨"com/example/urd/urd/documents/Postings", "writeNumber", "(Ljava/io/ByteArrayOutputStream;J)V"⟩ : MethodName) (head1 (Jvm.Cond.code (⟨"com/example/urd/urd/documents/Postings", "writeNumber", "(Ljava/io/ByteArrayOutputStream;J)V"⟩ : MethodName) prog_20_method_2_code 5 none :: ws) ({ frames := 2, cells := 0, slots := 0, locals := 30 } : Room)) (fun a U => a = #[(.ref g), (.long q)] ∧ Z.Warmed39 U.vm ∧ U.heap = h0) (fun _ _ _ _ _ => True) (fun _ U o U' => ∃ v L, o = .returned v ∧ Qrmwn Z g q bf kf vs cn h0 n0 v U'.heap L ∧ FrameEnd U o U' L ({ frames := 2, cells := 0, slots := 0, locals := 30 } : Room).cells ({ frames := 2, cells := 0, slots := 0, locals := 30 } : Room).slots) := by
 refine MetFree.of_bodySF (plainFor_of_name pn_8) hisR ?_
 intro p e s m args below meth c s₁ Bd hml0 hP hK
 obtain ⟨rfl, hZ, hh⟩ := hP
 have hx := Bd.exec
 have hby := Bd.bytes
 have hml : c.maxLocals = 5 := hml0
 have hown : s.vm.findClass "com/example/urd/urd/documents/Postings" = some m.cls := findClass_of_methodNamed Bd.named
 have hnm := (name_of_methodNamed Bd.named Bd.method).1
 have X0 : Stand p l e ({ frames := 2, cells := 0, slots := 0, locals := 30 } : Room) s m #[(.ref g), (.long q)] below meth c s₁ [] 0 0 := Stand.of_body Bd
 have e0 : s₁.heap = h0 := by rw [← hh, Bd.state]; rfl
 have N0 := Fr.nil n0
 refine own_go (b := (s₁.setTop (mkF m 0 #[.val (.ref g), .val (.long q), .second, .unset, .unset] []))) (fun _ k => castTop (ef_rmwn m g q) k) ?_
 refine own_go (b := (s₁.setTop (mkF m 9 #[.val (.ref g), .val (.long q), .second, .val (.long q), .second] [(.int (lcmpW (q &&& (-128 : Int64)) (0 : Int64)))]))) (fun _ k => XS.lloadN X0.here hx rfl (hb hby d8_0) rfl (XS.lstoreN X0.here hx rfl (hb hby d8_1) rfl (l' := #[.val (.ref g), .val (.long q), .second, .val (.long q), .second]) rfl (XS.lloadN X0.here hx rfl (hb hby d8_2) rfl (X0.ldc2Long hx hown (mvT hZ (hw _ (List.mem_of_getElem? (i := 50) rfl))) (g := (mkF m 3 #[.val (.ref g), .val (.long q), .second, .val (.long q), .second] [(.long q)])) rfl (hb hby d8_3) _ (XS.land X0.here hx rfl (hb hby d8_6) rfl (XS.lconst X0.here hx rfl (hb hby d8_7) (XS.lcmp X0.here hx rfl (hb hby d8_8) rfl k))))))) ?_
 by_cases hc9_1 : (lcmpW (q &&& (-128 : Int64)) (0 : Int64)) = (0 : Int32)
 · skip
   refine own_go (b := (s₁.setTop (mkF m 37 #[.val (.ref g), .val (.long q), .second, .val (.long q), .second] [(.int (q.toInt32)), (.ref g)]))) (fun _ k => XS.ifYes X0.here hx rfl (pc0 := 9) (pc' := 34) rfl (hb hby d8_9) rfl ((if0 _ _).trans (teq hc9_1).1) (by decide) (by decide) (XS.aloadN X0.here hx rfl (hb hby d8_34) rfl rfl (XS.lloadN X0.here hx rfl (hb hby d8_35) rfl (XS.l2i X0.here hx rfl (hb hby d8_36) rfl k)))) ?_
   refine own_virtS (W := 0) X0 hx hZ hown e0 (hw _ (List.mem_of_getElem? (i := 51) rfl)) (hw _ (List.mem_of_getElem? (i := 52) rfl)) (hw _ (List.mem_of_getElem? (i := 54) rfl)) (hw _ (List.mem_of_getElem? (i := 53) rfl)) (rmwr l Z a0 hw [] g (q.toInt32) bf kf vs cn h0 n0 Z0 E_g Fld_g_buf Fld_g_count V_bf hvs U_g g_g g_bf (by omega)) (hw _ (List.mem_of_getElem? (i := 55) rfl)) (hw _ (List.mem_of_getElem? (i := 11) rfl)) E_g rfl (by rw [hml]; rfl) rfl (hb hby d8_37) (lenOf pd__I_V rfl) rfl (by decide) (fun T2 v2 Ll2 X2 hQ2 => ?_)
   obtain ⟨us_2, dn_2, rfl, N2q, K2, P2_0, P2_1, P2_2, P2_3, P2_4, P2_5⟩ := hQ2
   have N2 := Fr.app N0 N2q
   have Zs3 : n0 ≤ T2.heap.size := Nat.le_trans Z0 K2.1
   have K4 := (Keep.refl h0 [g, bf]).trans K2 (allS (Or.inl (List.mem_of_getElem? (i := 0) rfl)) (allS (Or.inl (List.mem_of_getElem? (i := 1) rfl)) all0))
   obtain ⟨fs, hr, hrun, hended, hW, hsame⟩ := X2.leave (v := none) (fun _ => rfl)
   exact ⟨_, _, X2.returnOut hx Bd.returns (hb hby d8_40) hr, hrun, hended, _, _, rfl, (show Qrmwn Z g q bf kf vs cn h0 n0 _ T2.heap _ from (by exact ⟨us_2, dn_2, rfl, N2, K4, P2_0, P2_1, P2_2, P2_3, P2_4, (by omega)⟩)), ⟨_, rfl⟩, hW, hsame.mono (by decide) (by decide)⟩
 · skip
   refine own_go (b := (s₁.setTop (mkF m 23 #[.val (.ref g), .val (.long q), .second, .val (.long q), .second] [(.int (((q &&& (127 : Int64)).toInt32) ||| (128 : Int32))), (.ref g)]))) (fun _ k => XS.ifNo X0.here hx rfl (hb hby d8_9) rfl ((if0 _ _).trans (feq hc9_1).1) (XS.aloadN X0.here hx rfl (hb hby d8_12) rfl rfl (XS.lloadN X0.here hx rfl (hb hby d8_13) rfl (X0.ldc2Long hx hown (mvT hZ (hw _ (List.mem_of_getElem? (i := 63) rfl))) (g := (mkF m 14 #[.val (.ref g), .val (.long q), .second, .val (.long q), .second] [(.long q), (.ref g)])) rfl (hb hby d8_14) _ (XS.land X0.here hx rfl (hb hby d8_17) rfl (XS.l2i X0.here hx rfl (hb hby d8_18) rfl (XS.sipush X0.here hx rfl (hb hby d8_19) (XS.ior X0.here hx rfl (hb hby d8_22) rfl k)))))))) ?_
   refine own_virtS (W := 0) X0 hx hZ hown e0 (hw _ (List.mem_of_getElem? (i := 51) rfl)) (hw _ (List.mem_of_getElem? (i := 52) rfl)) (hw _ (List.mem_of_getElem? (i := 54) rfl)) (hw _ (List.mem_of_getElem? (i := 53) rfl)) (rmwr l Z a0 hw [] g (((q &&& (127 : Int64)).toInt32) ||| (128 : Int32)) bf kf vs cn h0 n0 Z0 E_g Fld_g_buf Fld_g_count V_bf hvs U_g g_g g_bf (by omega)) (hw _ (List.mem_of_getElem? (i := 55) rfl)) (hw _ (List.mem_of_getElem? (i := 11) rfl)) E_g rfl (by rw [hml]; rfl) rfl (hb hby d8_23) (lenOf pd__I_V rfl) rfl (by decide) (fun T5 v5 Ll5 X5 hQ5 => ?_)
   obtain ⟨us_5, dn_5, rfl, N5q, K5, P5_0, P5_1, P5_2, P5_3, P5_4, P5_5⟩ := hQ5
   have N5 := Fr.app N0 N5q
   have Zs6 : n0 ≤ T5.heap.size := Nat.le_trans Z0 K5.1
   refine own_go (b := (T5.setTop (mkF m 9 #[.val (.ref g), .val (.long q), .second, .val (.long (own_sh q)), .second] [(.int (lcmpW ((own_sh q) &&& (-128 : Int64)) (0 : Int64)))]))) (fun _ k => XS.lloadN X5.here hx rfl (hb hby d8_26) rfl (XS.bipush X5.here hx rfl (hb hby d8_27) (XS.lushr X5.here hx rfl (hb hby d8_29) rfl (XS.lstoreN X5.here hx rfl (hb hby d8_30) rfl (l' := #[.val (.ref g), .val (.long q), .second, .val (.long (own_sh q)), .second]) rfl (XS.goto X5.here hx rfl (pc0 := 31) (pc' := 2) rfl (hb hby d8_31) (by decide) (by decide) (XS.lloadN X5.here hx rfl (hb hby d8_2) rfl (X5.ldc2Long hx hown (mvT hZ (hw _ (List.mem_of_getElem? (i := 50) rfl))) (g := (mkF m 3 #[.val (.ref g), .val (.long q), .second, .val (.long (own_sh q)), .second] [(.long (own_sh q))])) rfl (hb hby d8_3) _ (XS.land X5.here hx rfl (hb hby d8_6) rfl (XS.lconst X5.here hx rfl (hb hby d8_7) (XS.lcmp X5.here hx rfl (hb hby d8_8) rfl k)))))))))) ?_
   by_cases hc9_7 : (lcmpW ((own_sh q) &&& (-128 : Int64)) (0 : Int64)) = (0 : Int32)
   · skip
     refine own_go (b := (T5.setTop (mkF m 37 #[.val (.ref g), .val (.long q), .second, .val (.long (own_sh q)), .second] [(.int ((own_sh q).toInt32)), (.ref g)]))) (fun _ k => XS.ifYes X5.here hx rfl (pc0 := 9) (pc' := 34) rfl (hb hby d8_9) rfl ((if0 _ _).trans (teq hc9_7).1) (by decide) (by decide) (XS.aloadN X5.here hx rfl (hb hby d8_34) rfl rfl (XS.lloadN X5.here hx rfl (hb hby d8_35) rfl (XS.l2i X5.here hx rfl (hb hby d8_36) rfl k)))) ?_
     have F9 := E_g.keep K5
     refine own_virtS (W := 0) X5 hx hZ hown rfl (hw _ (List.mem_of_getElem? (i := 51) rfl)) (hw _ (List.mem_of_getElem? (i := 52) rfl)) (hw _ (List.mem_of_getElem? (i := 54) rfl)) (hw _ (List.mem_of_getElem? (i := 53) rfl)) (rmwr l Z a0 hw [] g ((own_sh q).toInt32) bf kf us_5 dn_5 T5.heap n0 Zs6 F9 P5_0 P5_1 P5_2 P5_3 P5_4 g_g g_bf (by omega)) (hw _ (List.mem_of_getElem? (i := 55) rfl)) (hw _ (List.mem_of_getElem? (i := 11) rfl)) F9 rfl (by rw [hml]; rfl) rfl (hb hby d8_37) (lenOf pd__I_V rfl) rfl (by decide) (fun T8 v8 Ll8 X8 hQ8 => ?_)
     obtain ⟨us_8, dn_8, rfl, N8q, K8, P8_0, P8_1, P8_2, P8_3, P8_4, P8_5⟩ := hQ8
     have N8 := Fr.app N5 N8q
     have Zs10 : n0 ≤ T8.heap.size := Nat.le_trans Zs6 K8.1
     have K11 := (Keep.refl h0 [g, bf]).trans K5 (allS (Or.inl (List.mem_of_getElem? (i := 0) rfl)) (allS (Or.inl (List.mem_of_getElem? (i := 1) rfl)) all0))
     have K12 := K11.trans K8 (allS (Or.inl (List.mem_of_getElem? (i := 0) rfl)) (allS (Or.inl (List.mem_of_getElem? (i := 1) rfl)) all0))
     obtain ⟨fs, hr, hrun, hended, hW, hsame⟩ := X8.leave (v := none) (fun _ => rfl)
     exact ⟨_, _, X8.returnOut hx Bd.returns (hb hby d8_40) hr, hrun, hended, _, _, rfl, (show Qrmwn Z g q bf kf vs cn h0 n0 _ T8.heap _ from (by exact ⟨us_8, dn_8, rfl, N8, K12, P8_0, P8_1, P8_2, P8_3, P8_4, (by omega)⟩)), ⟨_, rfl⟩, hW, hsame.mono (by decide) (by decide)⟩
   · skip
     refine own_go (b := (T5.setTop (mkF m 23 #[.val (.ref g), .val (.long q), .second, .val (.long (own_sh q)), .second] [(.int ((((own_sh q) &&& (127 : Int64)).toInt32) ||| (128 : Int32))), (.ref g)]))) (fun _ k => XS.ifNo X5.here hx rfl (hb hby d8_9) rfl ((if0 _ _).trans (feq hc9_7).1) (XS.aloadN X5.here hx rfl (hb hby d8_12) rfl rfl (XS.lloadN X5.here hx rfl (hb hby d8_13) rfl (X5.ldc2Long hx hown (mvT hZ (hw _ (List.mem_of_getElem? (i := 63) rfl))) (g := (mkF m 14 #[.val (.ref g), .val (.long q), .second, .val (.long (own_sh q)), .second] [(.long (own_sh q)), (.ref g)])) rfl (hb hby d8_14) _ (XS.land X5.here hx rfl (hb hby d8_17) rfl (XS.l2i X5.here hx rfl (hb hby d8_18) rfl (XS.sipush X5.here hx rfl (hb hby d8_19) (XS.ior X5.here hx rfl (hb hby d8_22) rfl k)))))))) ?_
     have F14 := E_g.keep K5
     refine own_virtS (W := 0) X5 hx hZ hown rfl (hw _ (List.mem_of_getElem? (i := 51) rfl)) (hw _ (List.mem_of_getElem? (i := 52) rfl)) (hw _ (List.mem_of_getElem? (i := 54) rfl)) (hw _ (List.mem_of_getElem? (i := 53) rfl)) (rmwr l Z a0 hw [] g ((((own_sh q) &&& (127 : Int64)).toInt32) ||| (128 : Int32)) bf kf us_5 dn_5 T5.heap n0 Zs6 F14 P5_0 P5_1 P5_2 P5_3 P5_4 g_g g_bf (by omega)) (hw _ (List.mem_of_getElem? (i := 55) rfl)) (hw _ (List.mem_of_getElem? (i := 11) rfl)) F14 rfl (by rw [hml]; rfl) rfl (hb hby d8_23) (lenOf pd__I_V rfl) rfl (by decide) (fun T13 v13 Ll13 X13 hQ13 => ?_)
     obtain ⟨us_13, dn_13, rfl, N13q, K13, P13_0, P13_1, P13_2, P13_3, P13_4, P13_5⟩ := hQ13
     have N13 := Fr.app N5 N13q
     have Zs15 : n0 ≤ T13.heap.size := Nat.le_trans Zs6 K13.1
     refine own_go (b := (T13.setTop (mkF m 9 #[.val (.ref g), .val (.long q), .second, .val (.long (own_sh (own_sh q))), .second] [(.int (lcmpW ((own_sh (own_sh q)) &&& (-128 : Int64)) (0 : Int64)))]))) (fun _ k => XS.lloadN X13.here hx rfl (hb hby d8_26) rfl (XS.bipush X13.here hx rfl (hb hby d8_27) (XS.lushr X13.here hx rfl (hb hby d8_29) rfl (XS.lstoreN X13.here hx rfl (hb hby d8_30) rfl (l' := #[.val (.ref g), .val (.long q), .second, .val (.long (own_sh (own_sh q))), .second]) rfl (XS.goto X13.here hx rfl (pc0 := 31) (pc' := 2) rfl (hb hby d8_31) (by decide) (by decide) (XS.lloadN X13.here hx rfl (hb hby d8_2) rfl (X13.ldc2Long hx hown (mvT hZ (hw _ (List.mem_of_getElem? (i := 50) rfl))) (g := (mkF m 3 #[.val (.ref g), .val (.long q), .second, .val (.long (own_sh (own_sh q))), .second] [(.long (own_sh (own_sh q)))])) rfl (hb hby d8_3) _ (XS.land X13.here hx rfl (hb hby d8_6) rfl (XS.lconst X13.here hx rfl (hb hby d8_7) (XS.lcmp X13.here hx rfl (hb hby d8_8) rfl k)))))))))) ?_
     by_cases hc9_16 : (lcmpW ((own_sh (own_sh q)) &&& (-128 : Int64)) (0 : Int64)) = (0 : Int32)
     · skip
       refine own_go (b := (T13.setTop (mkF m 37 #[.val (.ref g), .val (.long q), .second, .val (.long (own_sh (own_sh q))), .second] [(.int ((own_sh (own_sh q)).toInt32)), (.ref g)]))) (fun _ k => XS.ifYes X13.here hx rfl (pc0 := 9) (pc' := 34) rfl (hb hby d8_9) rfl ((if0 _ _).trans (teq hc9_16).1) (by decide) (by decide) (XS.aloadN X13.here hx rfl (hb hby d8_34) rfl rfl (XS.lloadN X13.here hx rfl (hb hby d8_35) rfl (XS.l2i X13.here hx rfl (hb hby d8_36) rfl k)))) ?_
       have F18 := F14.keep K13
       refine own_virtS (W := 0) X13 hx hZ hown rfl (hw _ (List.mem_of_getElem? (i := 51) rfl)) (hw _ (List.mem_of_getElem? (i := 52) rfl)) (hw _ (List.mem_of_getElem? (i := 54) rfl)) (hw _ (List.mem_of_getElem? (i := 53) rfl)) (rmwr l Z a0 hw [] g ((own_sh (own_sh q)).toInt32) bf kf us_13 dn_13 T13.heap n0 Zs15 F18 P13_0 P13_1 P13_2 P13_3 P13_4 g_g g_bf (by omega)) (hw _ (List.mem_of_getElem? (i := 55) rfl)) (hw _ (List.mem_of_getElem? (i := 11) rfl)) F18 rfl (by rw [hml]; rfl) rfl (hb hby d8_37) (lenOf pd__I_V rfl) rfl (by decide) (fun T17 v17 Ll17 X17 hQ17 => ?_)
       obtain ⟨us_17, dn_17, rfl, N17q, K17, P17_0, P17_1, P17_2, P17_3, P17_4, P17_5⟩ := hQ17
       have N17 := Fr.app N13 N17q
       have Zs19 : n0 ≤ T17.heap.size := Nat.le_trans Zs15 K17.1
       have K20 := (Keep.refl h0 [g, bf]).trans K5 (allS (Or.inl (List.mem_of_getElem? (i := 0) rfl)) (allS (Or.inl (List.mem_of_getElem? (i := 1) rfl)) all0))
       have K21 := K20.trans K13 (allS (Or.inl (List.mem_of_getElem? (i := 0) rfl)) (allS (Or.inl (List.mem_of_getElem? (i := 1) rfl)) all0))
       have K22 := K21.trans K17 (allS (Or.inl (List.mem_of_getElem? (i := 0) rfl)) (allS (Or.inl (List.mem_of_getElem? (i := 1) rfl)) all0))
       obtain ⟨fs, hr, hrun, hended, hW, hsame⟩ := X17.leave (v := none) (fun _ => rfl)
       exact ⟨_, _, X17.returnOut hx Bd.returns (hb hby d8_40) hr, hrun, hended, _, _, rfl, (show Qrmwn Z g q bf kf vs cn h0 n0 _ T17.heap _ from (by exact ⟨us_17, dn_17, rfl, N17, K22, P17_0, P17_1, P17_2, P17_3, P17_4, (by omega)⟩)), ⟨_, rfl⟩, hW, hsame.mono (by decide) (by decide)⟩
     · skip
       refine own_go (b := (T13.setTop (mkF m 23 #[.val (.ref g), .val (.long q), .second, .val (.long (own_sh (own_sh q))), .second] [(.int ((((own_sh (own_sh q)) &&& (127 : Int64)).toInt32) ||| (128 : Int32))), (.ref g)]))) (fun _ k => XS.ifNo X13.here hx rfl (hb hby d8_9) rfl ((if0 _ _).trans (feq hc9_16).1) (XS.aloadN X13.here hx rfl (hb hby d8_12) rfl rfl (XS.lloadN X13.here hx rfl (hb hby d8_13) rfl (X13.ldc2Long hx hown (mvT hZ (hw _ (List.mem_of_getElem? (i := 63) rfl))) (g := (mkF m 14 #[.val (.ref g), .val (.long q), .second, .val (.long (own_sh (own_sh q))), .second] [(.long (own_sh (own_sh q))), (.ref g)])) rfl (hb hby d8_14) _ (XS.land X13.here hx rfl (hb hby d8_17) rfl (XS.l2i X13.here hx rfl (hb hby d8_18) rfl (XS.sipush X13.here hx rfl (hb hby d8_19) (XS.ior X13.here hx rfl (hb hby d8_22) rfl k)))))))) ?_
       have F24 := F14.keep K13
       refine own_virtS (W := 0) X13 hx hZ hown rfl (hw _ (List.mem_of_getElem? (i := 51) rfl)) (hw _ (List.mem_of_getElem? (i := 52) rfl)) (hw _ (List.mem_of_getElem? (i := 54) rfl)) (hw _ (List.mem_of_getElem? (i := 53) rfl)) (rmwr l Z a0 hw [] g ((((own_sh (own_sh q)) &&& (127 : Int64)).toInt32) ||| (128 : Int32)) bf kf us_13 dn_13 T13.heap n0 Zs15 F24 P13_0 P13_1 P13_2 P13_3 P13_4 g_g g_bf (by omega)) (hw _ (List.mem_of_getElem? (i := 55) rfl)) (hw _ (List.mem_of_getElem? (i := 11) rfl)) F24 rfl (by rw [hml]; rfl) rfl (hb hby d8_23) (lenOf pd__I_V rfl) rfl (by decide) (fun T23 v23 Ll23 X23 hQ23 => ?_)
       obtain ⟨us_23, dn_23, rfl, N23q, K23, P23_0, P23_1, P23_2, P23_3, P23_4, P23_5⟩ := hQ23
       have N23 := Fr.app N13 N23q
       have Zs25 : n0 ≤ T23.heap.size := Nat.le_trans Zs15 K23.1
       refine own_go (b := (T23.setTop (mkF m 9 #[.val (.ref g), .val (.long q), .second, .val (.long (own_sh (own_sh (own_sh q)))), .second] [(.int (lcmpW ((own_sh (own_sh (own_sh q))) &&& (-128 : Int64)) (0 : Int64)))]))) (fun _ k => XS.lloadN X23.here hx rfl (hb hby d8_26) rfl (XS.bipush X23.here hx rfl (hb hby d8_27) (XS.lushr X23.here hx rfl (hb hby d8_29) rfl (XS.lstoreN X23.here hx rfl (hb hby d8_30) rfl (l' := #[.val (.ref g), .val (.long q), .second, .val (.long (own_sh (own_sh (own_sh q)))), .second]) rfl (XS.goto X23.here hx rfl (pc0 := 31) (pc' := 2) rfl (hb hby d8_31) (by decide) (by decide) (XS.lloadN X23.here hx rfl (hb hby d8_2) rfl (X23.ldc2Long hx hown (mvT hZ (hw _ (List.mem_of_getElem? (i := 50) rfl))) (g := (mkF m 3 #[.val (.ref g), .val (.long q), .second, .val (.long (own_sh (own_sh (own_sh q)))), .second] [(.long (own_sh (own_sh (own_sh q))))])) rfl (hb hby d8_3) _ (XS.land X23.here hx rfl (hb hby d8_6) rfl (XS.lconst X23.here hx rfl (hb hby d8_7) (XS.lcmp X23.here hx rfl (hb hby d8_8) rfl k)))))))))) ?_
       by_cases hc9_26 : (lcmpW ((own_sh (own_sh (own_sh q))) &&& (-128 : Int64)) (0 : Int64)) = (0 : Int32)
       · skip
         refine own_go (b := (T23.setTop (mkF m 37 #[.val (.ref g), .val (.long q), .second, .val (.long (own_sh (own_sh (own_sh q)))), .second] [(.int ((own_sh (own_sh (own_sh q))).toInt32)), (.ref g)]))) (fun _ k => XS.ifYes X23.here hx rfl (pc0 := 9) (pc' := 34) rfl (hb hby d8_9) rfl ((if0 _ _).trans (teq hc9_26).1) (by decide) (by decide) (XS.aloadN X23.here hx rfl (hb hby d8_34) rfl rfl (XS.lloadN X23.here hx rfl (hb hby d8_35) rfl (XS.l2i X23.here hx rfl (hb hby d8_36) rfl k)))) ?_
         have F28 := F24.keep K23
         refine own_virtS (W := 0) X23 hx hZ hown rfl (hw _ (List.mem_of_getElem? (i := 51) rfl)) (hw _ (List.mem_of_getElem? (i := 52) rfl)) (hw _ (List.mem_of_getElem? (i := 54) rfl)) (hw _ (List.mem_of_getElem? (i := 53) rfl)) (rmwr l Z a0 hw [] g ((own_sh (own_sh (own_sh q))).toInt32) bf kf us_23 dn_23 T23.heap n0 Zs25 F28 P23_0 P23_1 P23_2 P23_3 P23_4 g_g g_bf (by omega)) (hw _ (List.mem_of_getElem? (i := 55) rfl)) (hw _ (List.mem_of_getElem? (i := 11) rfl)) F28 rfl (by rw [hml]; rfl) rfl (hb hby d8_37) (lenOf pd__I_V rfl) rfl (by decide) (fun T27 v27 Ll27 X27 hQ27 => ?_)
         obtain ⟨us_27, dn_27, rfl, N27q, K27, P27_0, P27_1, P27_2, P27_3, P27_4, P27_5⟩ := hQ27
         have N27 := Fr.app N23 N27q
         have Zs29 : n0 ≤ T27.heap.size := Nat.le_trans Zs25 K27.1
         have K30 := (Keep.refl h0 [g, bf]).trans K5 (allS (Or.inl (List.mem_of_getElem? (i := 0) rfl)) (allS (Or.inl (List.mem_of_getElem? (i := 1) rfl)) all0))
         have K31 := K30.trans K13 (allS (Or.inl (List.mem_of_getElem? (i := 0) rfl)) (allS (Or.inl (List.mem_of_getElem? (i := 1) rfl)) all0))
         have K32 := K31.trans K23 (allS (Or.inl (List.mem_of_getElem? (i := 0) rfl)) (allS (Or.inl (List.mem_of_getElem? (i := 1) rfl)) all0))
         have K33 := K32.trans K27 (allS (Or.inl (List.mem_of_getElem? (i := 0) rfl)) (allS (Or.inl (List.mem_of_getElem? (i := 1) rfl)) all0))
         obtain ⟨fs, hr, hrun, hended, hW, hsame⟩ := X27.leave (v := none) (fun _ => rfl)
         exact ⟨_, _, X27.returnOut hx Bd.returns (hb hby d8_40) hr, hrun, hended, _, _, rfl, (show Qrmwn Z g q bf kf vs cn h0 n0 _ T27.heap _ from (by exact ⟨us_27, dn_27, rfl, N27, K33, P27_0, P27_1, P27_2, P27_3, P27_4, (by omega)⟩)), ⟨_, rfl⟩, hW, hsame.mono (by decide) (by decide)⟩
       · skip
         refine own_go (b := (T23.setTop (mkF m 23 #[.val (.ref g), .val (.long q), .second, .val (.long (own_sh (own_sh (own_sh q)))), .second] [(.int ((((own_sh (own_sh (own_sh q))) &&& (127 : Int64)).toInt32) ||| (128 : Int32))), (.ref g)]))) (fun _ k => XS.ifNo X23.here hx rfl (hb hby d8_9) rfl ((if0 _ _).trans (feq hc9_26).1) (XS.aloadN X23.here hx rfl (hb hby d8_12) rfl rfl (XS.lloadN X23.here hx rfl (hb hby d8_13) rfl (X23.ldc2Long hx hown (mvT hZ (hw _ (List.mem_of_getElem? (i := 63) rfl))) (g := (mkF m 14 #[.val (.ref g), .val (.long q), .second, .val (.long (own_sh (own_sh (own_sh q)))), .second] [(.long (own_sh (own_sh (own_sh q)))), (.ref g)])) rfl (hb hby d8_14) _ (XS.land X23.here hx rfl (hb hby d8_17) rfl (XS.l2i X23.here hx rfl (hb hby d8_18) rfl (XS.sipush X23.here hx rfl (hb hby d8_19) (XS.ior X23.here hx rfl (hb hby d8_22) rfl k)))))))) ?_
         have F35 := F24.keep K23
         refine own_virtS (W := 0) X23 hx hZ hown rfl (hw _ (List.mem_of_getElem? (i := 51) rfl)) (hw _ (List.mem_of_getElem? (i := 52) rfl)) (hw _ (List.mem_of_getElem? (i := 54) rfl)) (hw _ (List.mem_of_getElem? (i := 53) rfl)) (rmwr l Z a0 hw [] g ((((own_sh (own_sh (own_sh q))) &&& (127 : Int64)).toInt32) ||| (128 : Int32)) bf kf us_23 dn_23 T23.heap n0 Zs25 F35 P23_0 P23_1 P23_2 P23_3 P23_4 g_g g_bf (by omega)) (hw _ (List.mem_of_getElem? (i := 55) rfl)) (hw _ (List.mem_of_getElem? (i := 11) rfl)) F35 rfl (by rw [hml]; rfl) rfl (hb hby d8_23) (lenOf pd__I_V rfl) rfl (by decide) (fun T34 v34 Ll34 X34 hQ34 => ?_)
         obtain ⟨us_34, dn_34, rfl, N34q, K34, P34_0, P34_1, P34_2, P34_3, P34_4, P34_5⟩ := hQ34
         have N34 := Fr.app N23 N34q
         have Zs36 : n0 ≤ T34.heap.size := Nat.le_trans Zs25 K34.1
         refine own_go (b := (T34.setTop (mkF m 37 #[.val (.ref g), .val (.long q), .second, .val (.long (own_sh (own_sh (own_sh (own_sh q))))), .second] [(.int ((own_sh (own_sh (own_sh (own_sh q)))).toInt32)), (.ref g)]))) (fun _ k => XS.lloadN X34.here hx rfl (hb hby d8_26) rfl (XS.bipush X34.here hx rfl (hb hby d8_27) (XS.lushr X34.here hx rfl (hb hby d8_29) rfl (XS.lstoreN X34.here hx rfl (hb hby d8_30) rfl (l' := #[.val (.ref g), .val (.long q), .second, .val (.long (own_sh (own_sh (own_sh (own_sh q))))), .second]) rfl (XS.goto X34.here hx rfl (pc0 := 31) (pc' := 2) rfl (hb hby d8_31) (by decide) (by decide) (XS.lloadN X34.here hx rfl (hb hby d8_2) rfl (X34.ldc2Long hx hown (mvT hZ (hw _ (List.mem_of_getElem? (i := 50) rfl))) (g := (mkF m 3 #[.val (.ref g), .val (.long q), .second, .val (.long (own_sh (own_sh (own_sh (own_sh q))))), .second] [(.long (own_sh (own_sh (own_sh (own_sh q)))))])) rfl (hb hby d8_3) _ (XS.land X34.here hx rfl (hb hby d8_6) rfl (XS.lconst X34.here hx rfl (hb hby d8_7) (XS.lcmp X34.here hx rfl (hb hby d8_8) rfl (XS.ifYes X34.here hx rfl (pc0 := 9) (pc' := 34) rfl (hb hby d8_9) rfl ((if0 _ _).trans (teq ((lw_eq _ _).2 (own_z4 q hq))).1) (by decide) (by decide) (XS.aloadN X34.here hx rfl (hb hby d8_34) rfl rfl (XS.lloadN X34.here hx rfl (hb hby d8_35) rfl (XS.l2i X34.here hx rfl (hb hby d8_36) rfl k)))))))))))))) ?_
         have F38 := F35.keep K34
         refine own_virtS (W := 0) X34 hx hZ hown rfl (hw _ (List.mem_of_getElem? (i := 51) rfl)) (hw _ (List.mem_of_getElem? (i := 52) rfl)) (hw _ (List.mem_of_getElem? (i := 54) rfl)) (hw _ (List.mem_of_getElem? (i := 53) rfl)) (rmwr l Z a0 hw [] g ((own_sh (own_sh (own_sh (own_sh q)))).toInt32) bf kf us_34 dn_34 T34.heap n0 Zs36 F38 P34_0 P34_1 P34_2 P34_3 P34_4 g_g g_bf (by omega)) (hw _ (List.mem_of_getElem? (i := 55) rfl)) (hw _ (List.mem_of_getElem? (i := 11) rfl)) F38 rfl (by rw [hml]; rfl) rfl (hb hby d8_37) (lenOf pd__I_V rfl) rfl (by decide) (fun T37 v37 Ll37 X37 hQ37 => ?_)
         obtain ⟨us_37, dn_37, rfl, N37q, K37, P37_0, P37_1, P37_2, P37_3, P37_4, P37_5⟩ := hQ37
         have N37 := Fr.app N34 N37q
         have Zs39 : n0 ≤ T37.heap.size := Nat.le_trans Zs36 K37.1
         have K40 := (Keep.refl h0 [g, bf]).trans K5 (allS (Or.inl (List.mem_of_getElem? (i := 0) rfl)) (allS (Or.inl (List.mem_of_getElem? (i := 1) rfl)) all0))
         have K41 := K40.trans K13 (allS (Or.inl (List.mem_of_getElem? (i := 0) rfl)) (allS (Or.inl (List.mem_of_getElem? (i := 1) rfl)) all0))
         have K42 := K41.trans K23 (allS (Or.inl (List.mem_of_getElem? (i := 0) rfl)) (allS (Or.inl (List.mem_of_getElem? (i := 1) rfl)) all0))
         have K43 := K42.trans K34 (allS (Or.inl (List.mem_of_getElem? (i := 0) rfl)) (allS (Or.inl (List.mem_of_getElem? (i := 1) rfl)) all0))
         have K44 := K43.trans K37 (allS (Or.inl (List.mem_of_getElem? (i := 0) rfl)) (allS (Or.inl (List.mem_of_getElem? (i := 1) rfl)) all0))
         obtain ⟨fs, hr, hrun, hended, hW, hsame⟩ := X37.leave (v := none) (fun _ => rfl)
         exact ⟨_, _, X37.returnOut hx Bd.returns (hb hby d8_40) hr, hrun, hended, _, _, rfl, (show Qrmwn Z g q bf kf vs cn h0 n0 _ T37.heap _ from (by exact ⟨us_37, dn_37, rfl, N37, K44, P37_0, P37_1, P37_2, P37_3, P37_4, (by omega)⟩)), ⟨_, rfl⟩, hW, hsame.mono (by decide) (by decide)⟩
theorem d7_0 : decode prog_21_method_2_code 0 = .ok (.aload_n 0, 1) := by decide +kernel
theorem d7_1 : decode prog_21_method_2_code 1 = .ok (.getfield 10, 3) := by decide +kernel
theorem d7_4 : decode prog_21_method_2_code 4 = .ok (.iload_n 1, 1) := by decide +kernel
theorem d7_5 : decode prog_21_method_2_code 5 = .ok (.aload_n 0, 1) := by decide +kernel
theorem d7_6 : decode prog_21_method_2_code 6 = .ok (.getfield 16, 3) := by decide +kernel
theorem d7_9 : decode prog_21_method_2_code 9 = .ok (.isub, 1) := by decide +kernel
theorem d7_10 : decode prog_21_method_2_code 10 = .ok (.iconst 1, 1) := by decide +kernel
theorem d7_11 : decode prog_21_method_2_code 11 = .ok (.isub, 1) := by decide +kernel
theorem d7_12 : decode prog_21_method_2_code 12 = .ok (.i2l, 1) := by decide +kernel
theorem d7_13 : decode prog_21_method_2_code 13 = .ok (.invokestatic 20, 3) := by decide +kernel
theorem d7_16 : decode prog_21_method_2_code 16 = .ok (.aload_n 0, 1) := by decide +kernel
theorem d7_17 : decode prog_21_method_2_code 17 = .ok (.iload_n 1, 1) := by decide +kernel
theorem d7_18 : decode prog_21_method_2_code 18 = .ok (.putfield 16, 3) := by decide +kernel
theorem d7_21 : decode prog_21_method_2_code 21 = .ok (.aload_n 0, 1) := by decide +kernel
theorem d7_22 : decode prog_21_method_2_code 22 = .ok (.dup, 1) := by decide +kernel
theorem d7_23 : decode prog_21_method_2_code 23 = .ok (.getfield 26, 3) := by decide +kernel
theorem d7_26 : decode prog_21_method_2_code 26 = .ok (.iconst 1, 1) := by decide +kernel
theorem d7_27 : decode prog_21_method_2_code 27 = .ok (.iadd, 1) := by decide +kernel
theorem d7_28 : decode prog_21_method_2_code 28 = .ok (.putfield 26, 3) := by decide +kernel
theorem d7_31 : decode prog_21_method_2_code 31 = .ok (.return_, 1) := by decide +kernel
theorem pd__Ljava_io_ByteArrayOutputStream_J_V : parseMethodDescriptor "(Ljava/io/ByteArrayOutputStream;J)V" = some ⟨[(.object "java/io/ByteArrayOutputStream"), .long], none⟩ := by decide +kernel
theorem pn_7 : plainName "com/example/urd/urd/documents/Postings$Ascending" = true := by first | (simp [plainName, overriddenIn]; done) | decide +kernel
theorem ef_rmadd (m : MethodId) (x0 : Addr) (x1 : Int32) : entryFrame m #[(.ref x0), (.int x1)] 2 = mkF m 0 #[.val (.ref x0), .val (.int x1)] [] := by first | (simp [entryFrame, mkF, argsToLocals, Value.category]; done) | rfl
def Qrmadd (Z : State) (a1 : Addr) (pv : Int32) (la : Int32) (kt : Int32) (g : Addr) (bf : Addr) (kf : ClassId) (vs : List Value) (cn : Int32) (h0 : Heap) (n0 : Nat) (v : Option Value) (h : Heap) (L : List Loc) : Prop := ∃ (us : List Value) (dn : Int32), v = none ∧ Fr n0 L ∧ Keep h0 h [a1, g, bf] ∧ (Fld Z h a1 "com/example/urd/urd/documents/Postings$Ascending" "gaps" "Ljava/io/ByteArrayOutputStream;" (.ref g)) ∧ (Fld Z h a1 "com/example/urd/urd/documents/Postings$Ascending" "last" "I" (.int pv)) ∧ (Fld Z h a1 "com/example/urd/urd/documents/Postings$Ascending" "count" "I" (.int (kt + (1 : Int32)))) ∧ (Fld Z h g "java/io/ByteArrayOutputStream" "buf" "[B" (.ref bf)) ∧ (Fld Z h g "java/io/ByteArrayOutputStream" "count" "I" (.int dn)) ∧ (Arv Z h bf kf .byte (32 : Int32) us (.int (0 : Int32))) ∧ (us.length = 32) ∧ (Unt h g) ∧ (0 ≤ dn.toInt ∧ dn.toInt ≤ cn.toInt + 5)
set_option maxRecDepth 65536 in
set_option maxHeartbeats 40000000 in
theorem rmadd (l : Launch) (Z : State) (a0 : Array Value) (hw : ∀ d ∈ tables_1, d.before a0 Z = true) (ws : List Jvm.Cond) (a1 : Addr) (pv : Int32) (la : Int32) (kt : Int32) (g : Addr) (bf : Addr) (kf : ClassId) (vs : List Value) (cn : Int32) (h0 : Heap) (n0 : Nat) (Z0 : n0 ≤ h0.size) (E_a1 : Exa Z h0 a1 "com/example/urd/urd/documents/Postings$Ascending") (Fld_a1_gaps : Fld Z h0 a1 "com/example/urd/urd/documents/Postings$Ascending" "gaps" "Ljava/io/ByteArrayOutputStream;" (.ref g)) (Fld_a1_last : Fld Z h0 a1 "com/example/urd/urd/documents/Postings$Ascending" "last" "I" (.int la)) (Fld_a1_count : Fld Z h0 a1 "com/example/urd/urd/documents/Postings$Ascending" "count" "I" (.int kt)) (E_g : Exa Z h0 g "java/io/ByteArrayOutputStream") (Fld_g_buf : Fld Z h0 g "java/io/ByteArrayOutputStream" "buf" "[B" (.ref bf)) (Fld_g_count : Fld Z h0 g "java/io/ByteArrayOutputStream" "count" "I" (.int cn)) (V_bf : Arv Z h0 bf kf .byte (32 : Int32) vs (.int (0 : Int32))) (hvs : vs.length = 32) (U_g : Unt h0 g) (g_a1 : n0 ≤ a1) (g_g : n0 ≤ g) (g_bf : n0 ≤ bf) (hq : 0 ≤ ((pv - la) - (1 : Int32)).toInt) (hc : 0 ≤ cn.toInt ∧ cn.toInt ≤ 27) :
    MetFree l (⟨"com/example/urd/urd/documents/Postings$Ascending", "add", "(I)V"⟩ : MethodName) (head1 (Jvm.Cond.code (⟨"com/example/urd/urd/documents/Postings$Ascending", "add", "(I)V"⟩ : MethodName) prog_21_method_2_code 2 none :: ws) ({ frames := 3, cells := 0, slots := 0, locals := 46 } : Room)) (fun a U => a = #[(.ref a1), (.int pv)] ∧ Z.Warmed39 U.vm ∧ U.heap = h0) (fun _ _ _ _ _ => True) (fun _ U o U' => ∃ v L, o = .returned v ∧ Qrmadd Z a1 pv la kt g bf kf vs cn h0 n0 v U'.heap L ∧ FrameEnd U o U' L ({ frames := 3, cells := 0, slots := 0, locals := 46 } : Room).cells ({ frames := 3, cells := 0, slots := 0, locals := 46 } : Room).slots) := by
 refine MetFree.of_bodySF (plainFor_of_name pn_7) hisR ?_
 intro p e s m args below meth c s₁ Bd hml0 hP hK
 obtain ⟨rfl, hZ, hh⟩ := hP
 have hx := Bd.exec
 have hby := Bd.bytes
 have hml : c.maxLocals = 2 := hml0
 have hown : s.vm.findClass "com/example/urd/urd/documents/Postings$Ascending" = some m.cls := findClass_of_methodNamed Bd.named
 have hnm := (name_of_methodNamed Bd.named Bd.method).1
 have X0 : Stand p l e ({ frames := 3, cells := 0, slots := 0, locals := 46 } : Room) s m #[(.ref a1), (.int pv)] below meth c s₁ [] 0 0 := Stand.of_body Bd
 have e0 : s₁.heap = h0 := by rw [← hh, Bd.state]; rfl
 have N0 := Fr.nil n0
 refine own_go (b := (s₁.setTop (mkF m 0 #[.val (.ref a1), .val (.int pv)] []))) (fun _ k => castTop (ef_rmadd m a1 pv) k) ?_
 refine own_go (b := (s₁.setTop (mkF m 1 #[.val (.ref a1), .val (.int pv)] [(.ref a1)]))) (fun _ k => XS.aloadN X0.here hx rfl (hb hby d7_0) rfl rfl k) ?_
 refine own_getf X0 hx hZ hown (hw _ (List.mem_of_getElem? (i := 29) rfl)) Via.refl e0 Fld_a1_gaps rfl rfl (hb hby d7_1) (fun T1 X1 e1 => ?_)
 refine own_go (b := (T1.setTop (mkF m 6 #[.val (.ref a1), .val (.int pv)] [(.ref a1), (.int pv), (.ref g)]))) (fun _ k => XS.iloadN X1.here hx rfl (hb hby d7_4) rfl (XS.aloadN X1.here hx rfl (hb hby d7_5) rfl rfl k)) ?_
 refine own_getf X1 hx hZ hown (hw _ (List.mem_of_getElem? (i := 31) rfl)) Via.refl e1 Fld_a1_last rfl rfl (hb hby d7_6) (fun T2 X2 e2 => ?_)
 refine own_go (b := (T2.setTop (mkF m 13 #[.val (.ref a1), .val (.int pv)] [(.long (((pv - la) - (1 : Int32)).toInt64)), (.ref g)]))) (fun _ k => XS.isub X2.here hx rfl (hb hby d7_9) rfl (XS.iconst X2.here hx rfl (hb hby d7_10) (XS.isub X2.here hx rfl (hb hby d7_11) rfl (XS.i2l X2.here hx rfl (hb hby d7_12) rfl k)))) ?_
 refine own_stat (W := 0) X2 hx hZ hown e2 (hw _ (List.mem_of_getElem? (i := 46) rfl)) (hw _ (List.mem_of_getElem? (i := 47) rfl)) (rmwn l Z a0 hw [] g (((pv - la) - (1 : Int32)).toInt64) bf kf vs cn h0 n0 Z0 E_g Fld_g_buf Fld_g_count V_bf hvs U_g g_g g_bf (own_i2l _ hq) hc) (hw _ (List.mem_of_getElem? (i := 49) rfl)) (hw _ (List.mem_of_getElem? (i := 48) rfl)) rfl (by rw [hml]; rfl) rfl (hb hby d7_13) (lenOf pd__Ljava_io_ByteArrayOutputStream_J_V rfl) rfl (by decide) (fun T3 v3 Ll3 X3 hQ3 => ?_)
 obtain ⟨us_3, dn_3, rfl, N3q, K3, P3_0, P3_1, P3_2, P3_3, P3_4, P3_5⟩ := hQ3
 have N3 := Fr.app N0 N3q
 have Zs4 : n0 ≤ T3.heap.size := Nat.le_trans Z0 K3.1
 refine own_go (b := (T3.setTop (mkF m 18 #[.val (.ref a1), .val (.int pv)] [(.int pv), (.ref a1)]))) (fun _ k => XS.aloadN X3.here hx rfl (hb hby d7_16) rfl rfl (XS.iloadN X3.here hx rfl (hb hby d7_17) rfl k)) ?_
 have F5 := E_a1.keep K3
 obtain ⟨cn6, An6, -⟩ := id V_bf
 have nx7 : a1 ≠ bf := (ne_arr E_a1 (hw _ (List.mem_of_getElem? (i := 1) rfl)) An6)
 have nx8 : a1 ≠ g := (ne_exa E_a1 E_g (by decide))
 have F9 := Fld_a1_last.keep K3 (ninS nx8 (ninS nx7 nin0))
 obtain ⟨T10, h10, X10, e10, W10, st10⟩ := putF X3 hx hZ hown (host := "") (Or.inl (hw _ (List.mem_of_getElem? (i := 31) rfl))) Via.refl rfl F9 F5 (Or.inl (hw _ (List.mem_of_getElem? (i := 32) rfl))) (hw _ (List.mem_of_getElem? (i := 1) rfl)) (ty := .int) (by decide) rfl rfl (g := (mkF m 18 #[.val (.ref a1), .val (.int pv)] [(.int pv), (.ref a1)])) rfl rfl (hb hby d7_18)
 have N10 := Fr.snoc X10 N3 g_a1
 have Zs11 : n0 ≤ h10.size := Nat.le_trans Zs4 (Keep.of_wr W10).1
 have F10 : Fld Z h10 a1 "com/example/urd/urd/documents/Postings$Ascending" "last" "I" (.int pv) := F9.same W10
 refine own_go (b := (T10.setTop (mkF m 23 #[.val (.ref a1), .val (.int pv)] [(.ref a1), (.ref a1)]))) (fun _ k => st10 _ (XS.aloadN X10.here hx rfl (hb hby d7_21) rfl rfl (XS.dup X10.here hx rfl (hb hby d7_22) rfl rfl k))) ?_
 have F12 := Fld_a1_count.keep K3 (ninS nx8 (ninS nx7 nin0))
 have F13 := F12.other W10 (Or.inr (slot_ne (Or.inl (hw _ (List.mem_of_getElem? (i := 39) rfl))) (Or.inl (hw _ (List.mem_of_getElem? (i := 32) rfl))) (by decide) (t := .int) (t' := .int) (by decide) (by decide)))
 refine own_getf X10 hx hZ hown (hw _ (List.mem_of_getElem? (i := 38) rfl)) Via.refl e10 F13 rfl rfl (hb hby d7_23) (fun T14 X14 e14 => ?_)
 refine own_go (b := (T14.setTop (mkF m 28 #[.val (.ref a1), .val (.int pv)] [(.int (kt + (1 : Int32))), (.ref a1)]))) (fun _ k => XS.iconst X14.here hx rfl (hb hby d7_26) (XS.iadd X14.here hx rfl (hb hby d7_27) rfl k)) ?_
 have F15 := F5.wr W10
 obtain ⟨T16, h16, X16, e16, W16, st16⟩ := putF X14 hx hZ hown (host := "") (Or.inl (hw _ (List.mem_of_getElem? (i := 38) rfl))) Via.refl e14 F13 F15 (Or.inl (hw _ (List.mem_of_getElem? (i := 39) rfl))) (hw _ (List.mem_of_getElem? (i := 1) rfl)) (ty := .int) (by decide) rfl rfl (g := (mkF m 28 #[.val (.ref a1), .val (.int pv)] [(.int (kt + (1 : Int32))), (.ref a1)])) rfl rfl (hb hby d7_28)
 have N16 := Fr.snoc X16 N10 g_a1
 have Zs17 : n0 ≤ h16.size := Nat.le_trans Zs11 (Keep.of_wr W16).1
 have F16 : Fld Z h16 a1 "com/example/urd/urd/documents/Postings$Ascending" "count" "I" (.int (kt + (1 : Int32))) := F13.same W16
 refine own_go (b := (T16.setTop (mkF m 31 #[.val (.ref a1), .val (.int pv)] []))) (fun _ k => st16 _ k) ?_
 have K18 := (Keep.refl h0 [a1, g, bf]).trans K3 (allS (Or.inl (List.mem_of_getElem? (i := 1) rfl)) (allS (Or.inl (List.mem_of_getElem? (i := 2) rfl)) all0))
 have K19 := K18.wr W10 (Or.inl (List.mem_of_getElem? (i := 0) rfl))
 have K20 := K19.wr W16 (Or.inl (List.mem_of_getElem? (i := 0) rfl))
 have F21 := Fld_a1_gaps.keep K3 (ninS nx8 (ninS nx7 nin0))
 have F22 := F21.other W10 (Or.inr (slot_ne (Or.inr (hw _ (List.mem_of_getElem? (i := 30) rfl))) (Or.inl (hw _ (List.mem_of_getElem? (i := 32) rfl))) (by decide) (t := (.object "java/io/ByteArrayOutputStream")) (t' := .int) (by decide) (by decide)))
 have F23 := F22.other W16 (Or.inr (slot_ne (Or.inr (hw _ (List.mem_of_getElem? (i := 30) rfl))) (Or.inl (hw _ (List.mem_of_getElem? (i := 39) rfl))) (by decide) (t := (.object "java/io/ByteArrayOutputStream")) (t' := .int) (by decide) (by decide)))
 have F24 := F10.other W16 (Or.inr (slot_ne (Or.inl (hw _ (List.mem_of_getElem? (i := 32) rfl))) (Or.inl (hw _ (List.mem_of_getElem? (i := 39) rfl))) (by decide) (t := .int) (t' := .int) (by decide) (by decide)))
 have F25 := P3_0.other W10 (Or.inl (Ne.symm nx8))
 have F26 := F25.other W16 (Or.inl (Ne.symm nx8))
 have F27 := P3_1.other W10 (Or.inl (Ne.symm nx8))
 have F28 := F27.other W16 (Or.inl (Ne.symm nx8))
 have F29 := P3_2.other W10 (Ne.symm nx7)
 have F30 := F29.other W16 (Ne.symm nx7)
 have F31 := P3_4.wr W10
 have F32 := F31.wr W16
 obtain ⟨fs, hr, hrun, hended, hW, hsame⟩ := X16.leave (v := none) (fun _ => rfl)
 exact ⟨_, _, X16.returnOut hx Bd.returns (hb hby d7_31) hr, hrun, hended, _, _, rfl, (show Qrmadd Z a1 pv la kt g bf kf vs cn h0 n0 _ T16.heap _ from (by rw [e16]; exact ⟨us_3, dn_3, rfl, N16, K20, F23, F24, F16, F26, F28, F30, P3_3, F32, P3_5⟩)), ⟨_, rfl⟩, hW, hsame.mono (by decide) (by decide)⟩
theorem d10_0 : decode prog_21_method_4_code 0 = .ok (.aload_n 0, 1) := by decide +kernel
theorem d10_1 : decode prog_21_method_4_code 1 = .ok (.getfield 10, 3) := by decide +kernel
theorem d10_4 : decode prog_21_method_4_code 4 = .ok (.invokevirtual 29, 3) := by decide +kernel
theorem d10_7 : decode prog_21_method_4_code 7 = .ok (.aload_n 0, 1) := by decide +kernel
theorem d10_8 : decode prog_21_method_4_code 8 = .ok (.iconst 0, 1) := by decide +kernel
theorem d10_9 : decode prog_21_method_4_code 9 = .ok (.putfield 26, 3) := by decide +kernel
theorem d10_12 : decode prog_21_method_4_code 12 = .ok (.aload_n 0, 1) := by decide +kernel
theorem d10_13 : decode prog_21_method_4_code 13 = .ok (.iconst (-1), 1) := by decide +kernel
theorem d10_14 : decode prog_21_method_4_code 14 = .ok (.putfield 16, 3) := by decide +kernel
theorem d10_17 : decode prog_21_method_4_code 17 = .ok (.return_, 1) := by decide +kernel
theorem pn_10 : plainName "com/example/urd/urd/documents/Postings$Ascending" = true := by first | (simp [plainName, overriddenIn]; done) | decide +kernel
theorem ef_rmcl (m : MethodId) (x0 : Addr) : entryFrame m #[(.ref x0)] 1 = mkF m 0 #[.val (.ref x0)] [] := by first | (simp [entryFrame, mkF, argsToLocals, Value.category]; done) | rfl
def Qrmcl (Z : State) (a1 : Addr) (la : Int32) (kt : Int32) (g : Addr) (bf : Addr) (kf : ClassId) (vs : List Value) (cn : Int32) (h0 : Heap) (n0 : Nat) (v : Option Value) (h : Heap) (L : List Loc) : Prop := v = none ∧ Fr n0 L ∧ Keep h0 h [a1, g] ∧ (Fld Z h a1 "com/example/urd/urd/documents/Postings$Ascending" "gaps" "Ljava/io/ByteArrayOutputStream;" (.ref g)) ∧ (Fld Z h a1 "com/example/urd/urd/documents/Postings$Ascending" "last" "I" (.int (-1 : Int32))) ∧ (Fld Z h a1 "com/example/urd/urd/documents/Postings$Ascending" "count" "I" (.int (0 : Int32))) ∧ (Fld Z h g "java/io/ByteArrayOutputStream" "buf" "[B" (.ref bf)) ∧ (Fld Z h g "java/io/ByteArrayOutputStream" "count" "I" (.int (0 : Int32))) ∧ (Unt h g)
set_option maxRecDepth 65536 in
set_option maxHeartbeats 40000000 in
theorem rmcl (l : Launch) (Z : State) (a0 : Array Value) (hw : ∀ d ∈ tables_1, d.before a0 Z = true) (ws : List Jvm.Cond) (a1 : Addr) (la : Int32) (kt : Int32) (g : Addr) (bf : Addr) (kf : ClassId) (vs : List Value) (cn : Int32) (h0 : Heap) (n0 : Nat) (Z0 : n0 ≤ h0.size) (E_a1 : Exa Z h0 a1 "com/example/urd/urd/documents/Postings$Ascending") (Fld_a1_gaps : Fld Z h0 a1 "com/example/urd/urd/documents/Postings$Ascending" "gaps" "Ljava/io/ByteArrayOutputStream;" (.ref g)) (Fld_a1_last : Fld Z h0 a1 "com/example/urd/urd/documents/Postings$Ascending" "last" "I" (.int la)) (Fld_a1_count : Fld Z h0 a1 "com/example/urd/urd/documents/Postings$Ascending" "count" "I" (.int kt)) (E_g : Exa Z h0 g "java/io/ByteArrayOutputStream") (Fld_g_buf : Fld Z h0 g "java/io/ByteArrayOutputStream" "buf" "[B" (.ref bf)) (Fld_g_count : Fld Z h0 g "java/io/ByteArrayOutputStream" "count" "I" (.int cn)) (V_bf : Arv Z h0 bf kf .byte (32 : Int32) vs (.int (0 : Int32))) (hvs : vs.length = 32) (U_g : Unt h0 g) (g_a1 : n0 ≤ a1) (g_g : n0 ≤ g) (g_bf : n0 ≤ bf) :
    MetFree l (⟨"com/example/urd/urd/documents/Postings$Ascending", "clear", "()V"⟩ : MethodName) (head1 (Jvm.Cond.code (⟨"com/example/urd/urd/documents/Postings$Ascending", "clear", "()V"⟩ : MethodName) prog_21_method_4_code 1 none :: ws) ({ frames := 1, cells := 0, slots := 0, locals := 12 } : Room)) (fun a U => a = #[(.ref a1)] ∧ Z.Warmed39 U.vm ∧ U.heap = h0) (fun _ _ _ _ _ => True) (fun _ U o U' => ∃ v L, o = .returned v ∧ Qrmcl Z a1 la kt g bf kf vs cn h0 n0 v U'.heap L ∧ FrameEnd U o U' L ({ frames := 1, cells := 0, slots := 0, locals := 12 } : Room).cells ({ frames := 1, cells := 0, slots := 0, locals := 12 } : Room).slots) := by
 refine MetFree.of_bodySF (plainFor_of_name pn_10) hisR ?_
 intro p e s m args below meth c s₁ Bd hml0 hP hK
 obtain ⟨rfl, hZ, hh⟩ := hP
 have hx := Bd.exec
 have hby := Bd.bytes
 have hml : c.maxLocals = 1 := hml0
 have hown : s.vm.findClass "com/example/urd/urd/documents/Postings$Ascending" = some m.cls := findClass_of_methodNamed Bd.named
 have hnm := (name_of_methodNamed Bd.named Bd.method).1
 have X0 : Stand p l e ({ frames := 1, cells := 0, slots := 0, locals := 12 } : Room) s m #[(.ref a1)] below meth c s₁ [] 0 0 := Stand.of_body Bd
 have e0 : s₁.heap = h0 := by rw [← hh, Bd.state]; rfl
 have N0 := Fr.nil n0
 refine own_go (b := (s₁.setTop (mkF m 0 #[.val (.ref a1)] []))) (fun _ k => castTop (ef_rmcl m a1) k) ?_
 refine own_go (b := (s₁.setTop (mkF m 1 #[.val (.ref a1)] [(.ref a1)]))) (fun _ k => XS.aloadN X0.here hx rfl (hb hby d10_0) rfl rfl k) ?_
 refine own_getf X0 hx hZ hown (hw _ (List.mem_of_getElem? (i := 29) rfl)) Via.refl e0 Fld_a1_gaps rfl rfl (hb hby d10_1) (fun T1 X1 e1 => ?_)
 refine own_virtS (W := 0) X1 hx hZ hown e1 (hw _ (List.mem_of_getElem? (i := 69) rfl)) (hw _ (List.mem_of_getElem? (i := 70) rfl)) (hw _ (List.mem_of_getElem? (i := 72) rfl)) (hw _ (List.mem_of_getElem? (i := 71) rfl)) (rmre l Z a0 hw [] g bf kf vs cn h0 n0 Z0 E_g Fld_g_buf Fld_g_count V_bf hvs U_g g_g g_bf) (hw _ (List.mem_of_getElem? (i := 73) rfl)) (hw _ (List.mem_of_getElem? (i := 11) rfl)) E_g rfl (by rw [hml]; rfl) rfl (hb hby d10_4) (lenOf pd___V rfl) rfl (by decide) (fun T2 v2 Ll2 X2 hQ2 => ?_)
 obtain ⟨rfl, N2q, K2, P2_0, P2_1, P2_2⟩ := hQ2
 have N2 := Fr.app N0 N2q
 have Zs3 : n0 ≤ T2.heap.size := Nat.le_trans Z0 K2.1
 refine own_go (b := (T2.setTop (mkF m 9 #[.val (.ref a1)] [(.int (0 : Int32)), (.ref a1)]))) (fun _ k => XS.aloadN X2.here hx rfl (hb hby d10_7) rfl rfl (XS.iconst X2.here hx rfl (hb hby d10_8) k)) ?_
 have F4 := E_a1.keep K2
 have nx5 : a1 ≠ g := (ne_exa E_a1 E_g (by decide))
 have F6 := Fld_a1_count.keep K2 (ninS nx5 nin0)
 obtain ⟨T7, h7, X7, e7, W7, st7⟩ := putF X2 hx hZ hown (host := "") (Or.inl (hw _ (List.mem_of_getElem? (i := 38) rfl))) Via.refl rfl F6 F4 (Or.inl (hw _ (List.mem_of_getElem? (i := 39) rfl))) (hw _ (List.mem_of_getElem? (i := 1) rfl)) (ty := .int) (by decide) rfl rfl (g := (mkF m 9 #[.val (.ref a1)] [(.int (0 : Int32)), (.ref a1)])) rfl rfl (hb hby d10_9)
 have N7 := Fr.snoc X7 N2 g_a1
 have Zs8 : n0 ≤ h7.size := Nat.le_trans Zs3 (Keep.of_wr W7).1
 have F7 : Fld Z h7 a1 "com/example/urd/urd/documents/Postings$Ascending" "count" "I" (.int (0 : Int32)) := F6.same W7
 refine own_go (b := (T7.setTop (mkF m 14 #[.val (.ref a1)] [(.int (-1 : Int32)), (.ref a1)]))) (fun _ k => st7 _ (XS.aloadN X7.here hx rfl (hb hby d10_12) rfl rfl (XS.iconst X7.here hx rfl (hb hby d10_13) k))) ?_
 have F9 := F4.wr W7
 have F10 := Fld_a1_last.keep K2 (ninS nx5 nin0)
 have F11 := F10.other W7 (Or.inr (slot_ne (Or.inl (hw _ (List.mem_of_getElem? (i := 32) rfl))) (Or.inl (hw _ (List.mem_of_getElem? (i := 39) rfl))) (by decide) (t := .int) (t' := .int) (by decide) (by decide)))
 obtain ⟨T12, h12, X12, e12, W12, st12⟩ := putF X7 hx hZ hown (host := "") (Or.inl (hw _ (List.mem_of_getElem? (i := 31) rfl))) Via.refl e7 F11 F9 (Or.inl (hw _ (List.mem_of_getElem? (i := 32) rfl))) (hw _ (List.mem_of_getElem? (i := 1) rfl)) (ty := .int) (by decide) rfl rfl (g := (mkF m 14 #[.val (.ref a1)] [(.int (-1 : Int32)), (.ref a1)])) rfl rfl (hb hby d10_14)
 have N12 := Fr.snoc X12 N7 g_a1
 have Zs13 : n0 ≤ h12.size := Nat.le_trans Zs8 (Keep.of_wr W12).1
 have F12 : Fld Z h12 a1 "com/example/urd/urd/documents/Postings$Ascending" "last" "I" (.int (-1 : Int32)) := F11.same W12
 refine own_go (b := (T12.setTop (mkF m 17 #[.val (.ref a1)] []))) (fun _ k => st12 _ k) ?_
 have K14 := (Keep.refl h0 [a1, g]).trans K2 (allS (Or.inl (List.mem_of_getElem? (i := 1) rfl)) all0)
 have K15 := K14.wr W7 (Or.inl (List.mem_of_getElem? (i := 0) rfl))
 have K16 := K15.wr W12 (Or.inl (List.mem_of_getElem? (i := 0) rfl))
 have F17 := Fld_a1_gaps.keep K2 (ninS nx5 nin0)
 have F18 := F17.other W7 (Or.inr (slot_ne (Or.inr (hw _ (List.mem_of_getElem? (i := 30) rfl))) (Or.inl (hw _ (List.mem_of_getElem? (i := 39) rfl))) (by decide) (t := (.object "java/io/ByteArrayOutputStream")) (t' := .int) (by decide) (by decide)))
 have F19 := F18.other W12 (Or.inr (slot_ne (Or.inr (hw _ (List.mem_of_getElem? (i := 30) rfl))) (Or.inl (hw _ (List.mem_of_getElem? (i := 32) rfl))) (by decide) (t := (.object "java/io/ByteArrayOutputStream")) (t' := .int) (by decide) (by decide)))
 have F20 := F7.other W12 (Or.inr (slot_ne (Or.inl (hw _ (List.mem_of_getElem? (i := 39) rfl))) (Or.inl (hw _ (List.mem_of_getElem? (i := 32) rfl))) (by decide) (t := .int) (t' := .int) (by decide) (by decide)))
 have F21 := P2_0.other W7 (Or.inl (Ne.symm nx5))
 have F22 := F21.other W12 (Or.inl (Ne.symm nx5))
 have F23 := P2_1.other W7 (Or.inl (Ne.symm nx5))
 have F24 := F23.other W12 (Or.inl (Ne.symm nx5))
 have F25 := P2_2.wr W7
 have F26 := F25.wr W12
 obtain ⟨fs, hr, hrun, hended, hW, hsame⟩ := X12.leave (v := none) (fun _ => rfl)
 exact ⟨_, _, X12.returnOut hx Bd.returns (hb hby d10_17) hr, hrun, hended, _, _, rfl, (show Qrmcl Z a1 la kt g bf kf vs cn h0 n0 _ T12.heap _ from (by rw [e12]; exact ⟨rfl, N12, K16, F19, F12, F20, F22, F24, F26⟩)), ⟨_, rfl⟩, hW, hsame.mono (by decide) (by decide)⟩
theorem pd___Z : parseMethodDescriptor "()Z" = some ⟨[], some .boolean⟩ := by decide +kernel
theorem pn_0 : plainName "com/example/urd/urd/documents/AscendingIsEmptyPinLaw" = true := by first | (simp [plainName, overriddenIn]; done) | decide +kernel
theorem ef_rm0 (m : MethodId) (x0 : Int32) (x1 : Int32) (x2 : Int32) (x3 : Int32) (x4 : Int32) : entryFrame m #[(.int x0), (.int x1), (.int x2), (.int x3), (.int x4)] maxLocals = mkF m 0 #[.val (.int x0), .val (.int x1), .val (.int x2), .val (.int x3), .val (.int x4), .unset, .unset, .unset, .unset, .unset] [] := by first | (simp [entryFrame, mkF, argsToLocals, Value.category, maxLocals]; done) | rfl
def Qrm0 (Z : State) (p0 : Int32) (p1 : Int32) (p2 : Int32) (p3 : Int32) (p4 : Int32) (h0 : Heap) (n0 : Nat) (v : Option Value) (h : Heap) (L : List Loc) : Prop := v = some (.int (1 : Int32)) ∧ Fr n0 L
set_option maxRecDepth 65536 in
set_option maxHeartbeats 40000000 in
theorem rm0 (l : Launch) (Z : State) (a0 : Array Value) (hw : ∀ d ∈ tables_1, d.before a0 Z = true) (ws : List Jvm.Cond) (p0 : Int32) (p1 : Int32) (p2 : Int32) (p3 : Int32) (p4 : Int32) (h0 : Heap) (n0 : Nat) (Z0 : n0 ≤ h0.size) :
    MetFree l x (head1 (Jvm.Cond.code x code maxLocals ret :: ws) room_1) (fun a U => a = #[(.int p0), (.int p1), (.int p2), (.int p3), (.int p4)] ∧ Z.Warmed39 U.vm ∧ U.heap = h0) (fun _ _ _ _ _ => True) (fun _ U o U' => ∃ v L, o = .returned v ∧ Qrm0 Z p0 p1 p2 p3 p4 h0 n0 v U'.heap L ∧ FrameEnd U o U' L room_1.cells room_1.slots) := by
 refine MetFree.of_bodySF (plainFor_of_name pn_0) hisR ?_
 intro p e s m args below meth c s₁ Bd hml0 hP hK
 obtain ⟨rfl, hZ, hh⟩ := hP
 have hx := Bd.exec
 have hby := Bd.bytes
 have hml : c.maxLocals = 10 := hml0
 have hown : s.vm.findClass "com/example/urd/urd/documents/AscendingIsEmptyPinLaw" = some m.cls := findClass_of_methodNamed Bd.named
 have hnm := (name_of_methodNamed Bd.named Bd.method).1
 have X0 : Stand p l e room_1 s m #[(.int p0), (.int p1), (.int p2), (.int p3), (.int p4)] below meth c s₁ [] 0 0 := Stand.of_body Bd
 have e0 : s₁.heap = h0 := by rw [← hh, Bd.state]; rfl
 have N0 := Fr.nil n0
 have z0 : (0 : Int32).toInt = 0 := by decide
 refine own_go (b := (s₁.setTop (mkF m 0 #[.val (.int p0), .val (.int p1), .val (.int p2), .val (.int p3), .val (.int p4), .unset, .unset, .unset, .unset, .unset] []))) (fun _ k => castTop (ef_rm0 m p0 p1 p2 p3 p4) k) ?_
 obtain ⟨T1, h1, X1, e1, E1, A1, D1, Un1, st1⟩ := newO X0 hx hZ hown (hw _ (List.mem_of_getElem? (i := 0) rfl)) (hw _ (List.mem_of_getElem? (i := 1) rfl)) (hw _ (List.mem_of_getElem? (i := 2) rfl)) e0 (g := (mkF m 0 #[.val (.int p0), .val (.int p1), .val (.int p2), .val (.int p3), .val (.int p4), .unset, .unset, .unset, .unset, .unset] [])) rfl (hb hby at_0) (by decide) (by decide)
 obtain ⟨b1, g1⟩ : ∃ z, z = h0.size := ⟨_, rfl⟩
 rw [← g1] at A1 D1 Un1 st1
 have Zs2 : n0 ≤ h1.size := Nat.le_trans Z0 E1.1
 have F1_gaps : Fld Z h1 b1 "com/example/urd/urd/documents/Postings$Ascending" "gaps" "Ljava/io/ByteArrayOutputStream;" .null := D1 (Or.inr (hw _ (List.mem_of_getElem? (i := 30) rfl))) (ty := (.object "java/io/ByteArrayOutputStream")) (by decide)
 have F1_last : Fld Z h1 b1 "com/example/urd/urd/documents/Postings$Ascending" "last" "I" (.int (0 : Int32)) := D1 (Or.inl (hw _ (List.mem_of_getElem? (i := 32) rfl))) (ty := .int) (by decide)
 have F1_count : Fld Z h1 b1 "com/example/urd/urd/documents/Postings$Ascending" "count" "I" (.int (0 : Int32)) := D1 (Or.inl (hw _ (List.mem_of_getElem? (i := 39) rfl))) (ty := .int) (by decide)
 refine own_go (b := (T1.setTop (mkF m 4 #[.val (.int p0), .val (.int p1), .val (.int p2), .val (.int p3), .val (.int p4), .unset, .unset, .unset, .unset, .unset] [(.ref b1), (.ref b1)]))) (fun _ k => st1 _ (XS.dup X1.here hx rfl (hb hby at_3) rfl rfl k)) ?_
 have gx4 : n0 ≤ b1 := Nat.le_trans Z0 (Nat.le_of_eq g1.symm)
 refine own_spec (W := 1) X1 hx hZ hown e1 (hw _ (List.mem_of_getElem? (i := 3) rfl)) (hw _ (List.mem_of_getElem? (i := 4) rfl)) (rmai l Z a0 hw [] b1 h1 n0 Zs2 A1 F1_gaps F1_last F1_count gx4) (hw _ (List.mem_of_getElem? (i := 5) rfl)) (hw _ (List.mem_of_getElem? (i := 2) rfl)) rfl (by rw [hml]; rfl) rfl (hb hby at_4) (lenOf pd___V rfl) rfl rfl (by decide) (fun T3 v3 Ll3 X3 hQ3 => ?_)
 obtain ⟨g_3, bf_3, kf_3, vs_3, rfl, N3q, K3, P3_0, P3_1, P3_2, P3_3, P3_4, P3_5, P3_6, P3_7, P3_8, P3_9, P3_10⟩ := hQ3
 have N3 := Fr.app N0 N3q
 have Zs5 : n0 ≤ T3.heap.size := Nat.le_trans Zs2 K3.1
 refine own_go (b := (T3.setTop (mkF m 11 #[.val (.int p0), .val (.int p1), .val (.int p2), .val (.int p3), .val (.int p4), .val (.ref b1), .unset, .unset, .unset, .unset] [(.ref b1)]))) (fun _ k => XS.astore X3.here hx rfl (hb hby at_7) rfl rfl (l' := #[.val (.int p0), .val (.int p1), .val (.int p2), .val (.int p3), .val (.int p4), .val (.ref b1), .unset, .unset, .unset, .unset]) rfl (XS.aload X3.here hx rfl (hb hby at_9) rfl rfl k)) ?_
 have F7 := A1.keep K3
 refine own_virt (W := 0) X3 hx hZ hown rfl (hw _ (List.mem_of_getElem? (i := 33) rfl)) (hw _ (List.mem_of_getElem? (i := 34) rfl)) (hw _ (List.mem_of_getElem? (i := 36) rfl)) (hw _ (List.mem_of_getElem? (i := 35) rfl)) (rmT l Z a0 hw [] b1 T3.heap n0 Zs5 P3_2) (hw _ (List.mem_of_getElem? (i := 37) rfl)) (hw _ (List.mem_of_getElem? (i := 2) rfl)) F7 rfl (by rw [hml]; rfl) rfl (hb hby at_11) (lenOf pd___Z rfl) rfl (by decide) (fun T6 v6 Ll6 X6 hQ6 => ?_)
 obtain ⟨rfl, N6q, eh6⟩ := hQ6
 have N6 := Fr.app N3 N6q
 refine own_go (b := (T6.setTop (mkF m 22 #[.val (.int p0), .val (.int p1), .val (.int p2), .val (.int p3), .val (.int p4), .val (.ref b1), .unset, .unset, .unset, .unset] [(.int (p0 &&& (3 : Int32)))]))) (fun _ k => XS.ifYes X6.here hx rfl (pc0 := 14) (pc' := 19) rfl (hb hby at_14) rfl ((if0 _ _).trans (feq (by decide : ¬ ((1 : Int32) = (0 : Int32)))).2) (by decide) (by decide) (XS.iloadN X6.here hx rfl (hb hby at_19) rfl (XS.iconst X6.here hx rfl (hb hby at_20) (XS.iand X6.here hx rfl (hb hby at_21) rfl k)))) ?_
 rcases own_and3 p0 with hk | hk | hk | hk
 · rw [hk]
   refine own_go (b := (T6.setTop (mkF m 45 #[.val (.int p0), .val (.int p1), .val (.int p2), .val (.int p3), .val (.int p4), .val (.ref b1), .val (.int (0 : Int32)), .val (.int (own_m p1)), .val (.int (((own_m p1) + (1 : Int32)) + (own_m p2))), .unset] [(.int ((((own_m p1) + (1 : Int32)) + (own_m p2)) + (1 : Int32)))]))) (fun _ k => XS.istore X6.here hx rfl (hb hby at_22) rfl (l' := #[.val (.int p0), .val (.int p1), .val (.int p2), .val (.int p3), .val (.int p4), .val (.ref b1), .val (.int (0 : Int32)), .unset, .unset, .unset]) rfl (XS.iloadN X6.here hx rfl (hb hby at_24) rfl (X6.ldcInt hx hown (mvT hZ (hw _ (List.mem_of_getElem? (i := 40) rfl))) (g := (mkF m 25 #[.val (.int p0), .val (.int p1), .val (.int p2), .val (.int p3), .val (.int p4), .val (.ref b1), .val (.int (0 : Int32)), .unset, .unset, .unset] [(.int p1)])) rfl (hb hby at_25) _ (XS.iand X6.here hx rfl (hb hby at_27) rfl (XS.istore X6.here hx rfl (hb hby at_28) rfl (l' := #[.val (.int p0), .val (.int p1), .val (.int p2), .val (.int p3), .val (.int p4), .val (.ref b1), .val (.int (0 : Int32)), .val (.int (own_m p1)), .unset, .unset]) rfl (XS.iload X6.here hx rfl (hb hby at_30) rfl (XS.iconst X6.here hx rfl (hb hby at_32) (XS.iadd X6.here hx rfl (hb hby at_33) rfl (XS.iloadN X6.here hx rfl (hb hby at_34) rfl (X6.ldcInt hx hown (mvT hZ (hw _ (List.mem_of_getElem? (i := 40) rfl))) (g := (mkF m 35 #[.val (.int p0), .val (.int p1), .val (.int p2), .val (.int p3), .val (.int p4), .val (.ref b1), .val (.int (0 : Int32)), .val (.int (own_m p1)), .unset, .unset] [(.int p2), (.int ((own_m p1) + (1 : Int32)))])) rfl (hb hby at_35) _ (XS.iand X6.here hx rfl (hb hby at_37) rfl (XS.iadd X6.here hx rfl (hb hby at_38) rfl (XS.istore X6.here hx rfl (hb hby at_39) rfl (l' := #[.val (.int p0), .val (.int p1), .val (.int p2), .val (.int p3), .val (.int p4), .val (.ref b1), .val (.int (0 : Int32)), .val (.int (own_m p1)), .val (.int (((own_m p1) + (1 : Int32)) + (own_m p2))), .unset]) rfl (XS.iload X6.here hx rfl (hb hby at_41) rfl (XS.iconst X6.here hx rfl (hb hby at_43) (XS.iadd X6.here hx rfl (hb hby at_44) rfl k)))))))))))))))) ?_
   refine own_go (b := (T6.setTop (mkF m 93 #[.val (.int p0), .val (.int p1), .val (.int p2), .val (.int p3), .val (.int p4), .val (.ref b1), .val (.int (0 : Int32)), .val (.int (own_m p1)), .val (.int (((own_m p1) + (1 : Int32)) + (own_m p2))), .val (.int (((((own_m p1) + (1 : Int32)) + (own_m p2)) + (1 : Int32)) + (own_m p3)))] [(.ref b1)]))) (fun _ k => XS.iloadN X6.here hx rfl (hb hby at_45) rfl (X6.ldcInt hx hown (mvT hZ (hw _ (List.mem_of_getElem? (i := 40) rfl))) (g := (mkF m 46 #[.val (.int p0), .val (.int p1), .val (.int p2), .val (.int p3), .val (.int p4), .val (.ref b1), .val (.int (0 : Int32)), .val (.int (own_m p1)), .val (.int (((own_m p1) + (1 : Int32)) + (own_m p2))), .unset] [(.int p3), (.int ((((own_m p1) + (1 : Int32)) + (own_m p2)) + (1 : Int32)))])) rfl (hb hby at_46) _ (XS.iand X6.here hx rfl (hb hby at_48) rfl (XS.iadd X6.here hx rfl (hb hby at_49) rfl (XS.istore X6.here hx rfl (hb hby at_50) rfl (l' := #[.val (.int p0), .val (.int p1), .val (.int p2), .val (.int p3), .val (.int p4), .val (.ref b1), .val (.int (0 : Int32)), .val (.int (own_m p1)), .val (.int (((own_m p1) + (1 : Int32)) + (own_m p2))), .val (.int (((((own_m p1) + (1 : Int32)) + (own_m p2)) + (1 : Int32)) + (own_m p3)))]) rfl (XS.iload X6.here hx rfl (hb hby at_52) rfl (XS.iconst X6.here hx rfl (hb hby at_54) (XS.icmpYes X6.here hx rfl (pc0 := 55) (pc' := 65) rfl (hb hby at_55) rfl (tlt (by decide : (0 : Int32) < (1 : Int32))).1 (by decide) (by decide) (XS.iload X6.here hx rfl (hb hby at_65) rfl (XS.iconst X6.here hx rfl (hb hby at_67) (XS.icmpYes X6.here hx rfl (pc0 := 68) (pc' := 78) rfl (hb hby at_68) rfl (tlt (by decide : (0 : Int32) < (2 : Int32))).1 (by decide) (by decide) (XS.iload X6.here hx rfl (hb hby at_78) rfl (XS.iconst X6.here hx rfl (hb hby at_80) (XS.icmpYes X6.here hx rfl (pc0 := 81) (pc' := 91) rfl (hb hby at_81) rfl (tlt (by decide : (0 : Int32) < (3 : Int32))).1 (by decide) (by decide) (XS.aload X6.here hx rfl (hb hby at_91) rfl rfl k))))))))))))))) ?_
   refine own_virt (W := 0) X6 hx hZ hown eh6 (hw _ (List.mem_of_getElem? (i := 33) rfl)) (hw _ (List.mem_of_getElem? (i := 34) rfl)) (hw _ (List.mem_of_getElem? (i := 36) rfl)) (hw _ (List.mem_of_getElem? (i := 35) rfl)) (rmT l Z a0 hw [] b1 T3.heap n0 Zs5 P3_2) (hw _ (List.mem_of_getElem? (i := 37) rfl)) (hw _ (List.mem_of_getElem? (i := 2) rfl)) F7 rfl (by rw [hml]; rfl) rfl (hb hby at_93) (lenOf pd___Z rfl) rfl (by decide) (fun T8 v8 Ll8 X8 hQ8 => ?_)
   obtain ⟨rfl, N8q, eh8⟩ := hQ8
   have N8 := Fr.app N6 N8q
   refine own_go (b := (T8.setTop (mkF m 114 #[.val (.int p0), .val (.int p1), .val (.int p2), .val (.int p3), .val (.int p4), .val (.ref b1), .val (.int (0 : Int32)), .val (.int (own_m p1)), .val (.int (((own_m p1) + (1 : Int32)) + (own_m p2))), .val (.int (((((own_m p1) + (1 : Int32)) + (own_m p2)) + (1 : Int32)) + (own_m p3)))] [(.int (p0 &&& (4 : Int32)))]))) (fun _ k => XS.iload X8.here hx rfl (hb hby at_96) rfl (XS.ifNo X8.here hx rfl (hb hby at_98) rfl ((if0 _ _).trans (teq (rfl : (0 : Int32) = (0 : Int32))).2) (XS.iconst X8.here hx rfl (hb hby at_101) (XS.goto X8.here hx rfl (pc0 := 102) (pc' := 106) rfl (hb hby at_102) (by decide) (by decide) (XS.icmpYes X8.here hx rfl (pc0 := 106) (pc' := 111) rfl (hb hby at_106) rfl (teq (rfl : (1 : Int32) = (1 : Int32))).1 (by decide) (by decide) (XS.iloadN X8.here hx rfl (hb hby at_111) rfl (XS.iconst X8.here hx rfl (hb hby at_112) (XS.iand X8.here hx rfl (hb hby at_113) rfl k)))))))) ?_
   by_cases hc114_9 : (p0 &&& (4 : Int32)) = (0 : Int32)
   · skip
     refine own_go (b := (T8.setTop (mkF m 160 #[.val (.int p0), .val (.int p1), .val (.int p2), .val (.int p3), .val (.int p4), .val (.ref b1), .val (.int (0 : Int32)), .val (.int (own_m p1)), .val (.int (((own_m p1) + (1 : Int32)) + (own_m p2))), .val (.int (((((own_m p1) + (1 : Int32)) + (own_m p2)) + (1 : Int32)) + (own_m p3)))] [(.int (1 : Int32))]))) (fun _ k => XS.ifYes X8.here hx rfl (pc0 := 114) (pc' := 159) rfl (hb hby at_114) rfl ((if0 _ _).trans (teq hc114_9).1) (by decide) (by decide) (XS.iconst X8.here hx rfl (hb hby at_159) k)) ?_
     obtain ⟨fs, hr, hrun, hended, hW, hsame⟩ := X8.leave (v := some (.int (1 : Int32))) (fun h => by rw [Bd.returns] at h; cases h)
     exact ⟨_, _, retN X8 hx (t := .boolean) Bd.returns (by simp) (hb hby at_160) hr, hrun, hended, _, _, rfl, (show Qrm0 Z p0 p1 p2 p3 p4 h0 n0 _ T8.heap _ from (by rw [eh8]; exact ⟨rfl, N8⟩)), ⟨_, rfl⟩, hW, hsame.mono (by decide) (by decide)⟩
   · skip
     refine own_go (b := (T8.setTop (mkF m 119 #[.val (.int p0), .val (.int p1), .val (.int p2), .val (.int p3), .val (.int p4), .val (.ref b1), .val (.int (0 : Int32)), .val (.int (own_m p1)), .val (.int (((own_m p1) + (1 : Int32)) + (own_m p2))), .val (.int (((((own_m p1) + (1 : Int32)) + (own_m p2)) + (1 : Int32)) + (own_m p3)))] [(.ref b1)]))) (fun _ k => XS.ifNo X8.here hx rfl (hb hby at_114) rfl ((if0 _ _).trans (feq hc114_9).1) (XS.aload X8.here hx rfl (hb hby at_117) rfl rfl k)) ?_
     have gx11 : n0 ≤ g_3 := Nat.le_trans Zs2 P3_3
     have gx12 : n0 ≤ bf_3 := Nat.le_trans Zs2 P3_4
     refine own_virt (W := 0) X8 hx hZ hown eh8 (hw _ (List.mem_of_getElem? (i := 64) rfl)) (hw _ (List.mem_of_getElem? (i := 65) rfl)) (hw _ (List.mem_of_getElem? (i := 67) rfl)) (hw _ (List.mem_of_getElem? (i := 66) rfl)) (rmcl l Z a0 hw [] b1 (-1 : Int32) (0 : Int32) g_3 bf_3 kf_3 vs_3 (0 : Int32) T3.heap n0 Zs5 F7 P3_0 P3_1 P3_2 P3_5 P3_6 P3_7 P3_8 P3_9 P3_10 gx4 gx11 gx12) (hw _ (List.mem_of_getElem? (i := 68) rfl)) (hw _ (List.mem_of_getElem? (i := 2) rfl)) F7 rfl (by rw [hml]; rfl) rfl (hb hby at_119) (lenOf pd___V rfl) rfl (by decide) (fun T10 v10 Ll10 X10 hQ10 => ?_)
     obtain ⟨rfl, N10q, K10, P10_0, P10_1, P10_2, P10_3, P10_4, P10_5⟩ := hQ10
     have N10 := Fr.app N8 N10q
     have Zs13 : n0 ≤ T10.heap.size := Nat.le_trans Zs5 K10.1
     refine own_go (b := (T10.setTop (mkF m 124 #[.val (.int p0), .val (.int p1), .val (.int p2), .val (.int p3), .val (.int p4), .val (.ref b1), .val (.int (0 : Int32)), .val (.int (own_m p1)), .val (.int (((own_m p1) + (1 : Int32)) + (own_m p2))), .val (.int (((((own_m p1) + (1 : Int32)) + (own_m p2)) + (1 : Int32)) + (own_m p3)))] [(.ref b1)]))) (fun _ k => XS.aload X10.here hx rfl (hb hby at_122) rfl rfl k) ?_
     have F15 := F7.keep K10
     refine own_virt (W := 0) X10 hx hZ hown rfl (hw _ (List.mem_of_getElem? (i := 33) rfl)) (hw _ (List.mem_of_getElem? (i := 34) rfl)) (hw _ (List.mem_of_getElem? (i := 36) rfl)) (hw _ (List.mem_of_getElem? (i := 35) rfl)) (rmT l Z a0 hw [] b1 T10.heap n0 Zs13 P10_2) (hw _ (List.mem_of_getElem? (i := 37) rfl)) (hw _ (List.mem_of_getElem? (i := 2) rfl)) F15 rfl (by rw [hml]; rfl) rfl (hb hby at_124) (lenOf pd___Z rfl) rfl (by decide) (fun T14 v14 Ll14 X14 hQ14 => ?_)
     obtain ⟨rfl, N14q, eh14⟩ := hQ14
     have N14 := Fr.app N10 N14q
     refine own_go (b := (T14.setTop (mkF m 136 #[.val (.int p0), .val (.int p1), .val (.int p2), .val (.int p3), .val (.int p4), .val (.ref b1), .val (.int (0 : Int32)), .val (.int (own_m p1)), .val (.int (((own_m p1) + (1 : Int32)) + (own_m p2))), .val (.int (((((own_m p1) + (1 : Int32)) + (own_m p2)) + (1 : Int32)) + (own_m p3)))] [(.int (p0 &&& (8 : Int32)))]))) (fun _ k => XS.ifYes X14.here hx rfl (pc0 := 127) (pc' := 132) rfl (hb hby at_127) rfl ((if0 _ _).trans (feq (by decide : ¬ ((1 : Int32) = (0 : Int32)))).2) (by decide) (by decide) (XS.iloadN X14.here hx rfl (hb hby at_132) rfl (XS.bipush X14.here hx rfl (hb hby at_133) (XS.iand X14.here hx rfl (hb hby at_135) rfl k)))) ?_
     by_cases hc136_16 : (p0 &&& (8 : Int32)) = (0 : Int32)
     · skip
       refine own_go (b := (T14.setTop (mkF m 160 #[.val (.int p0), .val (.int p1), .val (.int p2), .val (.int p3), .val (.int p4), .val (.ref b1), .val (.int (0 : Int32)), .val (.int (own_m p1)), .val (.int (((own_m p1) + (1 : Int32)) + (own_m p2))), .val (.int (((((own_m p1) + (1 : Int32)) + (own_m p2)) + (1 : Int32)) + (own_m p3)))] [(.int (1 : Int32))]))) (fun _ k => XS.ifYes X14.here hx rfl (pc0 := 136) (pc' := 159) rfl (hb hby at_136) rfl ((if0 _ _).trans (teq hc136_16).1) (by decide) (by decide) (XS.iconst X14.here hx rfl (hb hby at_159) k)) ?_
       obtain ⟨fs, hr, hrun, hended, hW, hsame⟩ := X14.leave (v := some (.int (1 : Int32))) (fun h => by rw [Bd.returns] at h; cases h)
       exact ⟨_, _, retN X14 hx (t := .boolean) Bd.returns (by simp) (hb hby at_160) hr, hrun, hended, _, _, rfl, (show Qrm0 Z p0 p1 p2 p3 p4 h0 n0 _ T14.heap _ from (by rw [eh14]; exact ⟨rfl, N14⟩)), ⟨_, rfl⟩, hW, hsame.mono (by decide) (by decide)⟩
     · skip
       refine own_go (b := (T14.setTop (mkF m 146 #[.val (.int p0), .val (.int p1), .val (.int p2), .val (.int p3), .val (.int p4), .val (.ref b1), .val (.int (0 : Int32)), .val (.int (own_m p1)), .val (.int (((own_m p1) + (1 : Int32)) + (own_m p2))), .val (.int (((((own_m p1) + (1 : Int32)) + (own_m p2)) + (1 : Int32)) + (own_m p3)))] [(.int (own_n p4)), (.ref b1)]))) (fun _ k => XS.ifNo X14.here hx rfl (hb hby at_136) rfl ((if0 _ _).trans (feq hc136_16).1) (XS.aload X14.here hx rfl (hb hby at_139) rfl rfl (XS.iload X14.here hx rfl (hb hby at_141) rfl (X14.ldcInt hx hown (mvT hZ (hw _ (List.mem_of_getElem? (i := 74) rfl))) (g := (mkF m 143 #[.val (.int p0), .val (.int p1), .val (.int p2), .val (.int p3), .val (.int p4), .val (.ref b1), .val (.int (0 : Int32)), .val (.int (own_m p1)), .val (.int (((own_m p1) + (1 : Int32)) + (own_m p2))), .val (.int (((((own_m p1) + (1 : Int32)) + (own_m p2)) + (1 : Int32)) + (own_m p3)))] [(.int p4), (.ref b1)])) rfl (hb hby at_143) _ (XS.iand X14.here hx rfl (hb hby at_145) rfl k))))) ?_
       have F18 := P3_5.keep K10
       obtain ⟨cn19, An19, -⟩ := id P3_8
       have nx20 : bf_3 ≠ g_3 := (Ne.symm (ne_arr P3_5 (hw _ (List.mem_of_getElem? (i := 10) rfl)) An19))
       have nx21 : bf_3 ≠ b1 := (Ne.symm (own_ne A1.lt (Nat.le_refl _) P3_4))
       have F22 := P3_8.keep K10 (ninS nx21 (ninS nx20 nin0))
       refine own_virt (W := 0) X14 hx hZ hown eh14 (hw _ (List.mem_of_getElem? (i := 41) rfl)) (hw _ (List.mem_of_getElem? (i := 42) rfl)) (hw _ (List.mem_of_getElem? (i := 44) rfl)) (hw _ (List.mem_of_getElem? (i := 43) rfl)) (rmadd l Z a0 hw [] b1 (own_n p4) (-1 : Int32) (0 : Int32) g_3 bf_3 kf_3 vs_3 (0 : Int32) T10.heap n0 Zs13 F15 P10_0 P10_1 P10_2 F18 P10_3 P10_4 F22 P3_9 P10_5 gx4 gx11 gx12 (own_g1 _ (own_nb p4)) (by omega)) (hw _ (List.mem_of_getElem? (i := 45) rfl)) (hw _ (List.mem_of_getElem? (i := 2) rfl)) F15 rfl (by rw [hml]; rfl) rfl (hb hby at_146) (lenOf pd__I_V rfl) rfl (by decide) (fun T17 v17 Ll17 X17 hQ17 => ?_)
       obtain ⟨us_17, dn_17, rfl, N17q, K17, P17_0, P17_1, P17_2, P17_3, P17_4, P17_5, P17_6, P17_7, P17_8⟩ := hQ17
       have N17 := Fr.app N14 N17q
       have Zs23 : n0 ≤ T17.heap.size := Nat.le_trans Zs13 K17.1
       refine own_go (b := (T17.setTop (mkF m 151 #[.val (.int p0), .val (.int p1), .val (.int p2), .val (.int p3), .val (.int p4), .val (.ref b1), .val (.int (0 : Int32)), .val (.int (own_m p1)), .val (.int (((own_m p1) + (1 : Int32)) + (own_m p2))), .val (.int (((((own_m p1) + (1 : Int32)) + (own_m p2)) + (1 : Int32)) + (own_m p3)))] [(.ref b1)]))) (fun _ k => XS.aload X17.here hx rfl (hb hby at_149) rfl rfl k) ?_
       have F25 := F15.keep K17
       refine own_virt (W := 0) X17 hx hZ hown rfl (hw _ (List.mem_of_getElem? (i := 33) rfl)) (hw _ (List.mem_of_getElem? (i := 34) rfl)) (hw _ (List.mem_of_getElem? (i := 36) rfl)) (hw _ (List.mem_of_getElem? (i := 35) rfl)) (rmF l Z a0 hw [] b1 ((0 : Int32) + (1 : Int32)) T17.heap n0 Zs23 P17_2 (by decide)) (hw _ (List.mem_of_getElem? (i := 37) rfl)) (hw _ (List.mem_of_getElem? (i := 2) rfl)) F25 rfl (by rw [hml]; rfl) rfl (hb hby at_151) (lenOf pd___Z rfl) rfl (by decide) (fun T24 v24 Ll24 X24 hQ24 => ?_)
       obtain ⟨rfl, N24q, eh24⟩ := hQ24
       have N24 := Fr.app N17 N24q
       refine own_go (b := (T24.setTop (mkF m 160 #[.val (.int p0), .val (.int p1), .val (.int p2), .val (.int p3), .val (.int p4), .val (.ref b1), .val (.int (0 : Int32)), .val (.int (own_m p1)), .val (.int (((own_m p1) + (1 : Int32)) + (own_m p2))), .val (.int (((((own_m p1) + (1 : Int32)) + (own_m p2)) + (1 : Int32)) + (own_m p3)))] [(.int (1 : Int32))]))) (fun _ k => XS.ifYes X24.here hx rfl (pc0 := 154) (pc' := 159) rfl (hb hby at_154) rfl ((if0 _ _).trans (teq (rfl : (0 : Int32) = (0 : Int32))).1) (by decide) (by decide) (XS.iconst X24.here hx rfl (hb hby at_159) k)) ?_
       obtain ⟨fs, hr, hrun, hended, hW, hsame⟩ := X24.leave (v := some (.int (1 : Int32))) (fun h => by rw [Bd.returns] at h; cases h)
       exact ⟨_, _, retN X24 hx (t := .boolean) Bd.returns (by simp) (hb hby at_160) hr, hrun, hended, _, _, rfl, (show Qrm0 Z p0 p1 p2 p3 p4 h0 n0 _ T24.heap _ from (by rw [eh24]; exact ⟨rfl, N24⟩)), ⟨_, rfl⟩, hW, hsame.mono (by decide) (by decide)⟩
 · rw [hk]
   refine own_go (b := (T6.setTop (mkF m 45 #[.val (.int p0), .val (.int p1), .val (.int p2), .val (.int p3), .val (.int p4), .val (.ref b1), .val (.int (1 : Int32)), .val (.int (own_m p1)), .val (.int (((own_m p1) + (1 : Int32)) + (own_m p2))), .unset] [(.int ((((own_m p1) + (1 : Int32)) + (own_m p2)) + (1 : Int32)))]))) (fun _ k => XS.istore X6.here hx rfl (hb hby at_22) rfl (l' := #[.val (.int p0), .val (.int p1), .val (.int p2), .val (.int p3), .val (.int p4), .val (.ref b1), .val (.int (1 : Int32)), .unset, .unset, .unset]) rfl (XS.iloadN X6.here hx rfl (hb hby at_24) rfl (X6.ldcInt hx hown (mvT hZ (hw _ (List.mem_of_getElem? (i := 40) rfl))) (g := (mkF m 25 #[.val (.int p0), .val (.int p1), .val (.int p2), .val (.int p3), .val (.int p4), .val (.ref b1), .val (.int (1 : Int32)), .unset, .unset, .unset] [(.int p1)])) rfl (hb hby at_25) _ (XS.iand X6.here hx rfl (hb hby at_27) rfl (XS.istore X6.here hx rfl (hb hby at_28) rfl (l' := #[.val (.int p0), .val (.int p1), .val (.int p2), .val (.int p3), .val (.int p4), .val (.ref b1), .val (.int (1 : Int32)), .val (.int (own_m p1)), .unset, .unset]) rfl (XS.iload X6.here hx rfl (hb hby at_30) rfl (XS.iconst X6.here hx rfl (hb hby at_32) (XS.iadd X6.here hx rfl (hb hby at_33) rfl (XS.iloadN X6.here hx rfl (hb hby at_34) rfl (X6.ldcInt hx hown (mvT hZ (hw _ (List.mem_of_getElem? (i := 40) rfl))) (g := (mkF m 35 #[.val (.int p0), .val (.int p1), .val (.int p2), .val (.int p3), .val (.int p4), .val (.ref b1), .val (.int (1 : Int32)), .val (.int (own_m p1)), .unset, .unset] [(.int p2), (.int ((own_m p1) + (1 : Int32)))])) rfl (hb hby at_35) _ (XS.iand X6.here hx rfl (hb hby at_37) rfl (XS.iadd X6.here hx rfl (hb hby at_38) rfl (XS.istore X6.here hx rfl (hb hby at_39) rfl (l' := #[.val (.int p0), .val (.int p1), .val (.int p2), .val (.int p3), .val (.int p4), .val (.ref b1), .val (.int (1 : Int32)), .val (.int (own_m p1)), .val (.int (((own_m p1) + (1 : Int32)) + (own_m p2))), .unset]) rfl (XS.iload X6.here hx rfl (hb hby at_41) rfl (XS.iconst X6.here hx rfl (hb hby at_43) (XS.iadd X6.here hx rfl (hb hby at_44) rfl k)))))))))))))))) ?_
   refine own_go (b := (T6.setTop (mkF m 62 #[.val (.int p0), .val (.int p1), .val (.int p2), .val (.int p3), .val (.int p4), .val (.ref b1), .val (.int (1 : Int32)), .val (.int (own_m p1)), .val (.int (((own_m p1) + (1 : Int32)) + (own_m p2))), .val (.int (((((own_m p1) + (1 : Int32)) + (own_m p2)) + (1 : Int32)) + (own_m p3)))] [(.int (own_m p1)), (.ref b1)]))) (fun _ k => XS.iloadN X6.here hx rfl (hb hby at_45) rfl (X6.ldcInt hx hown (mvT hZ (hw _ (List.mem_of_getElem? (i := 40) rfl))) (g := (mkF m 46 #[.val (.int p0), .val (.int p1), .val (.int p2), .val (.int p3), .val (.int p4), .val (.ref b1), .val (.int (1 : Int32)), .val (.int (own_m p1)), .val (.int (((own_m p1) + (1 : Int32)) + (own_m p2))), .unset] [(.int p3), (.int ((((own_m p1) + (1 : Int32)) + (own_m p2)) + (1 : Int32)))])) rfl (hb hby at_46) _ (XS.iand X6.here hx rfl (hb hby at_48) rfl (XS.iadd X6.here hx rfl (hb hby at_49) rfl (XS.istore X6.here hx rfl (hb hby at_50) rfl (l' := #[.val (.int p0), .val (.int p1), .val (.int p2), .val (.int p3), .val (.int p4), .val (.ref b1), .val (.int (1 : Int32)), .val (.int (own_m p1)), .val (.int (((own_m p1) + (1 : Int32)) + (own_m p2))), .val (.int (((((own_m p1) + (1 : Int32)) + (own_m p2)) + (1 : Int32)) + (own_m p3)))]) rfl (XS.iload X6.here hx rfl (hb hby at_52) rfl (XS.iconst X6.here hx rfl (hb hby at_54) (XS.icmpNo X6.here hx rfl (hb hby at_55) rfl (flt (by decide : ¬ ((1 : Int32) < (1 : Int32)))).1 (XS.aload X6.here hx rfl (hb hby at_58) rfl rfl (XS.iload X6.here hx rfl (hb hby at_60) rfl k)))))))))) ?_
   have gx27 : n0 ≤ g_3 := Nat.le_trans Zs2 P3_3
   have gx28 : n0 ≤ bf_3 := Nat.le_trans Zs2 P3_4
   refine own_virt (W := 0) X6 hx hZ hown eh6 (hw _ (List.mem_of_getElem? (i := 41) rfl)) (hw _ (List.mem_of_getElem? (i := 42) rfl)) (hw _ (List.mem_of_getElem? (i := 44) rfl)) (hw _ (List.mem_of_getElem? (i := 43) rfl)) (rmadd l Z a0 hw [] b1 (own_m p1) (-1 : Int32) (0 : Int32) g_3 bf_3 kf_3 vs_3 (0 : Int32) T3.heap n0 Zs5 F7 P3_0 P3_1 P3_2 P3_5 P3_6 P3_7 P3_8 P3_9 P3_10 gx4 gx27 gx28 (own_g1 _ (own_mb p1)) (by omega)) (hw _ (List.mem_of_getElem? (i := 45) rfl)) (hw _ (List.mem_of_getElem? (i := 2) rfl)) F7 rfl (by rw [hml]; rfl) rfl (hb hby at_62) (lenOf pd__I_V rfl) rfl (by decide) (fun T26 v26 Ll26 X26 hQ26 => ?_)
   obtain ⟨us_26, dn_26, rfl, N26q, K26, P26_0, P26_1, P26_2, P26_3, P26_4, P26_5, P26_6, P26_7, P26_8⟩ := hQ26
   have N26 := Fr.app N6 N26q
   have Zs29 : n0 ≤ T26.heap.size := Nat.le_trans Zs5 K26.1
   refine own_go (b := (T26.setTop (mkF m 93 #[.val (.int p0), .val (.int p1), .val (.int p2), .val (.int p3), .val (.int p4), .val (.ref b1), .val (.int (1 : Int32)), .val (.int (own_m p1)), .val (.int (((own_m p1) + (1 : Int32)) + (own_m p2))), .val (.int (((((own_m p1) + (1 : Int32)) + (own_m p2)) + (1 : Int32)) + (own_m p3)))] [(.ref b1)]))) (fun _ k => XS.iload X26.here hx rfl (hb hby at_65) rfl (XS.iconst X26.here hx rfl (hb hby at_67) (XS.icmpYes X26.here hx rfl (pc0 := 68) (pc' := 78) rfl (hb hby at_68) rfl (tlt (by decide : (1 : Int32) < (2 : Int32))).1 (by decide) (by decide) (XS.iload X26.here hx rfl (hb hby at_78) rfl (XS.iconst X26.here hx rfl (hb hby at_80) (XS.icmpYes X26.here hx rfl (pc0 := 81) (pc' := 91) rfl (hb hby at_81) rfl (tlt (by decide : (1 : Int32) < (3 : Int32))).1 (by decide) (by decide) (XS.aload X26.here hx rfl (hb hby at_91) rfl rfl k))))))) ?_
   have F31 := F7.keep K26
   refine own_virt (W := 0) X26 hx hZ hown rfl (hw _ (List.mem_of_getElem? (i := 33) rfl)) (hw _ (List.mem_of_getElem? (i := 34) rfl)) (hw _ (List.mem_of_getElem? (i := 36) rfl)) (hw _ (List.mem_of_getElem? (i := 35) rfl)) (rmF l Z a0 hw [] b1 ((0 : Int32) + (1 : Int32)) T26.heap n0 Zs29 P26_2 (by decide)) (hw _ (List.mem_of_getElem? (i := 37) rfl)) (hw _ (List.mem_of_getElem? (i := 2) rfl)) F31 rfl (by rw [hml]; rfl) rfl (hb hby at_93) (lenOf pd___Z rfl) rfl (by decide) (fun T30 v30 Ll30 X30 hQ30 => ?_)
   obtain ⟨rfl, N30q, eh30⟩ := hQ30
   have N30 := Fr.app N26 N30q
   refine own_go (b := (T30.setTop (mkF m 114 #[.val (.int p0), .val (.int p1), .val (.int p2), .val (.int p3), .val (.int p4), .val (.ref b1), .val (.int (1 : Int32)), .val (.int (own_m p1)), .val (.int (((own_m p1) + (1 : Int32)) + (own_m p2))), .val (.int (((((own_m p1) + (1 : Int32)) + (own_m p2)) + (1 : Int32)) + (own_m p3)))] [(.int (p0 &&& (4 : Int32)))]))) (fun _ k => XS.iload X30.here hx rfl (hb hby at_96) rfl (XS.ifYes X30.here hx rfl (pc0 := 98) (pc' := 105) rfl (hb hby at_98) rfl ((if0 _ _).trans (feq (by decide : ¬ ((1 : Int32) = (0 : Int32)))).2) (by decide) (by decide) (XS.iconst X30.here hx rfl (hb hby at_105) (XS.icmpYes X30.here hx rfl (pc0 := 106) (pc' := 111) rfl (hb hby at_106) rfl (teq (rfl : (0 : Int32) = (0 : Int32))).1 (by decide) (by decide) (XS.iloadN X30.here hx rfl (hb hby at_111) rfl (XS.iconst X30.here hx rfl (hb hby at_112) (XS.iand X30.here hx rfl (hb hby at_113) rfl k))))))) ?_
   by_cases hc114_32 : (p0 &&& (4 : Int32)) = (0 : Int32)
   · skip
     refine own_go (b := (T30.setTop (mkF m 160 #[.val (.int p0), .val (.int p1), .val (.int p2), .val (.int p3), .val (.int p4), .val (.ref b1), .val (.int (1 : Int32)), .val (.int (own_m p1)), .val (.int (((own_m p1) + (1 : Int32)) + (own_m p2))), .val (.int (((((own_m p1) + (1 : Int32)) + (own_m p2)) + (1 : Int32)) + (own_m p3)))] [(.int (1 : Int32))]))) (fun _ k => XS.ifYes X30.here hx rfl (pc0 := 114) (pc' := 159) rfl (hb hby at_114) rfl ((if0 _ _).trans (teq hc114_32).1) (by decide) (by decide) (XS.iconst X30.here hx rfl (hb hby at_159) k)) ?_
     obtain ⟨fs, hr, hrun, hended, hW, hsame⟩ := X30.leave (v := some (.int (1 : Int32))) (fun h => by rw [Bd.returns] at h; cases h)
     exact ⟨_, _, retN X30 hx (t := .boolean) Bd.returns (by simp) (hb hby at_160) hr, hrun, hended, _, _, rfl, (show Qrm0 Z p0 p1 p2 p3 p4 h0 n0 _ T30.heap _ from (by rw [eh30]; exact ⟨rfl, N30⟩)), ⟨_, rfl⟩, hW, hsame.mono (by decide) (by decide)⟩
   · skip
     refine own_go (b := (T30.setTop (mkF m 119 #[.val (.int p0), .val (.int p1), .val (.int p2), .val (.int p3), .val (.int p4), .val (.ref b1), .val (.int (1 : Int32)), .val (.int (own_m p1)), .val (.int (((own_m p1) + (1 : Int32)) + (own_m p2))), .val (.int (((((own_m p1) + (1 : Int32)) + (own_m p2)) + (1 : Int32)) + (own_m p3)))] [(.ref b1)]))) (fun _ k => XS.ifNo X30.here hx rfl (hb hby at_114) rfl ((if0 _ _).trans (feq hc114_32).1) (XS.aload X30.here hx rfl (hb hby at_117) rfl rfl k)) ?_
     have F34 := P3_5.keep K26
     refine own_virt (W := 0) X30 hx hZ hown eh30 (hw _ (List.mem_of_getElem? (i := 64) rfl)) (hw _ (List.mem_of_getElem? (i := 65) rfl)) (hw _ (List.mem_of_getElem? (i := 67) rfl)) (hw _ (List.mem_of_getElem? (i := 66) rfl)) (rmcl l Z a0 hw [] b1 (own_m p1) ((0 : Int32) + (1 : Int32)) g_3 bf_3 kf_3 us_26 dn_26 T26.heap n0 Zs29 F31 P26_0 P26_1 P26_2 F34 P26_3 P26_4 P26_5 P26_6 P26_7 gx4 gx27 gx28) (hw _ (List.mem_of_getElem? (i := 68) rfl)) (hw _ (List.mem_of_getElem? (i := 2) rfl)) F31 rfl (by rw [hml]; rfl) rfl (hb hby at_119) (lenOf pd___V rfl) rfl (by decide) (fun T33 v33 Ll33 X33 hQ33 => ?_)
     obtain ⟨rfl, N33q, K33, P33_0, P33_1, P33_2, P33_3, P33_4, P33_5⟩ := hQ33
     have N33 := Fr.app N30 N33q
     have Zs35 : n0 ≤ T33.heap.size := Nat.le_trans Zs29 K33.1
     refine own_go (b := (T33.setTop (mkF m 124 #[.val (.int p0), .val (.int p1), .val (.int p2), .val (.int p3), .val (.int p4), .val (.ref b1), .val (.int (1 : Int32)), .val (.int (own_m p1)), .val (.int (((own_m p1) + (1 : Int32)) + (own_m p2))), .val (.int (((((own_m p1) + (1 : Int32)) + (own_m p2)) + (1 : Int32)) + (own_m p3)))] [(.ref b1)]))) (fun _ k => XS.aload X33.here hx rfl (hb hby at_122) rfl rfl k) ?_
     have F37 := F31.keep K33
     refine own_virt (W := 0) X33 hx hZ hown rfl (hw _ (List.mem_of_getElem? (i := 33) rfl)) (hw _ (List.mem_of_getElem? (i := 34) rfl)) (hw _ (List.mem_of_getElem? (i := 36) rfl)) (hw _ (List.mem_of_getElem? (i := 35) rfl)) (rmT l Z a0 hw [] b1 T33.heap n0 Zs35 P33_2) (hw _ (List.mem_of_getElem? (i := 37) rfl)) (hw _ (List.mem_of_getElem? (i := 2) rfl)) F37 rfl (by rw [hml]; rfl) rfl (hb hby at_124) (lenOf pd___Z rfl) rfl (by decide) (fun T36 v36 Ll36 X36 hQ36 => ?_)
     obtain ⟨rfl, N36q, eh36⟩ := hQ36
     have N36 := Fr.app N33 N36q
     refine own_go (b := (T36.setTop (mkF m 136 #[.val (.int p0), .val (.int p1), .val (.int p2), .val (.int p3), .val (.int p4), .val (.ref b1), .val (.int (1 : Int32)), .val (.int (own_m p1)), .val (.int (((own_m p1) + (1 : Int32)) + (own_m p2))), .val (.int (((((own_m p1) + (1 : Int32)) + (own_m p2)) + (1 : Int32)) + (own_m p3)))] [(.int (p0 &&& (8 : Int32)))]))) (fun _ k => XS.ifYes X36.here hx rfl (pc0 := 127) (pc' := 132) rfl (hb hby at_127) rfl ((if0 _ _).trans (feq (by decide : ¬ ((1 : Int32) = (0 : Int32)))).2) (by decide) (by decide) (XS.iloadN X36.here hx rfl (hb hby at_132) rfl (XS.bipush X36.here hx rfl (hb hby at_133) (XS.iand X36.here hx rfl (hb hby at_135) rfl k)))) ?_
     by_cases hc136_38 : (p0 &&& (8 : Int32)) = (0 : Int32)
     · skip
       refine own_go (b := (T36.setTop (mkF m 160 #[.val (.int p0), .val (.int p1), .val (.int p2), .val (.int p3), .val (.int p4), .val (.ref b1), .val (.int (1 : Int32)), .val (.int (own_m p1)), .val (.int (((own_m p1) + (1 : Int32)) + (own_m p2))), .val (.int (((((own_m p1) + (1 : Int32)) + (own_m p2)) + (1 : Int32)) + (own_m p3)))] [(.int (1 : Int32))]))) (fun _ k => XS.ifYes X36.here hx rfl (pc0 := 136) (pc' := 159) rfl (hb hby at_136) rfl ((if0 _ _).trans (teq hc136_38).1) (by decide) (by decide) (XS.iconst X36.here hx rfl (hb hby at_159) k)) ?_
       obtain ⟨fs, hr, hrun, hended, hW, hsame⟩ := X36.leave (v := some (.int (1 : Int32))) (fun h => by rw [Bd.returns] at h; cases h)
       exact ⟨_, _, retN X36 hx (t := .boolean) Bd.returns (by simp) (hb hby at_160) hr, hrun, hended, _, _, rfl, (show Qrm0 Z p0 p1 p2 p3 p4 h0 n0 _ T36.heap _ from (by rw [eh36]; exact ⟨rfl, N36⟩)), ⟨_, rfl⟩, hW, hsame.mono (by decide) (by decide)⟩
     · skip
       refine own_go (b := (T36.setTop (mkF m 146 #[.val (.int p0), .val (.int p1), .val (.int p2), .val (.int p3), .val (.int p4), .val (.ref b1), .val (.int (1 : Int32)), .val (.int (own_m p1)), .val (.int (((own_m p1) + (1 : Int32)) + (own_m p2))), .val (.int (((((own_m p1) + (1 : Int32)) + (own_m p2)) + (1 : Int32)) + (own_m p3)))] [(.int (own_n p4)), (.ref b1)]))) (fun _ k => XS.ifNo X36.here hx rfl (hb hby at_136) rfl ((if0 _ _).trans (feq hc136_38).1) (XS.aload X36.here hx rfl (hb hby at_139) rfl rfl (XS.iload X36.here hx rfl (hb hby at_141) rfl (X36.ldcInt hx hown (mvT hZ (hw _ (List.mem_of_getElem? (i := 74) rfl))) (g := (mkF m 143 #[.val (.int p0), .val (.int p1), .val (.int p2), .val (.int p3), .val (.int p4), .val (.ref b1), .val (.int (1 : Int32)), .val (.int (own_m p1)), .val (.int (((own_m p1) + (1 : Int32)) + (own_m p2))), .val (.int (((((own_m p1) + (1 : Int32)) + (own_m p2)) + (1 : Int32)) + (own_m p3)))] [(.int p4), (.ref b1)])) rfl (hb hby at_143) _ (XS.iand X36.here hx rfl (hb hby at_145) rfl k))))) ?_
       have F40 := F34.keep K33
       obtain ⟨cn41, An41, -⟩ := id P3_8
       have nx42 : bf_3 ≠ g_3 := (Ne.symm (ne_arr P3_5 (hw _ (List.mem_of_getElem? (i := 10) rfl)) An41))
       have nx43 : bf_3 ≠ b1 := (Ne.symm (own_ne A1.lt (Nat.le_refl _) P3_4))
       have F44 := P26_5.keep K33 (ninS nx43 (ninS nx42 nin0))
       refine own_virt (W := 0) X36 hx hZ hown eh36 (hw _ (List.mem_of_getElem? (i := 41) rfl)) (hw _ (List.mem_of_getElem? (i := 42) rfl)) (hw _ (List.mem_of_getElem? (i := 44) rfl)) (hw _ (List.mem_of_getElem? (i := 43) rfl)) (rmadd l Z a0 hw [] b1 (own_n p4) (-1 : Int32) (0 : Int32) g_3 bf_3 kf_3 us_26 (0 : Int32) T33.heap n0 Zs35 F37 P33_0 P33_1 P33_2 F40 P33_3 P33_4 F44 P26_6 P33_5 gx4 gx27 gx28 (own_g1 _ (own_nb p4)) (by omega)) (hw _ (List.mem_of_getElem? (i := 45) rfl)) (hw _ (List.mem_of_getElem? (i := 2) rfl)) F37 rfl (by rw [hml]; rfl) rfl (hb hby at_146) (lenOf pd__I_V rfl) rfl (by decide) (fun T39 v39 Ll39 X39 hQ39 => ?_)
       obtain ⟨us_39, dn_39, rfl, N39q, K39, P39_0, P39_1, P39_2, P39_3, P39_4, P39_5, P39_6, P39_7, P39_8⟩ := hQ39
       have N39 := Fr.app N36 N39q
       have Zs45 : n0 ≤ T39.heap.size := Nat.le_trans Zs35 K39.1
       refine own_go (b := (T39.setTop (mkF m 151 #[.val (.int p0), .val (.int p1), .val (.int p2), .val (.int p3), .val (.int p4), .val (.ref b1), .val (.int (1 : Int32)), .val (.int (own_m p1)), .val (.int (((own_m p1) + (1 : Int32)) + (own_m p2))), .val (.int (((((own_m p1) + (1 : Int32)) + (own_m p2)) + (1 : Int32)) + (own_m p3)))] [(.ref b1)]))) (fun _ k => XS.aload X39.here hx rfl (hb hby at_149) rfl rfl k) ?_
       have F47 := F37.keep K39
       refine own_virt (W := 0) X39 hx hZ hown rfl (hw _ (List.mem_of_getElem? (i := 33) rfl)) (hw _ (List.mem_of_getElem? (i := 34) rfl)) (hw _ (List.mem_of_getElem? (i := 36) rfl)) (hw _ (List.mem_of_getElem? (i := 35) rfl)) (rmF l Z a0 hw [] b1 ((0 : Int32) + (1 : Int32)) T39.heap n0 Zs45 P39_2 (by decide)) (hw _ (List.mem_of_getElem? (i := 37) rfl)) (hw _ (List.mem_of_getElem? (i := 2) rfl)) F47 rfl (by rw [hml]; rfl) rfl (hb hby at_151) (lenOf pd___Z rfl) rfl (by decide) (fun T46 v46 Ll46 X46 hQ46 => ?_)
       obtain ⟨rfl, N46q, eh46⟩ := hQ46
       have N46 := Fr.app N39 N46q
       refine own_go (b := (T46.setTop (mkF m 160 #[.val (.int p0), .val (.int p1), .val (.int p2), .val (.int p3), .val (.int p4), .val (.ref b1), .val (.int (1 : Int32)), .val (.int (own_m p1)), .val (.int (((own_m p1) + (1 : Int32)) + (own_m p2))), .val (.int (((((own_m p1) + (1 : Int32)) + (own_m p2)) + (1 : Int32)) + (own_m p3)))] [(.int (1 : Int32))]))) (fun _ k => XS.ifYes X46.here hx rfl (pc0 := 154) (pc' := 159) rfl (hb hby at_154) rfl ((if0 _ _).trans (teq (rfl : (0 : Int32) = (0 : Int32))).1) (by decide) (by decide) (XS.iconst X46.here hx rfl (hb hby at_159) k)) ?_
       obtain ⟨fs, hr, hrun, hended, hW, hsame⟩ := X46.leave (v := some (.int (1 : Int32))) (fun h => by rw [Bd.returns] at h; cases h)
       exact ⟨_, _, retN X46 hx (t := .boolean) Bd.returns (by simp) (hb hby at_160) hr, hrun, hended, _, _, rfl, (show Qrm0 Z p0 p1 p2 p3 p4 h0 n0 _ T46.heap _ from (by rw [eh46]; exact ⟨rfl, N46⟩)), ⟨_, rfl⟩, hW, hsame.mono (by decide) (by decide)⟩
 · rw [hk]
   refine own_go (b := (T6.setTop (mkF m 45 #[.val (.int p0), .val (.int p1), .val (.int p2), .val (.int p3), .val (.int p4), .val (.ref b1), .val (.int (2 : Int32)), .val (.int (own_m p1)), .val (.int (((own_m p1) + (1 : Int32)) + (own_m p2))), .unset] [(.int ((((own_m p1) + (1 : Int32)) + (own_m p2)) + (1 : Int32)))]))) (fun _ k => XS.istore X6.here hx rfl (hb hby at_22) rfl (l' := #[.val (.int p0), .val (.int p1), .val (.int p2), .val (.int p3), .val (.int p4), .val (.ref b1), .val (.int (2 : Int32)), .unset, .unset, .unset]) rfl (XS.iloadN X6.here hx rfl (hb hby at_24) rfl (X6.ldcInt hx hown (mvT hZ (hw _ (List.mem_of_getElem? (i := 40) rfl))) (g := (mkF m 25 #[.val (.int p0), .val (.int p1), .val (.int p2), .val (.int p3), .val (.int p4), .val (.ref b1), .val (.int (2 : Int32)), .unset, .unset, .unset] [(.int p1)])) rfl (hb hby at_25) _ (XS.iand X6.here hx rfl (hb hby at_27) rfl (XS.istore X6.here hx rfl (hb hby at_28) rfl (l' := #[.val (.int p0), .val (.int p1), .val (.int p2), .val (.int p3), .val (.int p4), .val (.ref b1), .val (.int (2 : Int32)), .val (.int (own_m p1)), .unset, .unset]) rfl (XS.iload X6.here hx rfl (hb hby at_30) rfl (XS.iconst X6.here hx rfl (hb hby at_32) (XS.iadd X6.here hx rfl (hb hby at_33) rfl (XS.iloadN X6.here hx rfl (hb hby at_34) rfl (X6.ldcInt hx hown (mvT hZ (hw _ (List.mem_of_getElem? (i := 40) rfl))) (g := (mkF m 35 #[.val (.int p0), .val (.int p1), .val (.int p2), .val (.int p3), .val (.int p4), .val (.ref b1), .val (.int (2 : Int32)), .val (.int (own_m p1)), .unset, .unset] [(.int p2), (.int ((own_m p1) + (1 : Int32)))])) rfl (hb hby at_35) _ (XS.iand X6.here hx rfl (hb hby at_37) rfl (XS.iadd X6.here hx rfl (hb hby at_38) rfl (XS.istore X6.here hx rfl (hb hby at_39) rfl (l' := #[.val (.int p0), .val (.int p1), .val (.int p2), .val (.int p3), .val (.int p4), .val (.ref b1), .val (.int (2 : Int32)), .val (.int (own_m p1)), .val (.int (((own_m p1) + (1 : Int32)) + (own_m p2))), .unset]) rfl (XS.iload X6.here hx rfl (hb hby at_41) rfl (XS.iconst X6.here hx rfl (hb hby at_43) (XS.iadd X6.here hx rfl (hb hby at_44) rfl k)))))))))))))))) ?_
   refine own_go (b := (T6.setTop (mkF m 62 #[.val (.int p0), .val (.int p1), .val (.int p2), .val (.int p3), .val (.int p4), .val (.ref b1), .val (.int (2 : Int32)), .val (.int (own_m p1)), .val (.int (((own_m p1) + (1 : Int32)) + (own_m p2))), .val (.int (((((own_m p1) + (1 : Int32)) + (own_m p2)) + (1 : Int32)) + (own_m p3)))] [(.int (own_m p1)), (.ref b1)]))) (fun _ k => XS.iloadN X6.here hx rfl (hb hby at_45) rfl (X6.ldcInt hx hown (mvT hZ (hw _ (List.mem_of_getElem? (i := 40) rfl))) (g := (mkF m 46 #[.val (.int p0), .val (.int p1), .val (.int p2), .val (.int p3), .val (.int p4), .val (.ref b1), .val (.int (2 : Int32)), .val (.int (own_m p1)), .val (.int (((own_m p1) + (1 : Int32)) + (own_m p2))), .unset] [(.int p3), (.int ((((own_m p1) + (1 : Int32)) + (own_m p2)) + (1 : Int32)))])) rfl (hb hby at_46) _ (XS.iand X6.here hx rfl (hb hby at_48) rfl (XS.iadd X6.here hx rfl (hb hby at_49) rfl (XS.istore X6.here hx rfl (hb hby at_50) rfl (l' := #[.val (.int p0), .val (.int p1), .val (.int p2), .val (.int p3), .val (.int p4), .val (.ref b1), .val (.int (2 : Int32)), .val (.int (own_m p1)), .val (.int (((own_m p1) + (1 : Int32)) + (own_m p2))), .val (.int (((((own_m p1) + (1 : Int32)) + (own_m p2)) + (1 : Int32)) + (own_m p3)))]) rfl (XS.iload X6.here hx rfl (hb hby at_52) rfl (XS.iconst X6.here hx rfl (hb hby at_54) (XS.icmpNo X6.here hx rfl (hb hby at_55) rfl (flt (by decide : ¬ ((2 : Int32) < (1 : Int32)))).1 (XS.aload X6.here hx rfl (hb hby at_58) rfl rfl (XS.iload X6.here hx rfl (hb hby at_60) rfl k)))))))))) ?_
   have gx49 : n0 ≤ g_3 := Nat.le_trans Zs2 P3_3
   have gx50 : n0 ≤ bf_3 := Nat.le_trans Zs2 P3_4
   refine own_virt (W := 0) X6 hx hZ hown eh6 (hw _ (List.mem_of_getElem? (i := 41) rfl)) (hw _ (List.mem_of_getElem? (i := 42) rfl)) (hw _ (List.mem_of_getElem? (i := 44) rfl)) (hw _ (List.mem_of_getElem? (i := 43) rfl)) (rmadd l Z a0 hw [] b1 (own_m p1) (-1 : Int32) (0 : Int32) g_3 bf_3 kf_3 vs_3 (0 : Int32) T3.heap n0 Zs5 F7 P3_0 P3_1 P3_2 P3_5 P3_6 P3_7 P3_8 P3_9 P3_10 gx4 gx49 gx50 (own_g1 _ (own_mb p1)) (by omega)) (hw _ (List.mem_of_getElem? (i := 45) rfl)) (hw _ (List.mem_of_getElem? (i := 2) rfl)) F7 rfl (by rw [hml]; rfl) rfl (hb hby at_62) (lenOf pd__I_V rfl) rfl (by decide) (fun T48 v48 Ll48 X48 hQ48 => ?_)
   obtain ⟨us_48, dn_48, rfl, N48q, K48, P48_0, P48_1, P48_2, P48_3, P48_4, P48_5, P48_6, P48_7, P48_8⟩ := hQ48
   have N48 := Fr.app N6 N48q
   have Zs51 : n0 ≤ T48.heap.size := Nat.le_trans Zs5 K48.1
   refine own_go (b := (T48.setTop (mkF m 75 #[.val (.int p0), .val (.int p1), .val (.int p2), .val (.int p3), .val (.int p4), .val (.ref b1), .val (.int (2 : Int32)), .val (.int (own_m p1)), .val (.int (((own_m p1) + (1 : Int32)) + (own_m p2))), .val (.int (((((own_m p1) + (1 : Int32)) + (own_m p2)) + (1 : Int32)) + (own_m p3)))] [(.int (((own_m p1) + (1 : Int32)) + (own_m p2))), (.ref b1)]))) (fun _ k => XS.iload X48.here hx rfl (hb hby at_65) rfl (XS.iconst X48.here hx rfl (hb hby at_67) (XS.icmpNo X48.here hx rfl (hb hby at_68) rfl (flt (by decide : ¬ ((2 : Int32) < (2 : Int32)))).1 (XS.aload X48.here hx rfl (hb hby at_71) rfl rfl (XS.iload X48.here hx rfl (hb hby at_73) rfl k))))) ?_
   have F53 := F7.keep K48
   have F54 := P3_5.keep K48
   refine own_virt (W := 0) X48 hx hZ hown rfl (hw _ (List.mem_of_getElem? (i := 41) rfl)) (hw _ (List.mem_of_getElem? (i := 42) rfl)) (hw _ (List.mem_of_getElem? (i := 44) rfl)) (hw _ (List.mem_of_getElem? (i := 43) rfl)) (rmadd l Z a0 hw [] b1 (((own_m p1) + (1 : Int32)) + (own_m p2)) (own_m p1) ((0 : Int32) + (1 : Int32)) g_3 bf_3 kf_3 us_48 dn_48 T48.heap n0 Zs51 F53 P48_0 P48_1 P48_2 F54 P48_3 P48_4 P48_5 P48_6 P48_7 gx4 gx49 gx50 (own_g2 _ _ (own_mb p2)) (by omega)) (hw _ (List.mem_of_getElem? (i := 45) rfl)) (hw _ (List.mem_of_getElem? (i := 2) rfl)) F53 rfl (by rw [hml]; rfl) rfl (hb hby at_75) (lenOf pd__I_V rfl) rfl (by decide) (fun T52 v52 Ll52 X52 hQ52 => ?_)
   obtain ⟨us_52, dn_52, rfl, N52q, K52, P52_0, P52_1, P52_2, P52_3, P52_4, P52_5, P52_6, P52_7, P52_8⟩ := hQ52
   have N52 := Fr.app N48 N52q
   have Zs55 : n0 ≤ T52.heap.size := Nat.le_trans Zs51 K52.1
   refine own_go (b := (T52.setTop (mkF m 93 #[.val (.int p0), .val (.int p1), .val (.int p2), .val (.int p3), .val (.int p4), .val (.ref b1), .val (.int (2 : Int32)), .val (.int (own_m p1)), .val (.int (((own_m p1) + (1 : Int32)) + (own_m p2))), .val (.int (((((own_m p1) + (1 : Int32)) + (own_m p2)) + (1 : Int32)) + (own_m p3)))] [(.ref b1)]))) (fun _ k => XS.iload X52.here hx rfl (hb hby at_78) rfl (XS.iconst X52.here hx rfl (hb hby at_80) (XS.icmpYes X52.here hx rfl (pc0 := 81) (pc' := 91) rfl (hb hby at_81) rfl (tlt (by decide : (2 : Int32) < (3 : Int32))).1 (by decide) (by decide) (XS.aload X52.here hx rfl (hb hby at_91) rfl rfl k)))) ?_
   have F57 := F53.keep K52
   refine own_virt (W := 0) X52 hx hZ hown rfl (hw _ (List.mem_of_getElem? (i := 33) rfl)) (hw _ (List.mem_of_getElem? (i := 34) rfl)) (hw _ (List.mem_of_getElem? (i := 36) rfl)) (hw _ (List.mem_of_getElem? (i := 35) rfl)) (rmF l Z a0 hw [] b1 (((0 : Int32) + (1 : Int32)) + (1 : Int32)) T52.heap n0 Zs55 P52_2 (by decide)) (hw _ (List.mem_of_getElem? (i := 37) rfl)) (hw _ (List.mem_of_getElem? (i := 2) rfl)) F57 rfl (by rw [hml]; rfl) rfl (hb hby at_93) (lenOf pd___Z rfl) rfl (by decide) (fun T56 v56 Ll56 X56 hQ56 => ?_)
   obtain ⟨rfl, N56q, eh56⟩ := hQ56
   have N56 := Fr.app N52 N56q
   refine own_go (b := (T56.setTop (mkF m 114 #[.val (.int p0), .val (.int p1), .val (.int p2), .val (.int p3), .val (.int p4), .val (.ref b1), .val (.int (2 : Int32)), .val (.int (own_m p1)), .val (.int (((own_m p1) + (1 : Int32)) + (own_m p2))), .val (.int (((((own_m p1) + (1 : Int32)) + (own_m p2)) + (1 : Int32)) + (own_m p3)))] [(.int (p0 &&& (4 : Int32)))]))) (fun _ k => XS.iload X56.here hx rfl (hb hby at_96) rfl (XS.ifYes X56.here hx rfl (pc0 := 98) (pc' := 105) rfl (hb hby at_98) rfl ((if0 _ _).trans (feq (by decide : ¬ ((2 : Int32) = (0 : Int32)))).2) (by decide) (by decide) (XS.iconst X56.here hx rfl (hb hby at_105) (XS.icmpYes X56.here hx rfl (pc0 := 106) (pc' := 111) rfl (hb hby at_106) rfl (teq (rfl : (0 : Int32) = (0 : Int32))).1 (by decide) (by decide) (XS.iloadN X56.here hx rfl (hb hby at_111) rfl (XS.iconst X56.here hx rfl (hb hby at_112) (XS.iand X56.here hx rfl (hb hby at_113) rfl k))))))) ?_
   by_cases hc114_58 : (p0 &&& (4 : Int32)) = (0 : Int32)
   · skip
     refine own_go (b := (T56.setTop (mkF m 160 #[.val (.int p0), .val (.int p1), .val (.int p2), .val (.int p3), .val (.int p4), .val (.ref b1), .val (.int (2 : Int32)), .val (.int (own_m p1)), .val (.int (((own_m p1) + (1 : Int32)) + (own_m p2))), .val (.int (((((own_m p1) + (1 : Int32)) + (own_m p2)) + (1 : Int32)) + (own_m p3)))] [(.int (1 : Int32))]))) (fun _ k => XS.ifYes X56.here hx rfl (pc0 := 114) (pc' := 159) rfl (hb hby at_114) rfl ((if0 _ _).trans (teq hc114_58).1) (by decide) (by decide) (XS.iconst X56.here hx rfl (hb hby at_159) k)) ?_
     obtain ⟨fs, hr, hrun, hended, hW, hsame⟩ := X56.leave (v := some (.int (1 : Int32))) (fun h => by rw [Bd.returns] at h; cases h)
     exact ⟨_, _, retN X56 hx (t := .boolean) Bd.returns (by simp) (hb hby at_160) hr, hrun, hended, _, _, rfl, (show Qrm0 Z p0 p1 p2 p3 p4 h0 n0 _ T56.heap _ from (by rw [eh56]; exact ⟨rfl, N56⟩)), ⟨_, rfl⟩, hW, hsame.mono (by decide) (by decide)⟩
   · skip
     refine own_go (b := (T56.setTop (mkF m 119 #[.val (.int p0), .val (.int p1), .val (.int p2), .val (.int p3), .val (.int p4), .val (.ref b1), .val (.int (2 : Int32)), .val (.int (own_m p1)), .val (.int (((own_m p1) + (1 : Int32)) + (own_m p2))), .val (.int (((((own_m p1) + (1 : Int32)) + (own_m p2)) + (1 : Int32)) + (own_m p3)))] [(.ref b1)]))) (fun _ k => XS.ifNo X56.here hx rfl (hb hby at_114) rfl ((if0 _ _).trans (feq hc114_58).1) (XS.aload X56.here hx rfl (hb hby at_117) rfl rfl k)) ?_
     have F60 := F54.keep K52
     refine own_virt (W := 0) X56 hx hZ hown eh56 (hw _ (List.mem_of_getElem? (i := 64) rfl)) (hw _ (List.mem_of_getElem? (i := 65) rfl)) (hw _ (List.mem_of_getElem? (i := 67) rfl)) (hw _ (List.mem_of_getElem? (i := 66) rfl)) (rmcl l Z a0 hw [] b1 (((own_m p1) + (1 : Int32)) + (own_m p2)) (((0 : Int32) + (1 : Int32)) + (1 : Int32)) g_3 bf_3 kf_3 us_52 dn_52 T52.heap n0 Zs55 F57 P52_0 P52_1 P52_2 F60 P52_3 P52_4 P52_5 P52_6 P52_7 gx4 gx49 gx50) (hw _ (List.mem_of_getElem? (i := 68) rfl)) (hw _ (List.mem_of_getElem? (i := 2) rfl)) F57 rfl (by rw [hml]; rfl) rfl (hb hby at_119) (lenOf pd___V rfl) rfl (by decide) (fun T59 v59 Ll59 X59 hQ59 => ?_)
     obtain ⟨rfl, N59q, K59, P59_0, P59_1, P59_2, P59_3, P59_4, P59_5⟩ := hQ59
     have N59 := Fr.app N56 N59q
     have Zs61 : n0 ≤ T59.heap.size := Nat.le_trans Zs55 K59.1
     refine own_go (b := (T59.setTop (mkF m 124 #[.val (.int p0), .val (.int p1), .val (.int p2), .val (.int p3), .val (.int p4), .val (.ref b1), .val (.int (2 : Int32)), .val (.int (own_m p1)), .val (.int (((own_m p1) + (1 : Int32)) + (own_m p2))), .val (.int (((((own_m p1) + (1 : Int32)) + (own_m p2)) + (1 : Int32)) + (own_m p3)))] [(.ref b1)]))) (fun _ k => XS.aload X59.here hx rfl (hb hby at_122) rfl rfl k) ?_
     have F63 := F57.keep K59
     refine own_virt (W := 0) X59 hx hZ hown rfl (hw _ (List.mem_of_getElem? (i := 33) rfl)) (hw _ (List.mem_of_getElem? (i := 34) rfl)) (hw _ (List.mem_of_getElem? (i := 36) rfl)) (hw _ (List.mem_of_getElem? (i := 35) rfl)) (rmT l Z a0 hw [] b1 T59.heap n0 Zs61 P59_2) (hw _ (List.mem_of_getElem? (i := 37) rfl)) (hw _ (List.mem_of_getElem? (i := 2) rfl)) F63 rfl (by rw [hml]; rfl) rfl (hb hby at_124) (lenOf pd___Z rfl) rfl (by decide) (fun T62 v62 Ll62 X62 hQ62 => ?_)
     obtain ⟨rfl, N62q, eh62⟩ := hQ62
     have N62 := Fr.app N59 N62q
     refine own_go (b := (T62.setTop (mkF m 136 #[.val (.int p0), .val (.int p1), .val (.int p2), .val (.int p3), .val (.int p4), .val (.ref b1), .val (.int (2 : Int32)), .val (.int (own_m p1)), .val (.int (((own_m p1) + (1 : Int32)) + (own_m p2))), .val (.int (((((own_m p1) + (1 : Int32)) + (own_m p2)) + (1 : Int32)) + (own_m p3)))] [(.int (p0 &&& (8 : Int32)))]))) (fun _ k => XS.ifYes X62.here hx rfl (pc0 := 127) (pc' := 132) rfl (hb hby at_127) rfl ((if0 _ _).trans (feq (by decide : ¬ ((1 : Int32) = (0 : Int32)))).2) (by decide) (by decide) (XS.iloadN X62.here hx rfl (hb hby at_132) rfl (XS.bipush X62.here hx rfl (hb hby at_133) (XS.iand X62.here hx rfl (hb hby at_135) rfl k)))) ?_
     by_cases hc136_64 : (p0 &&& (8 : Int32)) = (0 : Int32)
     · skip
       refine own_go (b := (T62.setTop (mkF m 160 #[.val (.int p0), .val (.int p1), .val (.int p2), .val (.int p3), .val (.int p4), .val (.ref b1), .val (.int (2 : Int32)), .val (.int (own_m p1)), .val (.int (((own_m p1) + (1 : Int32)) + (own_m p2))), .val (.int (((((own_m p1) + (1 : Int32)) + (own_m p2)) + (1 : Int32)) + (own_m p3)))] [(.int (1 : Int32))]))) (fun _ k => XS.ifYes X62.here hx rfl (pc0 := 136) (pc' := 159) rfl (hb hby at_136) rfl ((if0 _ _).trans (teq hc136_64).1) (by decide) (by decide) (XS.iconst X62.here hx rfl (hb hby at_159) k)) ?_
       obtain ⟨fs, hr, hrun, hended, hW, hsame⟩ := X62.leave (v := some (.int (1 : Int32))) (fun h => by rw [Bd.returns] at h; cases h)
       exact ⟨_, _, retN X62 hx (t := .boolean) Bd.returns (by simp) (hb hby at_160) hr, hrun, hended, _, _, rfl, (show Qrm0 Z p0 p1 p2 p3 p4 h0 n0 _ T62.heap _ from (by rw [eh62]; exact ⟨rfl, N62⟩)), ⟨_, rfl⟩, hW, hsame.mono (by decide) (by decide)⟩
     · skip
       refine own_go (b := (T62.setTop (mkF m 146 #[.val (.int p0), .val (.int p1), .val (.int p2), .val (.int p3), .val (.int p4), .val (.ref b1), .val (.int (2 : Int32)), .val (.int (own_m p1)), .val (.int (((own_m p1) + (1 : Int32)) + (own_m p2))), .val (.int (((((own_m p1) + (1 : Int32)) + (own_m p2)) + (1 : Int32)) + (own_m p3)))] [(.int (own_n p4)), (.ref b1)]))) (fun _ k => XS.ifNo X62.here hx rfl (hb hby at_136) rfl ((if0 _ _).trans (feq hc136_64).1) (XS.aload X62.here hx rfl (hb hby at_139) rfl rfl (XS.iload X62.here hx rfl (hb hby at_141) rfl (X62.ldcInt hx hown (mvT hZ (hw _ (List.mem_of_getElem? (i := 74) rfl))) (g := (mkF m 143 #[.val (.int p0), .val (.int p1), .val (.int p2), .val (.int p3), .val (.int p4), .val (.ref b1), .val (.int (2 : Int32)), .val (.int (own_m p1)), .val (.int (((own_m p1) + (1 : Int32)) + (own_m p2))), .val (.int (((((own_m p1) + (1 : Int32)) + (own_m p2)) + (1 : Int32)) + (own_m p3)))] [(.int p4), (.ref b1)])) rfl (hb hby at_143) _ (XS.iand X62.here hx rfl (hb hby at_145) rfl k))))) ?_
       have F66 := F60.keep K59
       obtain ⟨cn67, An67, -⟩ := id P3_8
       have nx68 : bf_3 ≠ g_3 := (Ne.symm (ne_arr P3_5 (hw _ (List.mem_of_getElem? (i := 10) rfl)) An67))
       have nx69 : bf_3 ≠ b1 := (Ne.symm (own_ne A1.lt (Nat.le_refl _) P3_4))
       have F70 := P52_5.keep K59 (ninS nx69 (ninS nx68 nin0))
       refine own_virt (W := 0) X62 hx hZ hown eh62 (hw _ (List.mem_of_getElem? (i := 41) rfl)) (hw _ (List.mem_of_getElem? (i := 42) rfl)) (hw _ (List.mem_of_getElem? (i := 44) rfl)) (hw _ (List.mem_of_getElem? (i := 43) rfl)) (rmadd l Z a0 hw [] b1 (own_n p4) (-1 : Int32) (0 : Int32) g_3 bf_3 kf_3 us_52 (0 : Int32) T59.heap n0 Zs61 F63 P59_0 P59_1 P59_2 F66 P59_3 P59_4 F70 P52_6 P59_5 gx4 gx49 gx50 (own_g1 _ (own_nb p4)) (by omega)) (hw _ (List.mem_of_getElem? (i := 45) rfl)) (hw _ (List.mem_of_getElem? (i := 2) rfl)) F63 rfl (by rw [hml]; rfl) rfl (hb hby at_146) (lenOf pd__I_V rfl) rfl (by decide) (fun T65 v65 Ll65 X65 hQ65 => ?_)
       obtain ⟨us_65, dn_65, rfl, N65q, K65, P65_0, P65_1, P65_2, P65_3, P65_4, P65_5, P65_6, P65_7, P65_8⟩ := hQ65
       have N65 := Fr.app N62 N65q
       have Zs71 : n0 ≤ T65.heap.size := Nat.le_trans Zs61 K65.1
       refine own_go (b := (T65.setTop (mkF m 151 #[.val (.int p0), .val (.int p1), .val (.int p2), .val (.int p3), .val (.int p4), .val (.ref b1), .val (.int (2 : Int32)), .val (.int (own_m p1)), .val (.int (((own_m p1) + (1 : Int32)) + (own_m p2))), .val (.int (((((own_m p1) + (1 : Int32)) + (own_m p2)) + (1 : Int32)) + (own_m p3)))] [(.ref b1)]))) (fun _ k => XS.aload X65.here hx rfl (hb hby at_149) rfl rfl k) ?_
       have F73 := F63.keep K65
       refine own_virt (W := 0) X65 hx hZ hown rfl (hw _ (List.mem_of_getElem? (i := 33) rfl)) (hw _ (List.mem_of_getElem? (i := 34) rfl)) (hw _ (List.mem_of_getElem? (i := 36) rfl)) (hw _ (List.mem_of_getElem? (i := 35) rfl)) (rmF l Z a0 hw [] b1 ((0 : Int32) + (1 : Int32)) T65.heap n0 Zs71 P65_2 (by decide)) (hw _ (List.mem_of_getElem? (i := 37) rfl)) (hw _ (List.mem_of_getElem? (i := 2) rfl)) F73 rfl (by rw [hml]; rfl) rfl (hb hby at_151) (lenOf pd___Z rfl) rfl (by decide) (fun T72 v72 Ll72 X72 hQ72 => ?_)
       obtain ⟨rfl, N72q, eh72⟩ := hQ72
       have N72 := Fr.app N65 N72q
       refine own_go (b := (T72.setTop (mkF m 160 #[.val (.int p0), .val (.int p1), .val (.int p2), .val (.int p3), .val (.int p4), .val (.ref b1), .val (.int (2 : Int32)), .val (.int (own_m p1)), .val (.int (((own_m p1) + (1 : Int32)) + (own_m p2))), .val (.int (((((own_m p1) + (1 : Int32)) + (own_m p2)) + (1 : Int32)) + (own_m p3)))] [(.int (1 : Int32))]))) (fun _ k => XS.ifYes X72.here hx rfl (pc0 := 154) (pc' := 159) rfl (hb hby at_154) rfl ((if0 _ _).trans (teq (rfl : (0 : Int32) = (0 : Int32))).1) (by decide) (by decide) (XS.iconst X72.here hx rfl (hb hby at_159) k)) ?_
       obtain ⟨fs, hr, hrun, hended, hW, hsame⟩ := X72.leave (v := some (.int (1 : Int32))) (fun h => by rw [Bd.returns] at h; cases h)
       exact ⟨_, _, retN X72 hx (t := .boolean) Bd.returns (by simp) (hb hby at_160) hr, hrun, hended, _, _, rfl, (show Qrm0 Z p0 p1 p2 p3 p4 h0 n0 _ T72.heap _ from (by rw [eh72]; exact ⟨rfl, N72⟩)), ⟨_, rfl⟩, hW, hsame.mono (by decide) (by decide)⟩
 · rw [hk]
   refine own_go (b := (T6.setTop (mkF m 45 #[.val (.int p0), .val (.int p1), .val (.int p2), .val (.int p3), .val (.int p4), .val (.ref b1), .val (.int (3 : Int32)), .val (.int (own_m p1)), .val (.int (((own_m p1) + (1 : Int32)) + (own_m p2))), .unset] [(.int ((((own_m p1) + (1 : Int32)) + (own_m p2)) + (1 : Int32)))]))) (fun _ k => XS.istore X6.here hx rfl (hb hby at_22) rfl (l' := #[.val (.int p0), .val (.int p1), .val (.int p2), .val (.int p3), .val (.int p4), .val (.ref b1), .val (.int (3 : Int32)), .unset, .unset, .unset]) rfl (XS.iloadN X6.here hx rfl (hb hby at_24) rfl (X6.ldcInt hx hown (mvT hZ (hw _ (List.mem_of_getElem? (i := 40) rfl))) (g := (mkF m 25 #[.val (.int p0), .val (.int p1), .val (.int p2), .val (.int p3), .val (.int p4), .val (.ref b1), .val (.int (3 : Int32)), .unset, .unset, .unset] [(.int p1)])) rfl (hb hby at_25) _ (XS.iand X6.here hx rfl (hb hby at_27) rfl (XS.istore X6.here hx rfl (hb hby at_28) rfl (l' := #[.val (.int p0), .val (.int p1), .val (.int p2), .val (.int p3), .val (.int p4), .val (.ref b1), .val (.int (3 : Int32)), .val (.int (own_m p1)), .unset, .unset]) rfl (XS.iload X6.here hx rfl (hb hby at_30) rfl (XS.iconst X6.here hx rfl (hb hby at_32) (XS.iadd X6.here hx rfl (hb hby at_33) rfl (XS.iloadN X6.here hx rfl (hb hby at_34) rfl (X6.ldcInt hx hown (mvT hZ (hw _ (List.mem_of_getElem? (i := 40) rfl))) (g := (mkF m 35 #[.val (.int p0), .val (.int p1), .val (.int p2), .val (.int p3), .val (.int p4), .val (.ref b1), .val (.int (3 : Int32)), .val (.int (own_m p1)), .unset, .unset] [(.int p2), (.int ((own_m p1) + (1 : Int32)))])) rfl (hb hby at_35) _ (XS.iand X6.here hx rfl (hb hby at_37) rfl (XS.iadd X6.here hx rfl (hb hby at_38) rfl (XS.istore X6.here hx rfl (hb hby at_39) rfl (l' := #[.val (.int p0), .val (.int p1), .val (.int p2), .val (.int p3), .val (.int p4), .val (.ref b1), .val (.int (3 : Int32)), .val (.int (own_m p1)), .val (.int (((own_m p1) + (1 : Int32)) + (own_m p2))), .unset]) rfl (XS.iload X6.here hx rfl (hb hby at_41) rfl (XS.iconst X6.here hx rfl (hb hby at_43) (XS.iadd X6.here hx rfl (hb hby at_44) rfl k)))))))))))))))) ?_
   refine own_go (b := (T6.setTop (mkF m 62 #[.val (.int p0), .val (.int p1), .val (.int p2), .val (.int p3), .val (.int p4), .val (.ref b1), .val (.int (3 : Int32)), .val (.int (own_m p1)), .val (.int (((own_m p1) + (1 : Int32)) + (own_m p2))), .val (.int (((((own_m p1) + (1 : Int32)) + (own_m p2)) + (1 : Int32)) + (own_m p3)))] [(.int (own_m p1)), (.ref b1)]))) (fun _ k => XS.iloadN X6.here hx rfl (hb hby at_45) rfl (X6.ldcInt hx hown (mvT hZ (hw _ (List.mem_of_getElem? (i := 40) rfl))) (g := (mkF m 46 #[.val (.int p0), .val (.int p1), .val (.int p2), .val (.int p3), .val (.int p4), .val (.ref b1), .val (.int (3 : Int32)), .val (.int (own_m p1)), .val (.int (((own_m p1) + (1 : Int32)) + (own_m p2))), .unset] [(.int p3), (.int ((((own_m p1) + (1 : Int32)) + (own_m p2)) + (1 : Int32)))])) rfl (hb hby at_46) _ (XS.iand X6.here hx rfl (hb hby at_48) rfl (XS.iadd X6.here hx rfl (hb hby at_49) rfl (XS.istore X6.here hx rfl (hb hby at_50) rfl (l' := #[.val (.int p0), .val (.int p1), .val (.int p2), .val (.int p3), .val (.int p4), .val (.ref b1), .val (.int (3 : Int32)), .val (.int (own_m p1)), .val (.int (((own_m p1) + (1 : Int32)) + (own_m p2))), .val (.int (((((own_m p1) + (1 : Int32)) + (own_m p2)) + (1 : Int32)) + (own_m p3)))]) rfl (XS.iload X6.here hx rfl (hb hby at_52) rfl (XS.iconst X6.here hx rfl (hb hby at_54) (XS.icmpNo X6.here hx rfl (hb hby at_55) rfl (flt (by decide : ¬ ((3 : Int32) < (1 : Int32)))).1 (XS.aload X6.here hx rfl (hb hby at_58) rfl rfl (XS.iload X6.here hx rfl (hb hby at_60) rfl k)))))))))) ?_
   have gx75 : n0 ≤ g_3 := Nat.le_trans Zs2 P3_3
   have gx76 : n0 ≤ bf_3 := Nat.le_trans Zs2 P3_4
   refine own_virt (W := 0) X6 hx hZ hown eh6 (hw _ (List.mem_of_getElem? (i := 41) rfl)) (hw _ (List.mem_of_getElem? (i := 42) rfl)) (hw _ (List.mem_of_getElem? (i := 44) rfl)) (hw _ (List.mem_of_getElem? (i := 43) rfl)) (rmadd l Z a0 hw [] b1 (own_m p1) (-1 : Int32) (0 : Int32) g_3 bf_3 kf_3 vs_3 (0 : Int32) T3.heap n0 Zs5 F7 P3_0 P3_1 P3_2 P3_5 P3_6 P3_7 P3_8 P3_9 P3_10 gx4 gx75 gx76 (own_g1 _ (own_mb p1)) (by omega)) (hw _ (List.mem_of_getElem? (i := 45) rfl)) (hw _ (List.mem_of_getElem? (i := 2) rfl)) F7 rfl (by rw [hml]; rfl) rfl (hb hby at_62) (lenOf pd__I_V rfl) rfl (by decide) (fun T74 v74 Ll74 X74 hQ74 => ?_)
   obtain ⟨us_74, dn_74, rfl, N74q, K74, P74_0, P74_1, P74_2, P74_3, P74_4, P74_5, P74_6, P74_7, P74_8⟩ := hQ74
   have N74 := Fr.app N6 N74q
   have Zs77 : n0 ≤ T74.heap.size := Nat.le_trans Zs5 K74.1
   refine own_go (b := (T74.setTop (mkF m 75 #[.val (.int p0), .val (.int p1), .val (.int p2), .val (.int p3), .val (.int p4), .val (.ref b1), .val (.int (3 : Int32)), .val (.int (own_m p1)), .val (.int (((own_m p1) + (1 : Int32)) + (own_m p2))), .val (.int (((((own_m p1) + (1 : Int32)) + (own_m p2)) + (1 : Int32)) + (own_m p3)))] [(.int (((own_m p1) + (1 : Int32)) + (own_m p2))), (.ref b1)]))) (fun _ k => XS.iload X74.here hx rfl (hb hby at_65) rfl (XS.iconst X74.here hx rfl (hb hby at_67) (XS.icmpNo X74.here hx rfl (hb hby at_68) rfl (flt (by decide : ¬ ((3 : Int32) < (2 : Int32)))).1 (XS.aload X74.here hx rfl (hb hby at_71) rfl rfl (XS.iload X74.here hx rfl (hb hby at_73) rfl k))))) ?_
   have F79 := F7.keep K74
   have F80 := P3_5.keep K74
   refine own_virt (W := 0) X74 hx hZ hown rfl (hw _ (List.mem_of_getElem? (i := 41) rfl)) (hw _ (List.mem_of_getElem? (i := 42) rfl)) (hw _ (List.mem_of_getElem? (i := 44) rfl)) (hw _ (List.mem_of_getElem? (i := 43) rfl)) (rmadd l Z a0 hw [] b1 (((own_m p1) + (1 : Int32)) + (own_m p2)) (own_m p1) ((0 : Int32) + (1 : Int32)) g_3 bf_3 kf_3 us_74 dn_74 T74.heap n0 Zs77 F79 P74_0 P74_1 P74_2 F80 P74_3 P74_4 P74_5 P74_6 P74_7 gx4 gx75 gx76 (own_g2 _ _ (own_mb p2)) (by omega)) (hw _ (List.mem_of_getElem? (i := 45) rfl)) (hw _ (List.mem_of_getElem? (i := 2) rfl)) F79 rfl (by rw [hml]; rfl) rfl (hb hby at_75) (lenOf pd__I_V rfl) rfl (by decide) (fun T78 v78 Ll78 X78 hQ78 => ?_)
   obtain ⟨us_78, dn_78, rfl, N78q, K78, P78_0, P78_1, P78_2, P78_3, P78_4, P78_5, P78_6, P78_7, P78_8⟩ := hQ78
   have N78 := Fr.app N74 N78q
   have Zs81 : n0 ≤ T78.heap.size := Nat.le_trans Zs77 K78.1
   refine own_go (b := (T78.setTop (mkF m 88 #[.val (.int p0), .val (.int p1), .val (.int p2), .val (.int p3), .val (.int p4), .val (.ref b1), .val (.int (3 : Int32)), .val (.int (own_m p1)), .val (.int (((own_m p1) + (1 : Int32)) + (own_m p2))), .val (.int (((((own_m p1) + (1 : Int32)) + (own_m p2)) + (1 : Int32)) + (own_m p3)))] [(.int (((((own_m p1) + (1 : Int32)) + (own_m p2)) + (1 : Int32)) + (own_m p3))), (.ref b1)]))) (fun _ k => XS.iload X78.here hx rfl (hb hby at_78) rfl (XS.iconst X78.here hx rfl (hb hby at_80) (XS.icmpNo X78.here hx rfl (hb hby at_81) rfl (flt (by decide : ¬ ((3 : Int32) < (3 : Int32)))).1 (XS.aload X78.here hx rfl (hb hby at_84) rfl rfl (XS.iload X78.here hx rfl (hb hby at_86) rfl k))))) ?_
   have F83 := F79.keep K78
   have F84 := F80.keep K78
   refine own_virt (W := 0) X78 hx hZ hown rfl (hw _ (List.mem_of_getElem? (i := 41) rfl)) (hw _ (List.mem_of_getElem? (i := 42) rfl)) (hw _ (List.mem_of_getElem? (i := 44) rfl)) (hw _ (List.mem_of_getElem? (i := 43) rfl)) (rmadd l Z a0 hw [] b1 (((((own_m p1) + (1 : Int32)) + (own_m p2)) + (1 : Int32)) + (own_m p3)) (((own_m p1) + (1 : Int32)) + (own_m p2)) (((0 : Int32) + (1 : Int32)) + (1 : Int32)) g_3 bf_3 kf_3 us_78 dn_78 T78.heap n0 Zs81 F83 P78_0 P78_1 P78_2 F84 P78_3 P78_4 P78_5 P78_6 P78_7 gx4 gx75 gx76 (own_g2 _ _ (own_mb p3)) (by omega)) (hw _ (List.mem_of_getElem? (i := 45) rfl)) (hw _ (List.mem_of_getElem? (i := 2) rfl)) F83 rfl (by rw [hml]; rfl) rfl (hb hby at_88) (lenOf pd__I_V rfl) rfl (by decide) (fun T82 v82 Ll82 X82 hQ82 => ?_)
   obtain ⟨us_82, dn_82, rfl, N82q, K82, P82_0, P82_1, P82_2, P82_3, P82_4, P82_5, P82_6, P82_7, P82_8⟩ := hQ82
   have N82 := Fr.app N78 N82q
   have Zs85 : n0 ≤ T82.heap.size := Nat.le_trans Zs81 K82.1
   refine own_go (b := (T82.setTop (mkF m 93 #[.val (.int p0), .val (.int p1), .val (.int p2), .val (.int p3), .val (.int p4), .val (.ref b1), .val (.int (3 : Int32)), .val (.int (own_m p1)), .val (.int (((own_m p1) + (1 : Int32)) + (own_m p2))), .val (.int (((((own_m p1) + (1 : Int32)) + (own_m p2)) + (1 : Int32)) + (own_m p3)))] [(.ref b1)]))) (fun _ k => XS.aload X82.here hx rfl (hb hby at_91) rfl rfl k) ?_
   have F87 := F83.keep K82
   refine own_virt (W := 0) X82 hx hZ hown rfl (hw _ (List.mem_of_getElem? (i := 33) rfl)) (hw _ (List.mem_of_getElem? (i := 34) rfl)) (hw _ (List.mem_of_getElem? (i := 36) rfl)) (hw _ (List.mem_of_getElem? (i := 35) rfl)) (rmF l Z a0 hw [] b1 ((((0 : Int32) + (1 : Int32)) + (1 : Int32)) + (1 : Int32)) T82.heap n0 Zs85 P82_2 (by decide)) (hw _ (List.mem_of_getElem? (i := 37) rfl)) (hw _ (List.mem_of_getElem? (i := 2) rfl)) F87 rfl (by rw [hml]; rfl) rfl (hb hby at_93) (lenOf pd___Z rfl) rfl (by decide) (fun T86 v86 Ll86 X86 hQ86 => ?_)
   obtain ⟨rfl, N86q, eh86⟩ := hQ86
   have N86 := Fr.app N82 N86q
   refine own_go (b := (T86.setTop (mkF m 114 #[.val (.int p0), .val (.int p1), .val (.int p2), .val (.int p3), .val (.int p4), .val (.ref b1), .val (.int (3 : Int32)), .val (.int (own_m p1)), .val (.int (((own_m p1) + (1 : Int32)) + (own_m p2))), .val (.int (((((own_m p1) + (1 : Int32)) + (own_m p2)) + (1 : Int32)) + (own_m p3)))] [(.int (p0 &&& (4 : Int32)))]))) (fun _ k => XS.iload X86.here hx rfl (hb hby at_96) rfl (XS.ifYes X86.here hx rfl (pc0 := 98) (pc' := 105) rfl (hb hby at_98) rfl ((if0 _ _).trans (feq (by decide : ¬ ((3 : Int32) = (0 : Int32)))).2) (by decide) (by decide) (XS.iconst X86.here hx rfl (hb hby at_105) (XS.icmpYes X86.here hx rfl (pc0 := 106) (pc' := 111) rfl (hb hby at_106) rfl (teq (rfl : (0 : Int32) = (0 : Int32))).1 (by decide) (by decide) (XS.iloadN X86.here hx rfl (hb hby at_111) rfl (XS.iconst X86.here hx rfl (hb hby at_112) (XS.iand X86.here hx rfl (hb hby at_113) rfl k))))))) ?_
   by_cases hc114_88 : (p0 &&& (4 : Int32)) = (0 : Int32)
   · skip
     refine own_go (b := (T86.setTop (mkF m 160 #[.val (.int p0), .val (.int p1), .val (.int p2), .val (.int p3), .val (.int p4), .val (.ref b1), .val (.int (3 : Int32)), .val (.int (own_m p1)), .val (.int (((own_m p1) + (1 : Int32)) + (own_m p2))), .val (.int (((((own_m p1) + (1 : Int32)) + (own_m p2)) + (1 : Int32)) + (own_m p3)))] [(.int (1 : Int32))]))) (fun _ k => XS.ifYes X86.here hx rfl (pc0 := 114) (pc' := 159) rfl (hb hby at_114) rfl ((if0 _ _).trans (teq hc114_88).1) (by decide) (by decide) (XS.iconst X86.here hx rfl (hb hby at_159) k)) ?_
     obtain ⟨fs, hr, hrun, hended, hW, hsame⟩ := X86.leave (v := some (.int (1 : Int32))) (fun h => by rw [Bd.returns] at h; cases h)
     exact ⟨_, _, retN X86 hx (t := .boolean) Bd.returns (by simp) (hb hby at_160) hr, hrun, hended, _, _, rfl, (show Qrm0 Z p0 p1 p2 p3 p4 h0 n0 _ T86.heap _ from (by rw [eh86]; exact ⟨rfl, N86⟩)), ⟨_, rfl⟩, hW, hsame.mono (by decide) (by decide)⟩
   · skip
     refine own_go (b := (T86.setTop (mkF m 119 #[.val (.int p0), .val (.int p1), .val (.int p2), .val (.int p3), .val (.int p4), .val (.ref b1), .val (.int (3 : Int32)), .val (.int (own_m p1)), .val (.int (((own_m p1) + (1 : Int32)) + (own_m p2))), .val (.int (((((own_m p1) + (1 : Int32)) + (own_m p2)) + (1 : Int32)) + (own_m p3)))] [(.ref b1)]))) (fun _ k => XS.ifNo X86.here hx rfl (hb hby at_114) rfl ((if0 _ _).trans (feq hc114_88).1) (XS.aload X86.here hx rfl (hb hby at_117) rfl rfl k)) ?_
     have F90 := F84.keep K82
     refine own_virt (W := 0) X86 hx hZ hown eh86 (hw _ (List.mem_of_getElem? (i := 64) rfl)) (hw _ (List.mem_of_getElem? (i := 65) rfl)) (hw _ (List.mem_of_getElem? (i := 67) rfl)) (hw _ (List.mem_of_getElem? (i := 66) rfl)) (rmcl l Z a0 hw [] b1 (((((own_m p1) + (1 : Int32)) + (own_m p2)) + (1 : Int32)) + (own_m p3)) ((((0 : Int32) + (1 : Int32)) + (1 : Int32)) + (1 : Int32)) g_3 bf_3 kf_3 us_82 dn_82 T82.heap n0 Zs85 F87 P82_0 P82_1 P82_2 F90 P82_3 P82_4 P82_5 P82_6 P82_7 gx4 gx75 gx76) (hw _ (List.mem_of_getElem? (i := 68) rfl)) (hw _ (List.mem_of_getElem? (i := 2) rfl)) F87 rfl (by rw [hml]; rfl) rfl (hb hby at_119) (lenOf pd___V rfl) rfl (by decide) (fun T89 v89 Ll89 X89 hQ89 => ?_)
     obtain ⟨rfl, N89q, K89, P89_0, P89_1, P89_2, P89_3, P89_4, P89_5⟩ := hQ89
     have N89 := Fr.app N86 N89q
     have Zs91 : n0 ≤ T89.heap.size := Nat.le_trans Zs85 K89.1
     refine own_go (b := (T89.setTop (mkF m 124 #[.val (.int p0), .val (.int p1), .val (.int p2), .val (.int p3), .val (.int p4), .val (.ref b1), .val (.int (3 : Int32)), .val (.int (own_m p1)), .val (.int (((own_m p1) + (1 : Int32)) + (own_m p2))), .val (.int (((((own_m p1) + (1 : Int32)) + (own_m p2)) + (1 : Int32)) + (own_m p3)))] [(.ref b1)]))) (fun _ k => XS.aload X89.here hx rfl (hb hby at_122) rfl rfl k) ?_
     have F93 := F87.keep K89
     refine own_virt (W := 0) X89 hx hZ hown rfl (hw _ (List.mem_of_getElem? (i := 33) rfl)) (hw _ (List.mem_of_getElem? (i := 34) rfl)) (hw _ (List.mem_of_getElem? (i := 36) rfl)) (hw _ (List.mem_of_getElem? (i := 35) rfl)) (rmT l Z a0 hw [] b1 T89.heap n0 Zs91 P89_2) (hw _ (List.mem_of_getElem? (i := 37) rfl)) (hw _ (List.mem_of_getElem? (i := 2) rfl)) F93 rfl (by rw [hml]; rfl) rfl (hb hby at_124) (lenOf pd___Z rfl) rfl (by decide) (fun T92 v92 Ll92 X92 hQ92 => ?_)
     obtain ⟨rfl, N92q, eh92⟩ := hQ92
     have N92 := Fr.app N89 N92q
     refine own_go (b := (T92.setTop (mkF m 136 #[.val (.int p0), .val (.int p1), .val (.int p2), .val (.int p3), .val (.int p4), .val (.ref b1), .val (.int (3 : Int32)), .val (.int (own_m p1)), .val (.int (((own_m p1) + (1 : Int32)) + (own_m p2))), .val (.int (((((own_m p1) + (1 : Int32)) + (own_m p2)) + (1 : Int32)) + (own_m p3)))] [(.int (p0 &&& (8 : Int32)))]))) (fun _ k => XS.ifYes X92.here hx rfl (pc0 := 127) (pc' := 132) rfl (hb hby at_127) rfl ((if0 _ _).trans (feq (by decide : ¬ ((1 : Int32) = (0 : Int32)))).2) (by decide) (by decide) (XS.iloadN X92.here hx rfl (hb hby at_132) rfl (XS.bipush X92.here hx rfl (hb hby at_133) (XS.iand X92.here hx rfl (hb hby at_135) rfl k)))) ?_
     by_cases hc136_94 : (p0 &&& (8 : Int32)) = (0 : Int32)
     · skip
       refine own_go (b := (T92.setTop (mkF m 160 #[.val (.int p0), .val (.int p1), .val (.int p2), .val (.int p3), .val (.int p4), .val (.ref b1), .val (.int (3 : Int32)), .val (.int (own_m p1)), .val (.int (((own_m p1) + (1 : Int32)) + (own_m p2))), .val (.int (((((own_m p1) + (1 : Int32)) + (own_m p2)) + (1 : Int32)) + (own_m p3)))] [(.int (1 : Int32))]))) (fun _ k => XS.ifYes X92.here hx rfl (pc0 := 136) (pc' := 159) rfl (hb hby at_136) rfl ((if0 _ _).trans (teq hc136_94).1) (by decide) (by decide) (XS.iconst X92.here hx rfl (hb hby at_159) k)) ?_
       obtain ⟨fs, hr, hrun, hended, hW, hsame⟩ := X92.leave (v := some (.int (1 : Int32))) (fun h => by rw [Bd.returns] at h; cases h)
       exact ⟨_, _, retN X92 hx (t := .boolean) Bd.returns (by simp) (hb hby at_160) hr, hrun, hended, _, _, rfl, (show Qrm0 Z p0 p1 p2 p3 p4 h0 n0 _ T92.heap _ from (by rw [eh92]; exact ⟨rfl, N92⟩)), ⟨_, rfl⟩, hW, hsame.mono (by decide) (by decide)⟩
     · skip
       refine own_go (b := (T92.setTop (mkF m 146 #[.val (.int p0), .val (.int p1), .val (.int p2), .val (.int p3), .val (.int p4), .val (.ref b1), .val (.int (3 : Int32)), .val (.int (own_m p1)), .val (.int (((own_m p1) + (1 : Int32)) + (own_m p2))), .val (.int (((((own_m p1) + (1 : Int32)) + (own_m p2)) + (1 : Int32)) + (own_m p3)))] [(.int (own_n p4)), (.ref b1)]))) (fun _ k => XS.ifNo X92.here hx rfl (hb hby at_136) rfl ((if0 _ _).trans (feq hc136_94).1) (XS.aload X92.here hx rfl (hb hby at_139) rfl rfl (XS.iload X92.here hx rfl (hb hby at_141) rfl (X92.ldcInt hx hown (mvT hZ (hw _ (List.mem_of_getElem? (i := 74) rfl))) (g := (mkF m 143 #[.val (.int p0), .val (.int p1), .val (.int p2), .val (.int p3), .val (.int p4), .val (.ref b1), .val (.int (3 : Int32)), .val (.int (own_m p1)), .val (.int (((own_m p1) + (1 : Int32)) + (own_m p2))), .val (.int (((((own_m p1) + (1 : Int32)) + (own_m p2)) + (1 : Int32)) + (own_m p3)))] [(.int p4), (.ref b1)])) rfl (hb hby at_143) _ (XS.iand X92.here hx rfl (hb hby at_145) rfl k))))) ?_
       have F96 := F90.keep K89
       obtain ⟨cn97, An97, -⟩ := id P3_8
       have nx98 : bf_3 ≠ g_3 := (Ne.symm (ne_arr P3_5 (hw _ (List.mem_of_getElem? (i := 10) rfl)) An97))
       have nx99 : bf_3 ≠ b1 := (Ne.symm (own_ne A1.lt (Nat.le_refl _) P3_4))
       have F100 := P82_5.keep K89 (ninS nx99 (ninS nx98 nin0))
       refine own_virt (W := 0) X92 hx hZ hown eh92 (hw _ (List.mem_of_getElem? (i := 41) rfl)) (hw _ (List.mem_of_getElem? (i := 42) rfl)) (hw _ (List.mem_of_getElem? (i := 44) rfl)) (hw _ (List.mem_of_getElem? (i := 43) rfl)) (rmadd l Z a0 hw [] b1 (own_n p4) (-1 : Int32) (0 : Int32) g_3 bf_3 kf_3 us_82 (0 : Int32) T89.heap n0 Zs91 F93 P89_0 P89_1 P89_2 F96 P89_3 P89_4 F100 P82_6 P89_5 gx4 gx75 gx76 (own_g1 _ (own_nb p4)) (by omega)) (hw _ (List.mem_of_getElem? (i := 45) rfl)) (hw _ (List.mem_of_getElem? (i := 2) rfl)) F93 rfl (by rw [hml]; rfl) rfl (hb hby at_146) (lenOf pd__I_V rfl) rfl (by decide) (fun T95 v95 Ll95 X95 hQ95 => ?_)
       obtain ⟨us_95, dn_95, rfl, N95q, K95, P95_0, P95_1, P95_2, P95_3, P95_4, P95_5, P95_6, P95_7, P95_8⟩ := hQ95
       have N95 := Fr.app N92 N95q
       have Zs101 : n0 ≤ T95.heap.size := Nat.le_trans Zs91 K95.1
       refine own_go (b := (T95.setTop (mkF m 151 #[.val (.int p0), .val (.int p1), .val (.int p2), .val (.int p3), .val (.int p4), .val (.ref b1), .val (.int (3 : Int32)), .val (.int (own_m p1)), .val (.int (((own_m p1) + (1 : Int32)) + (own_m p2))), .val (.int (((((own_m p1) + (1 : Int32)) + (own_m p2)) + (1 : Int32)) + (own_m p3)))] [(.ref b1)]))) (fun _ k => XS.aload X95.here hx rfl (hb hby at_149) rfl rfl k) ?_
       have F103 := F93.keep K95
       refine own_virt (W := 0) X95 hx hZ hown rfl (hw _ (List.mem_of_getElem? (i := 33) rfl)) (hw _ (List.mem_of_getElem? (i := 34) rfl)) (hw _ (List.mem_of_getElem? (i := 36) rfl)) (hw _ (List.mem_of_getElem? (i := 35) rfl)) (rmF l Z a0 hw [] b1 ((0 : Int32) + (1 : Int32)) T95.heap n0 Zs101 P95_2 (by decide)) (hw _ (List.mem_of_getElem? (i := 37) rfl)) (hw _ (List.mem_of_getElem? (i := 2) rfl)) F103 rfl (by rw [hml]; rfl) rfl (hb hby at_151) (lenOf pd___Z rfl) rfl (by decide) (fun T102 v102 Ll102 X102 hQ102 => ?_)
       obtain ⟨rfl, N102q, eh102⟩ := hQ102
       have N102 := Fr.app N95 N102q
       refine own_go (b := (T102.setTop (mkF m 160 #[.val (.int p0), .val (.int p1), .val (.int p2), .val (.int p3), .val (.int p4), .val (.ref b1), .val (.int (3 : Int32)), .val (.int (own_m p1)), .val (.int (((own_m p1) + (1 : Int32)) + (own_m p2))), .val (.int (((((own_m p1) + (1 : Int32)) + (own_m p2)) + (1 : Int32)) + (own_m p3)))] [(.int (1 : Int32))]))) (fun _ k => XS.ifYes X102.here hx rfl (pc0 := 154) (pc' := 159) rfl (hb hby at_154) rfl ((if0 _ _).trans (teq (rfl : (0 : Int32) = (0 : Int32))).1) (by decide) (by decide) (XS.iconst X102.here hx rfl (hb hby at_159) k)) ?_
       obtain ⟨fs, hr, hrun, hended, hW, hsame⟩ := X102.leave (v := some (.int (1 : Int32))) (fun h => by rw [Bd.returns] at h; cases h)
       exact ⟨_, _, retN X102 hx (t := .boolean) Bd.returns (by simp) (hb hby at_160) hr, hrun, hended, _, _, rfl, (show Qrm0 Z p0 p1 p2 p3 p4 h0 n0 _ T102.heap _ from (by rw [eh102]; exact ⟨rfl, N102⟩)), ⟨_, rfl⟩, hW, hsame.mono (by decide) (by decide)⟩
set_option maxRecDepth 65536 in
set_option maxHeartbeats 40000000 in
theorem comes_1 {Post : Tables → Env → Array Value → State → Outcome → State → Prop} (hpost : ∀ tb e args s v u, (limb_1_1.after args s (.returned v) u = true ∧ limb_1_2.after args s (.returned v) u = true ∧ True) → FrameEnd s (.returned v) u (Jvm.fieldLocs frame_1_writes args s ++ Jvm.arrayLocs frame_1_arrays args s ++ Jvm.staticLocs frame_1_statics s) 16 192 → Post tb e args s (.returned v) u) :
    ArmFor flags0 classFile x code maxLocals ret World_1 tables_1 room_1 Calls_1 rest_1 Pre_1 Post := by
  intro l hfl _ _ p e ha hc hk s m args below hf hA hF happ hP
  obtain ⟨hcalls, hrest, hpre⟩ := hP
  obtain ⟨-, -, -, hnamed, -, -, -, hat⟩ := (Spec.applies_iff hf).mp happ
  obtain ⟨hg, hn⟩ := and_e (Cond.before_iff.mp (show (Jvm.Cond.and given_1 narrow_1).before args s = true from hpre))
  obtain ⟨gc0, gr0⟩ := and_e hg
  obtain ⟨gc1, gr1⟩ := and_e gr0
  obtain ⟨gc2, gr2⟩ := and_e gr1
  obtain ⟨gc3, gr3⟩ := and_e gr2
  obtain ⟨gc4, gr4⟩ := and_e gr3
  obtain ⟨w0, w1, w2, w3, w4, rfl⟩ : ∃ w0 w1 w2 w3 w4 : Value, args = #[w0, w1, w2, w3, w4] := by
    have hs : args.size = 5 := by simpa [Cond.value, given_1] using gc0
    obtain ⟨L⟩ := args
    match L, hs with
    | [w0, w1, w2, w3, w4], _ => exact ⟨w0, w1, w2, w3, w4, rfl⟩
  have hw := fun d (hd : d ∈ tables_1) => atoms_spec (ws := Jvm.Cond.code x code maxLocals ret :: tables_1) hat d (List.mem_cons_of_mem _ hd)
  have hfit : Fit s := fun {y c} hc i hi => by
    obtain ⟨ha, rfl⟩ := Array.getElem?_eq_some_iff.mp hc
    have q := List.all_eq_true.mp ((Array.all_eq_true_iff_forall_mem.mp hF) _ (Array.getElem_mem ha)) i (List.mem_range.mpr hi)
    simpa [Array.getElem?_eq_getElem hi] using q
  obtain ⟨i0, ei0⟩ := is_v gc1
  obtain rfl : w0 = (.int i0) := Option.some.inj ei0
  obtain ⟨i1, ei1⟩ := is_v gc2
  obtain rfl : w1 = (.int i1) := Option.some.inj ei1
  obtain ⟨i2, ei2⟩ := is_v gc3
  obtain rfl : w2 = (.int i2) := Option.some.inj ei2
  obtain ⟨i3, ei3⟩ := is_v gc4
  obtain rfl : w3 = (.int i3) := Option.some.inj ei3
  obtain ⟨i4, ei4⟩ := is_v gr4
  obtain rfl : w4 = (.int i4) := Option.some.inj ei4
  obtain ⟨n, o, h1, h2, h3, _, L, rfl, ⟨rfl, N⟩, hq⟩ := rm0 l s _ hw tables_1 i0 i1 i2 i3 i4 s.heap s.heap.size (Nat.le_refl _) p e ha hc hk s m _ below hf ((Spec.applies_iff_loose hf).mp happ).1 ⟨rfl, State.Warmed39.refl s, rfl⟩ trivial
  refine ⟨n, _, h1, h2, h3, hpost _ _ _ _ _ _ ⟨Cond.after_iff.mpr rfl, Cond.after_iff.mpr (eq_i res_at (Term.int_eval (1)) rfl), trivial⟩ ⟨hq.1, hq.2.1, (hq.2.2.sift fun y hy => Or.inr (N y hy)).mono (by decide) (by decide)⟩⟩
theorem main_1_1 : Claimed_1_1 := comes_1 fun _ _ _ _ _ _ h hF => ⟨h.1, hF⟩
theorem main_1_2 : Claimed_1_2 := comes_1 fun _ _ _ _ _ _ h hF => ⟨h.2.1, hF⟩
end Jvm.Pilot.@@N@@
namespace Jvm.Pilot.@@N@@
open Jvm Jvm.ClassFile Sem Op Lib Jvm.Free Jvm.Stand Jvm.Pilot.@@N@@.Jvm.D
/-! MADE BY PROGRAM (witnessworld.py) out of the Statement's table words and the real class files: 15 classes; the members and pool entries that the words name. The judged class is class 1, her method 1. -/
namespace start1
open Jvm.ClassFile
def u (s : String) : CpInfo := .utf8 (stringToUtf16 s)
/-- a pool by its gaps: so many unusable entries, then the entry; so many at the end -/
def gap : Nat → List CpInfo → List CpInfo
  | 0, r => r
  | n + 1, r => .unusable :: gap n r
def poolList (es : List (Nat × CpInfo)) (last : Nat) : List CpInfo := es.foldr (fun e r => gap e.1 (e.2 :: r)) (gap last [])
def pool (es : List (Nat × CpInfo)) (last : Nat) : Array CpInfo := ⟨poolList es last⟩
def fileOf (pool : Array CpInfo) (this : Nat) (attrs : Array Attribute := #[]) (ms : Array MethodInfo := #[]) (fl : Nat := 33) (sup : Nat := 0) (ifs : Array Nat := #[]) (fds : Array FieldInfo := #[]) : ClassFile where
  minorVersion := 0
  majorVersion := 65
  constantPool := pool
  accessFlags := fl
  thisClass := this
  superClass := sup
  interfaces := ifs
  fields := fds
  methods := ms
  attributes := attrs
def plain (name : String) (sup : Option ClassId) : Class where
  name := name
  kind := .ordinary
  loader := none
  accessFlags := 33
  super := sup
  interfaces := #[]
  cf := none
  fields := #[]
  methods := #[]
  instanceTypes := #[]
  staticTypes := #[]
  resolved := #[]
  callSites := []
  init := .initialized
  statics := none
  mirror := none

def pool0 : Array CpInfo := pool [(5, u "<init>"), (0, u "()V"), (1, .class_ 10), (1, u "java/lang/Object")] 113

def k0c0 : Code := { maxStack := 0, maxLocals := 1, code := object_method_1_code, exceptionTable := #[], attributes := #[] }
def k0m0 : Method := { name := "<init>", desc := "()V", sig := { parameters := [], returnType := none }, accessFlags := 1, code := some k0c0 }
/-- java/lang/Object -/
def k0 : Class := { plain "java/lang/Object" none with
  accessFlags := 33
  interfaces := #[]
  cf := some (fileOf pool0 8 #[] #[{ accessFlags := 1, nameIndex := 5, descriptorIndex := 6, attributes := #[] }] 33 0 #[] #[])
  fields := #[]
  methods := #[k0m0]
  instanceTypes := #[]
  staticTypes := #[]
  resolved := Array.replicate 124 none
  statics := none }

def pool1 : Array CpInfo := pool [(2, .class_ 4), (0, .nameAndType 5 6), (0, u "java/lang/Object"), (0, u "<init>"), (0, u "()V"), (0, .class_ 8), (0, u "com/example/urd/urd/documents/Postings$Ascending"), (0, .methodref 7 3), (0, .methodref 7 11), (0, .nameAndType 12 13), (0, u "isEmpty"), (0, u "()Z"), (0, .integer 536870911), (0, .methodref 7 16), (0, .nameAndType 17 18), (0, u "add"), (0, u "(I)V"), (0, .methodref 7 20), (0, .nameAndType 21 6), (0, u "clear"), (0, .integer 2147483647), (0, .class_ 24), (0, u "com/example/urd/urd/documents/AscendingIsEmptyPinLaw"), (2, u "law"), (0, u "(IIIII)Z")] 7

def k1m0 : Method := { name := "<init>", desc := "()V", sig := { parameters := [], returnType := none }, accessFlags := 1, code := none }
def k1c1 : Code := { maxStack := 3, maxLocals := 10, code := code, exceptionTable := #[], attributes := #[] }
def k1m1 : Method := { name := "law", desc := "(IIIII)Z", sig := { parameters := [.int, .int, .int, .int, .int], returnType := some .boolean }, accessFlags := 9, code := some k1c1 }
/-- com/example/urd/urd/documents/AscendingIsEmptyPinLaw -/
def k1 : Class := { plain "com/example/urd/urd/documents/AscendingIsEmptyPinLaw" (some 0) with
  accessFlags := 49
  interfaces := #[]
  cf := some (fileOf pool1 23 #[] #[{ accessFlags := 1, nameIndex := 5, descriptorIndex := 6, attributes := #[] }, { accessFlags := 9, nameIndex := 27, descriptorIndex := 28, attributes := #[] }] 49 2 #[] #[])
  fields := #[]
  methods := #[k1m0, k1m1]
  instanceTypes := #[]
  staticTypes := #[]
  resolved := Array.replicate 36 none
  statics := none }

def pool2 : Array CpInfo := pool [(1, .methodref 2 3), (0, .class_ 4), (0, .nameAndType 5 6), (0, u "java/lang/Object"), (0, u "<init>"), (0, u "()V"), (0, .class_ 8), (0, u "java/io/ByteArrayOutputStream"), (0, .methodref 7 3), (0, .fieldref 11 12), (0, .class_ 13), (0, .nameAndType 14 15), (0, u "com/example/urd/urd/documents/Postings$Ascending"), (0, u "gaps"), (0, u "Ljava/io/ByteArrayOutputStream;"), (0, .fieldref 11 17), (0, .nameAndType 18 19), (0, u "last"), (0, u "I"), (0, .methodref 21 22), (0, .class_ 23), (0, .nameAndType 24 25), (0, u "com/example/urd/urd/documents/Postings"), (0, u "writeNumber"), (0, u "(Ljava/io/ByteArrayOutputStream;J)V"), (0, .fieldref 11 27), (0, .nameAndType 28 19), (0, u "count"), (0, .methodref 7 30), (0, .nameAndType 31 6), (0, u "reset"), (2, u "add"), (0, u "(I)V"), (0, u "isEmpty"), (0, u "()Z"), (1, u "clear")] 5

def k2c0 : Code := { maxStack := 3, maxLocals := 1, code := prog_21_method_1_code, exceptionTable := #[], attributes := #[] }
def k2m0 : Method := { name := "<init>", desc := "()V", sig := { parameters := [], returnType := none }, accessFlags := 0, code := some k2c0 }
def k2c1 : Code := { maxStack := 3, maxLocals := 2, code := prog_21_method_2_code, exceptionTable := #[], attributes := #[] }
def k2m1 : Method := { name := "add", desc := "(I)V", sig := { parameters := [.int], returnType := none }, accessFlags := 0, code := some k2c1 }
def k2c2 : Code := { maxStack := 1, maxLocals := 1, code := prog_21_method_3_code, exceptionTable := #[], attributes := #[] }
def k2m2 : Method := { name := "isEmpty", desc := "()Z", sig := { parameters := [], returnType := some .boolean }, accessFlags := 0, code := some k2c2 }
def k2c3 : Code := { maxStack := 2, maxLocals := 1, code := prog_21_method_4_code, exceptionTable := #[], attributes := #[] }
def k2m3 : Method := { name := "clear", desc := "()V", sig := { parameters := [], returnType := none }, accessFlags := 0, code := some k2c3 }
/-- com/example/urd/urd/documents/Postings$Ascending -/
def k2 : Class := { plain "com/example/urd/urd/documents/Postings$Ascending" (some 0) with
  accessFlags := 48
  interfaces := #[]
  cf := some (fileOf pool2 11 #[.nestHost 21] #[{ accessFlags := 0, nameIndex := 5, descriptorIndex := 6, attributes := #[] }, { accessFlags := 0, nameIndex := 34, descriptorIndex := 35, attributes := #[] }, { accessFlags := 0, nameIndex := 36, descriptorIndex := 37, attributes := #[] }, { accessFlags := 0, nameIndex := 39, descriptorIndex := 6, attributes := #[] }] 48 2 #[] #[{ accessFlags := 18, nameIndex := 14, descriptorIndex := 15, attributes := #[] }, { accessFlags := 2, nameIndex := 28, descriptorIndex := 19, attributes := #[] }, { accessFlags := 2, nameIndex := 18, descriptorIndex := 19, attributes := #[] }])
  fields := #[{ name := "gaps", type := (.object "java/io/ByteArrayOutputStream"), accessFlags := 18, slot := 0, constantValue := 0 }, { name := "count", type := .int, accessFlags := 2, slot := 1, constantValue := 0 }, { name := "last", type := .int, accessFlags := 2, slot := 2, constantValue := 0 }]
  methods := #[k2m0, k2m1, k2m2, k2m3]
  instanceTypes := #[(.object "java/io/ByteArrayOutputStream"), .int, .int]
  staticTypes := #[]
  resolved := Array.replicate 45 none
  statics := none }

def pool3 : Array CpInfo := pool [(1, .class_ 2), (0, u "java/lang/AutoCloseable"), (0, .class_ 4), (0, u "java/lang/Object")] 7

/-- java/lang/AutoCloseable -/
def k3 : Class := { plain "java/lang/AutoCloseable" (some 0) with
  accessFlags := 1537
  interfaces := #[]
  cf := some (fileOf pool3 1 #[] #[] 1537 3 #[] #[])
  fields := #[]
  methods := #[]
  instanceTypes := #[]
  staticTypes := #[]
  resolved := Array.replicate 12 none
  statics := none }

def pool4 : Array CpInfo := pool [(1, .class_ 2), (0, u "java/io/Closeable"), (0, .class_ 4), (0, u "java/lang/Object"), (0, .class_ 6), (0, u "java/lang/AutoCloseable")] 7

/-- java/io/Closeable -/
def k4 : Class := { plain "java/io/Closeable" (some 0) with
  accessFlags := 1537
  interfaces := #[3]
  cf := some (fileOf pool4 1 #[] #[] 1537 3 #[5] #[])
  fields := #[]
  methods := #[]
  instanceTypes := #[]
  staticTypes := #[]
  resolved := Array.replicate 14 none
  statics := none }

def pool5 : Array CpInfo := pool [(1, .class_ 2), (0, u "java/io/Flushable"), (0, .class_ 4), (0, u "java/lang/Object")] 7

/-- java/io/Flushable -/
def k5 : Class := { plain "java/io/Flushable" (some 0) with
  accessFlags := 1537
  interfaces := #[]
  cf := some (fileOf pool5 1 #[] #[] 1537 3 #[] #[])
  fields := #[]
  methods := #[]
  instanceTypes := #[]
  staticTypes := #[]
  resolved := Array.replicate 12 none
  statics := none }

def pool6 : Array CpInfo := pool [(1, .methodref 2 3), (0, .class_ 4), (0, .nameAndType 5 6), (0, u "java/lang/Object"), (0, u "<init>"), (0, u "()V"), (0, .class_ 8), (0, u "java/io/OutputStream$1"), (2, .class_ 13), (1, u "java/io/OutputStream"), (11, .class_ 26), (0, u "java/io/Closeable"), (0, .class_ 28), (0, u "java/io/Flushable")] 24

def k6c0 : Code := { maxStack := 1, maxLocals := 1, code := jdk_2038_method_1_code, exceptionTable := #[], attributes := #[] }
def k6m0 : Method := { name := "<init>", desc := "()V", sig := { parameters := [], returnType := none }, accessFlags := 1, code := some k6c0 }
/-- java/io/OutputStream -/
def k6 : Class := { plain "java/io/OutputStream" (some 0) with
  accessFlags := 1057
  interfaces := #[4, 5]
  cf := some (fileOf pool6 11 #[.nestMembers #[7]] #[{ accessFlags := 1, nameIndex := 5, descriptorIndex := 6, attributes := #[] }] 1057 2 #[25, 27] #[])
  fields := #[]
  methods := #[k6m0]
  instanceTypes := #[]
  staticTypes := #[]
  resolved := Array.replicate 53 none
  statics := none }

def pool7 : Array CpInfo := pool [(1, .methodref 2 3), (0, .class_ 4), (0, .nameAndType 5 6), (0, u "java/io/ByteArrayOutputStream"), (0, u "<init>"), (0, u "(I)V"), (0, .methodref 8 9), (0, .class_ 10), (0, .nameAndType 5 11), (0, u "java/io/OutputStream"), (0, u "()V"), (21, .fieldref 2 34), (0, .nameAndType 35 36), (0, u "buf"), (0, u "[B"), (12, .fieldref 2 50), (0, .nameAndType 51 52), (0, u "count"), (0, u "I"), (0, .methodref 2 54), (0, .nameAndType 55 6), (0, u "ensureCapacity"), (13, u "write"), (55, u "reset")] 19

def k7c0 : Code := { maxStack := 2, maxLocals := 1, code := jdk_2005_method_1_code, exceptionTable := #[], attributes := #[] }
def k7m0 : Method := { name := "<init>", desc := "()V", sig := { parameters := [], returnType := none }, accessFlags := 1, code := some k7c0 }
def k7c1 : Code := { maxStack := 4, maxLocals := 2, code := jdk_2005_method_2_code, exceptionTable := #[], attributes := #[] }
def k7m1 : Method := { name := "<init>", desc := "(I)V", sig := { parameters := [.int], returnType := none }, accessFlags := 1, code := some k7c1 }
def k7c2 : Code := { maxStack := 5, maxLocals := 4, code := jdk_2005_method_3_code, exceptionTable := #[], attributes := #[] }
def k7m2 : Method := { name := "ensureCapacity", desc := "(I)V", sig := { parameters := [.int], returnType := none }, accessFlags := 2, code := some k7c2 }
def k7c3 : Code := { maxStack := 3, maxLocals := 2, code := ⟨#[0x2a, 0x2a, 0xb4, 0x00, 0x31, 0x04, 0x60, 0xb6, 0x00, 0x35, 0x2a, 0xb4, 0x00, 0x21, 0x2a, 0xb4, 0x00, 0x31, 0x1b, 0x91, 0x54, 0x2a, 0x59, 0xb4, 0x00, 0x31, 0x04, 0x60, 0xb5, 0x00, 0x31, 0xb1]⟩, exceptionTable := #[], attributes := #[] }
def k7m3 : Method := { name := "write", desc := "(I)V", sig := { parameters := [.int], returnType := none }, accessFlags := 33, code := some k7c3 }
def k7c4 : Code := { maxStack := 2, maxLocals := 1, code := ⟨#[0x2a, 0x03, 0xb5, 0x00, 0x31, 0xb1]⟩, exceptionTable := #[], attributes := #[] }
def k7m4 : Method := { name := "reset", desc := "()V", sig := { parameters := [], returnType := none }, accessFlags := 33, code := some k7c4 }
/-- java/io/ByteArrayOutputStream -/
def k7 : Class := { plain "java/io/ByteArrayOutputStream" (some 6) with
  accessFlags := 33
  interfaces := #[]
  cf := some (fileOf pool7 2 #[] #[{ accessFlags := 1, nameIndex := 5, descriptorIndex := 11, attributes := #[] }, { accessFlags := 1, nameIndex := 5, descriptorIndex := 6, attributes := #[] }, { accessFlags := 2, nameIndex := 55, descriptorIndex := 6, attributes := #[] }, { accessFlags := 33, nameIndex := 69, descriptorIndex := 6, attributes := #[] }, { accessFlags := 33, nameIndex := 125, descriptorIndex := 11, attributes := #[] }] 33 8 #[] #[{ accessFlags := 4, nameIndex := 35, descriptorIndex := 36, attributes := #[] }, { accessFlags := 4, nameIndex := 51, descriptorIndex := 52, attributes := #[] }])
  fields := #[{ name := "buf", type := (.array .byte), accessFlags := 4, slot := 0, constantValue := 0 }, { name := "count", type := .int, accessFlags := 4, slot := 1, constantValue := 0 }]
  methods := #[k7m0, k7m1, k7m2, k7m3, k7m4]
  instanceTypes := #[(.array .byte), .int]
  staticTypes := #[]
  resolved := Array.replicate 145 none
  statics := none }

def pool8 : Array CpInfo := pool [(4, .class_ 6), (1, u "java/lang/Object"), (0, u "<init>"), (0, u "()V"), (0, .long 18446744073709551488), (1, .long 127), (1, .methodref 14 15), (0, .class_ 16), (0, .nameAndType 17 18), (0, u "java/io/ByteArrayOutputStream"), (0, u "write"), (0, u "(I)V"), (3, .class_ 24), (1, u "com/example/urd/urd/documents/Postings"), (16, .class_ 43), (1, u "com/example/urd/urd/documents/Postings$Ascending"), (1, u "I"), (8, u "writeNumber"), (0, u "(Ljava/io/ByteArrayOutputStream;J)V"), (100, u "GAPS"), (0, u "B"), (2, u "BITS"), (1, u "CHECKSUM"), (1, u "OUT_OF_RANGE"), (0, u "Ljava/lang/String;")] 19

def k8m0 : Method := { name := "<init>", desc := "()V", sig := { parameters := [], returnType := none }, accessFlags := 2, code := none }
def k8c1 : Code := { maxStack := 5, maxLocals := 5, code := prog_20_method_2_code, exceptionTable := #[], attributes := #[] }
def k8m1 : Method := { name := "writeNumber", desc := "(Ljava/io/ByteArrayOutputStream;J)V", sig := { parameters := [(.object "java/io/ByteArrayOutputStream"), .long], returnType := none }, accessFlags := 8, code := some k8c1 }
/-- com/example/urd/urd/documents/Postings -/
def k8 : Class := { plain "com/example/urd/urd/documents/Postings" (some 0) with
  accessFlags := 48
  interfaces := #[]
  cf := some (fileOf pool8 22 #[.nestMembers #[41]] #[{ accessFlags := 2, nameIndex := 7, descriptorIndex := 8, attributes := #[] }, { accessFlags := 8, nameIndex := 54, descriptorIndex := 55, attributes := #[] }] 48 4 #[] #[{ accessFlags := 26, nameIndex := 156, descriptorIndex := 157, attributes := #[] }, { accessFlags := 26, nameIndex := 160, descriptorIndex := 157, attributes := #[] }, { accessFlags := 24, nameIndex := 162, descriptorIndex := 45, attributes := #[] }, { accessFlags := 26, nameIndex := 164, descriptorIndex := 165, attributes := #[] }])
  fields := #[{ name := "GAPS", type := .byte, accessFlags := 26, slot := 0, constantValue := 0 }, { name := "BITS", type := .byte, accessFlags := 26, slot := 1, constantValue := 0 }, { name := "CHECKSUM", type := .int, accessFlags := 24, slot := 2, constantValue := 0 }, { name := "OUT_OF_RANGE", type := (.object "java/lang/String"), accessFlags := 26, slot := 3, constantValue := 0 }]
  methods := #[k8m0, k8m1]
  instanceTypes := #[]
  staticTypes := #[.byte, .byte, .int, (.object "java/lang/String")]
  resolved := Array.replicate 185 none
  statics := none }

def pool9 : Array CpInfo := pool [(1, u "java/lang/Cloneable"), (0, .class_ 1), (0, u "java/lang/Object"), (0, .class_ 3)] 3

/-- java/lang/Cloneable -/
def k9 : Class := { plain "java/lang/Cloneable" (some 0) with
  accessFlags := 1537
  interfaces := #[]
  cf := some (fileOf pool9 2 #[] #[] 1537 4 #[] #[])
  fields := #[]
  methods := #[]
  instanceTypes := #[]
  staticTypes := #[]
  resolved := Array.replicate 8 none
  statics := none }

def pool10 : Array CpInfo := pool [(1, u "java/io/Serializable"), (0, .class_ 1), (0, u "java/lang/Object"), (0, .class_ 3)] 3

/-- java/io/Serializable -/
def k10 : Class := { plain "java/io/Serializable" (some 0) with
  accessFlags := 1537
  interfaces := #[]
  cf := some (fileOf pool10 2 #[] #[] 1537 4 #[] #[])
  fields := #[]
  methods := #[]
  instanceTypes := #[]
  staticTypes := #[]
  resolved := Array.replicate 8 none
  statics := none }

/-- the primitive byte -/
def k11 : Class := { plain "byte" none with kind := .primitive 'B', accessFlags := 0x411 }
/-- [B -/
def k12 : Class := { plain "[B" (some 0) with kind := .array 11 .byte, interfaces := #[9, 10], accessFlags := 1041 }

/-- the primitive int -/
def k13 : Class := { plain "int" none with kind := .primitive 'I', accessFlags := 0x411 }
/-- [I -/
def k14 : Class := { plain "[I" (some 0) with kind := .array 13 .int, interfaces := #[9, 10], accessFlags := 1041 }

def heap : Heap := #[]
def classes : Array Class := #[k0, k1, k2, k3, k4, k5, k6, k7, k8, k9, k10, k11, k12, k13, k14]
def interned : List (Array UInt16 × Addr) := []
def slotsUsed : Nat := 0
def theMethod : MethodId := ⟨1, 1⟩
def args0 : Array Value := #[.int 15, .int 5, .int 6, .int 7, .int 8]
def aboutOver (below : List Frame) : State where
  vm := { classes := classes, interned := interned.toArray }
  heap := heap
  slotsUsed := slotsUsed
  threads := #[{ frames := .invoking theMethod args0 :: below }]
def below0 : List Frame := [.native { method := ⟨0, 0⟩, args := #[] }]
def about1 : State := aboutOver below0
def p0 : Program := .bare "" "" ""
def e0 : Env := launch0.env 0 0 0
theorem w_frames : about1.frames = Frame.invoking theMethod args0 :: below0 := rfl
set_option maxRecDepth 65536 in
theorem w_args : argsFit about1.vm theMethod args0 = true := by decide +kernel
set_option maxRecDepth 65536 in
theorem w_heap : heapFits about1 = true := by decide +kernel
set_option maxRecDepth 65536 in
theorem w_runnable : about1.curStatus? = some .runnable := by decide +kernel
set_option maxRecDepth 65536 in
theorem w_alone : about1.alone = true := by decide +kernel
set_option maxRecDepth 65536 in
theorem w_named : about1.methodNamed? x = some theMethod := by decide +kernel
set_option maxRecDepth 65536 in
theorem w_hears : about1.hears theMethod below0 = true := by decide +kernel
set_option maxRecDepth 65536 in
theorem w_ripe : about1.ripe theMethod args0 below0 = true := by decide +kernel
theorem w_running : about1.status = .running := rfl
set_option maxRecDepth 65536 in
theorem w_room : about1.hasRoom e0.platform room_1 = true :=
  launch0.hasRoom_least _ room_1 (by decide +kernel) (by decide +kernel) (by decide +kernel) (by decide +kernel) (by decide +kernel) (by decide +kernel)
theorem allAtoms_all (ts : List Jvm.Cond) (a : Array Jvm.Value) (st : Jvm.State) : (allAtoms ts).before a st = ts.all (fun c => c.before a st) := by
  induction ts with
  | nil => rfl
  | cons c t ih =>
    show (Jvm.Cond.and c (allAtoms t)).before a st = _
    rw [Jvm.Cond.before_and, ih, List.all_cons]
def words1 : List Jvm.Cond := Jvm.Cond.code x code maxLocals ret :: tables_1
/-- a 'code' word, met by the world's own term for the bytes: nothing is compared byte by byte -/
theorem code_word {y : MethodName} {bytes : ByteArray} {mx : Nat} {rt : Option FieldType} {a : Array Value} {s : State} {m : MethodId} {meth : Method} {c : Code} (h1 : s.methodNamed? y = some m) (h2 : s.vm.method? m = some meth) (h3 : meth.code = some c) (h4 : c.code = bytes)
    (h5 : (c.maxLocals == mx && c.exceptionTable.isEmpty && decide (c.maxStack ≤ mostOperands) && decide (meth.sig.returnType = rt) && !meth.locks && decide (parseMethodDescriptor y.desc = some meth.sig)) = true) : (Jvm.Cond.code y bytes mx rt).before a s = true := by
  simp only [Bool.and_eq_true, beq_iff_eq, Bool.not_eq_true', decide_eq_true_eq] at h5
  obtain ⟨⟨⟨⟨⟨g1, g2⟩, g3⟩, g4⟩, g5⟩, g6⟩ := h5
  simp [Cond.before, Cond.holds, Cond.value, h1, h2, h3, h4, g1, g2, g3, g4, g5, g6]
def isCode : Jvm.Cond → Bool
  | .code _ _ _ _ => true
  | _ => false
theorem all_split {L : List Jvm.Cond} {P : Jvm.Cond → Bool} (h1 : L.all (fun c => isCode c || P c) = true) (h2 : ∀ c ∈ L.filter isCode, P c = true) : L.all P = true := by
  refine List.all_eq_true.mpr fun c hc => ?_
  have h := List.all_eq_true.mp h1 c hc
  rcases Bool.eq_false_or_eq_true (isCode c) with hi | hi
  · exact h2 c (List.mem_filter.mpr ⟨hc, hi⟩)
  · simpa [hi] using h
set_option maxRecDepth 65536 in
theorem w_c0 : (Jvm.Cond.code x code maxLocals ret).before args0 about1 = true := code_word (m := ⟨1, 1⟩) (meth := k1m1) (c := k1c1) (by decide +kernel) rfl rfl rfl (by decide +kernel)
set_option maxRecDepth 65536 in
theorem w_c1 : (Jvm.Cond.code ({ cls := "com/example/urd/urd/documents/Postings$Ascending", name := "<init>", desc := "()V" } : Jvm.MethodName) prog_21_method_1_code (1 : Nat) (Option.none : Option Jvm.ClassFile.FieldType)).before args0 about1 = true := code_word (m := ⟨2, 0⟩) (meth := k2m0) (c := k2c0) (by decide +kernel) rfl rfl rfl (by decide +kernel)
set_option maxRecDepth 65536 in
theorem w_c2 : (Jvm.Cond.code ({ cls := "java/lang/Object", name := "<init>", desc := "()V" } : Jvm.MethodName) object_method_1_code (1 : Nat) (Option.none : Option Jvm.ClassFile.FieldType)).before args0 about1 = true := code_word (m := ⟨0, 0⟩) (meth := k0m0) (c := k0c0) (by decide +kernel) rfl rfl rfl (by decide +kernel)
set_option maxRecDepth 65536 in
theorem w_c3 : (Jvm.Cond.code ({ cls := "java/io/ByteArrayOutputStream", name := "<init>", desc := "()V" } : Jvm.MethodName) jdk_2005_method_1_code (1 : Nat) (Option.none : Option Jvm.ClassFile.FieldType)).before args0 about1 = true := code_word (m := ⟨7, 0⟩) (meth := k7m0) (c := k7c0) (by decide +kernel) rfl rfl rfl (by decide +kernel)
set_option maxRecDepth 65536 in
theorem w_c4 : (Jvm.Cond.code ({ cls := "java/io/ByteArrayOutputStream", name := "<init>", desc := "(I)V" } : Jvm.MethodName) jdk_2005_method_2_code (2 : Nat) (Option.none : Option Jvm.ClassFile.FieldType)).before args0 about1 = true := code_word (m := ⟨7, 1⟩) (meth := k7m1) (c := k7c1) (by decide +kernel) rfl rfl rfl (by decide +kernel)
set_option maxRecDepth 65536 in
theorem w_c5 : (Jvm.Cond.code ({ cls := "java/io/OutputStream", name := "<init>", desc := "()V" } : Jvm.MethodName) jdk_2038_method_1_code (1 : Nat) (Option.none : Option Jvm.ClassFile.FieldType)).before args0 about1 = true := code_word (m := ⟨6, 0⟩) (meth := k6m0) (c := k6c0) (by decide +kernel) rfl rfl rfl (by decide +kernel)
set_option maxRecDepth 65536 in
theorem w_c6 : (Jvm.Cond.code ({ cls := "com/example/urd/urd/documents/Postings$Ascending", name := "isEmpty", desc := "()Z" } : Jvm.MethodName) prog_21_method_3_code (1 : Nat) (Option.some Jvm.ClassFile.FieldType.boolean)).before args0 about1 = true := code_word (m := ⟨2, 2⟩) (meth := k2m2) (c := k2c2) (by decide +kernel) rfl rfl rfl (by decide +kernel)
set_option maxRecDepth 65536 in
theorem w_c7 : (Jvm.Cond.code ({ cls := "com/example/urd/urd/documents/Postings$Ascending", name := "add", desc := "(I)V" } : Jvm.MethodName) prog_21_method_2_code (2 : Nat) (Option.none : Option Jvm.ClassFile.FieldType)).before args0 about1 = true := code_word (m := ⟨2, 1⟩) (meth := k2m1) (c := k2c1) (by decide +kernel) rfl rfl rfl (by decide +kernel)
set_option maxRecDepth 65536 in
theorem w_c8 : (Jvm.Cond.code ({ cls := "com/example/urd/urd/documents/Postings", name := "writeNumber", desc := "(Ljava/io/ByteArrayOutputStream;J)V" } : Jvm.MethodName) prog_20_method_2_code (5 : Nat) (Option.none : Option Jvm.ClassFile.FieldType)).before args0 about1 = true := code_word (m := ⟨8, 1⟩) (meth := k8m1) (c := k8c1) (by decide +kernel) rfl rfl rfl (by decide +kernel)
set_option maxRecDepth 65536 in
theorem w_c9 : (Jvm.Cond.code ({ cls := "java/io/ByteArrayOutputStream", name := "ensureCapacity", desc := "(I)V" } : Jvm.MethodName) jdk_2005_method_3_code (4 : Nat) (Option.none : Option Jvm.ClassFile.FieldType)).before args0 about1 = true := code_word (m := ⟨7, 2⟩) (meth := k7m2) (c := k7c2) (by decide +kernel) rfl rfl rfl (by decide +kernel)
set_option maxRecDepth 65536 in
theorem w_c10 : (Jvm.Cond.code ({ cls := "com/example/urd/urd/documents/Postings$Ascending", name := "clear", desc := "()V" } : Jvm.MethodName) prog_21_method_4_code (1 : Nat) (Option.none : Option Jvm.ClassFile.FieldType)).before args0 about1 = true := code_word (m := ⟨2, 3⟩) (meth := k2m3) (c := k2c3) (by decide +kernel) rfl rfl rfl (by decide +kernel)
def codes1 : List Jvm.Cond := [Jvm.Cond.code x code maxLocals ret, Jvm.Cond.code ({ cls := "com/example/urd/urd/documents/Postings$Ascending", name := "<init>", desc := "()V" } : Jvm.MethodName) prog_21_method_1_code (1 : Nat) (Option.none : Option Jvm.ClassFile.FieldType), Jvm.Cond.code ({ cls := "java/lang/Object", name := "<init>", desc := "()V" } : Jvm.MethodName) object_method_1_code (1 : Nat) (Option.none : Option Jvm.ClassFile.FieldType), Jvm.Cond.code ({ cls := "java/io/ByteArrayOutputStream", name := "<init>", desc := "()V" } : Jvm.MethodName) jdk_2005_method_1_code (1 : Nat) (Option.none : Option Jvm.ClassFile.FieldType), Jvm.Cond.code ({ cls := "java/io/ByteArrayOutputStream", name := "<init>", desc := "(I)V" } : Jvm.MethodName) jdk_2005_method_2_code (2 : Nat) (Option.none : Option Jvm.ClassFile.FieldType), Jvm.Cond.code ({ cls := "java/io/OutputStream", name := "<init>", desc := "()V" } : Jvm.MethodName) jdk_2038_method_1_code (1 : Nat) (Option.none : Option Jvm.ClassFile.FieldType), Jvm.Cond.code ({ cls := "com/example/urd/urd/documents/Postings$Ascending", name := "isEmpty", desc := "()Z" } : Jvm.MethodName) prog_21_method_3_code (1 : Nat) (Option.some Jvm.ClassFile.FieldType.boolean), Jvm.Cond.code ({ cls := "com/example/urd/urd/documents/Postings$Ascending", name := "add", desc := "(I)V" } : Jvm.MethodName) prog_21_method_2_code (2 : Nat) (Option.none : Option Jvm.ClassFile.FieldType), Jvm.Cond.code ({ cls := "com/example/urd/urd/documents/Postings", name := "writeNumber", desc := "(Ljava/io/ByteArrayOutputStream;J)V" } : Jvm.MethodName) prog_20_method_2_code (5 : Nat) (Option.none : Option Jvm.ClassFile.FieldType), Jvm.Cond.code ({ cls := "java/io/ByteArrayOutputStream", name := "ensureCapacity", desc := "(I)V" } : Jvm.MethodName) jdk_2005_method_3_code (4 : Nat) (Option.none : Option Jvm.ClassFile.FieldType), Jvm.Cond.code ({ cls := "com/example/urd/urd/documents/Postings$Ascending", name := "clear", desc := "()V" } : Jvm.MethodName) prog_21_method_4_code (1 : Nat) (Option.none : Option Jvm.ClassFile.FieldType)]
set_option maxRecDepth 65536 in
theorem codes_eq : words1.filter isCode = codes1 := rfl
theorem w_codes : ∀ c ∈ words1.filter isCode, c.before args0 about1 = true := by
  rw [codes_eq]
  intro c hc
  simp only [codes1, List.mem_cons, List.not_mem_nil, or_false] at hc
  rcases hc with rfl | rfl | rfl | rfl | rfl | rfl | rfl | rfl | rfl | rfl | rfl
  · exact w_c0
  · exact w_c1
  · exact w_c2
  · exact w_c3
  · exact w_c4
  · exact w_c5
  · exact w_c6
  · exact w_c7
  · exact w_c8
  · exact w_c9
  · exact w_c10
set_option maxRecDepth 65536 in
theorem w_t1 : (words1.take 24).all (fun c => isCode c || c.before args0 about1) = true := by decide +kernel
set_option maxRecDepth 65536 in
theorem w_t2 : ((words1.drop 24).take 24).all (fun c => isCode c || c.before args0 about1) = true := by decide +kernel
set_option maxRecDepth 65536 in
theorem w_t3 : (((words1.drop 24).drop 24).take 24).all (fun c => isCode c || c.before args0 about1) = true := by decide +kernel
set_option maxRecDepth 65536 in
theorem w_t4 : (((words1.drop 24).drop 24).drop 24).all (fun c => isCode c || c.before args0 about1) = true := by decide +kernel
theorem w_tables : (allAtoms (Jvm.Cond.code x code maxLocals ret :: tables_1)).before args0 about1 = true := by
  rw [allAtoms_all]
  show words1.all (fun c => c.before args0 about1) = true
  refine all_split ?_ w_codes
  rw [← List.take_append_drop 24 words1, List.all_append, w_t1, ← List.take_append_drop 24 (words1.drop 24), List.all_append, w_t2, ← List.take_append_drop 24 ((words1.drop 24).drop 24), List.all_append, w_t3, w_t4]
  rfl
set_option maxRecDepth 65536 in
theorem w_case : (Jvm.Cond.and given_1 narrow_1).before args0 about1 = true := by decide +kernel
theorem w_applies : (headSpec (Jvm.Cond.code x code maxLocals ret :: tables_1) room_1).applies x e0.platform about1 = true :=
  (Spec.applies_iff w_frames).mpr ⟨w_running, w_runnable, w_alone, w_named, w_hears, w_ripe, w_room, w_tables⟩
theorem atStart : AtStart classFile x code maxLocals ret World_1 tables_1 room_1 Calls_1 rest_1 Pre_1 launch0 p0 e0 about1 theMethod args0 below0 :=
  ⟨lists_1, trivial, launch0.admits_env _ _ _, launch0.least_env, fairChoices_fair.cas, fairChoices_fair.clock, w_frames, w_args, w_heap, w_applies, trivial, trivial, w_case⟩
end start1
theorem witness_1 : WitnessClaimed_1 := ⟨start1.p0, start1.e0, start1.about1, start1.theMethod, start1.args0, start1.below0, start1.atStart⟩
end Jvm.Pilot.@@N@@
