import JvmDerived
import JvmDerived.Pilot.@@N@@Statement
import JvmDerived.Pilot.@@N@@Code
set_option linter.unusedVariables false
set_option linter.unusedSimpArgs false
@@BLOCK:NumsL.lean.txt@@
namespace Jvm.RoadKit
open Sem ClassFile Op Lib Jvm.Stand Jvm.Free Jvm.LawKit
/-- a step taken in front of a run that ends well -/
theorem own_go {tb : Tables} {e : Env} {below : List Frame} {a b : State} {P : State → Outcome → Prop} (h : ∀ target, Steps tb e below b target → Steps tb e below a target) (k : ∃ t o, Steps tb e below b t ∧ P t o) : ∃ t o, Steps tb e below a t ∧ P t o := by
  obtain ⟨t, o, h1, h2⟩ := k
  exact ⟨t, o, h _ h1, h2⟩
theorem own_ne {a n m b : Nat} (h1 : a < n) (h2 : n ≤ m) (h3 : m ≤ b) : a ≠ b := Nat.ne_of_lt (Nat.lt_of_lt_of_le h1 (Nat.le_trans h2 h3))
theorem own_tr {a b c : Nat} (h1 : a ≤ b) (h2 : b ≤ c) : a ≤ c := Nat.le_trans h1 h2
/-- a word of the tables by its place -/
theorem ow {ws : List Jvm.Cond} {a0 : Array Value} {Z : State} (hw : ∀ d ∈ ws, d.before a0 Z = true) (i : Nat) {d : Jvm.Cond} (h : ws[i]? = some d) : d.before a0 Z = true := hw d (List.mem_of_getElem? h)
/-- several roads meet -/
theorem own_join {A : Type} {C : A → Prop} {tb : Tables} {e : Env} {below : List Frame} {P : State → Outcome → Prop} {f : A → State} {a : State} (body : ∀ x, C x → ∃ t o, Steps tb e below (f x) t ∧ P t o)
    (use : (∀ x, C x → ∃ t o, Steps tb e below (f x) t ∧ P t o) → ∃ t o, Steps tb e below a t ∧ P t o) : ∃ t o, Steps tb e below a t ∧ P t o := use body
/-- a private method is its own selection -/
theorem own_selp {args : Array Value} {s : State} {y : MethodName} {n : Nat} (wi : (Cond.instantiable y.cls n).before args s = true) (wp : (Cond.privateMethod y).before args s = true) (wm : (Cond.instanceMethod y).before args s = true) (ny : y.cls ≠ "java/lang/invoke/MethodHandle" ∧ y.cls ≠ "java/lang/invoke/VarHandle") :
    (Cond.selects y.cls y y).before args s = true := by
  obtain ⟨c, k, h1, h2, -, h4, -⟩ := Cond.instantiable_spec wi
  obtain ⟨m, meth, g1, g2, -⟩ := Cond.instanceMethod_spec wm
  have hp := Cond.privateMethod_at wp m meth g1 g2
  have hc : m.cls = c := by
    have := findClass_of_methodNamed g1
    rw [h1] at this; exact (Option.some.inj this).symm
  have hi : k.isInterface = false := by simp at h4; exact h4.1
  have hf : s.methodFound? y.cls y.name y.desc = some m := State.methodFound?_of_named g1 ny
  simp [Cond.before, Cond.holds, Cond.value, h1, hf, g1, selectMethod_private g2 hp, hc, h2, hi]
section OwnCalls
variable {p : Program} {l : Launch} {e : Env} {R : Room} {s : State} {m : MethodId} {args : Array Value} {below : List Frame} {meth : Method} {c : Code} {T : State} {locs : List Loc} {cells slots : Nat} {Z : State} {a0 : Array Value} {h : Heap} {P : State → Outcome → Prop}
  {own C : String} {index W : Nat} {y z : MethodName} {bytes : ByteArray} {maxL : Nat} {ret : Option FieldType} {rm : Room} {Q : Option Value → Heap → List Loc → Prop} {b : Addr} {g : JFrame} {argsL rest : List Value}
/-- a static call by its contract, taken in front of a run that ends well -/
theorem own_stat (X : Stand p l e R s m args below meth c T locs cells slots) (hx : p.tables.exec = Jvm.exec) (hZ : Z.Warmed39 s.vm) (hown : s.vm.findClass own = some m.cls) (E : T.heap = h)
    (w1 : (Cond.methodLink own index y).before a0 Z = true) (w2 : (Cond.static y).before a0 Z = true)
    (hM : MetFree l y (head1 [Cond.code y bytes maxL ret] rm) (fun a U => a = argsL.toArray ∧ Z.Warmed39 U.vm ∧ U.heap = h) (fun _ _ _ _ _ => True) (fun _ U o U' => ∃ v L, o = .returned v ∧ Q v U'.heap L ∧ FrameEnd U o U' L rm.cells rm.slots))
    (wc : (Cond.code y bytes maxL ret).before a0 Z = true) (wz : (Cond.initialized y.cls).before a0 Z = true)
    (hg : g.method = m) (hsize : g.locals.size = c.maxLocals) (hs : g.stack = argsL.reverse ++ rest) (hd : decode c.code g.pc = .ok (.invokestatic index, 3))
    (hlen : ∀ sig, parseMethodDescriptor y.desc = some sig → argsL.length = sig.parameters.length) (hW : 2 * g.monitorRoom + (rest.map fun v => v.category).sum = W)
    (hnum : (y.cls ≠ "java/lang/invoke/MethodHandle" ∧ y.cls ≠ "java/lang/invoke/VarHandle") ∧ rm.frames + 1 ≤ R.frames ∧ W + (maxL + 11) + rm.locals ≤ R.locals ∧ cells + rm.cells ≤ R.cells ∧ slots + rm.slots ≤ R.slots)
    (K : ∀ (T' : State) (v : Option Value) (L : List Loc), Stand p l e R s m args below meth c T' (locs ++ L) (cells + rm.cells) (slots + rm.slots) → Q v T'.heap L → ∃ t o, Steps p.tables e below (T'.setTop { g with pc := g.pc + 3, stack := v.toList ++ rest }) t ∧ P t o) :
    ∃ t o, Steps p.tables e below (T.setTop g) t ∧ P t o := by
  obtain ⟨hy, hf, hl, hc, hsl⟩ := hnum
  obtain ⟨v, _, ⟨T', L, kz, nz⟩, -, X', ⟨Lc, hQ, l1, y1, z1⟩, st⟩ := Jvm.LawKit.callS X hx (y := y) hown (mvT hZ w1) (mvT hZ w2) (mvT hZ wz) (mvT hZ wc) hy (backOf (W := W) hM hZ wc wz hf hl) (g := g) hg hsize (argsL := argsL) (rest := rest) hlen hs (Nat.le_of_eq hW) hd (fun _ _ => ⟨rfl, E, hc, hsl⟩)
  dsimp only [Pt.U, Pt.locs, Pt.cells, Pt.slots] at X' l1 y1 z1 st hQ
  subst l1 y1 z1
  obtain ⟨t, o, k1, k2⟩ := K T' v Lc X' hQ
  exact ⟨t, o, st _ k1, k2⟩
/-- a constructor by its contract -/
theorem own_spec (X : Stand p l e R s m args below meth c T locs cells slots) (hx : p.tables.exec = Jvm.exec) (hZ : Z.Warmed39 s.vm) (hown : s.vm.findClass own = some m.cls) (E : T.heap = h)
    (w1 : (Cond.methodLink own index y).before a0 Z = true) (w2 : (Cond.instanceMethod y).before a0 Z = true)
    (hM : MetFree l y (head1 [Cond.code y bytes maxL none] rm) (fun a U => a = (.ref b :: argsL).toArray ∧ Z.Warmed39 U.vm ∧ U.heap = h) (fun _ _ _ _ _ => True) (fun _ U o U' => ∃ v L, o = .returned v ∧ Q v U'.heap L ∧ FrameEnd U o U' L rm.cells rm.slots))
    (wc : (Cond.code y bytes maxL none).before a0 Z = true) (wz : (Cond.initialized y.cls).before a0 Z = true)
    (hg : g.method = m) (hsize : g.locals.size = c.maxLocals) (hs : g.stack = argsL.reverse ++ .ref b :: rest) (hd : decode c.code g.pc = .ok (.invokespecial index, 3))
    (hlen : ∀ sig, parseMethodDescriptor y.desc = some sig → argsL.length = sig.parameters.length) (hW : 2 * g.monitorRoom + (rest.map fun v => v.category).sum = W)
    (hy1 : y.name = "<init>") (hnum : (y.cls ≠ "java/lang/invoke/MethodHandle" ∧ y.cls ≠ "java/lang/invoke/VarHandle") ∧ rm.frames + 1 ≤ R.frames ∧ W + (maxL + 11) + rm.locals ≤ R.locals ∧ cells + rm.cells ≤ R.cells ∧ slots + rm.slots ≤ R.slots)
    (K : ∀ (T' : State) (v : Option Value) (L : List Loc), Stand p l e R s m args below meth c T' (locs ++ L) (cells + rm.cells) (slots + rm.slots) → Q v T'.heap L → ∃ t o, Steps p.tables e below (T'.setTop { g with pc := g.pc + 3, stack := v.toList ++ rest }) t ∧ P t o) :
    ∃ t o, Steps p.tables e below (T.setTop g) t ∧ P t o := by
  obtain ⟨hy, hf, hl, hc, hsl⟩ := hnum
  obtain ⟨v, _, ⟨T', L, kz, nz⟩, -, X', ⟨Lc, hQ, l1, y1, z1⟩, st⟩ := X.specialBack hx (y := y) hy1 hown (mvT hZ w1) (mvT hZ w2) (mvT hZ wc) hy (backOf (W := W) hM hZ wc wz hf hl) (g := g) hg hsize (Steps.refl _) (a := b) (argsL := argsL) (rest := rest) hlen hs (Nat.le_of_eq hW) hd (fun _ _ => ⟨rfl, E, hc, hsl⟩)
  dsimp only [Pt.U, Pt.locs, Pt.cells, Pt.slots] at X' l1 y1 z1 st hQ
  subst l1 y1 z1
  obtain ⟨t, o, k1, k2⟩ := K T' v Lc X' hQ
  exact ⟨t, o, st.trans k1, k2⟩
/-- a virtual call by the contract of what the receiver's class selects -/
theorem own_virt (X : Stand p l e R s m args below meth c T locs cells slots) (hx : p.tables.exec = Jvm.exec) (hZ : Z.Warmed39 s.vm) (hown : s.vm.findClass own = some m.cls) (E : T.heap = h)
    (w1 : (Cond.methodLink own index y).before a0 Z = true) (w2 : (Cond.declares y).before a0 Z = true) (w3 : (Cond.selects C y y).before a0 Z = true) (w4 : (Cond.instanceMethod y).before a0 Z = true)
    (hM : MetFree l y (head1 [Cond.code y bytes maxL ret] rm) (fun a U => a = (.ref b :: argsL).toArray ∧ Z.Warmed39 U.vm ∧ U.heap = h) (fun _ _ _ _ _ => True) (fun _ U o U' => ∃ v L, o = .returned v ∧ Q v U'.heap L ∧ FrameEnd U o U' L rm.cells rm.slots))
    (wc : (Cond.code y bytes maxL ret).before a0 Z = true) (wz : (Cond.initialized y.cls).before a0 Z = true) (Ex : Exa Z h b C)
    (hg : g.method = m) (hsize : g.locals.size = c.maxLocals) (hs : g.stack = argsL.reverse ++ .ref b :: rest) (hd : decode c.code g.pc = .ok (.invokevirtual index, 3))
    (hlen : ∀ sig, parseMethodDescriptor y.desc = some sig → argsL.length = sig.parameters.length) (hW : 2 * g.monitorRoom + (rest.map fun v => v.category).sum = W)
    (hnum : (y.cls ≠ "java/lang/invoke/MethodHandle" ∧ y.cls ≠ "java/lang/invoke/VarHandle") ∧ rm.frames + 1 ≤ R.frames ∧ W + (maxL + 11) + rm.locals ≤ R.locals ∧ cells + rm.cells ≤ R.cells ∧ slots + rm.slots ≤ R.slots)
    (K : ∀ (T' : State) (v : Option Value) (L : List Loc), Stand p l e R s m args below meth c T' (locs ++ L) (cells + rm.cells) (slots + rm.slots) → Q v T'.heap L → ∃ t o, Steps p.tables e below (T'.setTop { g with pc := g.pc + 3, stack := v.toList ++ rest }) t ∧ P t o) :
    ∃ t o, Steps p.tables e below (T.setTop g) t ∧ P t o := by
  obtain ⟨hy, hf, hl, hc, hsl⟩ := hnum
  obtain ⟨cq, kq, qa, qb, qc⟩ := isOf hZ E Ex
  obtain ⟨v, _, ⟨T', L, kz, nz⟩, -, X', ⟨Lc, hQ, l1, y1, z1⟩, st⟩ := X.virtualBack hx (y := y) (z := y) hown (mvT hZ w1) (mvT hZ w2) (notFace_of_selects (args := #[]) (mvT hZ w3)) (mvT hZ w3) (mvT hZ w4) hy (backOf (W := W) hM hZ wc wz hf hl) qa qc (g := g) hg hsize (Steps.refl _) (argsL := argsL) (rest := rest) hlen hs (Nat.le_of_eq hW) hd (fun _ _ => ⟨rfl, E, hc, hsl⟩)
  dsimp only [Pt.U, Pt.locs, Pt.cells, Pt.slots] at X' l1 y1 z1 st hQ
  subst l1 y1 z1
  obtain ⟨t, o, k1, k2⟩ := K T' v Lc X' hQ
  exact ⟨t, o, st.trans k1, k2⟩
/-- getfield -/
theorem own_getf (X : Stand p l e R s m args below meth c T locs cells slots) (hx : p.tables.exec = Jvm.exec) (hZ : Z.Warmed39 s.vm) {R0 O n d : String} (hown : s.vm.findClass own = some m.cls) (w : (Cond.fieldLink own index R0 n d).before a0 Z = true) (via : Via Z R0 O n d)
    (E : T.heap = h) {v : Value} (F : Fld Z h b O n d v) (hg : g.method = m) (hs : g.stack = .ref b :: rest) (hd : decode c.code g.pc = .ok (.getfield index, 3))
    (K : ∀ T' : State, Stand p l e R s m args below meth c T' locs cells slots → T'.heap = h → ∃ t o, Steps p.tables e below (T'.setTop { g with pc := g.pc + 3, stack := v :: rest }) t ∧ P t o) : ∃ t o, Steps p.tables e below (T.setTop g) t ∧ P t o := by
  obtain ⟨T', X', e', st⟩ := getF X hx hZ hown (host := "") (Or.inl w) via E F (g := g) hg hs hd
  obtain ⟨t, o, k1, k2⟩ := K T' X' e'
  exact ⟨t, o, st _ k1, k2⟩
end OwnCalls
/-- a field of an object of the start that the case fixes as an int -/
theorem own_fint {args : Array Value} {s : State} {t : Term} {C n d : String} {k : Int32} {x : Addr} (h : (Jvm.Cond.eq (Term.field t C n d) (Term.int k)).value args s none s [] = some true) (ht : t.eval args s none [] s = some (.ref x)) : Fld s s.heap x C n d (.int k) := by
  obtain ⟨u, v, h1, h2, h3, h4⟩ := cmp_v (Or.inl h)
  have e2 : v = .int k := by rw [Term.int_eval] at h2; exact (Option.some.inj h2).symm
  subst e2
  obtain ⟨z, rfl⟩ : ∃ z, u = .int z := h4
  have q := gotT (Cond.eq_ints h1 h2) h
  subst q
  exact Fld.start (by rw [← fld_at (C := C) (n := n) (dd := d) ht]; exact h1)
end Jvm.RoadKit
namespace Jvm.RoadKit
open Sem ClassFile Op Lib Bundle Jvm.Stand Jvm.Free Jvm.LawKit
section OwnW
variable {p : Program} {l : Launch} {e : Env} {R : Room} {s : State} {m : MethodId} {args : Array Value} {below : List Frame} {meth : Method} {c : Code} {T : State} {locs : List Loc} {cells slots : Nat} {Z : State} {a0 : Array Value} {h : Heap} {P : State → Outcome → Prop} {EL : List (String × Nat)}
  {own C : String} {index W : Nat} {y : MethodName} {bytes : ByteArray} {maxL : Nat} {ret : Option FieldType} {rm : Room} {Q : Option Value → Heap → List Loc → Prop} {a b : Addr} {g : JFrame} {argsL rest : List Value} {as' : Array Value}
theorem own_backW {len : Nat} (hM : MetFree l y (head1 [Cond.code y bytes maxL ret] rm) (fun a U => a = as' ∧ Z.Warmed39 U.vm ∧ U.heap = h ∧ CHv Z EL U.vm h) (fun _ _ _ _ _ => True) (fun _ U o U' => ∃ v L, o = .returned v ∧ Q v U'.heap L ∧ ReturnedEndW U o U' L rm.cells rm.slots))
    (hZ : Z.Warmed39 s.vm) (wc : (Cond.code y bytes maxL ret).before a0 Z = true) (wz : (Cond.initialized y.cls).before a0 Z = true) (hf : rm.frames + 1 ≤ R.frames) (hl : W + (maxL + 11) + rm.locals ≤ R.locals) (hEL : EW Z a0 EL) (H : CHv Z EL s.vm h) :
    BackS l R p e below s args y len W (fun A a => a = as' ∧ A.U.heap = h ∧ A.cells + rm.cells ≤ R.cells ∧ A.slots + rm.slots ≤ R.slots)
      (fun A _ v B => ∃ L, Q v B.U.heap L ∧ B.locs = A.locs ++ L ∧ B.cells = A.cells + rm.cells ∧ B.slots = A.slots + rm.slots) :=
  BackS.of_freeW (bytes := bytes) (maxL := maxL) (ret := ret) (E := fun _ _ o t L k n => k = rm.cells ∧ n = rm.slots ∧ ∃ v, o = .returned v ∧ Q v t.heap L) hM hf hl
    (fun m meth c A a Y hp => have hU : Z.Warmed39 A.U.vm := wtrans hZ Y.warmed
      ⟨by show (Cond.and _ .tt).before a A.U = true; rw [Cond.before_and, mv hU wc]; rfl, mv hU wc, mv hU wz, hp.2.2.1, hp.2.2.2⟩)
    (fun m meth c A a g mk Y hp => ⟨hp.1, wtrans hZ Y.warmed, hp.2.1, (CHv.at (s := s) (vm0 := s.vm) Y hZ hEL H).1⟩) (fun _ _ _ _ _ _ _ _ _ => trivial)
    (fun _ _ _ _ ⟨v, L, h1, h2, h3⟩ => ⟨L, _, _, h3, rfl, rfl, v, h1, h2⟩)
    (fun m meth c A a g mk v t L k n Y hp _ _ ⟨e1, e2, v', e3, e4⟩ => by cases e3; subst e1 e2; exact ⟨L, e4, rfl, rfl, rfl⟩)
/-- a static call of a callee that may intern -/
theorem own_statW (X : Stand p l e R s m args below meth c T locs cells slots) (hx : p.tables.exec = Jvm.exec) (hZ : Z.Warmed39 s.vm) (hown : s.vm.findClass own = some m.cls) (E : T.heap = h)
    (w1 : (Cond.methodLink own index y).before a0 Z = true) (w2 : (Cond.static y).before a0 Z = true)
    (hM : MetFree l y (head1 [Cond.code y bytes maxL ret] rm) (fun a U => a = argsL.toArray ∧ Z.Warmed39 U.vm ∧ U.heap = h ∧ CHv Z EL U.vm h) (fun _ _ _ _ _ => True) (fun _ U o U' => ∃ v L, o = .returned v ∧ Q v U'.heap L ∧ ReturnedEndW U o U' L rm.cells rm.slots))
    (wc : (Cond.code y bytes maxL ret).before a0 Z = true) (wz : (Cond.initialized y.cls).before a0 Z = true)
    (hg : g.method = m) (hsize : g.locals.size = c.maxLocals) (hs : g.stack = argsL.reverse ++ rest) (hd : decode c.code g.pc = .ok (.invokestatic index, 3))
    (hlen : ∀ sig, parseMethodDescriptor y.desc = some sig → argsL.length = sig.parameters.length) (hW : 2 * g.monitorRoom + (rest.map fun v => v.category).sum = W)
    (hnum : (y.cls ≠ "java/lang/invoke/MethodHandle" ∧ y.cls ≠ "java/lang/invoke/VarHandle") ∧ rm.frames + 1 ≤ R.frames ∧ W + (maxL + 11) + rm.locals ≤ R.locals ∧ cells + rm.cells ≤ R.cells ∧ slots + rm.slots ≤ R.slots) (hEL : EW Z a0 EL) (H : CHv Z EL s.vm h)
    (K : ∀ (T' : State) (v : Option Value) (L : List Loc), Stand p l e R (s.setVm T'.vm) m args below meth c T' (locs ++ L) (cells + rm.cells) (slots + rm.slots) → Q v T'.heap L → s.Since T'.vm T'.heap.size → Z.Warmed39 (s.setVm T'.vm).vm → (s.setVm T'.vm).vm.findClass own = some m.cls → ∃ t o, Steps p.tables e below (T'.setTop { g with pc := g.pc + 3, stack := v.toList ++ rest }) t ∧ P t o) :
    ∃ t o, Steps p.tables e below (T.setTop g) t ∧ P t o := by
  obtain ⟨hy, hf, hl, hc, hsl⟩ := hnum
  obtain ⟨v, _, ⟨T', L, kz, nz⟩, -, X', hS, -, ⟨Lc, hQ, l1, y1, z1⟩, st⟩ := callSS X hx (y := y) hown (mvT hZ w1) (mvT hZ w2) (mvT hZ wz) (mvT hZ wc) hy (own_backW (W := W) hM hZ wc wz hf hl hEL H) (g := g) hg hsize (argsL := argsL) (rest := rest) hlen hs (Nat.le_of_eq hW) hd (fun _ _ => ⟨rfl, E, hc, hsl⟩)
  dsimp only [Pt.U, Pt.locs, Pt.cells, Pt.slots] at X' l1 y1 z1 st hQ hS
  subst l1 y1 z1
  obtain ⟨t, o, k1, k2⟩ := K T' v Lc X' hQ hS (State.Warmed39.trans (t := s) hZ hS.1) (by rw [show (s.setVm T'.vm).vm = T'.vm from rfl, hS.1.alike.findClass]; exact hown)
  exact ⟨t, o, st.trans k1, k2⟩
/-- a constructor that may intern -/
theorem own_specW (X : Stand p l e R s m args below meth c T locs cells slots) (hx : p.tables.exec = Jvm.exec) (hZ : Z.Warmed39 s.vm) (hown : s.vm.findClass own = some m.cls) (E : T.heap = h)
    (w1 : (Cond.methodLink own index y).before a0 Z = true) (w2 : (Cond.instanceMethod y).before a0 Z = true)
    (hM : MetFree l y (head1 [Cond.code y bytes maxL none] rm) (fun a U => a = (.ref b :: argsL).toArray ∧ Z.Warmed39 U.vm ∧ U.heap = h ∧ CHv Z EL U.vm h) (fun _ _ _ _ _ => True) (fun _ U o U' => ∃ v L, o = .returned v ∧ Q v U'.heap L ∧ ReturnedEndW U o U' L rm.cells rm.slots))
    (wc : (Cond.code y bytes maxL none).before a0 Z = true) (wz : (Cond.initialized y.cls).before a0 Z = true)
    (hg : g.method = m) (hsize : g.locals.size = c.maxLocals) (hs : g.stack = argsL.reverse ++ .ref b :: rest) (hd : decode c.code g.pc = .ok (.invokespecial index, 3))
    (hlen : ∀ sig, parseMethodDescriptor y.desc = some sig → argsL.length = sig.parameters.length) (hW : 2 * g.monitorRoom + (rest.map fun v => v.category).sum = W)
    (hy1 : y.name = "<init>") (hnum : (y.cls ≠ "java/lang/invoke/MethodHandle" ∧ y.cls ≠ "java/lang/invoke/VarHandle") ∧ rm.frames + 1 ≤ R.frames ∧ W + (maxL + 11) + rm.locals ≤ R.locals ∧ cells + rm.cells ≤ R.cells ∧ slots + rm.slots ≤ R.slots) (hEL : EW Z a0 EL) (H : CHv Z EL s.vm h)
    (K : ∀ (T' : State) (v : Option Value) (L : List Loc), Stand p l e R (s.setVm T'.vm) m args below meth c T' (locs ++ L) (cells + rm.cells) (slots + rm.slots) → Q v T'.heap L → s.Since T'.vm T'.heap.size → Z.Warmed39 (s.setVm T'.vm).vm → (s.setVm T'.vm).vm.findClass own = some m.cls → ∃ t o, Steps p.tables e below (T'.setTop { g with pc := g.pc + 3, stack := v.toList ++ rest }) t ∧ P t o) :
    ∃ t o, Steps p.tables e below (T.setTop g) t ∧ P t o := by
  obtain ⟨hy, hf, hl, hc, hsl⟩ := hnum
  obtain ⟨v, _, ⟨T', L, kz, nz⟩, -, X', hS, -, ⟨Lc, hQ, l1, y1, z1⟩, st⟩ := X.specialBackS hx (y := y) hy1 hown (mvT hZ w1) (mvT hZ w2) (mvT hZ wc) hy (own_backW (W := W) hM hZ wc wz hf hl hEL H) (g := g) hg hsize (Steps.refl _) (a := b) (argsL := argsL) (rest := rest) hlen hs (Nat.le_of_eq hW) hd (fun _ _ => ⟨rfl, E, hc, hsl⟩)
  dsimp only [Pt.U, Pt.locs, Pt.cells, Pt.slots] at X' l1 y1 z1 st hQ hS
  subst l1 y1 z1
  obtain ⟨t, o, k1, k2⟩ := K T' v Lc X' hQ hS (State.Warmed39.trans (t := s) hZ hS.1) (by rw [show (s.setVm T'.vm).vm = T'.vm from rfl, hS.1.alike.findClass]; exact hown)
  exact ⟨t, o, st.trans k1, k2⟩
/-- the copy of an array -/
theorem own_cloneV (X : Stand p l e R s m args below meth c T locs cells slots) (hx : p.tables.exec = Jvm.exec) (hZ : Z.Warmed39 s.vm) {ad : String} (hown : s.vm.findClass own = some m.cls)
    (w1 : (Cond.methodLink own index ⟨ad, "clone", "()Ljava/lang/Object;"⟩).before a0 Z = true) (w2 : (Cond.sameMethod ad "java/lang/Object" "clone" "()Ljava/lang/Object;").before a0 Z = true) (w3 : (Cond.native ⟨"java/lang/Object", "clone", "()Ljava/lang/Object;"⟩).before a0 Z = true)
    (w4 : (Cond.instanceMethod ⟨"java/lang/Object", "clone", "()Ljava/lang/Object;"⟩).before a0 Z = true) (w5 : (Cond.selects ad ⟨ad, "clone", "()Ljava/lang/Object;"⟩ ⟨"java/lang/Object", "clone", "()Ljava/lang/Object;"⟩).before a0 Z = true) (w6 : (Cond.castable ad "java/lang/Cloneable").before a0 Z = true)
    (eT : T.heap = h) {k : ClassId} {ty : FieldType} {n : Int32} {vs : List Value} {d : Value} (F : Arv Z h a k ty n vs d) (E : Exa Z h a ad) (hg : g.method = m) (hsize : g.locals.size = c.maxLocals) (hs : g.stack = .ref a :: rest) (hd : decode c.code g.pc = .ok (.invokevirtual index, 3))
    (hf : 1 ≤ R.frames) {cap : Nat} (hW : 2 * g.monitorRoom + (rest.map fun v => v.category).sum ≤ W) (hl : W + 14 ≤ R.locals) (hcap : n.toNatClampNeg ≤ cap) (hc : cells + 1 ≤ R.cells) (hsl : slots + cap ≤ R.slots) :
    ∃ T' h', Stand p l e R s m args below meth c T' locs (cells + 1) (slots + cap) ∧ T'.heap = h' ∧ Ext h h' ∧ Arv Z h' h.size k ty n vs d ∧ Exa Z h' h.size ad ∧
      ∀ target, Steps p.tables e below (T'.setTop { g with pc := g.pc + 3, stack := .ref h.size :: rest }) target → Steps p.tables e below (T.setTop g) target := by
  obtain ⟨cl, A, r1, r2, r3, H, G⟩ := F
  have FC : FitC Z cl := fitC_of A fun i hi v hv => by rw [H i hi] at hv; cases hv; exact G i hi
  obtain ⟨T', h', X', e', E', A', Ex', st⟩ := cloneA X hx hZ hown w1 w2 w3 w4 w5 w6 eT A E FC hg hsize hs hd hf hW hl (by rw [r2]; exact hcap) hc hsl
  exact ⟨T', h', X', e', E', ⟨_, A', r1, r2, r3, H, G⟩, Ex', st⟩
/-- an array of the start -/
theorem own_arr0 {t : Term} {ty : FieldType} {n : Int32} {x : Addr} (ev : t.eval args s none [] s = some (.ref x)) (ha : (Cond.arrayOf t ty).value args s none s [] = some true) (hl : (Cond.eq (Term.length t) (Term.int n)).value args s none s [] = some true) :
    ∃ cl, Arr s s.heap x cl ty ∧ cl.slots.size < 2 ^ 31 ∧ cl.slots.size.toInt32 = n := by
  obtain ⟨cl, A⟩ := Arr.start ev ha
  obtain ⟨u, v, h1, h2, h3, h4⟩ := cmp_v (Or.inl hl)
  have e2 : v = .int n := by rw [Term.int_eval] at h2; exact (Option.some.inj h2).symm
  subst e2
  obtain ⟨x', cell, f1, f2, f3⟩ := Term.length_spec h1
  cases f1.symm.trans ev
  have hc : s.heap[x]? = some cell := by
    have f2' := f2
    simp only [State.arrayAt?, Option.bind_eq_bind, Option.bind_eq_some_iff] at f2'
    obtain ⟨c', q1, k', q2, q3⟩ := f2'
    split at q3
    · cases q3
    · split at q3
      · cases q3; exact q1
      · cases q3
  cases hc.symm.trans A.1
  subst f3
  have q := gotT (Cond.eq_ints h1 h2) hl
  refine ⟨cl, A, ?_, q⟩
  simp only [Term.eval, ev, f2, Option.bind_eq_bind, Option.bind_some] at h1
  split at h1
  · assumption
  · cases h1
theorem own_el0 {t : Term} {x : Addr} {cl : Cell} {j k : Int32} (ev : t.eval args s none [] s = some (.ref x)) (hc : s.heap[x]? = some cl) (h : (Cond.eq (Term.elem t (Term.int j)) (Term.int k)).value args s none s [] = some true) : cl.slots[j.toNatClampNeg]? = some (.int k) := by
  obtain ⟨u, v, h1, h2, h3, h4⟩ := cmp_v (Or.inl h)
  have e2 : v = .int k := by rw [Term.int_eval] at h2; exact (Option.some.inj h2).symm
  subst e2
  obtain ⟨z, rfl⟩ : ∃ z, u = .int z := h4
  have q := gotT (Cond.eq_ints h1 h2) h
  subst q
  exact (elem_in h1 ev (Term.int_eval j) hc).2
theorem own_elR {t u : Term} {x y : Addr} {cl : Cell} {j : Int32} (ev : t.eval args s none [] s = some (.ref x)) (hc : s.heap[x]? = some cl) (eu : u.eval args s none [] s = some (.ref y)) (h : (Cond.eq (Term.elem t (Term.int j)) u).value args s none s [] = some true) : cl.slots[j.toNatClampNeg]? = some (.ref y) := by
  obtain ⟨w, v, h1, h2, h3, h4⟩ := cmp_v (Or.inl h)
  cases h2.symm.trans eu
  have e1 := (elem_in h1 ev (Term.int_eval j) hc).2
  cases w with
  | ref z =>
    have q := gotT (eq_R h1 h2 rfl rfl) h
    rw [e1, q]
  | null =>
    have q := gotT (eq_R h1 h2 rfl rfl) h
    cases q
  | _ => simp [Cond.value, h1, h2] at h
end OwnW
end Jvm.RoadKit
namespace Jvm.Pilot.@@N@@
open Jvm Jvm.ClassFile Sem Op Lib Jvm.Free Jvm.Stand Jvm.LawKit Jvm.RoadKit Bundle Jvm.Pilot.@@N@@.Jvm.D
def own_EL : List (String × Nat) := [("java/lang/String", 7)]
theorem own_EW {a0 : Array Value} {Z : State} (hw : ∀ d ∈ tables_1, d.before a0 Z = true) : EW Z a0 own_EL := EW.cons (text := "") (ow hw 22 rfl) (fun c q => by simp at q) EW.nil
theorem own_wS {a0 : Array Value} {Z : State} (hw : ∀ d ∈ tables_1, d.before a0 Z = true) : ∀ a ∈ Bundle.stringAtoms, a.before a0 Z = true := fun d hd => by
  simp only [Bundle.stringAtoms, List.mem_cons, List.not_mem_nil, or_false] at hd
  rcases hd with rfl | rfl | rfl | rfl | rfl | rfl | rfl
  · exact (ow hw 10 rfl)
  · exact (ow hw 9 rfl)
  · exact (ow hw 23 rfl)
  · exact (ow hw 24 rfl)
  · exact (ow hw 25 rfl)
  · exact (ow hw 26 rfl)
  · exact (ow hw 27 rfl)
def own_lt (c : Int32) : Int32 := nar .byte (c.toInt8.toInt32)
def own_lat (c : Int32) : Prop := 0 ≤ c.toInt ∧ c.toInt ≤ 255
theorem own_chb (x : Int32) : (x.toUInt32.toUInt16.toUInt32.toInt32).toBitVec = (x.toBitVec.setWidth 16).setWidth 32 := rfl
theorem own_se8 (x : BitVec 32) : x.signExtend 8 = x.setWidth 8 := BitVec.signExtend_eq_setWidth_of_le _ (by decide)
theorem own_latn {c : Int32} (h : own_lat c) : c.toBitVec.toNat < 256 := by
  obtain ⟨h1, h2⟩ := h
  have e6 : c.toInt = c.toBitVec.toInt := rfl
  rw [BitVec.toInt_eq_toNat_cond] at e6
  have := c.toBitVec.isLt
  split at e6 <;> omega
theorem own_narc {c : Int32} (h : own_lat c) : nar .char c = c := by
  show c.toUInt32.toUInt16.toUInt32.toInt32 = c
  have := own_latn h
  apply Int32.toBitVec_inj.mp
  rw [own_chb]
  apply BitVec.eq_of_toNat_eq
  rw [BitVec.toNat_setWidth, BitVec.toNat_setWidth]
  omega
theorem own_n255 {c : Int32} (h : own_lat c) : ¬ ((255 : Int32) < nar .char c) := by
  rw [own_narc h, Int32.lt_iff_toInt_lt]
  have e5 : (255 : Int32).toInt = 255 := by decide
  obtain ⟨h1, h2⟩ := h
  omega
theorem own_ltb (c : Int32) : (own_lt c).toBitVec = ((c.toBitVec.setWidth 8).signExtend 32) := by
  have e1 : own_lt c = c.toInt8.toInt32 := by unfold own_lt; show (_ : Int8).toInt32.toInt8.toInt32 = _; rw [Int8.toInt8_toInt32]
  rw [e1, Int8.toBitVec_toInt32, Int32.toBitVec_toInt8, own_se8]
theorem own_ltk {c : Int32} (h : own_lat c) {k : Int32} (hk : (k.toBitVec.setWidth 8).signExtend 32 = k.toBitVec) (h8 : k.toBitVec.toNat < 256) : (k = own_lt (nar .char c)) ↔ (c = k) := by
  rw [own_narc h]
  have hn := own_latn h
  constructor
  · intro e
    have e2 : k.toBitVec = (c.toBitVec.setWidth 8).signExtend 32 := by rw [← own_ltb]; exact congrArg Int32.toBitVec e
    have e3 : k.toBitVec.setWidth 8 = c.toBitVec.setWidth 8 := by
      rw [e2]
      apply BitVec.eq_of_getLsbD_eq
      intro i hi
      simp only [BitVec.getLsbD_setWidth, BitVec.getLsbD_signExtend]
      have h32 : i < 32 := by omega
      simp [hi, h32]
    apply Int32.toBitVec_inj.mp
    apply BitVec.eq_of_toNat_eq
    have e4 := congrArg BitVec.toNat e3
    rw [BitVec.toNat_setWidth, BitVec.toNat_setWidth] at e4
    omega
  · intro e
    subst e
    apply Int32.toBitVec_inj.mp
    rw [own_ltb, hk]
theorem own_l8 (x : Int32) : own_lat (nar .char (((x.toUInt32 >>> ((9 : Int32) &&& 31).toUInt32).toInt32 &&& (255 : Int32)).toUInt32.toUInt16.toUInt32.toInt32)) := by
  have e : nar .char (((x.toUInt32 >>> ((9 : Int32) &&& 31).toUInt32).toInt32 &&& (255 : Int32)).toUInt32.toUInt16.toUInt32.toInt32) = ((x.toUInt32 >>> ((9 : Int32) &&& 31).toUInt32).toInt32 &&& (255 : Int32)) := by
    have q : own_lat ((x.toUInt32 >>> ((9 : Int32) &&& 31).toUInt32).toInt32 &&& (255 : Int32)) := by
      have e1 : ((x.toUInt32 >>> ((9 : Int32) &&& 31).toUInt32).toInt32 &&& 255).toInt = (x.toUInt32 >>> ((9 : Int32) &&& 31).toUInt32).toInt32.toInt % 2 ^ 8 := Jvm.Kit.i32_mask _ 255 (k := 8) (by decide) (by decide)
      unfold own_lat; omega
    have q2 := own_narc q
    have q3 : (((x.toUInt32 >>> ((9 : Int32) &&& 31).toUInt32).toInt32 &&& (255 : Int32)).toUInt32.toUInt16.toUInt32.toInt32) = ((x.toUInt32 >>> ((9 : Int32) &&& 31).toUInt32).toInt32 &&& (255 : Int32)) := q2
    rw [q3]; exact q2
  rw [e]
  have e1 : ((x.toUInt32 >>> ((9 : Int32) &&& 31).toUInt32).toInt32 &&& 255).toInt = (x.toUInt32 >>> ((9 : Int32) &&& 31).toUInt32).toInt32.toInt % 2 ^ 8 := Jvm.Kit.i32_mask _ 255 (k := 8) (by decide) (by decide)
  unfold own_lat; omega
theorem own_m31 (x : Int32) : 0 ≤ (x &&& 2147483647).toInt := by
  have e1 : (x &&& 2147483647).toInt = x.toInt % 2 ^ 31 := Jvm.Kit.i32_mask x 2147483647 (k := 31) (by decide) (by decide)
  omega
theorem own_mod5 (y : Int32) (hy : 0 ≤ y.toInt) : y % (5 : Int32) = 0 ∨ y % (5 : Int32) = 1 ∨ y % (5 : Int32) = 2 ∨ y % (5 : Int32) = 3 ∨ y % (5 : Int32) = 4 := by
  have e2 : (y % (5 : Int32)).toInt = y.toInt % (5 : Int32).toInt := Jvm.Kit.i32_rem_nonneg hy
  have f0 : (0 : Int32).toInt = 0 := by decide
  have f1 : (1 : Int32).toInt = 1 := by decide
  have f2 : (2 : Int32).toInt = 2 := by decide
  have f3 : (3 : Int32).toInt = 3 := by decide
  have f4 : (4 : Int32).toInt = 4 := by decide
  have f5 : (5 : Int32).toInt = 5 := by decide
  rw [f5] at e2
  simp only [← Int32.toInt_inj]
  omega
theorem own_51 {c : Int32} (h : c = (50 : Int32)) : ¬ (c = (51 : Int32)) := by rw [h]; decide
theorem d1_0 : decode method_2_code 0 = .ok (.iload_n 0, 1) := by decide +kernel
theorem d1_1 : decode method_2_code 1 = .ok (.sipush 256, 3) := by decide +kernel
theorem d1_4 : decode method_2_code 4 = .ok (.iand, 1) := by decide +kernel
theorem d1_5 : decode method_2_code 5 = .ok (.ifCond .ne 33, 3) := by decide +kernel
theorem d1_8 : decode method_2_code 8 = .ok (.iload_n 0, 1) := by decide +kernel
theorem d1_9 : decode method_2_code 9 = .ok (.iconst 3, 1) := by decide +kernel
theorem d1_10 : decode method_2_code 10 = .ok (.iand, 1) := by decide +kernel
theorem d1_11 : decode method_2_code 11 = .ok (.istore_n 1, 1) := by decide +kernel
theorem d1_12 : decode method_2_code 12 = .ok (.iload_n 1, 1) := by decide +kernel
theorem d1_13 : decode method_2_code 13 = .ok (.ifCond .ne 6, 3) := by decide +kernel
theorem d1_16 : decode method_2_code 16 = .ok (.bipush 51, 2) := by decide +kernel
theorem d1_18 : decode method_2_code 18 = .ok (.ireturn, 1) := by decide +kernel
theorem d1_19 : decode method_2_code 19 = .ok (.iload_n 1, 1) := by decide +kernel
theorem d1_20 : decode method_2_code 20 = .ok (.iconst 1, 1) := by decide +kernel
theorem d1_21 : decode method_2_code 21 = .ok (.if_icmp .ne 6, 3) := by decide +kernel
theorem d1_24 : decode method_2_code 24 = .ok (.bipush 46, 2) := by decide +kernel
theorem d1_26 : decode method_2_code 26 = .ok (.ireturn, 1) := by decide +kernel
theorem d1_27 : decode method_2_code 27 = .ok (.iload_n 1, 1) := by decide +kernel
theorem d1_28 : decode method_2_code 28 = .ok (.iconst 2, 1) := by decide +kernel
theorem d1_29 : decode method_2_code 29 = .ok (.if_icmp .ne 6, 3) := by decide +kernel
theorem d1_32 : decode method_2_code 32 = .ok (.bipush 50, 2) := by decide +kernel
theorem d1_34 : decode method_2_code 34 = .ok (.ireturn, 1) := by decide +kernel
theorem d1_35 : decode method_2_code 35 = .ok (.bipush 52, 2) := by decide +kernel
theorem d1_37 : decode method_2_code 37 = .ok (.ireturn, 1) := by decide +kernel
theorem d1_38 : decode method_2_code 38 = .ok (.iload_n 0, 1) := by decide +kernel
theorem d1_39 : decode method_2_code 39 = .ok (.bipush 9, 2) := by decide +kernel
theorem d1_41 : decode method_2_code 41 = .ok (.iushr, 1) := by decide +kernel
theorem d1_42 : decode method_2_code 42 = .ok (.sipush 255, 3) := by decide +kernel
theorem d1_45 : decode method_2_code 45 = .ok (.iand, 1) := by decide +kernel
theorem d1_46 : decode method_2_code 46 = .ok (.i2c, 1) := by decide +kernel
theorem d1_47 : decode method_2_code 47 = .ok (.ireturn, 1) := by decide +kernel
theorem pn_1 : plainName "com/example/keyclasp/keyclasp/protocol/ProtocolVersionOfPinLaw" = true := by first | (simp [plainName, overriddenIn]; done) | decide +kernel
theorem ef_rmch (m : MethodId) (x0 : Int32) : entryFrame m #[(.int x0)] 2 = mkF m 0 #[.val (.int x0), .unset] [] := by first | (simp [entryFrame, mkF, argsToLocals, Value.category]; done) | rfl
def Qrmch (Z : State) (pv : Int32) (h0 : Heap) (n0 : Nat) (v : Option Value) (h : Heap) (L : List Loc) : Prop := ∃ (rc : Int32), v = some (.int rc) ∧ Fr n0 L ∧ h = h0 ∧ (own_lat rc)
set_option maxRecDepth 65536 in
set_option maxHeartbeats 40000000 in
theorem rmch (l : Launch) (Z : State) (a0 : Array Value) (hw : ∀ d ∈ tables_1, d.before a0 Z = true) (ws : List Jvm.Cond) (pv : Int32) (h0 : Heap) (n0 : Nat) (Z0 : n0 ≤ h0.size) :
    MetFree l (⟨"com/example/keyclasp/keyclasp/protocol/ProtocolVersionOfPinLaw", "ch", "(I)C"⟩ : MethodName) (head1 (Jvm.Cond.code (⟨"com/example/keyclasp/keyclasp/protocol/ProtocolVersionOfPinLaw", "ch", "(I)C"⟩ : MethodName) method_2_code 2 (some .char) :: ws) ({ frames := 0, cells := 0, slots := 0, locals := 0 } : Room)) (fun a U => a = #[(.int pv)] ∧ Z.Warmed39 U.vm ∧ U.heap = h0) (fun _ _ _ _ _ => True) (fun _ U o U' => ∃ v L, o = .returned v ∧ Qrmch Z pv h0 n0 v U'.heap L ∧ FrameEnd U o U' L ({ frames := 0, cells := 0, slots := 0, locals := 0 } : Room).cells ({ frames := 0, cells := 0, slots := 0, locals := 0 } : Room).slots) := by
 refine MetFree.of_bodySF (plainFor_of_name pn_1) hisR ?_
 intro p e s m args below meth c s₁ Bd hml0 hP hK
 obtain ⟨rfl, hZ, hh⟩ := hP
 have hx := Bd.exec
 have hby := Bd.bytes
 have hml : c.maxLocals = 2 := hml0
 have hown : s.vm.findClass "com/example/keyclasp/keyclasp/protocol/ProtocolVersionOfPinLaw" = some m.cls := findClass_of_methodNamed Bd.named
 have hnm := (name_of_methodNamed Bd.named Bd.method).1
 have X0 : Stand p l e ({ frames := 0, cells := 0, slots := 0, locals := 0 } : Room) s m #[(.int pv)] below meth c s₁ [] 0 0 := Stand.of_body Bd
 have e0 : s₁.heap = h0 := by rw [← hh, Bd.state]; rfl
 have N0 := Fr.nil n0
 refine own_go (b := (s₁.setTop (mkF m 0 #[.val (.int pv), .unset] []))) (fun _ k => castTop (ef_rmch m pv) k) ?_
 refine own_go (b := (s₁.setTop (mkF m 5 #[.val (.int pv), .unset] [(.int (pv &&& (256 : Int32)))]))) (fun _ k => XS.iloadN X0.here hx rfl (hb hby d1_0) rfl (XS.sipush X0.here hx rfl (hb hby d1_1) (XS.iand X0.here hx rfl (hb hby d1_4) rfl k))) ?_
 by_cases hc5_1 : (pv &&& (256 : Int32)) = (0 : Int32)
 · skip
   refine own_go (b := (s₁.setTop (mkF m 13 #[.val (.int pv), .val (.int (pv &&& (3 : Int32)))] [(.int (pv &&& (3 : Int32)))]))) (fun _ k => XS.ifNo X0.here hx rfl (hb hby d1_5) rfl ((if0 _ _).trans (teq hc5_1).2) (XS.iloadN X0.here hx rfl (hb hby d1_8) rfl (XS.iconst X0.here hx rfl (hb hby d1_9) (XS.iand X0.here hx rfl (hb hby d1_10) rfl (XS.istoreN X0.here hx rfl (hb hby d1_11) rfl (l' := #[.val (.int pv), .val (.int (pv &&& (3 : Int32)))]) rfl (XS.iloadN X0.here hx rfl (hb hby d1_12) rfl k)))))) ?_
   by_cases hc13_2 : (pv &&& (3 : Int32)) = (0 : Int32)
   · skip
     refine own_go (b := (s₁.setTop (mkF m 18 #[.val (.int pv), .val (.int (pv &&& (3 : Int32)))] [(.int (51 : Int32))]))) (fun _ k => XS.ifNo X0.here hx rfl (hb hby d1_13) rfl ((if0 _ _).trans (teq hc13_2).2) (XS.bipush X0.here hx rfl (hb hby d1_16) k)) ?_
     obtain ⟨fs, hr, hrun, hended, hW, hsame⟩ := X0.leave (v := some (.int (nar .char (51 : Int32)))) (fun h => by rw [Bd.returns] at h; cases h)
     exact ⟨_, _, retN X0 hx (t := .char) Bd.returns (by simp) (hb hby d1_18) hr, hrun, hended, _, _, rfl, (show Qrmch Z pv h0 n0 _ s₁.heap _ from (by rw [e0]; exact ⟨(nar .char (51 : Int32)), rfl, N0, rfl, (by unfold own_lat; decide)⟩)), ⟨_, rfl⟩, hW, hsame.mono (by decide) (by decide)⟩
   · skip
     refine own_go (b := (s₁.setTop (mkF m 21 #[.val (.int pv), .val (.int (pv &&& (3 : Int32)))] [(.int (1 : Int32)), (.int (pv &&& (3 : Int32)))]))) (fun _ k => XS.ifYes X0.here hx rfl (pc0 := 13) (pc' := 19) rfl (hb hby d1_13) rfl ((if0 _ _).trans (feq hc13_2).2) (by decide) (by decide) (XS.iloadN X0.here hx rfl (hb hby d1_19) rfl (XS.iconst X0.here hx rfl (hb hby d1_20) k))) ?_
     by_cases hc21_3 : (pv &&& (3 : Int32)) = (1 : Int32)
     · skip
       refine own_go (b := (s₁.setTop (mkF m 26 #[.val (.int pv), .val (.int (pv &&& (3 : Int32)))] [(.int (46 : Int32))]))) (fun _ k => XS.icmpNo X0.here hx rfl (hb hby d1_21) rfl (teq hc21_3).2 (XS.bipush X0.here hx rfl (hb hby d1_24) k)) ?_
       obtain ⟨fs, hr, hrun, hended, hW, hsame⟩ := X0.leave (v := some (.int (nar .char (46 : Int32)))) (fun h => by rw [Bd.returns] at h; cases h)
       exact ⟨_, _, retN X0 hx (t := .char) Bd.returns (by simp) (hb hby d1_26) hr, hrun, hended, _, _, rfl, (show Qrmch Z pv h0 n0 _ s₁.heap _ from (by rw [e0]; exact ⟨(nar .char (46 : Int32)), rfl, N0, rfl, (by unfold own_lat; decide)⟩)), ⟨_, rfl⟩, hW, hsame.mono (by decide) (by decide)⟩
     · skip
       refine own_go (b := (s₁.setTop (mkF m 29 #[.val (.int pv), .val (.int (pv &&& (3 : Int32)))] [(.int (2 : Int32)), (.int (pv &&& (3 : Int32)))]))) (fun _ k => XS.icmpYes X0.here hx rfl (pc0 := 21) (pc' := 27) rfl (hb hby d1_21) rfl (feq hc21_3).2 (by decide) (by decide) (XS.iloadN X0.here hx rfl (hb hby d1_27) rfl (XS.iconst X0.here hx rfl (hb hby d1_28) k))) ?_
       by_cases hc29_4 : (pv &&& (3 : Int32)) = (2 : Int32)
       · skip
         refine own_go (b := (s₁.setTop (mkF m 34 #[.val (.int pv), .val (.int (pv &&& (3 : Int32)))] [(.int (50 : Int32))]))) (fun _ k => XS.icmpNo X0.here hx rfl (hb hby d1_29) rfl (teq hc29_4).2 (XS.bipush X0.here hx rfl (hb hby d1_32) k)) ?_
         obtain ⟨fs, hr, hrun, hended, hW, hsame⟩ := X0.leave (v := some (.int (nar .char (50 : Int32)))) (fun h => by rw [Bd.returns] at h; cases h)
         exact ⟨_, _, retN X0 hx (t := .char) Bd.returns (by simp) (hb hby d1_34) hr, hrun, hended, _, _, rfl, (show Qrmch Z pv h0 n0 _ s₁.heap _ from (by rw [e0]; exact ⟨(nar .char (50 : Int32)), rfl, N0, rfl, (by unfold own_lat; decide)⟩)), ⟨_, rfl⟩, hW, hsame.mono (by decide) (by decide)⟩
       · skip
         refine own_go (b := (s₁.setTop (mkF m 37 #[.val (.int pv), .val (.int (pv &&& (3 : Int32)))] [(.int (52 : Int32))]))) (fun _ k => XS.icmpYes X0.here hx rfl (pc0 := 29) (pc' := 35) rfl (hb hby d1_29) rfl (feq hc29_4).2 (by decide) (by decide) (XS.bipush X0.here hx rfl (hb hby d1_35) k)) ?_
         obtain ⟨fs, hr, hrun, hended, hW, hsame⟩ := X0.leave (v := some (.int (nar .char (52 : Int32)))) (fun h => by rw [Bd.returns] at h; cases h)
         exact ⟨_, _, retN X0 hx (t := .char) Bd.returns (by simp) (hb hby d1_37) hr, hrun, hended, _, _, rfl, (show Qrmch Z pv h0 n0 _ s₁.heap _ from (by rw [e0]; exact ⟨(nar .char (52 : Int32)), rfl, N0, rfl, (by unfold own_lat; decide)⟩)), ⟨_, rfl⟩, hW, hsame.mono (by decide) (by decide)⟩
 · skip
   refine own_go (b := (s₁.setTop (mkF m 47 #[.val (.int pv), .unset] [(.int ((((pv.toUInt32 >>> ((9 : Int32) &&& 31).toUInt32).toInt32) &&& (255 : Int32)).toUInt32.toUInt16.toUInt32.toInt32))]))) (fun _ k => XS.ifYes X0.here hx rfl (pc0 := 5) (pc' := 38) rfl (hb hby d1_5) rfl ((if0 _ _).trans (feq hc5_1).2) (by decide) (by decide) (XS.iloadN X0.here hx rfl (hb hby d1_38) rfl (XS.bipush X0.here hx rfl (hb hby d1_39) (XS.iushr X0.here hx rfl (hb hby d1_41) rfl (XS.sipush X0.here hx rfl (hb hby d1_42) (XS.iand X0.here hx rfl (hb hby d1_45) rfl (XS.i2c X0.here hx rfl (hb hby d1_46) rfl k))))))) ?_
   obtain ⟨fs, hr, hrun, hended, hW, hsame⟩ := X0.leave (v := some (.int (nar .char ((((pv.toUInt32 >>> ((9 : Int32) &&& 31).toUInt32).toInt32) &&& (255 : Int32)).toUInt32.toUInt16.toUInt32.toInt32)))) (fun h => by rw [Bd.returns] at h; cases h)
   exact ⟨_, _, retN X0 hx (t := .char) Bd.returns (by simp) (hb hby d1_47) hr, hrun, hended, _, _, rfl, (show Qrmch Z pv h0 n0 _ s₁.heap _ from (by rw [e0]; exact ⟨(nar .char ((((pv.toUInt32 >>> ((9 : Int32) &&& 31).toUInt32).toInt32) &&& (255 : Int32)).toUInt32.toUInt16.toUInt32.toInt32)), rfl, N0, rfl, (own_l8 pv)⟩)), ⟨_, rfl⟩, hW, hsame.mono (by decide) (by decide)⟩
theorem d4_0 : decode jdk_42_method_149_code 0 = .ok (.aload_n 0, 1) := by decide +kernel
theorem d4_1 : decode jdk_42_method_149_code 1 = .ok (.invokespecial 1, 3) := by decide +kernel
theorem d4_4 : decode jdk_42_method_149_code 4 = .ok (.iload_n 3, 1) := by decide +kernel
theorem d4_5 : decode jdk_42_method_149_code 5 = .ok (.ifCond .ne 22, 3) := by decide +kernel
theorem d4_8 : decode jdk_42_method_149_code 8 = .ok (.aload_n 0, 1) := by decide +kernel
theorem d4_9 : decode jdk_42_method_149_code 9 = .ok (.ldc 7, 2) := by decide +kernel
theorem d4_11 : decode jdk_42_method_149_code 11 = .ok (.getfield 9, 3) := by decide +kernel
theorem d4_14 : decode jdk_42_method_149_code 14 = .ok (.putfield 9, 3) := by decide +kernel
theorem d4_17 : decode jdk_42_method_149_code 17 = .ok (.aload_n 0, 1) := by decide +kernel
theorem d4_18 : decode jdk_42_method_149_code 18 = .ok (.ldc 7, 2) := by decide +kernel
theorem d4_20 : decode jdk_42_method_149_code 20 = .ok (.getfield 15, 3) := by decide +kernel
theorem d4_23 : decode jdk_42_method_149_code 23 = .ok (.putfield 15, 3) := by decide +kernel
theorem d4_26 : decode jdk_42_method_149_code 26 = .ok (.return_, 1) := by decide +kernel
theorem d4_27 : decode jdk_42_method_149_code 27 = .ok (.getstatic 38, 3) := by decide +kernel
theorem d4_30 : decode jdk_42_method_149_code 30 = .ok (.ifCond .eq 28, 3) := by decide +kernel
theorem d4_33 : decode jdk_42_method_149_code 33 = .ok (.aload_n 1, 1) := by decide +kernel
theorem d4_34 : decode jdk_42_method_149_code 34 = .ok (.iload_n 2, 1) := by decide +kernel
theorem d4_35 : decode jdk_42_method_149_code 35 = .ok (.iload_n 3, 1) := by decide +kernel
theorem d4_36 : decode jdk_42_method_149_code 36 = .ok (.invokestatic 177, 3) := by decide +kernel
theorem d4_39 : decode jdk_42_method_149_code 39 = .ok (.astore 5, 2) := by decide +kernel
theorem d4_41 : decode jdk_42_method_149_code 41 = .ok (.aload_n 0, 1) := by decide +kernel
theorem d4_42 : decode jdk_42_method_149_code 42 = .ok (.aload 5, 2) := by decide +kernel
theorem d4_44 : decode jdk_42_method_149_code 44 = .ok (.iload_n 3, 1) := by decide +kernel
theorem d4_45 : decode jdk_42_method_149_code 45 = .ok (.invokestatic 47, 3) := by decide +kernel
theorem d4_48 : decode jdk_42_method_149_code 48 = .ok (.putfield 15, 3) := by decide +kernel
theorem d4_51 : decode jdk_42_method_149_code 51 = .ok (.aload_n 0, 1) := by decide +kernel
theorem d4_52 : decode jdk_42_method_149_code 52 = .ok (.aload 5, 2) := by decide +kernel
theorem d4_54 : decode jdk_42_method_149_code 54 = .ok (.putfield 9, 3) := by decide +kernel
theorem d4_57 : decode jdk_42_method_149_code 57 = .ok (.return_, 1) := by decide +kernel
theorem d4_58 : decode jdk_42_method_149_code 58 = .ok (.aload_n 0, 1) := by decide +kernel
theorem d4_59 : decode jdk_42_method_149_code 59 = .ok (.iconst 1, 1) := by decide +kernel
theorem d4_60 : decode jdk_42_method_149_code 60 = .ok (.putfield 15, 3) := by decide +kernel
theorem d4_63 : decode jdk_42_method_149_code 63 = .ok (.aload_n 0, 1) := by decide +kernel
theorem d4_64 : decode jdk_42_method_149_code 64 = .ok (.aload_n 1, 1) := by decide +kernel
theorem d4_65 : decode jdk_42_method_149_code 65 = .ok (.iload_n 2, 1) := by decide +kernel
theorem d4_66 : decode jdk_42_method_149_code 66 = .ok (.iload_n 3, 1) := by decide +kernel
theorem d4_67 : decode jdk_42_method_149_code 67 = .ok (.invokestatic 180, 3) := by decide +kernel
theorem d4_70 : decode jdk_42_method_149_code 70 = .ok (.putfield 9, 3) := by decide +kernel
theorem d4_73 : decode jdk_42_method_149_code 73 = .ok (.return_, 1) := by decide +kernel
theorem pn_4 : plainName "java/lang/String" = true := by first | (simp [plainName, overriddenIn]; done) | decide +kernel
theorem ef_rms3_0 (m : MethodId) (x0 : Addr) (x1 : Addr) (x2 : Int32) (x3 : Int32) : entryFrame m #[(.ref x0), (.ref x1), (.int x2), (.int x3), .null] 6 = mkF m 0 #[.val (.ref x0), .val (.ref x1), .val (.int x2), .val (.int x3), .val .null, .unset] [] := by first | (simp [entryFrame, mkF, argsToLocals, Value.category]; done) | rfl
def Qrms3_0 (Z : State) (a1 : Addr) (a2 : Addr) (k2 : ClassId) (cs : Int32) (h0 : Heap) (n0 : Nat) (v : Option Value) (h : Heap) (L : List Loc) : Prop := ∃ (b : Addr) (kb : ClassId), v = none ∧ Fr n0 L ∧ Keep h0 h [a1] ∧ (Fld Z h a1 "java/lang/String" "value" "[B" (.ref b)) ∧ (Fld Z h a1 "java/lang/String" "coder" "B" (.int (0 : Int32))) ∧ (Arv Z h b kb .byte (0 : Int32) [] (.int (0 : Int32)))
set_option maxRecDepth 65536 in
set_option maxHeartbeats 40000000 in
theorem rms3_0 (l : Launch) (Z : State) (a0 : Array Value) (hw : ∀ d ∈ tables_1, d.before a0 Z = true) (ws : List Jvm.Cond) (a1 : Addr) (a2 : Addr) (k2 : ClassId) (cs : Int32) (h0 : Heap) (n0 : Nat) (Z0 : n0 ≤ h0.size) (O0 : Old Z n0 h0) (S_COMPACT_STRINGS : Sta Z Z.heap "java/lang/String" "COMPACT_STRINGS" "Z" (.int cs)) (hcs : ¬ (cs = (0 : Int32))) (E_a1 : Exa Z h0 a1 "java/lang/String") (Fld_a1_value : Fld Z h0 a1 "java/lang/String" "value" "[B" .null) (Fld_a1_coder : Fld Z h0 a1 "java/lang/String" "coder" "B" (.int (0 : Int32))) (g_a1 : n0 ≤ a1) (V_a2 : Arv Z h0 a2 k2 .char (0 : Int32) [] (.int (0 : Int32))) :
    MetFree l (⟨"java/lang/String", "<init>", "([CIILjava/lang/Void;)V"⟩ : MethodName) (head1 (Jvm.Cond.code (⟨"java/lang/String", "<init>", "([CIILjava/lang/Void;)V"⟩ : MethodName) jdk_42_method_149_code 6 none :: ws) ({ frames := 1, cells := 2, slots := 4, locals := 12 } : Room)) (fun a U => a = #[(.ref a1), (.ref a2), (.int (0 : Int32)), (.int (0 : Int32)), .null] ∧ Z.Warmed39 U.vm ∧ U.heap = h0 ∧ CHv Z own_EL U.vm h0) (fun _ _ _ _ _ => True) (fun _ U o U' => ∃ v L, o = .returned v ∧ Qrms3_0 Z a1 a2 k2 cs h0 n0 v U'.heap L ∧ ReturnedEndW U o U' L ({ frames := 1, cells := 2, slots := 4, locals := 12 } : Room).cells ({ frames := 1, cells := 2, slots := 4, locals := 12 } : Room).slots) := by
 refine MetFree.of_bodySF (plainFor_of_name pn_4) hisR ?_
 intro p e s m args below meth c s₁ Bd hml0 hP hK
 obtain ⟨rfl, hZ, hh, hCH⟩ := hP
 have hx := Bd.exec
 have hby := Bd.bytes
 have hml : c.maxLocals = 6 := hml0
 have hown : s.vm.findClass "java/lang/String" = some m.cls := findClass_of_methodNamed Bd.named
 have hnm := (name_of_methodNamed Bd.named Bd.method).1
 have X0 : Stand p l e ({ frames := 1, cells := 2, slots := 4, locals := 12 } : Room) s m #[(.ref a1), (.ref a2), (.int (0 : Int32)), (.int (0 : Int32)), .null] below meth c s₁ [] 0 0 := Stand.of_body Bd
 have e0 : s₁.heap = h0 := by rw [← hh, Bd.state]; rfl
 have N0 := Fr.nil n0
 refine own_go (b := (s₁.setTop (mkF m 0 #[.val (.ref a1), .val (.ref a2), .val (.int (0 : Int32)), .val (.int (0 : Int32)), .val .null, .unset] []))) (fun _ k => castTop (ef_rms3_0 m a1 a2 (0 : Int32) (0 : Int32)) k) ?_
 refine own_go (b := (s₁.setTop (mkF m 1 #[.val (.ref a1), .val (.ref a2), .val (.int (0 : Int32)), .val (.int (0 : Int32)), .val .null, .unset] [(.ref a1)]))) (fun _ k => XS.aloadN X0.here hx rfl (hb hby d4_0) rfl rfl k) ?_
 obtain ⟨T1, X1, e1, st1⟩ := initO X0 hx hZ hown (hw _ (List.mem_of_getElem? (i := 19) rfl)) (hw _ (List.mem_of_getElem? (i := 20) rfl)) (hw _ (List.mem_of_getElem? (i := 21) rfl)) e0 (g := (mkF m 1 #[.val (.ref a1), .val (.ref a2), .val (.int (0 : Int32)), .val (.int (0 : Int32)), .val .null, .unset] [(.ref a1)])) rfl (by rw [hml]; rfl) rfl (hb hby d4_1) (by decide) (W := 0) (by show 2 * 0 + _ ≤ _; exact Nat.le_of_eq rfl) (by decide)
 refine own_go (b := (T1.setTop (mkF m 9 #[.val (.ref a1), .val (.ref a2), .val (.int (0 : Int32)), .val (.int (0 : Int32)), .val .null, .unset] [(.ref a1)]))) (fun _ k => st1 _ (XS.iloadN X1.here hx rfl (hb hby d4_4) rfl (XS.ifNo X1.here hx rfl (hb hby d4_5) rfl ((if0 _ _).trans (teq (rfl : (0 : Int32) = (0 : Int32))).2) (XS.aloadN X1.here hx rfl (hb hby d4_8) rfl rfl k)))) ?_
 obtain ⟨b2, T2, h2, kk2, bb2, kl2, X2, e2, E2, Sn2, hk2, hZ2, ho2, Ex2, Fc2, Fv2, V2, la2, lb2, -, Lt2, -, st2⟩ := ldcCH (s := s) (vm0 := s.vm) X1 hx hZ hown (hw _ (List.mem_of_getElem? (i := 22) rfl)) (own_wS hw) e1 ((State.WarmedH.refl s).since 0) (Nat.zero_le _) (own_EW hw) (List.mem_cons_self ..) hCH (vs := []) (z := 0) ⟨fun c q => by simp at q, rfl⟩ (by decide) (by decide) (g := (mkF m 9 #[.val (.ref a1), .val (.ref a2), .val (.int (0 : Int32)), .val (.int (0 : Int32)), .val .null, .unset] [(.ref a1)])) rfl (hb hby d4_9) (n := 0) (by decide) (by decide) (by decide) (by decide)
 have Zs3 : n0 ≤ h2.size := Nat.le_trans Z0 E2.1
 have hZ := hZ2
 have hown := ho2
 refine own_go (b := (T2.setTop (mkF m 11 #[.val (.ref a1), .val (.ref a2), .val (.int (0 : Int32)), .val (.int (0 : Int32)), .val .null, .unset] [(.ref b2), (.ref a1)]))) (fun _ k => st2 _ k) ?_
 have F4 := Fld_a1_value.ext E2
 have nel : a1 ≠ b2 := Fld.ne F4 Fv2 (by simp)
 refine own_getf X2 hx hZ hown (hw _ (List.mem_of_getElem? (i := 28) rfl)) Via.refl e2 Fv2 rfl rfl (hb hby d4_11) (fun T5 X5 e5 => ?_)
 have F6 := E_a1.ext E2
 obtain ⟨T7, h7, X7, e7, W7, st7⟩ := putF X5 hx hZ hown (host := "") (Or.inl (hw _ (List.mem_of_getElem? (i := 28) rfl))) Via.refl e5 F4 F6 (Or.inr ⟨(hw _ (List.mem_of_getElem? (i := 24) rfl)), rfl, hnm⟩) (hw _ (List.mem_of_getElem? (i := 9) rfl)) (ty := (.array .byte)) (by decide) rfl rfl (g := (mkF m 14 #[.val (.ref a1), .val (.ref a2), .val (.int (0 : Int32)), .val (.int (0 : Int32)), .val .null, .unset] [(.ref bb2), (.ref a1)])) rfl rfl (hb hby d4_14)
 have N7 := Fr.snoc X7 N0 g_a1
 have Zs8 : n0 ≤ h7.size := Nat.le_trans Zs3 (Keep.of_wr W7).1
 have F7 : Fld Z h7 a1 "java/lang/String" "value" "[B" (.ref bb2) := F4.same W7
 refine own_go (b := (T7.setTop (mkF m 20 #[.val (.ref a1), .val (.ref a2), .val (.int (0 : Int32)), .val (.int (0 : Int32)), .val .null, .unset] [(.ref b2), (.ref a1)]))) (fun _ k => st7 _ (XS.aloadN X7.here hx rfl (hb hby d4_17) rfl rfl (ldcAgain (s := s) X7 hx hZ hown (hw _ (List.mem_of_getElem? (i := 22) rfl)) Lt2 (g := (mkF m 18 #[.val (.ref a1), .val (.ref a2), .val (.int (0 : Int32)), .val (.int (0 : Int32)), .val .null, .unset] [(.ref a1)])) rfl (hb hby d4_18) _ k))) ?_
 have F10 := Fc2.other W7 (Or.inl (Ne.symm nel))
 refine own_getf X7 hx hZ hown (hw _ (List.mem_of_getElem? (i := 29) rfl)) Via.refl e7 F10 rfl rfl (hb hby d4_20) (fun T11 X11 e11 => ?_)
 have F12 := F6.wr W7
 have F13 := Fld_a1_coder.ext E2
 have F14 := F13.other W7 (Or.inr (slot_ne (Or.inr (hw _ (List.mem_of_getElem? (i := 25) rfl))) (Or.inr (hw _ (List.mem_of_getElem? (i := 24) rfl))) (by decide) (t := .byte) (t' := (.array .byte)) (by decide) (by decide)))
 obtain ⟨T15, h15, X15, e15, W15, st15⟩ := putFN X11 hx hZ hown (hw _ (List.mem_of_getElem? (i := 29) rfl)) Via.refl e11 F14 F12 (Or.inr ⟨(hw _ (List.mem_of_getElem? (i := 25) rfl)), rfl, hnm⟩) (hw _ (List.mem_of_getElem? (i := 9) rfl)) (ty := .byte) (v' := (.int (0 : Int32))) (by decide) rfl (by decide) (g := (mkF m 23 #[.val (.ref a1), .val (.ref a2), .val (.int (0 : Int32)), .val (.int (0 : Int32)), .val .null, .unset] [(.int (0 : Int32)), (.ref a1)])) rfl rfl (hb hby d4_23)
 have N15 := Fr.snoc X15 N7 g_a1
 have Zs16 : n0 ≤ h15.size := Nat.le_trans Zs8 (Keep.of_wr W15).1
 have F15 : Fld Z h15 a1 "java/lang/String" "coder" "B" (.int (0 : Int32)) := F14.same W15
 refine own_go (b := (T15.setTop (mkF m 26 #[.val (.ref a1), .val (.ref a2), .val (.int (0 : Int32)), .val (.int (0 : Int32)), .val .null, .unset] []))) (fun _ k => st15 _ k) ?_
 have K17 := (Keep.refl h0 [a1]).ext E2
 have K18 := K17.wr W7 (Or.inl (List.mem_of_getElem? (i := 0) rfl))
 have K19 := K18.wr W15 (Or.inl (List.mem_of_getElem? (i := 0) rfl))
 have F20 := F7.other W15 (Or.inr (slot_ne (Or.inr (hw _ (List.mem_of_getElem? (i := 24) rfl))) (Or.inr (hw _ (List.mem_of_getElem? (i := 25) rfl))) (by decide) (t := (.array .byte)) (t' := .byte) (by decide) (by decide)))
 obtain ⟨cn21, An21, -⟩ := id V2
 have nx22 : bb2 ≠ a1 := (Ne.symm (ne_arr F6 (hw _ (List.mem_of_getElem? (i := 9) rfl)) An21))
 have F23 := V2.other W7 nx22
 have F24 := F23.other W15 nx22
 obtain ⟨fs, hr, hrun, hended, hRE⟩ := Stand.leaveW (s := s) X15 Sn2 (by rw [e15]; exact Nat.le_trans hk2 (own_tr (Keep.of_wr W7).1 (Keep.of_wr W15).1)) (v := none) (fun _ => rfl)
 exact ⟨_, _, X15.returnOut hx Bd.returns (hb hby d4_26) hr, hrun, hended, _, _, rfl, (show Qrms3_0 Z a1 a2 k2 cs h0 n0 _ T15.heap _ from (by rw [e15]; exact ⟨bb2, kl2, rfl, N15, K19, F20, F15, F24⟩)), ⟨hRE.1, hRE.2.1, hRE.2.2.1, hRE.2.2.2.mono (by decide) (by decide)⟩⟩
theorem d3_0 : decode jdk_42_method_3_code 0 = .ok (.aload_n 0, 1) := by decide +kernel
theorem d3_1 : decode jdk_42_method_3_code 1 = .ok (.aload_n 1, 1) := by decide +kernel
theorem d3_2 : decode jdk_42_method_3_code 2 = .ok (.iconst 0, 1) := by decide +kernel
theorem d3_3 : decode jdk_42_method_3_code 3 = .ok (.aload_n 1, 1) := by decide +kernel
theorem d3_4 : decode jdk_42_method_3_code 4 = .ok (.arraylength, 1) := by decide +kernel
theorem d3_5 : decode jdk_42_method_3_code 5 = .ok (.aconst_null, 1) := by decide +kernel
theorem d3_6 : decode jdk_42_method_3_code 6 = .ok (.invokespecial 27, 3) := by decide +kernel
theorem d3_9 : decode jdk_42_method_3_code 9 = .ok (.return_, 1) := by decide +kernel
theorem pd___CIILjava_lang_Void__V : parseMethodDescriptor "([CIILjava/lang/Void;)V" = some ⟨[(.array .char), .int, .int, (.object "java/lang/Void")], none⟩ := by decide +kernel
theorem pn_3 : plainName "java/lang/String" = true := by first | (simp [plainName, overriddenIn]; done) | decide +kernel
theorem ef_rms2_0 (m : MethodId) (x0 : Addr) (x1 : Addr) : entryFrame m #[(.ref x0), (.ref x1)] 2 = mkF m 0 #[.val (.ref x0), .val (.ref x1)] [] := by first | (simp [entryFrame, mkF, argsToLocals, Value.category]; done) | rfl
def Qrms2_0 (Z : State) (a1 : Addr) (a2 : Addr) (k2 : ClassId) (cs : Int32) (h0 : Heap) (n0 : Nat) (v : Option Value) (h : Heap) (L : List Loc) : Prop := ∃ (b : Addr) (kb : ClassId), v = none ∧ Fr n0 L ∧ Keep h0 h [a1] ∧ (Fld Z h a1 "java/lang/String" "value" "[B" (.ref b)) ∧ (Fld Z h a1 "java/lang/String" "coder" "B" (.int (0 : Int32))) ∧ (Arv Z h b kb .byte (0 : Int32) [] (.int (0 : Int32)))
set_option maxRecDepth 65536 in
set_option maxHeartbeats 40000000 in
theorem rms2_0 (l : Launch) (Z : State) (a0 : Array Value) (hw : ∀ d ∈ tables_1, d.before a0 Z = true) (ws : List Jvm.Cond) (a1 : Addr) (a2 : Addr) (k2 : ClassId) (cs : Int32) (h0 : Heap) (n0 : Nat) (Z0 : n0 ≤ h0.size) (O0 : Old Z n0 h0) (S_COMPACT_STRINGS : Sta Z Z.heap "java/lang/String" "COMPACT_STRINGS" "Z" (.int cs)) (hcs : ¬ (cs = (0 : Int32))) (E_a1 : Exa Z h0 a1 "java/lang/String") (Fld_a1_value : Fld Z h0 a1 "java/lang/String" "value" "[B" .null) (Fld_a1_coder : Fld Z h0 a1 "java/lang/String" "coder" "B" (.int (0 : Int32))) (g_a1 : n0 ≤ a1) (V_a2 : Arv Z h0 a2 k2 .char (0 : Int32) [] (.int (0 : Int32))) :
    MetFree l (⟨"java/lang/String", "<init>", "([C)V"⟩ : MethodName) (head1 (Jvm.Cond.code (⟨"java/lang/String", "<init>", "([C)V"⟩ : MethodName) jdk_42_method_3_code 2 none :: ws) ({ frames := 2, cells := 2, slots := 4, locals := 29 } : Room)) (fun a U => a = #[(.ref a1), (.ref a2)] ∧ Z.Warmed39 U.vm ∧ U.heap = h0 ∧ CHv Z own_EL U.vm h0) (fun _ _ _ _ _ => True) (fun _ U o U' => ∃ v L, o = .returned v ∧ Qrms2_0 Z a1 a2 k2 cs h0 n0 v U'.heap L ∧ ReturnedEndW U o U' L ({ frames := 2, cells := 2, slots := 4, locals := 29 } : Room).cells ({ frames := 2, cells := 2, slots := 4, locals := 29 } : Room).slots) := by
 refine MetFree.of_bodySF (plainFor_of_name pn_3) hisR ?_
 intro p e s m args below meth c s₁ Bd hml0 hP hK
 obtain ⟨rfl, hZ, hh, hCH⟩ := hP
 have hx := Bd.exec
 have hby := Bd.bytes
 have hml : c.maxLocals = 2 := hml0
 have hown : s.vm.findClass "java/lang/String" = some m.cls := findClass_of_methodNamed Bd.named
 have hnm := (name_of_methodNamed Bd.named Bd.method).1
 have X0 : Stand p l e ({ frames := 2, cells := 2, slots := 4, locals := 29 } : Room) s m #[(.ref a1), (.ref a2)] below meth c s₁ [] 0 0 := Stand.of_body Bd
 have e0 : s₁.heap = h0 := by rw [← hh, Bd.state]; rfl
 have N0 := Fr.nil n0
 refine own_go (b := (s₁.setTop (mkF m 0 #[.val (.ref a1), .val (.ref a2)] []))) (fun _ k => castTop (ef_rms2_0 m a1 a2) k) ?_
 refine own_go (b := (s₁.setTop (mkF m 4 #[.val (.ref a1), .val (.ref a2)] [(.ref a2), (.int (0 : Int32)), (.ref a2), (.ref a1)]))) (fun _ k => XS.aloadN X0.here hx rfl (hb hby d3_0) rfl rfl (XS.aloadN X0.here hx rfl (hb hby d3_1) rfl rfl (XS.iconst X0.here hx rfl (hb hby d3_2) (XS.aloadN X0.here hx rfl (hb hby d3_3) rfl rfl k)))) ?_
 obtain ⟨cl1, Ar1, -, Sz1, Nn1, -, -⟩ := id V_a2
 refine own_go (b := (s₁.setTop (mkF m 6 #[.val (.ref a1), .val (.ref a2)] [.null, (.int (0 : Int32)), (.int (0 : Int32)), (.ref a2), (.ref a1)]))) (fun _ k => X0.arraylength hx (by rw [e0]; exact Ar1.1) (State.isArrayOf_alike hZ.alike Ar1.2.1) (g := (mkF m 4 #[.val (.ref a1), .val (.ref a2)] [(.ref a2), (.int (0 : Int32)), (.ref a2), (.ref a1)])) rfl rfl (hb hby d3_4) _ (by rw [len_of Sz1 Nn1]; exact (XS.aconstNull X0.here hx rfl (hb hby d3_5) k))) ?_
 refine own_specW (W := 0) X0 hx hZ hown e0 (hw _ (List.mem_of_getElem? (i := 15) rfl)) (hw _ (List.mem_of_getElem? (i := 16) rfl)) (rms3_0 l Z a0 hw [] a1 a2 k2 cs h0 n0 Z0 O0 S_COMPACT_STRINGS hcs E_a1 Fld_a1_value Fld_a1_coder g_a1 V_a2) (hw _ (List.mem_of_getElem? (i := 18) rfl)) (hw _ (List.mem_of_getElem? (i := 10) rfl)) rfl (by rw [hml]; rfl) rfl (hb hby d3_6) (lenOf pd___CIILjava_lang_Void__V rfl) rfl rfl (by decide) (own_EW hw) hCH (fun T2 v2 Ll2 X2 hQ2 Sn2 hZ2 ho2 => ?_)
 obtain ⟨b_2, kb_2, rfl, N2q, K2, P2_0, P2_1, P2_2⟩ := hQ2
 have N2 := Fr.app N0 N2q
 have Zs3 : n0 ≤ T2.heap.size := Nat.le_trans Z0 K2.1
 have hZ := hZ2
 have hown := ho2
 have K4 := (Keep.refl h0 [a1]).trans K2 (allS (Or.inl (List.mem_of_getElem? (i := 0) rfl)) all0)
 obtain ⟨fs, hr, hrun, hended, hRE⟩ := Stand.leaveW (s := s) X2 Sn2 (by exact Nat.le_trans (Nat.le_refl _) (Nat.le_refl _)) (v := none) (fun _ => rfl)
 exact ⟨_, _, X2.returnOut hx Bd.returns (hb hby d3_9) hr, hrun, hended, _, _, rfl, (show Qrms2_0 Z a1 a2 k2 cs h0 n0 _ T2.heap _ from (by exact ⟨b_2, kb_2, rfl, N2, K4, P2_0, P2_1, P2_2⟩)), ⟨hRE.1, hRE.2.1, hRE.2.2.1, hRE.2.2.2.mono (by decide) (by decide)⟩⟩
theorem d2_0 : decode method_3_code 0 = .ok (.iload_n 0, 1) := by decide +kernel
theorem d2_1 : decode method_3_code 1 = .ok (.ifCond .ne 14, 3) := by decide +kernel
theorem d2_4 : decode method_3_code 4 = .ok (.new 7, 3) := by decide +kernel
theorem d2_7 : decode method_3_code 7 = .ok (.dup, 1) := by decide +kernel
theorem d2_8 : decode method_3_code 8 = .ok (.iconst 0, 1) := by decide +kernel
theorem d2_9 : decode method_3_code 9 = .ok (.newarray .char, 2) := by decide +kernel
theorem d2_11 : decode method_3_code 11 = .ok (.invokespecial 9, 3) := by decide +kernel
theorem d2_14 : decode method_3_code 14 = .ok (.areturn, 1) := by decide +kernel
theorem d2_15 : decode method_3_code 15 = .ok (.iload_n 0, 1) := by decide +kernel
theorem d2_16 : decode method_3_code 16 = .ok (.iconst 1, 1) := by decide +kernel
theorem d2_17 : decode method_3_code 17 = .ok (.if_icmp .ne 18, 3) := by decide +kernel
theorem d2_20 : decode method_3_code 20 = .ok (.new 7, 3) := by decide +kernel
theorem d2_23 : decode method_3_code 23 = .ok (.dup, 1) := by decide +kernel
theorem d2_24 : decode method_3_code 24 = .ok (.iconst 1, 1) := by decide +kernel
theorem d2_25 : decode method_3_code 25 = .ok (.newarray .char, 2) := by decide +kernel
theorem d2_27 : decode method_3_code 27 = .ok (.dup, 1) := by decide +kernel
theorem d2_28 : decode method_3_code 28 = .ok (.iconst 0, 1) := by decide +kernel
theorem d2_29 : decode method_3_code 29 = .ok (.iload_n 1, 1) := by decide +kernel
theorem d2_30 : decode method_3_code 30 = .ok (.castore, 1) := by decide +kernel
theorem d2_31 : decode method_3_code 31 = .ok (.invokespecial 9, 3) := by decide +kernel
theorem d2_34 : decode method_3_code 34 = .ok (.areturn, 1) := by decide +kernel
theorem d2_35 : decode method_3_code 35 = .ok (.iload_n 0, 1) := by decide +kernel
theorem d2_36 : decode method_3_code 36 = .ok (.iconst 2, 1) := by decide +kernel
theorem d2_37 : decode method_3_code 37 = .ok (.if_icmp .ne 22, 3) := by decide +kernel
theorem d2_40 : decode method_3_code 40 = .ok (.new 7, 3) := by decide +kernel
theorem d2_43 : decode method_3_code 43 = .ok (.dup, 1) := by decide +kernel
theorem d2_44 : decode method_3_code 44 = .ok (.iconst 2, 1) := by decide +kernel
theorem d2_45 : decode method_3_code 45 = .ok (.newarray .char, 2) := by decide +kernel
theorem d2_47 : decode method_3_code 47 = .ok (.dup, 1) := by decide +kernel
theorem d2_48 : decode method_3_code 48 = .ok (.iconst 0, 1) := by decide +kernel
theorem d2_49 : decode method_3_code 49 = .ok (.iload_n 1, 1) := by decide +kernel
theorem d2_50 : decode method_3_code 50 = .ok (.castore, 1) := by decide +kernel
theorem d2_51 : decode method_3_code 51 = .ok (.dup, 1) := by decide +kernel
theorem d2_52 : decode method_3_code 52 = .ok (.iconst 1, 1) := by decide +kernel
theorem d2_53 : decode method_3_code 53 = .ok (.iload_n 2, 1) := by decide +kernel
theorem d2_54 : decode method_3_code 54 = .ok (.castore, 1) := by decide +kernel
theorem d2_55 : decode method_3_code 55 = .ok (.invokespecial 9, 3) := by decide +kernel
theorem d2_58 : decode method_3_code 58 = .ok (.areturn, 1) := by decide +kernel
theorem d2_59 : decode method_3_code 59 = .ok (.iload_n 0, 1) := by decide +kernel
theorem d2_60 : decode method_3_code 60 = .ok (.iconst 3, 1) := by decide +kernel
theorem d2_61 : decode method_3_code 61 = .ok (.if_icmp .ne 26, 3) := by decide +kernel
theorem d2_64 : decode method_3_code 64 = .ok (.new 7, 3) := by decide +kernel
theorem d2_67 : decode method_3_code 67 = .ok (.dup, 1) := by decide +kernel
theorem d2_68 : decode method_3_code 68 = .ok (.iconst 3, 1) := by decide +kernel
theorem d2_69 : decode method_3_code 69 = .ok (.newarray .char, 2) := by decide +kernel
theorem d2_71 : decode method_3_code 71 = .ok (.dup, 1) := by decide +kernel
theorem d2_72 : decode method_3_code 72 = .ok (.iconst 0, 1) := by decide +kernel
theorem d2_73 : decode method_3_code 73 = .ok (.iload_n 1, 1) := by decide +kernel
theorem d2_74 : decode method_3_code 74 = .ok (.castore, 1) := by decide +kernel
theorem d2_75 : decode method_3_code 75 = .ok (.dup, 1) := by decide +kernel
theorem d2_76 : decode method_3_code 76 = .ok (.iconst 1, 1) := by decide +kernel
theorem d2_77 : decode method_3_code 77 = .ok (.iload_n 2, 1) := by decide +kernel
theorem d2_78 : decode method_3_code 78 = .ok (.castore, 1) := by decide +kernel
theorem d2_79 : decode method_3_code 79 = .ok (.dup, 1) := by decide +kernel
theorem d2_80 : decode method_3_code 80 = .ok (.iconst 2, 1) := by decide +kernel
theorem d2_81 : decode method_3_code 81 = .ok (.iload_n 3, 1) := by decide +kernel
theorem d2_82 : decode method_3_code 82 = .ok (.castore, 1) := by decide +kernel
theorem d2_83 : decode method_3_code 83 = .ok (.invokespecial 9, 3) := by decide +kernel
theorem d2_86 : decode method_3_code 86 = .ok (.areturn, 1) := by decide +kernel
theorem d2_87 : decode method_3_code 87 = .ok (.new 7, 3) := by decide +kernel
theorem d2_90 : decode method_3_code 90 = .ok (.dup, 1) := by decide +kernel
theorem d2_91 : decode method_3_code 91 = .ok (.iconst 4, 1) := by decide +kernel
theorem d2_92 : decode method_3_code 92 = .ok (.newarray .char, 2) := by decide +kernel
theorem d2_94 : decode method_3_code 94 = .ok (.dup, 1) := by decide +kernel
theorem d2_95 : decode method_3_code 95 = .ok (.iconst 0, 1) := by decide +kernel
theorem d2_96 : decode method_3_code 96 = .ok (.iload_n 1, 1) := by decide +kernel
theorem d2_97 : decode method_3_code 97 = .ok (.castore, 1) := by decide +kernel
theorem d2_98 : decode method_3_code 98 = .ok (.dup, 1) := by decide +kernel
theorem d2_99 : decode method_3_code 99 = .ok (.iconst 1, 1) := by decide +kernel
theorem d2_100 : decode method_3_code 100 = .ok (.iload_n 2, 1) := by decide +kernel
theorem d2_101 : decode method_3_code 101 = .ok (.castore, 1) := by decide +kernel
theorem d2_102 : decode method_3_code 102 = .ok (.dup, 1) := by decide +kernel
theorem d2_103 : decode method_3_code 103 = .ok (.iconst 2, 1) := by decide +kernel
theorem d2_104 : decode method_3_code 104 = .ok (.iload_n 3, 1) := by decide +kernel
theorem d2_105 : decode method_3_code 105 = .ok (.castore, 1) := by decide +kernel
theorem d2_106 : decode method_3_code 106 = .ok (.dup, 1) := by decide +kernel
theorem d2_107 : decode method_3_code 107 = .ok (.iconst 3, 1) := by decide +kernel
theorem d2_108 : decode method_3_code 108 = .ok (.iload 4, 2) := by decide +kernel
theorem d2_110 : decode method_3_code 110 = .ok (.castore, 1) := by decide +kernel
theorem d2_111 : decode method_3_code 111 = .ok (.invokespecial 9, 3) := by decide +kernel
theorem d2_114 : decode method_3_code 114 = .ok (.areturn, 1) := by decide +kernel
theorem pd___C_V : parseMethodDescriptor "([C)V" = some ⟨[(.array .char)], none⟩ := by decide +kernel
theorem pn_2 : plainName "com/example/keyclasp/keyclasp/protocol/ProtocolVersionOfPinLaw" = true := by first | (simp [plainName, overriddenIn]; done) | decide +kernel
theorem ef_rmmk_0 (m : MethodId) (x0 : Int32) (x1 : Int32) (x2 : Int32) (x3 : Int32) (x4 : Int32) : entryFrame m #[(.int x0), (.int x1), (.int x2), (.int x3), (.int x4)] 5 = mkF m 0 #[.val (.int x0), .val (.int x1), .val (.int x2), .val (.int x3), .val (.int x4)] [] := by first | (simp [entryFrame, mkF, argsToLocals, Value.category]; done) | rfl
def Qrmmk_0 (Z : State) (c0 : Int32) (c1 : Int32) (c2 : Int32) (c3 : Int32) (cs : Int32) (h0 : Heap) (n0 : Nat) (v : Option Value) (h : Heap) (L : List Loc) : Prop := ∃ (a : Addr) (b : Addr) (kb : ClassId), v = some (.ref a) ∧ Fr n0 L ∧ Keep h0 h [] ∧ (h0.size ≤ a) ∧ (Exa Z h a "java/lang/String") ∧ (Fld Z h a "java/lang/String" "value" "[B" (.ref b)) ∧ (Fld Z h a "java/lang/String" "coder" "B" (.int (0 : Int32))) ∧ (Arv Z h b kb .byte (0 : Int32) [] (.int (0 : Int32)))
set_option maxRecDepth 65536 in
set_option maxHeartbeats 40000000 in
theorem rmmk_0 (l : Launch) (Z : State) (a0 : Array Value) (hw : ∀ d ∈ tables_1, d.before a0 Z = true) (ws : List Jvm.Cond) (c0 : Int32) (c1 : Int32) (c2 : Int32) (c3 : Int32) (cs : Int32) (h0 : Heap) (n0 : Nat) (Z0 : n0 ≤ h0.size) (O0 : Old Z n0 h0) (S_COMPACT_STRINGS : Sta Z Z.heap "java/lang/String" "COMPACT_STRINGS" "Z" (.int cs)) (hcs : ¬ (cs = (0 : Int32))) (hl0 : own_lat c0) (hl1 : own_lat c1) (hl2 : own_lat c2) (hl3 : own_lat c3) :
    MetFree l (⟨"com/example/keyclasp/keyclasp/protocol/ProtocolVersionOfPinLaw", "make", "(ICCCC)Ljava/lang/String;"⟩ : MethodName) (head1 (Jvm.Cond.code (⟨"com/example/keyclasp/keyclasp/protocol/ProtocolVersionOfPinLaw", "make", "(ICCCC)Ljava/lang/String;"⟩ : MethodName) method_3_code 5 (some (.object "java/lang/String")) :: ws) ({ frames := 3, cells := 4, slots := 8, locals := 43 } : Room)) (fun a U => a = #[(.int (0 : Int32)), (.int c0), (.int c1), (.int c2), (.int c3)] ∧ Z.Warmed39 U.vm ∧ U.heap = h0 ∧ CHv Z own_EL U.vm h0) (fun _ _ _ _ _ => True) (fun _ U o U' => ∃ v L, o = .returned v ∧ Qrmmk_0 Z c0 c1 c2 c3 cs h0 n0 v U'.heap L ∧ ReturnedEndW U o U' L ({ frames := 3, cells := 4, slots := 8, locals := 43 } : Room).cells ({ frames := 3, cells := 4, slots := 8, locals := 43 } : Room).slots) := by
 refine MetFree.of_bodySF (plainFor_of_name pn_2) hisR ?_
 intro p e s m args below meth c s₁ Bd hml0 hP hK
 obtain ⟨rfl, hZ, hh, hCH⟩ := hP
 have hx := Bd.exec
 have hby := Bd.bytes
 have hml : c.maxLocals = 5 := hml0
 have hown : s.vm.findClass "com/example/keyclasp/keyclasp/protocol/ProtocolVersionOfPinLaw" = some m.cls := findClass_of_methodNamed Bd.named
 have hnm := (name_of_methodNamed Bd.named Bd.method).1
 have X0 : Stand p l e ({ frames := 3, cells := 4, slots := 8, locals := 43 } : Room) s m #[(.int (0 : Int32)), (.int c0), (.int c1), (.int c2), (.int c3)] below meth c s₁ [] 0 0 := Stand.of_body Bd
 have e0 : s₁.heap = h0 := by rw [← hh, Bd.state]; rfl
 have N0 := Fr.nil n0
 refine own_go (b := (s₁.setTop (mkF m 0 #[.val (.int (0 : Int32)), .val (.int c0), .val (.int c1), .val (.int c2), .val (.int c3)] []))) (fun _ k => castTop (ef_rmmk_0 m (0 : Int32) c0 c1 c2 c3) k) ?_
 refine own_go (b := (s₁.setTop (mkF m 4 #[.val (.int (0 : Int32)), .val (.int c0), .val (.int c1), .val (.int c2), .val (.int c3)] []))) (fun _ k => XS.iloadN X0.here hx rfl (hb hby d2_0) rfl (XS.ifNo X0.here hx rfl (hb hby d2_1) rfl ((if0 _ _).trans (teq (rfl : (0 : Int32) = (0 : Int32))).2) k)) ?_
 obtain ⟨T1, h1, X1, e1, E1, A1, D1, Un1, st1⟩ := newO X0 hx hZ hown (hw _ (List.mem_of_getElem? (i := 8) rfl)) (hw _ (List.mem_of_getElem? (i := 9) rfl)) (hw _ (List.mem_of_getElem? (i := 10) rfl)) e0 (g := (mkF m 4 #[.val (.int (0 : Int32)), .val (.int c0), .val (.int c1), .val (.int c2), .val (.int c3)] [])) rfl (hb hby d2_4) (by decide) (by decide)
 obtain ⟨b1, g1⟩ : ∃ z, z = h0.size := ⟨_, rfl⟩
 rw [← g1] at A1 D1 Un1 st1
 have Zs2 : n0 ≤ h1.size := Nat.le_trans Z0 E1.1
 have F1_value : Fld Z h1 b1 "java/lang/String" "value" "[B" .null := D1 (Or.inr (hw _ (List.mem_of_getElem? (i := 24) rfl))) (ty := (.array .byte)) (by decide)
 have F1_coder : Fld Z h1 b1 "java/lang/String" "coder" "B" (.int (0 : Int32)) := D1 (Or.inr (hw _ (List.mem_of_getElem? (i := 25) rfl))) (ty := .byte) (by decide)
 refine own_go (b := (T1.setTop (mkF m 9 #[.val (.int (0 : Int32)), .val (.int c0), .val (.int c1), .val (.int c2), .val (.int c3)] [(.int (0 : Int32)), (.ref b1), (.ref b1)]))) (fun _ k => st1 _ (XS.dup X1.here hx rfl (hb hby d2_7) rfl rfl (XS.iconst X1.here hx rfl (hb hby d2_8) k))) ?_
 obtain ⟨T3, h3, kl3, X3, e3, E3, A3, st3⟩ := newP X1 hx hZ (hw _ (List.mem_of_getElem? (i := 11) rfl)) e1 (g := (mkF m 9 #[.val (.int (0 : Int32)), .val (.int c0), .val (.int c1), .val (.int c2), .val (.int c3)] [(.int (0 : Int32)), (.ref b1), (.ref b1)])) rfl (hb hby d2_9) rfl (by decide) (cap := 0) (by decide) (by decide) (by decide) (by decide)
 obtain ⟨b3, g3⟩ : ∃ z, z = h1.size := ⟨_, rfl⟩
 rw [← g3] at A3 st3
 have Zs4 : n0 ≤ h3.size := Nat.le_trans Zs2 E3.1
 have V3 : Arv Z h3 b3 kl3 .char (0 : Int32) [] (.int (0 : Int32)) := (Arv.new A3 (by decide)).pad (pad_rep [] (.int (0 : Int32)) 0)
 refine own_go (b := (T3.setTop (mkF m 11 #[.val (.int (0 : Int32)), .val (.int c0), .val (.int c1), .val (.int c2), .val (.int c3)] [(.ref b3), (.ref b1), (.ref b1)]))) (fun _ k => st3 _ k) ?_
 have O6 := O0.ext E1
 have O7 := O6.ext E3
 have F8 := A1.ext E3
 have F9 := F1_value.ext E3
 have F10 := F1_coder.ext E3
 have gx11 : n0 ≤ b1 := Nat.le_trans Z0 (Nat.le_of_eq g1.symm)
 have CH12 := CHv.ext E1 hCH
 have CH13 := CHv.ext E3 CH12
 refine own_specW (W := 1) X3 hx hZ hown e3 (hw _ (List.mem_of_getElem? (i := 12) rfl)) (hw _ (List.mem_of_getElem? (i := 13) rfl)) (rms2_0 l Z a0 hw [] b1 b3 kl3 cs h3 n0 Zs4 O7 S_COMPACT_STRINGS hcs F8 F9 F10 gx11 V3) (hw _ (List.mem_of_getElem? (i := 14) rfl)) (hw _ (List.mem_of_getElem? (i := 10) rfl)) rfl (by rw [hml]; rfl) rfl (hb hby d2_11) (lenOf pd___C_V rfl) rfl rfl (by decide) (own_EW hw) CH13 (fun T5 v5 Ll5 X5 hQ5 Sn5 hZ5 ho5 => ?_)
 obtain ⟨b_5, kb_5, rfl, N5q, K5, P5_0, P5_1, P5_2⟩ := hQ5
 have N5 := Fr.app N0 N5q
 have Zs14 : n0 ≤ T5.heap.size := Nat.le_trans Zs4 K5.1
 have hZ := hZ5
 have hown := ho5
 have K15 := (Keep.refl h0 []).ext E1
 have K16 := K15.ext E3
 have K17 := K16.trans K5 (allS (Or.inr (Nat.le_trans (Nat.le_refl _) (Nat.le_of_eq g1.symm))) all0)
 have F18 := F8.keep K5
 obtain ⟨fs, hr, hrun, hended, hRE⟩ := Stand.leaveW (s := s) X5 Sn5 (by exact Nat.le_trans (Nat.le_refl _) (Nat.le_refl _)) (v := some (.ref b1)) (fun h => by rw [Bd.returns] at h; cases h)
 exact ⟨_, _, retOut X5 hx Bd.returns rfl (Or.inr (Or.inr (Or.inr (Or.inr ⟨rfl, rfl, rfl⟩)))) (hb hby d2_14) hr, hrun, hended, _, _, rfl, (show Qrmmk_0 Z c0 c1 c2 c3 cs h0 n0 _ T5.heap _ from (by exact ⟨b1, b_5, kb_5, rfl, N5, K17, (Nat.le_trans (Nat.le_refl _) (Nat.le_of_eq g1.symm)), F18, P5_0, P5_1, P5_2⟩)), ⟨hRE.1, hRE.2.1, hRE.2.2.1, hRE.2.2.2.mono (by decide) (by decide)⟩⟩
theorem d13_0 : decode jdk_52_method_21_code 0 = .ok (.iconst 0, 1) := by decide +kernel
theorem d13_1 : decode jdk_52_method_21_code 1 = .ok (.istore 5, 2) := by decide +kernel
theorem d13_3 : decode jdk_52_method_21_code 3 = .ok (.iload 5, 2) := by decide +kernel
theorem d13_5 : decode jdk_52_method_21_code 5 = .ok (.iload 4, 2) := by decide +kernel
theorem d13_7 : decode jdk_52_method_21_code 7 = .ok (.if_icmp .ge 37, 3) := by decide +kernel
theorem d13_10 : decode jdk_52_method_21_code 10 = .ok (.aload_n 0, 1) := by decide +kernel
theorem d13_11 : decode jdk_52_method_21_code 11 = .ok (.iload_n 1, 1) := by decide +kernel
theorem d13_12 : decode jdk_52_method_21_code 12 = .ok (.caload, 1) := by decide +kernel
theorem d13_13 : decode jdk_52_method_21_code 13 = .ok (.istore 6, 2) := by decide +kernel
theorem d13_15 : decode jdk_52_method_21_code 15 = .ok (.iload 6, 2) := by decide +kernel
theorem d13_17 : decode jdk_52_method_21_code 17 = .ok (.sipush 255, 3) := by decide +kernel
theorem d13_20 : decode jdk_52_method_21_code 20 = .ok (.if_icmp .le 6, 3) := by decide +kernel
theorem d13_23 : decode jdk_52_method_21_code 23 = .ok (.iload 5, 2) := by decide +kernel
theorem d13_25 : decode jdk_52_method_21_code 25 = .ok (.ireturn, 1) := by decide +kernel
theorem d13_26 : decode jdk_52_method_21_code 26 = .ok (.aload_n 2, 1) := by decide +kernel
theorem d13_27 : decode jdk_52_method_21_code 27 = .ok (.iload_n 3, 1) := by decide +kernel
theorem d13_28 : decode jdk_52_method_21_code 28 = .ok (.iload 6, 2) := by decide +kernel
theorem d13_30 : decode jdk_52_method_21_code 30 = .ok (.i2b, 1) := by decide +kernel
theorem d13_31 : decode jdk_52_method_21_code 31 = .ok (.bastore, 1) := by decide +kernel
theorem d13_32 : decode jdk_52_method_21_code 32 = .ok (.iinc 1 1, 3) := by decide +kernel
theorem d13_35 : decode jdk_52_method_21_code 35 = .ok (.iinc 3 1, 3) := by decide +kernel
theorem d13_38 : decode jdk_52_method_21_code 38 = .ok (.iinc 5 1, 3) := by decide +kernel
theorem d13_41 : decode jdk_52_method_21_code 41 = .ok (.goto (-38), 3) := by decide +kernel
theorem d13_44 : decode jdk_52_method_21_code 44 = .ok (.iload 4, 2) := by decide +kernel
theorem d13_46 : decode jdk_52_method_21_code 46 = .ok (.ireturn, 1) := by decide +kernel
theorem pn_13 : plainName "java/lang/StringUTF16" = true := by first | (simp [plainName, overriddenIn]; done) | decide +kernel
theorem ef_rmc6_1 (m : MethodId) (x0 : Addr) (x1 : Int32) (x2 : Addr) (x3 : Int32) (x4 : Int32) : entryFrame m #[(.ref x0), (.int x1), (.ref x2), (.int x3), (.int x4)] 7 = mkF m 0 #[.val (.ref x0), .val (.int x1), .val (.ref x2), .val (.int x3), .val (.int x4), .unset, .unset] [] := by first | (simp [entryFrame, mkF, argsToLocals, Value.category]; done) | rfl
def Qrmc6_1 (Z : State) (a2 : Addr) (k2 : ClassId) (a3 : Addr) (k3 : ClassId) (c0 : Int32) (x0 : Int32) (h0 : Heap) (n0 : Nat) (v : Option Value) (h : Heap) (L : List Loc) : Prop := v = some (.int (1 : Int32)) ∧ Fr n0 L ∧ Keep h0 h [a3] ∧ (Arv Z h a3 k3 .byte (1 : Int32) [(.int (own_lt c0))] (.int (0 : Int32)))
set_option maxRecDepth 65536 in
set_option maxHeartbeats 40000000 in
theorem rmc6_1 (l : Launch) (Z : State) (a0 : Array Value) (hw : ∀ d ∈ tables_1, d.before a0 Z = true) (ws : List Jvm.Cond) (a2 : Addr) (k2 : ClassId) (a3 : Addr) (k3 : ClassId) (c0 : Int32) (x0 : Int32) (h0 : Heap) (n0 : Nat) (Z0 : n0 ≤ h0.size) (V_a2 : Arv Z h0 a2 k2 .char (1 : Int32) [(.int c0)] (.int (0 : Int32))) (V_a3 : Arv Z h0 a3 k3 .byte (1 : Int32) [(.int x0)] (.int (0 : Int32))) (g_a3 : n0 ≤ a3) (ne_a2_a3 : a2 ≠ a3) (hn0 : ¬ ((255 : Int32) < c0)) :
    MetFree l (⟨"java/lang/StringUTF16", "compress", "([CI[BII)I"⟩ : MethodName) (head1 (Jvm.Cond.code (⟨"java/lang/StringUTF16", "compress", "([CI[BII)I"⟩ : MethodName) jdk_52_method_21_code 7 (some .int) :: ws) ({ frames := 0, cells := 0, slots := 0, locals := 0 } : Room)) (fun a U => a = #[(.ref a2), (.int (0 : Int32)), (.ref a3), (.int (0 : Int32)), (.int (1 : Int32))] ∧ Z.Warmed39 U.vm ∧ U.heap = h0) (fun _ _ _ _ _ => True) (fun _ U o U' => ∃ v L, o = .returned v ∧ Qrmc6_1 Z a2 k2 a3 k3 c0 x0 h0 n0 v U'.heap L ∧ FrameEnd U o U' L ({ frames := 0, cells := 0, slots := 0, locals := 0 } : Room).cells ({ frames := 0, cells := 0, slots := 0, locals := 0 } : Room).slots) := by
 refine MetFree.of_bodySF (plainFor_of_name pn_13) hisR ?_
 intro p e s m args below meth c s₁ Bd hml0 hP hK
 obtain ⟨rfl, hZ, hh⟩ := hP
 have hx := Bd.exec
 have hby := Bd.bytes
 have hml : c.maxLocals = 7 := hml0
 have hown : s.vm.findClass "java/lang/StringUTF16" = some m.cls := findClass_of_methodNamed Bd.named
 have hnm := (name_of_methodNamed Bd.named Bd.method).1
 have X0 : Stand p l e ({ frames := 0, cells := 0, slots := 0, locals := 0 } : Room) s m #[(.ref a2), (.int (0 : Int32)), (.ref a3), (.int (0 : Int32)), (.int (1 : Int32))] below meth c s₁ [] 0 0 := Stand.of_body Bd
 have e0 : s₁.heap = h0 := by rw [← hh, Bd.state]; rfl
 have N0 := Fr.nil n0
 refine own_go (b := (s₁.setTop (mkF m 0 #[.val (.ref a2), .val (.int (0 : Int32)), .val (.ref a3), .val (.int (0 : Int32)), .val (.int (1 : Int32)), .unset, .unset] []))) (fun _ k => castTop (ef_rmc6_1 m a2 (0 : Int32) a3 (0 : Int32) (1 : Int32)) k) ?_
 refine own_go (b := (s₁.setTop (mkF m 12 #[.val (.ref a2), .val (.int (0 : Int32)), .val (.ref a3), .val (.int (0 : Int32)), .val (.int (1 : Int32)), .val (.int (0 : Int32)), .unset] [(.int (0 : Int32)), (.ref a2)]))) (fun _ k => XS.iconst X0.here hx rfl (hb hby d13_0) (XS.istore X0.here hx rfl (hb hby d13_1) rfl (l' := #[.val (.ref a2), .val (.int (0 : Int32)), .val (.ref a3), .val (.int (0 : Int32)), .val (.int (1 : Int32)), .val (.int (0 : Int32)), .unset]) rfl (XS.iload X0.here hx rfl (hb hby d13_3) rfl (XS.iload X0.here hx rfl (hb hby d13_5) rfl (XS.icmpNo X0.here hx rfl (hb hby d13_7) rfl (tlt (by decide : (0 : Int32) < (1 : Int32))).2.1 (XS.aloadN X0.here hx rfl (hb hby d13_10) rfl rfl (XS.iloadN X0.here hx rfl (hb hby d13_11) rfl k))))))) ?_
 obtain ⟨cl1, Ar1, ql1, Sz1, Nn1, Hl1, Gl1⟩ := id V_a2
 have hin1 : ¬ ((0 : Int32) < 0 ∨ cl1.slots.size ≤ ((0 : Int32)).toNatClampNeg) := inb_of Sz1 ⟨by decide, by decide⟩
 refine own_go (b := (s₁.setTop (mkF m 31 #[.val (.ref a2), .val (.int (0 : Int32)), .val (.ref a3), .val (.int (0 : Int32)), .val (.int (1 : Int32)), .val (.int (0 : Int32)), .val (.int c0)] [(.int (c0.toInt8.toInt32)), (.int (0 : Int32)), (.ref a3)]))) (fun _ k => X0.caload hx (j := (0 : Int32)) (v := (.int c0)) (by rw [e0]; exact Ar1.1) (State.isArrayOf_alike hZ.alike Ar1.2.1) Ar1.2.2 hin1 (Hl1.at hin1 rfl) (g := (mkF m 12 #[.val (.ref a2), .val (.int (0 : Int32)), .val (.ref a3), .val (.int (0 : Int32)), .val (.int (1 : Int32)), .val (.int (0 : Int32)), .unset] [(.int (0 : Int32)), (.ref a2)])) rfl rfl (hb hby d13_12) _ (XS.istore X0.here hx rfl (hb hby d13_13) rfl (l' := #[.val (.ref a2), .val (.int (0 : Int32)), .val (.ref a3), .val (.int (0 : Int32)), .val (.int (1 : Int32)), .val (.int (0 : Int32)), .val (.int c0)]) rfl (XS.iload X0.here hx rfl (hb hby d13_15) rfl (XS.sipush X0.here hx rfl (hb hby d13_17) (XS.icmpYes X0.here hx rfl (pc0 := 20) (pc' := 26) rfl (hb hby d13_20) rfl (flt hn0).2.2.2 (by decide) (by decide) (XS.aloadN X0.here hx rfl (hb hby d13_26) rfl rfl (XS.iloadN X0.here hx rfl (hb hby d13_27) rfl (XS.iload X0.here hx rfl (hb hby d13_28) rfl (XS.i2b X0.here hx rfl (hb hby d13_30) rfl k))))))))) ?_
 obtain ⟨cl2, Ar2, ql2, Sz2, Nn2, Hl2, Gl2⟩ := id V_a3
 have hin2 : ¬ ((0 : Int32) < 0 ∨ cl2.slots.size ≤ ((0 : Int32)).toNatClampNeg) := inb_of Sz2 ⟨by decide, by decide⟩
 obtain ⟨T2, h2, X2, e2, W2, st2⟩ := stB X0 hx hZ e0 Ar2 (j := (0 : Int32)) hin2 (g := (mkF m 31 #[.val (.ref a2), .val (.int (0 : Int32)), .val (.ref a3), .val (.int (0 : Int32)), .val (.int (1 : Int32)), .val (.int (0 : Int32)), .val (.int c0)] [(.int (c0.toInt8.toInt32)), (.int (0 : Int32)), (.ref a3)])) rfl rfl (hb hby d13_31)
 have N2 := Fr.snoc X2 N0 g_a3
 have Zs3 : n0 ≤ h2.size := Nat.le_trans Z0 (Keep.of_wr W2).1
 have V2 : Arv Z h2 a3 k3 .byte (1 : Int32) [(.int (own_lt c0))] (.int (0 : Int32)) := Arv.set Ar2 ql2 Sz2 Nn2 Hl2 Gl2 (fits_nar_byte _) W2 0 rfl (Nat.le_of_ble_eq_true rfl)
 refine own_go (b := (T2.setTop (mkF m 46 #[.val (.ref a2), .val (.int (1 : Int32)), .val (.ref a3), .val (.int (1 : Int32)), .val (.int (1 : Int32)), .val (.int (1 : Int32)), .val (.int c0)] [(.int (1 : Int32))]))) (fun _ k => st2 _ (XS.iinc X2.here hx rfl (hb hby d13_32) rfl (l' := #[.val (.ref a2), .val (.int (1 : Int32)), .val (.ref a3), .val (.int (0 : Int32)), .val (.int (1 : Int32)), .val (.int (0 : Int32)), .val (.int c0)]) rfl (XS.iinc X2.here hx rfl (hb hby d13_35) rfl (l' := #[.val (.ref a2), .val (.int (1 : Int32)), .val (.ref a3), .val (.int (1 : Int32)), .val (.int (1 : Int32)), .val (.int (0 : Int32)), .val (.int c0)]) rfl (XS.iinc X2.here hx rfl (hb hby d13_38) rfl (l' := #[.val (.ref a2), .val (.int (1 : Int32)), .val (.ref a3), .val (.int (1 : Int32)), .val (.int (1 : Int32)), .val (.int (1 : Int32)), .val (.int c0)]) rfl (XS.goto X2.here hx rfl (pc0 := 41) (pc' := 3) rfl (hb hby d13_41) (by decide) (by decide) (XS.iload X2.here hx rfl (hb hby d13_3) rfl (XS.iload X2.here hx rfl (hb hby d13_5) rfl (XS.icmpYes X2.here hx rfl (pc0 := 7) (pc' := 44) rfl (hb hby d13_7) rfl (flt (by decide : ¬ ((1 : Int32) < (1 : Int32)))).2.1 (by decide) (by decide) (XS.iload X2.here hx rfl (hb hby d13_44) rfl k))))))))) ?_
 have K4 := (Keep.refl h0 [a3]).wr W2 (Or.inl (List.mem_of_getElem? (i := 0) rfl))
 obtain ⟨fs, hr, hrun, hended, hW, hsame⟩ := X2.leave (v := some (.int (1 : Int32))) (fun h => by rw [Bd.returns] at h; cases h)
 exact ⟨_, _, retOut X2 hx Bd.returns rfl (Or.inl ⟨rfl, Or.inl rfl, _, rfl⟩) (hb hby d13_46) hr, hrun, hended, _, _, rfl, (show Qrmc6_1 Z a2 k2 a3 k3 c0 x0 h0 n0 _ T2.heap _ from (by rw [e2]; exact ⟨rfl, N2, K4, V2⟩)), ⟨_, rfl⟩, hW, hsame.mono (by decide) (by decide)⟩
theorem d12_0 : decode jdk_52_method_16_code 0 = .ok (.iload_n 2, 1) := by decide +kernel
theorem d12_1 : decode jdk_52_method_16_code 1 = .ok (.newarray .byte, 2) := by decide +kernel
theorem d12_3 : decode jdk_52_method_16_code 3 = .ok (.astore_n 3, 1) := by decide +kernel
theorem d12_4 : decode jdk_52_method_16_code 4 = .ok (.aload_n 0, 1) := by decide +kernel
theorem d12_5 : decode jdk_52_method_16_code 5 = .ok (.iload_n 1, 1) := by decide +kernel
theorem d12_6 : decode jdk_52_method_16_code 6 = .ok (.aload_n 3, 1) := by decide +kernel
theorem d12_7 : decode jdk_52_method_16_code 7 = .ok (.iconst 0, 1) := by decide +kernel
theorem d12_8 : decode jdk_52_method_16_code 8 = .ok (.iload_n 2, 1) := by decide +kernel
theorem d12_9 : decode jdk_52_method_16_code 9 = .ok (.invokestatic 115, 3) := by decide +kernel
theorem d12_12 : decode jdk_52_method_16_code 12 = .ok (.istore 4, 2) := by decide +kernel
theorem d12_14 : decode jdk_52_method_16_code 14 = .ok (.iload 4, 2) := by decide +kernel
theorem d12_16 : decode jdk_52_method_16_code 16 = .ok (.iload_n 2, 1) := by decide +kernel
theorem d12_17 : decode jdk_52_method_16_code 17 = .ok (.if_icmp .eq 40, 3) := by decide +kernel
theorem d12_20 : decode jdk_52_method_16_code 20 = .ok (.aload_n 0, 1) := by decide +kernel
theorem d12_21 : decode jdk_52_method_16_code 21 = .ok (.iload_n 1, 1) := by decide +kernel
theorem d12_22 : decode jdk_52_method_16_code 22 = .ok (.iload_n 2, 1) := by decide +kernel
theorem d12_23 : decode jdk_52_method_16_code 23 = .ok (.invokestatic 119, 3) := by decide +kernel
theorem d12_26 : decode jdk_52_method_16_code 26 = .ok (.astore 5, 2) := by decide +kernel
theorem d12_28 : decode jdk_52_method_16_code 28 = .ok (.aload 5, 2) := by decide +kernel
theorem d12_30 : decode jdk_52_method_16_code 30 = .ok (.iload 4, 2) := by decide +kernel
theorem d12_32 : decode jdk_52_method_16_code 32 = .ok (.invokestatic 71, 3) := by decide +kernel
theorem d12_35 : decode jdk_52_method_16_code 35 = .ok (.sipush 255, 3) := by decide +kernel
theorem d12_38 : decode jdk_52_method_16_code 38 = .ok (.if_icmp .gt 16, 3) := by decide +kernel
theorem d12_41 : decode jdk_52_method_16_code 41 = .ok (.aload 5, 2) := by decide +kernel
theorem d12_43 : decode jdk_52_method_16_code 43 = .ok (.iconst 0, 1) := by decide +kernel
theorem d12_44 : decode jdk_52_method_16_code 44 = .ok (.aload_n 3, 1) := by decide +kernel
theorem d12_45 : decode jdk_52_method_16_code 45 = .ok (.iconst 0, 1) := by decide +kernel
theorem d12_46 : decode jdk_52_method_16_code 46 = .ok (.iload_n 2, 1) := by decide +kernel
theorem d12_47 : decode jdk_52_method_16_code 47 = .ok (.invokestatic 123, 3) := by decide +kernel
theorem d12_50 : decode jdk_52_method_16_code 50 = .ok (.iload_n 2, 1) := by decide +kernel
theorem d12_51 : decode jdk_52_method_16_code 51 = .ok (.if_icmp .eq 6, 3) := by decide +kernel
theorem d12_54 : decode jdk_52_method_16_code 54 = .ok (.aload 5, 2) := by decide +kernel
theorem d12_56 : decode jdk_52_method_16_code 56 = .ok (.areturn, 1) := by decide +kernel
theorem d12_57 : decode jdk_52_method_16_code 57 = .ok (.aload_n 3, 1) := by decide +kernel
theorem d12_58 : decode jdk_52_method_16_code 58 = .ok (.areturn, 1) := by decide +kernel
theorem pd___CI_BII_I : parseMethodDescriptor "([CI[BII)I" = some ⟨[(.array .char), .int, (.array .byte), .int, .int], some .int⟩ := by decide +kernel
theorem pn_12 : plainName "java/lang/StringUTF16" = true := by first | (simp [plainName, overriddenIn]; done) | decide +kernel
theorem ef_rmc5_1 (m : MethodId) (x0 : Addr) (x1 : Int32) (x2 : Int32) : entryFrame m #[(.ref x0), (.int x1), (.int x2)] 6 = mkF m 0 #[.val (.ref x0), .val (.int x1), .val (.int x2), .unset, .unset, .unset] [] := by first | (simp [entryFrame, mkF, argsToLocals, Value.category]; done) | rfl
def Qrmc5_1 (Z : State) (a2 : Addr) (k2 : ClassId) (c0 : Int32) (h0 : Heap) (n0 : Nat) (v : Option Value) (h : Heap) (L : List Loc) : Prop := ∃ (b : Addr) (kb : ClassId), v = some (.ref b) ∧ Fr n0 L ∧ Keep h0 h [] ∧ (h0.size ≤ b) ∧ (Arv Z h b kb .byte (1 : Int32) [(.int (own_lt c0))] (.int (0 : Int32)))
set_option maxRecDepth 65536 in
set_option maxHeartbeats 40000000 in
theorem rmc5_1 (l : Launch) (Z : State) (a0 : Array Value) (hw : ∀ d ∈ tables_1, d.before a0 Z = true) (ws : List Jvm.Cond) (a2 : Addr) (k2 : ClassId) (c0 : Int32) (h0 : Heap) (n0 : Nat) (Z0 : n0 ≤ h0.size) (V_a2 : Arv Z h0 a2 k2 .char (1 : Int32) [(.int c0)] (.int (0 : Int32))) (hn0 : ¬ ((255 : Int32) < c0)) :
    MetFree l (⟨"java/lang/StringUTF16", "compress", "([CII)[B"⟩ : MethodName) (head1 (Jvm.Cond.code (⟨"java/lang/StringUTF16", "compress", "([CII)[B"⟩ : MethodName) jdk_52_method_16_code 6 (some (.array .byte)) :: ws) ({ frames := 1, cells := 1, slots := 1, locals := 18 } : Room)) (fun a U => a = #[(.ref a2), (.int (0 : Int32)), (.int (1 : Int32))] ∧ Z.Warmed39 U.vm ∧ U.heap = h0) (fun _ _ _ _ _ => True) (fun _ U o U' => ∃ v L, o = .returned v ∧ Qrmc5_1 Z a2 k2 c0 h0 n0 v U'.heap L ∧ FrameEnd U o U' L ({ frames := 1, cells := 1, slots := 1, locals := 18 } : Room).cells ({ frames := 1, cells := 1, slots := 1, locals := 18 } : Room).slots) := by
 refine MetFree.of_bodySF (plainFor_of_name pn_12) hisR ?_
 intro p e s m args below meth c s₁ Bd hml0 hP hK
 obtain ⟨rfl, hZ, hh⟩ := hP
 have hx := Bd.exec
 have hby := Bd.bytes
 have hml : c.maxLocals = 6 := hml0
 have hown : s.vm.findClass "java/lang/StringUTF16" = some m.cls := findClass_of_methodNamed Bd.named
 have hnm := (name_of_methodNamed Bd.named Bd.method).1
 have X0 : Stand p l e ({ frames := 1, cells := 1, slots := 1, locals := 18 } : Room) s m #[(.ref a2), (.int (0 : Int32)), (.int (1 : Int32))] below meth c s₁ [] 0 0 := Stand.of_body Bd
 have e0 : s₁.heap = h0 := by rw [← hh, Bd.state]; rfl
 have N0 := Fr.nil n0
 refine own_go (b := (s₁.setTop (mkF m 0 #[.val (.ref a2), .val (.int (0 : Int32)), .val (.int (1 : Int32)), .unset, .unset, .unset] []))) (fun _ k => castTop (ef_rmc5_1 m a2 (0 : Int32) (1 : Int32)) k) ?_
 refine own_go (b := (s₁.setTop (mkF m 1 #[.val (.ref a2), .val (.int (0 : Int32)), .val (.int (1 : Int32)), .unset, .unset, .unset] [(.int (1 : Int32))]))) (fun _ k => XS.iloadN X0.here hx rfl (hb hby d12_0) rfl k) ?_
 obtain ⟨T1, h1, kl1, X1, e1, E1, A1, st1⟩ := newP X0 hx hZ (hw _ (List.mem_of_getElem? (i := 23) rfl)) e0 (g := (mkF m 1 #[.val (.ref a2), .val (.int (0 : Int32)), .val (.int (1 : Int32)), .unset, .unset, .unset] [(.int (1 : Int32))])) rfl (hb hby d12_1) rfl (by decide) (cap := 1) (by decide) (by decide) (by decide) (by decide)
 obtain ⟨b1, g1⟩ : ∃ z, z = h0.size := ⟨_, rfl⟩
 rw [← g1] at A1 st1
 have Zs2 : n0 ≤ h1.size := Nat.le_trans Z0 E1.1
 have V1 : Arv Z h1 b1 kl1 .byte (1 : Int32) [(.int (0 : Int32))] (.int (0 : Int32)) := (Arv.new A1 (by decide)).pad (pad_rep [] (.int (0 : Int32)) 1)
 refine own_go (b := (T1.setTop (mkF m 9 #[.val (.ref a2), .val (.int (0 : Int32)), .val (.int (1 : Int32)), .val (.ref b1), .unset, .unset] [(.int (1 : Int32)), (.int (0 : Int32)), (.ref b1), (.int (0 : Int32)), (.ref a2)]))) (fun _ k => st1 _ (XS.astoreN X1.here hx rfl (hb hby d12_3) rfl rfl (l' := #[.val (.ref a2), .val (.int (0 : Int32)), .val (.int (1 : Int32)), .val (.ref b1), .unset, .unset]) rfl (XS.aloadN X1.here hx rfl (hb hby d12_4) rfl rfl (XS.iloadN X1.here hx rfl (hb hby d12_5) rfl (XS.aloadN X1.here hx rfl (hb hby d12_6) rfl rfl (XS.iconst X1.here hx rfl (hb hby d12_7) (XS.iloadN X1.here hx rfl (hb hby d12_8) rfl k))))))) ?_
 have F4 := V_a2.ext E1
 have gx5 : n0 ≤ b1 := Nat.le_trans Z0 (Nat.le_of_eq g1.symm)
 have nx6 : a2 ≠ b1 := (own_ne V_a2.lt (Nat.le_refl _) (Nat.le_of_eq g1.symm))
 refine own_stat (W := 0) X1 hx hZ hown e1 (hw _ (List.mem_of_getElem? (i := 80) rfl)) (hw _ (List.mem_of_getElem? (i := 81) rfl)) (rmc6_1 l Z a0 hw [] a2 k2 b1 kl1 c0 (0 : Int32) h1 n0 Zs2 F4 V1 gx5 nx6 hn0) (hw _ (List.mem_of_getElem? (i := 82) rfl)) (hw _ (List.mem_of_getElem? (i := 78) rfl)) rfl (by rw [hml]; rfl) rfl (hb hby d12_9) (lenOf pd___CI_BII_I rfl) rfl (by decide) (fun T3 v3 Ll3 X3 hQ3 => ?_)
 obtain ⟨rfl, N3q, K3, P3_0⟩ := hQ3
 have N3 := Fr.app N0 N3q
 have Zs7 : n0 ≤ T3.heap.size := Nat.le_trans Zs2 K3.1
 refine own_go (b := (T3.setTop (mkF m 58 #[.val (.ref a2), .val (.int (0 : Int32)), .val (.int (1 : Int32)), .val (.ref b1), .val (.int (1 : Int32)), .unset] [(.ref b1)]))) (fun _ k => XS.istore X3.here hx rfl (hb hby d12_12) rfl (l' := #[.val (.ref a2), .val (.int (0 : Int32)), .val (.int (1 : Int32)), .val (.ref b1), .val (.int (1 : Int32)), .unset]) rfl (XS.iload X3.here hx rfl (hb hby d12_14) rfl (XS.iloadN X3.here hx rfl (hb hby d12_16) rfl (XS.icmpYes X3.here hx rfl (pc0 := 17) (pc' := 57) rfl (hb hby d12_17) rfl (teq (rfl : (1 : Int32) = (1 : Int32))).1 (by decide) (by decide) (XS.aloadN X3.here hx rfl (hb hby d12_57) rfl rfl k))))) ?_
 have K8 := (Keep.refl h0 []).ext E1
 have K9 := K8.trans K3 (allS (Or.inr (Nat.le_trans (Nat.le_refl _) (Nat.le_of_eq g1.symm))) all0)
 obtain ⟨fs, hr, hrun, hended, hW, hsame⟩ := X3.leave (v := some (.ref b1)) (fun h => by rw [Bd.returns] at h; cases h)
 exact ⟨_, _, retOut X3 hx Bd.returns rfl (Or.inr (Or.inr (Or.inr (Or.inr ⟨rfl, rfl, rfl⟩)))) (hb hby d12_58) hr, hrun, hended, _, _, rfl, (show Qrmc5_1 Z a2 k2 c0 h0 n0 _ T3.heap _ from (by exact ⟨b1, kl1, rfl, N3, K9, (Nat.le_trans (Nat.le_refl _) (Nat.le_of_eq g1.symm)), P3_0⟩)), ⟨_, rfl⟩, hW, hsame.mono (by decide) (by decide)⟩
theorem d14_0 : decode jdk_52_method_15_code 0 = .ok (.iload_n 1, 1) := by decide +kernel
theorem d14_1 : decode jdk_52_method_15_code 1 = .ok (.aload_n 0, 1) := by decide +kernel
theorem d14_2 : decode jdk_52_method_15_code 2 = .ok (.arraylength, 1) := by decide +kernel
theorem d14_3 : decode jdk_52_method_15_code 3 = .ok (.isub, 1) := by decide +kernel
theorem d14_4 : decode jdk_52_method_15_code 4 = .ok (.bipush 31, 2) := by decide +kernel
theorem d14_6 : decode jdk_52_method_15_code 6 = .ok (.iushr, 1) := by decide +kernel
theorem d14_7 : decode jdk_52_method_15_code 7 = .ok (.i2b, 1) := by decide +kernel
theorem d14_8 : decode jdk_52_method_15_code 8 = .ok (.ireturn, 1) := by decide +kernel
theorem pn_14 : plainName "java/lang/StringUTF16" = true := by first | (simp [plainName, overriddenIn]; done) | decide +kernel
theorem ef_rmcd_1 (m : MethodId) (x0 : Addr) (x1 : Int32) : entryFrame m #[(.ref x0), (.int x1)] 2 = mkF m 0 #[.val (.ref x0), .val (.int x1)] [] := by first | (simp [entryFrame, mkF, argsToLocals, Value.category]; done) | rfl
def Qrmcd_1 (Z : State) (a3 : Addr) (k3 : ClassId) (x0 : Int32) (h0 : Heap) (n0 : Nat) (v : Option Value) (h : Heap) (L : List Loc) : Prop := v = some (.int (0 : Int32)) ∧ Fr n0 L ∧ h = h0
set_option maxRecDepth 65536 in
set_option maxHeartbeats 40000000 in
theorem rmcd_1 (l : Launch) (Z : State) (a0 : Array Value) (hw : ∀ d ∈ tables_1, d.before a0 Z = true) (ws : List Jvm.Cond) (a3 : Addr) (k3 : ClassId) (x0 : Int32) (h0 : Heap) (n0 : Nat) (Z0 : n0 ≤ h0.size) (V_a3 : Arv Z h0 a3 k3 .byte (1 : Int32) [(.int x0)] (.int (0 : Int32))) :
    MetFree l (⟨"java/lang/StringUTF16", "coderFromArrayLen", "([BI)B"⟩ : MethodName) (head1 (Jvm.Cond.code (⟨"java/lang/StringUTF16", "coderFromArrayLen", "([BI)B"⟩ : MethodName) jdk_52_method_15_code 2 (some .byte) :: ws) ({ frames := 0, cells := 0, slots := 0, locals := 0 } : Room)) (fun a U => a = #[(.ref a3), (.int (1 : Int32))] ∧ Z.Warmed39 U.vm ∧ U.heap = h0) (fun _ _ _ _ _ => True) (fun _ U o U' => ∃ v L, o = .returned v ∧ Qrmcd_1 Z a3 k3 x0 h0 n0 v U'.heap L ∧ FrameEnd U o U' L ({ frames := 0, cells := 0, slots := 0, locals := 0 } : Room).cells ({ frames := 0, cells := 0, slots := 0, locals := 0 } : Room).slots) := by
 refine MetFree.of_bodySF (plainFor_of_name pn_14) hisR ?_
 intro p e s m args below meth c s₁ Bd hml0 hP hK
 obtain ⟨rfl, hZ, hh⟩ := hP
 have hx := Bd.exec
 have hby := Bd.bytes
 have hml : c.maxLocals = 2 := hml0
 have hown : s.vm.findClass "java/lang/StringUTF16" = some m.cls := findClass_of_methodNamed Bd.named
 have hnm := (name_of_methodNamed Bd.named Bd.method).1
 have X0 : Stand p l e ({ frames := 0, cells := 0, slots := 0, locals := 0 } : Room) s m #[(.ref a3), (.int (1 : Int32))] below meth c s₁ [] 0 0 := Stand.of_body Bd
 have e0 : s₁.heap = h0 := by rw [← hh, Bd.state]; rfl
 have N0 := Fr.nil n0
 refine own_go (b := (s₁.setTop (mkF m 0 #[.val (.ref a3), .val (.int (1 : Int32))] []))) (fun _ k => castTop (ef_rmcd_1 m a3 (1 : Int32)) k) ?_
 refine own_go (b := (s₁.setTop (mkF m 2 #[.val (.ref a3), .val (.int (1 : Int32))] [(.ref a3), (.int (1 : Int32))]))) (fun _ k => XS.iloadN X0.here hx rfl (hb hby d14_0) rfl (XS.aloadN X0.here hx rfl (hb hby d14_1) rfl rfl k)) ?_
 obtain ⟨cl1, Ar1, -, Sz1, Nn1, -, -⟩ := id V_a3
 refine own_go (b := (s₁.setTop (mkF m 8 #[.val (.ref a3), .val (.int (1 : Int32))] [(.int ((0 : Int32).toInt8.toInt32))]))) (fun _ k => X0.arraylength hx (by rw [e0]; exact Ar1.1) (State.isArrayOf_alike hZ.alike Ar1.2.1) (g := (mkF m 2 #[.val (.ref a3), .val (.int (1 : Int32))] [(.ref a3), (.int (1 : Int32))])) rfl rfl (hb hby d14_2) _ (by rw [len_of Sz1 Nn1]; exact (XS.isub X0.here hx rfl (hb hby d14_3) rfl (XS.bipush X0.here hx rfl (hb hby d14_4) (XS.iushr X0.here hx rfl (hb hby d14_6) rfl (XS.i2b X0.here hx rfl (hb hby d14_7) rfl k)))))) ?_
 obtain ⟨fs, hr, hrun, hended, hW, hsame⟩ := X0.leave (v := some (.int (nar .byte ((0 : Int32).toInt8.toInt32)))) (fun h => by rw [Bd.returns] at h; cases h)
 exact ⟨_, _, retN X0 hx (t := .byte) Bd.returns (by simp) (hb hby d14_8) hr, hrun, hended, _, _, rfl, (show Qrmcd_1 Z a3 k3 x0 h0 n0 _ s₁.heap _ from (by rw [e0]; exact ⟨rfl, N0, rfl⟩)), ⟨_, rfl⟩, hW, hsame.mono (by decide) (by decide)⟩
theorem pd___CII__B : parseMethodDescriptor "([CII)[B" = some ⟨[(.array .char), .int, .int], some (.array .byte)⟩ := by decide +kernel
theorem pd___BI_B : parseMethodDescriptor "([BI)B" = some ⟨[(.array .byte), .int], some .byte⟩ := by decide +kernel
theorem ef_rms3_1 (m : MethodId) (x0 : Addr) (x1 : Addr) (x2 : Int32) (x3 : Int32) : entryFrame m #[(.ref x0), (.ref x1), (.int x2), (.int x3), .null] 6 = mkF m 0 #[.val (.ref x0), .val (.ref x1), .val (.int x2), .val (.int x3), .val .null, .unset] [] := by first | (simp [entryFrame, mkF, argsToLocals, Value.category]; done) | rfl
def Qrms3_1 (Z : State) (a1 : Addr) (a2 : Addr) (k2 : ClassId) (c0 : Int32) (cs : Int32) (h0 : Heap) (n0 : Nat) (v : Option Value) (h : Heap) (L : List Loc) : Prop := ∃ (b : Addr) (kb : ClassId), v = none ∧ Fr n0 L ∧ Keep h0 h [a1] ∧ (Fld Z h a1 "java/lang/String" "value" "[B" (.ref b)) ∧ (Fld Z h a1 "java/lang/String" "coder" "B" (.int (0 : Int32))) ∧ (Arv Z h b kb .byte (1 : Int32) [(.int (own_lt c0))] (.int (0 : Int32)))
set_option maxRecDepth 65536 in
set_option maxHeartbeats 40000000 in
theorem rms3_1 (l : Launch) (Z : State) (a0 : Array Value) (hw : ∀ d ∈ tables_1, d.before a0 Z = true) (ws : List Jvm.Cond) (a1 : Addr) (a2 : Addr) (k2 : ClassId) (c0 : Int32) (cs : Int32) (h0 : Heap) (n0 : Nat) (Z0 : n0 ≤ h0.size) (O0 : Old Z n0 h0) (S_COMPACT_STRINGS : Sta Z Z.heap "java/lang/String" "COMPACT_STRINGS" "Z" (.int cs)) (hcs : ¬ (cs = (0 : Int32))) (E_a1 : Exa Z h0 a1 "java/lang/String") (Fld_a1_value : Fld Z h0 a1 "java/lang/String" "value" "[B" .null) (Fld_a1_coder : Fld Z h0 a1 "java/lang/String" "coder" "B" (.int (0 : Int32))) (g_a1 : n0 ≤ a1) (V_a2 : Arv Z h0 a2 k2 .char (1 : Int32) [(.int c0)] (.int (0 : Int32))) (hn0 : ¬ ((255 : Int32) < c0)) :
    MetFree l (⟨"java/lang/String", "<init>", "([CIILjava/lang/Void;)V"⟩ : MethodName) (head1 (Jvm.Cond.code (⟨"java/lang/String", "<init>", "([CIILjava/lang/Void;)V"⟩ : MethodName) jdk_42_method_149_code 6 none :: ws) ({ frames := 2, cells := 1, slots := 1, locals := 35 } : Room)) (fun a U => a = #[(.ref a1), (.ref a2), (.int (0 : Int32)), (.int (1 : Int32)), .null] ∧ Z.Warmed39 U.vm ∧ U.heap = h0) (fun _ _ _ _ _ => True) (fun _ U o U' => ∃ v L, o = .returned v ∧ Qrms3_1 Z a1 a2 k2 c0 cs h0 n0 v U'.heap L ∧ FrameEnd U o U' L ({ frames := 2, cells := 1, slots := 1, locals := 35 } : Room).cells ({ frames := 2, cells := 1, slots := 1, locals := 35 } : Room).slots) := by
 refine MetFree.of_bodySF (plainFor_of_name pn_4) hisR ?_
 intro p e s m args below meth c s₁ Bd hml0 hP hK
 obtain ⟨rfl, hZ, hh⟩ := hP
 have hx := Bd.exec
 have hby := Bd.bytes
 have hml : c.maxLocals = 6 := hml0
 have hown : s.vm.findClass "java/lang/String" = some m.cls := findClass_of_methodNamed Bd.named
 have hnm := (name_of_methodNamed Bd.named Bd.method).1
 have X0 : Stand p l e ({ frames := 2, cells := 1, slots := 1, locals := 35 } : Room) s m #[(.ref a1), (.ref a2), (.int (0 : Int32)), (.int (1 : Int32)), .null] below meth c s₁ [] 0 0 := Stand.of_body Bd
 have e0 : s₁.heap = h0 := by rw [← hh, Bd.state]; rfl
 have N0 := Fr.nil n0
 refine own_go (b := (s₁.setTop (mkF m 0 #[.val (.ref a1), .val (.ref a2), .val (.int (0 : Int32)), .val (.int (1 : Int32)), .val .null, .unset] []))) (fun _ k => castTop (ef_rms3_1 m a1 a2 (0 : Int32) (1 : Int32)) k) ?_
 refine own_go (b := (s₁.setTop (mkF m 1 #[.val (.ref a1), .val (.ref a2), .val (.int (0 : Int32)), .val (.int (1 : Int32)), .val .null, .unset] [(.ref a1)]))) (fun _ k => XS.aloadN X0.here hx rfl (hb hby d4_0) rfl rfl k) ?_
 obtain ⟨T1, X1, e1, st1⟩ := initO X0 hx hZ hown (hw _ (List.mem_of_getElem? (i := 19) rfl)) (hw _ (List.mem_of_getElem? (i := 20) rfl)) (hw _ (List.mem_of_getElem? (i := 21) rfl)) e0 (g := (mkF m 1 #[.val (.ref a1), .val (.ref a2), .val (.int (0 : Int32)), .val (.int (1 : Int32)), .val .null, .unset] [(.ref a1)])) rfl (by rw [hml]; rfl) rfl (hb hby d4_1) (by decide) (W := 0) (by show 2 * 0 + _ ≤ _; exact Nat.le_of_eq rfl) (by decide)
 refine own_go (b := (T1.setTop (mkF m 27 #[.val (.ref a1), .val (.ref a2), .val (.int (0 : Int32)), .val (.int (1 : Int32)), .val .null, .unset] []))) (fun _ k => st1 _ (XS.iloadN X1.here hx rfl (hb hby d4_4) rfl (XS.ifYes X1.here hx rfl (pc0 := 5) (pc' := 27) rfl (hb hby d4_5) rfl ((if0 _ _).trans (feq (by decide : ¬ ((1 : Int32) = (0 : Int32)))).2) (by decide) (by decide) k))) ?_
 obtain ⟨T2, X2, e2, st2⟩ := getS2 X1 hx hZ hown (host := "") (Or.inl (hw _ (List.mem_of_getElem? (i := 59) rfl))) Via.refl e1 (S_COMPACT_STRINGS.ext O0.2) (g := (mkF m 27 #[.val (.ref a1), .val (.ref a2), .val (.int (0 : Int32)), .val (.int (1 : Int32)), .val .null, .unset] [])) rfl (hb hby d4_27)
 refine own_go (b := (T2.setTop (mkF m 36 #[.val (.ref a1), .val (.ref a2), .val (.int (0 : Int32)), .val (.int (1 : Int32)), .val .null, .unset] [(.int (1 : Int32)), (.int (0 : Int32)), (.ref a2)]))) (fun _ k => st2 _ (XS.ifNo X2.here hx rfl (hb hby d4_30) rfl ((if0 _ _).trans (feq hcs).1) (XS.aloadN X2.here hx rfl (hb hby d4_33) rfl rfl (XS.iloadN X2.here hx rfl (hb hby d4_34) rfl (XS.iloadN X2.here hx rfl (hb hby d4_35) rfl k))))) ?_
 refine own_stat (W := 0) X2 hx hZ hown e2 (hw _ (List.mem_of_getElem? (i := 76) rfl)) (hw _ (List.mem_of_getElem? (i := 77) rfl)) (rmc5_1 l Z a0 hw [] a2 k2 c0 h0 n0 Z0 V_a2 hn0) (hw _ (List.mem_of_getElem? (i := 79) rfl)) (hw _ (List.mem_of_getElem? (i := 78) rfl)) rfl (by rw [hml]; rfl) rfl (hb hby d4_36) (lenOf pd___CII__B rfl) rfl (by decide) (fun T3 v3 Ll3 X3 hQ3 => ?_)
 obtain ⟨b_3, kb_3, rfl, N3q, K3, P3_0, P3_1⟩ := hQ3
 have N3 := Fr.app N0 N3q
 have Zs4 : n0 ≤ T3.heap.size := Nat.le_trans Z0 K3.1
 refine own_go (b := (T3.setTop (mkF m 45 #[.val (.ref a1), .val (.ref a2), .val (.int (0 : Int32)), .val (.int (1 : Int32)), .val .null, .val (.ref b_3)] [(.int (1 : Int32)), (.ref b_3), (.ref a1)]))) (fun _ k => XS.astore X3.here hx rfl (hb hby d4_39) rfl rfl (l' := #[.val (.ref a1), .val (.ref a2), .val (.int (0 : Int32)), .val (.int (1 : Int32)), .val .null, .val (.ref b_3)]) rfl (XS.aloadN X3.here hx rfl (hb hby d4_41) rfl rfl (XS.aload X3.here hx rfl (hb hby d4_42) rfl rfl (XS.iloadN X3.here hx rfl (hb hby d4_44) rfl k)))) ?_
 refine own_stat (W := 1) X3 hx hZ hown rfl (hw _ (List.mem_of_getElem? (i := 83) rfl)) (hw _ (List.mem_of_getElem? (i := 84) rfl)) (rmcd_1 l Z a0 hw [] b_3 kb_3 (own_lt c0) T3.heap n0 Zs4 P3_1) (hw _ (List.mem_of_getElem? (i := 85) rfl)) (hw _ (List.mem_of_getElem? (i := 78) rfl)) rfl (by rw [hml]; rfl) rfl (hb hby d4_45) (lenOf pd___BI_B rfl) rfl (by decide) (fun T5 v5 Ll5 X5 hQ5 => ?_)
 obtain ⟨rfl, N5q, eh5⟩ := hQ5
 have N5 := Fr.app N3 N5q
 have F6 := E_a1.keep K3
 have F7 := Fld_a1_coder.keep K3 nin0
 obtain ⟨T8, h8, X8, e8, W8, st8⟩ := putFN X5 hx hZ hown (hw _ (List.mem_of_getElem? (i := 29) rfl)) Via.refl eh5 F7 F6 (Or.inr ⟨(hw _ (List.mem_of_getElem? (i := 25) rfl)), rfl, hnm⟩) (hw _ (List.mem_of_getElem? (i := 9) rfl)) (ty := .byte) (v' := (.int (0 : Int32))) (by decide) rfl (by decide) (g := (mkF m 48 #[.val (.ref a1), .val (.ref a2), .val (.int (0 : Int32)), .val (.int (1 : Int32)), .val .null, .val (.ref b_3)] [(.int (0 : Int32)), (.ref a1)])) rfl rfl (hb hby d4_48)
 have N8 := Fr.snoc X8 N5 g_a1
 have Zs9 : n0 ≤ h8.size := Nat.le_trans Zs4 (Keep.of_wr W8).1
 have F8 : Fld Z h8 a1 "java/lang/String" "coder" "B" (.int (0 : Int32)) := F7.same W8
 refine own_go (b := (T8.setTop (mkF m 54 #[.val (.ref a1), .val (.ref a2), .val (.int (0 : Int32)), .val (.int (1 : Int32)), .val .null, .val (.ref b_3)] [(.ref b_3), (.ref a1)]))) (fun _ k => st8 _ (XS.aloadN X8.here hx rfl (hb hby d4_51) rfl rfl (XS.aload X8.here hx rfl (hb hby d4_52) rfl rfl k))) ?_
 have F10 := F6.wr W8
 have F11 := Fld_a1_value.keep K3 nin0
 have F12 := F11.other W8 (Or.inr (slot_ne (Or.inr (hw _ (List.mem_of_getElem? (i := 24) rfl))) (Or.inr (hw _ (List.mem_of_getElem? (i := 25) rfl))) (by decide) (t := (.array .byte)) (t' := .byte) (by decide) (by decide)))
 obtain ⟨T13, h13, X13, e13, W13, st13⟩ := putF X8 hx hZ hown (host := "") (Or.inl (hw _ (List.mem_of_getElem? (i := 28) rfl))) Via.refl e8 F12 F10 (Or.inr ⟨(hw _ (List.mem_of_getElem? (i := 24) rfl)), rfl, hnm⟩) (hw _ (List.mem_of_getElem? (i := 9) rfl)) (ty := (.array .byte)) (by decide) rfl rfl (g := (mkF m 54 #[.val (.ref a1), .val (.ref a2), .val (.int (0 : Int32)), .val (.int (1 : Int32)), .val .null, .val (.ref b_3)] [(.ref b_3), (.ref a1)])) rfl rfl (hb hby d4_54)
 have N13 := Fr.snoc X13 N8 g_a1
 have Zs14 : n0 ≤ h13.size := Nat.le_trans Zs9 (Keep.of_wr W13).1
 have F13 : Fld Z h13 a1 "java/lang/String" "value" "[B" (.ref b_3) := F12.same W13
 refine own_go (b := (T13.setTop (mkF m 57 #[.val (.ref a1), .val (.ref a2), .val (.int (0 : Int32)), .val (.int (1 : Int32)), .val .null, .val (.ref b_3)] []))) (fun _ k => st13 _ k) ?_
 have K15 := (Keep.refl h0 [a1]).trans K3 all0
 have K16 := K15.wr W8 (Or.inl (List.mem_of_getElem? (i := 0) rfl))
 have K17 := K16.wr W13 (Or.inl (List.mem_of_getElem? (i := 0) rfl))
 have F18 := F8.other W13 (Or.inr (slot_ne (Or.inr (hw _ (List.mem_of_getElem? (i := 25) rfl))) (Or.inr (hw _ (List.mem_of_getElem? (i := 24) rfl))) (by decide) (t := .byte) (t' := (.array .byte)) (by decide) (by decide)))
 have nx19 : b_3 ≠ a1 := (Ne.symm (own_ne E_a1.lt (Nat.le_refl _) P3_0))
 have F20 := P3_1.other W8 nx19
 have F21 := F20.other W13 nx19
 obtain ⟨fs, hr, hrun, hended, hW, hsame⟩ := X13.leave (v := none) (fun _ => rfl)
 exact ⟨_, _, X13.returnOut hx Bd.returns (hb hby d4_57) hr, hrun, hended, _, _, rfl, (show Qrms3_1 Z a1 a2 k2 c0 cs h0 n0 _ T13.heap _ from (by rw [e13]; exact ⟨b_3, kb_3, rfl, N13, K17, F13, F18, F21⟩)), ⟨_, rfl⟩, hW, hsame.mono (by decide) (by decide)⟩
theorem ef_rms2_1 (m : MethodId) (x0 : Addr) (x1 : Addr) : entryFrame m #[(.ref x0), (.ref x1)] 2 = mkF m 0 #[.val (.ref x0), .val (.ref x1)] [] := by first | (simp [entryFrame, mkF, argsToLocals, Value.category]; done) | rfl
def Qrms2_1 (Z : State) (a1 : Addr) (a2 : Addr) (k2 : ClassId) (c0 : Int32) (cs : Int32) (h0 : Heap) (n0 : Nat) (v : Option Value) (h : Heap) (L : List Loc) : Prop := ∃ (b : Addr) (kb : ClassId), v = none ∧ Fr n0 L ∧ Keep h0 h [a1] ∧ (Fld Z h a1 "java/lang/String" "value" "[B" (.ref b)) ∧ (Fld Z h a1 "java/lang/String" "coder" "B" (.int (0 : Int32))) ∧ (Arv Z h b kb .byte (1 : Int32) [(.int (own_lt c0))] (.int (0 : Int32)))
set_option maxRecDepth 65536 in
set_option maxHeartbeats 40000000 in
theorem rms2_1 (l : Launch) (Z : State) (a0 : Array Value) (hw : ∀ d ∈ tables_1, d.before a0 Z = true) (ws : List Jvm.Cond) (a1 : Addr) (a2 : Addr) (k2 : ClassId) (c0 : Int32) (cs : Int32) (h0 : Heap) (n0 : Nat) (Z0 : n0 ≤ h0.size) (O0 : Old Z n0 h0) (S_COMPACT_STRINGS : Sta Z Z.heap "java/lang/String" "COMPACT_STRINGS" "Z" (.int cs)) (hcs : ¬ (cs = (0 : Int32))) (E_a1 : Exa Z h0 a1 "java/lang/String") (Fld_a1_value : Fld Z h0 a1 "java/lang/String" "value" "[B" .null) (Fld_a1_coder : Fld Z h0 a1 "java/lang/String" "coder" "B" (.int (0 : Int32))) (g_a1 : n0 ≤ a1) (V_a2 : Arv Z h0 a2 k2 .char (1 : Int32) [(.int c0)] (.int (0 : Int32))) (hn0 : ¬ ((255 : Int32) < c0)) :
    MetFree l (⟨"java/lang/String", "<init>", "([C)V"⟩ : MethodName) (head1 (Jvm.Cond.code (⟨"java/lang/String", "<init>", "([C)V"⟩ : MethodName) jdk_42_method_3_code 2 none :: ws) ({ frames := 3, cells := 1, slots := 1, locals := 52 } : Room)) (fun a U => a = #[(.ref a1), (.ref a2)] ∧ Z.Warmed39 U.vm ∧ U.heap = h0) (fun _ _ _ _ _ => True) (fun _ U o U' => ∃ v L, o = .returned v ∧ Qrms2_1 Z a1 a2 k2 c0 cs h0 n0 v U'.heap L ∧ FrameEnd U o U' L ({ frames := 3, cells := 1, slots := 1, locals := 52 } : Room).cells ({ frames := 3, cells := 1, slots := 1, locals := 52 } : Room).slots) := by
 refine MetFree.of_bodySF (plainFor_of_name pn_3) hisR ?_
 intro p e s m args below meth c s₁ Bd hml0 hP hK
 obtain ⟨rfl, hZ, hh⟩ := hP
 have hx := Bd.exec
 have hby := Bd.bytes
 have hml : c.maxLocals = 2 := hml0
 have hown : s.vm.findClass "java/lang/String" = some m.cls := findClass_of_methodNamed Bd.named
 have hnm := (name_of_methodNamed Bd.named Bd.method).1
 have X0 : Stand p l e ({ frames := 3, cells := 1, slots := 1, locals := 52 } : Room) s m #[(.ref a1), (.ref a2)] below meth c s₁ [] 0 0 := Stand.of_body Bd
 have e0 : s₁.heap = h0 := by rw [← hh, Bd.state]; rfl
 have N0 := Fr.nil n0
 refine own_go (b := (s₁.setTop (mkF m 0 #[.val (.ref a1), .val (.ref a2)] []))) (fun _ k => castTop (ef_rms2_1 m a1 a2) k) ?_
 refine own_go (b := (s₁.setTop (mkF m 4 #[.val (.ref a1), .val (.ref a2)] [(.ref a2), (.int (0 : Int32)), (.ref a2), (.ref a1)]))) (fun _ k => XS.aloadN X0.here hx rfl (hb hby d3_0) rfl rfl (XS.aloadN X0.here hx rfl (hb hby d3_1) rfl rfl (XS.iconst X0.here hx rfl (hb hby d3_2) (XS.aloadN X0.here hx rfl (hb hby d3_3) rfl rfl k)))) ?_
 obtain ⟨cl1, Ar1, -, Sz1, Nn1, -, -⟩ := id V_a2
 refine own_go (b := (s₁.setTop (mkF m 6 #[.val (.ref a1), .val (.ref a2)] [.null, (.int (1 : Int32)), (.int (0 : Int32)), (.ref a2), (.ref a1)]))) (fun _ k => X0.arraylength hx (by rw [e0]; exact Ar1.1) (State.isArrayOf_alike hZ.alike Ar1.2.1) (g := (mkF m 4 #[.val (.ref a1), .val (.ref a2)] [(.ref a2), (.int (0 : Int32)), (.ref a2), (.ref a1)])) rfl rfl (hb hby d3_4) _ (by rw [len_of Sz1 Nn1]; exact (XS.aconstNull X0.here hx rfl (hb hby d3_5) k))) ?_
 refine own_spec (W := 0) X0 hx hZ hown e0 (hw _ (List.mem_of_getElem? (i := 15) rfl)) (hw _ (List.mem_of_getElem? (i := 16) rfl)) (rms3_1 l Z a0 hw [] a1 a2 k2 c0 cs h0 n0 Z0 O0 S_COMPACT_STRINGS hcs E_a1 Fld_a1_value Fld_a1_coder g_a1 V_a2 hn0) (hw _ (List.mem_of_getElem? (i := 18) rfl)) (hw _ (List.mem_of_getElem? (i := 10) rfl)) rfl (by rw [hml]; rfl) rfl (hb hby d3_6) (lenOf pd___CIILjava_lang_Void__V rfl) rfl rfl (by decide) (fun T2 v2 Ll2 X2 hQ2 => ?_)
 obtain ⟨b_2, kb_2, rfl, N2q, K2, P2_0, P2_1, P2_2⟩ := hQ2
 have N2 := Fr.app N0 N2q
 have Zs3 : n0 ≤ T2.heap.size := Nat.le_trans Z0 K2.1
 have K4 := (Keep.refl h0 [a1]).trans K2 (allS (Or.inl (List.mem_of_getElem? (i := 0) rfl)) all0)
 obtain ⟨fs, hr, hrun, hended, hW, hsame⟩ := X2.leave (v := none) (fun _ => rfl)
 exact ⟨_, _, X2.returnOut hx Bd.returns (hb hby d3_9) hr, hrun, hended, _, _, rfl, (show Qrms2_1 Z a1 a2 k2 c0 cs h0 n0 _ T2.heap _ from (by exact ⟨b_2, kb_2, rfl, N2, K4, P2_0, P2_1, P2_2⟩)), ⟨_, rfl⟩, hW, hsame.mono (by decide) (by decide)⟩
theorem ef_rmmk_1 (m : MethodId) (x0 : Int32) (x1 : Int32) (x2 : Int32) (x3 : Int32) (x4 : Int32) : entryFrame m #[(.int x0), (.int x1), (.int x2), (.int x3), (.int x4)] 5 = mkF m 0 #[.val (.int x0), .val (.int x1), .val (.int x2), .val (.int x3), .val (.int x4)] [] := by first | (simp [entryFrame, mkF, argsToLocals, Value.category]; done) | rfl
def Qrmmk_1 (Z : State) (c0 : Int32) (c1 : Int32) (c2 : Int32) (c3 : Int32) (cs : Int32) (h0 : Heap) (n0 : Nat) (v : Option Value) (h : Heap) (L : List Loc) : Prop := ∃ (a : Addr) (b : Addr) (kb : ClassId), v = some (.ref a) ∧ Fr n0 L ∧ Keep h0 h [] ∧ (h0.size ≤ a) ∧ (Exa Z h a "java/lang/String") ∧ (Fld Z h a "java/lang/String" "value" "[B" (.ref b)) ∧ (Fld Z h a "java/lang/String" "coder" "B" (.int (0 : Int32))) ∧ (Arv Z h b kb .byte (1 : Int32) [(.int (own_lt (nar .char c0)))] (.int (0 : Int32)))
set_option maxRecDepth 65536 in
set_option maxHeartbeats 40000000 in
theorem rmmk_1 (l : Launch) (Z : State) (a0 : Array Value) (hw : ∀ d ∈ tables_1, d.before a0 Z = true) (ws : List Jvm.Cond) (c0 : Int32) (c1 : Int32) (c2 : Int32) (c3 : Int32) (cs : Int32) (h0 : Heap) (n0 : Nat) (Z0 : n0 ≤ h0.size) (O0 : Old Z n0 h0) (S_COMPACT_STRINGS : Sta Z Z.heap "java/lang/String" "COMPACT_STRINGS" "Z" (.int cs)) (hcs : ¬ (cs = (0 : Int32))) (hl0 : own_lat c0) (hl1 : own_lat c1) (hl2 : own_lat c2) (hl3 : own_lat c3) :
    MetFree l (⟨"com/example/keyclasp/keyclasp/protocol/ProtocolVersionOfPinLaw", "make", "(ICCCC)Ljava/lang/String;"⟩ : MethodName) (head1 (Jvm.Cond.code (⟨"com/example/keyclasp/keyclasp/protocol/ProtocolVersionOfPinLaw", "make", "(ICCCC)Ljava/lang/String;"⟩ : MethodName) method_3_code 5 (some (.object "java/lang/String")) :: ws) ({ frames := 4, cells := 3, slots := 6, locals := 66 } : Room)) (fun a U => a = #[(.int (1 : Int32)), (.int c0), (.int c1), (.int c2), (.int c3)] ∧ Z.Warmed39 U.vm ∧ U.heap = h0) (fun _ _ _ _ _ => True) (fun _ U o U' => ∃ v L, o = .returned v ∧ Qrmmk_1 Z c0 c1 c2 c3 cs h0 n0 v U'.heap L ∧ FrameEnd U o U' L ({ frames := 4, cells := 3, slots := 6, locals := 66 } : Room).cells ({ frames := 4, cells := 3, slots := 6, locals := 66 } : Room).slots) := by
 refine MetFree.of_bodySF (plainFor_of_name pn_2) hisR ?_
 intro p e s m args below meth c s₁ Bd hml0 hP hK
 obtain ⟨rfl, hZ, hh⟩ := hP
 have hx := Bd.exec
 have hby := Bd.bytes
 have hml : c.maxLocals = 5 := hml0
 have hown : s.vm.findClass "com/example/keyclasp/keyclasp/protocol/ProtocolVersionOfPinLaw" = some m.cls := findClass_of_methodNamed Bd.named
 have hnm := (name_of_methodNamed Bd.named Bd.method).1
 have X0 : Stand p l e ({ frames := 4, cells := 3, slots := 6, locals := 66 } : Room) s m #[(.int (1 : Int32)), (.int c0), (.int c1), (.int c2), (.int c3)] below meth c s₁ [] 0 0 := Stand.of_body Bd
 have e0 : s₁.heap = h0 := by rw [← hh, Bd.state]; rfl
 have N0 := Fr.nil n0
 refine own_go (b := (s₁.setTop (mkF m 0 #[.val (.int (1 : Int32)), .val (.int c0), .val (.int c1), .val (.int c2), .val (.int c3)] []))) (fun _ k => castTop (ef_rmmk_1 m (1 : Int32) c0 c1 c2 c3) k) ?_
 refine own_go (b := (s₁.setTop (mkF m 20 #[.val (.int (1 : Int32)), .val (.int c0), .val (.int c1), .val (.int c2), .val (.int c3)] []))) (fun _ k => XS.iloadN X0.here hx rfl (hb hby d2_0) rfl (XS.ifYes X0.here hx rfl (pc0 := 1) (pc' := 15) rfl (hb hby d2_1) rfl ((if0 _ _).trans (feq (by decide : ¬ ((1 : Int32) = (0 : Int32)))).2) (by decide) (by decide) (XS.iloadN X0.here hx rfl (hb hby d2_15) rfl (XS.iconst X0.here hx rfl (hb hby d2_16) (XS.icmpNo X0.here hx rfl (hb hby d2_17) rfl (teq (rfl : (1 : Int32) = (1 : Int32))).2 k))))) ?_
 obtain ⟨T1, h1, X1, e1, E1, A1, D1, Un1, st1⟩ := newO X0 hx hZ hown (hw _ (List.mem_of_getElem? (i := 8) rfl)) (hw _ (List.mem_of_getElem? (i := 9) rfl)) (hw _ (List.mem_of_getElem? (i := 10) rfl)) e0 (g := (mkF m 20 #[.val (.int (1 : Int32)), .val (.int c0), .val (.int c1), .val (.int c2), .val (.int c3)] [])) rfl (hb hby d2_20) (by decide) (by decide)
 obtain ⟨b1, g1⟩ : ∃ z, z = h0.size := ⟨_, rfl⟩
 rw [← g1] at A1 D1 Un1 st1
 have Zs2 : n0 ≤ h1.size := Nat.le_trans Z0 E1.1
 have F1_value : Fld Z h1 b1 "java/lang/String" "value" "[B" .null := D1 (Or.inr (hw _ (List.mem_of_getElem? (i := 24) rfl))) (ty := (.array .byte)) (by decide)
 have F1_coder : Fld Z h1 b1 "java/lang/String" "coder" "B" (.int (0 : Int32)) := D1 (Or.inr (hw _ (List.mem_of_getElem? (i := 25) rfl))) (ty := .byte) (by decide)
 refine own_go (b := (T1.setTop (mkF m 25 #[.val (.int (1 : Int32)), .val (.int c0), .val (.int c1), .val (.int c2), .val (.int c3)] [(.int (1 : Int32)), (.ref b1), (.ref b1)]))) (fun _ k => st1 _ (XS.dup X1.here hx rfl (hb hby d2_23) rfl rfl (XS.iconst X1.here hx rfl (hb hby d2_24) k))) ?_
 obtain ⟨T3, h3, kl3, X3, e3, E3, A3, st3⟩ := newP X1 hx hZ (hw _ (List.mem_of_getElem? (i := 11) rfl)) e1 (g := (mkF m 25 #[.val (.int (1 : Int32)), .val (.int c0), .val (.int c1), .val (.int c2), .val (.int c3)] [(.int (1 : Int32)), (.ref b1), (.ref b1)])) rfl (hb hby d2_25) rfl (by decide) (cap := 1) (by decide) (by decide) (by decide) (by decide)
 obtain ⟨b3, g3⟩ : ∃ z, z = h1.size := ⟨_, rfl⟩
 rw [← g3] at A3 st3
 have Zs4 : n0 ≤ h3.size := Nat.le_trans Zs2 E3.1
 have V3 : Arv Z h3 b3 kl3 .char (1 : Int32) [(.int (0 : Int32))] (.int (0 : Int32)) := (Arv.new A3 (by decide)).pad (pad_rep [] (.int (0 : Int32)) 1)
 refine own_go (b := (T3.setTop (mkF m 30 #[.val (.int (1 : Int32)), .val (.int c0), .val (.int c1), .val (.int c2), .val (.int c3)] [(.int c0), (.int (0 : Int32)), (.ref b3), (.ref b3), (.ref b1), (.ref b1)]))) (fun _ k => st3 _ (XS.dup X3.here hx rfl (hb hby d2_27) rfl rfl (XS.iconst X3.here hx rfl (hb hby d2_28) (XS.iloadN X3.here hx rfl (hb hby d2_29) rfl k)))) ?_
 obtain ⟨cl5, Ar5, ql5, Sz5, Nn5, Hl5, Gl5⟩ := id V3
 have hin5 : ¬ ((0 : Int32) < 0 ∨ cl5.slots.size ≤ ((0 : Int32)).toNatClampNeg) := inb_of Sz5 ⟨by decide, by decide⟩
 obtain ⟨T5, h5, X5, e5, W5, st5⟩ := stC X3 hx hZ e3 Ar5 (j := (0 : Int32)) hin5 (g := (mkF m 30 #[.val (.int (1 : Int32)), .val (.int c0), .val (.int c1), .val (.int c2), .val (.int c3)] [(.int c0), (.int (0 : Int32)), (.ref b3), (.ref b3), (.ref b1), (.ref b1)])) rfl rfl (hb hby d2_30)
 have gx6 : n0 ≤ b3 := Nat.le_trans Zs2 (Nat.le_of_eq g3.symm)
 have N5 := Fr.snoc X5 N0 gx6
 have Zs7 : n0 ≤ h5.size := Nat.le_trans Zs4 (Keep.of_wr W5).1
 have V5 : Arv Z h5 b3 kl3 .char (1 : Int32) [(.int (nar .char c0))] (.int (0 : Int32)) := Arv.set Ar5 ql5 Sz5 Nn5 Hl5 Gl5 (fits_nar_char _) W5 0 rfl (Nat.le_of_ble_eq_true rfl)
 refine own_go (b := (T5.setTop (mkF m 31 #[.val (.int (1 : Int32)), .val (.int c0), .val (.int c1), .val (.int c2), .val (.int c3)] [(.ref b3), (.ref b1), (.ref b1)]))) (fun _ k => st5 _ k) ?_
 have O9 := O0.ext E1
 have O10 := O9.ext E3
 have O11 := O10.wr W5 gx6
 have F12 := A1.ext E3
 have F13 := F12.wr W5
 have F14 := F1_value.ext E3
 have nx15 : b1 ≠ b3 := (own_ne A1.lt (Nat.le_refl _) (Nat.le_of_eq g3.symm))
 have F16 := F14.other W5 (Or.inl nx15)
 have F17 := F1_coder.ext E3
 have F18 := F17.other W5 (Or.inl nx15)
 have gx19 : n0 ≤ b1 := Nat.le_trans Z0 (Nat.le_of_eq g1.symm)
 refine own_spec (W := 1) X5 hx hZ hown e5 (hw _ (List.mem_of_getElem? (i := 12) rfl)) (hw _ (List.mem_of_getElem? (i := 13) rfl)) (rms2_1 l Z a0 hw [] b1 b3 kl3 (nar .char c0) cs h5 n0 Zs7 O11 S_COMPACT_STRINGS hcs F13 F16 F18 gx19 V5 (own_n255 hl0)) (hw _ (List.mem_of_getElem? (i := 14) rfl)) (hw _ (List.mem_of_getElem? (i := 10) rfl)) rfl (by rw [hml]; rfl) rfl (hb hby d2_31) (lenOf pd___C_V rfl) rfl rfl (by decide) (fun T8 v8 Ll8 X8 hQ8 => ?_)
 obtain ⟨b_8, kb_8, rfl, N8q, K8, P8_0, P8_1, P8_2⟩ := hQ8
 have N8 := Fr.app N5 N8q
 have Zs20 : n0 ≤ T8.heap.size := Nat.le_trans Zs7 K8.1
 have K21 := (Keep.refl h0 []).ext E1
 have K22 := K21.ext E3
 have K23 := K22.wr W5 (Or.inr (Nat.le_trans E1.1 (Nat.le_of_eq g3.symm)))
 have K24 := K23.trans K8 (allS (Or.inr (Nat.le_trans (Nat.le_refl _) (Nat.le_of_eq g1.symm))) all0)
 have F25 := F13.keep K8
 obtain ⟨fs, hr, hrun, hended, hW, hsame⟩ := X8.leave (v := some (.ref b1)) (fun h => by rw [Bd.returns] at h; cases h)
 exact ⟨_, _, retOut X8 hx Bd.returns rfl (Or.inr (Or.inr (Or.inr (Or.inr ⟨rfl, rfl, rfl⟩)))) (hb hby d2_34) hr, hrun, hended, _, _, rfl, (show Qrmmk_1 Z c0 c1 c2 c3 cs h0 n0 _ T8.heap _ from (by exact ⟨b1, b_8, kb_8, rfl, N8, K24, (Nat.le_trans (Nat.le_refl _) (Nat.le_of_eq g1.symm)), F25, P8_0, P8_1, P8_2⟩)), ⟨_, rfl⟩, hW, hsame.mono (by decide) (by decide)⟩
theorem ef_rmc6_2 (m : MethodId) (x0 : Addr) (x1 : Int32) (x2 : Addr) (x3 : Int32) (x4 : Int32) : entryFrame m #[(.ref x0), (.int x1), (.ref x2), (.int x3), (.int x4)] 7 = mkF m 0 #[.val (.ref x0), .val (.int x1), .val (.ref x2), .val (.int x3), .val (.int x4), .unset, .unset] [] := by first | (simp [entryFrame, mkF, argsToLocals, Value.category]; done) | rfl
def Qrmc6_2 (Z : State) (a2 : Addr) (k2 : ClassId) (a3 : Addr) (k3 : ClassId) (c0 : Int32) (c1 : Int32) (x0 : Int32) (x1 : Int32) (h0 : Heap) (n0 : Nat) (v : Option Value) (h : Heap) (L : List Loc) : Prop := v = some (.int (2 : Int32)) ∧ Fr n0 L ∧ Keep h0 h [a3] ∧ (Arv Z h a3 k3 .byte (2 : Int32) [(.int (own_lt c0)), (.int (own_lt c1))] (.int (0 : Int32)))
set_option maxRecDepth 65536 in
set_option maxHeartbeats 40000000 in
theorem rmc6_2 (l : Launch) (Z : State) (a0 : Array Value) (hw : ∀ d ∈ tables_1, d.before a0 Z = true) (ws : List Jvm.Cond) (a2 : Addr) (k2 : ClassId) (a3 : Addr) (k3 : ClassId) (c0 : Int32) (c1 : Int32) (x0 : Int32) (x1 : Int32) (h0 : Heap) (n0 : Nat) (Z0 : n0 ≤ h0.size) (V_a2 : Arv Z h0 a2 k2 .char (2 : Int32) [(.int c0), (.int c1)] (.int (0 : Int32))) (V_a3 : Arv Z h0 a3 k3 .byte (2 : Int32) [(.int x0), (.int x1)] (.int (0 : Int32))) (g_a3 : n0 ≤ a3) (ne_a2_a3 : a2 ≠ a3) (hn0 : ¬ ((255 : Int32) < c0)) (hn1 : ¬ ((255 : Int32) < c1)) :
    MetFree l (⟨"java/lang/StringUTF16", "compress", "([CI[BII)I"⟩ : MethodName) (head1 (Jvm.Cond.code (⟨"java/lang/StringUTF16", "compress", "([CI[BII)I"⟩ : MethodName) jdk_52_method_21_code 7 (some .int) :: ws) ({ frames := 0, cells := 0, slots := 0, locals := 0 } : Room)) (fun a U => a = #[(.ref a2), (.int (0 : Int32)), (.ref a3), (.int (0 : Int32)), (.int (2 : Int32))] ∧ Z.Warmed39 U.vm ∧ U.heap = h0) (fun _ _ _ _ _ => True) (fun _ U o U' => ∃ v L, o = .returned v ∧ Qrmc6_2 Z a2 k2 a3 k3 c0 c1 x0 x1 h0 n0 v U'.heap L ∧ FrameEnd U o U' L ({ frames := 0, cells := 0, slots := 0, locals := 0 } : Room).cells ({ frames := 0, cells := 0, slots := 0, locals := 0 } : Room).slots) := by
 refine MetFree.of_bodySF (plainFor_of_name pn_13) hisR ?_
 intro p e s m args below meth c s₁ Bd hml0 hP hK
 obtain ⟨rfl, hZ, hh⟩ := hP
 have hx := Bd.exec
 have hby := Bd.bytes
 have hml : c.maxLocals = 7 := hml0
 have hown : s.vm.findClass "java/lang/StringUTF16" = some m.cls := findClass_of_methodNamed Bd.named
 have hnm := (name_of_methodNamed Bd.named Bd.method).1
 have X0 : Stand p l e ({ frames := 0, cells := 0, slots := 0, locals := 0 } : Room) s m #[(.ref a2), (.int (0 : Int32)), (.ref a3), (.int (0 : Int32)), (.int (2 : Int32))] below meth c s₁ [] 0 0 := Stand.of_body Bd
 have e0 : s₁.heap = h0 := by rw [← hh, Bd.state]; rfl
 have N0 := Fr.nil n0
 refine own_go (b := (s₁.setTop (mkF m 0 #[.val (.ref a2), .val (.int (0 : Int32)), .val (.ref a3), .val (.int (0 : Int32)), .val (.int (2 : Int32)), .unset, .unset] []))) (fun _ k => castTop (ef_rmc6_2 m a2 (0 : Int32) a3 (0 : Int32) (2 : Int32)) k) ?_
 refine own_go (b := (s₁.setTop (mkF m 12 #[.val (.ref a2), .val (.int (0 : Int32)), .val (.ref a3), .val (.int (0 : Int32)), .val (.int (2 : Int32)), .val (.int (0 : Int32)), .unset] [(.int (0 : Int32)), (.ref a2)]))) (fun _ k => XS.iconst X0.here hx rfl (hb hby d13_0) (XS.istore X0.here hx rfl (hb hby d13_1) rfl (l' := #[.val (.ref a2), .val (.int (0 : Int32)), .val (.ref a3), .val (.int (0 : Int32)), .val (.int (2 : Int32)), .val (.int (0 : Int32)), .unset]) rfl (XS.iload X0.here hx rfl (hb hby d13_3) rfl (XS.iload X0.here hx rfl (hb hby d13_5) rfl (XS.icmpNo X0.here hx rfl (hb hby d13_7) rfl (tlt (by decide : (0 : Int32) < (2 : Int32))).2.1 (XS.aloadN X0.here hx rfl (hb hby d13_10) rfl rfl (XS.iloadN X0.here hx rfl (hb hby d13_11) rfl k))))))) ?_
 obtain ⟨cl1, Ar1, ql1, Sz1, Nn1, Hl1, Gl1⟩ := id V_a2
 have hin1 : ¬ ((0 : Int32) < 0 ∨ cl1.slots.size ≤ ((0 : Int32)).toNatClampNeg) := inb_of Sz1 ⟨by decide, by decide⟩
 refine own_go (b := (s₁.setTop (mkF m 31 #[.val (.ref a2), .val (.int (0 : Int32)), .val (.ref a3), .val (.int (0 : Int32)), .val (.int (2 : Int32)), .val (.int (0 : Int32)), .val (.int c0)] [(.int (c0.toInt8.toInt32)), (.int (0 : Int32)), (.ref a3)]))) (fun _ k => X0.caload hx (j := (0 : Int32)) (v := (.int c0)) (by rw [e0]; exact Ar1.1) (State.isArrayOf_alike hZ.alike Ar1.2.1) Ar1.2.2 hin1 (Hl1.at hin1 rfl) (g := (mkF m 12 #[.val (.ref a2), .val (.int (0 : Int32)), .val (.ref a3), .val (.int (0 : Int32)), .val (.int (2 : Int32)), .val (.int (0 : Int32)), .unset] [(.int (0 : Int32)), (.ref a2)])) rfl rfl (hb hby d13_12) _ (XS.istore X0.here hx rfl (hb hby d13_13) rfl (l' := #[.val (.ref a2), .val (.int (0 : Int32)), .val (.ref a3), .val (.int (0 : Int32)), .val (.int (2 : Int32)), .val (.int (0 : Int32)), .val (.int c0)]) rfl (XS.iload X0.here hx rfl (hb hby d13_15) rfl (XS.sipush X0.here hx rfl (hb hby d13_17) (XS.icmpYes X0.here hx rfl (pc0 := 20) (pc' := 26) rfl (hb hby d13_20) rfl (flt hn0).2.2.2 (by decide) (by decide) (XS.aloadN X0.here hx rfl (hb hby d13_26) rfl rfl (XS.iloadN X0.here hx rfl (hb hby d13_27) rfl (XS.iload X0.here hx rfl (hb hby d13_28) rfl (XS.i2b X0.here hx rfl (hb hby d13_30) rfl k))))))))) ?_
 obtain ⟨cl2, Ar2, ql2, Sz2, Nn2, Hl2, Gl2⟩ := id V_a3
 have hin2 : ¬ ((0 : Int32) < 0 ∨ cl2.slots.size ≤ ((0 : Int32)).toNatClampNeg) := inb_of Sz2 ⟨by decide, by decide⟩
 obtain ⟨T2, h2, X2, e2, W2, st2⟩ := stB X0 hx hZ e0 Ar2 (j := (0 : Int32)) hin2 (g := (mkF m 31 #[.val (.ref a2), .val (.int (0 : Int32)), .val (.ref a3), .val (.int (0 : Int32)), .val (.int (2 : Int32)), .val (.int (0 : Int32)), .val (.int c0)] [(.int (c0.toInt8.toInt32)), (.int (0 : Int32)), (.ref a3)])) rfl rfl (hb hby d13_31)
 have N2 := Fr.snoc X2 N0 g_a3
 have Zs3 : n0 ≤ h2.size := Nat.le_trans Z0 (Keep.of_wr W2).1
 have V2 : Arv Z h2 a3 k3 .byte (2 : Int32) [(.int (own_lt c0)), (.int x1)] (.int (0 : Int32)) := Arv.set Ar2 ql2 Sz2 Nn2 Hl2 Gl2 (fits_nar_byte _) W2 0 rfl (Nat.le_of_ble_eq_true rfl)
 refine own_go (b := (T2.setTop (mkF m 12 #[.val (.ref a2), .val (.int (1 : Int32)), .val (.ref a3), .val (.int (1 : Int32)), .val (.int (2 : Int32)), .val (.int (1 : Int32)), .val (.int c0)] [(.int (1 : Int32)), (.ref a2)]))) (fun _ k => st2 _ (XS.iinc X2.here hx rfl (hb hby d13_32) rfl (l' := #[.val (.ref a2), .val (.int (1 : Int32)), .val (.ref a3), .val (.int (0 : Int32)), .val (.int (2 : Int32)), .val (.int (0 : Int32)), .val (.int c0)]) rfl (XS.iinc X2.here hx rfl (hb hby d13_35) rfl (l' := #[.val (.ref a2), .val (.int (1 : Int32)), .val (.ref a3), .val (.int (1 : Int32)), .val (.int (2 : Int32)), .val (.int (0 : Int32)), .val (.int c0)]) rfl (XS.iinc X2.here hx rfl (hb hby d13_38) rfl (l' := #[.val (.ref a2), .val (.int (1 : Int32)), .val (.ref a3), .val (.int (1 : Int32)), .val (.int (2 : Int32)), .val (.int (1 : Int32)), .val (.int c0)]) rfl (XS.goto X2.here hx rfl (pc0 := 41) (pc' := 3) rfl (hb hby d13_41) (by decide) (by decide) (XS.iload X2.here hx rfl (hb hby d13_3) rfl (XS.iload X2.here hx rfl (hb hby d13_5) rfl (XS.icmpNo X2.here hx rfl (hb hby d13_7) rfl (tlt (by decide : (1 : Int32) < (2 : Int32))).2.1 (XS.aloadN X2.here hx rfl (hb hby d13_10) rfl rfl (XS.iloadN X2.here hx rfl (hb hby d13_11) rfl k)))))))))) ?_
 have F5 := V_a2.other W2 ne_a2_a3
 obtain ⟨cl4, Ar4, ql4, Sz4, Nn4, Hl4, Gl4⟩ := id F5
 have hin4 : ¬ ((1 : Int32) < 0 ∨ cl4.slots.size ≤ ((1 : Int32)).toNatClampNeg) := inb_of Sz4 ⟨by decide, by decide⟩
 refine own_go (b := (T2.setTop (mkF m 31 #[.val (.ref a2), .val (.int (1 : Int32)), .val (.ref a3), .val (.int (1 : Int32)), .val (.int (2 : Int32)), .val (.int (1 : Int32)), .val (.int c1)] [(.int (c1.toInt8.toInt32)), (.int (1 : Int32)), (.ref a3)]))) (fun _ k => X2.caload hx (j := (1 : Int32)) (v := (.int c1)) (by rw [e2]; exact Ar4.1) (State.isArrayOf_alike hZ.alike Ar4.2.1) Ar4.2.2 hin4 (Hl4.at hin4 rfl) (g := (mkF m 12 #[.val (.ref a2), .val (.int (1 : Int32)), .val (.ref a3), .val (.int (1 : Int32)), .val (.int (2 : Int32)), .val (.int (1 : Int32)), .val (.int c0)] [(.int (1 : Int32)), (.ref a2)])) rfl rfl (hb hby d13_12) _ (XS.istore X2.here hx rfl (hb hby d13_13) rfl (l' := #[.val (.ref a2), .val (.int (1 : Int32)), .val (.ref a3), .val (.int (1 : Int32)), .val (.int (2 : Int32)), .val (.int (1 : Int32)), .val (.int c1)]) rfl (XS.iload X2.here hx rfl (hb hby d13_15) rfl (XS.sipush X2.here hx rfl (hb hby d13_17) (XS.icmpYes X2.here hx rfl (pc0 := 20) (pc' := 26) rfl (hb hby d13_20) rfl (flt hn1).2.2.2 (by decide) (by decide) (XS.aloadN X2.here hx rfl (hb hby d13_26) rfl rfl (XS.iloadN X2.here hx rfl (hb hby d13_27) rfl (XS.iload X2.here hx rfl (hb hby d13_28) rfl (XS.i2b X2.here hx rfl (hb hby d13_30) rfl k))))))))) ?_
 obtain ⟨cl6, Ar6, ql6, Sz6, Nn6, Hl6, Gl6⟩ := id V2
 have hin6 : ¬ ((1 : Int32) < 0 ∨ cl6.slots.size ≤ ((1 : Int32)).toNatClampNeg) := inb_of Sz6 ⟨by decide, by decide⟩
 obtain ⟨T6, h6, X6, e6, W6, st6⟩ := stB X2 hx hZ e2 Ar6 (j := (1 : Int32)) hin6 (g := (mkF m 31 #[.val (.ref a2), .val (.int (1 : Int32)), .val (.ref a3), .val (.int (1 : Int32)), .val (.int (2 : Int32)), .val (.int (1 : Int32)), .val (.int c1)] [(.int (c1.toInt8.toInt32)), (.int (1 : Int32)), (.ref a3)])) rfl rfl (hb hby d13_31)
 have N6 := Fr.snoc X6 N2 g_a3
 have Zs7 : n0 ≤ h6.size := Nat.le_trans Zs3 (Keep.of_wr W6).1
 have V6 : Arv Z h6 a3 k3 .byte (2 : Int32) [(.int (own_lt c0)), (.int (own_lt c1))] (.int (0 : Int32)) := Arv.set Ar6 ql6 Sz6 Nn6 Hl6 Gl6 (fits_nar_byte _) W6 1 rfl (Nat.le_of_ble_eq_true rfl)
 refine own_go (b := (T6.setTop (mkF m 46 #[.val (.ref a2), .val (.int (2 : Int32)), .val (.ref a3), .val (.int (2 : Int32)), .val (.int (2 : Int32)), .val (.int (2 : Int32)), .val (.int c1)] [(.int (2 : Int32))]))) (fun _ k => st6 _ (XS.iinc X6.here hx rfl (hb hby d13_32) rfl (l' := #[.val (.ref a2), .val (.int (2 : Int32)), .val (.ref a3), .val (.int (1 : Int32)), .val (.int (2 : Int32)), .val (.int (1 : Int32)), .val (.int c1)]) rfl (XS.iinc X6.here hx rfl (hb hby d13_35) rfl (l' := #[.val (.ref a2), .val (.int (2 : Int32)), .val (.ref a3), .val (.int (2 : Int32)), .val (.int (2 : Int32)), .val (.int (1 : Int32)), .val (.int c1)]) rfl (XS.iinc X6.here hx rfl (hb hby d13_38) rfl (l' := #[.val (.ref a2), .val (.int (2 : Int32)), .val (.ref a3), .val (.int (2 : Int32)), .val (.int (2 : Int32)), .val (.int (2 : Int32)), .val (.int c1)]) rfl (XS.goto X6.here hx rfl (pc0 := 41) (pc' := 3) rfl (hb hby d13_41) (by decide) (by decide) (XS.iload X6.here hx rfl (hb hby d13_3) rfl (XS.iload X6.here hx rfl (hb hby d13_5) rfl (XS.icmpYes X6.here hx rfl (pc0 := 7) (pc' := 44) rfl (hb hby d13_7) rfl (flt (by decide : ¬ ((2 : Int32) < (2 : Int32)))).2.1 (by decide) (by decide) (XS.iload X6.here hx rfl (hb hby d13_44) rfl k))))))))) ?_
 have K8 := (Keep.refl h0 [a3]).wr W2 (Or.inl (List.mem_of_getElem? (i := 0) rfl))
 have K9 := K8.wr W6 (Or.inl (List.mem_of_getElem? (i := 0) rfl))
 obtain ⟨fs, hr, hrun, hended, hW, hsame⟩ := X6.leave (v := some (.int (2 : Int32))) (fun h => by rw [Bd.returns] at h; cases h)
 exact ⟨_, _, retOut X6 hx Bd.returns rfl (Or.inl ⟨rfl, Or.inl rfl, _, rfl⟩) (hb hby d13_46) hr, hrun, hended, _, _, rfl, (show Qrmc6_2 Z a2 k2 a3 k3 c0 c1 x0 x1 h0 n0 _ T6.heap _ from (by rw [e6]; exact ⟨rfl, N6, K9, V6⟩)), ⟨_, rfl⟩, hW, hsame.mono (by decide) (by decide)⟩
theorem ef_rmc5_2 (m : MethodId) (x0 : Addr) (x1 : Int32) (x2 : Int32) : entryFrame m #[(.ref x0), (.int x1), (.int x2)] 6 = mkF m 0 #[.val (.ref x0), .val (.int x1), .val (.int x2), .unset, .unset, .unset] [] := by first | (simp [entryFrame, mkF, argsToLocals, Value.category]; done) | rfl
def Qrmc5_2 (Z : State) (a2 : Addr) (k2 : ClassId) (c0 : Int32) (c1 : Int32) (h0 : Heap) (n0 : Nat) (v : Option Value) (h : Heap) (L : List Loc) : Prop := ∃ (b : Addr) (kb : ClassId), v = some (.ref b) ∧ Fr n0 L ∧ Keep h0 h [] ∧ (h0.size ≤ b) ∧ (Arv Z h b kb .byte (2 : Int32) [(.int (own_lt c0)), (.int (own_lt c1))] (.int (0 : Int32)))
set_option maxRecDepth 65536 in
set_option maxHeartbeats 40000000 in
theorem rmc5_2 (l : Launch) (Z : State) (a0 : Array Value) (hw : ∀ d ∈ tables_1, d.before a0 Z = true) (ws : List Jvm.Cond) (a2 : Addr) (k2 : ClassId) (c0 : Int32) (c1 : Int32) (h0 : Heap) (n0 : Nat) (Z0 : n0 ≤ h0.size) (V_a2 : Arv Z h0 a2 k2 .char (2 : Int32) [(.int c0), (.int c1)] (.int (0 : Int32))) (hn0 : ¬ ((255 : Int32) < c0)) (hn1 : ¬ ((255 : Int32) < c1)) :
    MetFree l (⟨"java/lang/StringUTF16", "compress", "([CII)[B"⟩ : MethodName) (head1 (Jvm.Cond.code (⟨"java/lang/StringUTF16", "compress", "([CII)[B"⟩ : MethodName) jdk_52_method_16_code 6 (some (.array .byte)) :: ws) ({ frames := 1, cells := 1, slots := 2, locals := 18 } : Room)) (fun a U => a = #[(.ref a2), (.int (0 : Int32)), (.int (2 : Int32))] ∧ Z.Warmed39 U.vm ∧ U.heap = h0) (fun _ _ _ _ _ => True) (fun _ U o U' => ∃ v L, o = .returned v ∧ Qrmc5_2 Z a2 k2 c0 c1 h0 n0 v U'.heap L ∧ FrameEnd U o U' L ({ frames := 1, cells := 1, slots := 2, locals := 18 } : Room).cells ({ frames := 1, cells := 1, slots := 2, locals := 18 } : Room).slots) := by
 refine MetFree.of_bodySF (plainFor_of_name pn_12) hisR ?_
 intro p e s m args below meth c s₁ Bd hml0 hP hK
 obtain ⟨rfl, hZ, hh⟩ := hP
 have hx := Bd.exec
 have hby := Bd.bytes
 have hml : c.maxLocals = 6 := hml0
 have hown : s.vm.findClass "java/lang/StringUTF16" = some m.cls := findClass_of_methodNamed Bd.named
 have hnm := (name_of_methodNamed Bd.named Bd.method).1
 have X0 : Stand p l e ({ frames := 1, cells := 1, slots := 2, locals := 18 } : Room) s m #[(.ref a2), (.int (0 : Int32)), (.int (2 : Int32))] below meth c s₁ [] 0 0 := Stand.of_body Bd
 have e0 : s₁.heap = h0 := by rw [← hh, Bd.state]; rfl
 have N0 := Fr.nil n0
 refine own_go (b := (s₁.setTop (mkF m 0 #[.val (.ref a2), .val (.int (0 : Int32)), .val (.int (2 : Int32)), .unset, .unset, .unset] []))) (fun _ k => castTop (ef_rmc5_2 m a2 (0 : Int32) (2 : Int32)) k) ?_
 refine own_go (b := (s₁.setTop (mkF m 1 #[.val (.ref a2), .val (.int (0 : Int32)), .val (.int (2 : Int32)), .unset, .unset, .unset] [(.int (2 : Int32))]))) (fun _ k => XS.iloadN X0.here hx rfl (hb hby d12_0) rfl k) ?_
 obtain ⟨T1, h1, kl1, X1, e1, E1, A1, st1⟩ := newP X0 hx hZ (hw _ (List.mem_of_getElem? (i := 23) rfl)) e0 (g := (mkF m 1 #[.val (.ref a2), .val (.int (0 : Int32)), .val (.int (2 : Int32)), .unset, .unset, .unset] [(.int (2 : Int32))])) rfl (hb hby d12_1) rfl (by decide) (cap := 2) (by decide) (by decide) (by decide) (by decide)
 obtain ⟨b1, g1⟩ : ∃ z, z = h0.size := ⟨_, rfl⟩
 rw [← g1] at A1 st1
 have Zs2 : n0 ≤ h1.size := Nat.le_trans Z0 E1.1
 have V1 : Arv Z h1 b1 kl1 .byte (2 : Int32) [(.int (0 : Int32)), (.int (0 : Int32))] (.int (0 : Int32)) := (Arv.new A1 (by decide)).pad (pad_rep [] (.int (0 : Int32)) 2)
 refine own_go (b := (T1.setTop (mkF m 9 #[.val (.ref a2), .val (.int (0 : Int32)), .val (.int (2 : Int32)), .val (.ref b1), .unset, .unset] [(.int (2 : Int32)), (.int (0 : Int32)), (.ref b1), (.int (0 : Int32)), (.ref a2)]))) (fun _ k => st1 _ (XS.astoreN X1.here hx rfl (hb hby d12_3) rfl rfl (l' := #[.val (.ref a2), .val (.int (0 : Int32)), .val (.int (2 : Int32)), .val (.ref b1), .unset, .unset]) rfl (XS.aloadN X1.here hx rfl (hb hby d12_4) rfl rfl (XS.iloadN X1.here hx rfl (hb hby d12_5) rfl (XS.aloadN X1.here hx rfl (hb hby d12_6) rfl rfl (XS.iconst X1.here hx rfl (hb hby d12_7) (XS.iloadN X1.here hx rfl (hb hby d12_8) rfl k))))))) ?_
 have F4 := V_a2.ext E1
 have gx5 : n0 ≤ b1 := Nat.le_trans Z0 (Nat.le_of_eq g1.symm)
 have nx6 : a2 ≠ b1 := (own_ne V_a2.lt (Nat.le_refl _) (Nat.le_of_eq g1.symm))
 refine own_stat (W := 0) X1 hx hZ hown e1 (hw _ (List.mem_of_getElem? (i := 80) rfl)) (hw _ (List.mem_of_getElem? (i := 81) rfl)) (rmc6_2 l Z a0 hw [] a2 k2 b1 kl1 c0 c1 (0 : Int32) (0 : Int32) h1 n0 Zs2 F4 V1 gx5 nx6 hn0 hn1) (hw _ (List.mem_of_getElem? (i := 82) rfl)) (hw _ (List.mem_of_getElem? (i := 78) rfl)) rfl (by rw [hml]; rfl) rfl (hb hby d12_9) (lenOf pd___CI_BII_I rfl) rfl (by decide) (fun T3 v3 Ll3 X3 hQ3 => ?_)
 obtain ⟨rfl, N3q, K3, P3_0⟩ := hQ3
 have N3 := Fr.app N0 N3q
 have Zs7 : n0 ≤ T3.heap.size := Nat.le_trans Zs2 K3.1
 refine own_go (b := (T3.setTop (mkF m 58 #[.val (.ref a2), .val (.int (0 : Int32)), .val (.int (2 : Int32)), .val (.ref b1), .val (.int (2 : Int32)), .unset] [(.ref b1)]))) (fun _ k => XS.istore X3.here hx rfl (hb hby d12_12) rfl (l' := #[.val (.ref a2), .val (.int (0 : Int32)), .val (.int (2 : Int32)), .val (.ref b1), .val (.int (2 : Int32)), .unset]) rfl (XS.iload X3.here hx rfl (hb hby d12_14) rfl (XS.iloadN X3.here hx rfl (hb hby d12_16) rfl (XS.icmpYes X3.here hx rfl (pc0 := 17) (pc' := 57) rfl (hb hby d12_17) rfl (teq (rfl : (2 : Int32) = (2 : Int32))).1 (by decide) (by decide) (XS.aloadN X3.here hx rfl (hb hby d12_57) rfl rfl k))))) ?_
 have K8 := (Keep.refl h0 []).ext E1
 have K9 := K8.trans K3 (allS (Or.inr (Nat.le_trans (Nat.le_refl _) (Nat.le_of_eq g1.symm))) all0)
 obtain ⟨fs, hr, hrun, hended, hW, hsame⟩ := X3.leave (v := some (.ref b1)) (fun h => by rw [Bd.returns] at h; cases h)
 exact ⟨_, _, retOut X3 hx Bd.returns rfl (Or.inr (Or.inr (Or.inr (Or.inr ⟨rfl, rfl, rfl⟩)))) (hb hby d12_58) hr, hrun, hended, _, _, rfl, (show Qrmc5_2 Z a2 k2 c0 c1 h0 n0 _ T3.heap _ from (by exact ⟨b1, kl1, rfl, N3, K9, (Nat.le_trans (Nat.le_refl _) (Nat.le_of_eq g1.symm)), P3_0⟩)), ⟨_, rfl⟩, hW, hsame.mono (by decide) (by decide)⟩
theorem ef_rmcd_2 (m : MethodId) (x0 : Addr) (x1 : Int32) : entryFrame m #[(.ref x0), (.int x1)] 2 = mkF m 0 #[.val (.ref x0), .val (.int x1)] [] := by first | (simp [entryFrame, mkF, argsToLocals, Value.category]; done) | rfl
def Qrmcd_2 (Z : State) (a3 : Addr) (k3 : ClassId) (x0 : Int32) (x1 : Int32) (h0 : Heap) (n0 : Nat) (v : Option Value) (h : Heap) (L : List Loc) : Prop := v = some (.int (0 : Int32)) ∧ Fr n0 L ∧ h = h0
set_option maxRecDepth 65536 in
set_option maxHeartbeats 40000000 in
theorem rmcd_2 (l : Launch) (Z : State) (a0 : Array Value) (hw : ∀ d ∈ tables_1, d.before a0 Z = true) (ws : List Jvm.Cond) (a3 : Addr) (k3 : ClassId) (x0 : Int32) (x1 : Int32) (h0 : Heap) (n0 : Nat) (Z0 : n0 ≤ h0.size) (V_a3 : Arv Z h0 a3 k3 .byte (2 : Int32) [(.int x0), (.int x1)] (.int (0 : Int32))) :
    MetFree l (⟨"java/lang/StringUTF16", "coderFromArrayLen", "([BI)B"⟩ : MethodName) (head1 (Jvm.Cond.code (⟨"java/lang/StringUTF16", "coderFromArrayLen", "([BI)B"⟩ : MethodName) jdk_52_method_15_code 2 (some .byte) :: ws) ({ frames := 0, cells := 0, slots := 0, locals := 0 } : Room)) (fun a U => a = #[(.ref a3), (.int (2 : Int32))] ∧ Z.Warmed39 U.vm ∧ U.heap = h0) (fun _ _ _ _ _ => True) (fun _ U o U' => ∃ v L, o = .returned v ∧ Qrmcd_2 Z a3 k3 x0 x1 h0 n0 v U'.heap L ∧ FrameEnd U o U' L ({ frames := 0, cells := 0, slots := 0, locals := 0 } : Room).cells ({ frames := 0, cells := 0, slots := 0, locals := 0 } : Room).slots) := by
 refine MetFree.of_bodySF (plainFor_of_name pn_14) hisR ?_
 intro p e s m args below meth c s₁ Bd hml0 hP hK
 obtain ⟨rfl, hZ, hh⟩ := hP
 have hx := Bd.exec
 have hby := Bd.bytes
 have hml : c.maxLocals = 2 := hml0
 have hown : s.vm.findClass "java/lang/StringUTF16" = some m.cls := findClass_of_methodNamed Bd.named
 have hnm := (name_of_methodNamed Bd.named Bd.method).1
 have X0 : Stand p l e ({ frames := 0, cells := 0, slots := 0, locals := 0 } : Room) s m #[(.ref a3), (.int (2 : Int32))] below meth c s₁ [] 0 0 := Stand.of_body Bd
 have e0 : s₁.heap = h0 := by rw [← hh, Bd.state]; rfl
 have N0 := Fr.nil n0
 refine own_go (b := (s₁.setTop (mkF m 0 #[.val (.ref a3), .val (.int (2 : Int32))] []))) (fun _ k => castTop (ef_rmcd_2 m a3 (2 : Int32)) k) ?_
 refine own_go (b := (s₁.setTop (mkF m 2 #[.val (.ref a3), .val (.int (2 : Int32))] [(.ref a3), (.int (2 : Int32))]))) (fun _ k => XS.iloadN X0.here hx rfl (hb hby d14_0) rfl (XS.aloadN X0.here hx rfl (hb hby d14_1) rfl rfl k)) ?_
 obtain ⟨cl1, Ar1, -, Sz1, Nn1, -, -⟩ := id V_a3
 refine own_go (b := (s₁.setTop (mkF m 8 #[.val (.ref a3), .val (.int (2 : Int32))] [(.int ((0 : Int32).toInt8.toInt32))]))) (fun _ k => X0.arraylength hx (by rw [e0]; exact Ar1.1) (State.isArrayOf_alike hZ.alike Ar1.2.1) (g := (mkF m 2 #[.val (.ref a3), .val (.int (2 : Int32))] [(.ref a3), (.int (2 : Int32))])) rfl rfl (hb hby d14_2) _ (by rw [len_of Sz1 Nn1]; exact (XS.isub X0.here hx rfl (hb hby d14_3) rfl (XS.bipush X0.here hx rfl (hb hby d14_4) (XS.iushr X0.here hx rfl (hb hby d14_6) rfl (XS.i2b X0.here hx rfl (hb hby d14_7) rfl k)))))) ?_
 obtain ⟨fs, hr, hrun, hended, hW, hsame⟩ := X0.leave (v := some (.int (nar .byte ((0 : Int32).toInt8.toInt32)))) (fun h => by rw [Bd.returns] at h; cases h)
 exact ⟨_, _, retN X0 hx (t := .byte) Bd.returns (by simp) (hb hby d14_8) hr, hrun, hended, _, _, rfl, (show Qrmcd_2 Z a3 k3 x0 x1 h0 n0 _ s₁.heap _ from (by rw [e0]; exact ⟨rfl, N0, rfl⟩)), ⟨_, rfl⟩, hW, hsame.mono (by decide) (by decide)⟩
theorem ef_rms3_2 (m : MethodId) (x0 : Addr) (x1 : Addr) (x2 : Int32) (x3 : Int32) : entryFrame m #[(.ref x0), (.ref x1), (.int x2), (.int x3), .null] 6 = mkF m 0 #[.val (.ref x0), .val (.ref x1), .val (.int x2), .val (.int x3), .val .null, .unset] [] := by first | (simp [entryFrame, mkF, argsToLocals, Value.category]; done) | rfl
def Qrms3_2 (Z : State) (a1 : Addr) (a2 : Addr) (k2 : ClassId) (c0 : Int32) (c1 : Int32) (cs : Int32) (h0 : Heap) (n0 : Nat) (v : Option Value) (h : Heap) (L : List Loc) : Prop := ∃ (b : Addr) (kb : ClassId), v = none ∧ Fr n0 L ∧ Keep h0 h [a1] ∧ (Fld Z h a1 "java/lang/String" "value" "[B" (.ref b)) ∧ (Fld Z h a1 "java/lang/String" "coder" "B" (.int (0 : Int32))) ∧ (Arv Z h b kb .byte (2 : Int32) [(.int (own_lt c0)), (.int (own_lt c1))] (.int (0 : Int32)))
set_option maxRecDepth 65536 in
set_option maxHeartbeats 40000000 in
theorem rms3_2 (l : Launch) (Z : State) (a0 : Array Value) (hw : ∀ d ∈ tables_1, d.before a0 Z = true) (ws : List Jvm.Cond) (a1 : Addr) (a2 : Addr) (k2 : ClassId) (c0 : Int32) (c1 : Int32) (cs : Int32) (h0 : Heap) (n0 : Nat) (Z0 : n0 ≤ h0.size) (O0 : Old Z n0 h0) (S_COMPACT_STRINGS : Sta Z Z.heap "java/lang/String" "COMPACT_STRINGS" "Z" (.int cs)) (hcs : ¬ (cs = (0 : Int32))) (E_a1 : Exa Z h0 a1 "java/lang/String") (Fld_a1_value : Fld Z h0 a1 "java/lang/String" "value" "[B" .null) (Fld_a1_coder : Fld Z h0 a1 "java/lang/String" "coder" "B" (.int (0 : Int32))) (g_a1 : n0 ≤ a1) (V_a2 : Arv Z h0 a2 k2 .char (2 : Int32) [(.int c0), (.int c1)] (.int (0 : Int32))) (hn0 : ¬ ((255 : Int32) < c0)) (hn1 : ¬ ((255 : Int32) < c1)) :
    MetFree l (⟨"java/lang/String", "<init>", "([CIILjava/lang/Void;)V"⟩ : MethodName) (head1 (Jvm.Cond.code (⟨"java/lang/String", "<init>", "([CIILjava/lang/Void;)V"⟩ : MethodName) jdk_42_method_149_code 6 none :: ws) ({ frames := 2, cells := 1, slots := 2, locals := 35 } : Room)) (fun a U => a = #[(.ref a1), (.ref a2), (.int (0 : Int32)), (.int (2 : Int32)), .null] ∧ Z.Warmed39 U.vm ∧ U.heap = h0) (fun _ _ _ _ _ => True) (fun _ U o U' => ∃ v L, o = .returned v ∧ Qrms3_2 Z a1 a2 k2 c0 c1 cs h0 n0 v U'.heap L ∧ FrameEnd U o U' L ({ frames := 2, cells := 1, slots := 2, locals := 35 } : Room).cells ({ frames := 2, cells := 1, slots := 2, locals := 35 } : Room).slots) := by
 refine MetFree.of_bodySF (plainFor_of_name pn_4) hisR ?_
 intro p e s m args below meth c s₁ Bd hml0 hP hK
 obtain ⟨rfl, hZ, hh⟩ := hP
 have hx := Bd.exec
 have hby := Bd.bytes
 have hml : c.maxLocals = 6 := hml0
 have hown : s.vm.findClass "java/lang/String" = some m.cls := findClass_of_methodNamed Bd.named
 have hnm := (name_of_methodNamed Bd.named Bd.method).1
 have X0 : Stand p l e ({ frames := 2, cells := 1, slots := 2, locals := 35 } : Room) s m #[(.ref a1), (.ref a2), (.int (0 : Int32)), (.int (2 : Int32)), .null] below meth c s₁ [] 0 0 := Stand.of_body Bd
 have e0 : s₁.heap = h0 := by rw [← hh, Bd.state]; rfl
 have N0 := Fr.nil n0
 refine own_go (b := (s₁.setTop (mkF m 0 #[.val (.ref a1), .val (.ref a2), .val (.int (0 : Int32)), .val (.int (2 : Int32)), .val .null, .unset] []))) (fun _ k => castTop (ef_rms3_2 m a1 a2 (0 : Int32) (2 : Int32)) k) ?_
 refine own_go (b := (s₁.setTop (mkF m 1 #[.val (.ref a1), .val (.ref a2), .val (.int (0 : Int32)), .val (.int (2 : Int32)), .val .null, .unset] [(.ref a1)]))) (fun _ k => XS.aloadN X0.here hx rfl (hb hby d4_0) rfl rfl k) ?_
 obtain ⟨T1, X1, e1, st1⟩ := initO X0 hx hZ hown (hw _ (List.mem_of_getElem? (i := 19) rfl)) (hw _ (List.mem_of_getElem? (i := 20) rfl)) (hw _ (List.mem_of_getElem? (i := 21) rfl)) e0 (g := (mkF m 1 #[.val (.ref a1), .val (.ref a2), .val (.int (0 : Int32)), .val (.int (2 : Int32)), .val .null, .unset] [(.ref a1)])) rfl (by rw [hml]; rfl) rfl (hb hby d4_1) (by decide) (W := 0) (by show 2 * 0 + _ ≤ _; exact Nat.le_of_eq rfl) (by decide)
 refine own_go (b := (T1.setTop (mkF m 27 #[.val (.ref a1), .val (.ref a2), .val (.int (0 : Int32)), .val (.int (2 : Int32)), .val .null, .unset] []))) (fun _ k => st1 _ (XS.iloadN X1.here hx rfl (hb hby d4_4) rfl (XS.ifYes X1.here hx rfl (pc0 := 5) (pc' := 27) rfl (hb hby d4_5) rfl ((if0 _ _).trans (feq (by decide : ¬ ((2 : Int32) = (0 : Int32)))).2) (by decide) (by decide) k))) ?_
 obtain ⟨T2, X2, e2, st2⟩ := getS2 X1 hx hZ hown (host := "") (Or.inl (hw _ (List.mem_of_getElem? (i := 59) rfl))) Via.refl e1 (S_COMPACT_STRINGS.ext O0.2) (g := (mkF m 27 #[.val (.ref a1), .val (.ref a2), .val (.int (0 : Int32)), .val (.int (2 : Int32)), .val .null, .unset] [])) rfl (hb hby d4_27)
 refine own_go (b := (T2.setTop (mkF m 36 #[.val (.ref a1), .val (.ref a2), .val (.int (0 : Int32)), .val (.int (2 : Int32)), .val .null, .unset] [(.int (2 : Int32)), (.int (0 : Int32)), (.ref a2)]))) (fun _ k => st2 _ (XS.ifNo X2.here hx rfl (hb hby d4_30) rfl ((if0 _ _).trans (feq hcs).1) (XS.aloadN X2.here hx rfl (hb hby d4_33) rfl rfl (XS.iloadN X2.here hx rfl (hb hby d4_34) rfl (XS.iloadN X2.here hx rfl (hb hby d4_35) rfl k))))) ?_
 refine own_stat (W := 0) X2 hx hZ hown e2 (hw _ (List.mem_of_getElem? (i := 76) rfl)) (hw _ (List.mem_of_getElem? (i := 77) rfl)) (rmc5_2 l Z a0 hw [] a2 k2 c0 c1 h0 n0 Z0 V_a2 hn0 hn1) (hw _ (List.mem_of_getElem? (i := 79) rfl)) (hw _ (List.mem_of_getElem? (i := 78) rfl)) rfl (by rw [hml]; rfl) rfl (hb hby d4_36) (lenOf pd___CII__B rfl) rfl (by decide) (fun T3 v3 Ll3 X3 hQ3 => ?_)
 obtain ⟨b_3, kb_3, rfl, N3q, K3, P3_0, P3_1⟩ := hQ3
 have N3 := Fr.app N0 N3q
 have Zs4 : n0 ≤ T3.heap.size := Nat.le_trans Z0 K3.1
 refine own_go (b := (T3.setTop (mkF m 45 #[.val (.ref a1), .val (.ref a2), .val (.int (0 : Int32)), .val (.int (2 : Int32)), .val .null, .val (.ref b_3)] [(.int (2 : Int32)), (.ref b_3), (.ref a1)]))) (fun _ k => XS.astore X3.here hx rfl (hb hby d4_39) rfl rfl (l' := #[.val (.ref a1), .val (.ref a2), .val (.int (0 : Int32)), .val (.int (2 : Int32)), .val .null, .val (.ref b_3)]) rfl (XS.aloadN X3.here hx rfl (hb hby d4_41) rfl rfl (XS.aload X3.here hx rfl (hb hby d4_42) rfl rfl (XS.iloadN X3.here hx rfl (hb hby d4_44) rfl k)))) ?_
 refine own_stat (W := 1) X3 hx hZ hown rfl (hw _ (List.mem_of_getElem? (i := 83) rfl)) (hw _ (List.mem_of_getElem? (i := 84) rfl)) (rmcd_2 l Z a0 hw [] b_3 kb_3 (own_lt c0) (own_lt c1) T3.heap n0 Zs4 P3_1) (hw _ (List.mem_of_getElem? (i := 85) rfl)) (hw _ (List.mem_of_getElem? (i := 78) rfl)) rfl (by rw [hml]; rfl) rfl (hb hby d4_45) (lenOf pd___BI_B rfl) rfl (by decide) (fun T5 v5 Ll5 X5 hQ5 => ?_)
 obtain ⟨rfl, N5q, eh5⟩ := hQ5
 have N5 := Fr.app N3 N5q
 have F6 := E_a1.keep K3
 have F7 := Fld_a1_coder.keep K3 nin0
 obtain ⟨T8, h8, X8, e8, W8, st8⟩ := putFN X5 hx hZ hown (hw _ (List.mem_of_getElem? (i := 29) rfl)) Via.refl eh5 F7 F6 (Or.inr ⟨(hw _ (List.mem_of_getElem? (i := 25) rfl)), rfl, hnm⟩) (hw _ (List.mem_of_getElem? (i := 9) rfl)) (ty := .byte) (v' := (.int (0 : Int32))) (by decide) rfl (by decide) (g := (mkF m 48 #[.val (.ref a1), .val (.ref a2), .val (.int (0 : Int32)), .val (.int (2 : Int32)), .val .null, .val (.ref b_3)] [(.int (0 : Int32)), (.ref a1)])) rfl rfl (hb hby d4_48)
 have N8 := Fr.snoc X8 N5 g_a1
 have Zs9 : n0 ≤ h8.size := Nat.le_trans Zs4 (Keep.of_wr W8).1
 have F8 : Fld Z h8 a1 "java/lang/String" "coder" "B" (.int (0 : Int32)) := F7.same W8
 refine own_go (b := (T8.setTop (mkF m 54 #[.val (.ref a1), .val (.ref a2), .val (.int (0 : Int32)), .val (.int (2 : Int32)), .val .null, .val (.ref b_3)] [(.ref b_3), (.ref a1)]))) (fun _ k => st8 _ (XS.aloadN X8.here hx rfl (hb hby d4_51) rfl rfl (XS.aload X8.here hx rfl (hb hby d4_52) rfl rfl k))) ?_
 have F10 := F6.wr W8
 have F11 := Fld_a1_value.keep K3 nin0
 have F12 := F11.other W8 (Or.inr (slot_ne (Or.inr (hw _ (List.mem_of_getElem? (i := 24) rfl))) (Or.inr (hw _ (List.mem_of_getElem? (i := 25) rfl))) (by decide) (t := (.array .byte)) (t' := .byte) (by decide) (by decide)))
 obtain ⟨T13, h13, X13, e13, W13, st13⟩ := putF X8 hx hZ hown (host := "") (Or.inl (hw _ (List.mem_of_getElem? (i := 28) rfl))) Via.refl e8 F12 F10 (Or.inr ⟨(hw _ (List.mem_of_getElem? (i := 24) rfl)), rfl, hnm⟩) (hw _ (List.mem_of_getElem? (i := 9) rfl)) (ty := (.array .byte)) (by decide) rfl rfl (g := (mkF m 54 #[.val (.ref a1), .val (.ref a2), .val (.int (0 : Int32)), .val (.int (2 : Int32)), .val .null, .val (.ref b_3)] [(.ref b_3), (.ref a1)])) rfl rfl (hb hby d4_54)
 have N13 := Fr.snoc X13 N8 g_a1
 have Zs14 : n0 ≤ h13.size := Nat.le_trans Zs9 (Keep.of_wr W13).1
 have F13 : Fld Z h13 a1 "java/lang/String" "value" "[B" (.ref b_3) := F12.same W13
 refine own_go (b := (T13.setTop (mkF m 57 #[.val (.ref a1), .val (.ref a2), .val (.int (0 : Int32)), .val (.int (2 : Int32)), .val .null, .val (.ref b_3)] []))) (fun _ k => st13 _ k) ?_
 have K15 := (Keep.refl h0 [a1]).trans K3 all0
 have K16 := K15.wr W8 (Or.inl (List.mem_of_getElem? (i := 0) rfl))
 have K17 := K16.wr W13 (Or.inl (List.mem_of_getElem? (i := 0) rfl))
 have F18 := F8.other W13 (Or.inr (slot_ne (Or.inr (hw _ (List.mem_of_getElem? (i := 25) rfl))) (Or.inr (hw _ (List.mem_of_getElem? (i := 24) rfl))) (by decide) (t := .byte) (t' := (.array .byte)) (by decide) (by decide)))
 have nx19 : b_3 ≠ a1 := (Ne.symm (own_ne E_a1.lt (Nat.le_refl _) P3_0))
 have F20 := P3_1.other W8 nx19
 have F21 := F20.other W13 nx19
 obtain ⟨fs, hr, hrun, hended, hW, hsame⟩ := X13.leave (v := none) (fun _ => rfl)
 exact ⟨_, _, X13.returnOut hx Bd.returns (hb hby d4_57) hr, hrun, hended, _, _, rfl, (show Qrms3_2 Z a1 a2 k2 c0 c1 cs h0 n0 _ T13.heap _ from (by rw [e13]; exact ⟨b_3, kb_3, rfl, N13, K17, F13, F18, F21⟩)), ⟨_, rfl⟩, hW, hsame.mono (by decide) (by decide)⟩
theorem ef_rms2_2 (m : MethodId) (x0 : Addr) (x1 : Addr) : entryFrame m #[(.ref x0), (.ref x1)] 2 = mkF m 0 #[.val (.ref x0), .val (.ref x1)] [] := by first | (simp [entryFrame, mkF, argsToLocals, Value.category]; done) | rfl
def Qrms2_2 (Z : State) (a1 : Addr) (a2 : Addr) (k2 : ClassId) (c0 : Int32) (c1 : Int32) (cs : Int32) (h0 : Heap) (n0 : Nat) (v : Option Value) (h : Heap) (L : List Loc) : Prop := ∃ (b : Addr) (kb : ClassId), v = none ∧ Fr n0 L ∧ Keep h0 h [a1] ∧ (Fld Z h a1 "java/lang/String" "value" "[B" (.ref b)) ∧ (Fld Z h a1 "java/lang/String" "coder" "B" (.int (0 : Int32))) ∧ (Arv Z h b kb .byte (2 : Int32) [(.int (own_lt c0)), (.int (own_lt c1))] (.int (0 : Int32)))
set_option maxRecDepth 65536 in
set_option maxHeartbeats 40000000 in
theorem rms2_2 (l : Launch) (Z : State) (a0 : Array Value) (hw : ∀ d ∈ tables_1, d.before a0 Z = true) (ws : List Jvm.Cond) (a1 : Addr) (a2 : Addr) (k2 : ClassId) (c0 : Int32) (c1 : Int32) (cs : Int32) (h0 : Heap) (n0 : Nat) (Z0 : n0 ≤ h0.size) (O0 : Old Z n0 h0) (S_COMPACT_STRINGS : Sta Z Z.heap "java/lang/String" "COMPACT_STRINGS" "Z" (.int cs)) (hcs : ¬ (cs = (0 : Int32))) (E_a1 : Exa Z h0 a1 "java/lang/String") (Fld_a1_value : Fld Z h0 a1 "java/lang/String" "value" "[B" .null) (Fld_a1_coder : Fld Z h0 a1 "java/lang/String" "coder" "B" (.int (0 : Int32))) (g_a1 : n0 ≤ a1) (V_a2 : Arv Z h0 a2 k2 .char (2 : Int32) [(.int c0), (.int c1)] (.int (0 : Int32))) (hn0 : ¬ ((255 : Int32) < c0)) (hn1 : ¬ ((255 : Int32) < c1)) :
    MetFree l (⟨"java/lang/String", "<init>", "([C)V"⟩ : MethodName) (head1 (Jvm.Cond.code (⟨"java/lang/String", "<init>", "([C)V"⟩ : MethodName) jdk_42_method_3_code 2 none :: ws) ({ frames := 3, cells := 1, slots := 2, locals := 52 } : Room)) (fun a U => a = #[(.ref a1), (.ref a2)] ∧ Z.Warmed39 U.vm ∧ U.heap = h0) (fun _ _ _ _ _ => True) (fun _ U o U' => ∃ v L, o = .returned v ∧ Qrms2_2 Z a1 a2 k2 c0 c1 cs h0 n0 v U'.heap L ∧ FrameEnd U o U' L ({ frames := 3, cells := 1, slots := 2, locals := 52 } : Room).cells ({ frames := 3, cells := 1, slots := 2, locals := 52 } : Room).slots) := by
 refine MetFree.of_bodySF (plainFor_of_name pn_3) hisR ?_
 intro p e s m args below meth c s₁ Bd hml0 hP hK
 obtain ⟨rfl, hZ, hh⟩ := hP
 have hx := Bd.exec
 have hby := Bd.bytes
 have hml : c.maxLocals = 2 := hml0
 have hown : s.vm.findClass "java/lang/String" = some m.cls := findClass_of_methodNamed Bd.named
 have hnm := (name_of_methodNamed Bd.named Bd.method).1
 have X0 : Stand p l e ({ frames := 3, cells := 1, slots := 2, locals := 52 } : Room) s m #[(.ref a1), (.ref a2)] below meth c s₁ [] 0 0 := Stand.of_body Bd
 have e0 : s₁.heap = h0 := by rw [← hh, Bd.state]; rfl
 have N0 := Fr.nil n0
 refine own_go (b := (s₁.setTop (mkF m 0 #[.val (.ref a1), .val (.ref a2)] []))) (fun _ k => castTop (ef_rms2_2 m a1 a2) k) ?_
 refine own_go (b := (s₁.setTop (mkF m 4 #[.val (.ref a1), .val (.ref a2)] [(.ref a2), (.int (0 : Int32)), (.ref a2), (.ref a1)]))) (fun _ k => XS.aloadN X0.here hx rfl (hb hby d3_0) rfl rfl (XS.aloadN X0.here hx rfl (hb hby d3_1) rfl rfl (XS.iconst X0.here hx rfl (hb hby d3_2) (XS.aloadN X0.here hx rfl (hb hby d3_3) rfl rfl k)))) ?_
 obtain ⟨cl1, Ar1, -, Sz1, Nn1, -, -⟩ := id V_a2
 refine own_go (b := (s₁.setTop (mkF m 6 #[.val (.ref a1), .val (.ref a2)] [.null, (.int (2 : Int32)), (.int (0 : Int32)), (.ref a2), (.ref a1)]))) (fun _ k => X0.arraylength hx (by rw [e0]; exact Ar1.1) (State.isArrayOf_alike hZ.alike Ar1.2.1) (g := (mkF m 4 #[.val (.ref a1), .val (.ref a2)] [(.ref a2), (.int (0 : Int32)), (.ref a2), (.ref a1)])) rfl rfl (hb hby d3_4) _ (by rw [len_of Sz1 Nn1]; exact (XS.aconstNull X0.here hx rfl (hb hby d3_5) k))) ?_
 refine own_spec (W := 0) X0 hx hZ hown e0 (hw _ (List.mem_of_getElem? (i := 15) rfl)) (hw _ (List.mem_of_getElem? (i := 16) rfl)) (rms3_2 l Z a0 hw [] a1 a2 k2 c0 c1 cs h0 n0 Z0 O0 S_COMPACT_STRINGS hcs E_a1 Fld_a1_value Fld_a1_coder g_a1 V_a2 hn0 hn1) (hw _ (List.mem_of_getElem? (i := 18) rfl)) (hw _ (List.mem_of_getElem? (i := 10) rfl)) rfl (by rw [hml]; rfl) rfl (hb hby d3_6) (lenOf pd___CIILjava_lang_Void__V rfl) rfl rfl (by decide) (fun T2 v2 Ll2 X2 hQ2 => ?_)
 obtain ⟨b_2, kb_2, rfl, N2q, K2, P2_0, P2_1, P2_2⟩ := hQ2
 have N2 := Fr.app N0 N2q
 have Zs3 : n0 ≤ T2.heap.size := Nat.le_trans Z0 K2.1
 have K4 := (Keep.refl h0 [a1]).trans K2 (allS (Or.inl (List.mem_of_getElem? (i := 0) rfl)) all0)
 obtain ⟨fs, hr, hrun, hended, hW, hsame⟩ := X2.leave (v := none) (fun _ => rfl)
 exact ⟨_, _, X2.returnOut hx Bd.returns (hb hby d3_9) hr, hrun, hended, _, _, rfl, (show Qrms2_2 Z a1 a2 k2 c0 c1 cs h0 n0 _ T2.heap _ from (by exact ⟨b_2, kb_2, rfl, N2, K4, P2_0, P2_1, P2_2⟩)), ⟨_, rfl⟩, hW, hsame.mono (by decide) (by decide)⟩
theorem ef_rmmk_2 (m : MethodId) (x0 : Int32) (x1 : Int32) (x2 : Int32) (x3 : Int32) (x4 : Int32) : entryFrame m #[(.int x0), (.int x1), (.int x2), (.int x3), (.int x4)] 5 = mkF m 0 #[.val (.int x0), .val (.int x1), .val (.int x2), .val (.int x3), .val (.int x4)] [] := by first | (simp [entryFrame, mkF, argsToLocals, Value.category]; done) | rfl
def Qrmmk_2 (Z : State) (c0 : Int32) (c1 : Int32) (c2 : Int32) (c3 : Int32) (cs : Int32) (h0 : Heap) (n0 : Nat) (v : Option Value) (h : Heap) (L : List Loc) : Prop := ∃ (a : Addr) (b : Addr) (kb : ClassId), v = some (.ref a) ∧ Fr n0 L ∧ Keep h0 h [] ∧ (h0.size ≤ a) ∧ (Exa Z h a "java/lang/String") ∧ (Fld Z h a "java/lang/String" "value" "[B" (.ref b)) ∧ (Fld Z h a "java/lang/String" "coder" "B" (.int (0 : Int32))) ∧ (Arv Z h b kb .byte (2 : Int32) [(.int (own_lt (nar .char c0))), (.int (own_lt (nar .char c1)))] (.int (0 : Int32)))
set_option maxRecDepth 65536 in
set_option maxHeartbeats 40000000 in
theorem rmmk_2 (l : Launch) (Z : State) (a0 : Array Value) (hw : ∀ d ∈ tables_1, d.before a0 Z = true) (ws : List Jvm.Cond) (c0 : Int32) (c1 : Int32) (c2 : Int32) (c3 : Int32) (cs : Int32) (h0 : Heap) (n0 : Nat) (Z0 : n0 ≤ h0.size) (O0 : Old Z n0 h0) (S_COMPACT_STRINGS : Sta Z Z.heap "java/lang/String" "COMPACT_STRINGS" "Z" (.int cs)) (hcs : ¬ (cs = (0 : Int32))) (hl0 : own_lat c0) (hl1 : own_lat c1) (hl2 : own_lat c2) (hl3 : own_lat c3) :
    MetFree l (⟨"com/example/keyclasp/keyclasp/protocol/ProtocolVersionOfPinLaw", "make", "(ICCCC)Ljava/lang/String;"⟩ : MethodName) (head1 (Jvm.Cond.code (⟨"com/example/keyclasp/keyclasp/protocol/ProtocolVersionOfPinLaw", "make", "(ICCCC)Ljava/lang/String;"⟩ : MethodName) method_3_code 5 (some (.object "java/lang/String")) :: ws) ({ frames := 4, cells := 3, slots := 8, locals := 66 } : Room)) (fun a U => a = #[(.int (2 : Int32)), (.int c0), (.int c1), (.int c2), (.int c3)] ∧ Z.Warmed39 U.vm ∧ U.heap = h0) (fun _ _ _ _ _ => True) (fun _ U o U' => ∃ v L, o = .returned v ∧ Qrmmk_2 Z c0 c1 c2 c3 cs h0 n0 v U'.heap L ∧ FrameEnd U o U' L ({ frames := 4, cells := 3, slots := 8, locals := 66 } : Room).cells ({ frames := 4, cells := 3, slots := 8, locals := 66 } : Room).slots) := by
 refine MetFree.of_bodySF (plainFor_of_name pn_2) hisR ?_
 intro p e s m args below meth c s₁ Bd hml0 hP hK
 obtain ⟨rfl, hZ, hh⟩ := hP
 have hx := Bd.exec
 have hby := Bd.bytes
 have hml : c.maxLocals = 5 := hml0
 have hown : s.vm.findClass "com/example/keyclasp/keyclasp/protocol/ProtocolVersionOfPinLaw" = some m.cls := findClass_of_methodNamed Bd.named
 have hnm := (name_of_methodNamed Bd.named Bd.method).1
 have X0 : Stand p l e ({ frames := 4, cells := 3, slots := 8, locals := 66 } : Room) s m #[(.int (2 : Int32)), (.int c0), (.int c1), (.int c2), (.int c3)] below meth c s₁ [] 0 0 := Stand.of_body Bd
 have e0 : s₁.heap = h0 := by rw [← hh, Bd.state]; rfl
 have N0 := Fr.nil n0
 refine own_go (b := (s₁.setTop (mkF m 0 #[.val (.int (2 : Int32)), .val (.int c0), .val (.int c1), .val (.int c2), .val (.int c3)] []))) (fun _ k => castTop (ef_rmmk_2 m (2 : Int32) c0 c1 c2 c3) k) ?_
 refine own_go (b := (s₁.setTop (mkF m 40 #[.val (.int (2 : Int32)), .val (.int c0), .val (.int c1), .val (.int c2), .val (.int c3)] []))) (fun _ k => XS.iloadN X0.here hx rfl (hb hby d2_0) rfl (XS.ifYes X0.here hx rfl (pc0 := 1) (pc' := 15) rfl (hb hby d2_1) rfl ((if0 _ _).trans (feq (by decide : ¬ ((2 : Int32) = (0 : Int32)))).2) (by decide) (by decide) (XS.iloadN X0.here hx rfl (hb hby d2_15) rfl (XS.iconst X0.here hx rfl (hb hby d2_16) (XS.icmpYes X0.here hx rfl (pc0 := 17) (pc' := 35) rfl (hb hby d2_17) rfl (feq (by decide : ¬ ((2 : Int32) = (1 : Int32)))).2 (by decide) (by decide) (XS.iloadN X0.here hx rfl (hb hby d2_35) rfl (XS.iconst X0.here hx rfl (hb hby d2_36) (XS.icmpNo X0.here hx rfl (hb hby d2_37) rfl (teq (rfl : (2 : Int32) = (2 : Int32))).2 k)))))))) ?_
 obtain ⟨T1, h1, X1, e1, E1, A1, D1, Un1, st1⟩ := newO X0 hx hZ hown (hw _ (List.mem_of_getElem? (i := 8) rfl)) (hw _ (List.mem_of_getElem? (i := 9) rfl)) (hw _ (List.mem_of_getElem? (i := 10) rfl)) e0 (g := (mkF m 40 #[.val (.int (2 : Int32)), .val (.int c0), .val (.int c1), .val (.int c2), .val (.int c3)] [])) rfl (hb hby d2_40) (by decide) (by decide)
 obtain ⟨b1, g1⟩ : ∃ z, z = h0.size := ⟨_, rfl⟩
 rw [← g1] at A1 D1 Un1 st1
 have Zs2 : n0 ≤ h1.size := Nat.le_trans Z0 E1.1
 have F1_value : Fld Z h1 b1 "java/lang/String" "value" "[B" .null := D1 (Or.inr (hw _ (List.mem_of_getElem? (i := 24) rfl))) (ty := (.array .byte)) (by decide)
 have F1_coder : Fld Z h1 b1 "java/lang/String" "coder" "B" (.int (0 : Int32)) := D1 (Or.inr (hw _ (List.mem_of_getElem? (i := 25) rfl))) (ty := .byte) (by decide)
 refine own_go (b := (T1.setTop (mkF m 45 #[.val (.int (2 : Int32)), .val (.int c0), .val (.int c1), .val (.int c2), .val (.int c3)] [(.int (2 : Int32)), (.ref b1), (.ref b1)]))) (fun _ k => st1 _ (XS.dup X1.here hx rfl (hb hby d2_43) rfl rfl (XS.iconst X1.here hx rfl (hb hby d2_44) k))) ?_
 obtain ⟨T3, h3, kl3, X3, e3, E3, A3, st3⟩ := newP X1 hx hZ (hw _ (List.mem_of_getElem? (i := 11) rfl)) e1 (g := (mkF m 45 #[.val (.int (2 : Int32)), .val (.int c0), .val (.int c1), .val (.int c2), .val (.int c3)] [(.int (2 : Int32)), (.ref b1), (.ref b1)])) rfl (hb hby d2_45) rfl (by decide) (cap := 2) (by decide) (by decide) (by decide) (by decide)
 obtain ⟨b3, g3⟩ : ∃ z, z = h1.size := ⟨_, rfl⟩
 rw [← g3] at A3 st3
 have Zs4 : n0 ≤ h3.size := Nat.le_trans Zs2 E3.1
 have V3 : Arv Z h3 b3 kl3 .char (2 : Int32) [(.int (0 : Int32)), (.int (0 : Int32))] (.int (0 : Int32)) := (Arv.new A3 (by decide)).pad (pad_rep [] (.int (0 : Int32)) 2)
 refine own_go (b := (T3.setTop (mkF m 50 #[.val (.int (2 : Int32)), .val (.int c0), .val (.int c1), .val (.int c2), .val (.int c3)] [(.int c0), (.int (0 : Int32)), (.ref b3), (.ref b3), (.ref b1), (.ref b1)]))) (fun _ k => st3 _ (XS.dup X3.here hx rfl (hb hby d2_47) rfl rfl (XS.iconst X3.here hx rfl (hb hby d2_48) (XS.iloadN X3.here hx rfl (hb hby d2_49) rfl k)))) ?_
 obtain ⟨cl5, Ar5, ql5, Sz5, Nn5, Hl5, Gl5⟩ := id V3
 have hin5 : ¬ ((0 : Int32) < 0 ∨ cl5.slots.size ≤ ((0 : Int32)).toNatClampNeg) := inb_of Sz5 ⟨by decide, by decide⟩
 obtain ⟨T5, h5, X5, e5, W5, st5⟩ := stC X3 hx hZ e3 Ar5 (j := (0 : Int32)) hin5 (g := (mkF m 50 #[.val (.int (2 : Int32)), .val (.int c0), .val (.int c1), .val (.int c2), .val (.int c3)] [(.int c0), (.int (0 : Int32)), (.ref b3), (.ref b3), (.ref b1), (.ref b1)])) rfl rfl (hb hby d2_50)
 have gx6 : n0 ≤ b3 := Nat.le_trans Zs2 (Nat.le_of_eq g3.symm)
 have N5 := Fr.snoc X5 N0 gx6
 have Zs7 : n0 ≤ h5.size := Nat.le_trans Zs4 (Keep.of_wr W5).1
 have V5 : Arv Z h5 b3 kl3 .char (2 : Int32) [(.int (nar .char c0)), (.int (0 : Int32))] (.int (0 : Int32)) := Arv.set Ar5 ql5 Sz5 Nn5 Hl5 Gl5 (fits_nar_char _) W5 0 rfl (Nat.le_of_ble_eq_true rfl)
 refine own_go (b := (T5.setTop (mkF m 54 #[.val (.int (2 : Int32)), .val (.int c0), .val (.int c1), .val (.int c2), .val (.int c3)] [(.int c1), (.int (1 : Int32)), (.ref b3), (.ref b3), (.ref b1), (.ref b1)]))) (fun _ k => st5 _ (XS.dup X5.here hx rfl (hb hby d2_51) rfl rfl (XS.iconst X5.here hx rfl (hb hby d2_52) (XS.iloadN X5.here hx rfl (hb hby d2_53) rfl k)))) ?_
 obtain ⟨cl8, Ar8, ql8, Sz8, Nn8, Hl8, Gl8⟩ := id V5
 have hin8 : ¬ ((1 : Int32) < 0 ∨ cl8.slots.size ≤ ((1 : Int32)).toNatClampNeg) := inb_of Sz8 ⟨by decide, by decide⟩
 obtain ⟨T8, h8, X8, e8, W8, st8⟩ := stC X5 hx hZ e5 Ar8 (j := (1 : Int32)) hin8 (g := (mkF m 54 #[.val (.int (2 : Int32)), .val (.int c0), .val (.int c1), .val (.int c2), .val (.int c3)] [(.int c1), (.int (1 : Int32)), (.ref b3), (.ref b3), (.ref b1), (.ref b1)])) rfl rfl (hb hby d2_54)
 have N8 := Fr.snoc X8 N5 gx6
 have Zs9 : n0 ≤ h8.size := Nat.le_trans Zs7 (Keep.of_wr W8).1
 have V8 : Arv Z h8 b3 kl3 .char (2 : Int32) [(.int (nar .char c0)), (.int (nar .char c1))] (.int (0 : Int32)) := Arv.set Ar8 ql8 Sz8 Nn8 Hl8 Gl8 (fits_nar_char _) W8 1 rfl (Nat.le_of_ble_eq_true rfl)
 refine own_go (b := (T8.setTop (mkF m 55 #[.val (.int (2 : Int32)), .val (.int c0), .val (.int c1), .val (.int c2), .val (.int c3)] [(.ref b3), (.ref b1), (.ref b1)]))) (fun _ k => st8 _ k) ?_
 have O11 := O0.ext E1
 have O12 := O11.ext E3
 have O13 := O12.wr W5 gx6
 have O14 := O13.wr W8 gx6
 have F15 := A1.ext E3
 have F16 := F15.wr W5
 have F17 := F16.wr W8
 have F18 := F1_value.ext E3
 have nx19 : b1 ≠ b3 := (own_ne A1.lt (Nat.le_refl _) (Nat.le_of_eq g3.symm))
 have F20 := F18.other W5 (Or.inl nx19)
 have F21 := F20.other W8 (Or.inl nx19)
 have F22 := F1_coder.ext E3
 have F23 := F22.other W5 (Or.inl nx19)
 have F24 := F23.other W8 (Or.inl nx19)
 have gx25 : n0 ≤ b1 := Nat.le_trans Z0 (Nat.le_of_eq g1.symm)
 refine own_spec (W := 1) X8 hx hZ hown e8 (hw _ (List.mem_of_getElem? (i := 12) rfl)) (hw _ (List.mem_of_getElem? (i := 13) rfl)) (rms2_2 l Z a0 hw [] b1 b3 kl3 (nar .char c0) (nar .char c1) cs h8 n0 Zs9 O14 S_COMPACT_STRINGS hcs F17 F21 F24 gx25 V8 (own_n255 hl0) (own_n255 hl1)) (hw _ (List.mem_of_getElem? (i := 14) rfl)) (hw _ (List.mem_of_getElem? (i := 10) rfl)) rfl (by rw [hml]; rfl) rfl (hb hby d2_55) (lenOf pd___C_V rfl) rfl rfl (by decide) (fun T10 v10 Ll10 X10 hQ10 => ?_)
 obtain ⟨b_10, kb_10, rfl, N10q, K10, P10_0, P10_1, P10_2⟩ := hQ10
 have N10 := Fr.app N8 N10q
 have Zs26 : n0 ≤ T10.heap.size := Nat.le_trans Zs9 K10.1
 have K27 := (Keep.refl h0 []).ext E1
 have K28 := K27.ext E3
 have K29 := K28.wr W5 (Or.inr (Nat.le_trans E1.1 (Nat.le_of_eq g3.symm)))
 have K30 := K29.wr W8 (Or.inr (Nat.le_trans E1.1 (Nat.le_of_eq g3.symm)))
 have K31 := K30.trans K10 (allS (Or.inr (Nat.le_trans (Nat.le_refl _) (Nat.le_of_eq g1.symm))) all0)
 have F32 := F17.keep K10
 obtain ⟨fs, hr, hrun, hended, hW, hsame⟩ := X10.leave (v := some (.ref b1)) (fun h => by rw [Bd.returns] at h; cases h)
 exact ⟨_, _, retOut X10 hx Bd.returns rfl (Or.inr (Or.inr (Or.inr (Or.inr ⟨rfl, rfl, rfl⟩)))) (hb hby d2_58) hr, hrun, hended, _, _, rfl, (show Qrmmk_2 Z c0 c1 c2 c3 cs h0 n0 _ T10.heap _ from (by exact ⟨b1, b_10, kb_10, rfl, N10, K31, (Nat.le_trans (Nat.le_refl _) (Nat.le_of_eq g1.symm)), F32, P10_0, P10_1, P10_2⟩)), ⟨_, rfl⟩, hW, hsame.mono (by decide) (by decide)⟩
theorem ef_rmc6_3 (m : MethodId) (x0 : Addr) (x1 : Int32) (x2 : Addr) (x3 : Int32) (x4 : Int32) : entryFrame m #[(.ref x0), (.int x1), (.ref x2), (.int x3), (.int x4)] 7 = mkF m 0 #[.val (.ref x0), .val (.int x1), .val (.ref x2), .val (.int x3), .val (.int x4), .unset, .unset] [] := by first | (simp [entryFrame, mkF, argsToLocals, Value.category]; done) | rfl
def Qrmc6_3 (Z : State) (a2 : Addr) (k2 : ClassId) (a3 : Addr) (k3 : ClassId) (c0 : Int32) (c1 : Int32) (c2 : Int32) (x0 : Int32) (x1 : Int32) (x2 : Int32) (h0 : Heap) (n0 : Nat) (v : Option Value) (h : Heap) (L : List Loc) : Prop := v = some (.int (3 : Int32)) ∧ Fr n0 L ∧ Keep h0 h [a3] ∧ (Arv Z h a3 k3 .byte (3 : Int32) [(.int (own_lt c0)), (.int (own_lt c1)), (.int (own_lt c2))] (.int (0 : Int32)))
set_option maxRecDepth 65536 in
set_option maxHeartbeats 40000000 in
theorem rmc6_3 (l : Launch) (Z : State) (a0 : Array Value) (hw : ∀ d ∈ tables_1, d.before a0 Z = true) (ws : List Jvm.Cond) (a2 : Addr) (k2 : ClassId) (a3 : Addr) (k3 : ClassId) (c0 : Int32) (c1 : Int32) (c2 : Int32) (x0 : Int32) (x1 : Int32) (x2 : Int32) (h0 : Heap) (n0 : Nat) (Z0 : n0 ≤ h0.size) (V_a2 : Arv Z h0 a2 k2 .char (3 : Int32) [(.int c0), (.int c1), (.int c2)] (.int (0 : Int32))) (V_a3 : Arv Z h0 a3 k3 .byte (3 : Int32) [(.int x0), (.int x1), (.int x2)] (.int (0 : Int32))) (g_a3 : n0 ≤ a3) (ne_a2_a3 : a2 ≠ a3) (hn0 : ¬ ((255 : Int32) < c0)) (hn1 : ¬ ((255 : Int32) < c1)) (hn2 : ¬ ((255 : Int32) < c2)) :
    MetFree l (⟨"java/lang/StringUTF16", "compress", "([CI[BII)I"⟩ : MethodName) (head1 (Jvm.Cond.code (⟨"java/lang/StringUTF16", "compress", "([CI[BII)I"⟩ : MethodName) jdk_52_method_21_code 7 (some .int) :: ws) ({ frames := 0, cells := 0, slots := 0, locals := 0 } : Room)) (fun a U => a = #[(.ref a2), (.int (0 : Int32)), (.ref a3), (.int (0 : Int32)), (.int (3 : Int32))] ∧ Z.Warmed39 U.vm ∧ U.heap = h0) (fun _ _ _ _ _ => True) (fun _ U o U' => ∃ v L, o = .returned v ∧ Qrmc6_3 Z a2 k2 a3 k3 c0 c1 c2 x0 x1 x2 h0 n0 v U'.heap L ∧ FrameEnd U o U' L ({ frames := 0, cells := 0, slots := 0, locals := 0 } : Room).cells ({ frames := 0, cells := 0, slots := 0, locals := 0 } : Room).slots) := by
 refine MetFree.of_bodySF (plainFor_of_name pn_13) hisR ?_
 intro p e s m args below meth c s₁ Bd hml0 hP hK
 obtain ⟨rfl, hZ, hh⟩ := hP
 have hx := Bd.exec
 have hby := Bd.bytes
 have hml : c.maxLocals = 7 := hml0
 have hown : s.vm.findClass "java/lang/StringUTF16" = some m.cls := findClass_of_methodNamed Bd.named
 have hnm := (name_of_methodNamed Bd.named Bd.method).1
 have X0 : Stand p l e ({ frames := 0, cells := 0, slots := 0, locals := 0 } : Room) s m #[(.ref a2), (.int (0 : Int32)), (.ref a3), (.int (0 : Int32)), (.int (3 : Int32))] below meth c s₁ [] 0 0 := Stand.of_body Bd
 have e0 : s₁.heap = h0 := by rw [← hh, Bd.state]; rfl
 have N0 := Fr.nil n0
 refine own_go (b := (s₁.setTop (mkF m 0 #[.val (.ref a2), .val (.int (0 : Int32)), .val (.ref a3), .val (.int (0 : Int32)), .val (.int (3 : Int32)), .unset, .unset] []))) (fun _ k => castTop (ef_rmc6_3 m a2 (0 : Int32) a3 (0 : Int32) (3 : Int32)) k) ?_
 refine own_go (b := (s₁.setTop (mkF m 12 #[.val (.ref a2), .val (.int (0 : Int32)), .val (.ref a3), .val (.int (0 : Int32)), .val (.int (3 : Int32)), .val (.int (0 : Int32)), .unset] [(.int (0 : Int32)), (.ref a2)]))) (fun _ k => XS.iconst X0.here hx rfl (hb hby d13_0) (XS.istore X0.here hx rfl (hb hby d13_1) rfl (l' := #[.val (.ref a2), .val (.int (0 : Int32)), .val (.ref a3), .val (.int (0 : Int32)), .val (.int (3 : Int32)), .val (.int (0 : Int32)), .unset]) rfl (XS.iload X0.here hx rfl (hb hby d13_3) rfl (XS.iload X0.here hx rfl (hb hby d13_5) rfl (XS.icmpNo X0.here hx rfl (hb hby d13_7) rfl (tlt (by decide : (0 : Int32) < (3 : Int32))).2.1 (XS.aloadN X0.here hx rfl (hb hby d13_10) rfl rfl (XS.iloadN X0.here hx rfl (hb hby d13_11) rfl k))))))) ?_
 obtain ⟨cl1, Ar1, ql1, Sz1, Nn1, Hl1, Gl1⟩ := id V_a2
 have hin1 : ¬ ((0 : Int32) < 0 ∨ cl1.slots.size ≤ ((0 : Int32)).toNatClampNeg) := inb_of Sz1 ⟨by decide, by decide⟩
 refine own_go (b := (s₁.setTop (mkF m 31 #[.val (.ref a2), .val (.int (0 : Int32)), .val (.ref a3), .val (.int (0 : Int32)), .val (.int (3 : Int32)), .val (.int (0 : Int32)), .val (.int c0)] [(.int (c0.toInt8.toInt32)), (.int (0 : Int32)), (.ref a3)]))) (fun _ k => X0.caload hx (j := (0 : Int32)) (v := (.int c0)) (by rw [e0]; exact Ar1.1) (State.isArrayOf_alike hZ.alike Ar1.2.1) Ar1.2.2 hin1 (Hl1.at hin1 rfl) (g := (mkF m 12 #[.val (.ref a2), .val (.int (0 : Int32)), .val (.ref a3), .val (.int (0 : Int32)), .val (.int (3 : Int32)), .val (.int (0 : Int32)), .unset] [(.int (0 : Int32)), (.ref a2)])) rfl rfl (hb hby d13_12) _ (XS.istore X0.here hx rfl (hb hby d13_13) rfl (l' := #[.val (.ref a2), .val (.int (0 : Int32)), .val (.ref a3), .val (.int (0 : Int32)), .val (.int (3 : Int32)), .val (.int (0 : Int32)), .val (.int c0)]) rfl (XS.iload X0.here hx rfl (hb hby d13_15) rfl (XS.sipush X0.here hx rfl (hb hby d13_17) (XS.icmpYes X0.here hx rfl (pc0 := 20) (pc' := 26) rfl (hb hby d13_20) rfl (flt hn0).2.2.2 (by decide) (by decide) (XS.aloadN X0.here hx rfl (hb hby d13_26) rfl rfl (XS.iloadN X0.here hx rfl (hb hby d13_27) rfl (XS.iload X0.here hx rfl (hb hby d13_28) rfl (XS.i2b X0.here hx rfl (hb hby d13_30) rfl k))))))))) ?_
 obtain ⟨cl2, Ar2, ql2, Sz2, Nn2, Hl2, Gl2⟩ := id V_a3
 have hin2 : ¬ ((0 : Int32) < 0 ∨ cl2.slots.size ≤ ((0 : Int32)).toNatClampNeg) := inb_of Sz2 ⟨by decide, by decide⟩
 obtain ⟨T2, h2, X2, e2, W2, st2⟩ := stB X0 hx hZ e0 Ar2 (j := (0 : Int32)) hin2 (g := (mkF m 31 #[.val (.ref a2), .val (.int (0 : Int32)), .val (.ref a3), .val (.int (0 : Int32)), .val (.int (3 : Int32)), .val (.int (0 : Int32)), .val (.int c0)] [(.int (c0.toInt8.toInt32)), (.int (0 : Int32)), (.ref a3)])) rfl rfl (hb hby d13_31)
 have N2 := Fr.snoc X2 N0 g_a3
 have Zs3 : n0 ≤ h2.size := Nat.le_trans Z0 (Keep.of_wr W2).1
 have V2 : Arv Z h2 a3 k3 .byte (3 : Int32) [(.int (own_lt c0)), (.int x1), (.int x2)] (.int (0 : Int32)) := Arv.set Ar2 ql2 Sz2 Nn2 Hl2 Gl2 (fits_nar_byte _) W2 0 rfl (Nat.le_of_ble_eq_true rfl)
 refine own_go (b := (T2.setTop (mkF m 12 #[.val (.ref a2), .val (.int (1 : Int32)), .val (.ref a3), .val (.int (1 : Int32)), .val (.int (3 : Int32)), .val (.int (1 : Int32)), .val (.int c0)] [(.int (1 : Int32)), (.ref a2)]))) (fun _ k => st2 _ (XS.iinc X2.here hx rfl (hb hby d13_32) rfl (l' := #[.val (.ref a2), .val (.int (1 : Int32)), .val (.ref a3), .val (.int (0 : Int32)), .val (.int (3 : Int32)), .val (.int (0 : Int32)), .val (.int c0)]) rfl (XS.iinc X2.here hx rfl (hb hby d13_35) rfl (l' := #[.val (.ref a2), .val (.int (1 : Int32)), .val (.ref a3), .val (.int (1 : Int32)), .val (.int (3 : Int32)), .val (.int (0 : Int32)), .val (.int c0)]) rfl (XS.iinc X2.here hx rfl (hb hby d13_38) rfl (l' := #[.val (.ref a2), .val (.int (1 : Int32)), .val (.ref a3), .val (.int (1 : Int32)), .val (.int (3 : Int32)), .val (.int (1 : Int32)), .val (.int c0)]) rfl (XS.goto X2.here hx rfl (pc0 := 41) (pc' := 3) rfl (hb hby d13_41) (by decide) (by decide) (XS.iload X2.here hx rfl (hb hby d13_3) rfl (XS.iload X2.here hx rfl (hb hby d13_5) rfl (XS.icmpNo X2.here hx rfl (hb hby d13_7) rfl (tlt (by decide : (1 : Int32) < (3 : Int32))).2.1 (XS.aloadN X2.here hx rfl (hb hby d13_10) rfl rfl (XS.iloadN X2.here hx rfl (hb hby d13_11) rfl k)))))))))) ?_
 have F5 := V_a2.other W2 ne_a2_a3
 obtain ⟨cl4, Ar4, ql4, Sz4, Nn4, Hl4, Gl4⟩ := id F5
 have hin4 : ¬ ((1 : Int32) < 0 ∨ cl4.slots.size ≤ ((1 : Int32)).toNatClampNeg) := inb_of Sz4 ⟨by decide, by decide⟩
 refine own_go (b := (T2.setTop (mkF m 31 #[.val (.ref a2), .val (.int (1 : Int32)), .val (.ref a3), .val (.int (1 : Int32)), .val (.int (3 : Int32)), .val (.int (1 : Int32)), .val (.int c1)] [(.int (c1.toInt8.toInt32)), (.int (1 : Int32)), (.ref a3)]))) (fun _ k => X2.caload hx (j := (1 : Int32)) (v := (.int c1)) (by rw [e2]; exact Ar4.1) (State.isArrayOf_alike hZ.alike Ar4.2.1) Ar4.2.2 hin4 (Hl4.at hin4 rfl) (g := (mkF m 12 #[.val (.ref a2), .val (.int (1 : Int32)), .val (.ref a3), .val (.int (1 : Int32)), .val (.int (3 : Int32)), .val (.int (1 : Int32)), .val (.int c0)] [(.int (1 : Int32)), (.ref a2)])) rfl rfl (hb hby d13_12) _ (XS.istore X2.here hx rfl (hb hby d13_13) rfl (l' := #[.val (.ref a2), .val (.int (1 : Int32)), .val (.ref a3), .val (.int (1 : Int32)), .val (.int (3 : Int32)), .val (.int (1 : Int32)), .val (.int c1)]) rfl (XS.iload X2.here hx rfl (hb hby d13_15) rfl (XS.sipush X2.here hx rfl (hb hby d13_17) (XS.icmpYes X2.here hx rfl (pc0 := 20) (pc' := 26) rfl (hb hby d13_20) rfl (flt hn1).2.2.2 (by decide) (by decide) (XS.aloadN X2.here hx rfl (hb hby d13_26) rfl rfl (XS.iloadN X2.here hx rfl (hb hby d13_27) rfl (XS.iload X2.here hx rfl (hb hby d13_28) rfl (XS.i2b X2.here hx rfl (hb hby d13_30) rfl k))))))))) ?_
 obtain ⟨cl6, Ar6, ql6, Sz6, Nn6, Hl6, Gl6⟩ := id V2
 have hin6 : ¬ ((1 : Int32) < 0 ∨ cl6.slots.size ≤ ((1 : Int32)).toNatClampNeg) := inb_of Sz6 ⟨by decide, by decide⟩
 obtain ⟨T6, h6, X6, e6, W6, st6⟩ := stB X2 hx hZ e2 Ar6 (j := (1 : Int32)) hin6 (g := (mkF m 31 #[.val (.ref a2), .val (.int (1 : Int32)), .val (.ref a3), .val (.int (1 : Int32)), .val (.int (3 : Int32)), .val (.int (1 : Int32)), .val (.int c1)] [(.int (c1.toInt8.toInt32)), (.int (1 : Int32)), (.ref a3)])) rfl rfl (hb hby d13_31)
 have N6 := Fr.snoc X6 N2 g_a3
 have Zs7 : n0 ≤ h6.size := Nat.le_trans Zs3 (Keep.of_wr W6).1
 have V6 : Arv Z h6 a3 k3 .byte (3 : Int32) [(.int (own_lt c0)), (.int (own_lt c1)), (.int x2)] (.int (0 : Int32)) := Arv.set Ar6 ql6 Sz6 Nn6 Hl6 Gl6 (fits_nar_byte _) W6 1 rfl (Nat.le_of_ble_eq_true rfl)
 refine own_go (b := (T6.setTop (mkF m 12 #[.val (.ref a2), .val (.int (2 : Int32)), .val (.ref a3), .val (.int (2 : Int32)), .val (.int (3 : Int32)), .val (.int (2 : Int32)), .val (.int c1)] [(.int (2 : Int32)), (.ref a2)]))) (fun _ k => st6 _ (XS.iinc X6.here hx rfl (hb hby d13_32) rfl (l' := #[.val (.ref a2), .val (.int (2 : Int32)), .val (.ref a3), .val (.int (1 : Int32)), .val (.int (3 : Int32)), .val (.int (1 : Int32)), .val (.int c1)]) rfl (XS.iinc X6.here hx rfl (hb hby d13_35) rfl (l' := #[.val (.ref a2), .val (.int (2 : Int32)), .val (.ref a3), .val (.int (2 : Int32)), .val (.int (3 : Int32)), .val (.int (1 : Int32)), .val (.int c1)]) rfl (XS.iinc X6.here hx rfl (hb hby d13_38) rfl (l' := #[.val (.ref a2), .val (.int (2 : Int32)), .val (.ref a3), .val (.int (2 : Int32)), .val (.int (3 : Int32)), .val (.int (2 : Int32)), .val (.int c1)]) rfl (XS.goto X6.here hx rfl (pc0 := 41) (pc' := 3) rfl (hb hby d13_41) (by decide) (by decide) (XS.iload X6.here hx rfl (hb hby d13_3) rfl (XS.iload X6.here hx rfl (hb hby d13_5) rfl (XS.icmpNo X6.here hx rfl (hb hby d13_7) rfl (tlt (by decide : (2 : Int32) < (3 : Int32))).2.1 (XS.aloadN X6.here hx rfl (hb hby d13_10) rfl rfl (XS.iloadN X6.here hx rfl (hb hby d13_11) rfl k)))))))))) ?_
 have F9 := F5.other W6 ne_a2_a3
 obtain ⟨cl8, Ar8, ql8, Sz8, Nn8, Hl8, Gl8⟩ := id F9
 have hin8 : ¬ ((2 : Int32) < 0 ∨ cl8.slots.size ≤ ((2 : Int32)).toNatClampNeg) := inb_of Sz8 ⟨by decide, by decide⟩
 refine own_go (b := (T6.setTop (mkF m 31 #[.val (.ref a2), .val (.int (2 : Int32)), .val (.ref a3), .val (.int (2 : Int32)), .val (.int (3 : Int32)), .val (.int (2 : Int32)), .val (.int c2)] [(.int (c2.toInt8.toInt32)), (.int (2 : Int32)), (.ref a3)]))) (fun _ k => X6.caload hx (j := (2 : Int32)) (v := (.int c2)) (by rw [e6]; exact Ar8.1) (State.isArrayOf_alike hZ.alike Ar8.2.1) Ar8.2.2 hin8 (Hl8.at hin8 rfl) (g := (mkF m 12 #[.val (.ref a2), .val (.int (2 : Int32)), .val (.ref a3), .val (.int (2 : Int32)), .val (.int (3 : Int32)), .val (.int (2 : Int32)), .val (.int c1)] [(.int (2 : Int32)), (.ref a2)])) rfl rfl (hb hby d13_12) _ (XS.istore X6.here hx rfl (hb hby d13_13) rfl (l' := #[.val (.ref a2), .val (.int (2 : Int32)), .val (.ref a3), .val (.int (2 : Int32)), .val (.int (3 : Int32)), .val (.int (2 : Int32)), .val (.int c2)]) rfl (XS.iload X6.here hx rfl (hb hby d13_15) rfl (XS.sipush X6.here hx rfl (hb hby d13_17) (XS.icmpYes X6.here hx rfl (pc0 := 20) (pc' := 26) rfl (hb hby d13_20) rfl (flt hn2).2.2.2 (by decide) (by decide) (XS.aloadN X6.here hx rfl (hb hby d13_26) rfl rfl (XS.iloadN X6.here hx rfl (hb hby d13_27) rfl (XS.iload X6.here hx rfl (hb hby d13_28) rfl (XS.i2b X6.here hx rfl (hb hby d13_30) rfl k))))))))) ?_
 obtain ⟨cl10, Ar10, ql10, Sz10, Nn10, Hl10, Gl10⟩ := id V6
 have hin10 : ¬ ((2 : Int32) < 0 ∨ cl10.slots.size ≤ ((2 : Int32)).toNatClampNeg) := inb_of Sz10 ⟨by decide, by decide⟩
 obtain ⟨T10, h10, X10, e10, W10, st10⟩ := stB X6 hx hZ e6 Ar10 (j := (2 : Int32)) hin10 (g := (mkF m 31 #[.val (.ref a2), .val (.int (2 : Int32)), .val (.ref a3), .val (.int (2 : Int32)), .val (.int (3 : Int32)), .val (.int (2 : Int32)), .val (.int c2)] [(.int (c2.toInt8.toInt32)), (.int (2 : Int32)), (.ref a3)])) rfl rfl (hb hby d13_31)
 have N10 := Fr.snoc X10 N6 g_a3
 have Zs11 : n0 ≤ h10.size := Nat.le_trans Zs7 (Keep.of_wr W10).1
 have V10 : Arv Z h10 a3 k3 .byte (3 : Int32) [(.int (own_lt c0)), (.int (own_lt c1)), (.int (own_lt c2))] (.int (0 : Int32)) := Arv.set Ar10 ql10 Sz10 Nn10 Hl10 Gl10 (fits_nar_byte _) W10 2 rfl (Nat.le_of_ble_eq_true rfl)
 refine own_go (b := (T10.setTop (mkF m 46 #[.val (.ref a2), .val (.int (3 : Int32)), .val (.ref a3), .val (.int (3 : Int32)), .val (.int (3 : Int32)), .val (.int (3 : Int32)), .val (.int c2)] [(.int (3 : Int32))]))) (fun _ k => st10 _ (XS.iinc X10.here hx rfl (hb hby d13_32) rfl (l' := #[.val (.ref a2), .val (.int (3 : Int32)), .val (.ref a3), .val (.int (2 : Int32)), .val (.int (3 : Int32)), .val (.int (2 : Int32)), .val (.int c2)]) rfl (XS.iinc X10.here hx rfl (hb hby d13_35) rfl (l' := #[.val (.ref a2), .val (.int (3 : Int32)), .val (.ref a3), .val (.int (3 : Int32)), .val (.int (3 : Int32)), .val (.int (2 : Int32)), .val (.int c2)]) rfl (XS.iinc X10.here hx rfl (hb hby d13_38) rfl (l' := #[.val (.ref a2), .val (.int (3 : Int32)), .val (.ref a3), .val (.int (3 : Int32)), .val (.int (3 : Int32)), .val (.int (3 : Int32)), .val (.int c2)]) rfl (XS.goto X10.here hx rfl (pc0 := 41) (pc' := 3) rfl (hb hby d13_41) (by decide) (by decide) (XS.iload X10.here hx rfl (hb hby d13_3) rfl (XS.iload X10.here hx rfl (hb hby d13_5) rfl (XS.icmpYes X10.here hx rfl (pc0 := 7) (pc' := 44) rfl (hb hby d13_7) rfl (flt (by decide : ¬ ((3 : Int32) < (3 : Int32)))).2.1 (by decide) (by decide) (XS.iload X10.here hx rfl (hb hby d13_44) rfl k))))))))) ?_
 have K12 := (Keep.refl h0 [a3]).wr W2 (Or.inl (List.mem_of_getElem? (i := 0) rfl))
 have K13 := K12.wr W6 (Or.inl (List.mem_of_getElem? (i := 0) rfl))
 have K14 := K13.wr W10 (Or.inl (List.mem_of_getElem? (i := 0) rfl))
 obtain ⟨fs, hr, hrun, hended, hW, hsame⟩ := X10.leave (v := some (.int (3 : Int32))) (fun h => by rw [Bd.returns] at h; cases h)
 exact ⟨_, _, retOut X10 hx Bd.returns rfl (Or.inl ⟨rfl, Or.inl rfl, _, rfl⟩) (hb hby d13_46) hr, hrun, hended, _, _, rfl, (show Qrmc6_3 Z a2 k2 a3 k3 c0 c1 c2 x0 x1 x2 h0 n0 _ T10.heap _ from (by rw [e10]; exact ⟨rfl, N10, K14, V10⟩)), ⟨_, rfl⟩, hW, hsame.mono (by decide) (by decide)⟩
theorem ef_rmc5_3 (m : MethodId) (x0 : Addr) (x1 : Int32) (x2 : Int32) : entryFrame m #[(.ref x0), (.int x1), (.int x2)] 6 = mkF m 0 #[.val (.ref x0), .val (.int x1), .val (.int x2), .unset, .unset, .unset] [] := by first | (simp [entryFrame, mkF, argsToLocals, Value.category]; done) | rfl
def Qrmc5_3 (Z : State) (a2 : Addr) (k2 : ClassId) (c0 : Int32) (c1 : Int32) (c2 : Int32) (h0 : Heap) (n0 : Nat) (v : Option Value) (h : Heap) (L : List Loc) : Prop := ∃ (b : Addr) (kb : ClassId), v = some (.ref b) ∧ Fr n0 L ∧ Keep h0 h [] ∧ (h0.size ≤ b) ∧ (Arv Z h b kb .byte (3 : Int32) [(.int (own_lt c0)), (.int (own_lt c1)), (.int (own_lt c2))] (.int (0 : Int32)))
set_option maxRecDepth 65536 in
set_option maxHeartbeats 40000000 in
theorem rmc5_3 (l : Launch) (Z : State) (a0 : Array Value) (hw : ∀ d ∈ tables_1, d.before a0 Z = true) (ws : List Jvm.Cond) (a2 : Addr) (k2 : ClassId) (c0 : Int32) (c1 : Int32) (c2 : Int32) (h0 : Heap) (n0 : Nat) (Z0 : n0 ≤ h0.size) (V_a2 : Arv Z h0 a2 k2 .char (3 : Int32) [(.int c0), (.int c1), (.int c2)] (.int (0 : Int32))) (hn0 : ¬ ((255 : Int32) < c0)) (hn1 : ¬ ((255 : Int32) < c1)) (hn2 : ¬ ((255 : Int32) < c2)) :
    MetFree l (⟨"java/lang/StringUTF16", "compress", "([CII)[B"⟩ : MethodName) (head1 (Jvm.Cond.code (⟨"java/lang/StringUTF16", "compress", "([CII)[B"⟩ : MethodName) jdk_52_method_16_code 6 (some (.array .byte)) :: ws) ({ frames := 1, cells := 1, slots := 3, locals := 18 } : Room)) (fun a U => a = #[(.ref a2), (.int (0 : Int32)), (.int (3 : Int32))] ∧ Z.Warmed39 U.vm ∧ U.heap = h0) (fun _ _ _ _ _ => True) (fun _ U o U' => ∃ v L, o = .returned v ∧ Qrmc5_3 Z a2 k2 c0 c1 c2 h0 n0 v U'.heap L ∧ FrameEnd U o U' L ({ frames := 1, cells := 1, slots := 3, locals := 18 } : Room).cells ({ frames := 1, cells := 1, slots := 3, locals := 18 } : Room).slots) := by
 refine MetFree.of_bodySF (plainFor_of_name pn_12) hisR ?_
 intro p e s m args below meth c s₁ Bd hml0 hP hK
 obtain ⟨rfl, hZ, hh⟩ := hP
 have hx := Bd.exec
 have hby := Bd.bytes
 have hml : c.maxLocals = 6 := hml0
 have hown : s.vm.findClass "java/lang/StringUTF16" = some m.cls := findClass_of_methodNamed Bd.named
 have hnm := (name_of_methodNamed Bd.named Bd.method).1
 have X0 : Stand p l e ({ frames := 1, cells := 1, slots := 3, locals := 18 } : Room) s m #[(.ref a2), (.int (0 : Int32)), (.int (3 : Int32))] below meth c s₁ [] 0 0 := Stand.of_body Bd
 have e0 : s₁.heap = h0 := by rw [← hh, Bd.state]; rfl
 have N0 := Fr.nil n0
 refine own_go (b := (s₁.setTop (mkF m 0 #[.val (.ref a2), .val (.int (0 : Int32)), .val (.int (3 : Int32)), .unset, .unset, .unset] []))) (fun _ k => castTop (ef_rmc5_3 m a2 (0 : Int32) (3 : Int32)) k) ?_
 refine own_go (b := (s₁.setTop (mkF m 1 #[.val (.ref a2), .val (.int (0 : Int32)), .val (.int (3 : Int32)), .unset, .unset, .unset] [(.int (3 : Int32))]))) (fun _ k => XS.iloadN X0.here hx rfl (hb hby d12_0) rfl k) ?_
 obtain ⟨T1, h1, kl1, X1, e1, E1, A1, st1⟩ := newP X0 hx hZ (hw _ (List.mem_of_getElem? (i := 23) rfl)) e0 (g := (mkF m 1 #[.val (.ref a2), .val (.int (0 : Int32)), .val (.int (3 : Int32)), .unset, .unset, .unset] [(.int (3 : Int32))])) rfl (hb hby d12_1) rfl (by decide) (cap := 3) (by decide) (by decide) (by decide) (by decide)
 obtain ⟨b1, g1⟩ : ∃ z, z = h0.size := ⟨_, rfl⟩
 rw [← g1] at A1 st1
 have Zs2 : n0 ≤ h1.size := Nat.le_trans Z0 E1.1
 have V1 : Arv Z h1 b1 kl1 .byte (3 : Int32) [(.int (0 : Int32)), (.int (0 : Int32)), (.int (0 : Int32))] (.int (0 : Int32)) := (Arv.new A1 (by decide)).pad (pad_rep [] (.int (0 : Int32)) 3)
 refine own_go (b := (T1.setTop (mkF m 9 #[.val (.ref a2), .val (.int (0 : Int32)), .val (.int (3 : Int32)), .val (.ref b1), .unset, .unset] [(.int (3 : Int32)), (.int (0 : Int32)), (.ref b1), (.int (0 : Int32)), (.ref a2)]))) (fun _ k => st1 _ (XS.astoreN X1.here hx rfl (hb hby d12_3) rfl rfl (l' := #[.val (.ref a2), .val (.int (0 : Int32)), .val (.int (3 : Int32)), .val (.ref b1), .unset, .unset]) rfl (XS.aloadN X1.here hx rfl (hb hby d12_4) rfl rfl (XS.iloadN X1.here hx rfl (hb hby d12_5) rfl (XS.aloadN X1.here hx rfl (hb hby d12_6) rfl rfl (XS.iconst X1.here hx rfl (hb hby d12_7) (XS.iloadN X1.here hx rfl (hb hby d12_8) rfl k))))))) ?_
 have F4 := V_a2.ext E1
 have gx5 : n0 ≤ b1 := Nat.le_trans Z0 (Nat.le_of_eq g1.symm)
 have nx6 : a2 ≠ b1 := (own_ne V_a2.lt (Nat.le_refl _) (Nat.le_of_eq g1.symm))
 refine own_stat (W := 0) X1 hx hZ hown e1 (hw _ (List.mem_of_getElem? (i := 80) rfl)) (hw _ (List.mem_of_getElem? (i := 81) rfl)) (rmc6_3 l Z a0 hw [] a2 k2 b1 kl1 c0 c1 c2 (0 : Int32) (0 : Int32) (0 : Int32) h1 n0 Zs2 F4 V1 gx5 nx6 hn0 hn1 hn2) (hw _ (List.mem_of_getElem? (i := 82) rfl)) (hw _ (List.mem_of_getElem? (i := 78) rfl)) rfl (by rw [hml]; rfl) rfl (hb hby d12_9) (lenOf pd___CI_BII_I rfl) rfl (by decide) (fun T3 v3 Ll3 X3 hQ3 => ?_)
 obtain ⟨rfl, N3q, K3, P3_0⟩ := hQ3
 have N3 := Fr.app N0 N3q
 have Zs7 : n0 ≤ T3.heap.size := Nat.le_trans Zs2 K3.1
 refine own_go (b := (T3.setTop (mkF m 58 #[.val (.ref a2), .val (.int (0 : Int32)), .val (.int (3 : Int32)), .val (.ref b1), .val (.int (3 : Int32)), .unset] [(.ref b1)]))) (fun _ k => XS.istore X3.here hx rfl (hb hby d12_12) rfl (l' := #[.val (.ref a2), .val (.int (0 : Int32)), .val (.int (3 : Int32)), .val (.ref b1), .val (.int (3 : Int32)), .unset]) rfl (XS.iload X3.here hx rfl (hb hby d12_14) rfl (XS.iloadN X3.here hx rfl (hb hby d12_16) rfl (XS.icmpYes X3.here hx rfl (pc0 := 17) (pc' := 57) rfl (hb hby d12_17) rfl (teq (rfl : (3 : Int32) = (3 : Int32))).1 (by decide) (by decide) (XS.aloadN X3.here hx rfl (hb hby d12_57) rfl rfl k))))) ?_
 have K8 := (Keep.refl h0 []).ext E1
 have K9 := K8.trans K3 (allS (Or.inr (Nat.le_trans (Nat.le_refl _) (Nat.le_of_eq g1.symm))) all0)
 obtain ⟨fs, hr, hrun, hended, hW, hsame⟩ := X3.leave (v := some (.ref b1)) (fun h => by rw [Bd.returns] at h; cases h)
 exact ⟨_, _, retOut X3 hx Bd.returns rfl (Or.inr (Or.inr (Or.inr (Or.inr ⟨rfl, rfl, rfl⟩)))) (hb hby d12_58) hr, hrun, hended, _, _, rfl, (show Qrmc5_3 Z a2 k2 c0 c1 c2 h0 n0 _ T3.heap _ from (by exact ⟨b1, kl1, rfl, N3, K9, (Nat.le_trans (Nat.le_refl _) (Nat.le_of_eq g1.symm)), P3_0⟩)), ⟨_, rfl⟩, hW, hsame.mono (by decide) (by decide)⟩
theorem ef_rmcd_3 (m : MethodId) (x0 : Addr) (x1 : Int32) : entryFrame m #[(.ref x0), (.int x1)] 2 = mkF m 0 #[.val (.ref x0), .val (.int x1)] [] := by first | (simp [entryFrame, mkF, argsToLocals, Value.category]; done) | rfl
def Qrmcd_3 (Z : State) (a3 : Addr) (k3 : ClassId) (x0 : Int32) (x1 : Int32) (x2 : Int32) (h0 : Heap) (n0 : Nat) (v : Option Value) (h : Heap) (L : List Loc) : Prop := v = some (.int (0 : Int32)) ∧ Fr n0 L ∧ h = h0
set_option maxRecDepth 65536 in
set_option maxHeartbeats 40000000 in
theorem rmcd_3 (l : Launch) (Z : State) (a0 : Array Value) (hw : ∀ d ∈ tables_1, d.before a0 Z = true) (ws : List Jvm.Cond) (a3 : Addr) (k3 : ClassId) (x0 : Int32) (x1 : Int32) (x2 : Int32) (h0 : Heap) (n0 : Nat) (Z0 : n0 ≤ h0.size) (V_a3 : Arv Z h0 a3 k3 .byte (3 : Int32) [(.int x0), (.int x1), (.int x2)] (.int (0 : Int32))) :
    MetFree l (⟨"java/lang/StringUTF16", "coderFromArrayLen", "([BI)B"⟩ : MethodName) (head1 (Jvm.Cond.code (⟨"java/lang/StringUTF16", "coderFromArrayLen", "([BI)B"⟩ : MethodName) jdk_52_method_15_code 2 (some .byte) :: ws) ({ frames := 0, cells := 0, slots := 0, locals := 0 } : Room)) (fun a U => a = #[(.ref a3), (.int (3 : Int32))] ∧ Z.Warmed39 U.vm ∧ U.heap = h0) (fun _ _ _ _ _ => True) (fun _ U o U' => ∃ v L, o = .returned v ∧ Qrmcd_3 Z a3 k3 x0 x1 x2 h0 n0 v U'.heap L ∧ FrameEnd U o U' L ({ frames := 0, cells := 0, slots := 0, locals := 0 } : Room).cells ({ frames := 0, cells := 0, slots := 0, locals := 0 } : Room).slots) := by
 refine MetFree.of_bodySF (plainFor_of_name pn_14) hisR ?_
 intro p e s m args below meth c s₁ Bd hml0 hP hK
 obtain ⟨rfl, hZ, hh⟩ := hP
 have hx := Bd.exec
 have hby := Bd.bytes
 have hml : c.maxLocals = 2 := hml0
 have hown : s.vm.findClass "java/lang/StringUTF16" = some m.cls := findClass_of_methodNamed Bd.named
 have hnm := (name_of_methodNamed Bd.named Bd.method).1
 have X0 : Stand p l e ({ frames := 0, cells := 0, slots := 0, locals := 0 } : Room) s m #[(.ref a3), (.int (3 : Int32))] below meth c s₁ [] 0 0 := Stand.of_body Bd
 have e0 : s₁.heap = h0 := by rw [← hh, Bd.state]; rfl
 have N0 := Fr.nil n0
 refine own_go (b := (s₁.setTop (mkF m 0 #[.val (.ref a3), .val (.int (3 : Int32))] []))) (fun _ k => castTop (ef_rmcd_3 m a3 (3 : Int32)) k) ?_
 refine own_go (b := (s₁.setTop (mkF m 2 #[.val (.ref a3), .val (.int (3 : Int32))] [(.ref a3), (.int (3 : Int32))]))) (fun _ k => XS.iloadN X0.here hx rfl (hb hby d14_0) rfl (XS.aloadN X0.here hx rfl (hb hby d14_1) rfl rfl k)) ?_
 obtain ⟨cl1, Ar1, -, Sz1, Nn1, -, -⟩ := id V_a3
 refine own_go (b := (s₁.setTop (mkF m 8 #[.val (.ref a3), .val (.int (3 : Int32))] [(.int ((0 : Int32).toInt8.toInt32))]))) (fun _ k => X0.arraylength hx (by rw [e0]; exact Ar1.1) (State.isArrayOf_alike hZ.alike Ar1.2.1) (g := (mkF m 2 #[.val (.ref a3), .val (.int (3 : Int32))] [(.ref a3), (.int (3 : Int32))])) rfl rfl (hb hby d14_2) _ (by rw [len_of Sz1 Nn1]; exact (XS.isub X0.here hx rfl (hb hby d14_3) rfl (XS.bipush X0.here hx rfl (hb hby d14_4) (XS.iushr X0.here hx rfl (hb hby d14_6) rfl (XS.i2b X0.here hx rfl (hb hby d14_7) rfl k)))))) ?_
 obtain ⟨fs, hr, hrun, hended, hW, hsame⟩ := X0.leave (v := some (.int (nar .byte ((0 : Int32).toInt8.toInt32)))) (fun h => by rw [Bd.returns] at h; cases h)
 exact ⟨_, _, retN X0 hx (t := .byte) Bd.returns (by simp) (hb hby d14_8) hr, hrun, hended, _, _, rfl, (show Qrmcd_3 Z a3 k3 x0 x1 x2 h0 n0 _ s₁.heap _ from (by rw [e0]; exact ⟨rfl, N0, rfl⟩)), ⟨_, rfl⟩, hW, hsame.mono (by decide) (by decide)⟩
theorem ef_rms3_3 (m : MethodId) (x0 : Addr) (x1 : Addr) (x2 : Int32) (x3 : Int32) : entryFrame m #[(.ref x0), (.ref x1), (.int x2), (.int x3), .null] 6 = mkF m 0 #[.val (.ref x0), .val (.ref x1), .val (.int x2), .val (.int x3), .val .null, .unset] [] := by first | (simp [entryFrame, mkF, argsToLocals, Value.category]; done) | rfl
def Qrms3_3 (Z : State) (a1 : Addr) (a2 : Addr) (k2 : ClassId) (c0 : Int32) (c1 : Int32) (c2 : Int32) (cs : Int32) (h0 : Heap) (n0 : Nat) (v : Option Value) (h : Heap) (L : List Loc) : Prop := ∃ (b : Addr) (kb : ClassId), v = none ∧ Fr n0 L ∧ Keep h0 h [a1] ∧ (Fld Z h a1 "java/lang/String" "value" "[B" (.ref b)) ∧ (Fld Z h a1 "java/lang/String" "coder" "B" (.int (0 : Int32))) ∧ (Arv Z h b kb .byte (3 : Int32) [(.int (own_lt c0)), (.int (own_lt c1)), (.int (own_lt c2))] (.int (0 : Int32)))
set_option maxRecDepth 65536 in
set_option maxHeartbeats 40000000 in
theorem rms3_3 (l : Launch) (Z : State) (a0 : Array Value) (hw : ∀ d ∈ tables_1, d.before a0 Z = true) (ws : List Jvm.Cond) (a1 : Addr) (a2 : Addr) (k2 : ClassId) (c0 : Int32) (c1 : Int32) (c2 : Int32) (cs : Int32) (h0 : Heap) (n0 : Nat) (Z0 : n0 ≤ h0.size) (O0 : Old Z n0 h0) (S_COMPACT_STRINGS : Sta Z Z.heap "java/lang/String" "COMPACT_STRINGS" "Z" (.int cs)) (hcs : ¬ (cs = (0 : Int32))) (E_a1 : Exa Z h0 a1 "java/lang/String") (Fld_a1_value : Fld Z h0 a1 "java/lang/String" "value" "[B" .null) (Fld_a1_coder : Fld Z h0 a1 "java/lang/String" "coder" "B" (.int (0 : Int32))) (g_a1 : n0 ≤ a1) (V_a2 : Arv Z h0 a2 k2 .char (3 : Int32) [(.int c0), (.int c1), (.int c2)] (.int (0 : Int32))) (hn0 : ¬ ((255 : Int32) < c0)) (hn1 : ¬ ((255 : Int32) < c1)) (hn2 : ¬ ((255 : Int32) < c2)) :
    MetFree l (⟨"java/lang/String", "<init>", "([CIILjava/lang/Void;)V"⟩ : MethodName) (head1 (Jvm.Cond.code (⟨"java/lang/String", "<init>", "([CIILjava/lang/Void;)V"⟩ : MethodName) jdk_42_method_149_code 6 none :: ws) ({ frames := 2, cells := 1, slots := 3, locals := 35 } : Room)) (fun a U => a = #[(.ref a1), (.ref a2), (.int (0 : Int32)), (.int (3 : Int32)), .null] ∧ Z.Warmed39 U.vm ∧ U.heap = h0) (fun _ _ _ _ _ => True) (fun _ U o U' => ∃ v L, o = .returned v ∧ Qrms3_3 Z a1 a2 k2 c0 c1 c2 cs h0 n0 v U'.heap L ∧ FrameEnd U o U' L ({ frames := 2, cells := 1, slots := 3, locals := 35 } : Room).cells ({ frames := 2, cells := 1, slots := 3, locals := 35 } : Room).slots) := by
 refine MetFree.of_bodySF (plainFor_of_name pn_4) hisR ?_
 intro p e s m args below meth c s₁ Bd hml0 hP hK
 obtain ⟨rfl, hZ, hh⟩ := hP
 have hx := Bd.exec
 have hby := Bd.bytes
 have hml : c.maxLocals = 6 := hml0
 have hown : s.vm.findClass "java/lang/String" = some m.cls := findClass_of_methodNamed Bd.named
 have hnm := (name_of_methodNamed Bd.named Bd.method).1
 have X0 : Stand p l e ({ frames := 2, cells := 1, slots := 3, locals := 35 } : Room) s m #[(.ref a1), (.ref a2), (.int (0 : Int32)), (.int (3 : Int32)), .null] below meth c s₁ [] 0 0 := Stand.of_body Bd
 have e0 : s₁.heap = h0 := by rw [← hh, Bd.state]; rfl
 have N0 := Fr.nil n0
 refine own_go (b := (s₁.setTop (mkF m 0 #[.val (.ref a1), .val (.ref a2), .val (.int (0 : Int32)), .val (.int (3 : Int32)), .val .null, .unset] []))) (fun _ k => castTop (ef_rms3_3 m a1 a2 (0 : Int32) (3 : Int32)) k) ?_
 refine own_go (b := (s₁.setTop (mkF m 1 #[.val (.ref a1), .val (.ref a2), .val (.int (0 : Int32)), .val (.int (3 : Int32)), .val .null, .unset] [(.ref a1)]))) (fun _ k => XS.aloadN X0.here hx rfl (hb hby d4_0) rfl rfl k) ?_
 obtain ⟨T1, X1, e1, st1⟩ := initO X0 hx hZ hown (hw _ (List.mem_of_getElem? (i := 19) rfl)) (hw _ (List.mem_of_getElem? (i := 20) rfl)) (hw _ (List.mem_of_getElem? (i := 21) rfl)) e0 (g := (mkF m 1 #[.val (.ref a1), .val (.ref a2), .val (.int (0 : Int32)), .val (.int (3 : Int32)), .val .null, .unset] [(.ref a1)])) rfl (by rw [hml]; rfl) rfl (hb hby d4_1) (by decide) (W := 0) (by show 2 * 0 + _ ≤ _; exact Nat.le_of_eq rfl) (by decide)
 refine own_go (b := (T1.setTop (mkF m 27 #[.val (.ref a1), .val (.ref a2), .val (.int (0 : Int32)), .val (.int (3 : Int32)), .val .null, .unset] []))) (fun _ k => st1 _ (XS.iloadN X1.here hx rfl (hb hby d4_4) rfl (XS.ifYes X1.here hx rfl (pc0 := 5) (pc' := 27) rfl (hb hby d4_5) rfl ((if0 _ _).trans (feq (by decide : ¬ ((3 : Int32) = (0 : Int32)))).2) (by decide) (by decide) k))) ?_
 obtain ⟨T2, X2, e2, st2⟩ := getS2 X1 hx hZ hown (host := "") (Or.inl (hw _ (List.mem_of_getElem? (i := 59) rfl))) Via.refl e1 (S_COMPACT_STRINGS.ext O0.2) (g := (mkF m 27 #[.val (.ref a1), .val (.ref a2), .val (.int (0 : Int32)), .val (.int (3 : Int32)), .val .null, .unset] [])) rfl (hb hby d4_27)
 refine own_go (b := (T2.setTop (mkF m 36 #[.val (.ref a1), .val (.ref a2), .val (.int (0 : Int32)), .val (.int (3 : Int32)), .val .null, .unset] [(.int (3 : Int32)), (.int (0 : Int32)), (.ref a2)]))) (fun _ k => st2 _ (XS.ifNo X2.here hx rfl (hb hby d4_30) rfl ((if0 _ _).trans (feq hcs).1) (XS.aloadN X2.here hx rfl (hb hby d4_33) rfl rfl (XS.iloadN X2.here hx rfl (hb hby d4_34) rfl (XS.iloadN X2.here hx rfl (hb hby d4_35) rfl k))))) ?_
 refine own_stat (W := 0) X2 hx hZ hown e2 (hw _ (List.mem_of_getElem? (i := 76) rfl)) (hw _ (List.mem_of_getElem? (i := 77) rfl)) (rmc5_3 l Z a0 hw [] a2 k2 c0 c1 c2 h0 n0 Z0 V_a2 hn0 hn1 hn2) (hw _ (List.mem_of_getElem? (i := 79) rfl)) (hw _ (List.mem_of_getElem? (i := 78) rfl)) rfl (by rw [hml]; rfl) rfl (hb hby d4_36) (lenOf pd___CII__B rfl) rfl (by decide) (fun T3 v3 Ll3 X3 hQ3 => ?_)
 obtain ⟨b_3, kb_3, rfl, N3q, K3, P3_0, P3_1⟩ := hQ3
 have N3 := Fr.app N0 N3q
 have Zs4 : n0 ≤ T3.heap.size := Nat.le_trans Z0 K3.1
 refine own_go (b := (T3.setTop (mkF m 45 #[.val (.ref a1), .val (.ref a2), .val (.int (0 : Int32)), .val (.int (3 : Int32)), .val .null, .val (.ref b_3)] [(.int (3 : Int32)), (.ref b_3), (.ref a1)]))) (fun _ k => XS.astore X3.here hx rfl (hb hby d4_39) rfl rfl (l' := #[.val (.ref a1), .val (.ref a2), .val (.int (0 : Int32)), .val (.int (3 : Int32)), .val .null, .val (.ref b_3)]) rfl (XS.aloadN X3.here hx rfl (hb hby d4_41) rfl rfl (XS.aload X3.here hx rfl (hb hby d4_42) rfl rfl (XS.iloadN X3.here hx rfl (hb hby d4_44) rfl k)))) ?_
 refine own_stat (W := 1) X3 hx hZ hown rfl (hw _ (List.mem_of_getElem? (i := 83) rfl)) (hw _ (List.mem_of_getElem? (i := 84) rfl)) (rmcd_3 l Z a0 hw [] b_3 kb_3 (own_lt c0) (own_lt c1) (own_lt c2) T3.heap n0 Zs4 P3_1) (hw _ (List.mem_of_getElem? (i := 85) rfl)) (hw _ (List.mem_of_getElem? (i := 78) rfl)) rfl (by rw [hml]; rfl) rfl (hb hby d4_45) (lenOf pd___BI_B rfl) rfl (by decide) (fun T5 v5 Ll5 X5 hQ5 => ?_)
 obtain ⟨rfl, N5q, eh5⟩ := hQ5
 have N5 := Fr.app N3 N5q
 have F6 := E_a1.keep K3
 have F7 := Fld_a1_coder.keep K3 nin0
 obtain ⟨T8, h8, X8, e8, W8, st8⟩ := putFN X5 hx hZ hown (hw _ (List.mem_of_getElem? (i := 29) rfl)) Via.refl eh5 F7 F6 (Or.inr ⟨(hw _ (List.mem_of_getElem? (i := 25) rfl)), rfl, hnm⟩) (hw _ (List.mem_of_getElem? (i := 9) rfl)) (ty := .byte) (v' := (.int (0 : Int32))) (by decide) rfl (by decide) (g := (mkF m 48 #[.val (.ref a1), .val (.ref a2), .val (.int (0 : Int32)), .val (.int (3 : Int32)), .val .null, .val (.ref b_3)] [(.int (0 : Int32)), (.ref a1)])) rfl rfl (hb hby d4_48)
 have N8 := Fr.snoc X8 N5 g_a1
 have Zs9 : n0 ≤ h8.size := Nat.le_trans Zs4 (Keep.of_wr W8).1
 have F8 : Fld Z h8 a1 "java/lang/String" "coder" "B" (.int (0 : Int32)) := F7.same W8
 refine own_go (b := (T8.setTop (mkF m 54 #[.val (.ref a1), .val (.ref a2), .val (.int (0 : Int32)), .val (.int (3 : Int32)), .val .null, .val (.ref b_3)] [(.ref b_3), (.ref a1)]))) (fun _ k => st8 _ (XS.aloadN X8.here hx rfl (hb hby d4_51) rfl rfl (XS.aload X8.here hx rfl (hb hby d4_52) rfl rfl k))) ?_
 have F10 := F6.wr W8
 have F11 := Fld_a1_value.keep K3 nin0
 have F12 := F11.other W8 (Or.inr (slot_ne (Or.inr (hw _ (List.mem_of_getElem? (i := 24) rfl))) (Or.inr (hw _ (List.mem_of_getElem? (i := 25) rfl))) (by decide) (t := (.array .byte)) (t' := .byte) (by decide) (by decide)))
 obtain ⟨T13, h13, X13, e13, W13, st13⟩ := putF X8 hx hZ hown (host := "") (Or.inl (hw _ (List.mem_of_getElem? (i := 28) rfl))) Via.refl e8 F12 F10 (Or.inr ⟨(hw _ (List.mem_of_getElem? (i := 24) rfl)), rfl, hnm⟩) (hw _ (List.mem_of_getElem? (i := 9) rfl)) (ty := (.array .byte)) (by decide) rfl rfl (g := (mkF m 54 #[.val (.ref a1), .val (.ref a2), .val (.int (0 : Int32)), .val (.int (3 : Int32)), .val .null, .val (.ref b_3)] [(.ref b_3), (.ref a1)])) rfl rfl (hb hby d4_54)
 have N13 := Fr.snoc X13 N8 g_a1
 have Zs14 : n0 ≤ h13.size := Nat.le_trans Zs9 (Keep.of_wr W13).1
 have F13 : Fld Z h13 a1 "java/lang/String" "value" "[B" (.ref b_3) := F12.same W13
 refine own_go (b := (T13.setTop (mkF m 57 #[.val (.ref a1), .val (.ref a2), .val (.int (0 : Int32)), .val (.int (3 : Int32)), .val .null, .val (.ref b_3)] []))) (fun _ k => st13 _ k) ?_
 have K15 := (Keep.refl h0 [a1]).trans K3 all0
 have K16 := K15.wr W8 (Or.inl (List.mem_of_getElem? (i := 0) rfl))
 have K17 := K16.wr W13 (Or.inl (List.mem_of_getElem? (i := 0) rfl))
 have F18 := F8.other W13 (Or.inr (slot_ne (Or.inr (hw _ (List.mem_of_getElem? (i := 25) rfl))) (Or.inr (hw _ (List.mem_of_getElem? (i := 24) rfl))) (by decide) (t := .byte) (t' := (.array .byte)) (by decide) (by decide)))
 have nx19 : b_3 ≠ a1 := (Ne.symm (own_ne E_a1.lt (Nat.le_refl _) P3_0))
 have F20 := P3_1.other W8 nx19
 have F21 := F20.other W13 nx19
 obtain ⟨fs, hr, hrun, hended, hW, hsame⟩ := X13.leave (v := none) (fun _ => rfl)
 exact ⟨_, _, X13.returnOut hx Bd.returns (hb hby d4_57) hr, hrun, hended, _, _, rfl, (show Qrms3_3 Z a1 a2 k2 c0 c1 c2 cs h0 n0 _ T13.heap _ from (by rw [e13]; exact ⟨b_3, kb_3, rfl, N13, K17, F13, F18, F21⟩)), ⟨_, rfl⟩, hW, hsame.mono (by decide) (by decide)⟩
theorem ef_rms2_3 (m : MethodId) (x0 : Addr) (x1 : Addr) : entryFrame m #[(.ref x0), (.ref x1)] 2 = mkF m 0 #[.val (.ref x0), .val (.ref x1)] [] := by first | (simp [entryFrame, mkF, argsToLocals, Value.category]; done) | rfl
def Qrms2_3 (Z : State) (a1 : Addr) (a2 : Addr) (k2 : ClassId) (c0 : Int32) (c1 : Int32) (c2 : Int32) (cs : Int32) (h0 : Heap) (n0 : Nat) (v : Option Value) (h : Heap) (L : List Loc) : Prop := ∃ (b : Addr) (kb : ClassId), v = none ∧ Fr n0 L ∧ Keep h0 h [a1] ∧ (Fld Z h a1 "java/lang/String" "value" "[B" (.ref b)) ∧ (Fld Z h a1 "java/lang/String" "coder" "B" (.int (0 : Int32))) ∧ (Arv Z h b kb .byte (3 : Int32) [(.int (own_lt c0)), (.int (own_lt c1)), (.int (own_lt c2))] (.int (0 : Int32)))
set_option maxRecDepth 65536 in
set_option maxHeartbeats 40000000 in
theorem rms2_3 (l : Launch) (Z : State) (a0 : Array Value) (hw : ∀ d ∈ tables_1, d.before a0 Z = true) (ws : List Jvm.Cond) (a1 : Addr) (a2 : Addr) (k2 : ClassId) (c0 : Int32) (c1 : Int32) (c2 : Int32) (cs : Int32) (h0 : Heap) (n0 : Nat) (Z0 : n0 ≤ h0.size) (O0 : Old Z n0 h0) (S_COMPACT_STRINGS : Sta Z Z.heap "java/lang/String" "COMPACT_STRINGS" "Z" (.int cs)) (hcs : ¬ (cs = (0 : Int32))) (E_a1 : Exa Z h0 a1 "java/lang/String") (Fld_a1_value : Fld Z h0 a1 "java/lang/String" "value" "[B" .null) (Fld_a1_coder : Fld Z h0 a1 "java/lang/String" "coder" "B" (.int (0 : Int32))) (g_a1 : n0 ≤ a1) (V_a2 : Arv Z h0 a2 k2 .char (3 : Int32) [(.int c0), (.int c1), (.int c2)] (.int (0 : Int32))) (hn0 : ¬ ((255 : Int32) < c0)) (hn1 : ¬ ((255 : Int32) < c1)) (hn2 : ¬ ((255 : Int32) < c2)) :
    MetFree l (⟨"java/lang/String", "<init>", "([C)V"⟩ : MethodName) (head1 (Jvm.Cond.code (⟨"java/lang/String", "<init>", "([C)V"⟩ : MethodName) jdk_42_method_3_code 2 none :: ws) ({ frames := 3, cells := 1, slots := 3, locals := 52 } : Room)) (fun a U => a = #[(.ref a1), (.ref a2)] ∧ Z.Warmed39 U.vm ∧ U.heap = h0) (fun _ _ _ _ _ => True) (fun _ U o U' => ∃ v L, o = .returned v ∧ Qrms2_3 Z a1 a2 k2 c0 c1 c2 cs h0 n0 v U'.heap L ∧ FrameEnd U o U' L ({ frames := 3, cells := 1, slots := 3, locals := 52 } : Room).cells ({ frames := 3, cells := 1, slots := 3, locals := 52 } : Room).slots) := by
 refine MetFree.of_bodySF (plainFor_of_name pn_3) hisR ?_
 intro p e s m args below meth c s₁ Bd hml0 hP hK
 obtain ⟨rfl, hZ, hh⟩ := hP
 have hx := Bd.exec
 have hby := Bd.bytes
 have hml : c.maxLocals = 2 := hml0
 have hown : s.vm.findClass "java/lang/String" = some m.cls := findClass_of_methodNamed Bd.named
 have hnm := (name_of_methodNamed Bd.named Bd.method).1
 have X0 : Stand p l e ({ frames := 3, cells := 1, slots := 3, locals := 52 } : Room) s m #[(.ref a1), (.ref a2)] below meth c s₁ [] 0 0 := Stand.of_body Bd
 have e0 : s₁.heap = h0 := by rw [← hh, Bd.state]; rfl
 have N0 := Fr.nil n0
 refine own_go (b := (s₁.setTop (mkF m 0 #[.val (.ref a1), .val (.ref a2)] []))) (fun _ k => castTop (ef_rms2_3 m a1 a2) k) ?_
 refine own_go (b := (s₁.setTop (mkF m 4 #[.val (.ref a1), .val (.ref a2)] [(.ref a2), (.int (0 : Int32)), (.ref a2), (.ref a1)]))) (fun _ k => XS.aloadN X0.here hx rfl (hb hby d3_0) rfl rfl (XS.aloadN X0.here hx rfl (hb hby d3_1) rfl rfl (XS.iconst X0.here hx rfl (hb hby d3_2) (XS.aloadN X0.here hx rfl (hb hby d3_3) rfl rfl k)))) ?_
 obtain ⟨cl1, Ar1, -, Sz1, Nn1, -, -⟩ := id V_a2
 refine own_go (b := (s₁.setTop (mkF m 6 #[.val (.ref a1), .val (.ref a2)] [.null, (.int (3 : Int32)), (.int (0 : Int32)), (.ref a2), (.ref a1)]))) (fun _ k => X0.arraylength hx (by rw [e0]; exact Ar1.1) (State.isArrayOf_alike hZ.alike Ar1.2.1) (g := (mkF m 4 #[.val (.ref a1), .val (.ref a2)] [(.ref a2), (.int (0 : Int32)), (.ref a2), (.ref a1)])) rfl rfl (hb hby d3_4) _ (by rw [len_of Sz1 Nn1]; exact (XS.aconstNull X0.here hx rfl (hb hby d3_5) k))) ?_
 refine own_spec (W := 0) X0 hx hZ hown e0 (hw _ (List.mem_of_getElem? (i := 15) rfl)) (hw _ (List.mem_of_getElem? (i := 16) rfl)) (rms3_3 l Z a0 hw [] a1 a2 k2 c0 c1 c2 cs h0 n0 Z0 O0 S_COMPACT_STRINGS hcs E_a1 Fld_a1_value Fld_a1_coder g_a1 V_a2 hn0 hn1 hn2) (hw _ (List.mem_of_getElem? (i := 18) rfl)) (hw _ (List.mem_of_getElem? (i := 10) rfl)) rfl (by rw [hml]; rfl) rfl (hb hby d3_6) (lenOf pd___CIILjava_lang_Void__V rfl) rfl rfl (by decide) (fun T2 v2 Ll2 X2 hQ2 => ?_)
 obtain ⟨b_2, kb_2, rfl, N2q, K2, P2_0, P2_1, P2_2⟩ := hQ2
 have N2 := Fr.app N0 N2q
 have Zs3 : n0 ≤ T2.heap.size := Nat.le_trans Z0 K2.1
 have K4 := (Keep.refl h0 [a1]).trans K2 (allS (Or.inl (List.mem_of_getElem? (i := 0) rfl)) all0)
 obtain ⟨fs, hr, hrun, hended, hW, hsame⟩ := X2.leave (v := none) (fun _ => rfl)
 exact ⟨_, _, X2.returnOut hx Bd.returns (hb hby d3_9) hr, hrun, hended, _, _, rfl, (show Qrms2_3 Z a1 a2 k2 c0 c1 c2 cs h0 n0 _ T2.heap _ from (by exact ⟨b_2, kb_2, rfl, N2, K4, P2_0, P2_1, P2_2⟩)), ⟨_, rfl⟩, hW, hsame.mono (by decide) (by decide)⟩
theorem ef_rmmk_3 (m : MethodId) (x0 : Int32) (x1 : Int32) (x2 : Int32) (x3 : Int32) (x4 : Int32) : entryFrame m #[(.int x0), (.int x1), (.int x2), (.int x3), (.int x4)] 5 = mkF m 0 #[.val (.int x0), .val (.int x1), .val (.int x2), .val (.int x3), .val (.int x4)] [] := by first | (simp [entryFrame, mkF, argsToLocals, Value.category]; done) | rfl
def Qrmmk_3 (Z : State) (c0 : Int32) (c1 : Int32) (c2 : Int32) (c3 : Int32) (cs : Int32) (h0 : Heap) (n0 : Nat) (v : Option Value) (h : Heap) (L : List Loc) : Prop := ∃ (a : Addr) (b : Addr) (kb : ClassId), v = some (.ref a) ∧ Fr n0 L ∧ Keep h0 h [] ∧ (h0.size ≤ a) ∧ (Exa Z h a "java/lang/String") ∧ (Fld Z h a "java/lang/String" "value" "[B" (.ref b)) ∧ (Fld Z h a "java/lang/String" "coder" "B" (.int (0 : Int32))) ∧ (Arv Z h b kb .byte (3 : Int32) [(.int (own_lt (nar .char c0))), (.int (own_lt (nar .char c1))), (.int (own_lt (nar .char c2)))] (.int (0 : Int32)))
set_option maxRecDepth 65536 in
set_option maxHeartbeats 40000000 in
theorem rmmk_3 (l : Launch) (Z : State) (a0 : Array Value) (hw : ∀ d ∈ tables_1, d.before a0 Z = true) (ws : List Jvm.Cond) (c0 : Int32) (c1 : Int32) (c2 : Int32) (c3 : Int32) (cs : Int32) (h0 : Heap) (n0 : Nat) (Z0 : n0 ≤ h0.size) (O0 : Old Z n0 h0) (S_COMPACT_STRINGS : Sta Z Z.heap "java/lang/String" "COMPACT_STRINGS" "Z" (.int cs)) (hcs : ¬ (cs = (0 : Int32))) (hl0 : own_lat c0) (hl1 : own_lat c1) (hl2 : own_lat c2) (hl3 : own_lat c3) :
    MetFree l (⟨"com/example/keyclasp/keyclasp/protocol/ProtocolVersionOfPinLaw", "make", "(ICCCC)Ljava/lang/String;"⟩ : MethodName) (head1 (Jvm.Cond.code (⟨"com/example/keyclasp/keyclasp/protocol/ProtocolVersionOfPinLaw", "make", "(ICCCC)Ljava/lang/String;"⟩ : MethodName) method_3_code 5 (some (.object "java/lang/String")) :: ws) ({ frames := 4, cells := 3, slots := 10, locals := 66 } : Room)) (fun a U => a = #[(.int (3 : Int32)), (.int c0), (.int c1), (.int c2), (.int c3)] ∧ Z.Warmed39 U.vm ∧ U.heap = h0) (fun _ _ _ _ _ => True) (fun _ U o U' => ∃ v L, o = .returned v ∧ Qrmmk_3 Z c0 c1 c2 c3 cs h0 n0 v U'.heap L ∧ FrameEnd U o U' L ({ frames := 4, cells := 3, slots := 10, locals := 66 } : Room).cells ({ frames := 4, cells := 3, slots := 10, locals := 66 } : Room).slots) := by
 refine MetFree.of_bodySF (plainFor_of_name pn_2) hisR ?_
 intro p e s m args below meth c s₁ Bd hml0 hP hK
 obtain ⟨rfl, hZ, hh⟩ := hP
 have hx := Bd.exec
 have hby := Bd.bytes
 have hml : c.maxLocals = 5 := hml0
 have hown : s.vm.findClass "com/example/keyclasp/keyclasp/protocol/ProtocolVersionOfPinLaw" = some m.cls := findClass_of_methodNamed Bd.named
 have hnm := (name_of_methodNamed Bd.named Bd.method).1
 have X0 : Stand p l e ({ frames := 4, cells := 3, slots := 10, locals := 66 } : Room) s m #[(.int (3 : Int32)), (.int c0), (.int c1), (.int c2), (.int c3)] below meth c s₁ [] 0 0 := Stand.of_body Bd
 have e0 : s₁.heap = h0 := by rw [← hh, Bd.state]; rfl
 have N0 := Fr.nil n0
 refine own_go (b := (s₁.setTop (mkF m 0 #[.val (.int (3 : Int32)), .val (.int c0), .val (.int c1), .val (.int c2), .val (.int c3)] []))) (fun _ k => castTop (ef_rmmk_3 m (3 : Int32) c0 c1 c2 c3) k) ?_
 refine own_go (b := (s₁.setTop (mkF m 64 #[.val (.int (3 : Int32)), .val (.int c0), .val (.int c1), .val (.int c2), .val (.int c3)] []))) (fun _ k => XS.iloadN X0.here hx rfl (hb hby d2_0) rfl (XS.ifYes X0.here hx rfl (pc0 := 1) (pc' := 15) rfl (hb hby d2_1) rfl ((if0 _ _).trans (feq (by decide : ¬ ((3 : Int32) = (0 : Int32)))).2) (by decide) (by decide) (XS.iloadN X0.here hx rfl (hb hby d2_15) rfl (XS.iconst X0.here hx rfl (hb hby d2_16) (XS.icmpYes X0.here hx rfl (pc0 := 17) (pc' := 35) rfl (hb hby d2_17) rfl (feq (by decide : ¬ ((3 : Int32) = (1 : Int32)))).2 (by decide) (by decide) (XS.iloadN X0.here hx rfl (hb hby d2_35) rfl (XS.iconst X0.here hx rfl (hb hby d2_36) (XS.icmpYes X0.here hx rfl (pc0 := 37) (pc' := 59) rfl (hb hby d2_37) rfl (feq (by decide : ¬ ((3 : Int32) = (2 : Int32)))).2 (by decide) (by decide) (XS.iloadN X0.here hx rfl (hb hby d2_59) rfl (XS.iconst X0.here hx rfl (hb hby d2_60) (XS.icmpNo X0.here hx rfl (hb hby d2_61) rfl (teq (rfl : (3 : Int32) = (3 : Int32))).2 k))))))))))) ?_
 obtain ⟨T1, h1, X1, e1, E1, A1, D1, Un1, st1⟩ := newO X0 hx hZ hown (hw _ (List.mem_of_getElem? (i := 8) rfl)) (hw _ (List.mem_of_getElem? (i := 9) rfl)) (hw _ (List.mem_of_getElem? (i := 10) rfl)) e0 (g := (mkF m 64 #[.val (.int (3 : Int32)), .val (.int c0), .val (.int c1), .val (.int c2), .val (.int c3)] [])) rfl (hb hby d2_64) (by decide) (by decide)
 obtain ⟨b1, g1⟩ : ∃ z, z = h0.size := ⟨_, rfl⟩
 rw [← g1] at A1 D1 Un1 st1
 have Zs2 : n0 ≤ h1.size := Nat.le_trans Z0 E1.1
 have F1_value : Fld Z h1 b1 "java/lang/String" "value" "[B" .null := D1 (Or.inr (hw _ (List.mem_of_getElem? (i := 24) rfl))) (ty := (.array .byte)) (by decide)
 have F1_coder : Fld Z h1 b1 "java/lang/String" "coder" "B" (.int (0 : Int32)) := D1 (Or.inr (hw _ (List.mem_of_getElem? (i := 25) rfl))) (ty := .byte) (by decide)
 refine own_go (b := (T1.setTop (mkF m 69 #[.val (.int (3 : Int32)), .val (.int c0), .val (.int c1), .val (.int c2), .val (.int c3)] [(.int (3 : Int32)), (.ref b1), (.ref b1)]))) (fun _ k => st1 _ (XS.dup X1.here hx rfl (hb hby d2_67) rfl rfl (XS.iconst X1.here hx rfl (hb hby d2_68) k))) ?_
 obtain ⟨T3, h3, kl3, X3, e3, E3, A3, st3⟩ := newP X1 hx hZ (hw _ (List.mem_of_getElem? (i := 11) rfl)) e1 (g := (mkF m 69 #[.val (.int (3 : Int32)), .val (.int c0), .val (.int c1), .val (.int c2), .val (.int c3)] [(.int (3 : Int32)), (.ref b1), (.ref b1)])) rfl (hb hby d2_69) rfl (by decide) (cap := 3) (by decide) (by decide) (by decide) (by decide)
 obtain ⟨b3, g3⟩ : ∃ z, z = h1.size := ⟨_, rfl⟩
 rw [← g3] at A3 st3
 have Zs4 : n0 ≤ h3.size := Nat.le_trans Zs2 E3.1
 have V3 : Arv Z h3 b3 kl3 .char (3 : Int32) [(.int (0 : Int32)), (.int (0 : Int32)), (.int (0 : Int32))] (.int (0 : Int32)) := (Arv.new A3 (by decide)).pad (pad_rep [] (.int (0 : Int32)) 3)
 refine own_go (b := (T3.setTop (mkF m 74 #[.val (.int (3 : Int32)), .val (.int c0), .val (.int c1), .val (.int c2), .val (.int c3)] [(.int c0), (.int (0 : Int32)), (.ref b3), (.ref b3), (.ref b1), (.ref b1)]))) (fun _ k => st3 _ (XS.dup X3.here hx rfl (hb hby d2_71) rfl rfl (XS.iconst X3.here hx rfl (hb hby d2_72) (XS.iloadN X3.here hx rfl (hb hby d2_73) rfl k)))) ?_
 obtain ⟨cl5, Ar5, ql5, Sz5, Nn5, Hl5, Gl5⟩ := id V3
 have hin5 : ¬ ((0 : Int32) < 0 ∨ cl5.slots.size ≤ ((0 : Int32)).toNatClampNeg) := inb_of Sz5 ⟨by decide, by decide⟩
 obtain ⟨T5, h5, X5, e5, W5, st5⟩ := stC X3 hx hZ e3 Ar5 (j := (0 : Int32)) hin5 (g := (mkF m 74 #[.val (.int (3 : Int32)), .val (.int c0), .val (.int c1), .val (.int c2), .val (.int c3)] [(.int c0), (.int (0 : Int32)), (.ref b3), (.ref b3), (.ref b1), (.ref b1)])) rfl rfl (hb hby d2_74)
 have gx6 : n0 ≤ b3 := Nat.le_trans Zs2 (Nat.le_of_eq g3.symm)
 have N5 := Fr.snoc X5 N0 gx6
 have Zs7 : n0 ≤ h5.size := Nat.le_trans Zs4 (Keep.of_wr W5).1
 have V5 : Arv Z h5 b3 kl3 .char (3 : Int32) [(.int (nar .char c0)), (.int (0 : Int32)), (.int (0 : Int32))] (.int (0 : Int32)) := Arv.set Ar5 ql5 Sz5 Nn5 Hl5 Gl5 (fits_nar_char _) W5 0 rfl (Nat.le_of_ble_eq_true rfl)
 refine own_go (b := (T5.setTop (mkF m 78 #[.val (.int (3 : Int32)), .val (.int c0), .val (.int c1), .val (.int c2), .val (.int c3)] [(.int c1), (.int (1 : Int32)), (.ref b3), (.ref b3), (.ref b1), (.ref b1)]))) (fun _ k => st5 _ (XS.dup X5.here hx rfl (hb hby d2_75) rfl rfl (XS.iconst X5.here hx rfl (hb hby d2_76) (XS.iloadN X5.here hx rfl (hb hby d2_77) rfl k)))) ?_
 obtain ⟨cl8, Ar8, ql8, Sz8, Nn8, Hl8, Gl8⟩ := id V5
 have hin8 : ¬ ((1 : Int32) < 0 ∨ cl8.slots.size ≤ ((1 : Int32)).toNatClampNeg) := inb_of Sz8 ⟨by decide, by decide⟩
 obtain ⟨T8, h8, X8, e8, W8, st8⟩ := stC X5 hx hZ e5 Ar8 (j := (1 : Int32)) hin8 (g := (mkF m 78 #[.val (.int (3 : Int32)), .val (.int c0), .val (.int c1), .val (.int c2), .val (.int c3)] [(.int c1), (.int (1 : Int32)), (.ref b3), (.ref b3), (.ref b1), (.ref b1)])) rfl rfl (hb hby d2_78)
 have N8 := Fr.snoc X8 N5 gx6
 have Zs9 : n0 ≤ h8.size := Nat.le_trans Zs7 (Keep.of_wr W8).1
 have V8 : Arv Z h8 b3 kl3 .char (3 : Int32) [(.int (nar .char c0)), (.int (nar .char c1)), (.int (0 : Int32))] (.int (0 : Int32)) := Arv.set Ar8 ql8 Sz8 Nn8 Hl8 Gl8 (fits_nar_char _) W8 1 rfl (Nat.le_of_ble_eq_true rfl)
 refine own_go (b := (T8.setTop (mkF m 82 #[.val (.int (3 : Int32)), .val (.int c0), .val (.int c1), .val (.int c2), .val (.int c3)] [(.int c2), (.int (2 : Int32)), (.ref b3), (.ref b3), (.ref b1), (.ref b1)]))) (fun _ k => st8 _ (XS.dup X8.here hx rfl (hb hby d2_79) rfl rfl (XS.iconst X8.here hx rfl (hb hby d2_80) (XS.iloadN X8.here hx rfl (hb hby d2_81) rfl k)))) ?_
 obtain ⟨cl10, Ar10, ql10, Sz10, Nn10, Hl10, Gl10⟩ := id V8
 have hin10 : ¬ ((2 : Int32) < 0 ∨ cl10.slots.size ≤ ((2 : Int32)).toNatClampNeg) := inb_of Sz10 ⟨by decide, by decide⟩
 obtain ⟨T10, h10, X10, e10, W10, st10⟩ := stC X8 hx hZ e8 Ar10 (j := (2 : Int32)) hin10 (g := (mkF m 82 #[.val (.int (3 : Int32)), .val (.int c0), .val (.int c1), .val (.int c2), .val (.int c3)] [(.int c2), (.int (2 : Int32)), (.ref b3), (.ref b3), (.ref b1), (.ref b1)])) rfl rfl (hb hby d2_82)
 have N10 := Fr.snoc X10 N8 gx6
 have Zs11 : n0 ≤ h10.size := Nat.le_trans Zs9 (Keep.of_wr W10).1
 have V10 : Arv Z h10 b3 kl3 .char (3 : Int32) [(.int (nar .char c0)), (.int (nar .char c1)), (.int (nar .char c2))] (.int (0 : Int32)) := Arv.set Ar10 ql10 Sz10 Nn10 Hl10 Gl10 (fits_nar_char _) W10 2 rfl (Nat.le_of_ble_eq_true rfl)
 refine own_go (b := (T10.setTop (mkF m 83 #[.val (.int (3 : Int32)), .val (.int c0), .val (.int c1), .val (.int c2), .val (.int c3)] [(.ref b3), (.ref b1), (.ref b1)]))) (fun _ k => st10 _ k) ?_
 have O13 := O0.ext E1
 have O14 := O13.ext E3
 have O15 := O14.wr W5 gx6
 have O16 := O15.wr W8 gx6
 have O17 := O16.wr W10 gx6
 have F18 := A1.ext E3
 have F19 := F18.wr W5
 have F20 := F19.wr W8
 have F21 := F20.wr W10
 have F22 := F1_value.ext E3
 have nx23 : b1 ≠ b3 := (own_ne A1.lt (Nat.le_refl _) (Nat.le_of_eq g3.symm))
 have F24 := F22.other W5 (Or.inl nx23)
 have F25 := F24.other W8 (Or.inl nx23)
 have F26 := F25.other W10 (Or.inl nx23)
 have F27 := F1_coder.ext E3
 have F28 := F27.other W5 (Or.inl nx23)
 have F29 := F28.other W8 (Or.inl nx23)
 have F30 := F29.other W10 (Or.inl nx23)
 have gx31 : n0 ≤ b1 := Nat.le_trans Z0 (Nat.le_of_eq g1.symm)
 refine own_spec (W := 1) X10 hx hZ hown e10 (hw _ (List.mem_of_getElem? (i := 12) rfl)) (hw _ (List.mem_of_getElem? (i := 13) rfl)) (rms2_3 l Z a0 hw [] b1 b3 kl3 (nar .char c0) (nar .char c1) (nar .char c2) cs h10 n0 Zs11 O17 S_COMPACT_STRINGS hcs F21 F26 F30 gx31 V10 (own_n255 hl0) (own_n255 hl1) (own_n255 hl2)) (hw _ (List.mem_of_getElem? (i := 14) rfl)) (hw _ (List.mem_of_getElem? (i := 10) rfl)) rfl (by rw [hml]; rfl) rfl (hb hby d2_83) (lenOf pd___C_V rfl) rfl rfl (by decide) (fun T12 v12 Ll12 X12 hQ12 => ?_)
 obtain ⟨b_12, kb_12, rfl, N12q, K12, P12_0, P12_1, P12_2⟩ := hQ12
 have N12 := Fr.app N10 N12q
 have Zs32 : n0 ≤ T12.heap.size := Nat.le_trans Zs11 K12.1
 have K33 := (Keep.refl h0 []).ext E1
 have K34 := K33.ext E3
 have K35 := K34.wr W5 (Or.inr (Nat.le_trans E1.1 (Nat.le_of_eq g3.symm)))
 have K36 := K35.wr W8 (Or.inr (Nat.le_trans E1.1 (Nat.le_of_eq g3.symm)))
 have K37 := K36.wr W10 (Or.inr (Nat.le_trans E1.1 (Nat.le_of_eq g3.symm)))
 have K38 := K37.trans K12 (allS (Or.inr (Nat.le_trans (Nat.le_refl _) (Nat.le_of_eq g1.symm))) all0)
 have F39 := F21.keep K12
 obtain ⟨fs, hr, hrun, hended, hW, hsame⟩ := X12.leave (v := some (.ref b1)) (fun h => by rw [Bd.returns] at h; cases h)
 exact ⟨_, _, retOut X12 hx Bd.returns rfl (Or.inr (Or.inr (Or.inr (Or.inr ⟨rfl, rfl, rfl⟩)))) (hb hby d2_86) hr, hrun, hended, _, _, rfl, (show Qrmmk_3 Z c0 c1 c2 c3 cs h0 n0 _ T12.heap _ from (by exact ⟨b1, b_12, kb_12, rfl, N12, K38, (Nat.le_trans (Nat.le_refl _) (Nat.le_of_eq g1.symm)), F39, P12_0, P12_1, P12_2⟩)), ⟨_, rfl⟩, hW, hsame.mono (by decide) (by decide)⟩
theorem ef_rmc6_4 (m : MethodId) (x0 : Addr) (x1 : Int32) (x2 : Addr) (x3 : Int32) (x4 : Int32) : entryFrame m #[(.ref x0), (.int x1), (.ref x2), (.int x3), (.int x4)] 7 = mkF m 0 #[.val (.ref x0), .val (.int x1), .val (.ref x2), .val (.int x3), .val (.int x4), .unset, .unset] [] := by first | (simp [entryFrame, mkF, argsToLocals, Value.category]; done) | rfl
def Qrmc6_4 (Z : State) (a2 : Addr) (k2 : ClassId) (a3 : Addr) (k3 : ClassId) (c0 : Int32) (c1 : Int32) (c2 : Int32) (c3 : Int32) (x0 : Int32) (x1 : Int32) (x2 : Int32) (x3 : Int32) (h0 : Heap) (n0 : Nat) (v : Option Value) (h : Heap) (L : List Loc) : Prop := v = some (.int (4 : Int32)) ∧ Fr n0 L ∧ Keep h0 h [a3] ∧ (Arv Z h a3 k3 .byte (4 : Int32) [(.int (own_lt c0)), (.int (own_lt c1)), (.int (own_lt c2)), (.int (own_lt c3))] (.int (0 : Int32)))
set_option maxRecDepth 65536 in
set_option maxHeartbeats 40000000 in
theorem rmc6_4 (l : Launch) (Z : State) (a0 : Array Value) (hw : ∀ d ∈ tables_1, d.before a0 Z = true) (ws : List Jvm.Cond) (a2 : Addr) (k2 : ClassId) (a3 : Addr) (k3 : ClassId) (c0 : Int32) (c1 : Int32) (c2 : Int32) (c3 : Int32) (x0 : Int32) (x1 : Int32) (x2 : Int32) (x3 : Int32) (h0 : Heap) (n0 : Nat) (Z0 : n0 ≤ h0.size) (V_a2 : Arv Z h0 a2 k2 .char (4 : Int32) [(.int c0), (.int c1), (.int c2), (.int c3)] (.int (0 : Int32))) (V_a3 : Arv Z h0 a3 k3 .byte (4 : Int32) [(.int x0), (.int x1), (.int x2), (.int x3)] (.int (0 : Int32))) (g_a3 : n0 ≤ a3) (ne_a2_a3 : a2 ≠ a3) (hn0 : ¬ ((255 : Int32) < c0)) (hn1 : ¬ ((255 : Int32) < c1)) (hn2 : ¬ ((255 : Int32) < c2)) (hn3 : ¬ ((255 : Int32) < c3)) :
    MetFree l (⟨"java/lang/StringUTF16", "compress", "([CI[BII)I"⟩ : MethodName) (head1 (Jvm.Cond.code (⟨"java/lang/StringUTF16", "compress", "([CI[BII)I"⟩ : MethodName) jdk_52_method_21_code 7 (some .int) :: ws) ({ frames := 0, cells := 0, slots := 0, locals := 0 } : Room)) (fun a U => a = #[(.ref a2), (.int (0 : Int32)), (.ref a3), (.int (0 : Int32)), (.int (4 : Int32))] ∧ Z.Warmed39 U.vm ∧ U.heap = h0) (fun _ _ _ _ _ => True) (fun _ U o U' => ∃ v L, o = .returned v ∧ Qrmc6_4 Z a2 k2 a3 k3 c0 c1 c2 c3 x0 x1 x2 x3 h0 n0 v U'.heap L ∧ FrameEnd U o U' L ({ frames := 0, cells := 0, slots := 0, locals := 0 } : Room).cells ({ frames := 0, cells := 0, slots := 0, locals := 0 } : Room).slots) := by
 refine MetFree.of_bodySF (plainFor_of_name pn_13) hisR ?_
 intro p e s m args below meth c s₁ Bd hml0 hP hK
 obtain ⟨rfl, hZ, hh⟩ := hP
 have hx := Bd.exec
 have hby := Bd.bytes
 have hml : c.maxLocals = 7 := hml0
 have hown : s.vm.findClass "java/lang/StringUTF16" = some m.cls := findClass_of_methodNamed Bd.named
 have hnm := (name_of_methodNamed Bd.named Bd.method).1
 have X0 : Stand p l e ({ frames := 0, cells := 0, slots := 0, locals := 0 } : Room) s m #[(.ref a2), (.int (0 : Int32)), (.ref a3), (.int (0 : Int32)), (.int (4 : Int32))] below meth c s₁ [] 0 0 := Stand.of_body Bd
 have e0 : s₁.heap = h0 := by rw [← hh, Bd.state]; rfl
 have N0 := Fr.nil n0
 refine own_go (b := (s₁.setTop (mkF m 0 #[.val (.ref a2), .val (.int (0 : Int32)), .val (.ref a3), .val (.int (0 : Int32)), .val (.int (4 : Int32)), .unset, .unset] []))) (fun _ k => castTop (ef_rmc6_4 m a2 (0 : Int32) a3 (0 : Int32) (4 : Int32)) k) ?_
 refine own_go (b := (s₁.setTop (mkF m 12 #[.val (.ref a2), .val (.int (0 : Int32)), .val (.ref a3), .val (.int (0 : Int32)), .val (.int (4 : Int32)), .val (.int (0 : Int32)), .unset] [(.int (0 : Int32)), (.ref a2)]))) (fun _ k => XS.iconst X0.here hx rfl (hb hby d13_0) (XS.istore X0.here hx rfl (hb hby d13_1) rfl (l' := #[.val (.ref a2), .val (.int (0 : Int32)), .val (.ref a3), .val (.int (0 : Int32)), .val (.int (4 : Int32)), .val (.int (0 : Int32)), .unset]) rfl (XS.iload X0.here hx rfl (hb hby d13_3) rfl (XS.iload X0.here hx rfl (hb hby d13_5) rfl (XS.icmpNo X0.here hx rfl (hb hby d13_7) rfl (tlt (by decide : (0 : Int32) < (4 : Int32))).2.1 (XS.aloadN X0.here hx rfl (hb hby d13_10) rfl rfl (XS.iloadN X0.here hx rfl (hb hby d13_11) rfl k))))))) ?_
 obtain ⟨cl1, Ar1, ql1, Sz1, Nn1, Hl1, Gl1⟩ := id V_a2
 have hin1 : ¬ ((0 : Int32) < 0 ∨ cl1.slots.size ≤ ((0 : Int32)).toNatClampNeg) := inb_of Sz1 ⟨by decide, by decide⟩
 refine own_go (b := (s₁.setTop (mkF m 31 #[.val (.ref a2), .val (.int (0 : Int32)), .val (.ref a3), .val (.int (0 : Int32)), .val (.int (4 : Int32)), .val (.int (0 : Int32)), .val (.int c0)] [(.int (c0.toInt8.toInt32)), (.int (0 : Int32)), (.ref a3)]))) (fun _ k => X0.caload hx (j := (0 : Int32)) (v := (.int c0)) (by rw [e0]; exact Ar1.1) (State.isArrayOf_alike hZ.alike Ar1.2.1) Ar1.2.2 hin1 (Hl1.at hin1 rfl) (g := (mkF m 12 #[.val (.ref a2), .val (.int (0 : Int32)), .val (.ref a3), .val (.int (0 : Int32)), .val (.int (4 : Int32)), .val (.int (0 : Int32)), .unset] [(.int (0 : Int32)), (.ref a2)])) rfl rfl (hb hby d13_12) _ (XS.istore X0.here hx rfl (hb hby d13_13) rfl (l' := #[.val (.ref a2), .val (.int (0 : Int32)), .val (.ref a3), .val (.int (0 : Int32)), .val (.int (4 : Int32)), .val (.int (0 : Int32)), .val (.int c0)]) rfl (XS.iload X0.here hx rfl (hb hby d13_15) rfl (XS.sipush X0.here hx rfl (hb hby d13_17) (XS.icmpYes X0.here hx rfl (pc0 := 20) (pc' := 26) rfl (hb hby d13_20) rfl (flt hn0).2.2.2 (by decide) (by decide) (XS.aloadN X0.here hx rfl (hb hby d13_26) rfl rfl (XS.iloadN X0.here hx rfl (hb hby d13_27) rfl (XS.iload X0.here hx rfl (hb hby d13_28) rfl (XS.i2b X0.here hx rfl (hb hby d13_30) rfl k))))))))) ?_
 obtain ⟨cl2, Ar2, ql2, Sz2, Nn2, Hl2, Gl2⟩ := id V_a3
 have hin2 : ¬ ((0 : Int32) < 0 ∨ cl2.slots.size ≤ ((0 : Int32)).toNatClampNeg) := inb_of Sz2 ⟨by decide, by decide⟩
 obtain ⟨T2, h2, X2, e2, W2, st2⟩ := stB X0 hx hZ e0 Ar2 (j := (0 : Int32)) hin2 (g := (mkF m 31 #[.val (.ref a2), .val (.int (0 : Int32)), .val (.ref a3), .val (.int (0 : Int32)), .val (.int (4 : Int32)), .val (.int (0 : Int32)), .val (.int c0)] [(.int (c0.toInt8.toInt32)), (.int (0 : Int32)), (.ref a3)])) rfl rfl (hb hby d13_31)
 have N2 := Fr.snoc X2 N0 g_a3
 have Zs3 : n0 ≤ h2.size := Nat.le_trans Z0 (Keep.of_wr W2).1
 have V2 : Arv Z h2 a3 k3 .byte (4 : Int32) [(.int (own_lt c0)), (.int x1), (.int x2), (.int x3)] (.int (0 : Int32)) := Arv.set Ar2 ql2 Sz2 Nn2 Hl2 Gl2 (fits_nar_byte _) W2 0 rfl (Nat.le_of_ble_eq_true rfl)
 refine own_go (b := (T2.setTop (mkF m 12 #[.val (.ref a2), .val (.int (1 : Int32)), .val (.ref a3), .val (.int (1 : Int32)), .val (.int (4 : Int32)), .val (.int (1 : Int32)), .val (.int c0)] [(.int (1 : Int32)), (.ref a2)]))) (fun _ k => st2 _ (XS.iinc X2.here hx rfl (hb hby d13_32) rfl (l' := #[.val (.ref a2), .val (.int (1 : Int32)), .val (.ref a3), .val (.int (0 : Int32)), .val (.int (4 : Int32)), .val (.int (0 : Int32)), .val (.int c0)]) rfl (XS.iinc X2.here hx rfl (hb hby d13_35) rfl (l' := #[.val (.ref a2), .val (.int (1 : Int32)), .val (.ref a3), .val (.int (1 : Int32)), .val (.int (4 : Int32)), .val (.int (0 : Int32)), .val (.int c0)]) rfl (XS.iinc X2.here hx rfl (hb hby d13_38) rfl (l' := #[.val (.ref a2), .val (.int (1 : Int32)), .val (.ref a3), .val (.int (1 : Int32)), .val (.int (4 : Int32)), .val (.int (1 : Int32)), .val (.int c0)]) rfl (XS.goto X2.here hx rfl (pc0 := 41) (pc' := 3) rfl (hb hby d13_41) (by decide) (by decide) (XS.iload X2.here hx rfl (hb hby d13_3) rfl (XS.iload X2.here hx rfl (hb hby d13_5) rfl (XS.icmpNo X2.here hx rfl (hb hby d13_7) rfl (tlt (by decide : (1 : Int32) < (4 : Int32))).2.1 (XS.aloadN X2.here hx rfl (hb hby d13_10) rfl rfl (XS.iloadN X2.here hx rfl (hb hby d13_11) rfl k)))))))))) ?_
 have F5 := V_a2.other W2 ne_a2_a3
 obtain ⟨cl4, Ar4, ql4, Sz4, Nn4, Hl4, Gl4⟩ := id F5
 have hin4 : ¬ ((1 : Int32) < 0 ∨ cl4.slots.size ≤ ((1 : Int32)).toNatClampNeg) := inb_of Sz4 ⟨by decide, by decide⟩
 refine own_go (b := (T2.setTop (mkF m 31 #[.val (.ref a2), .val (.int (1 : Int32)), .val (.ref a3), .val (.int (1 : Int32)), .val (.int (4 : Int32)), .val (.int (1 : Int32)), .val (.int c1)] [(.int (c1.toInt8.toInt32)), (.int (1 : Int32)), (.ref a3)]))) (fun _ k => X2.caload hx (j := (1 : Int32)) (v := (.int c1)) (by rw [e2]; exact Ar4.1) (State.isArrayOf_alike hZ.alike Ar4.2.1) Ar4.2.2 hin4 (Hl4.at hin4 rfl) (g := (mkF m 12 #[.val (.ref a2), .val (.int (1 : Int32)), .val (.ref a3), .val (.int (1 : Int32)), .val (.int (4 : Int32)), .val (.int (1 : Int32)), .val (.int c0)] [(.int (1 : Int32)), (.ref a2)])) rfl rfl (hb hby d13_12) _ (XS.istore X2.here hx rfl (hb hby d13_13) rfl (l' := #[.val (.ref a2), .val (.int (1 : Int32)), .val (.ref a3), .val (.int (1 : Int32)), .val (.int (4 : Int32)), .val (.int (1 : Int32)), .val (.int c1)]) rfl (XS.iload X2.here hx rfl (hb hby d13_15) rfl (XS.sipush X2.here hx rfl (hb hby d13_17) (XS.icmpYes X2.here hx rfl (pc0 := 20) (pc' := 26) rfl (hb hby d13_20) rfl (flt hn1).2.2.2 (by decide) (by decide) (XS.aloadN X2.here hx rfl (hb hby d13_26) rfl rfl (XS.iloadN X2.here hx rfl (hb hby d13_27) rfl (XS.iload X2.here hx rfl (hb hby d13_28) rfl (XS.i2b X2.here hx rfl (hb hby d13_30) rfl k))))))))) ?_
 obtain ⟨cl6, Ar6, ql6, Sz6, Nn6, Hl6, Gl6⟩ := id V2
 have hin6 : ¬ ((1 : Int32) < 0 ∨ cl6.slots.size ≤ ((1 : Int32)).toNatClampNeg) := inb_of Sz6 ⟨by decide, by decide⟩
 obtain ⟨T6, h6, X6, e6, W6, st6⟩ := stB X2 hx hZ e2 Ar6 (j := (1 : Int32)) hin6 (g := (mkF m 31 #[.val (.ref a2), .val (.int (1 : Int32)), .val (.ref a3), .val (.int (1 : Int32)), .val (.int (4 : Int32)), .val (.int (1 : Int32)), .val (.int c1)] [(.int (c1.toInt8.toInt32)), (.int (1 : Int32)), (.ref a3)])) rfl rfl (hb hby d13_31)
 have N6 := Fr.snoc X6 N2 g_a3
 have Zs7 : n0 ≤ h6.size := Nat.le_trans Zs3 (Keep.of_wr W6).1
 have V6 : Arv Z h6 a3 k3 .byte (4 : Int32) [(.int (own_lt c0)), (.int (own_lt c1)), (.int x2), (.int x3)] (.int (0 : Int32)) := Arv.set Ar6 ql6 Sz6 Nn6 Hl6 Gl6 (fits_nar_byte _) W6 1 rfl (Nat.le_of_ble_eq_true rfl)
 refine own_go (b := (T6.setTop (mkF m 12 #[.val (.ref a2), .val (.int (2 : Int32)), .val (.ref a3), .val (.int (2 : Int32)), .val (.int (4 : Int32)), .val (.int (2 : Int32)), .val (.int c1)] [(.int (2 : Int32)), (.ref a2)]))) (fun _ k => st6 _ (XS.iinc X6.here hx rfl (hb hby d13_32) rfl (l' := #[.val (.ref a2), .val (.int (2 : Int32)), .val (.ref a3), .val (.int (1 : Int32)), .val (.int (4 : Int32)), .val (.int (1 : Int32)), .val (.int c1)]) rfl (XS.iinc X6.here hx rfl (hb hby d13_35) rfl (l' := #[.val (.ref a2), .val (.int (2 : Int32)), .val (.ref a3), .val (.int (2 : Int32)), .val (.int (4 : Int32)), .val (.int (1 : Int32)), .val (.int c1)]) rfl (XS.iinc X6.here hx rfl (hb hby d13_38) rfl (l' := #[.val (.ref a2), .val (.int (2 : Int32)), .val (.ref a3), .val (.int (2 : Int32)), .val (.int (4 : Int32)), .val (.int (2 : Int32)), .val (.int c1)]) rfl (XS.goto X6.here hx rfl (pc0 := 41) (pc' := 3) rfl (hb hby d13_41) (by decide) (by decide) (XS.iload X6.here hx rfl (hb hby d13_3) rfl (XS.iload X6.here hx rfl (hb hby d13_5) rfl (XS.icmpNo X6.here hx rfl (hb hby d13_7) rfl (tlt (by decide : (2 : Int32) < (4 : Int32))).2.1 (XS.aloadN X6.here hx rfl (hb hby d13_10) rfl rfl (XS.iloadN X6.here hx rfl (hb hby d13_11) rfl k)))))))))) ?_
 have F9 := F5.other W6 ne_a2_a3
 obtain ⟨cl8, Ar8, ql8, Sz8, Nn8, Hl8, Gl8⟩ := id F9
 have hin8 : ¬ ((2 : Int32) < 0 ∨ cl8.slots.size ≤ ((2 : Int32)).toNatClampNeg) := inb_of Sz8 ⟨by decide, by decide⟩
 refine own_go (b := (T6.setTop (mkF m 31 #[.val (.ref a2), .val (.int (2 : Int32)), .val (.ref a3), .val (.int (2 : Int32)), .val (.int (4 : Int32)), .val (.int (2 : Int32)), .val (.int c2)] [(.int (c2.toInt8.toInt32)), (.int (2 : Int32)), (.ref a3)]))) (fun _ k => X6.caload hx (j := (2 : Int32)) (v := (.int c2)) (by rw [e6]; exact Ar8.1) (State.isArrayOf_alike hZ.alike Ar8.2.1) Ar8.2.2 hin8 (Hl8.at hin8 rfl) (g := (mkF m 12 #[.val (.ref a2), .val (.int (2 : Int32)), .val (.ref a3), .val (.int (2 : Int32)), .val (.int (4 : Int32)), .val (.int (2 : Int32)), .val (.int c1)] [(.int (2 : Int32)), (.ref a2)])) rfl rfl (hb hby d13_12) _ (XS.istore X6.here hx rfl (hb hby d13_13) rfl (l' := #[.val (.ref a2), .val (.int (2 : Int32)), .val (.ref a3), .val (.int (2 : Int32)), .val (.int (4 : Int32)), .val (.int (2 : Int32)), .val (.int c2)]) rfl (XS.iload X6.here hx rfl (hb hby d13_15) rfl (XS.sipush X6.here hx rfl (hb hby d13_17) (XS.icmpYes X6.here hx rfl (pc0 := 20) (pc' := 26) rfl (hb hby d13_20) rfl (flt hn2).2.2.2 (by decide) (by decide) (XS.aloadN X6.here hx rfl (hb hby d13_26) rfl rfl (XS.iloadN X6.here hx rfl (hb hby d13_27) rfl (XS.iload X6.here hx rfl (hb hby d13_28) rfl (XS.i2b X6.here hx rfl (hb hby d13_30) rfl k))))))))) ?_
 obtain ⟨cl10, Ar10, ql10, Sz10, Nn10, Hl10, Gl10⟩ := id V6
 have hin10 : ¬ ((2 : Int32) < 0 ∨ cl10.slots.size ≤ ((2 : Int32)).toNatClampNeg) := inb_of Sz10 ⟨by decide, by decide⟩
 obtain ⟨T10, h10, X10, e10, W10, st10⟩ := stB X6 hx hZ e6 Ar10 (j := (2 : Int32)) hin10 (g := (mkF m 31 #[.val (.ref a2), .val (.int (2 : Int32)), .val (.ref a3), .val (.int (2 : Int32)), .val (.int (4 : Int32)), .val (.int (2 : Int32)), .val (.int c2)] [(.int (c2.toInt8.toInt32)), (.int (2 : Int32)), (.ref a3)])) rfl rfl (hb hby d13_31)
 have N10 := Fr.snoc X10 N6 g_a3
 have Zs11 : n0 ≤ h10.size := Nat.le_trans Zs7 (Keep.of_wr W10).1
 have V10 : Arv Z h10 a3 k3 .byte (4 : Int32) [(.int (own_lt c0)), (.int (own_lt c1)), (.int (own_lt c2)), (.int x3)] (.int (0 : Int32)) := Arv.set Ar10 ql10 Sz10 Nn10 Hl10 Gl10 (fits_nar_byte _) W10 2 rfl (Nat.le_of_ble_eq_true rfl)
 refine own_go (b := (T10.setTop (mkF m 12 #[.val (.ref a2), .val (.int (3 : Int32)), .val (.ref a3), .val (.int (3 : Int32)), .val (.int (4 : Int32)), .val (.int (3 : Int32)), .val (.int c2)] [(.int (3 : Int32)), (.ref a2)]))) (fun _ k => st10 _ (XS.iinc X10.here hx rfl (hb hby d13_32) rfl (l' := #[.val (.ref a2), .val (.int (3 : Int32)), .val (.ref a3), .val (.int (2 : Int32)), .val (.int (4 : Int32)), .val (.int (2 : Int32)), .val (.int c2)]) rfl (XS.iinc X10.here hx rfl (hb hby d13_35) rfl (l' := #[.val (.ref a2), .val (.int (3 : Int32)), .val (.ref a3), .val (.int (3 : Int32)), .val (.int (4 : Int32)), .val (.int (2 : Int32)), .val (.int c2)]) rfl (XS.iinc X10.here hx rfl (hb hby d13_38) rfl (l' := #[.val (.ref a2), .val (.int (3 : Int32)), .val (.ref a3), .val (.int (3 : Int32)), .val (.int (4 : Int32)), .val (.int (3 : Int32)), .val (.int c2)]) rfl (XS.goto X10.here hx rfl (pc0 := 41) (pc' := 3) rfl (hb hby d13_41) (by decide) (by decide) (XS.iload X10.here hx rfl (hb hby d13_3) rfl (XS.iload X10.here hx rfl (hb hby d13_5) rfl (XS.icmpNo X10.here hx rfl (hb hby d13_7) rfl (tlt (by decide : (3 : Int32) < (4 : Int32))).2.1 (XS.aloadN X10.here hx rfl (hb hby d13_10) rfl rfl (XS.iloadN X10.here hx rfl (hb hby d13_11) rfl k)))))))))) ?_
 have F13 := F9.other W10 ne_a2_a3
 obtain ⟨cl12, Ar12, ql12, Sz12, Nn12, Hl12, Gl12⟩ := id F13
 have hin12 : ¬ ((3 : Int32) < 0 ∨ cl12.slots.size ≤ ((3 : Int32)).toNatClampNeg) := inb_of Sz12 ⟨by decide, by decide⟩
 refine own_go (b := (T10.setTop (mkF m 31 #[.val (.ref a2), .val (.int (3 : Int32)), .val (.ref a3), .val (.int (3 : Int32)), .val (.int (4 : Int32)), .val (.int (3 : Int32)), .val (.int c3)] [(.int (c3.toInt8.toInt32)), (.int (3 : Int32)), (.ref a3)]))) (fun _ k => X10.caload hx (j := (3 : Int32)) (v := (.int c3)) (by rw [e10]; exact Ar12.1) (State.isArrayOf_alike hZ.alike Ar12.2.1) Ar12.2.2 hin12 (Hl12.at hin12 rfl) (g := (mkF m 12 #[.val (.ref a2), .val (.int (3 : Int32)), .val (.ref a3), .val (.int (3 : Int32)), .val (.int (4 : Int32)), .val (.int (3 : Int32)), .val (.int c2)] [(.int (3 : Int32)), (.ref a2)])) rfl rfl (hb hby d13_12) _ (XS.istore X10.here hx rfl (hb hby d13_13) rfl (l' := #[.val (.ref a2), .val (.int (3 : Int32)), .val (.ref a3), .val (.int (3 : Int32)), .val (.int (4 : Int32)), .val (.int (3 : Int32)), .val (.int c3)]) rfl (XS.iload X10.here hx rfl (hb hby d13_15) rfl (XS.sipush X10.here hx rfl (hb hby d13_17) (XS.icmpYes X10.here hx rfl (pc0 := 20) (pc' := 26) rfl (hb hby d13_20) rfl (flt hn3).2.2.2 (by decide) (by decide) (XS.aloadN X10.here hx rfl (hb hby d13_26) rfl rfl (XS.iloadN X10.here hx rfl (hb hby d13_27) rfl (XS.iload X10.here hx rfl (hb hby d13_28) rfl (XS.i2b X10.here hx rfl (hb hby d13_30) rfl k))))))))) ?_
 obtain ⟨cl14, Ar14, ql14, Sz14, Nn14, Hl14, Gl14⟩ := id V10
 have hin14 : ¬ ((3 : Int32) < 0 ∨ cl14.slots.size ≤ ((3 : Int32)).toNatClampNeg) := inb_of Sz14 ⟨by decide, by decide⟩
 obtain ⟨T14, h14, X14, e14, W14, st14⟩ := stB X10 hx hZ e10 Ar14 (j := (3 : Int32)) hin14 (g := (mkF m 31 #[.val (.ref a2), .val (.int (3 : Int32)), .val (.ref a3), .val (.int (3 : Int32)), .val (.int (4 : Int32)), .val (.int (3 : Int32)), .val (.int c3)] [(.int (c3.toInt8.toInt32)), (.int (3 : Int32)), (.ref a3)])) rfl rfl (hb hby d13_31)
 have N14 := Fr.snoc X14 N10 g_a3
 have Zs15 : n0 ≤ h14.size := Nat.le_trans Zs11 (Keep.of_wr W14).1
 have V14 : Arv Z h14 a3 k3 .byte (4 : Int32) [(.int (own_lt c0)), (.int (own_lt c1)), (.int (own_lt c2)), (.int (own_lt c3))] (.int (0 : Int32)) := Arv.set Ar14 ql14 Sz14 Nn14 Hl14 Gl14 (fits_nar_byte _) W14 3 rfl (Nat.le_of_ble_eq_true rfl)
 refine own_go (b := (T14.setTop (mkF m 46 #[.val (.ref a2), .val (.int (4 : Int32)), .val (.ref a3), .val (.int (4 : Int32)), .val (.int (4 : Int32)), .val (.int (4 : Int32)), .val (.int c3)] [(.int (4 : Int32))]))) (fun _ k => st14 _ (XS.iinc X14.here hx rfl (hb hby d13_32) rfl (l' := #[.val (.ref a2), .val (.int (4 : Int32)), .val (.ref a3), .val (.int (3 : Int32)), .val (.int (4 : Int32)), .val (.int (3 : Int32)), .val (.int c3)]) rfl (XS.iinc X14.here hx rfl (hb hby d13_35) rfl (l' := #[.val (.ref a2), .val (.int (4 : Int32)), .val (.ref a3), .val (.int (4 : Int32)), .val (.int (4 : Int32)), .val (.int (3 : Int32)), .val (.int c3)]) rfl (XS.iinc X14.here hx rfl (hb hby d13_38) rfl (l' := #[.val (.ref a2), .val (.int (4 : Int32)), .val (.ref a3), .val (.int (4 : Int32)), .val (.int (4 : Int32)), .val (.int (4 : Int32)), .val (.int c3)]) rfl (XS.goto X14.here hx rfl (pc0 := 41) (pc' := 3) rfl (hb hby d13_41) (by decide) (by decide) (XS.iload X14.here hx rfl (hb hby d13_3) rfl (XS.iload X14.here hx rfl (hb hby d13_5) rfl (XS.icmpYes X14.here hx rfl (pc0 := 7) (pc' := 44) rfl (hb hby d13_7) rfl (flt (by decide : ¬ ((4 : Int32) < (4 : Int32)))).2.1 (by decide) (by decide) (XS.iload X14.here hx rfl (hb hby d13_44) rfl k))))))))) ?_
 have K16 := (Keep.refl h0 [a3]).wr W2 (Or.inl (List.mem_of_getElem? (i := 0) rfl))
 have K17 := K16.wr W6 (Or.inl (List.mem_of_getElem? (i := 0) rfl))
 have K18 := K17.wr W10 (Or.inl (List.mem_of_getElem? (i := 0) rfl))
 have K19 := K18.wr W14 (Or.inl (List.mem_of_getElem? (i := 0) rfl))
 obtain ⟨fs, hr, hrun, hended, hW, hsame⟩ := X14.leave (v := some (.int (4 : Int32))) (fun h => by rw [Bd.returns] at h; cases h)
 exact ⟨_, _, retOut X14 hx Bd.returns rfl (Or.inl ⟨rfl, Or.inl rfl, _, rfl⟩) (hb hby d13_46) hr, hrun, hended, _, _, rfl, (show Qrmc6_4 Z a2 k2 a3 k3 c0 c1 c2 c3 x0 x1 x2 x3 h0 n0 _ T14.heap _ from (by rw [e14]; exact ⟨rfl, N14, K19, V14⟩)), ⟨_, rfl⟩, hW, hsame.mono (by decide) (by decide)⟩
theorem ef_rmc5_4 (m : MethodId) (x0 : Addr) (x1 : Int32) (x2 : Int32) : entryFrame m #[(.ref x0), (.int x1), (.int x2)] 6 = mkF m 0 #[.val (.ref x0), .val (.int x1), .val (.int x2), .unset, .unset, .unset] [] := by first | (simp [entryFrame, mkF, argsToLocals, Value.category]; done) | rfl
def Qrmc5_4 (Z : State) (a2 : Addr) (k2 : ClassId) (c0 : Int32) (c1 : Int32) (c2 : Int32) (c3 : Int32) (h0 : Heap) (n0 : Nat) (v : Option Value) (h : Heap) (L : List Loc) : Prop := ∃ (b : Addr) (kb : ClassId), v = some (.ref b) ∧ Fr n0 L ∧ Keep h0 h [] ∧ (h0.size ≤ b) ∧ (Arv Z h b kb .byte (4 : Int32) [(.int (own_lt c0)), (.int (own_lt c1)), (.int (own_lt c2)), (.int (own_lt c3))] (.int (0 : Int32)))
set_option maxRecDepth 65536 in
set_option maxHeartbeats 40000000 in
theorem rmc5_4 (l : Launch) (Z : State) (a0 : Array Value) (hw : ∀ d ∈ tables_1, d.before a0 Z = true) (ws : List Jvm.Cond) (a2 : Addr) (k2 : ClassId) (c0 : Int32) (c1 : Int32) (c2 : Int32) (c3 : Int32) (h0 : Heap) (n0 : Nat) (Z0 : n0 ≤ h0.size) (V_a2 : Arv Z h0 a2 k2 .char (4 : Int32) [(.int c0), (.int c1), (.int c2), (.int c3)] (.int (0 : Int32))) (hn0 : ¬ ((255 : Int32) < c0)) (hn1 : ¬ ((255 : Int32) < c1)) (hn2 : ¬ ((255 : Int32) < c2)) (hn3 : ¬ ((255 : Int32) < c3)) :
    MetFree l (⟨"java/lang/StringUTF16", "compress", "([CII)[B"⟩ : MethodName) (head1 (Jvm.Cond.code (⟨"java/lang/StringUTF16", "compress", "([CII)[B"⟩ : MethodName) jdk_52_method_16_code 6 (some (.array .byte)) :: ws) ({ frames := 1, cells := 1, slots := 4, locals := 18 } : Room)) (fun a U => a = #[(.ref a2), (.int (0 : Int32)), (.int (4 : Int32))] ∧ Z.Warmed39 U.vm ∧ U.heap = h0) (fun _ _ _ _ _ => True) (fun _ U o U' => ∃ v L, o = .returned v ∧ Qrmc5_4 Z a2 k2 c0 c1 c2 c3 h0 n0 v U'.heap L ∧ FrameEnd U o U' L ({ frames := 1, cells := 1, slots := 4, locals := 18 } : Room).cells ({ frames := 1, cells := 1, slots := 4, locals := 18 } : Room).slots) := by
 refine MetFree.of_bodySF (plainFor_of_name pn_12) hisR ?_
 intro p e s m args below meth c s₁ Bd hml0 hP hK
 obtain ⟨rfl, hZ, hh⟩ := hP
 have hx := Bd.exec
 have hby := Bd.bytes
 have hml : c.maxLocals = 6 := hml0
 have hown : s.vm.findClass "java/lang/StringUTF16" = some m.cls := findClass_of_methodNamed Bd.named
 have hnm := (name_of_methodNamed Bd.named Bd.method).1
 have X0 : Stand p l e ({ frames := 1, cells := 1, slots := 4, locals := 18 } : Room) s m #[(.ref a2), (.int (0 : Int32)), (.int (4 : Int32))] below meth c s₁ [] 0 0 := Stand.of_body Bd
 have e0 : s₁.heap = h0 := by rw [← hh, Bd.state]; rfl
 have N0 := Fr.nil n0
 refine own_go (b := (s₁.setTop (mkF m 0 #[.val (.ref a2), .val (.int (0 : Int32)), .val (.int (4 : Int32)), .unset, .unset, .unset] []))) (fun _ k => castTop (ef_rmc5_4 m a2 (0 : Int32) (4 : Int32)) k) ?_
 refine own_go (b := (s₁.setTop (mkF m 1 #[.val (.ref a2), .val (.int (0 : Int32)), .val (.int (4 : Int32)), .unset, .unset, .unset] [(.int (4 : Int32))]))) (fun _ k => XS.iloadN X0.here hx rfl (hb hby d12_0) rfl k) ?_
 obtain ⟨T1, h1, kl1, X1, e1, E1, A1, st1⟩ := newP X0 hx hZ (hw _ (List.mem_of_getElem? (i := 23) rfl)) e0 (g := (mkF m 1 #[.val (.ref a2), .val (.int (0 : Int32)), .val (.int (4 : Int32)), .unset, .unset, .unset] [(.int (4 : Int32))])) rfl (hb hby d12_1) rfl (by decide) (cap := 4) (by decide) (by decide) (by decide) (by decide)
 obtain ⟨b1, g1⟩ : ∃ z, z = h0.size := ⟨_, rfl⟩
 rw [← g1] at A1 st1
 have Zs2 : n0 ≤ h1.size := Nat.le_trans Z0 E1.1
 have V1 : Arv Z h1 b1 kl1 .byte (4 : Int32) [(.int (0 : Int32)), (.int (0 : Int32)), (.int (0 : Int32)), (.int (0 : Int32))] (.int (0 : Int32)) := (Arv.new A1 (by decide)).pad (pad_rep [] (.int (0 : Int32)) 4)
 refine own_go (b := (T1.setTop (mkF m 9 #[.val (.ref a2), .val (.int (0 : Int32)), .val (.int (4 : Int32)), .val (.ref b1), .unset, .unset] [(.int (4 : Int32)), (.int (0 : Int32)), (.ref b1), (.int (0 : Int32)), (.ref a2)]))) (fun _ k => st1 _ (XS.astoreN X1.here hx rfl (hb hby d12_3) rfl rfl (l' := #[.val (.ref a2), .val (.int (0 : Int32)), .val (.int (4 : Int32)), .val (.ref b1), .unset, .unset]) rfl (XS.aloadN X1.here hx rfl (hb hby d12_4) rfl rfl (XS.iloadN X1.here hx rfl (hb hby d12_5) rfl (XS.aloadN X1.here hx rfl (hb hby d12_6) rfl rfl (XS.iconst X1.here hx rfl (hb hby d12_7) (XS.iloadN X1.here hx rfl (hb hby d12_8) rfl k))))))) ?_
 have F4 := V_a2.ext E1
 have gx5 : n0 ≤ b1 := Nat.le_trans Z0 (Nat.le_of_eq g1.symm)
 have nx6 : a2 ≠ b1 := (own_ne V_a2.lt (Nat.le_refl _) (Nat.le_of_eq g1.symm))
 refine own_stat (W := 0) X1 hx hZ hown e1 (hw _ (List.mem_of_getElem? (i := 80) rfl)) (hw _ (List.mem_of_getElem? (i := 81) rfl)) (rmc6_4 l Z a0 hw [] a2 k2 b1 kl1 c0 c1 c2 c3 (0 : Int32) (0 : Int32) (0 : Int32) (0 : Int32) h1 n0 Zs2 F4 V1 gx5 nx6 hn0 hn1 hn2 hn3) (hw _ (List.mem_of_getElem? (i := 82) rfl)) (hw _ (List.mem_of_getElem? (i := 78) rfl)) rfl (by rw [hml]; rfl) rfl (hb hby d12_9) (lenOf pd___CI_BII_I rfl) rfl (by decide) (fun T3 v3 Ll3 X3 hQ3 => ?_)
 obtain ⟨rfl, N3q, K3, P3_0⟩ := hQ3
 have N3 := Fr.app N0 N3q
 have Zs7 : n0 ≤ T3.heap.size := Nat.le_trans Zs2 K3.1
 refine own_go (b := (T3.setTop (mkF m 58 #[.val (.ref a2), .val (.int (0 : Int32)), .val (.int (4 : Int32)), .val (.ref b1), .val (.int (4 : Int32)), .unset] [(.ref b1)]))) (fun _ k => XS.istore X3.here hx rfl (hb hby d12_12) rfl (l' := #[.val (.ref a2), .val (.int (0 : Int32)), .val (.int (4 : Int32)), .val (.ref b1), .val (.int (4 : Int32)), .unset]) rfl (XS.iload X3.here hx rfl (hb hby d12_14) rfl (XS.iloadN X3.here hx rfl (hb hby d12_16) rfl (XS.icmpYes X3.here hx rfl (pc0 := 17) (pc' := 57) rfl (hb hby d12_17) rfl (teq (rfl : (4 : Int32) = (4 : Int32))).1 (by decide) (by decide) (XS.aloadN X3.here hx rfl (hb hby d12_57) rfl rfl k))))) ?_
 have K8 := (Keep.refl h0 []).ext E1
 have K9 := K8.trans K3 (allS (Or.inr (Nat.le_trans (Nat.le_refl _) (Nat.le_of_eq g1.symm))) all0)
 obtain ⟨fs, hr, hrun, hended, hW, hsame⟩ := X3.leave (v := some (.ref b1)) (fun h => by rw [Bd.returns] at h; cases h)
 exact ⟨_, _, retOut X3 hx Bd.returns rfl (Or.inr (Or.inr (Or.inr (Or.inr ⟨rfl, rfl, rfl⟩)))) (hb hby d12_58) hr, hrun, hended, _, _, rfl, (show Qrmc5_4 Z a2 k2 c0 c1 c2 c3 h0 n0 _ T3.heap _ from (by exact ⟨b1, kl1, rfl, N3, K9, (Nat.le_trans (Nat.le_refl _) (Nat.le_of_eq g1.symm)), P3_0⟩)), ⟨_, rfl⟩, hW, hsame.mono (by decide) (by decide)⟩
theorem ef_rmcd_4 (m : MethodId) (x0 : Addr) (x1 : Int32) : entryFrame m #[(.ref x0), (.int x1)] 2 = mkF m 0 #[.val (.ref x0), .val (.int x1)] [] := by first | (simp [entryFrame, mkF, argsToLocals, Value.category]; done) | rfl
def Qrmcd_4 (Z : State) (a3 : Addr) (k3 : ClassId) (x0 : Int32) (x1 : Int32) (x2 : Int32) (x3 : Int32) (h0 : Heap) (n0 : Nat) (v : Option Value) (h : Heap) (L : List Loc) : Prop := v = some (.int (0 : Int32)) ∧ Fr n0 L ∧ h = h0
set_option maxRecDepth 65536 in
set_option maxHeartbeats 40000000 in
theorem rmcd_4 (l : Launch) (Z : State) (a0 : Array Value) (hw : ∀ d ∈ tables_1, d.before a0 Z = true) (ws : List Jvm.Cond) (a3 : Addr) (k3 : ClassId) (x0 : Int32) (x1 : Int32) (x2 : Int32) (x3 : Int32) (h0 : Heap) (n0 : Nat) (Z0 : n0 ≤ h0.size) (V_a3 : Arv Z h0 a3 k3 .byte (4 : Int32) [(.int x0), (.int x1), (.int x2), (.int x3)] (.int (0 : Int32))) :
    MetFree l (⟨"java/lang/StringUTF16", "coderFromArrayLen", "([BI)B"⟩ : MethodName) (head1 (Jvm.Cond.code (⟨"java/lang/StringUTF16", "coderFromArrayLen", "([BI)B"⟩ : MethodName) jdk_52_method_15_code 2 (some .byte) :: ws) ({ frames := 0, cells := 0, slots := 0, locals := 0 } : Room)) (fun a U => a = #[(.ref a3), (.int (4 : Int32))] ∧ Z.Warmed39 U.vm ∧ U.heap = h0) (fun _ _ _ _ _ => True) (fun _ U o U' => ∃ v L, o = .returned v ∧ Qrmcd_4 Z a3 k3 x0 x1 x2 x3 h0 n0 v U'.heap L ∧ FrameEnd U o U' L ({ frames := 0, cells := 0, slots := 0, locals := 0 } : Room).cells ({ frames := 0, cells := 0, slots := 0, locals := 0 } : Room).slots) := by
 refine MetFree.of_bodySF (plainFor_of_name pn_14) hisR ?_
 intro p e s m args below meth c s₁ Bd hml0 hP hK
 obtain ⟨rfl, hZ, hh⟩ := hP
 have hx := Bd.exec
 have hby := Bd.bytes
 have hml : c.maxLocals = 2 := hml0
 have hown : s.vm.findClass "java/lang/StringUTF16" = some m.cls := findClass_of_methodNamed Bd.named
 have hnm := (name_of_methodNamed Bd.named Bd.method).1
 have X0 : Stand p l e ({ frames := 0, cells := 0, slots := 0, locals := 0 } : Room) s m #[(.ref a3), (.int (4 : Int32))] below meth c s₁ [] 0 0 := Stand.of_body Bd
 have e0 : s₁.heap = h0 := by rw [← hh, Bd.state]; rfl
 have N0 := Fr.nil n0
 refine own_go (b := (s₁.setTop (mkF m 0 #[.val (.ref a3), .val (.int (4 : Int32))] []))) (fun _ k => castTop (ef_rmcd_4 m a3 (4 : Int32)) k) ?_
 refine own_go (b := (s₁.setTop (mkF m 2 #[.val (.ref a3), .val (.int (4 : Int32))] [(.ref a3), (.int (4 : Int32))]))) (fun _ k => XS.iloadN X0.here hx rfl (hb hby d14_0) rfl (XS.aloadN X0.here hx rfl (hb hby d14_1) rfl rfl k)) ?_
 obtain ⟨cl1, Ar1, -, Sz1, Nn1, -, -⟩ := id V_a3
 refine own_go (b := (s₁.setTop (mkF m 8 #[.val (.ref a3), .val (.int (4 : Int32))] [(.int ((0 : Int32).toInt8.toInt32))]))) (fun _ k => X0.arraylength hx (by rw [e0]; exact Ar1.1) (State.isArrayOf_alike hZ.alike Ar1.2.1) (g := (mkF m 2 #[.val (.ref a3), .val (.int (4 : Int32))] [(.ref a3), (.int (4 : Int32))])) rfl rfl (hb hby d14_2) _ (by rw [len_of Sz1 Nn1]; exact (XS.isub X0.here hx rfl (hb hby d14_3) rfl (XS.bipush X0.here hx rfl (hb hby d14_4) (XS.iushr X0.here hx rfl (hb hby d14_6) rfl (XS.i2b X0.here hx rfl (hb hby d14_7) rfl k)))))) ?_
 obtain ⟨fs, hr, hrun, hended, hW, hsame⟩ := X0.leave (v := some (.int (nar .byte ((0 : Int32).toInt8.toInt32)))) (fun h => by rw [Bd.returns] at h; cases h)
 exact ⟨_, _, retN X0 hx (t := .byte) Bd.returns (by simp) (hb hby d14_8) hr, hrun, hended, _, _, rfl, (show Qrmcd_4 Z a3 k3 x0 x1 x2 x3 h0 n0 _ s₁.heap _ from (by rw [e0]; exact ⟨rfl, N0, rfl⟩)), ⟨_, rfl⟩, hW, hsame.mono (by decide) (by decide)⟩
theorem ef_rms3_4 (m : MethodId) (x0 : Addr) (x1 : Addr) (x2 : Int32) (x3 : Int32) : entryFrame m #[(.ref x0), (.ref x1), (.int x2), (.int x3), .null] 6 = mkF m 0 #[.val (.ref x0), .val (.ref x1), .val (.int x2), .val (.int x3), .val .null, .unset] [] := by first | (simp [entryFrame, mkF, argsToLocals, Value.category]; done) | rfl
def Qrms3_4 (Z : State) (a1 : Addr) (a2 : Addr) (k2 : ClassId) (c0 : Int32) (c1 : Int32) (c2 : Int32) (c3 : Int32) (cs : Int32) (h0 : Heap) (n0 : Nat) (v : Option Value) (h : Heap) (L : List Loc) : Prop := ∃ (b : Addr) (kb : ClassId), v = none ∧ Fr n0 L ∧ Keep h0 h [a1] ∧ (Fld Z h a1 "java/lang/String" "value" "[B" (.ref b)) ∧ (Fld Z h a1 "java/lang/String" "coder" "B" (.int (0 : Int32))) ∧ (Arv Z h b kb .byte (4 : Int32) [(.int (own_lt c0)), (.int (own_lt c1)), (.int (own_lt c2)), (.int (own_lt c3))] (.int (0 : Int32)))
set_option maxRecDepth 65536 in
set_option maxHeartbeats 40000000 in
theorem rms3_4 (l : Launch) (Z : State) (a0 : Array Value) (hw : ∀ d ∈ tables_1, d.before a0 Z = true) (ws : List Jvm.Cond) (a1 : Addr) (a2 : Addr) (k2 : ClassId) (c0 : Int32) (c1 : Int32) (c2 : Int32) (c3 : Int32) (cs : Int32) (h0 : Heap) (n0 : Nat) (Z0 : n0 ≤ h0.size) (O0 : Old Z n0 h0) (S_COMPACT_STRINGS : Sta Z Z.heap "java/lang/String" "COMPACT_STRINGS" "Z" (.int cs)) (hcs : ¬ (cs = (0 : Int32))) (E_a1 : Exa Z h0 a1 "java/lang/String") (Fld_a1_value : Fld Z h0 a1 "java/lang/String" "value" "[B" .null) (Fld_a1_coder : Fld Z h0 a1 "java/lang/String" "coder" "B" (.int (0 : Int32))) (g_a1 : n0 ≤ a1) (V_a2 : Arv Z h0 a2 k2 .char (4 : Int32) [(.int c0), (.int c1), (.int c2), (.int c3)] (.int (0 : Int32))) (hn0 : ¬ ((255 : Int32) < c0)) (hn1 : ¬ ((255 : Int32) < c1)) (hn2 : ¬ ((255 : Int32) < c2)) (hn3 : ¬ ((255 : Int32) < c3)) :
    MetFree l (⟨"java/lang/String", "<init>", "([CIILjava/lang/Void;)V"⟩ : MethodName) (head1 (Jvm.Cond.code (⟨"java/lang/String", "<init>", "([CIILjava/lang/Void;)V"⟩ : MethodName) jdk_42_method_149_code 6 none :: ws) ({ frames := 2, cells := 1, slots := 4, locals := 35 } : Room)) (fun a U => a = #[(.ref a1), (.ref a2), (.int (0 : Int32)), (.int (4 : Int32)), .null] ∧ Z.Warmed39 U.vm ∧ U.heap = h0) (fun _ _ _ _ _ => True) (fun _ U o U' => ∃ v L, o = .returned v ∧ Qrms3_4 Z a1 a2 k2 c0 c1 c2 c3 cs h0 n0 v U'.heap L ∧ FrameEnd U o U' L ({ frames := 2, cells := 1, slots := 4, locals := 35 } : Room).cells ({ frames := 2, cells := 1, slots := 4, locals := 35 } : Room).slots) := by
 refine MetFree.of_bodySF (plainFor_of_name pn_4) hisR ?_
 intro p e s m args below meth c s₁ Bd hml0 hP hK
 obtain ⟨rfl, hZ, hh⟩ := hP
 have hx := Bd.exec
 have hby := Bd.bytes
 have hml : c.maxLocals = 6 := hml0
 have hown : s.vm.findClass "java/lang/String" = some m.cls := findClass_of_methodNamed Bd.named
 have hnm := (name_of_methodNamed Bd.named Bd.method).1
 have X0 : Stand p l e ({ frames := 2, cells := 1, slots := 4, locals := 35 } : Room) s m #[(.ref a1), (.ref a2), (.int (0 : Int32)), (.int (4 : Int32)), .null] below meth c s₁ [] 0 0 := Stand.of_body Bd
 have e0 : s₁.heap = h0 := by rw [← hh, Bd.state]; rfl
 have N0 := Fr.nil n0
 refine own_go (b := (s₁.setTop (mkF m 0 #[.val (.ref a1), .val (.ref a2), .val (.int (0 : Int32)), .val (.int (4 : Int32)), .val .null, .unset] []))) (fun _ k => castTop (ef_rms3_4 m a1 a2 (0 : Int32) (4 : Int32)) k) ?_
 refine own_go (b := (s₁.setTop (mkF m 1 #[.val (.ref a1), .val (.ref a2), .val (.int (0 : Int32)), .val (.int (4 : Int32)), .val .null, .unset] [(.ref a1)]))) (fun _ k => XS.aloadN X0.here hx rfl (hb hby d4_0) rfl rfl k) ?_
 obtain ⟨T1, X1, e1, st1⟩ := initO X0 hx hZ hown (hw _ (List.mem_of_getElem? (i := 19) rfl)) (hw _ (List.mem_of_getElem? (i := 20) rfl)) (hw _ (List.mem_of_getElem? (i := 21) rfl)) e0 (g := (mkF m 1 #[.val (.ref a1), .val (.ref a2), .val (.int (0 : Int32)), .val (.int (4 : Int32)), .val .null, .unset] [(.ref a1)])) rfl (by rw [hml]; rfl) rfl (hb hby d4_1) (by decide) (W := 0) (by show 2 * 0 + _ ≤ _; exact Nat.le_of_eq rfl) (by decide)
 refine own_go (b := (T1.setTop (mkF m 27 #[.val (.ref a1), .val (.ref a2), .val (.int (0 : Int32)), .val (.int (4 : Int32)), .val .null, .unset] []))) (fun _ k => st1 _ (XS.iloadN X1.here hx rfl (hb hby d4_4) rfl (XS.ifYes X1.here hx rfl (pc0 := 5) (pc' := 27) rfl (hb hby d4_5) rfl ((if0 _ _).trans (feq (by decide : ¬ ((4 : Int32) = (0 : Int32)))).2) (by decide) (by decide) k))) ?_
 obtain ⟨T2, X2, e2, st2⟩ := getS2 X1 hx hZ hown (host := "") (Or.inl (hw _ (List.mem_of_getElem? (i := 59) rfl))) Via.refl e1 (S_COMPACT_STRINGS.ext O0.2) (g := (mkF m 27 #[.val (.ref a1), .val (.ref a2), .val (.int (0 : Int32)), .val (.int (4 : Int32)), .val .null, .unset] [])) rfl (hb hby d4_27)
 refine own_go (b := (T2.setTop (mkF m 36 #[.val (.ref a1), .val (.ref a2), .val (.int (0 : Int32)), .val (.int (4 : Int32)), .val .null, .unset] [(.int (4 : Int32)), (.int (0 : Int32)), (.ref a2)]))) (fun _ k => st2 _ (XS.ifNo X2.here hx rfl (hb hby d4_30) rfl ((if0 _ _).trans (feq hcs).1) (XS.aloadN X2.here hx rfl (hb hby d4_33) rfl rfl (XS.iloadN X2.here hx rfl (hb hby d4_34) rfl (XS.iloadN X2.here hx rfl (hb hby d4_35) rfl k))))) ?_
 refine own_stat (W := 0) X2 hx hZ hown e2 (hw _ (List.mem_of_getElem? (i := 76) rfl)) (hw _ (List.mem_of_getElem? (i := 77) rfl)) (rmc5_4 l Z a0 hw [] a2 k2 c0 c1 c2 c3 h0 n0 Z0 V_a2 hn0 hn1 hn2 hn3) (hw _ (List.mem_of_getElem? (i := 79) rfl)) (hw _ (List.mem_of_getElem? (i := 78) rfl)) rfl (by rw [hml]; rfl) rfl (hb hby d4_36) (lenOf pd___CII__B rfl) rfl (by decide) (fun T3 v3 Ll3 X3 hQ3 => ?_)
 obtain ⟨b_3, kb_3, rfl, N3q, K3, P3_0, P3_1⟩ := hQ3
 have N3 := Fr.app N0 N3q
 have Zs4 : n0 ≤ T3.heap.size := Nat.le_trans Z0 K3.1
 refine own_go (b := (T3.setTop (mkF m 45 #[.val (.ref a1), .val (.ref a2), .val (.int (0 : Int32)), .val (.int (4 : Int32)), .val .null, .val (.ref b_3)] [(.int (4 : Int32)), (.ref b_3), (.ref a1)]))) (fun _ k => XS.astore X3.here hx rfl (hb hby d4_39) rfl rfl (l' := #[.val (.ref a1), .val (.ref a2), .val (.int (0 : Int32)), .val (.int (4 : Int32)), .val .null, .val (.ref b_3)]) rfl (XS.aloadN X3.here hx rfl (hb hby d4_41) rfl rfl (XS.aload X3.here hx rfl (hb hby d4_42) rfl rfl (XS.iloadN X3.here hx rfl (hb hby d4_44) rfl k)))) ?_
 refine own_stat (W := 1) X3 hx hZ hown rfl (hw _ (List.mem_of_getElem? (i := 83) rfl)) (hw _ (List.mem_of_getElem? (i := 84) rfl)) (rmcd_4 l Z a0 hw [] b_3 kb_3 (own_lt c0) (own_lt c1) (own_lt c2) (own_lt c3) T3.heap n0 Zs4 P3_1) (hw _ (List.mem_of_getElem? (i := 85) rfl)) (hw _ (List.mem_of_getElem? (i := 78) rfl)) rfl (by rw [hml]; rfl) rfl (hb hby d4_45) (lenOf pd___BI_B rfl) rfl (by decide) (fun T5 v5 Ll5 X5 hQ5 => ?_)
 obtain ⟨rfl, N5q, eh5⟩ := hQ5
 have N5 := Fr.app N3 N5q
 have F6 := E_a1.keep K3
 have F7 := Fld_a1_coder.keep K3 nin0
 obtain ⟨T8, h8, X8, e8, W8, st8⟩ := putFN X5 hx hZ hown (hw _ (List.mem_of_getElem? (i := 29) rfl)) Via.refl eh5 F7 F6 (Or.inr ⟨(hw _ (List.mem_of_getElem? (i := 25) rfl)), rfl, hnm⟩) (hw _ (List.mem_of_getElem? (i := 9) rfl)) (ty := .byte) (v' := (.int (0 : Int32))) (by decide) rfl (by decide) (g := (mkF m 48 #[.val (.ref a1), .val (.ref a2), .val (.int (0 : Int32)), .val (.int (4 : Int32)), .val .null, .val (.ref b_3)] [(.int (0 : Int32)), (.ref a1)])) rfl rfl (hb hby d4_48)
 have N8 := Fr.snoc X8 N5 g_a1
 have Zs9 : n0 ≤ h8.size := Nat.le_trans Zs4 (Keep.of_wr W8).1
 have F8 : Fld Z h8 a1 "java/lang/String" "coder" "B" (.int (0 : Int32)) := F7.same W8
 refine own_go (b := (T8.setTop (mkF m 54 #[.val (.ref a1), .val (.ref a2), .val (.int (0 : Int32)), .val (.int (4 : Int32)), .val .null, .val (.ref b_3)] [(.ref b_3), (.ref a1)]))) (fun _ k => st8 _ (XS.aloadN X8.here hx rfl (hb hby d4_51) rfl rfl (XS.aload X8.here hx rfl (hb hby d4_52) rfl rfl k))) ?_
 have F10 := F6.wr W8
 have F11 := Fld_a1_value.keep K3 nin0
 have F12 := F11.other W8 (Or.inr (slot_ne (Or.inr (hw _ (List.mem_of_getElem? (i := 24) rfl))) (Or.inr (hw _ (List.mem_of_getElem? (i := 25) rfl))) (by decide) (t := (.array .byte)) (t' := .byte) (by decide) (by decide)))
 obtain ⟨T13, h13, X13, e13, W13, st13⟩ := putF X8 hx hZ hown (host := "") (Or.inl (hw _ (List.mem_of_getElem? (i := 28) rfl))) Via.refl e8 F12 F10 (Or.inr ⟨(hw _ (List.mem_of_getElem? (i := 24) rfl)), rfl, hnm⟩) (hw _ (List.mem_of_getElem? (i := 9) rfl)) (ty := (.array .byte)) (by decide) rfl rfl (g := (mkF m 54 #[.val (.ref a1), .val (.ref a2), .val (.int (0 : Int32)), .val (.int (4 : Int32)), .val .null, .val (.ref b_3)] [(.ref b_3), (.ref a1)])) rfl rfl (hb hby d4_54)
 have N13 := Fr.snoc X13 N8 g_a1
 have Zs14 : n0 ≤ h13.size := Nat.le_trans Zs9 (Keep.of_wr W13).1
 have F13 : Fld Z h13 a1 "java/lang/String" "value" "[B" (.ref b_3) := F12.same W13
 refine own_go (b := (T13.setTop (mkF m 57 #[.val (.ref a1), .val (.ref a2), .val (.int (0 : Int32)), .val (.int (4 : Int32)), .val .null, .val (.ref b_3)] []))) (fun _ k => st13 _ k) ?_
 have K15 := (Keep.refl h0 [a1]).trans K3 all0
 have K16 := K15.wr W8 (Or.inl (List.mem_of_getElem? (i := 0) rfl))
 have K17 := K16.wr W13 (Or.inl (List.mem_of_getElem? (i := 0) rfl))
 have F18 := F8.other W13 (Or.inr (slot_ne (Or.inr (hw _ (List.mem_of_getElem? (i := 25) rfl))) (Or.inr (hw _ (List.mem_of_getElem? (i := 24) rfl))) (by decide) (t := .byte) (t' := (.array .byte)) (by decide) (by decide)))
 have nx19 : b_3 ≠ a1 := (Ne.symm (own_ne E_a1.lt (Nat.le_refl _) P3_0))
 have F20 := P3_1.other W8 nx19
 have F21 := F20.other W13 nx19
 obtain ⟨fs, hr, hrun, hended, hW, hsame⟩ := X13.leave (v := none) (fun _ => rfl)
 exact ⟨_, _, X13.returnOut hx Bd.returns (hb hby d4_57) hr, hrun, hended, _, _, rfl, (show Qrms3_4 Z a1 a2 k2 c0 c1 c2 c3 cs h0 n0 _ T13.heap _ from (by rw [e13]; exact ⟨b_3, kb_3, rfl, N13, K17, F13, F18, F21⟩)), ⟨_, rfl⟩, hW, hsame.mono (by decide) (by decide)⟩
theorem ef_rms2_4 (m : MethodId) (x0 : Addr) (x1 : Addr) : entryFrame m #[(.ref x0), (.ref x1)] 2 = mkF m 0 #[.val (.ref x0), .val (.ref x1)] [] := by first | (simp [entryFrame, mkF, argsToLocals, Value.category]; done) | rfl
def Qrms2_4 (Z : State) (a1 : Addr) (a2 : Addr) (k2 : ClassId) (c0 : Int32) (c1 : Int32) (c2 : Int32) (c3 : Int32) (cs : Int32) (h0 : Heap) (n0 : Nat) (v : Option Value) (h : Heap) (L : List Loc) : Prop := ∃ (b : Addr) (kb : ClassId), v = none ∧ Fr n0 L ∧ Keep h0 h [a1] ∧ (Fld Z h a1 "java/lang/String" "value" "[B" (.ref b)) ∧ (Fld Z h a1 "java/lang/String" "coder" "B" (.int (0 : Int32))) ∧ (Arv Z h b kb .byte (4 : Int32) [(.int (own_lt c0)), (.int (own_lt c1)), (.int (own_lt c2)), (.int (own_lt c3))] (.int (0 : Int32)))
set_option maxRecDepth 65536 in
set_option maxHeartbeats 40000000 in
theorem rms2_4 (l : Launch) (Z : State) (a0 : Array Value) (hw : ∀ d ∈ tables_1, d.before a0 Z = true) (ws : List Jvm.Cond) (a1 : Addr) (a2 : Addr) (k2 : ClassId) (c0 : Int32) (c1 : Int32) (c2 : Int32) (c3 : Int32) (cs : Int32) (h0 : Heap) (n0 : Nat) (Z0 : n0 ≤ h0.size) (O0 : Old Z n0 h0) (S_COMPACT_STRINGS : Sta Z Z.heap "java/lang/String" "COMPACT_STRINGS" "Z" (.int cs)) (hcs : ¬ (cs = (0 : Int32))) (E_a1 : Exa Z h0 a1 "java/lang/String") (Fld_a1_value : Fld Z h0 a1 "java/lang/String" "value" "[B" .null) (Fld_a1_coder : Fld Z h0 a1 "java/lang/String" "coder" "B" (.int (0 : Int32))) (g_a1 : n0 ≤ a1) (V_a2 : Arv Z h0 a2 k2 .char (4 : Int32) [(.int c0), (.int c1), (.int c2), (.int c3)] (.int (0 : Int32))) (hn0 : ¬ ((255 : Int32) < c0)) (hn1 : ¬ ((255 : Int32) < c1)) (hn2 : ¬ ((255 : Int32) < c2)) (hn3 : ¬ ((255 : Int32) < c3)) :
    MetFree l (⟨"java/lang/String", "<init>", "([C)V"⟩ : MethodName) (head1 (Jvm.Cond.code (⟨"java/lang/String", "<init>", "([C)V"⟩ : MethodName) jdk_42_method_3_code 2 none :: ws) ({ frames := 3, cells := 1, slots := 4, locals := 52 } : Room)) (fun a U => a = #[(.ref a1), (.ref a2)] ∧ Z.Warmed39 U.vm ∧ U.heap = h0) (fun _ _ _ _ _ => True) (fun _ U o U' => ∃ v L, o = .returned v ∧ Qrms2_4 Z a1 a2 k2 c0 c1 c2 c3 cs h0 n0 v U'.heap L ∧ FrameEnd U o U' L ({ frames := 3, cells := 1, slots := 4, locals := 52 } : Room).cells ({ frames := 3, cells := 1, slots := 4, locals := 52 } : Room).slots) := by
 refine MetFree.of_bodySF (plainFor_of_name pn_3) hisR ?_
 intro p e s m args below meth c s₁ Bd hml0 hP hK
 obtain ⟨rfl, hZ, hh⟩ := hP
 have hx := Bd.exec
 have hby := Bd.bytes
 have hml : c.maxLocals = 2 := hml0
 have hown : s.vm.findClass "java/lang/String" = some m.cls := findClass_of_methodNamed Bd.named
 have hnm := (name_of_methodNamed Bd.named Bd.method).1
 have X0 : Stand p l e ({ frames := 3, cells := 1, slots := 4, locals := 52 } : Room) s m #[(.ref a1), (.ref a2)] below meth c s₁ [] 0 0 := Stand.of_body Bd
 have e0 : s₁.heap = h0 := by rw [← hh, Bd.state]; rfl
 have N0 := Fr.nil n0
 refine own_go (b := (s₁.setTop (mkF m 0 #[.val (.ref a1), .val (.ref a2)] []))) (fun _ k => castTop (ef_rms2_4 m a1 a2) k) ?_
 refine own_go (b := (s₁.setTop (mkF m 4 #[.val (.ref a1), .val (.ref a2)] [(.ref a2), (.int (0 : Int32)), (.ref a2), (.ref a1)]))) (fun _ k => XS.aloadN X0.here hx rfl (hb hby d3_0) rfl rfl (XS.aloadN X0.here hx rfl (hb hby d3_1) rfl rfl (XS.iconst X0.here hx rfl (hb hby d3_2) (XS.aloadN X0.here hx rfl (hb hby d3_3) rfl rfl k)))) ?_
 obtain ⟨cl1, Ar1, -, Sz1, Nn1, -, -⟩ := id V_a2
 refine own_go (b := (s₁.setTop (mkF m 6 #[.val (.ref a1), .val (.ref a2)] [.null, (.int (4 : Int32)), (.int (0 : Int32)), (.ref a2), (.ref a1)]))) (fun _ k => X0.arraylength hx (by rw [e0]; exact Ar1.1) (State.isArrayOf_alike hZ.alike Ar1.2.1) (g := (mkF m 4 #[.val (.ref a1), .val (.ref a2)] [(.ref a2), (.int (0 : Int32)), (.ref a2), (.ref a1)])) rfl rfl (hb hby d3_4) _ (by rw [len_of Sz1 Nn1]; exact (XS.aconstNull X0.here hx rfl (hb hby d3_5) k))) ?_
 refine own_spec (W := 0) X0 hx hZ hown e0 (hw _ (List.mem_of_getElem? (i := 15) rfl)) (hw _ (List.mem_of_getElem? (i := 16) rfl)) (rms3_4 l Z a0 hw [] a1 a2 k2 c0 c1 c2 c3 cs h0 n0 Z0 O0 S_COMPACT_STRINGS hcs E_a1 Fld_a1_value Fld_a1_coder g_a1 V_a2 hn0 hn1 hn2 hn3) (hw _ (List.mem_of_getElem? (i := 18) rfl)) (hw _ (List.mem_of_getElem? (i := 10) rfl)) rfl (by rw [hml]; rfl) rfl (hb hby d3_6) (lenOf pd___CIILjava_lang_Void__V rfl) rfl rfl (by decide) (fun T2 v2 Ll2 X2 hQ2 => ?_)
 obtain ⟨b_2, kb_2, rfl, N2q, K2, P2_0, P2_1, P2_2⟩ := hQ2
 have N2 := Fr.app N0 N2q
 have Zs3 : n0 ≤ T2.heap.size := Nat.le_trans Z0 K2.1
 have K4 := (Keep.refl h0 [a1]).trans K2 (allS (Or.inl (List.mem_of_getElem? (i := 0) rfl)) all0)
 obtain ⟨fs, hr, hrun, hended, hW, hsame⟩ := X2.leave (v := none) (fun _ => rfl)
 exact ⟨_, _, X2.returnOut hx Bd.returns (hb hby d3_9) hr, hrun, hended, _, _, rfl, (show Qrms2_4 Z a1 a2 k2 c0 c1 c2 c3 cs h0 n0 _ T2.heap _ from (by exact ⟨b_2, kb_2, rfl, N2, K4, P2_0, P2_1, P2_2⟩)), ⟨_, rfl⟩, hW, hsame.mono (by decide) (by decide)⟩
theorem ef_rmmk_4 (m : MethodId) (x0 : Int32) (x1 : Int32) (x2 : Int32) (x3 : Int32) (x4 : Int32) : entryFrame m #[(.int x0), (.int x1), (.int x2), (.int x3), (.int x4)] 5 = mkF m 0 #[.val (.int x0), .val (.int x1), .val (.int x2), .val (.int x3), .val (.int x4)] [] := by first | (simp [entryFrame, mkF, argsToLocals, Value.category]; done) | rfl
def Qrmmk_4 (Z : State) (c0 : Int32) (c1 : Int32) (c2 : Int32) (c3 : Int32) (cs : Int32) (h0 : Heap) (n0 : Nat) (v : Option Value) (h : Heap) (L : List Loc) : Prop := ∃ (a : Addr) (b : Addr) (kb : ClassId), v = some (.ref a) ∧ Fr n0 L ∧ Keep h0 h [] ∧ (h0.size ≤ a) ∧ (Exa Z h a "java/lang/String") ∧ (Fld Z h a "java/lang/String" "value" "[B" (.ref b)) ∧ (Fld Z h a "java/lang/String" "coder" "B" (.int (0 : Int32))) ∧ (Arv Z h b kb .byte (4 : Int32) [(.int (own_lt (nar .char c0))), (.int (own_lt (nar .char c1))), (.int (own_lt (nar .char c2))), (.int (own_lt (nar .char c3)))] (.int (0 : Int32)))
set_option maxRecDepth 65536 in
set_option maxHeartbeats 40000000 in
theorem rmmk_4 (l : Launch) (Z : State) (a0 : Array Value) (hw : ∀ d ∈ tables_1, d.before a0 Z = true) (ws : List Jvm.Cond) (c0 : Int32) (c1 : Int32) (c2 : Int32) (c3 : Int32) (cs : Int32) (h0 : Heap) (n0 : Nat) (Z0 : n0 ≤ h0.size) (O0 : Old Z n0 h0) (S_COMPACT_STRINGS : Sta Z Z.heap "java/lang/String" "COMPACT_STRINGS" "Z" (.int cs)) (hcs : ¬ (cs = (0 : Int32))) (hl0 : own_lat c0) (hl1 : own_lat c1) (hl2 : own_lat c2) (hl3 : own_lat c3) :
    MetFree l (⟨"com/example/keyclasp/keyclasp/protocol/ProtocolVersionOfPinLaw", "make", "(ICCCC)Ljava/lang/String;"⟩ : MethodName) (head1 (Jvm.Cond.code (⟨"com/example/keyclasp/keyclasp/protocol/ProtocolVersionOfPinLaw", "make", "(ICCCC)Ljava/lang/String;"⟩ : MethodName) method_3_code 5 (some (.object "java/lang/String")) :: ws) ({ frames := 4, cells := 3, slots := 12, locals := 66 } : Room)) (fun a U => a = #[(.int (4 : Int32)), (.int c0), (.int c1), (.int c2), (.int c3)] ∧ Z.Warmed39 U.vm ∧ U.heap = h0) (fun _ _ _ _ _ => True) (fun _ U o U' => ∃ v L, o = .returned v ∧ Qrmmk_4 Z c0 c1 c2 c3 cs h0 n0 v U'.heap L ∧ FrameEnd U o U' L ({ frames := 4, cells := 3, slots := 12, locals := 66 } : Room).cells ({ frames := 4, cells := 3, slots := 12, locals := 66 } : Room).slots) := by
 refine MetFree.of_bodySF (plainFor_of_name pn_2) hisR ?_
 intro p e s m args below meth c s₁ Bd hml0 hP hK
 obtain ⟨rfl, hZ, hh⟩ := hP
 have hx := Bd.exec
 have hby := Bd.bytes
 have hml : c.maxLocals = 5 := hml0
 have hown : s.vm.findClass "com/example/keyclasp/keyclasp/protocol/ProtocolVersionOfPinLaw" = some m.cls := findClass_of_methodNamed Bd.named
 have hnm := (name_of_methodNamed Bd.named Bd.method).1
 have X0 : Stand p l e ({ frames := 4, cells := 3, slots := 12, locals := 66 } : Room) s m #[(.int (4 : Int32)), (.int c0), (.int c1), (.int c2), (.int c3)] below meth c s₁ [] 0 0 := Stand.of_body Bd
 have e0 : s₁.heap = h0 := by rw [← hh, Bd.state]; rfl
 have N0 := Fr.nil n0
 refine own_go (b := (s₁.setTop (mkF m 0 #[.val (.int (4 : Int32)), .val (.int c0), .val (.int c1), .val (.int c2), .val (.int c3)] []))) (fun _ k => castTop (ef_rmmk_4 m (4 : Int32) c0 c1 c2 c3) k) ?_
 refine own_go (b := (s₁.setTop (mkF m 87 #[.val (.int (4 : Int32)), .val (.int c0), .val (.int c1), .val (.int c2), .val (.int c3)] []))) (fun _ k => XS.iloadN X0.here hx rfl (hb hby d2_0) rfl (XS.ifYes X0.here hx rfl (pc0 := 1) (pc' := 15) rfl (hb hby d2_1) rfl ((if0 _ _).trans (feq (by decide : ¬ ((4 : Int32) = (0 : Int32)))).2) (by decide) (by decide) (XS.iloadN X0.here hx rfl (hb hby d2_15) rfl (XS.iconst X0.here hx rfl (hb hby d2_16) (XS.icmpYes X0.here hx rfl (pc0 := 17) (pc' := 35) rfl (hb hby d2_17) rfl (feq (by decide : ¬ ((4 : Int32) = (1 : Int32)))).2 (by decide) (by decide) (XS.iloadN X0.here hx rfl (hb hby d2_35) rfl (XS.iconst X0.here hx rfl (hb hby d2_36) (XS.icmpYes X0.here hx rfl (pc0 := 37) (pc' := 59) rfl (hb hby d2_37) rfl (feq (by decide : ¬ ((4 : Int32) = (2 : Int32)))).2 (by decide) (by decide) (XS.iloadN X0.here hx rfl (hb hby d2_59) rfl (XS.iconst X0.here hx rfl (hb hby d2_60) (XS.icmpYes X0.here hx rfl (pc0 := 61) (pc' := 87) rfl (hb hby d2_61) rfl (feq (by decide : ¬ ((4 : Int32) = (3 : Int32)))).2 (by decide) (by decide) k))))))))))) ?_
 obtain ⟨T1, h1, X1, e1, E1, A1, D1, Un1, st1⟩ := newO X0 hx hZ hown (hw _ (List.mem_of_getElem? (i := 8) rfl)) (hw _ (List.mem_of_getElem? (i := 9) rfl)) (hw _ (List.mem_of_getElem? (i := 10) rfl)) e0 (g := (mkF m 87 #[.val (.int (4 : Int32)), .val (.int c0), .val (.int c1), .val (.int c2), .val (.int c3)] [])) rfl (hb hby d2_87) (by decide) (by decide)
 obtain ⟨b1, g1⟩ : ∃ z, z = h0.size := ⟨_, rfl⟩
 rw [← g1] at A1 D1 Un1 st1
 have Zs2 : n0 ≤ h1.size := Nat.le_trans Z0 E1.1
 have F1_value : Fld Z h1 b1 "java/lang/String" "value" "[B" .null := D1 (Or.inr (hw _ (List.mem_of_getElem? (i := 24) rfl))) (ty := (.array .byte)) (by decide)
 have F1_coder : Fld Z h1 b1 "java/lang/String" "coder" "B" (.int (0 : Int32)) := D1 (Or.inr (hw _ (List.mem_of_getElem? (i := 25) rfl))) (ty := .byte) (by decide)
 refine own_go (b := (T1.setTop (mkF m 92 #[.val (.int (4 : Int32)), .val (.int c0), .val (.int c1), .val (.int c2), .val (.int c3)] [(.int (4 : Int32)), (.ref b1), (.ref b1)]))) (fun _ k => st1 _ (XS.dup X1.here hx rfl (hb hby d2_90) rfl rfl (XS.iconst X1.here hx rfl (hb hby d2_91) k))) ?_
 obtain ⟨T3, h3, kl3, X3, e3, E3, A3, st3⟩ := newP X1 hx hZ (hw _ (List.mem_of_getElem? (i := 11) rfl)) e1 (g := (mkF m 92 #[.val (.int (4 : Int32)), .val (.int c0), .val (.int c1), .val (.int c2), .val (.int c3)] [(.int (4 : Int32)), (.ref b1), (.ref b1)])) rfl (hb hby d2_92) rfl (by decide) (cap := 4) (by decide) (by decide) (by decide) (by decide)
 obtain ⟨b3, g3⟩ : ∃ z, z = h1.size := ⟨_, rfl⟩
 rw [← g3] at A3 st3
 have Zs4 : n0 ≤ h3.size := Nat.le_trans Zs2 E3.1
 have V3 : Arv Z h3 b3 kl3 .char (4 : Int32) [(.int (0 : Int32)), (.int (0 : Int32)), (.int (0 : Int32)), (.int (0 : Int32))] (.int (0 : Int32)) := (Arv.new A3 (by decide)).pad (pad_rep [] (.int (0 : Int32)) 4)
 refine own_go (b := (T3.setTop (mkF m 97 #[.val (.int (4 : Int32)), .val (.int c0), .val (.int c1), .val (.int c2), .val (.int c3)] [(.int c0), (.int (0 : Int32)), (.ref b3), (.ref b3), (.ref b1), (.ref b1)]))) (fun _ k => st3 _ (XS.dup X3.here hx rfl (hb hby d2_94) rfl rfl (XS.iconst X3.here hx rfl (hb hby d2_95) (XS.iloadN X3.here hx rfl (hb hby d2_96) rfl k)))) ?_
 obtain ⟨cl5, Ar5, ql5, Sz5, Nn5, Hl5, Gl5⟩ := id V3
 have hin5 : ¬ ((0 : Int32) < 0 ∨ cl5.slots.size ≤ ((0 : Int32)).toNatClampNeg) := inb_of Sz5 ⟨by decide, by decide⟩
 obtain ⟨T5, h5, X5, e5, W5, st5⟩ := stC X3 hx hZ e3 Ar5 (j := (0 : Int32)) hin5 (g := (mkF m 97 #[.val (.int (4 : Int32)), .val (.int c0), .val (.int c1), .val (.int c2), .val (.int c3)] [(.int c0), (.int (0 : Int32)), (.ref b3), (.ref b3), (.ref b1), (.ref b1)])) rfl rfl (hb hby d2_97)
 have gx6 : n0 ≤ b3 := Nat.le_trans Zs2 (Nat.le_of_eq g3.symm)
 have N5 := Fr.snoc X5 N0 gx6
 have Zs7 : n0 ≤ h5.size := Nat.le_trans Zs4 (Keep.of_wr W5).1
 have V5 : Arv Z h5 b3 kl3 .char (4 : Int32) [(.int (nar .char c0)), (.int (0 : Int32)), (.int (0 : Int32)), (.int (0 : Int32))] (.int (0 : Int32)) := Arv.set Ar5 ql5 Sz5 Nn5 Hl5 Gl5 (fits_nar_char _) W5 0 rfl (Nat.le_of_ble_eq_true rfl)
 refine own_go (b := (T5.setTop (mkF m 101 #[.val (.int (4 : Int32)), .val (.int c0), .val (.int c1), .val (.int c2), .val (.int c3)] [(.int c1), (.int (1 : Int32)), (.ref b3), (.ref b3), (.ref b1), (.ref b1)]))) (fun _ k => st5 _ (XS.dup X5.here hx rfl (hb hby d2_98) rfl rfl (XS.iconst X5.here hx rfl (hb hby d2_99) (XS.iloadN X5.here hx rfl (hb hby d2_100) rfl k)))) ?_
 obtain ⟨cl8, Ar8, ql8, Sz8, Nn8, Hl8, Gl8⟩ := id V5
 have hin8 : ¬ ((1 : Int32) < 0 ∨ cl8.slots.size ≤ ((1 : Int32)).toNatClampNeg) := inb_of Sz8 ⟨by decide, by decide⟩
 obtain ⟨T8, h8, X8, e8, W8, st8⟩ := stC X5 hx hZ e5 Ar8 (j := (1 : Int32)) hin8 (g := (mkF m 101 #[.val (.int (4 : Int32)), .val (.int c0), .val (.int c1), .val (.int c2), .val (.int c3)] [(.int c1), (.int (1 : Int32)), (.ref b3), (.ref b3), (.ref b1), (.ref b1)])) rfl rfl (hb hby d2_101)
 have N8 := Fr.snoc X8 N5 gx6
 have Zs9 : n0 ≤ h8.size := Nat.le_trans Zs7 (Keep.of_wr W8).1
 have V8 : Arv Z h8 b3 kl3 .char (4 : Int32) [(.int (nar .char c0)), (.int (nar .char c1)), (.int (0 : Int32)), (.int (0 : Int32))] (.int (0 : Int32)) := Arv.set Ar8 ql8 Sz8 Nn8 Hl8 Gl8 (fits_nar_char _) W8 1 rfl (Nat.le_of_ble_eq_true rfl)
 refine own_go (b := (T8.setTop (mkF m 105 #[.val (.int (4 : Int32)), .val (.int c0), .val (.int c1), .val (.int c2), .val (.int c3)] [(.int c2), (.int (2 : Int32)), (.ref b3), (.ref b3), (.ref b1), (.ref b1)]))) (fun _ k => st8 _ (XS.dup X8.here hx rfl (hb hby d2_102) rfl rfl (XS.iconst X8.here hx rfl (hb hby d2_103) (XS.iloadN X8.here hx rfl (hb hby d2_104) rfl k)))) ?_
 obtain ⟨cl10, Ar10, ql10, Sz10, Nn10, Hl10, Gl10⟩ := id V8
 have hin10 : ¬ ((2 : Int32) < 0 ∨ cl10.slots.size ≤ ((2 : Int32)).toNatClampNeg) := inb_of Sz10 ⟨by decide, by decide⟩
 obtain ⟨T10, h10, X10, e10, W10, st10⟩ := stC X8 hx hZ e8 Ar10 (j := (2 : Int32)) hin10 (g := (mkF m 105 #[.val (.int (4 : Int32)), .val (.int c0), .val (.int c1), .val (.int c2), .val (.int c3)] [(.int c2), (.int (2 : Int32)), (.ref b3), (.ref b3), (.ref b1), (.ref b1)])) rfl rfl (hb hby d2_105)
 have N10 := Fr.snoc X10 N8 gx6
 have Zs11 : n0 ≤ h10.size := Nat.le_trans Zs9 (Keep.of_wr W10).1
 have V10 : Arv Z h10 b3 kl3 .char (4 : Int32) [(.int (nar .char c0)), (.int (nar .char c1)), (.int (nar .char c2)), (.int (0 : Int32))] (.int (0 : Int32)) := Arv.set Ar10 ql10 Sz10 Nn10 Hl10 Gl10 (fits_nar_char _) W10 2 rfl (Nat.le_of_ble_eq_true rfl)
 refine own_go (b := (T10.setTop (mkF m 110 #[.val (.int (4 : Int32)), .val (.int c0), .val (.int c1), .val (.int c2), .val (.int c3)] [(.int c3), (.int (3 : Int32)), (.ref b3), (.ref b3), (.ref b1), (.ref b1)]))) (fun _ k => st10 _ (XS.dup X10.here hx rfl (hb hby d2_106) rfl rfl (XS.iconst X10.here hx rfl (hb hby d2_107) (XS.iload X10.here hx rfl (hb hby d2_108) rfl k)))) ?_
 obtain ⟨cl12, Ar12, ql12, Sz12, Nn12, Hl12, Gl12⟩ := id V10
 have hin12 : ¬ ((3 : Int32) < 0 ∨ cl12.slots.size ≤ ((3 : Int32)).toNatClampNeg) := inb_of Sz12 ⟨by decide, by decide⟩
 obtain ⟨T12, h12, X12, e12, W12, st12⟩ := stC X10 hx hZ e10 Ar12 (j := (3 : Int32)) hin12 (g := (mkF m 110 #[.val (.int (4 : Int32)), .val (.int c0), .val (.int c1), .val (.int c2), .val (.int c3)] [(.int c3), (.int (3 : Int32)), (.ref b3), (.ref b3), (.ref b1), (.ref b1)])) rfl rfl (hb hby d2_110)
 have N12 := Fr.snoc X12 N10 gx6
 have Zs13 : n0 ≤ h12.size := Nat.le_trans Zs11 (Keep.of_wr W12).1
 have V12 : Arv Z h12 b3 kl3 .char (4 : Int32) [(.int (nar .char c0)), (.int (nar .char c1)), (.int (nar .char c2)), (.int (nar .char c3))] (.int (0 : Int32)) := Arv.set Ar12 ql12 Sz12 Nn12 Hl12 Gl12 (fits_nar_char _) W12 3 rfl (Nat.le_of_ble_eq_true rfl)
 refine own_go (b := (T12.setTop (mkF m 111 #[.val (.int (4 : Int32)), .val (.int c0), .val (.int c1), .val (.int c2), .val (.int c3)] [(.ref b3), (.ref b1), (.ref b1)]))) (fun _ k => st12 _ k) ?_
 have O15 := O0.ext E1
 have O16 := O15.ext E3
 have O17 := O16.wr W5 gx6
 have O18 := O17.wr W8 gx6
 have O19 := O18.wr W10 gx6
 have O20 := O19.wr W12 gx6
 have F21 := A1.ext E3
 have F22 := F21.wr W5
 have F23 := F22.wr W8
 have F24 := F23.wr W10
 have F25 := F24.wr W12
 have F26 := F1_value.ext E3
 have nx27 : b1 ≠ b3 := (own_ne A1.lt (Nat.le_refl _) (Nat.le_of_eq g3.symm))
 have F28 := F26.other W5 (Or.inl nx27)
 have F29 := F28.other W8 (Or.inl nx27)
 have F30 := F29.other W10 (Or.inl nx27)
 have F31 := F30.other W12 (Or.inl nx27)
 have F32 := F1_coder.ext E3
 have F33 := F32.other W5 (Or.inl nx27)
 have F34 := F33.other W8 (Or.inl nx27)
 have F35 := F34.other W10 (Or.inl nx27)
 have F36 := F35.other W12 (Or.inl nx27)
 have gx37 : n0 ≤ b1 := Nat.le_trans Z0 (Nat.le_of_eq g1.symm)
 refine own_spec (W := 1) X12 hx hZ hown e12 (hw _ (List.mem_of_getElem? (i := 12) rfl)) (hw _ (List.mem_of_getElem? (i := 13) rfl)) (rms2_4 l Z a0 hw [] b1 b3 kl3 (nar .char c0) (nar .char c1) (nar .char c2) (nar .char c3) cs h12 n0 Zs13 O20 S_COMPACT_STRINGS hcs F25 F31 F36 gx37 V12 (own_n255 hl0) (own_n255 hl1) (own_n255 hl2) (own_n255 hl3)) (hw _ (List.mem_of_getElem? (i := 14) rfl)) (hw _ (List.mem_of_getElem? (i := 10) rfl)) rfl (by rw [hml]; rfl) rfl (hb hby d2_111) (lenOf pd___C_V rfl) rfl rfl (by decide) (fun T14 v14 Ll14 X14 hQ14 => ?_)
 obtain ⟨b_14, kb_14, rfl, N14q, K14, P14_0, P14_1, P14_2⟩ := hQ14
 have N14 := Fr.app N12 N14q
 have Zs38 : n0 ≤ T14.heap.size := Nat.le_trans Zs13 K14.1
 have K39 := (Keep.refl h0 []).ext E1
 have K40 := K39.ext E3
 have K41 := K40.wr W5 (Or.inr (Nat.le_trans E1.1 (Nat.le_of_eq g3.symm)))
 have K42 := K41.wr W8 (Or.inr (Nat.le_trans E1.1 (Nat.le_of_eq g3.symm)))
 have K43 := K42.wr W10 (Or.inr (Nat.le_trans E1.1 (Nat.le_of_eq g3.symm)))
 have K44 := K43.wr W12 (Or.inr (Nat.le_trans E1.1 (Nat.le_of_eq g3.symm)))
 have K45 := K44.trans K14 (allS (Or.inr (Nat.le_trans (Nat.le_refl _) (Nat.le_of_eq g1.symm))) all0)
 have F46 := F25.keep K14
 obtain ⟨fs, hr, hrun, hended, hW, hsame⟩ := X14.leave (v := some (.ref b1)) (fun h => by rw [Bd.returns] at h; cases h)
 exact ⟨_, _, retOut X14 hx Bd.returns rfl (Or.inr (Or.inr (Or.inr (Or.inr ⟨rfl, rfl, rfl⟩)))) (hb hby d2_114) hr, hrun, hended, _, _, rfl, (show Qrmmk_4 Z c0 c1 c2 c3 cs h0 n0 _ T14.heap _ from (by exact ⟨b1, b_14, kb_14, rfl, N14, K45, (Nat.le_trans (Nat.le_refl _) (Nat.le_of_eq g1.symm)), F46, P14_0, P14_1, P14_2⟩)), ⟨_, rfl⟩, hW, hsame.mono (by decide) (by decide)⟩
theorem d9_0 : decode jdk_43_method_13_code 0 = .ok (.aload_n 0, 1) := by decide +kernel
theorem d9_1 : decode jdk_43_method_13_code 1 = .ok (.arraylength, 1) := by decide +kernel
theorem d9_2 : decode jdk_43_method_13_code 2 = .ok (.aload_n 1, 1) := by decide +kernel
theorem d9_3 : decode jdk_43_method_13_code 3 = .ok (.arraylength, 1) := by decide +kernel
theorem d9_4 : decode jdk_43_method_13_code 4 = .ok (.if_icmp .ne 30, 3) := by decide +kernel
theorem d9_7 : decode jdk_43_method_13_code 7 = .ok (.iconst 0, 1) := by decide +kernel
theorem d9_8 : decode jdk_43_method_13_code 8 = .ok (.istore_n 2, 1) := by decide +kernel
theorem d9_9 : decode jdk_43_method_13_code 9 = .ok (.iload_n 2, 1) := by decide +kernel
theorem d9_10 : decode jdk_43_method_13_code 10 = .ok (.aload_n 0, 1) := by decide +kernel
theorem d9_11 : decode jdk_43_method_13_code 11 = .ok (.arraylength, 1) := by decide +kernel
theorem d9_12 : decode jdk_43_method_13_code 12 = .ok (.if_icmp .ge 20, 3) := by decide +kernel
theorem d9_15 : decode jdk_43_method_13_code 15 = .ok (.aload_n 0, 1) := by decide +kernel
theorem d9_16 : decode jdk_43_method_13_code 16 = .ok (.iload_n 2, 1) := by decide +kernel
theorem d9_17 : decode jdk_43_method_13_code 17 = .ok (.baload, 1) := by decide +kernel
theorem d9_18 : decode jdk_43_method_13_code 18 = .ok (.aload_n 1, 1) := by decide +kernel
theorem d9_19 : decode jdk_43_method_13_code 19 = .ok (.iload_n 2, 1) := by decide +kernel
theorem d9_20 : decode jdk_43_method_13_code 20 = .ok (.baload, 1) := by decide +kernel
theorem d9_21 : decode jdk_43_method_13_code 21 = .ok (.if_icmp .eq 5, 3) := by decide +kernel
theorem d9_24 : decode jdk_43_method_13_code 24 = .ok (.iconst 0, 1) := by decide +kernel
theorem d9_25 : decode jdk_43_method_13_code 25 = .ok (.ireturn, 1) := by decide +kernel
theorem d9_26 : decode jdk_43_method_13_code 26 = .ok (.iinc 2 1, 3) := by decide +kernel
theorem d9_29 : decode jdk_43_method_13_code 29 = .ok (.goto (-20), 3) := by decide +kernel
theorem d9_32 : decode jdk_43_method_13_code 32 = .ok (.iconst 1, 1) := by decide +kernel
theorem d9_33 : decode jdk_43_method_13_code 33 = .ok (.ireturn, 1) := by decide +kernel
theorem d9_34 : decode jdk_43_method_13_code 34 = .ok (.iconst 0, 1) := by decide +kernel
theorem d9_35 : decode jdk_43_method_13_code 35 = .ok (.ireturn, 1) := by decide +kernel
theorem pn_9 : plainName "java/lang/StringLatin1" = true := by first | (simp [plainName, overriddenIn]; done) | decide +kernel
theorem ef_rmslN0 (m : MethodId) (x0 : Addr) (x1 : Addr) : entryFrame m #[(.ref x0), (.ref x1)] 3 = mkF m 0 #[.val (.ref x0), .val (.ref x1), .unset] [] := by first | (simp [entryFrame, mkF, argsToLocals, Value.category]; done) | rfl
def QrmslN0 (Z : State) (u1 : Addr) (u2 : Addr) (ku : ClassId) (kv : ClassId) (y0 : Int32) (y1 : Int32) (y2 : Int32) (h0 : Heap) (n0 : Nat) (v : Option Value) (h : Heap) (L : List Loc) : Prop := v = some (.int (0 : Int32)) ∧ Fr n0 L ∧ h = h0
set_option maxRecDepth 65536 in
set_option maxHeartbeats 40000000 in
theorem rmslN0 (l : Launch) (Z : State) (a0 : Array Value) (hw : ∀ d ∈ tables_1, d.before a0 Z = true) (ws : List Jvm.Cond) (u1 : Addr) (u2 : Addr) (ku : ClassId) (kv : ClassId) (y0 : Int32) (y1 : Int32) (y2 : Int32) (h0 : Heap) (n0 : Nat) (Z0 : n0 ≤ h0.size) (V_u1 : Arv Z h0 u1 ku .byte (3 : Int32) [(.int y0), (.int y1), (.int y2)] (.int (0 : Int32))) (V_u2 : Arv Z h0 u2 kv .byte (0 : Int32) [] (.int (0 : Int32))) :
    MetFree l (⟨"java/lang/StringLatin1", "equals", "([B[B)Z"⟩ : MethodName) (head1 (Jvm.Cond.code (⟨"java/lang/StringLatin1", "equals", "([B[B)Z"⟩ : MethodName) jdk_43_method_13_code 3 (some .boolean) :: ws) ({ frames := 0, cells := 0, slots := 0, locals := 0 } : Room)) (fun a U => a = #[(.ref u1), (.ref u2)] ∧ Z.Warmed39 U.vm ∧ U.heap = h0) (fun _ _ _ _ _ => True) (fun _ U o U' => ∃ v L, o = .returned v ∧ QrmslN0 Z u1 u2 ku kv y0 y1 y2 h0 n0 v U'.heap L ∧ FrameEnd U o U' L ({ frames := 0, cells := 0, slots := 0, locals := 0 } : Room).cells ({ frames := 0, cells := 0, slots := 0, locals := 0 } : Room).slots) := by
 refine MetFree.of_bodySF (plainFor_of_name pn_9) hisR ?_
 intro p e s m args below meth c s₁ Bd hml0 hP hK
 obtain ⟨rfl, hZ, hh⟩ := hP
 have hx := Bd.exec
 have hby := Bd.bytes
 have hml : c.maxLocals = 3 := hml0
 have hown : s.vm.findClass "java/lang/StringLatin1" = some m.cls := findClass_of_methodNamed Bd.named
 have hnm := (name_of_methodNamed Bd.named Bd.method).1
 have X0 : Stand p l e ({ frames := 0, cells := 0, slots := 0, locals := 0 } : Room) s m #[(.ref u1), (.ref u2)] below meth c s₁ [] 0 0 := Stand.of_body Bd
 have e0 : s₁.heap = h0 := by rw [← hh, Bd.state]; rfl
 have N0 := Fr.nil n0
 refine own_go (b := (s₁.setTop (mkF m 0 #[.val (.ref u1), .val (.ref u2), .unset] []))) (fun _ k => castTop (ef_rmslN0 m u1 u2) k) ?_
 refine own_go (b := (s₁.setTop (mkF m 1 #[.val (.ref u1), .val (.ref u2), .unset] [(.ref u1)]))) (fun _ k => XS.aloadN X0.here hx rfl (hb hby d9_0) rfl rfl k) ?_
 obtain ⟨cl1, Ar1, -, Sz1, Nn1, -, -⟩ := id V_u1
 refine own_go (b := (s₁.setTop (mkF m 3 #[.val (.ref u1), .val (.ref u2), .unset] [(.ref u2), (.int (3 : Int32))]))) (fun _ k => X0.arraylength hx (by rw [e0]; exact Ar1.1) (State.isArrayOf_alike hZ.alike Ar1.2.1) (g := (mkF m 1 #[.val (.ref u1), .val (.ref u2), .unset] [(.ref u1)])) rfl rfl (hb hby d9_1) _ (by rw [len_of Sz1 Nn1]; exact (XS.aloadN X0.here hx rfl (hb hby d9_2) rfl rfl k))) ?_
 obtain ⟨cl2, Ar2, -, Sz2, Nn2, -, -⟩ := id V_u2
 refine own_go (b := (s₁.setTop (mkF m 35 #[.val (.ref u1), .val (.ref u2), .unset] [(.int (0 : Int32))]))) (fun _ k => X0.arraylength hx (by rw [e0]; exact Ar2.1) (State.isArrayOf_alike hZ.alike Ar2.2.1) (g := (mkF m 3 #[.val (.ref u1), .val (.ref u2), .unset] [(.ref u2), (.int (3 : Int32))])) rfl rfl (hb hby d9_3) _ (by rw [len_of Sz2 Nn2]; exact (XS.icmpYes X0.here hx rfl (pc0 := 4) (pc' := 34) rfl (hb hby d9_4) rfl (feq (by decide : ¬ ((3 : Int32) = (0 : Int32)))).2 (by decide) (by decide) (XS.iconst X0.here hx rfl (hb hby d9_34) k)))) ?_
 obtain ⟨fs, hr, hrun, hended, hW, hsame⟩ := X0.leave (v := some (.int (0 : Int32))) (fun h => by rw [Bd.returns] at h; cases h)
 exact ⟨_, _, retN X0 hx (t := .boolean) Bd.returns (by simp) (hb hby d9_35) hr, hrun, hended, _, _, rfl, (show QrmslN0 Z u1 u2 ku kv y0 y1 y2 h0 n0 _ s₁.heap _ from (by rw [e0]; exact ⟨rfl, N0, rfl⟩)), ⟨_, rfl⟩, hW, hsame.mono (by decide) (by decide)⟩
theorem d8_0 : decode jdk_42_method_66_code 0 = .ok (.aload_n 0, 1) := by decide +kernel
theorem d8_1 : decode jdk_42_method_66_code 1 = .ok (.aload_n 1, 1) := by decide +kernel
theorem d8_2 : decode jdk_42_method_66_code 2 = .ok (.if_acmp .ne 5, 3) := by decide +kernel
theorem d8_5 : decode jdk_42_method_66_code 5 = .ok (.iconst 1, 1) := by decide +kernel
theorem d8_6 : decode jdk_42_method_66_code 6 = .ok (.ireturn, 1) := by decide +kernel
theorem d8_7 : decode jdk_42_method_66_code 7 = .ok (.aload_n 1, 1) := by decide +kernel
theorem d8_8 : decode jdk_42_method_66_code 8 = .ok (.instanceof 10, 3) := by decide +kernel
theorem d8_11 : decode jdk_42_method_66_code 11 = .ok (.ifCond .eq 43, 3) := by decide +kernel
theorem d8_14 : decode jdk_42_method_66_code 14 = .ok (.aload_n 1, 1) := by decide +kernel
theorem d8_15 : decode jdk_42_method_66_code 15 = .ok (.checkcast 10, 3) := by decide +kernel
theorem d8_18 : decode jdk_42_method_66_code 18 = .ok (.astore_n 2, 1) := by decide +kernel
theorem d8_19 : decode jdk_42_method_66_code 19 = .ok (.getstatic 38, 3) := by decide +kernel
theorem d8_22 : decode jdk_42_method_66_code 22 = .ok (.ifCond .eq 14, 3) := by decide +kernel
theorem d8_25 : decode jdk_42_method_66_code 25 = .ok (.aload_n 0, 1) := by decide +kernel
theorem d8_26 : decode jdk_42_method_66_code 26 = .ok (.getfield 15, 3) := by decide +kernel
theorem d8_29 : decode jdk_42_method_66_code 29 = .ok (.aload_n 2, 1) := by decide +kernel
theorem d8_30 : decode jdk_42_method_66_code 30 = .ok (.getfield 15, 3) := by decide +kernel
theorem d8_33 : decode jdk_42_method_66_code 33 = .ok (.if_icmp .ne 21, 3) := by decide +kernel
theorem d8_36 : decode jdk_42_method_66_code 36 = .ok (.aload_n 0, 1) := by decide +kernel
theorem d8_37 : decode jdk_42_method_66_code 37 = .ok (.getfield 9, 3) := by decide +kernel
theorem d8_40 : decode jdk_42_method_66_code 40 = .ok (.aload_n 2, 1) := by decide +kernel
theorem d8_41 : decode jdk_42_method_66_code 41 = .ok (.getfield 9, 3) := by decide +kernel
theorem d8_44 : decode jdk_42_method_66_code 44 = .ok (.invokestatic 541, 3) := by decide +kernel
theorem d8_47 : decode jdk_42_method_66_code 47 = .ok (.ifCond .eq 7, 3) := by decide +kernel
theorem d8_50 : decode jdk_42_method_66_code 50 = .ok (.iconst 1, 1) := by decide +kernel
theorem d8_51 : decode jdk_42_method_66_code 51 = .ok (.goto 4, 3) := by decide +kernel
theorem d8_54 : decode jdk_42_method_66_code 54 = .ok (.iconst 0, 1) := by decide +kernel
theorem d8_55 : decode jdk_42_method_66_code 55 = .ok (.ireturn, 1) := by decide +kernel
theorem pd___B_B_Z : parseMethodDescriptor "([B[B)Z" = some ⟨[(.array .byte), (.array .byte)], some .boolean⟩ := by decide +kernel
theorem pn_8 : plainName "java/lang/String" = true := by first | (simp [plainName, overriddenIn]; done) | decide +kernel
theorem ef_rmseN0 (m : MethodId) (x0 : Addr) (x1 : Addr) : entryFrame m #[(.ref x0), (.ref x1)] 3 = mkF m 0 #[.val (.ref x0), .val (.ref x1), .unset] [] := by first | (simp [entryFrame, mkF, argsToLocals, Value.category]; done) | rfl
def QrmseN0 (Z : State) (a1 : Addr) (a2 : Addr) (u1 : Addr) (u2 : Addr) (ku : ClassId) (kv : ClassId) (y0 : Int32) (y1 : Int32) (y2 : Int32) (cs : Int32) (h0 : Heap) (n0 : Nat) (v : Option Value) (h : Heap) (L : List Loc) : Prop := v = some (.int (0 : Int32)) ∧ Fr n0 L ∧ h = h0
set_option maxRecDepth 65536 in
set_option maxHeartbeats 40000000 in
theorem rmseN0 (l : Launch) (Z : State) (a0 : Array Value) (hw : ∀ d ∈ tables_1, d.before a0 Z = true) (ws : List Jvm.Cond) (a1 : Addr) (a2 : Addr) (u1 : Addr) (u2 : Addr) (ku : ClassId) (kv : ClassId) (y0 : Int32) (y1 : Int32) (y2 : Int32) (cs : Int32) (h0 : Heap) (n0 : Nat) (Z0 : n0 ≤ h0.size) (O0 : Old Z n0 h0) (S_COMPACT_STRINGS : Sta Z Z.heap "java/lang/String" "COMPACT_STRINGS" "Z" (.int cs)) (hcs : ¬ (cs = (0 : Int32))) (ne_a1_a2 : a1 ≠ a2) (E_a2 : Exa Z h0 a2 "java/lang/String") (Fld_a1_coder : Fld Z h0 a1 "java/lang/String" "coder" "B" (.int (0 : Int32))) (Fld_a1_value : Fld Z h0 a1 "java/lang/String" "value" "[B" (.ref u1)) (Fld_a2_coder : Fld Z h0 a2 "java/lang/String" "coder" "B" (.int (0 : Int32))) (Fld_a2_value : Fld Z h0 a2 "java/lang/String" "value" "[B" (.ref u2)) (V_u1 : Arv Z h0 u1 ku .byte (3 : Int32) [(.int y0), (.int y1), (.int y2)] (.int (0 : Int32))) (V_u2 : Arv Z h0 u2 kv .byte (0 : Int32) [] (.int (0 : Int32))) :
    MetFree l (⟨"java/lang/String", "equals", "(Ljava/lang/Object;)Z"⟩ : MethodName) (head1 (Jvm.Cond.code (⟨"java/lang/String", "equals", "(Ljava/lang/Object;)Z"⟩ : MethodName) jdk_42_method_66_code 3 (some .boolean) :: ws) ({ frames := 1, cells := 0, slots := 0, locals := 14 } : Room)) (fun a U => a = #[(.ref a1), (.ref a2)] ∧ Z.Warmed39 U.vm ∧ U.heap = h0) (fun _ _ _ _ _ => True) (fun _ U o U' => ∃ v L, o = .returned v ∧ QrmseN0 Z a1 a2 u1 u2 ku kv y0 y1 y2 cs h0 n0 v U'.heap L ∧ FrameEnd U o U' L ({ frames := 1, cells := 0, slots := 0, locals := 14 } : Room).cells ({ frames := 1, cells := 0, slots := 0, locals := 14 } : Room).slots) := by
 refine MetFree.of_bodySF (plainFor_of_name pn_8) hisR ?_
 intro p e s m args below meth c s₁ Bd hml0 hP hK
 obtain ⟨rfl, hZ, hh⟩ := hP
 have hx := Bd.exec
 have hby := Bd.bytes
 have hml : c.maxLocals = 3 := hml0
 have hown : s.vm.findClass "java/lang/String" = some m.cls := findClass_of_methodNamed Bd.named
 have hnm := (name_of_methodNamed Bd.named Bd.method).1
 have X0 : Stand p l e ({ frames := 1, cells := 0, slots := 0, locals := 14 } : Room) s m #[(.ref a1), (.ref a2)] below meth c s₁ [] 0 0 := Stand.of_body Bd
 have e0 : s₁.heap = h0 := by rw [← hh, Bd.state]; rfl
 have N0 := Fr.nil n0
 refine own_go (b := (s₁.setTop (mkF m 0 #[.val (.ref a1), .val (.ref a2), .unset] []))) (fun _ k => castTop (ef_rmseN0 m a1 a2) k) ?_
 refine own_go (b := (s₁.setTop (mkF m 8 #[.val (.ref a1), .val (.ref a2), .unset] [(.ref a2)]))) (fun _ k => XS.aloadN X0.here hx rfl (hb hby d8_0) rfl rfl (XS.aloadN X0.here hx rfl (hb hby d8_1) rfl rfl (Jvm.RoadKit.acmp (g := (mkF m 2 #[.val (.ref a1), .val (.ref a2), .unset] [(.ref a2), (.ref a1)])) X0 hx rfl rfl rfl (pc0 := 2) (pc' := 7) (same := false) rfl (hb hby d8_2) rfl (decide_eq_false fun q => ne_a1_a2 (Value.ref.inj q)) (by decide) (by decide) (XS.aloadN X0.here hx rfl (hb hby d8_7) rfl rfl k)))) ?_
 obtain ⟨T1, X1, e1, st1⟩ := instY X0 hx hZ hown (hw _ (List.mem_of_getElem? (i := 58) rfl)) e0 (Ins.self E_a2) (g := (mkF m 8 #[.val (.ref a1), .val (.ref a2), .unset] [(.ref a2)])) rfl rfl (hb hby d8_8)
 refine own_go (b := (T1.setTop (mkF m 15 #[.val (.ref a1), .val (.ref a2), .unset] [(.ref a2)]))) (fun _ k => st1 _ (XS.ifNo X1.here hx rfl (hb hby d8_11) rfl ((if0 _ _).trans (feq (by decide : ¬ ((1 : Int32) = (0 : Int32)))).1) (XS.aloadN X1.here hx rfl (hb hby d8_14) rfl rfl k))) ?_
 obtain ⟨T2, X2, e2, st2⟩ := castY X1 hx hZ hown (hw _ (List.mem_of_getElem? (i := 58) rfl)) e1 (Ins.self E_a2) (g := (mkF m 15 #[.val (.ref a1), .val (.ref a2), .unset] [(.ref a2)])) rfl rfl (hb hby d8_15)
 refine own_go (b := (T2.setTop (mkF m 19 #[.val (.ref a1), .val (.ref a2), .val (.ref a2)] []))) (fun _ k => st2 _ (XS.astoreN X2.here hx rfl (hb hby d8_18) rfl rfl (l' := #[.val (.ref a1), .val (.ref a2), .val (.ref a2)]) rfl k)) ?_
 obtain ⟨T3, X3, e3, st3⟩ := getS2 X2 hx hZ hown (host := "") (Or.inl (hw _ (List.mem_of_getElem? (i := 59) rfl))) Via.refl e2 (S_COMPACT_STRINGS.ext O0.2) (g := (mkF m 19 #[.val (.ref a1), .val (.ref a2), .val (.ref a2)] [])) rfl (hb hby d8_19)
 refine own_go (b := (T3.setTop (mkF m 26 #[.val (.ref a1), .val (.ref a2), .val (.ref a2)] [(.ref a1)]))) (fun _ k => st3 _ (XS.ifNo X3.here hx rfl (hb hby d8_22) rfl ((if0 _ _).trans (feq hcs).1) (XS.aloadN X3.here hx rfl (hb hby d8_25) rfl rfl k))) ?_
 refine own_getf X3 hx hZ hown (hw _ (List.mem_of_getElem? (i := 29) rfl)) Via.refl e3 Fld_a1_coder rfl rfl (hb hby d8_26) (fun T4 X4 e4 => ?_)
 refine own_go (b := (T4.setTop (mkF m 30 #[.val (.ref a1), .val (.ref a2), .val (.ref a2)] [(.ref a2), (.int (0 : Int32))]))) (fun _ k => XS.aloadN X4.here hx rfl (hb hby d8_29) rfl rfl k) ?_
 refine own_getf X4 hx hZ hown (hw _ (List.mem_of_getElem? (i := 29) rfl)) Via.refl e4 Fld_a2_coder rfl rfl (hb hby d8_30) (fun T5 X5 e5 => ?_)
 refine own_go (b := (T5.setTop (mkF m 37 #[.val (.ref a1), .val (.ref a2), .val (.ref a2)] [(.ref a1)]))) (fun _ k => XS.icmpNo X5.here hx rfl (hb hby d8_33) rfl (teq (rfl : (0 : Int32) = (0 : Int32))).2 (XS.aloadN X5.here hx rfl (hb hby d8_36) rfl rfl k)) ?_
 refine own_getf X5 hx hZ hown (hw _ (List.mem_of_getElem? (i := 28) rfl)) Via.refl e5 Fld_a1_value rfl rfl (hb hby d8_37) (fun T6 X6 e6 => ?_)
 refine own_go (b := (T6.setTop (mkF m 41 #[.val (.ref a1), .val (.ref a2), .val (.ref a2)] [(.ref a2), (.ref u1)]))) (fun _ k => XS.aloadN X6.here hx rfl (hb hby d8_40) rfl rfl k) ?_
 refine own_getf X6 hx hZ hown (hw _ (List.mem_of_getElem? (i := 28) rfl)) Via.refl e6 Fld_a2_value rfl rfl (hb hby d8_41) (fun T7 X7 e7 => ?_)
 refine own_stat (W := 0) X7 hx hZ hown e7 (hw _ (List.mem_of_getElem? (i := 60) rfl)) (hw _ (List.mem_of_getElem? (i := 61) rfl)) (rmslN0 l Z a0 hw [] u1 u2 ku kv y0 y1 y2 h0 n0 Z0 V_u1 V_u2) (hw _ (List.mem_of_getElem? (i := 63) rfl)) (hw _ (List.mem_of_getElem? (i := 62) rfl)) rfl (by rw [hml]; rfl) rfl (hb hby d8_44) (lenOf pd___B_B_Z rfl) rfl (by decide) (fun T8 v8 Ll8 X8 hQ8 => ?_)
 obtain ⟨rfl, N8q, eh8⟩ := hQ8
 have N8 := Fr.app N0 N8q
 refine own_go (b := (T8.setTop (mkF m 55 #[.val (.ref a1), .val (.ref a2), .val (.ref a2)] [(.int (0 : Int32))]))) (fun _ k => XS.ifYes X8.here hx rfl (pc0 := 47) (pc' := 54) rfl (hb hby d8_47) rfl ((if0 _ _).trans (teq (rfl : (0 : Int32) = (0 : Int32))).1) (by decide) (by decide) (XS.iconst X8.here hx rfl (hb hby d8_54) k)) ?_
 obtain ⟨fs, hr, hrun, hended, hW, hsame⟩ := X8.leave (v := some (.int (0 : Int32))) (fun h => by rw [Bd.returns] at h; cases h)
 exact ⟨_, _, retN X8 hx (t := .boolean) Bd.returns (by simp) (hb hby d8_55) hr, hrun, hended, _, _, rfl, (show QrmseN0 Z a1 a2 u1 u2 ku kv y0 y1 y2 cs h0 n0 _ T8.heap _ from (by rw [eh8]; exact ⟨rfl, N8, rfl⟩)), ⟨_, rfl⟩, hW, hsame.mono (by decide) (by decide)⟩
theorem ef_rmslN1 (m : MethodId) (x0 : Addr) (x1 : Addr) : entryFrame m #[(.ref x0), (.ref x1)] 3 = mkF m 0 #[.val (.ref x0), .val (.ref x1), .unset] [] := by first | (simp [entryFrame, mkF, argsToLocals, Value.category]; done) | rfl
def QrmslN1 (Z : State) (u1 : Addr) (u2 : Addr) (ku : ClassId) (kv : ClassId) (y0 : Int32) (y1 : Int32) (y2 : Int32) (x0 : Int32) (h0 : Heap) (n0 : Nat) (v : Option Value) (h : Heap) (L : List Loc) : Prop := v = some (.int (0 : Int32)) ∧ Fr n0 L ∧ h = h0
set_option maxRecDepth 65536 in
set_option maxHeartbeats 40000000 in
theorem rmslN1 (l : Launch) (Z : State) (a0 : Array Value) (hw : ∀ d ∈ tables_1, d.before a0 Z = true) (ws : List Jvm.Cond) (u1 : Addr) (u2 : Addr) (ku : ClassId) (kv : ClassId) (y0 : Int32) (y1 : Int32) (y2 : Int32) (x0 : Int32) (h0 : Heap) (n0 : Nat) (Z0 : n0 ≤ h0.size) (V_u1 : Arv Z h0 u1 ku .byte (3 : Int32) [(.int y0), (.int y1), (.int y2)] (.int (0 : Int32))) (V_u2 : Arv Z h0 u2 kv .byte (1 : Int32) [(.int x0)] (.int (0 : Int32))) :
    MetFree l (⟨"java/lang/StringLatin1", "equals", "([B[B)Z"⟩ : MethodName) (head1 (Jvm.Cond.code (⟨"java/lang/StringLatin1", "equals", "([B[B)Z"⟩ : MethodName) jdk_43_method_13_code 3 (some .boolean) :: ws) ({ frames := 0, cells := 0, slots := 0, locals := 0 } : Room)) (fun a U => a = #[(.ref u1), (.ref u2)] ∧ Z.Warmed39 U.vm ∧ U.heap = h0) (fun _ _ _ _ _ => True) (fun _ U o U' => ∃ v L, o = .returned v ∧ QrmslN1 Z u1 u2 ku kv y0 y1 y2 x0 h0 n0 v U'.heap L ∧ FrameEnd U o U' L ({ frames := 0, cells := 0, slots := 0, locals := 0 } : Room).cells ({ frames := 0, cells := 0, slots := 0, locals := 0 } : Room).slots) := by
 refine MetFree.of_bodySF (plainFor_of_name pn_9) hisR ?_
 intro p e s m args below meth c s₁ Bd hml0 hP hK
 obtain ⟨rfl, hZ, hh⟩ := hP
 have hx := Bd.exec
 have hby := Bd.bytes
 have hml : c.maxLocals = 3 := hml0
 have hown : s.vm.findClass "java/lang/StringLatin1" = some m.cls := findClass_of_methodNamed Bd.named
 have hnm := (name_of_methodNamed Bd.named Bd.method).1
 have X0 : Stand p l e ({ frames := 0, cells := 0, slots := 0, locals := 0 } : Room) s m #[(.ref u1), (.ref u2)] below meth c s₁ [] 0 0 := Stand.of_body Bd
 have e0 : s₁.heap = h0 := by rw [← hh, Bd.state]; rfl
 have N0 := Fr.nil n0
 refine own_go (b := (s₁.setTop (mkF m 0 #[.val (.ref u1), .val (.ref u2), .unset] []))) (fun _ k => castTop (ef_rmslN1 m u1 u2) k) ?_
 refine own_go (b := (s₁.setTop (mkF m 1 #[.val (.ref u1), .val (.ref u2), .unset] [(.ref u1)]))) (fun _ k => XS.aloadN X0.here hx rfl (hb hby d9_0) rfl rfl k) ?_
 obtain ⟨cl1, Ar1, -, Sz1, Nn1, -, -⟩ := id V_u1
 refine own_go (b := (s₁.setTop (mkF m 3 #[.val (.ref u1), .val (.ref u2), .unset] [(.ref u2), (.int (3 : Int32))]))) (fun _ k => X0.arraylength hx (by rw [e0]; exact Ar1.1) (State.isArrayOf_alike hZ.alike Ar1.2.1) (g := (mkF m 1 #[.val (.ref u1), .val (.ref u2), .unset] [(.ref u1)])) rfl rfl (hb hby d9_1) _ (by rw [len_of Sz1 Nn1]; exact (XS.aloadN X0.here hx rfl (hb hby d9_2) rfl rfl k))) ?_
 obtain ⟨cl2, Ar2, -, Sz2, Nn2, -, -⟩ := id V_u2
 refine own_go (b := (s₁.setTop (mkF m 35 #[.val (.ref u1), .val (.ref u2), .unset] [(.int (0 : Int32))]))) (fun _ k => X0.arraylength hx (by rw [e0]; exact Ar2.1) (State.isArrayOf_alike hZ.alike Ar2.2.1) (g := (mkF m 3 #[.val (.ref u1), .val (.ref u2), .unset] [(.ref u2), (.int (3 : Int32))])) rfl rfl (hb hby d9_3) _ (by rw [len_of Sz2 Nn2]; exact (XS.icmpYes X0.here hx rfl (pc0 := 4) (pc' := 34) rfl (hb hby d9_4) rfl (feq (by decide : ¬ ((3 : Int32) = (1 : Int32)))).2 (by decide) (by decide) (XS.iconst X0.here hx rfl (hb hby d9_34) k)))) ?_
 obtain ⟨fs, hr, hrun, hended, hW, hsame⟩ := X0.leave (v := some (.int (0 : Int32))) (fun h => by rw [Bd.returns] at h; cases h)
 exact ⟨_, _, retN X0 hx (t := .boolean) Bd.returns (by simp) (hb hby d9_35) hr, hrun, hended, _, _, rfl, (show QrmslN1 Z u1 u2 ku kv y0 y1 y2 x0 h0 n0 _ s₁.heap _ from (by rw [e0]; exact ⟨rfl, N0, rfl⟩)), ⟨_, rfl⟩, hW, hsame.mono (by decide) (by decide)⟩
theorem ef_rmseN1 (m : MethodId) (x0 : Addr) (x1 : Addr) : entryFrame m #[(.ref x0), (.ref x1)] 3 = mkF m 0 #[.val (.ref x0), .val (.ref x1), .unset] [] := by first | (simp [entryFrame, mkF, argsToLocals, Value.category]; done) | rfl
def QrmseN1 (Z : State) (a1 : Addr) (a2 : Addr) (u1 : Addr) (u2 : Addr) (ku : ClassId) (kv : ClassId) (y0 : Int32) (y1 : Int32) (y2 : Int32) (x0 : Int32) (cs : Int32) (h0 : Heap) (n0 : Nat) (v : Option Value) (h : Heap) (L : List Loc) : Prop := v = some (.int (0 : Int32)) ∧ Fr n0 L ∧ h = h0
set_option maxRecDepth 65536 in
set_option maxHeartbeats 40000000 in
theorem rmseN1 (l : Launch) (Z : State) (a0 : Array Value) (hw : ∀ d ∈ tables_1, d.before a0 Z = true) (ws : List Jvm.Cond) (a1 : Addr) (a2 : Addr) (u1 : Addr) (u2 : Addr) (ku : ClassId) (kv : ClassId) (y0 : Int32) (y1 : Int32) (y2 : Int32) (x0 : Int32) (cs : Int32) (h0 : Heap) (n0 : Nat) (Z0 : n0 ≤ h0.size) (O0 : Old Z n0 h0) (S_COMPACT_STRINGS : Sta Z Z.heap "java/lang/String" "COMPACT_STRINGS" "Z" (.int cs)) (hcs : ¬ (cs = (0 : Int32))) (ne_a1_a2 : a1 ≠ a2) (E_a2 : Exa Z h0 a2 "java/lang/String") (Fld_a1_coder : Fld Z h0 a1 "java/lang/String" "coder" "B" (.int (0 : Int32))) (Fld_a1_value : Fld Z h0 a1 "java/lang/String" "value" "[B" (.ref u1)) (Fld_a2_coder : Fld Z h0 a2 "java/lang/String" "coder" "B" (.int (0 : Int32))) (Fld_a2_value : Fld Z h0 a2 "java/lang/String" "value" "[B" (.ref u2)) (V_u1 : Arv Z h0 u1 ku .byte (3 : Int32) [(.int y0), (.int y1), (.int y2)] (.int (0 : Int32))) (V_u2 : Arv Z h0 u2 kv .byte (1 : Int32) [(.int x0)] (.int (0 : Int32))) :
    MetFree l (⟨"java/lang/String", "equals", "(Ljava/lang/Object;)Z"⟩ : MethodName) (head1 (Jvm.Cond.code (⟨"java/lang/String", "equals", "(Ljava/lang/Object;)Z"⟩ : MethodName) jdk_42_method_66_code 3 (some .boolean) :: ws) ({ frames := 1, cells := 0, slots := 0, locals := 14 } : Room)) (fun a U => a = #[(.ref a1), (.ref a2)] ∧ Z.Warmed39 U.vm ∧ U.heap = h0) (fun _ _ _ _ _ => True) (fun _ U o U' => ∃ v L, o = .returned v ∧ QrmseN1 Z a1 a2 u1 u2 ku kv y0 y1 y2 x0 cs h0 n0 v U'.heap L ∧ FrameEnd U o U' L ({ frames := 1, cells := 0, slots := 0, locals := 14 } : Room).cells ({ frames := 1, cells := 0, slots := 0, locals := 14 } : Room).slots) := by
 refine MetFree.of_bodySF (plainFor_of_name pn_8) hisR ?_
 intro p e s m args below meth c s₁ Bd hml0 hP hK
 obtain ⟨rfl, hZ, hh⟩ := hP
 have hx := Bd.exec
 have hby := Bd.bytes
 have hml : c.maxLocals = 3 := hml0
 have hown : s.vm.findClass "java/lang/String" = some m.cls := findClass_of_methodNamed Bd.named
 have hnm := (name_of_methodNamed Bd.named Bd.method).1
 have X0 : Stand p l e ({ frames := 1, cells := 0, slots := 0, locals := 14 } : Room) s m #[(.ref a1), (.ref a2)] below meth c s₁ [] 0 0 := Stand.of_body Bd
 have e0 : s₁.heap = h0 := by rw [← hh, Bd.state]; rfl
 have N0 := Fr.nil n0
 refine own_go (b := (s₁.setTop (mkF m 0 #[.val (.ref a1), .val (.ref a2), .unset] []))) (fun _ k => castTop (ef_rmseN1 m a1 a2) k) ?_
 refine own_go (b := (s₁.setTop (mkF m 8 #[.val (.ref a1), .val (.ref a2), .unset] [(.ref a2)]))) (fun _ k => XS.aloadN X0.here hx rfl (hb hby d8_0) rfl rfl (XS.aloadN X0.here hx rfl (hb hby d8_1) rfl rfl (Jvm.RoadKit.acmp (g := (mkF m 2 #[.val (.ref a1), .val (.ref a2), .unset] [(.ref a2), (.ref a1)])) X0 hx rfl rfl rfl (pc0 := 2) (pc' := 7) (same := false) rfl (hb hby d8_2) rfl (decide_eq_false fun q => ne_a1_a2 (Value.ref.inj q)) (by decide) (by decide) (XS.aloadN X0.here hx rfl (hb hby d8_7) rfl rfl k)))) ?_
 obtain ⟨T1, X1, e1, st1⟩ := instY X0 hx hZ hown (hw _ (List.mem_of_getElem? (i := 58) rfl)) e0 (Ins.self E_a2) (g := (mkF m 8 #[.val (.ref a1), .val (.ref a2), .unset] [(.ref a2)])) rfl rfl (hb hby d8_8)
 refine own_go (b := (T1.setTop (mkF m 15 #[.val (.ref a1), .val (.ref a2), .unset] [(.ref a2)]))) (fun _ k => st1 _ (XS.ifNo X1.here hx rfl (hb hby d8_11) rfl ((if0 _ _).trans (feq (by decide : ¬ ((1 : Int32) = (0 : Int32)))).1) (XS.aloadN X1.here hx rfl (hb hby d8_14) rfl rfl k))) ?_
 obtain ⟨T2, X2, e2, st2⟩ := castY X1 hx hZ hown (hw _ (List.mem_of_getElem? (i := 58) rfl)) e1 (Ins.self E_a2) (g := (mkF m 15 #[.val (.ref a1), .val (.ref a2), .unset] [(.ref a2)])) rfl rfl (hb hby d8_15)
 refine own_go (b := (T2.setTop (mkF m 19 #[.val (.ref a1), .val (.ref a2), .val (.ref a2)] []))) (fun _ k => st2 _ (XS.astoreN X2.here hx rfl (hb hby d8_18) rfl rfl (l' := #[.val (.ref a1), .val (.ref a2), .val (.ref a2)]) rfl k)) ?_
 obtain ⟨T3, X3, e3, st3⟩ := getS2 X2 hx hZ hown (host := "") (Or.inl (hw _ (List.mem_of_getElem? (i := 59) rfl))) Via.refl e2 (S_COMPACT_STRINGS.ext O0.2) (g := (mkF m 19 #[.val (.ref a1), .val (.ref a2), .val (.ref a2)] [])) rfl (hb hby d8_19)
 refine own_go (b := (T3.setTop (mkF m 26 #[.val (.ref a1), .val (.ref a2), .val (.ref a2)] [(.ref a1)]))) (fun _ k => st3 _ (XS.ifNo X3.here hx rfl (hb hby d8_22) rfl ((if0 _ _).trans (feq hcs).1) (XS.aloadN X3.here hx rfl (hb hby d8_25) rfl rfl k))) ?_
 refine own_getf X3 hx hZ hown (hw _ (List.mem_of_getElem? (i := 29) rfl)) Via.refl e3 Fld_a1_coder rfl rfl (hb hby d8_26) (fun T4 X4 e4 => ?_)
 refine own_go (b := (T4.setTop (mkF m 30 #[.val (.ref a1), .val (.ref a2), .val (.ref a2)] [(.ref a2), (.int (0 : Int32))]))) (fun _ k => XS.aloadN X4.here hx rfl (hb hby d8_29) rfl rfl k) ?_
 refine own_getf X4 hx hZ hown (hw _ (List.mem_of_getElem? (i := 29) rfl)) Via.refl e4 Fld_a2_coder rfl rfl (hb hby d8_30) (fun T5 X5 e5 => ?_)
 refine own_go (b := (T5.setTop (mkF m 37 #[.val (.ref a1), .val (.ref a2), .val (.ref a2)] [(.ref a1)]))) (fun _ k => XS.icmpNo X5.here hx rfl (hb hby d8_33) rfl (teq (rfl : (0 : Int32) = (0 : Int32))).2 (XS.aloadN X5.here hx rfl (hb hby d8_36) rfl rfl k)) ?_
 refine own_getf X5 hx hZ hown (hw _ (List.mem_of_getElem? (i := 28) rfl)) Via.refl e5 Fld_a1_value rfl rfl (hb hby d8_37) (fun T6 X6 e6 => ?_)
 refine own_go (b := (T6.setTop (mkF m 41 #[.val (.ref a1), .val (.ref a2), .val (.ref a2)] [(.ref a2), (.ref u1)]))) (fun _ k => XS.aloadN X6.here hx rfl (hb hby d8_40) rfl rfl k) ?_
 refine own_getf X6 hx hZ hown (hw _ (List.mem_of_getElem? (i := 28) rfl)) Via.refl e6 Fld_a2_value rfl rfl (hb hby d8_41) (fun T7 X7 e7 => ?_)
 refine own_stat (W := 0) X7 hx hZ hown e7 (hw _ (List.mem_of_getElem? (i := 60) rfl)) (hw _ (List.mem_of_getElem? (i := 61) rfl)) (rmslN1 l Z a0 hw [] u1 u2 ku kv y0 y1 y2 x0 h0 n0 Z0 V_u1 V_u2) (hw _ (List.mem_of_getElem? (i := 63) rfl)) (hw _ (List.mem_of_getElem? (i := 62) rfl)) rfl (by rw [hml]; rfl) rfl (hb hby d8_44) (lenOf pd___B_B_Z rfl) rfl (by decide) (fun T8 v8 Ll8 X8 hQ8 => ?_)
 obtain ⟨rfl, N8q, eh8⟩ := hQ8
 have N8 := Fr.app N0 N8q
 refine own_go (b := (T8.setTop (mkF m 55 #[.val (.ref a1), .val (.ref a2), .val (.ref a2)] [(.int (0 : Int32))]))) (fun _ k => XS.ifYes X8.here hx rfl (pc0 := 47) (pc' := 54) rfl (hb hby d8_47) rfl ((if0 _ _).trans (teq (rfl : (0 : Int32) = (0 : Int32))).1) (by decide) (by decide) (XS.iconst X8.here hx rfl (hb hby d8_54) k)) ?_
 obtain ⟨fs, hr, hrun, hended, hW, hsame⟩ := X8.leave (v := some (.int (0 : Int32))) (fun h => by rw [Bd.returns] at h; cases h)
 exact ⟨_, _, retN X8 hx (t := .boolean) Bd.returns (by simp) (hb hby d8_55) hr, hrun, hended, _, _, rfl, (show QrmseN1 Z a1 a2 u1 u2 ku kv y0 y1 y2 x0 cs h0 n0 _ T8.heap _ from (by rw [eh8]; exact ⟨rfl, N8, rfl⟩)), ⟨_, rfl⟩, hW, hsame.mono (by decide) (by decide)⟩
theorem ef_rmslN2 (m : MethodId) (x0 : Addr) (x1 : Addr) : entryFrame m #[(.ref x0), (.ref x1)] 3 = mkF m 0 #[.val (.ref x0), .val (.ref x1), .unset] [] := by first | (simp [entryFrame, mkF, argsToLocals, Value.category]; done) | rfl
def QrmslN2 (Z : State) (u1 : Addr) (u2 : Addr) (ku : ClassId) (kv : ClassId) (y0 : Int32) (y1 : Int32) (y2 : Int32) (x0 : Int32) (x1 : Int32) (h0 : Heap) (n0 : Nat) (v : Option Value) (h : Heap) (L : List Loc) : Prop := v = some (.int (0 : Int32)) ∧ Fr n0 L ∧ h = h0
set_option maxRecDepth 65536 in
set_option maxHeartbeats 40000000 in
theorem rmslN2 (l : Launch) (Z : State) (a0 : Array Value) (hw : ∀ d ∈ tables_1, d.before a0 Z = true) (ws : List Jvm.Cond) (u1 : Addr) (u2 : Addr) (ku : ClassId) (kv : ClassId) (y0 : Int32) (y1 : Int32) (y2 : Int32) (x0 : Int32) (x1 : Int32) (h0 : Heap) (n0 : Nat) (Z0 : n0 ≤ h0.size) (V_u1 : Arv Z h0 u1 ku .byte (3 : Int32) [(.int y0), (.int y1), (.int y2)] (.int (0 : Int32))) (V_u2 : Arv Z h0 u2 kv .byte (2 : Int32) [(.int x0), (.int x1)] (.int (0 : Int32))) :
    MetFree l (⟨"java/lang/StringLatin1", "equals", "([B[B)Z"⟩ : MethodName) (head1 (Jvm.Cond.code (⟨"java/lang/StringLatin1", "equals", "([B[B)Z"⟩ : MethodName) jdk_43_method_13_code 3 (some .boolean) :: ws) ({ frames := 0, cells := 0, slots := 0, locals := 0 } : Room)) (fun a U => a = #[(.ref u1), (.ref u2)] ∧ Z.Warmed39 U.vm ∧ U.heap = h0) (fun _ _ _ _ _ => True) (fun _ U o U' => ∃ v L, o = .returned v ∧ QrmslN2 Z u1 u2 ku kv y0 y1 y2 x0 x1 h0 n0 v U'.heap L ∧ FrameEnd U o U' L ({ frames := 0, cells := 0, slots := 0, locals := 0 } : Room).cells ({ frames := 0, cells := 0, slots := 0, locals := 0 } : Room).slots) := by
 refine MetFree.of_bodySF (plainFor_of_name pn_9) hisR ?_
 intro p e s m args below meth c s₁ Bd hml0 hP hK
 obtain ⟨rfl, hZ, hh⟩ := hP
 have hx := Bd.exec
 have hby := Bd.bytes
 have hml : c.maxLocals = 3 := hml0
 have hown : s.vm.findClass "java/lang/StringLatin1" = some m.cls := findClass_of_methodNamed Bd.named
 have hnm := (name_of_methodNamed Bd.named Bd.method).1
 have X0 : Stand p l e ({ frames := 0, cells := 0, slots := 0, locals := 0 } : Room) s m #[(.ref u1), (.ref u2)] below meth c s₁ [] 0 0 := Stand.of_body Bd
 have e0 : s₁.heap = h0 := by rw [← hh, Bd.state]; rfl
 have N0 := Fr.nil n0
 refine own_go (b := (s₁.setTop (mkF m 0 #[.val (.ref u1), .val (.ref u2), .unset] []))) (fun _ k => castTop (ef_rmslN2 m u1 u2) k) ?_
 refine own_go (b := (s₁.setTop (mkF m 1 #[.val (.ref u1), .val (.ref u2), .unset] [(.ref u1)]))) (fun _ k => XS.aloadN X0.here hx rfl (hb hby d9_0) rfl rfl k) ?_
 obtain ⟨cl1, Ar1, -, Sz1, Nn1, -, -⟩ := id V_u1
 refine own_go (b := (s₁.setTop (mkF m 3 #[.val (.ref u1), .val (.ref u2), .unset] [(.ref u2), (.int (3 : Int32))]))) (fun _ k => X0.arraylength hx (by rw [e0]; exact Ar1.1) (State.isArrayOf_alike hZ.alike Ar1.2.1) (g := (mkF m 1 #[.val (.ref u1), .val (.ref u2), .unset] [(.ref u1)])) rfl rfl (hb hby d9_1) _ (by rw [len_of Sz1 Nn1]; exact (XS.aloadN X0.here hx rfl (hb hby d9_2) rfl rfl k))) ?_
 obtain ⟨cl2, Ar2, -, Sz2, Nn2, -, -⟩ := id V_u2
 refine own_go (b := (s₁.setTop (mkF m 35 #[.val (.ref u1), .val (.ref u2), .unset] [(.int (0 : Int32))]))) (fun _ k => X0.arraylength hx (by rw [e0]; exact Ar2.1) (State.isArrayOf_alike hZ.alike Ar2.2.1) (g := (mkF m 3 #[.val (.ref u1), .val (.ref u2), .unset] [(.ref u2), (.int (3 : Int32))])) rfl rfl (hb hby d9_3) _ (by rw [len_of Sz2 Nn2]; exact (XS.icmpYes X0.here hx rfl (pc0 := 4) (pc' := 34) rfl (hb hby d9_4) rfl (feq (by decide : ¬ ((3 : Int32) = (2 : Int32)))).2 (by decide) (by decide) (XS.iconst X0.here hx rfl (hb hby d9_34) k)))) ?_
 obtain ⟨fs, hr, hrun, hended, hW, hsame⟩ := X0.leave (v := some (.int (0 : Int32))) (fun h => by rw [Bd.returns] at h; cases h)
 exact ⟨_, _, retN X0 hx (t := .boolean) Bd.returns (by simp) (hb hby d9_35) hr, hrun, hended, _, _, rfl, (show QrmslN2 Z u1 u2 ku kv y0 y1 y2 x0 x1 h0 n0 _ s₁.heap _ from (by rw [e0]; exact ⟨rfl, N0, rfl⟩)), ⟨_, rfl⟩, hW, hsame.mono (by decide) (by decide)⟩
theorem ef_rmseN2 (m : MethodId) (x0 : Addr) (x1 : Addr) : entryFrame m #[(.ref x0), (.ref x1)] 3 = mkF m 0 #[.val (.ref x0), .val (.ref x1), .unset] [] := by first | (simp [entryFrame, mkF, argsToLocals, Value.category]; done) | rfl
def QrmseN2 (Z : State) (a1 : Addr) (a2 : Addr) (u1 : Addr) (u2 : Addr) (ku : ClassId) (kv : ClassId) (y0 : Int32) (y1 : Int32) (y2 : Int32) (x0 : Int32) (x1 : Int32) (cs : Int32) (h0 : Heap) (n0 : Nat) (v : Option Value) (h : Heap) (L : List Loc) : Prop := v = some (.int (0 : Int32)) ∧ Fr n0 L ∧ h = h0
set_option maxRecDepth 65536 in
set_option maxHeartbeats 40000000 in
theorem rmseN2 (l : Launch) (Z : State) (a0 : Array Value) (hw : ∀ d ∈ tables_1, d.before a0 Z = true) (ws : List Jvm.Cond) (a1 : Addr) (a2 : Addr) (u1 : Addr) (u2 : Addr) (ku : ClassId) (kv : ClassId) (y0 : Int32) (y1 : Int32) (y2 : Int32) (x0 : Int32) (x1 : Int32) (cs : Int32) (h0 : Heap) (n0 : Nat) (Z0 : n0 ≤ h0.size) (O0 : Old Z n0 h0) (S_COMPACT_STRINGS : Sta Z Z.heap "java/lang/String" "COMPACT_STRINGS" "Z" (.int cs)) (hcs : ¬ (cs = (0 : Int32))) (ne_a1_a2 : a1 ≠ a2) (E_a2 : Exa Z h0 a2 "java/lang/String") (Fld_a1_coder : Fld Z h0 a1 "java/lang/String" "coder" "B" (.int (0 : Int32))) (Fld_a1_value : Fld Z h0 a1 "java/lang/String" "value" "[B" (.ref u1)) (Fld_a2_coder : Fld Z h0 a2 "java/lang/String" "coder" "B" (.int (0 : Int32))) (Fld_a2_value : Fld Z h0 a2 "java/lang/String" "value" "[B" (.ref u2)) (V_u1 : Arv Z h0 u1 ku .byte (3 : Int32) [(.int y0), (.int y1), (.int y2)] (.int (0 : Int32))) (V_u2 : Arv Z h0 u2 kv .byte (2 : Int32) [(.int x0), (.int x1)] (.int (0 : Int32))) :
    MetFree l (⟨"java/lang/String", "equals", "(Ljava/lang/Object;)Z"⟩ : MethodName) (head1 (Jvm.Cond.code (⟨"java/lang/String", "equals", "(Ljava/lang/Object;)Z"⟩ : MethodName) jdk_42_method_66_code 3 (some .boolean) :: ws) ({ frames := 1, cells := 0, slots := 0, locals := 14 } : Room)) (fun a U => a = #[(.ref a1), (.ref a2)] ∧ Z.Warmed39 U.vm ∧ U.heap = h0) (fun _ _ _ _ _ => True) (fun _ U o U' => ∃ v L, o = .returned v ∧ QrmseN2 Z a1 a2 u1 u2 ku kv y0 y1 y2 x0 x1 cs h0 n0 v U'.heap L ∧ FrameEnd U o U' L ({ frames := 1, cells := 0, slots := 0, locals := 14 } : Room).cells ({ frames := 1, cells := 0, slots := 0, locals := 14 } : Room).slots) := by
 refine MetFree.of_bodySF (plainFor_of_name pn_8) hisR ?_
 intro p e s m args below meth c s₁ Bd hml0 hP hK
 obtain ⟨rfl, hZ, hh⟩ := hP
 have hx := Bd.exec
 have hby := Bd.bytes
 have hml : c.maxLocals = 3 := hml0
 have hown : s.vm.findClass "java/lang/String" = some m.cls := findClass_of_methodNamed Bd.named
 have hnm := (name_of_methodNamed Bd.named Bd.method).1
 have X0 : Stand p l e ({ frames := 1, cells := 0, slots := 0, locals := 14 } : Room) s m #[(.ref a1), (.ref a2)] below meth c s₁ [] 0 0 := Stand.of_body Bd
 have e0 : s₁.heap = h0 := by rw [← hh, Bd.state]; rfl
 have N0 := Fr.nil n0
 refine own_go (b := (s₁.setTop (mkF m 0 #[.val (.ref a1), .val (.ref a2), .unset] []))) (fun _ k => castTop (ef_rmseN2 m a1 a2) k) ?_
 refine own_go (b := (s₁.setTop (mkF m 8 #[.val (.ref a1), .val (.ref a2), .unset] [(.ref a2)]))) (fun _ k => XS.aloadN X0.here hx rfl (hb hby d8_0) rfl rfl (XS.aloadN X0.here hx rfl (hb hby d8_1) rfl rfl (Jvm.RoadKit.acmp (g := (mkF m 2 #[.val (.ref a1), .val (.ref a2), .unset] [(.ref a2), (.ref a1)])) X0 hx rfl rfl rfl (pc0 := 2) (pc' := 7) (same := false) rfl (hb hby d8_2) rfl (decide_eq_false fun q => ne_a1_a2 (Value.ref.inj q)) (by decide) (by decide) (XS.aloadN X0.here hx rfl (hb hby d8_7) rfl rfl k)))) ?_
 obtain ⟨T1, X1, e1, st1⟩ := instY X0 hx hZ hown (hw _ (List.mem_of_getElem? (i := 58) rfl)) e0 (Ins.self E_a2) (g := (mkF m 8 #[.val (.ref a1), .val (.ref a2), .unset] [(.ref a2)])) rfl rfl (hb hby d8_8)
 refine own_go (b := (T1.setTop (mkF m 15 #[.val (.ref a1), .val (.ref a2), .unset] [(.ref a2)]))) (fun _ k => st1 _ (XS.ifNo X1.here hx rfl (hb hby d8_11) rfl ((if0 _ _).trans (feq (by decide : ¬ ((1 : Int32) = (0 : Int32)))).1) (XS.aloadN X1.here hx rfl (hb hby d8_14) rfl rfl k))) ?_
 obtain ⟨T2, X2, e2, st2⟩ := castY X1 hx hZ hown (hw _ (List.mem_of_getElem? (i := 58) rfl)) e1 (Ins.self E_a2) (g := (mkF m 15 #[.val (.ref a1), .val (.ref a2), .unset] [(.ref a2)])) rfl rfl (hb hby d8_15)
 refine own_go (b := (T2.setTop (mkF m 19 #[.val (.ref a1), .val (.ref a2), .val (.ref a2)] []))) (fun _ k => st2 _ (XS.astoreN X2.here hx rfl (hb hby d8_18) rfl rfl (l' := #[.val (.ref a1), .val (.ref a2), .val (.ref a2)]) rfl k)) ?_
 obtain ⟨T3, X3, e3, st3⟩ := getS2 X2 hx hZ hown (host := "") (Or.inl (hw _ (List.mem_of_getElem? (i := 59) rfl))) Via.refl e2 (S_COMPACT_STRINGS.ext O0.2) (g := (mkF m 19 #[.val (.ref a1), .val (.ref a2), .val (.ref a2)] [])) rfl (hb hby d8_19)
 refine own_go (b := (T3.setTop (mkF m 26 #[.val (.ref a1), .val (.ref a2), .val (.ref a2)] [(.ref a1)]))) (fun _ k => st3 _ (XS.ifNo X3.here hx rfl (hb hby d8_22) rfl ((if0 _ _).trans (feq hcs).1) (XS.aloadN X3.here hx rfl (hb hby d8_25) rfl rfl k))) ?_
 refine own_getf X3 hx hZ hown (hw _ (List.mem_of_getElem? (i := 29) rfl)) Via.refl e3 Fld_a1_coder rfl rfl (hb hby d8_26) (fun T4 X4 e4 => ?_)
 refine own_go (b := (T4.setTop (mkF m 30 #[.val (.ref a1), .val (.ref a2), .val (.ref a2)] [(.ref a2), (.int (0 : Int32))]))) (fun _ k => XS.aloadN X4.here hx rfl (hb hby d8_29) rfl rfl k) ?_
 refine own_getf X4 hx hZ hown (hw _ (List.mem_of_getElem? (i := 29) rfl)) Via.refl e4 Fld_a2_coder rfl rfl (hb hby d8_30) (fun T5 X5 e5 => ?_)
 refine own_go (b := (T5.setTop (mkF m 37 #[.val (.ref a1), .val (.ref a2), .val (.ref a2)] [(.ref a1)]))) (fun _ k => XS.icmpNo X5.here hx rfl (hb hby d8_33) rfl (teq (rfl : (0 : Int32) = (0 : Int32))).2 (XS.aloadN X5.here hx rfl (hb hby d8_36) rfl rfl k)) ?_
 refine own_getf X5 hx hZ hown (hw _ (List.mem_of_getElem? (i := 28) rfl)) Via.refl e5 Fld_a1_value rfl rfl (hb hby d8_37) (fun T6 X6 e6 => ?_)
 refine own_go (b := (T6.setTop (mkF m 41 #[.val (.ref a1), .val (.ref a2), .val (.ref a2)] [(.ref a2), (.ref u1)]))) (fun _ k => XS.aloadN X6.here hx rfl (hb hby d8_40) rfl rfl k) ?_
 refine own_getf X6 hx hZ hown (hw _ (List.mem_of_getElem? (i := 28) rfl)) Via.refl e6 Fld_a2_value rfl rfl (hb hby d8_41) (fun T7 X7 e7 => ?_)
 refine own_stat (W := 0) X7 hx hZ hown e7 (hw _ (List.mem_of_getElem? (i := 60) rfl)) (hw _ (List.mem_of_getElem? (i := 61) rfl)) (rmslN2 l Z a0 hw [] u1 u2 ku kv y0 y1 y2 x0 x1 h0 n0 Z0 V_u1 V_u2) (hw _ (List.mem_of_getElem? (i := 63) rfl)) (hw _ (List.mem_of_getElem? (i := 62) rfl)) rfl (by rw [hml]; rfl) rfl (hb hby d8_44) (lenOf pd___B_B_Z rfl) rfl (by decide) (fun T8 v8 Ll8 X8 hQ8 => ?_)
 obtain ⟨rfl, N8q, eh8⟩ := hQ8
 have N8 := Fr.app N0 N8q
 refine own_go (b := (T8.setTop (mkF m 55 #[.val (.ref a1), .val (.ref a2), .val (.ref a2)] [(.int (0 : Int32))]))) (fun _ k => XS.ifYes X8.here hx rfl (pc0 := 47) (pc' := 54) rfl (hb hby d8_47) rfl ((if0 _ _).trans (teq (rfl : (0 : Int32) = (0 : Int32))).1) (by decide) (by decide) (XS.iconst X8.here hx rfl (hb hby d8_54) k)) ?_
 obtain ⟨fs, hr, hrun, hended, hW, hsame⟩ := X8.leave (v := some (.int (0 : Int32))) (fun h => by rw [Bd.returns] at h; cases h)
 exact ⟨_, _, retN X8 hx (t := .boolean) Bd.returns (by simp) (hb hby d8_55) hr, hrun, hended, _, _, rfl, (show QrmseN2 Z a1 a2 u1 u2 ku kv y0 y1 y2 x0 x1 cs h0 n0 _ T8.heap _ from (by rw [eh8]; exact ⟨rfl, N8, rfl⟩)), ⟨_, rfl⟩, hW, hsame.mono (by decide) (by decide)⟩
theorem ef_rmslN4 (m : MethodId) (x0 : Addr) (x1 : Addr) : entryFrame m #[(.ref x0), (.ref x1)] 3 = mkF m 0 #[.val (.ref x0), .val (.ref x1), .unset] [] := by first | (simp [entryFrame, mkF, argsToLocals, Value.category]; done) | rfl
def QrmslN4 (Z : State) (u1 : Addr) (u2 : Addr) (ku : ClassId) (kv : ClassId) (y0 : Int32) (y1 : Int32) (y2 : Int32) (x0 : Int32) (x1 : Int32) (x2 : Int32) (x3 : Int32) (h0 : Heap) (n0 : Nat) (v : Option Value) (h : Heap) (L : List Loc) : Prop := v = some (.int (0 : Int32)) ∧ Fr n0 L ∧ h = h0
set_option maxRecDepth 65536 in
set_option maxHeartbeats 40000000 in
theorem rmslN4 (l : Launch) (Z : State) (a0 : Array Value) (hw : ∀ d ∈ tables_1, d.before a0 Z = true) (ws : List Jvm.Cond) (u1 : Addr) (u2 : Addr) (ku : ClassId) (kv : ClassId) (y0 : Int32) (y1 : Int32) (y2 : Int32) (x0 : Int32) (x1 : Int32) (x2 : Int32) (x3 : Int32) (h0 : Heap) (n0 : Nat) (Z0 : n0 ≤ h0.size) (V_u1 : Arv Z h0 u1 ku .byte (3 : Int32) [(.int y0), (.int y1), (.int y2)] (.int (0 : Int32))) (V_u2 : Arv Z h0 u2 kv .byte (4 : Int32) [(.int x0), (.int x1), (.int x2), (.int x3)] (.int (0 : Int32))) :
    MetFree l (⟨"java/lang/StringLatin1", "equals", "([B[B)Z"⟩ : MethodName) (head1 (Jvm.Cond.code (⟨"java/lang/StringLatin1", "equals", "([B[B)Z"⟩ : MethodName) jdk_43_method_13_code 3 (some .boolean) :: ws) ({ frames := 0, cells := 0, slots := 0, locals := 0 } : Room)) (fun a U => a = #[(.ref u1), (.ref u2)] ∧ Z.Warmed39 U.vm ∧ U.heap = h0) (fun _ _ _ _ _ => True) (fun _ U o U' => ∃ v L, o = .returned v ∧ QrmslN4 Z u1 u2 ku kv y0 y1 y2 x0 x1 x2 x3 h0 n0 v U'.heap L ∧ FrameEnd U o U' L ({ frames := 0, cells := 0, slots := 0, locals := 0 } : Room).cells ({ frames := 0, cells := 0, slots := 0, locals := 0 } : Room).slots) := by
 refine MetFree.of_bodySF (plainFor_of_name pn_9) hisR ?_
 intro p e s m args below meth c s₁ Bd hml0 hP hK
 obtain ⟨rfl, hZ, hh⟩ := hP
 have hx := Bd.exec
 have hby := Bd.bytes
 have hml : c.maxLocals = 3 := hml0
 have hown : s.vm.findClass "java/lang/StringLatin1" = some m.cls := findClass_of_methodNamed Bd.named
 have hnm := (name_of_methodNamed Bd.named Bd.method).1
 have X0 : Stand p l e ({ frames := 0, cells := 0, slots := 0, locals := 0 } : Room) s m #[(.ref u1), (.ref u2)] below meth c s₁ [] 0 0 := Stand.of_body Bd
 have e0 : s₁.heap = h0 := by rw [← hh, Bd.state]; rfl
 have N0 := Fr.nil n0
 refine own_go (b := (s₁.setTop (mkF m 0 #[.val (.ref u1), .val (.ref u2), .unset] []))) (fun _ k => castTop (ef_rmslN4 m u1 u2) k) ?_
 refine own_go (b := (s₁.setTop (mkF m 1 #[.val (.ref u1), .val (.ref u2), .unset] [(.ref u1)]))) (fun _ k => XS.aloadN X0.here hx rfl (hb hby d9_0) rfl rfl k) ?_
 obtain ⟨cl1, Ar1, -, Sz1, Nn1, -, -⟩ := id V_u1
 refine own_go (b := (s₁.setTop (mkF m 3 #[.val (.ref u1), .val (.ref u2), .unset] [(.ref u2), (.int (3 : Int32))]))) (fun _ k => X0.arraylength hx (by rw [e0]; exact Ar1.1) (State.isArrayOf_alike hZ.alike Ar1.2.1) (g := (mkF m 1 #[.val (.ref u1), .val (.ref u2), .unset] [(.ref u1)])) rfl rfl (hb hby d9_1) _ (by rw [len_of Sz1 Nn1]; exact (XS.aloadN X0.here hx rfl (hb hby d9_2) rfl rfl k))) ?_
 obtain ⟨cl2, Ar2, -, Sz2, Nn2, -, -⟩ := id V_u2
 refine own_go (b := (s₁.setTop (mkF m 35 #[.val (.ref u1), .val (.ref u2), .unset] [(.int (0 : Int32))]))) (fun _ k => X0.arraylength hx (by rw [e0]; exact Ar2.1) (State.isArrayOf_alike hZ.alike Ar2.2.1) (g := (mkF m 3 #[.val (.ref u1), .val (.ref u2), .unset] [(.ref u2), (.int (3 : Int32))])) rfl rfl (hb hby d9_3) _ (by rw [len_of Sz2 Nn2]; exact (XS.icmpYes X0.here hx rfl (pc0 := 4) (pc' := 34) rfl (hb hby d9_4) rfl (feq (by decide : ¬ ((3 : Int32) = (4 : Int32)))).2 (by decide) (by decide) (XS.iconst X0.here hx rfl (hb hby d9_34) k)))) ?_
 obtain ⟨fs, hr, hrun, hended, hW, hsame⟩ := X0.leave (v := some (.int (0 : Int32))) (fun h => by rw [Bd.returns] at h; cases h)
 exact ⟨_, _, retN X0 hx (t := .boolean) Bd.returns (by simp) (hb hby d9_35) hr, hrun, hended, _, _, rfl, (show QrmslN4 Z u1 u2 ku kv y0 y1 y2 x0 x1 x2 x3 h0 n0 _ s₁.heap _ from (by rw [e0]; exact ⟨rfl, N0, rfl⟩)), ⟨_, rfl⟩, hW, hsame.mono (by decide) (by decide)⟩
theorem ef_rmseN4 (m : MethodId) (x0 : Addr) (x1 : Addr) : entryFrame m #[(.ref x0), (.ref x1)] 3 = mkF m 0 #[.val (.ref x0), .val (.ref x1), .unset] [] := by first | (simp [entryFrame, mkF, argsToLocals, Value.category]; done) | rfl
def QrmseN4 (Z : State) (a1 : Addr) (a2 : Addr) (u1 : Addr) (u2 : Addr) (ku : ClassId) (kv : ClassId) (y0 : Int32) (y1 : Int32) (y2 : Int32) (x0 : Int32) (x1 : Int32) (x2 : Int32) (x3 : Int32) (cs : Int32) (h0 : Heap) (n0 : Nat) (v : Option Value) (h : Heap) (L : List Loc) : Prop := v = some (.int (0 : Int32)) ∧ Fr n0 L ∧ h = h0
set_option maxRecDepth 65536 in
set_option maxHeartbeats 40000000 in
theorem rmseN4 (l : Launch) (Z : State) (a0 : Array Value) (hw : ∀ d ∈ tables_1, d.before a0 Z = true) (ws : List Jvm.Cond) (a1 : Addr) (a2 : Addr) (u1 : Addr) (u2 : Addr) (ku : ClassId) (kv : ClassId) (y0 : Int32) (y1 : Int32) (y2 : Int32) (x0 : Int32) (x1 : Int32) (x2 : Int32) (x3 : Int32) (cs : Int32) (h0 : Heap) (n0 : Nat) (Z0 : n0 ≤ h0.size) (O0 : Old Z n0 h0) (S_COMPACT_STRINGS : Sta Z Z.heap "java/lang/String" "COMPACT_STRINGS" "Z" (.int cs)) (hcs : ¬ (cs = (0 : Int32))) (ne_a1_a2 : a1 ≠ a2) (E_a2 : Exa Z h0 a2 "java/lang/String") (Fld_a1_coder : Fld Z h0 a1 "java/lang/String" "coder" "B" (.int (0 : Int32))) (Fld_a1_value : Fld Z h0 a1 "java/lang/String" "value" "[B" (.ref u1)) (Fld_a2_coder : Fld Z h0 a2 "java/lang/String" "coder" "B" (.int (0 : Int32))) (Fld_a2_value : Fld Z h0 a2 "java/lang/String" "value" "[B" (.ref u2)) (V_u1 : Arv Z h0 u1 ku .byte (3 : Int32) [(.int y0), (.int y1), (.int y2)] (.int (0 : Int32))) (V_u2 : Arv Z h0 u2 kv .byte (4 : Int32) [(.int x0), (.int x1), (.int x2), (.int x3)] (.int (0 : Int32))) :
    MetFree l (⟨"java/lang/String", "equals", "(Ljava/lang/Object;)Z"⟩ : MethodName) (head1 (Jvm.Cond.code (⟨"java/lang/String", "equals", "(Ljava/lang/Object;)Z"⟩ : MethodName) jdk_42_method_66_code 3 (some .boolean) :: ws) ({ frames := 1, cells := 0, slots := 0, locals := 14 } : Room)) (fun a U => a = #[(.ref a1), (.ref a2)] ∧ Z.Warmed39 U.vm ∧ U.heap = h0) (fun _ _ _ _ _ => True) (fun _ U o U' => ∃ v L, o = .returned v ∧ QrmseN4 Z a1 a2 u1 u2 ku kv y0 y1 y2 x0 x1 x2 x3 cs h0 n0 v U'.heap L ∧ FrameEnd U o U' L ({ frames := 1, cells := 0, slots := 0, locals := 14 } : Room).cells ({ frames := 1, cells := 0, slots := 0, locals := 14 } : Room).slots) := by
 refine MetFree.of_bodySF (plainFor_of_name pn_8) hisR ?_
 intro p e s m args below meth c s₁ Bd hml0 hP hK
 obtain ⟨rfl, hZ, hh⟩ := hP
 have hx := Bd.exec
 have hby := Bd.bytes
 have hml : c.maxLocals = 3 := hml0
 have hown : s.vm.findClass "java/lang/String" = some m.cls := findClass_of_methodNamed Bd.named
 have hnm := (name_of_methodNamed Bd.named Bd.method).1
 have X0 : Stand p l e ({ frames := 1, cells := 0, slots := 0, locals := 14 } : Room) s m #[(.ref a1), (.ref a2)] below meth c s₁ [] 0 0 := Stand.of_body Bd
 have e0 : s₁.heap = h0 := by rw [← hh, Bd.state]; rfl
 have N0 := Fr.nil n0
 refine own_go (b := (s₁.setTop (mkF m 0 #[.val (.ref a1), .val (.ref a2), .unset] []))) (fun _ k => castTop (ef_rmseN4 m a1 a2) k) ?_
 refine own_go (b := (s₁.setTop (mkF m 8 #[.val (.ref a1), .val (.ref a2), .unset] [(.ref a2)]))) (fun _ k => XS.aloadN X0.here hx rfl (hb hby d8_0) rfl rfl (XS.aloadN X0.here hx rfl (hb hby d8_1) rfl rfl (Jvm.RoadKit.acmp (g := (mkF m 2 #[.val (.ref a1), .val (.ref a2), .unset] [(.ref a2), (.ref a1)])) X0 hx rfl rfl rfl (pc0 := 2) (pc' := 7) (same := false) rfl (hb hby d8_2) rfl (decide_eq_false fun q => ne_a1_a2 (Value.ref.inj q)) (by decide) (by decide) (XS.aloadN X0.here hx rfl (hb hby d8_7) rfl rfl k)))) ?_
 obtain ⟨T1, X1, e1, st1⟩ := instY X0 hx hZ hown (hw _ (List.mem_of_getElem? (i := 58) rfl)) e0 (Ins.self E_a2) (g := (mkF m 8 #[.val (.ref a1), .val (.ref a2), .unset] [(.ref a2)])) rfl rfl (hb hby d8_8)
 refine own_go (b := (T1.setTop (mkF m 15 #[.val (.ref a1), .val (.ref a2), .unset] [(.ref a2)]))) (fun _ k => st1 _ (XS.ifNo X1.here hx rfl (hb hby d8_11) rfl ((if0 _ _).trans (feq (by decide : ¬ ((1 : Int32) = (0 : Int32)))).1) (XS.aloadN X1.here hx rfl (hb hby d8_14) rfl rfl k))) ?_
 obtain ⟨T2, X2, e2, st2⟩ := castY X1 hx hZ hown (hw _ (List.mem_of_getElem? (i := 58) rfl)) e1 (Ins.self E_a2) (g := (mkF m 15 #[.val (.ref a1), .val (.ref a2), .unset] [(.ref a2)])) rfl rfl (hb hby d8_15)
 refine own_go (b := (T2.setTop (mkF m 19 #[.val (.ref a1), .val (.ref a2), .val (.ref a2)] []))) (fun _ k => st2 _ (XS.astoreN X2.here hx rfl (hb hby d8_18) rfl rfl (l' := #[.val (.ref a1), .val (.ref a2), .val (.ref a2)]) rfl k)) ?_
 obtain ⟨T3, X3, e3, st3⟩ := getS2 X2 hx hZ hown (host := "") (Or.inl (hw _ (List.mem_of_getElem? (i := 59) rfl))) Via.refl e2 (S_COMPACT_STRINGS.ext O0.2) (g := (mkF m 19 #[.val (.ref a1), .val (.ref a2), .val (.ref a2)] [])) rfl (hb hby d8_19)
 refine own_go (b := (T3.setTop (mkF m 26 #[.val (.ref a1), .val (.ref a2), .val (.ref a2)] [(.ref a1)]))) (fun _ k => st3 _ (XS.ifNo X3.here hx rfl (hb hby d8_22) rfl ((if0 _ _).trans (feq hcs).1) (XS.aloadN X3.here hx rfl (hb hby d8_25) rfl rfl k))) ?_
 refine own_getf X3 hx hZ hown (hw _ (List.mem_of_getElem? (i := 29) rfl)) Via.refl e3 Fld_a1_coder rfl rfl (hb hby d8_26) (fun T4 X4 e4 => ?_)
 refine own_go (b := (T4.setTop (mkF m 30 #[.val (.ref a1), .val (.ref a2), .val (.ref a2)] [(.ref a2), (.int (0 : Int32))]))) (fun _ k => XS.aloadN X4.here hx rfl (hb hby d8_29) rfl rfl k) ?_
 refine own_getf X4 hx hZ hown (hw _ (List.mem_of_getElem? (i := 29) rfl)) Via.refl e4 Fld_a2_coder rfl rfl (hb hby d8_30) (fun T5 X5 e5 => ?_)
 refine own_go (b := (T5.setTop (mkF m 37 #[.val (.ref a1), .val (.ref a2), .val (.ref a2)] [(.ref a1)]))) (fun _ k => XS.icmpNo X5.here hx rfl (hb hby d8_33) rfl (teq (rfl : (0 : Int32) = (0 : Int32))).2 (XS.aloadN X5.here hx rfl (hb hby d8_36) rfl rfl k)) ?_
 refine own_getf X5 hx hZ hown (hw _ (List.mem_of_getElem? (i := 28) rfl)) Via.refl e5 Fld_a1_value rfl rfl (hb hby d8_37) (fun T6 X6 e6 => ?_)
 refine own_go (b := (T6.setTop (mkF m 41 #[.val (.ref a1), .val (.ref a2), .val (.ref a2)] [(.ref a2), (.ref u1)]))) (fun _ k => XS.aloadN X6.here hx rfl (hb hby d8_40) rfl rfl k) ?_
 refine own_getf X6 hx hZ hown (hw _ (List.mem_of_getElem? (i := 28) rfl)) Via.refl e6 Fld_a2_value rfl rfl (hb hby d8_41) (fun T7 X7 e7 => ?_)
 refine own_stat (W := 0) X7 hx hZ hown e7 (hw _ (List.mem_of_getElem? (i := 60) rfl)) (hw _ (List.mem_of_getElem? (i := 61) rfl)) (rmslN4 l Z a0 hw [] u1 u2 ku kv y0 y1 y2 x0 x1 x2 x3 h0 n0 Z0 V_u1 V_u2) (hw _ (List.mem_of_getElem? (i := 63) rfl)) (hw _ (List.mem_of_getElem? (i := 62) rfl)) rfl (by rw [hml]; rfl) rfl (hb hby d8_44) (lenOf pd___B_B_Z rfl) rfl (by decide) (fun T8 v8 Ll8 X8 hQ8 => ?_)
 obtain ⟨rfl, N8q, eh8⟩ := hQ8
 have N8 := Fr.app N0 N8q
 refine own_go (b := (T8.setTop (mkF m 55 #[.val (.ref a1), .val (.ref a2), .val (.ref a2)] [(.int (0 : Int32))]))) (fun _ k => XS.ifYes X8.here hx rfl (pc0 := 47) (pc' := 54) rfl (hb hby d8_47) rfl ((if0 _ _).trans (teq (rfl : (0 : Int32) = (0 : Int32))).1) (by decide) (by decide) (XS.iconst X8.here hx rfl (hb hby d8_54) k)) ?_
 obtain ⟨fs, hr, hrun, hended, hW, hsame⟩ := X8.leave (v := some (.int (0 : Int32))) (fun h => by rw [Bd.returns] at h; cases h)
 exact ⟨_, _, retN X8 hx (t := .boolean) Bd.returns (by simp) (hb hby d8_55) hr, hrun, hended, _, _, rfl, (show QrmseN4 Z a1 a2 u1 u2 ku kv y0 y1 y2 x0 x1 x2 x3 cs h0 n0 _ T8.heap _ from (by rw [eh8]; exact ⟨rfl, N8, rfl⟩)), ⟨_, rfl⟩, hW, hsame.mono (by decide) (by decide)⟩
theorem ef_rmslE1 (m : MethodId) (x0 : Addr) (x1 : Addr) : entryFrame m #[(.ref x0), (.ref x1)] 3 = mkF m 0 #[.val (.ref x0), .val (.ref x1), .unset] [] := by first | (simp [entryFrame, mkF, argsToLocals, Value.category]; done) | rfl
def QrmslE1 (Z : State) (u1 : Addr) (u2 : Addr) (ku : ClassId) (kv : ClassId) (y0 : Int32) (y1 : Int32) (y2 : Int32) (x0 : Int32) (x1 : Int32) (x2 : Int32) (h0 : Heap) (n0 : Nat) (v : Option Value) (h : Heap) (L : List Loc) : Prop := v = some (.int (0 : Int32)) ∧ Fr n0 L ∧ h = h0
set_option maxRecDepth 65536 in
set_option maxHeartbeats 40000000 in
theorem rmslE1 (l : Launch) (Z : State) (a0 : Array Value) (hw : ∀ d ∈ tables_1, d.before a0 Z = true) (ws : List Jvm.Cond) (u1 : Addr) (u2 : Addr) (ku : ClassId) (kv : ClassId) (y0 : Int32) (y1 : Int32) (y2 : Int32) (x0 : Int32) (x1 : Int32) (x2 : Int32) (h0 : Heap) (n0 : Nat) (Z0 : n0 ≤ h0.size) (V_u1 : Arv Z h0 u1 ku .byte (3 : Int32) [(.int y0), (.int y1), (.int y2)] (.int (0 : Int32))) (V_u2 : Arv Z h0 u2 kv .byte (3 : Int32) [(.int x0), (.int x1), (.int x2)] (.int (0 : Int32))) (hx0 : ¬ (y0 = x0)) :
    MetFree l (⟨"java/lang/StringLatin1", "equals", "([B[B)Z"⟩ : MethodName) (head1 (Jvm.Cond.code (⟨"java/lang/StringLatin1", "equals", "([B[B)Z"⟩ : MethodName) jdk_43_method_13_code 3 (some .boolean) :: ws) ({ frames := 0, cells := 0, slots := 0, locals := 0 } : Room)) (fun a U => a = #[(.ref u1), (.ref u2)] ∧ Z.Warmed39 U.vm ∧ U.heap = h0) (fun _ _ _ _ _ => True) (fun _ U o U' => ∃ v L, o = .returned v ∧ QrmslE1 Z u1 u2 ku kv y0 y1 y2 x0 x1 x2 h0 n0 v U'.heap L ∧ FrameEnd U o U' L ({ frames := 0, cells := 0, slots := 0, locals := 0 } : Room).cells ({ frames := 0, cells := 0, slots := 0, locals := 0 } : Room).slots) := by
 refine MetFree.of_bodySF (plainFor_of_name pn_9) hisR ?_
 intro p e s m args below meth c s₁ Bd hml0 hP hK
 obtain ⟨rfl, hZ, hh⟩ := hP
 have hx := Bd.exec
 have hby := Bd.bytes
 have hml : c.maxLocals = 3 := hml0
 have hown : s.vm.findClass "java/lang/StringLatin1" = some m.cls := findClass_of_methodNamed Bd.named
 have hnm := (name_of_methodNamed Bd.named Bd.method).1
 have X0 : Stand p l e ({ frames := 0, cells := 0, slots := 0, locals := 0 } : Room) s m #[(.ref u1), (.ref u2)] below meth c s₁ [] 0 0 := Stand.of_body Bd
 have e0 : s₁.heap = h0 := by rw [← hh, Bd.state]; rfl
 have N0 := Fr.nil n0
 refine own_go (b := (s₁.setTop (mkF m 0 #[.val (.ref u1), .val (.ref u2), .unset] []))) (fun _ k => castTop (ef_rmslE1 m u1 u2) k) ?_
 refine own_go (b := (s₁.setTop (mkF m 1 #[.val (.ref u1), .val (.ref u2), .unset] [(.ref u1)]))) (fun _ k => XS.aloadN X0.here hx rfl (hb hby d9_0) rfl rfl k) ?_
 obtain ⟨cl1, Ar1, -, Sz1, Nn1, -, -⟩ := id V_u1
 refine own_go (b := (s₁.setTop (mkF m 3 #[.val (.ref u1), .val (.ref u2), .unset] [(.ref u2), (.int (3 : Int32))]))) (fun _ k => X0.arraylength hx (by rw [e0]; exact Ar1.1) (State.isArrayOf_alike hZ.alike Ar1.2.1) (g := (mkF m 1 #[.val (.ref u1), .val (.ref u2), .unset] [(.ref u1)])) rfl rfl (hb hby d9_1) _ (by rw [len_of Sz1 Nn1]; exact (XS.aloadN X0.here hx rfl (hb hby d9_2) rfl rfl k))) ?_
 obtain ⟨cl2, Ar2, -, Sz2, Nn2, -, -⟩ := id V_u2
 refine own_go (b := (s₁.setTop (mkF m 11 #[.val (.ref u1), .val (.ref u2), .val (.int (0 : Int32))] [(.ref u1), (.int (0 : Int32))]))) (fun _ k => X0.arraylength hx (by rw [e0]; exact Ar2.1) (State.isArrayOf_alike hZ.alike Ar2.2.1) (g := (mkF m 3 #[.val (.ref u1), .val (.ref u2), .unset] [(.ref u2), (.int (3 : Int32))])) rfl rfl (hb hby d9_3) _ (by rw [len_of Sz2 Nn2]; exact (XS.icmpNo X0.here hx rfl (hb hby d9_4) rfl (teq (rfl : (3 : Int32) = (3 : Int32))).2 (XS.iconst X0.here hx rfl (hb hby d9_7) (XS.istoreN X0.here hx rfl (hb hby d9_8) rfl (l' := #[.val (.ref u1), .val (.ref u2), .val (.int (0 : Int32))]) rfl (XS.iloadN X0.here hx rfl (hb hby d9_9) rfl (XS.aloadN X0.here hx rfl (hb hby d9_10) rfl rfl k))))))) ?_
 obtain ⟨cl3, Ar3, -, Sz3, Nn3, -, -⟩ := id V_u1
 refine own_go (b := (s₁.setTop (mkF m 17 #[.val (.ref u1), .val (.ref u2), .val (.int (0 : Int32))] [(.int (0 : Int32)), (.ref u1)]))) (fun _ k => X0.arraylength hx (by rw [e0]; exact Ar3.1) (State.isArrayOf_alike hZ.alike Ar3.2.1) (g := (mkF m 11 #[.val (.ref u1), .val (.ref u2), .val (.int (0 : Int32))] [(.ref u1), (.int (0 : Int32))])) rfl rfl (hb hby d9_11) _ (by rw [len_of Sz3 Nn3]; exact (XS.icmpNo X0.here hx rfl (hb hby d9_12) rfl (tlt (by decide : (0 : Int32) < (3 : Int32))).2.1 (XS.aloadN X0.here hx rfl (hb hby d9_15) rfl rfl (XS.iloadN X0.here hx rfl (hb hby d9_16) rfl k))))) ?_
 obtain ⟨cl4, Ar4, ql4, Sz4, Nn4, Hl4, Gl4⟩ := id V_u1
 have hin4 : ¬ ((0 : Int32) < 0 ∨ cl4.slots.size ≤ ((0 : Int32)).toNatClampNeg) := inb_of Sz4 ⟨by decide, by decide⟩
 refine own_go (b := (s₁.setTop (mkF m 20 #[.val (.ref u1), .val (.ref u2), .val (.int (0 : Int32))] [(.int (0 : Int32)), (.ref u2), (.int y0)]))) (fun _ k => X0.baloadBytes hx (j := (0 : Int32)) (v := (.int y0)) (by rw [e0]; exact Ar4.1) (State.isArrayOf_alike hZ.alike Ar4.2.1) Ar4.2.2 hin4 (Hl4.at hin4 rfl) (g := (mkF m 17 #[.val (.ref u1), .val (.ref u2), .val (.int (0 : Int32))] [(.int (0 : Int32)), (.ref u1)])) rfl rfl (hb hby d9_17) _ (XS.aloadN X0.here hx rfl (hb hby d9_18) rfl rfl (XS.iloadN X0.here hx rfl (hb hby d9_19) rfl k))) ?_
 obtain ⟨cl5, Ar5, ql5, Sz5, Nn5, Hl5, Gl5⟩ := id V_u2
 have hin5 : ¬ ((0 : Int32) < 0 ∨ cl5.slots.size ≤ ((0 : Int32)).toNatClampNeg) := inb_of Sz5 ⟨by decide, by decide⟩
 refine own_go (b := (s₁.setTop (mkF m 25 #[.val (.ref u1), .val (.ref u2), .val (.int (0 : Int32))] [(.int (0 : Int32))]))) (fun _ k => X0.baloadBytes hx (j := (0 : Int32)) (v := (.int x0)) (by rw [e0]; exact Ar5.1) (State.isArrayOf_alike hZ.alike Ar5.2.1) Ar5.2.2 hin5 (Hl5.at hin5 rfl) (g := (mkF m 20 #[.val (.ref u1), .val (.ref u2), .val (.int (0 : Int32))] [(.int (0 : Int32)), (.ref u2), (.int y0)])) rfl rfl (hb hby d9_20) _ (XS.icmpNo X0.here hx rfl (hb hby d9_21) rfl (feq hx0).1 (XS.iconst X0.here hx rfl (hb hby d9_24) k))) ?_
 obtain ⟨fs, hr, hrun, hended, hW, hsame⟩ := X0.leave (v := some (.int (0 : Int32))) (fun h => by rw [Bd.returns] at h; cases h)
 exact ⟨_, _, retN X0 hx (t := .boolean) Bd.returns (by simp) (hb hby d9_25) hr, hrun, hended, _, _, rfl, (show QrmslE1 Z u1 u2 ku kv y0 y1 y2 x0 x1 x2 h0 n0 _ s₁.heap _ from (by rw [e0]; exact ⟨rfl, N0, rfl⟩)), ⟨_, rfl⟩, hW, hsame.mono (by decide) (by decide)⟩
theorem ef_rmseE1 (m : MethodId) (x0 : Addr) (x1 : Addr) : entryFrame m #[(.ref x0), (.ref x1)] 3 = mkF m 0 #[.val (.ref x0), .val (.ref x1), .unset] [] := by first | (simp [entryFrame, mkF, argsToLocals, Value.category]; done) | rfl
def QrmseE1 (Z : State) (a1 : Addr) (a2 : Addr) (u1 : Addr) (u2 : Addr) (ku : ClassId) (kv : ClassId) (y0 : Int32) (y1 : Int32) (y2 : Int32) (x0 : Int32) (x1 : Int32) (x2 : Int32) (cs : Int32) (h0 : Heap) (n0 : Nat) (v : Option Value) (h : Heap) (L : List Loc) : Prop := v = some (.int (0 : Int32)) ∧ Fr n0 L ∧ h = h0
set_option maxRecDepth 65536 in
set_option maxHeartbeats 40000000 in
theorem rmseE1 (l : Launch) (Z : State) (a0 : Array Value) (hw : ∀ d ∈ tables_1, d.before a0 Z = true) (ws : List Jvm.Cond) (a1 : Addr) (a2 : Addr) (u1 : Addr) (u2 : Addr) (ku : ClassId) (kv : ClassId) (y0 : Int32) (y1 : Int32) (y2 : Int32) (x0 : Int32) (x1 : Int32) (x2 : Int32) (cs : Int32) (h0 : Heap) (n0 : Nat) (Z0 : n0 ≤ h0.size) (O0 : Old Z n0 h0) (S_COMPACT_STRINGS : Sta Z Z.heap "java/lang/String" "COMPACT_STRINGS" "Z" (.int cs)) (hcs : ¬ (cs = (0 : Int32))) (ne_a1_a2 : a1 ≠ a2) (E_a2 : Exa Z h0 a2 "java/lang/String") (Fld_a1_coder : Fld Z h0 a1 "java/lang/String" "coder" "B" (.int (0 : Int32))) (Fld_a1_value : Fld Z h0 a1 "java/lang/String" "value" "[B" (.ref u1)) (Fld_a2_coder : Fld Z h0 a2 "java/lang/String" "coder" "B" (.int (0 : Int32))) (Fld_a2_value : Fld Z h0 a2 "java/lang/String" "value" "[B" (.ref u2)) (V_u1 : Arv Z h0 u1 ku .byte (3 : Int32) [(.int y0), (.int y1), (.int y2)] (.int (0 : Int32))) (V_u2 : Arv Z h0 u2 kv .byte (3 : Int32) [(.int x0), (.int x1), (.int x2)] (.int (0 : Int32))) (hx0 : ¬ (y0 = x0)) :
    MetFree l (⟨"java/lang/String", "equals", "(Ljava/lang/Object;)Z"⟩ : MethodName) (head1 (Jvm.Cond.code (⟨"java/lang/String", "equals", "(Ljava/lang/Object;)Z"⟩ : MethodName) jdk_42_method_66_code 3 (some .boolean) :: ws) ({ frames := 1, cells := 0, slots := 0, locals := 14 } : Room)) (fun a U => a = #[(.ref a1), (.ref a2)] ∧ Z.Warmed39 U.vm ∧ U.heap = h0) (fun _ _ _ _ _ => True) (fun _ U o U' => ∃ v L, o = .returned v ∧ QrmseE1 Z a1 a2 u1 u2 ku kv y0 y1 y2 x0 x1 x2 cs h0 n0 v U'.heap L ∧ FrameEnd U o U' L ({ frames := 1, cells := 0, slots := 0, locals := 14 } : Room).cells ({ frames := 1, cells := 0, slots := 0, locals := 14 } : Room).slots) := by
 refine MetFree.of_bodySF (plainFor_of_name pn_8) hisR ?_
 intro p e s m args below meth c s₁ Bd hml0 hP hK
 obtain ⟨rfl, hZ, hh⟩ := hP
 have hx := Bd.exec
 have hby := Bd.bytes
 have hml : c.maxLocals = 3 := hml0
 have hown : s.vm.findClass "java/lang/String" = some m.cls := findClass_of_methodNamed Bd.named
 have hnm := (name_of_methodNamed Bd.named Bd.method).1
 have X0 : Stand p l e ({ frames := 1, cells := 0, slots := 0, locals := 14 } : Room) s m #[(.ref a1), (.ref a2)] below meth c s₁ [] 0 0 := Stand.of_body Bd
 have e0 : s₁.heap = h0 := by rw [← hh, Bd.state]; rfl
 have N0 := Fr.nil n0
 refine own_go (b := (s₁.setTop (mkF m 0 #[.val (.ref a1), .val (.ref a2), .unset] []))) (fun _ k => castTop (ef_rmseE1 m a1 a2) k) ?_
 refine own_go (b := (s₁.setTop (mkF m 8 #[.val (.ref a1), .val (.ref a2), .unset] [(.ref a2)]))) (fun _ k => XS.aloadN X0.here hx rfl (hb hby d8_0) rfl rfl (XS.aloadN X0.here hx rfl (hb hby d8_1) rfl rfl (Jvm.RoadKit.acmp (g := (mkF m 2 #[.val (.ref a1), .val (.ref a2), .unset] [(.ref a2), (.ref a1)])) X0 hx rfl rfl rfl (pc0 := 2) (pc' := 7) (same := false) rfl (hb hby d8_2) rfl (decide_eq_false fun q => ne_a1_a2 (Value.ref.inj q)) (by decide) (by decide) (XS.aloadN X0.here hx rfl (hb hby d8_7) rfl rfl k)))) ?_
 obtain ⟨T1, X1, e1, st1⟩ := instY X0 hx hZ hown (hw _ (List.mem_of_getElem? (i := 58) rfl)) e0 (Ins.self E_a2) (g := (mkF m 8 #[.val (.ref a1), .val (.ref a2), .unset] [(.ref a2)])) rfl rfl (hb hby d8_8)
 refine own_go (b := (T1.setTop (mkF m 15 #[.val (.ref a1), .val (.ref a2), .unset] [(.ref a2)]))) (fun _ k => st1 _ (XS.ifNo X1.here hx rfl (hb hby d8_11) rfl ((if0 _ _).trans (feq (by decide : ¬ ((1 : Int32) = (0 : Int32)))).1) (XS.aloadN X1.here hx rfl (hb hby d8_14) rfl rfl k))) ?_
 obtain ⟨T2, X2, e2, st2⟩ := castY X1 hx hZ hown (hw _ (List.mem_of_getElem? (i := 58) rfl)) e1 (Ins.self E_a2) (g := (mkF m 15 #[.val (.ref a1), .val (.ref a2), .unset] [(.ref a2)])) rfl rfl (hb hby d8_15)
 refine own_go (b := (T2.setTop (mkF m 19 #[.val (.ref a1), .val (.ref a2), .val (.ref a2)] []))) (fun _ k => st2 _ (XS.astoreN X2.here hx rfl (hb hby d8_18) rfl rfl (l' := #[.val (.ref a1), .val (.ref a2), .val (.ref a2)]) rfl k)) ?_
 obtain ⟨T3, X3, e3, st3⟩ := getS2 X2 hx hZ hown (host := "") (Or.inl (hw _ (List.mem_of_getElem? (i := 59) rfl))) Via.refl e2 (S_COMPACT_STRINGS.ext O0.2) (g := (mkF m 19 #[.val (.ref a1), .val (.ref a2), .val (.ref a2)] [])) rfl (hb hby d8_19)
 refine own_go (b := (T3.setTop (mkF m 26 #[.val (.ref a1), .val (.ref a2), .val (.ref a2)] [(.ref a1)]))) (fun _ k => st3 _ (XS.ifNo X3.here hx rfl (hb hby d8_22) rfl ((if0 _ _).trans (feq hcs).1) (XS.aloadN X3.here hx rfl (hb hby d8_25) rfl rfl k))) ?_
 refine own_getf X3 hx hZ hown (hw _ (List.mem_of_getElem? (i := 29) rfl)) Via.refl e3 Fld_a1_coder rfl rfl (hb hby d8_26) (fun T4 X4 e4 => ?_)
 refine own_go (b := (T4.setTop (mkF m 30 #[.val (.ref a1), .val (.ref a2), .val (.ref a2)] [(.ref a2), (.int (0 : Int32))]))) (fun _ k => XS.aloadN X4.here hx rfl (hb hby d8_29) rfl rfl k) ?_
 refine own_getf X4 hx hZ hown (hw _ (List.mem_of_getElem? (i := 29) rfl)) Via.refl e4 Fld_a2_coder rfl rfl (hb hby d8_30) (fun T5 X5 e5 => ?_)
 refine own_go (b := (T5.setTop (mkF m 37 #[.val (.ref a1), .val (.ref a2), .val (.ref a2)] [(.ref a1)]))) (fun _ k => XS.icmpNo X5.here hx rfl (hb hby d8_33) rfl (teq (rfl : (0 : Int32) = (0 : Int32))).2 (XS.aloadN X5.here hx rfl (hb hby d8_36) rfl rfl k)) ?_
 refine own_getf X5 hx hZ hown (hw _ (List.mem_of_getElem? (i := 28) rfl)) Via.refl e5 Fld_a1_value rfl rfl (hb hby d8_37) (fun T6 X6 e6 => ?_)
 refine own_go (b := (T6.setTop (mkF m 41 #[.val (.ref a1), .val (.ref a2), .val (.ref a2)] [(.ref a2), (.ref u1)]))) (fun _ k => XS.aloadN X6.here hx rfl (hb hby d8_40) rfl rfl k) ?_
 refine own_getf X6 hx hZ hown (hw _ (List.mem_of_getElem? (i := 28) rfl)) Via.refl e6 Fld_a2_value rfl rfl (hb hby d8_41) (fun T7 X7 e7 => ?_)
 refine own_stat (W := 0) X7 hx hZ hown e7 (hw _ (List.mem_of_getElem? (i := 60) rfl)) (hw _ (List.mem_of_getElem? (i := 61) rfl)) (rmslE1 l Z a0 hw [] u1 u2 ku kv y0 y1 y2 x0 x1 x2 h0 n0 Z0 V_u1 V_u2 hx0) (hw _ (List.mem_of_getElem? (i := 63) rfl)) (hw _ (List.mem_of_getElem? (i := 62) rfl)) rfl (by rw [hml]; rfl) rfl (hb hby d8_44) (lenOf pd___B_B_Z rfl) rfl (by decide) (fun T8 v8 Ll8 X8 hQ8 => ?_)
 obtain ⟨rfl, N8q, eh8⟩ := hQ8
 have N8 := Fr.app N0 N8q
 refine own_go (b := (T8.setTop (mkF m 55 #[.val (.ref a1), .val (.ref a2), .val (.ref a2)] [(.int (0 : Int32))]))) (fun _ k => XS.ifYes X8.here hx rfl (pc0 := 47) (pc' := 54) rfl (hb hby d8_47) rfl ((if0 _ _).trans (teq (rfl : (0 : Int32) = (0 : Int32))).1) (by decide) (by decide) (XS.iconst X8.here hx rfl (hb hby d8_54) k)) ?_
 obtain ⟨fs, hr, hrun, hended, hW, hsame⟩ := X8.leave (v := some (.int (0 : Int32))) (fun h => by rw [Bd.returns] at h; cases h)
 exact ⟨_, _, retN X8 hx (t := .boolean) Bd.returns (by simp) (hb hby d8_55) hr, hrun, hended, _, _, rfl, (show QrmseE1 Z a1 a2 u1 u2 ku kv y0 y1 y2 x0 x1 x2 cs h0 n0 _ T8.heap _ from (by rw [eh8]; exact ⟨rfl, N8, rfl⟩)), ⟨_, rfl⟩, hW, hsame.mono (by decide) (by decide)⟩
theorem ef_rmslE2 (m : MethodId) (x0 : Addr) (x1 : Addr) : entryFrame m #[(.ref x0), (.ref x1)] 3 = mkF m 0 #[.val (.ref x0), .val (.ref x1), .unset] [] := by first | (simp [entryFrame, mkF, argsToLocals, Value.category]; done) | rfl
def QrmslE2 (Z : State) (u1 : Addr) (u2 : Addr) (ku : ClassId) (kv : ClassId) (y0 : Int32) (y1 : Int32) (y2 : Int32) (x0 : Int32) (x1 : Int32) (x2 : Int32) (h0 : Heap) (n0 : Nat) (v : Option Value) (h : Heap) (L : List Loc) : Prop := v = some (.int (0 : Int32)) ∧ Fr n0 L ∧ h = h0
set_option maxRecDepth 65536 in
set_option maxHeartbeats 40000000 in
theorem rmslE2 (l : Launch) (Z : State) (a0 : Array Value) (hw : ∀ d ∈ tables_1, d.before a0 Z = true) (ws : List Jvm.Cond) (u1 : Addr) (u2 : Addr) (ku : ClassId) (kv : ClassId) (y0 : Int32) (y1 : Int32) (y2 : Int32) (x0 : Int32) (x1 : Int32) (x2 : Int32) (h0 : Heap) (n0 : Nat) (Z0 : n0 ≤ h0.size) (V_u1 : Arv Z h0 u1 ku .byte (3 : Int32) [(.int y0), (.int y1), (.int y2)] (.int (0 : Int32))) (V_u2 : Arv Z h0 u2 kv .byte (3 : Int32) [(.int x0), (.int x1), (.int x2)] (.int (0 : Int32))) (hx0 : y0 = x0) (hx1 : ¬ (y1 = x1)) :
    MetFree l (⟨"java/lang/StringLatin1", "equals", "([B[B)Z"⟩ : MethodName) (head1 (Jvm.Cond.code (⟨"java/lang/StringLatin1", "equals", "([B[B)Z"⟩ : MethodName) jdk_43_method_13_code 3 (some .boolean) :: ws) ({ frames := 0, cells := 0, slots := 0, locals := 0 } : Room)) (fun a U => a = #[(.ref u1), (.ref u2)] ∧ Z.Warmed39 U.vm ∧ U.heap = h0) (fun _ _ _ _ _ => True) (fun _ U o U' => ∃ v L, o = .returned v ∧ QrmslE2 Z u1 u2 ku kv y0 y1 y2 x0 x1 x2 h0 n0 v U'.heap L ∧ FrameEnd U o U' L ({ frames := 0, cells := 0, slots := 0, locals := 0 } : Room).cells ({ frames := 0, cells := 0, slots := 0, locals := 0 } : Room).slots) := by
 refine MetFree.of_bodySF (plainFor_of_name pn_9) hisR ?_
 intro p e s m args below meth c s₁ Bd hml0 hP hK
 obtain ⟨rfl, hZ, hh⟩ := hP
 have hx := Bd.exec
 have hby := Bd.bytes
 have hml : c.maxLocals = 3 := hml0
 have hown : s.vm.findClass "java/lang/StringLatin1" = some m.cls := findClass_of_methodNamed Bd.named
 have hnm := (name_of_methodNamed Bd.named Bd.method).1
 have X0 : Stand p l e ({ frames := 0, cells := 0, slots := 0, locals := 0 } : Room) s m #[(.ref u1), (.ref u2)] below meth c s₁ [] 0 0 := Stand.of_body Bd
 have e0 : s₁.heap = h0 := by rw [← hh, Bd.state]; rfl
 have N0 := Fr.nil n0
 refine own_go (b := (s₁.setTop (mkF m 0 #[.val (.ref u1), .val (.ref u2), .unset] []))) (fun _ k => castTop (ef_rmslE2 m u1 u2) k) ?_
 refine own_go (b := (s₁.setTop (mkF m 1 #[.val (.ref u1), .val (.ref u2), .unset] [(.ref u1)]))) (fun _ k => XS.aloadN X0.here hx rfl (hb hby d9_0) rfl rfl k) ?_
 obtain ⟨cl1, Ar1, -, Sz1, Nn1, -, -⟩ := id V_u1
 refine own_go (b := (s₁.setTop (mkF m 3 #[.val (.ref u1), .val (.ref u2), .unset] [(.ref u2), (.int (3 : Int32))]))) (fun _ k => X0.arraylength hx (by rw [e0]; exact Ar1.1) (State.isArrayOf_alike hZ.alike Ar1.2.1) (g := (mkF m 1 #[.val (.ref u1), .val (.ref u2), .unset] [(.ref u1)])) rfl rfl (hb hby d9_1) _ (by rw [len_of Sz1 Nn1]; exact (XS.aloadN X0.here hx rfl (hb hby d9_2) rfl rfl k))) ?_
 obtain ⟨cl2, Ar2, -, Sz2, Nn2, -, -⟩ := id V_u2
 refine own_go (b := (s₁.setTop (mkF m 11 #[.val (.ref u1), .val (.ref u2), .val (.int (0 : Int32))] [(.ref u1), (.int (0 : Int32))]))) (fun _ k => X0.arraylength hx (by rw [e0]; exact Ar2.1) (State.isArrayOf_alike hZ.alike Ar2.2.1) (g := (mkF m 3 #[.val (.ref u1), .val (.ref u2), .unset] [(.ref u2), (.int (3 : Int32))])) rfl rfl (hb hby d9_3) _ (by rw [len_of Sz2 Nn2]; exact (XS.icmpNo X0.here hx rfl (hb hby d9_4) rfl (teq (rfl : (3 : Int32) = (3 : Int32))).2 (XS.iconst X0.here hx rfl (hb hby d9_7) (XS.istoreN X0.here hx rfl (hb hby d9_8) rfl (l' := #[.val (.ref u1), .val (.ref u2), .val (.int (0 : Int32))]) rfl (XS.iloadN X0.here hx rfl (hb hby d9_9) rfl (XS.aloadN X0.here hx rfl (hb hby d9_10) rfl rfl k))))))) ?_
 obtain ⟨cl3, Ar3, -, Sz3, Nn3, -, -⟩ := id V_u1
 refine own_go (b := (s₁.setTop (mkF m 17 #[.val (.ref u1), .val (.ref u2), .val (.int (0 : Int32))] [(.int (0 : Int32)), (.ref u1)]))) (fun _ k => X0.arraylength hx (by rw [e0]; exact Ar3.1) (State.isArrayOf_alike hZ.alike Ar3.2.1) (g := (mkF m 11 #[.val (.ref u1), .val (.ref u2), .val (.int (0 : Int32))] [(.ref u1), (.int (0 : Int32))])) rfl rfl (hb hby d9_11) _ (by rw [len_of Sz3 Nn3]; exact (XS.icmpNo X0.here hx rfl (hb hby d9_12) rfl (tlt (by decide : (0 : Int32) < (3 : Int32))).2.1 (XS.aloadN X0.here hx rfl (hb hby d9_15) rfl rfl (XS.iloadN X0.here hx rfl (hb hby d9_16) rfl k))))) ?_
 obtain ⟨cl4, Ar4, ql4, Sz4, Nn4, Hl4, Gl4⟩ := id V_u1
 have hin4 : ¬ ((0 : Int32) < 0 ∨ cl4.slots.size ≤ ((0 : Int32)).toNatClampNeg) := inb_of Sz4 ⟨by decide, by decide⟩
 refine own_go (b := (s₁.setTop (mkF m 20 #[.val (.ref u1), .val (.ref u2), .val (.int (0 : Int32))] [(.int (0 : Int32)), (.ref u2), (.int y0)]))) (fun _ k => X0.baloadBytes hx (j := (0 : Int32)) (v := (.int y0)) (by rw [e0]; exact Ar4.1) (State.isArrayOf_alike hZ.alike Ar4.2.1) Ar4.2.2 hin4 (Hl4.at hin4 rfl) (g := (mkF m 17 #[.val (.ref u1), .val (.ref u2), .val (.int (0 : Int32))] [(.int (0 : Int32)), (.ref u1)])) rfl rfl (hb hby d9_17) _ (XS.aloadN X0.here hx rfl (hb hby d9_18) rfl rfl (XS.iloadN X0.here hx rfl (hb hby d9_19) rfl k))) ?_
 obtain ⟨cl5, Ar5, ql5, Sz5, Nn5, Hl5, Gl5⟩ := id V_u2
 have hin5 : ¬ ((0 : Int32) < 0 ∨ cl5.slots.size ≤ ((0 : Int32)).toNatClampNeg) := inb_of Sz5 ⟨by decide, by decide⟩
 refine own_go (b := (s₁.setTop (mkF m 11 #[.val (.ref u1), .val (.ref u2), .val (.int (1 : Int32))] [(.ref u1), (.int (1 : Int32))]))) (fun _ k => X0.baloadBytes hx (j := (0 : Int32)) (v := (.int x0)) (by rw [e0]; exact Ar5.1) (State.isArrayOf_alike hZ.alike Ar5.2.1) Ar5.2.2 hin5 (Hl5.at hin5 rfl) (g := (mkF m 20 #[.val (.ref u1), .val (.ref u2), .val (.int (0 : Int32))] [(.int (0 : Int32)), (.ref u2), (.int y0)])) rfl rfl (hb hby d9_20) _ (XS.icmpYes X0.here hx rfl (pc0 := 21) (pc' := 26) rfl (hb hby d9_21) rfl (teq hx0).1 (by decide) (by decide) (XS.iinc X0.here hx rfl (hb hby d9_26) rfl (l' := #[.val (.ref u1), .val (.ref u2), .val (.int (1 : Int32))]) rfl (XS.goto X0.here hx rfl (pc0 := 29) (pc' := 9) rfl (hb hby d9_29) (by decide) (by decide) (XS.iloadN X0.here hx rfl (hb hby d9_9) rfl (XS.aloadN X0.here hx rfl (hb hby d9_10) rfl rfl k)))))) ?_
 obtain ⟨cl6, Ar6, -, Sz6, Nn6, -, -⟩ := id V_u1
 refine own_go (b := (s₁.setTop (mkF m 17 #[.val (.ref u1), .val (.ref u2), .val (.int (1 : Int32))] [(.int (1 : Int32)), (.ref u1)]))) (fun _ k => X0.arraylength hx (by rw [e0]; exact Ar6.1) (State.isArrayOf_alike hZ.alike Ar6.2.1) (g := (mkF m 11 #[.val (.ref u1), .val (.ref u2), .val (.int (1 : Int32))] [(.ref u1), (.int (1 : Int32))])) rfl rfl (hb hby d9_11) _ (by rw [len_of Sz6 Nn6]; exact (XS.icmpNo X0.here hx rfl (hb hby d9_12) rfl (tlt (by decide : (1 : Int32) < (3 : Int32))).2.1 (XS.aloadN X0.here hx rfl (hb hby d9_15) rfl rfl (XS.iloadN X0.here hx rfl (hb hby d9_16) rfl k))))) ?_
 obtain ⟨cl7, Ar7, ql7, Sz7, Nn7, Hl7, Gl7⟩ := id V_u1
 have hin7 : ¬ ((1 : Int32) < 0 ∨ cl7.slots.size ≤ ((1 : Int32)).toNatClampNeg) := inb_of Sz7 ⟨by decide, by decide⟩
 refine own_go (b := (s₁.setTop (mkF m 20 #[.val (.ref u1), .val (.ref u2), .val (.int (1 : Int32))] [(.int (1 : Int32)), (.ref u2), (.int y1)]))) (fun _ k => X0.baloadBytes hx (j := (1 : Int32)) (v := (.int y1)) (by rw [e0]; exact Ar7.1) (State.isArrayOf_alike hZ.alike Ar7.2.1) Ar7.2.2 hin7 (Hl7.at hin7 rfl) (g := (mkF m 17 #[.val (.ref u1), .val (.ref u2), .val (.int (1 : Int32))] [(.int (1 : Int32)), (.ref u1)])) rfl rfl (hb hby d9_17) _ (XS.aloadN X0.here hx rfl (hb hby d9_18) rfl rfl (XS.iloadN X0.here hx rfl (hb hby d9_19) rfl k))) ?_
 obtain ⟨cl8, Ar8, ql8, Sz8, Nn8, Hl8, Gl8⟩ := id V_u2
 have hin8 : ¬ ((1 : Int32) < 0 ∨ cl8.slots.size ≤ ((1 : Int32)).toNatClampNeg) := inb_of Sz8 ⟨by decide, by decide⟩
 refine own_go (b := (s₁.setTop (mkF m 25 #[.val (.ref u1), .val (.ref u2), .val (.int (1 : Int32))] [(.int (0 : Int32))]))) (fun _ k => X0.baloadBytes hx (j := (1 : Int32)) (v := (.int x1)) (by rw [e0]; exact Ar8.1) (State.isArrayOf_alike hZ.alike Ar8.2.1) Ar8.2.2 hin8 (Hl8.at hin8 rfl) (g := (mkF m 20 #[.val (.ref u1), .val (.ref u2), .val (.int (1 : Int32))] [(.int (1 : Int32)), (.ref u2), (.int y1)])) rfl rfl (hb hby d9_20) _ (XS.icmpNo X0.here hx rfl (hb hby d9_21) rfl (feq hx1).1 (XS.iconst X0.here hx rfl (hb hby d9_24) k))) ?_
 obtain ⟨fs, hr, hrun, hended, hW, hsame⟩ := X0.leave (v := some (.int (0 : Int32))) (fun h => by rw [Bd.returns] at h; cases h)
 exact ⟨_, _, retN X0 hx (t := .boolean) Bd.returns (by simp) (hb hby d9_25) hr, hrun, hended, _, _, rfl, (show QrmslE2 Z u1 u2 ku kv y0 y1 y2 x0 x1 x2 h0 n0 _ s₁.heap _ from (by rw [e0]; exact ⟨rfl, N0, rfl⟩)), ⟨_, rfl⟩, hW, hsame.mono (by decide) (by decide)⟩
theorem ef_rmseE2 (m : MethodId) (x0 : Addr) (x1 : Addr) : entryFrame m #[(.ref x0), (.ref x1)] 3 = mkF m 0 #[.val (.ref x0), .val (.ref x1), .unset] [] := by first | (simp [entryFrame, mkF, argsToLocals, Value.category]; done) | rfl
def QrmseE2 (Z : State) (a1 : Addr) (a2 : Addr) (u1 : Addr) (u2 : Addr) (ku : ClassId) (kv : ClassId) (y0 : Int32) (y1 : Int32) (y2 : Int32) (x0 : Int32) (x1 : Int32) (x2 : Int32) (cs : Int32) (h0 : Heap) (n0 : Nat) (v : Option Value) (h : Heap) (L : List Loc) : Prop := v = some (.int (0 : Int32)) ∧ Fr n0 L ∧ h = h0
set_option maxRecDepth 65536 in
set_option maxHeartbeats 40000000 in
theorem rmseE2 (l : Launch) (Z : State) (a0 : Array Value) (hw : ∀ d ∈ tables_1, d.before a0 Z = true) (ws : List Jvm.Cond) (a1 : Addr) (a2 : Addr) (u1 : Addr) (u2 : Addr) (ku : ClassId) (kv : ClassId) (y0 : Int32) (y1 : Int32) (y2 : Int32) (x0 : Int32) (x1 : Int32) (x2 : Int32) (cs : Int32) (h0 : Heap) (n0 : Nat) (Z0 : n0 ≤ h0.size) (O0 : Old Z n0 h0) (S_COMPACT_STRINGS : Sta Z Z.heap "java/lang/String" "COMPACT_STRINGS" "Z" (.int cs)) (hcs : ¬ (cs = (0 : Int32))) (ne_a1_a2 : a1 ≠ a2) (E_a2 : Exa Z h0 a2 "java/lang/String") (Fld_a1_coder : Fld Z h0 a1 "java/lang/String" "coder" "B" (.int (0 : Int32))) (Fld_a1_value : Fld Z h0 a1 "java/lang/String" "value" "[B" (.ref u1)) (Fld_a2_coder : Fld Z h0 a2 "java/lang/String" "coder" "B" (.int (0 : Int32))) (Fld_a2_value : Fld Z h0 a2 "java/lang/String" "value" "[B" (.ref u2)) (V_u1 : Arv Z h0 u1 ku .byte (3 : Int32) [(.int y0), (.int y1), (.int y2)] (.int (0 : Int32))) (V_u2 : Arv Z h0 u2 kv .byte (3 : Int32) [(.int x0), (.int x1), (.int x2)] (.int (0 : Int32))) (hx0 : y0 = x0) (hx1 : ¬ (y1 = x1)) :
    MetFree l (⟨"java/lang/String", "equals", "(Ljava/lang/Object;)Z"⟩ : MethodName) (head1 (Jvm.Cond.code (⟨"java/lang/String", "equals", "(Ljava/lang/Object;)Z"⟩ : MethodName) jdk_42_method_66_code 3 (some .boolean) :: ws) ({ frames := 1, cells := 0, slots := 0, locals := 14 } : Room)) (fun a U => a = #[(.ref a1), (.ref a2)] ∧ Z.Warmed39 U.vm ∧ U.heap = h0) (fun _ _ _ _ _ => True) (fun _ U o U' => ∃ v L, o = .returned v ∧ QrmseE2 Z a1 a2 u1 u2 ku kv y0 y1 y2 x0 x1 x2 cs h0 n0 v U'.heap L ∧ FrameEnd U o U' L ({ frames := 1, cells := 0, slots := 0, locals := 14 } : Room).cells ({ frames := 1, cells := 0, slots := 0, locals := 14 } : Room).slots) := by
 refine MetFree.of_bodySF (plainFor_of_name pn_8) hisR ?_
 intro p e s m args below meth c s₁ Bd hml0 hP hK
 obtain ⟨rfl, hZ, hh⟩ := hP
 have hx := Bd.exec
 have hby := Bd.bytes
 have hml : c.maxLocals = 3 := hml0
 have hown : s.vm.findClass "java/lang/String" = some m.cls := findClass_of_methodNamed Bd.named
 have hnm := (name_of_methodNamed Bd.named Bd.method).1
 have X0 : Stand p l e ({ frames := 1, cells := 0, slots := 0, locals := 14 } : Room) s m #[(.ref a1), (.ref a2)] below meth c s₁ [] 0 0 := Stand.of_body Bd
 have e0 : s₁.heap = h0 := by rw [← hh, Bd.state]; rfl
 have N0 := Fr.nil n0
 refine own_go (b := (s₁.setTop (mkF m 0 #[.val (.ref a1), .val (.ref a2), .unset] []))) (fun _ k => castTop (ef_rmseE2 m a1 a2) k) ?_
 refine own_go (b := (s₁.setTop (mkF m 8 #[.val (.ref a1), .val (.ref a2), .unset] [(.ref a2)]))) (fun _ k => XS.aloadN X0.here hx rfl (hb hby d8_0) rfl rfl (XS.aloadN X0.here hx rfl (hb hby d8_1) rfl rfl (Jvm.RoadKit.acmp (g := (mkF m 2 #[.val (.ref a1), .val (.ref a2), .unset] [(.ref a2), (.ref a1)])) X0 hx rfl rfl rfl (pc0 := 2) (pc' := 7) (same := false) rfl (hb hby d8_2) rfl (decide_eq_false fun q => ne_a1_a2 (Value.ref.inj q)) (by decide) (by decide) (XS.aloadN X0.here hx rfl (hb hby d8_7) rfl rfl k)))) ?_
 obtain ⟨T1, X1, e1, st1⟩ := instY X0 hx hZ hown (hw _ (List.mem_of_getElem? (i := 58) rfl)) e0 (Ins.self E_a2) (g := (mkF m 8 #[.val (.ref a1), .val (.ref a2), .unset] [(.ref a2)])) rfl rfl (hb hby d8_8)
 refine own_go (b := (T1.setTop (mkF m 15 #[.val (.ref a1), .val (.ref a2), .unset] [(.ref a2)]))) (fun _ k => st1 _ (XS.ifNo X1.here hx rfl (hb hby d8_11) rfl ((if0 _ _).trans (feq (by decide : ¬ ((1 : Int32) = (0 : Int32)))).1) (XS.aloadN X1.here hx rfl (hb hby d8_14) rfl rfl k))) ?_
 obtain ⟨T2, X2, e2, st2⟩ := castY X1 hx hZ hown (hw _ (List.mem_of_getElem? (i := 58) rfl)) e1 (Ins.self E_a2) (g := (mkF m 15 #[.val (.ref a1), .val (.ref a2), .unset] [(.ref a2)])) rfl rfl (hb hby d8_15)
 refine own_go (b := (T2.setTop (mkF m 19 #[.val (.ref a1), .val (.ref a2), .val (.ref a2)] []))) (fun _ k => st2 _ (XS.astoreN X2.here hx rfl (hb hby d8_18) rfl rfl (l' := #[.val (.ref a1), .val (.ref a2), .val (.ref a2)]) rfl k)) ?_
 obtain ⟨T3, X3, e3, st3⟩ := getS2 X2 hx hZ hown (host := "") (Or.inl (hw _ (List.mem_of_getElem? (i := 59) rfl))) Via.refl e2 (S_COMPACT_STRINGS.ext O0.2) (g := (mkF m 19 #[.val (.ref a1), .val (.ref a2), .val (.ref a2)] [])) rfl (hb hby d8_19)
 refine own_go (b := (T3.setTop (mkF m 26 #[.val (.ref a1), .val (.ref a2), .val (.ref a2)] [(.ref a1)]))) (fun _ k => st3 _ (XS.ifNo X3.here hx rfl (hb hby d8_22) rfl ((if0 _ _).trans (feq hcs).1) (XS.aloadN X3.here hx rfl (hb hby d8_25) rfl rfl k))) ?_
 refine own_getf X3 hx hZ hown (hw _ (List.mem_of_getElem? (i := 29) rfl)) Via.refl e3 Fld_a1_coder rfl rfl (hb hby d8_26) (fun T4 X4 e4 => ?_)
 refine own_go (b := (T4.setTop (mkF m 30 #[.val (.ref a1), .val (.ref a2), .val (.ref a2)] [(.ref a2), (.int (0 : Int32))]))) (fun _ k => XS.aloadN X4.here hx rfl (hb hby d8_29) rfl rfl k) ?_
 refine own_getf X4 hx hZ hown (hw _ (List.mem_of_getElem? (i := 29) rfl)) Via.refl e4 Fld_a2_coder rfl rfl (hb hby d8_30) (fun T5 X5 e5 => ?_)
 refine own_go (b := (T5.setTop (mkF m 37 #[.val (.ref a1), .val (.ref a2), .val (.ref a2)] [(.ref a1)]))) (fun _ k => XS.icmpNo X5.here hx rfl (hb hby d8_33) rfl (teq (rfl : (0 : Int32) = (0 : Int32))).2 (XS.aloadN X5.here hx rfl (hb hby d8_36) rfl rfl k)) ?_
 refine own_getf X5 hx hZ hown (hw _ (List.mem_of_getElem? (i := 28) rfl)) Via.refl e5 Fld_a1_value rfl rfl (hb hby d8_37) (fun T6 X6 e6 => ?_)
 refine own_go (b := (T6.setTop (mkF m 41 #[.val (.ref a1), .val (.ref a2), .val (.ref a2)] [(.ref a2), (.ref u1)]))) (fun _ k => XS.aloadN X6.here hx rfl (hb hby d8_40) rfl rfl k) ?_
 refine own_getf X6 hx hZ hown (hw _ (List.mem_of_getElem? (i := 28) rfl)) Via.refl e6 Fld_a2_value rfl rfl (hb hby d8_41) (fun T7 X7 e7 => ?_)
 refine own_stat (W := 0) X7 hx hZ hown e7 (hw _ (List.mem_of_getElem? (i := 60) rfl)) (hw _ (List.mem_of_getElem? (i := 61) rfl)) (rmslE2 l Z a0 hw [] u1 u2 ku kv y0 y1 y2 x0 x1 x2 h0 n0 Z0 V_u1 V_u2 hx0 hx1) (hw _ (List.mem_of_getElem? (i := 63) rfl)) (hw _ (List.mem_of_getElem? (i := 62) rfl)) rfl (by rw [hml]; rfl) rfl (hb hby d8_44) (lenOf pd___B_B_Z rfl) rfl (by decide) (fun T8 v8 Ll8 X8 hQ8 => ?_)
 obtain ⟨rfl, N8q, eh8⟩ := hQ8
 have N8 := Fr.app N0 N8q
 refine own_go (b := (T8.setTop (mkF m 55 #[.val (.ref a1), .val (.ref a2), .val (.ref a2)] [(.int (0 : Int32))]))) (fun _ k => XS.ifYes X8.here hx rfl (pc0 := 47) (pc' := 54) rfl (hb hby d8_47) rfl ((if0 _ _).trans (teq (rfl : (0 : Int32) = (0 : Int32))).1) (by decide) (by decide) (XS.iconst X8.here hx rfl (hb hby d8_54) k)) ?_
 obtain ⟨fs, hr, hrun, hended, hW, hsame⟩ := X8.leave (v := some (.int (0 : Int32))) (fun h => by rw [Bd.returns] at h; cases h)
 exact ⟨_, _, retN X8 hx (t := .boolean) Bd.returns (by simp) (hb hby d8_55) hr, hrun, hended, _, _, rfl, (show QrmseE2 Z a1 a2 u1 u2 ku kv y0 y1 y2 x0 x1 x2 cs h0 n0 _ T8.heap _ from (by rw [eh8]; exact ⟨rfl, N8, rfl⟩)), ⟨_, rfl⟩, hW, hsame.mono (by decide) (by decide)⟩
theorem ef_rmslE3 (m : MethodId) (x0 : Addr) (x1 : Addr) : entryFrame m #[(.ref x0), (.ref x1)] 3 = mkF m 0 #[.val (.ref x0), .val (.ref x1), .unset] [] := by first | (simp [entryFrame, mkF, argsToLocals, Value.category]; done) | rfl
def QrmslE3 (Z : State) (u1 : Addr) (u2 : Addr) (ku : ClassId) (kv : ClassId) (y0 : Int32) (y1 : Int32) (y2 : Int32) (x0 : Int32) (x1 : Int32) (x2 : Int32) (h0 : Heap) (n0 : Nat) (v : Option Value) (h : Heap) (L : List Loc) : Prop := v = some (.int (0 : Int32)) ∧ Fr n0 L ∧ h = h0
set_option maxRecDepth 65536 in
set_option maxHeartbeats 40000000 in
theorem rmslE3 (l : Launch) (Z : State) (a0 : Array Value) (hw : ∀ d ∈ tables_1, d.before a0 Z = true) (ws : List Jvm.Cond) (u1 : Addr) (u2 : Addr) (ku : ClassId) (kv : ClassId) (y0 : Int32) (y1 : Int32) (y2 : Int32) (x0 : Int32) (x1 : Int32) (x2 : Int32) (h0 : Heap) (n0 : Nat) (Z0 : n0 ≤ h0.size) (V_u1 : Arv Z h0 u1 ku .byte (3 : Int32) [(.int y0), (.int y1), (.int y2)] (.int (0 : Int32))) (V_u2 : Arv Z h0 u2 kv .byte (3 : Int32) [(.int x0), (.int x1), (.int x2)] (.int (0 : Int32))) (hx0 : y0 = x0) (hx1 : y1 = x1) (hx2 : ¬ (y2 = x2)) :
    MetFree l (⟨"java/lang/StringLatin1", "equals", "([B[B)Z"⟩ : MethodName) (head1 (Jvm.Cond.code (⟨"java/lang/StringLatin1", "equals", "([B[B)Z"⟩ : MethodName) jdk_43_method_13_code 3 (some .boolean) :: ws) ({ frames := 0, cells := 0, slots := 0, locals := 0 } : Room)) (fun a U => a = #[(.ref u1), (.ref u2)] ∧ Z.Warmed39 U.vm ∧ U.heap = h0) (fun _ _ _ _ _ => True) (fun _ U o U' => ∃ v L, o = .returned v ∧ QrmslE3 Z u1 u2 ku kv y0 y1 y2 x0 x1 x2 h0 n0 v U'.heap L ∧ FrameEnd U o U' L ({ frames := 0, cells := 0, slots := 0, locals := 0 } : Room).cells ({ frames := 0, cells := 0, slots := 0, locals := 0 } : Room).slots) := by
 refine MetFree.of_bodySF (plainFor_of_name pn_9) hisR ?_
 intro p e s m args below meth c s₁ Bd hml0 hP hK
 obtain ⟨rfl, hZ, hh⟩ := hP
 have hx := Bd.exec
 have hby := Bd.bytes
 have hml : c.maxLocals = 3 := hml0
 have hown : s.vm.findClass "java/lang/StringLatin1" = some m.cls := findClass_of_methodNamed Bd.named
 have hnm := (name_of_methodNamed Bd.named Bd.method).1
 have X0 : Stand p l e ({ frames := 0, cells := 0, slots := 0, locals := 0 } : Room) s m #[(.ref u1), (.ref u2)] below meth c s₁ [] 0 0 := Stand.of_body Bd
 have e0 : s₁.heap = h0 := by rw [← hh, Bd.state]; rfl
 have N0 := Fr.nil n0
 refine own_go (b := (s₁.setTop (mkF m 0 #[.val (.ref u1), .val (.ref u2), .unset] []))) (fun _ k => castTop (ef_rmslE3 m u1 u2) k) ?_
 refine own_go (b := (s₁.setTop (mkF m 1 #[.val (.ref u1), .val (.ref u2), .unset] [(.ref u1)]))) (fun _ k => XS.aloadN X0.here hx rfl (hb hby d9_0) rfl rfl k) ?_
 obtain ⟨cl1, Ar1, -, Sz1, Nn1, -, -⟩ := id V_u1
 refine own_go (b := (s₁.setTop (mkF m 3 #[.val (.ref u1), .val (.ref u2), .unset] [(.ref u2), (.int (3 : Int32))]))) (fun _ k => X0.arraylength hx (by rw [e0]; exact Ar1.1) (State.isArrayOf_alike hZ.alike Ar1.2.1) (g := (mkF m 1 #[.val (.ref u1), .val (.ref u2), .unset] [(.ref u1)])) rfl rfl (hb hby d9_1) _ (by rw [len_of Sz1 Nn1]; exact (XS.aloadN X0.here hx rfl (hb hby d9_2) rfl rfl k))) ?_
 obtain ⟨cl2, Ar2, -, Sz2, Nn2, -, -⟩ := id V_u2
 refine own_go (b := (s₁.setTop (mkF m 11 #[.val (.ref u1), .val (.ref u2), .val (.int (0 : Int32))] [(.ref u1), (.int (0 : Int32))]))) (fun _ k => X0.arraylength hx (by rw [e0]; exact Ar2.1) (State.isArrayOf_alike hZ.alike Ar2.2.1) (g := (mkF m 3 #[.val (.ref u1), .val (.ref u2), .unset] [(.ref u2), (.int (3 : Int32))])) rfl rfl (hb hby d9_3) _ (by rw [len_of Sz2 Nn2]; exact (XS.icmpNo X0.here hx rfl (hb hby d9_4) rfl (teq (rfl : (3 : Int32) = (3 : Int32))).2 (XS.iconst X0.here hx rfl (hb hby d9_7) (XS.istoreN X0.here hx rfl (hb hby d9_8) rfl (l' := #[.val (.ref u1), .val (.ref u2), .val (.int (0 : Int32))]) rfl (XS.iloadN X0.here hx rfl (hb hby d9_9) rfl (XS.aloadN X0.here hx rfl (hb hby d9_10) rfl rfl k))))))) ?_
 obtain ⟨cl3, Ar3, -, Sz3, Nn3, -, -⟩ := id V_u1
 refine own_go (b := (s₁.setTop (mkF m 17 #[.val (.ref u1), .val (.ref u2), .val (.int (0 : Int32))] [(.int (0 : Int32)), (.ref u1)]))) (fun _ k => X0.arraylength hx (by rw [e0]; exact Ar3.1) (State.isArrayOf_alike hZ.alike Ar3.2.1) (g := (mkF m 11 #[.val (.ref u1), .val (.ref u2), .val (.int (0 : Int32))] [(.ref u1), (.int (0 : Int32))])) rfl rfl (hb hby d9_11) _ (by rw [len_of Sz3 Nn3]; exact (XS.icmpNo X0.here hx rfl (hb hby d9_12) rfl (tlt (by decide : (0 : Int32) < (3 : Int32))).2.1 (XS.aloadN X0.here hx rfl (hb hby d9_15) rfl rfl (XS.iloadN X0.here hx rfl (hb hby d9_16) rfl k))))) ?_
 obtain ⟨cl4, Ar4, ql4, Sz4, Nn4, Hl4, Gl4⟩ := id V_u1
 have hin4 : ¬ ((0 : Int32) < 0 ∨ cl4.slots.size ≤ ((0 : Int32)).toNatClampNeg) := inb_of Sz4 ⟨by decide, by decide⟩
 refine own_go (b := (s₁.setTop (mkF m 20 #[.val (.ref u1), .val (.ref u2), .val (.int (0 : Int32))] [(.int (0 : Int32)), (.ref u2), (.int y0)]))) (fun _ k => X0.baloadBytes hx (j := (0 : Int32)) (v := (.int y0)) (by rw [e0]; exact Ar4.1) (State.isArrayOf_alike hZ.alike Ar4.2.1) Ar4.2.2 hin4 (Hl4.at hin4 rfl) (g := (mkF m 17 #[.val (.ref u1), .val (.ref u2), .val (.int (0 : Int32))] [(.int (0 : Int32)), (.ref u1)])) rfl rfl (hb hby d9_17) _ (XS.aloadN X0.here hx rfl (hb hby d9_18) rfl rfl (XS.iloadN X0.here hx rfl (hb hby d9_19) rfl k))) ?_
 obtain ⟨cl5, Ar5, ql5, Sz5, Nn5, Hl5, Gl5⟩ := id V_u2
 have hin5 : ¬ ((0 : Int32) < 0 ∨ cl5.slots.size ≤ ((0 : Int32)).toNatClampNeg) := inb_of Sz5 ⟨by decide, by decide⟩
 refine own_go (b := (s₁.setTop (mkF m 11 #[.val (.ref u1), .val (.ref u2), .val (.int (1 : Int32))] [(.ref u1), (.int (1 : Int32))]))) (fun _ k => X0.baloadBytes hx (j := (0 : Int32)) (v := (.int x0)) (by rw [e0]; exact Ar5.1) (State.isArrayOf_alike hZ.alike Ar5.2.1) Ar5.2.2 hin5 (Hl5.at hin5 rfl) (g := (mkF m 20 #[.val (.ref u1), .val (.ref u2), .val (.int (0 : Int32))] [(.int (0 : Int32)), (.ref u2), (.int y0)])) rfl rfl (hb hby d9_20) _ (XS.icmpYes X0.here hx rfl (pc0 := 21) (pc' := 26) rfl (hb hby d9_21) rfl (teq hx0).1 (by decide) (by decide) (XS.iinc X0.here hx rfl (hb hby d9_26) rfl (l' := #[.val (.ref u1), .val (.ref u2), .val (.int (1 : Int32))]) rfl (XS.goto X0.here hx rfl (pc0 := 29) (pc' := 9) rfl (hb hby d9_29) (by decide) (by decide) (XS.iloadN X0.here hx rfl (hb hby d9_9) rfl (XS.aloadN X0.here hx rfl (hb hby d9_10) rfl rfl k)))))) ?_
 obtain ⟨cl6, Ar6, -, Sz6, Nn6, -, -⟩ := id V_u1
 refine own_go (b := (s₁.setTop (mkF m 17 #[.val (.ref u1), .val (.ref u2), .val (.int (1 : Int32))] [(.int (1 : Int32)), (.ref u1)]))) (fun _ k => X0.arraylength hx (by rw [e0]; exact Ar6.1) (State.isArrayOf_alike hZ.alike Ar6.2.1) (g := (mkF m 11 #[.val (.ref u1), .val (.ref u2), .val (.int (1 : Int32))] [(.ref u1), (.int (1 : Int32))])) rfl rfl (hb hby d9_11) _ (by rw [len_of Sz6 Nn6]; exact (XS.icmpNo X0.here hx rfl (hb hby d9_12) rfl (tlt (by decide : (1 : Int32) < (3 : Int32))).2.1 (XS.aloadN X0.here hx rfl (hb hby d9_15) rfl rfl (XS.iloadN X0.here hx rfl (hb hby d9_16) rfl k))))) ?_
 obtain ⟨cl7, Ar7, ql7, Sz7, Nn7, Hl7, Gl7⟩ := id V_u1
 have hin7 : ¬ ((1 : Int32) < 0 ∨ cl7.slots.size ≤ ((1 : Int32)).toNatClampNeg) := inb_of Sz7 ⟨by decide, by decide⟩
 refine own_go (b := (s₁.setTop (mkF m 20 #[.val (.ref u1), .val (.ref u2), .val (.int (1 : Int32))] [(.int (1 : Int32)), (.ref u2), (.int y1)]))) (fun _ k => X0.baloadBytes hx (j := (1 : Int32)) (v := (.int y1)) (by rw [e0]; exact Ar7.1) (State.isArrayOf_alike hZ.alike Ar7.2.1) Ar7.2.2 hin7 (Hl7.at hin7 rfl) (g := (mkF m 17 #[.val (.ref u1), .val (.ref u2), .val (.int (1 : Int32))] [(.int (1 : Int32)), (.ref u1)])) rfl rfl (hb hby d9_17) _ (XS.aloadN X0.here hx rfl (hb hby d9_18) rfl rfl (XS.iloadN X0.here hx rfl (hb hby d9_19) rfl k))) ?_
 obtain ⟨cl8, Ar8, ql8, Sz8, Nn8, Hl8, Gl8⟩ := id V_u2
 have hin8 : ¬ ((1 : Int32) < 0 ∨ cl8.slots.size ≤ ((1 : Int32)).toNatClampNeg) := inb_of Sz8 ⟨by decide, by decide⟩
 refine own_go (b := (s₁.setTop (mkF m 11 #[.val (.ref u1), .val (.ref u2), .val (.int (2 : Int32))] [(.ref u1), (.int (2 : Int32))]))) (fun _ k => X0.baloadBytes hx (j := (1 : Int32)) (v := (.int x1)) (by rw [e0]; exact Ar8.1) (State.isArrayOf_alike hZ.alike Ar8.2.1) Ar8.2.2 hin8 (Hl8.at hin8 rfl) (g := (mkF m 20 #[.val (.ref u1), .val (.ref u2), .val (.int (1 : Int32))] [(.int (1 : Int32)), (.ref u2), (.int y1)])) rfl rfl (hb hby d9_20) _ (XS.icmpYes X0.here hx rfl (pc0 := 21) (pc' := 26) rfl (hb hby d9_21) rfl (teq hx1).1 (by decide) (by decide) (XS.iinc X0.here hx rfl (hb hby d9_26) rfl (l' := #[.val (.ref u1), .val (.ref u2), .val (.int (2 : Int32))]) rfl (XS.goto X0.here hx rfl (pc0 := 29) (pc' := 9) rfl (hb hby d9_29) (by decide) (by decide) (XS.iloadN X0.here hx rfl (hb hby d9_9) rfl (XS.aloadN X0.here hx rfl (hb hby d9_10) rfl rfl k)))))) ?_
 obtain ⟨cl9, Ar9, -, Sz9, Nn9, -, -⟩ := id V_u1
 refine own_go (b := (s₁.setTop (mkF m 17 #[.val (.ref u1), .val (.ref u2), .val (.int (2 : Int32))] [(.int (2 : Int32)), (.ref u1)]))) (fun _ k => X0.arraylength hx (by rw [e0]; exact Ar9.1) (State.isArrayOf_alike hZ.alike Ar9.2.1) (g := (mkF m 11 #[.val (.ref u1), .val (.ref u2), .val (.int (2 : Int32))] [(.ref u1), (.int (2 : Int32))])) rfl rfl (hb hby d9_11) _ (by rw [len_of Sz9 Nn9]; exact (XS.icmpNo X0.here hx rfl (hb hby d9_12) rfl (tlt (by decide : (2 : Int32) < (3 : Int32))).2.1 (XS.aloadN X0.here hx rfl (hb hby d9_15) rfl rfl (XS.iloadN X0.here hx rfl (hb hby d9_16) rfl k))))) ?_
 obtain ⟨cl10, Ar10, ql10, Sz10, Nn10, Hl10, Gl10⟩ := id V_u1
 have hin10 : ¬ ((2 : Int32) < 0 ∨ cl10.slots.size ≤ ((2 : Int32)).toNatClampNeg) := inb_of Sz10 ⟨by decide, by decide⟩
 refine own_go (b := (s₁.setTop (mkF m 20 #[.val (.ref u1), .val (.ref u2), .val (.int (2 : Int32))] [(.int (2 : Int32)), (.ref u2), (.int y2)]))) (fun _ k => X0.baloadBytes hx (j := (2 : Int32)) (v := (.int y2)) (by rw [e0]; exact Ar10.1) (State.isArrayOf_alike hZ.alike Ar10.2.1) Ar10.2.2 hin10 (Hl10.at hin10 rfl) (g := (mkF m 17 #[.val (.ref u1), .val (.ref u2), .val (.int (2 : Int32))] [(.int (2 : Int32)), (.ref u1)])) rfl rfl (hb hby d9_17) _ (XS.aloadN X0.here hx rfl (hb hby d9_18) rfl rfl (XS.iloadN X0.here hx rfl (hb hby d9_19) rfl k))) ?_
 obtain ⟨cl11, Ar11, ql11, Sz11, Nn11, Hl11, Gl11⟩ := id V_u2
 have hin11 : ¬ ((2 : Int32) < 0 ∨ cl11.slots.size ≤ ((2 : Int32)).toNatClampNeg) := inb_of Sz11 ⟨by decide, by decide⟩
 refine own_go (b := (s₁.setTop (mkF m 25 #[.val (.ref u1), .val (.ref u2), .val (.int (2 : Int32))] [(.int (0 : Int32))]))) (fun _ k => X0.baloadBytes hx (j := (2 : Int32)) (v := (.int x2)) (by rw [e0]; exact Ar11.1) (State.isArrayOf_alike hZ.alike Ar11.2.1) Ar11.2.2 hin11 (Hl11.at hin11 rfl) (g := (mkF m 20 #[.val (.ref u1), .val (.ref u2), .val (.int (2 : Int32))] [(.int (2 : Int32)), (.ref u2), (.int y2)])) rfl rfl (hb hby d9_20) _ (XS.icmpNo X0.here hx rfl (hb hby d9_21) rfl (feq hx2).1 (XS.iconst X0.here hx rfl (hb hby d9_24) k))) ?_
 obtain ⟨fs, hr, hrun, hended, hW, hsame⟩ := X0.leave (v := some (.int (0 : Int32))) (fun h => by rw [Bd.returns] at h; cases h)
 exact ⟨_, _, retN X0 hx (t := .boolean) Bd.returns (by simp) (hb hby d9_25) hr, hrun, hended, _, _, rfl, (show QrmslE3 Z u1 u2 ku kv y0 y1 y2 x0 x1 x2 h0 n0 _ s₁.heap _ from (by rw [e0]; exact ⟨rfl, N0, rfl⟩)), ⟨_, rfl⟩, hW, hsame.mono (by decide) (by decide)⟩
theorem ef_rmseE3 (m : MethodId) (x0 : Addr) (x1 : Addr) : entryFrame m #[(.ref x0), (.ref x1)] 3 = mkF m 0 #[.val (.ref x0), .val (.ref x1), .unset] [] := by first | (simp [entryFrame, mkF, argsToLocals, Value.category]; done) | rfl
def QrmseE3 (Z : State) (a1 : Addr) (a2 : Addr) (u1 : Addr) (u2 : Addr) (ku : ClassId) (kv : ClassId) (y0 : Int32) (y1 : Int32) (y2 : Int32) (x0 : Int32) (x1 : Int32) (x2 : Int32) (cs : Int32) (h0 : Heap) (n0 : Nat) (v : Option Value) (h : Heap) (L : List Loc) : Prop := v = some (.int (0 : Int32)) ∧ Fr n0 L ∧ h = h0
set_option maxRecDepth 65536 in
set_option maxHeartbeats 40000000 in
theorem rmseE3 (l : Launch) (Z : State) (a0 : Array Value) (hw : ∀ d ∈ tables_1, d.before a0 Z = true) (ws : List Jvm.Cond) (a1 : Addr) (a2 : Addr) (u1 : Addr) (u2 : Addr) (ku : ClassId) (kv : ClassId) (y0 : Int32) (y1 : Int32) (y2 : Int32) (x0 : Int32) (x1 : Int32) (x2 : Int32) (cs : Int32) (h0 : Heap) (n0 : Nat) (Z0 : n0 ≤ h0.size) (O0 : Old Z n0 h0) (S_COMPACT_STRINGS : Sta Z Z.heap "java/lang/String" "COMPACT_STRINGS" "Z" (.int cs)) (hcs : ¬ (cs = (0 : Int32))) (ne_a1_a2 : a1 ≠ a2) (E_a2 : Exa Z h0 a2 "java/lang/String") (Fld_a1_coder : Fld Z h0 a1 "java/lang/String" "coder" "B" (.int (0 : Int32))) (Fld_a1_value : Fld Z h0 a1 "java/lang/String" "value" "[B" (.ref u1)) (Fld_a2_coder : Fld Z h0 a2 "java/lang/String" "coder" "B" (.int (0 : Int32))) (Fld_a2_value : Fld Z h0 a2 "java/lang/String" "value" "[B" (.ref u2)) (V_u1 : Arv Z h0 u1 ku .byte (3 : Int32) [(.int y0), (.int y1), (.int y2)] (.int (0 : Int32))) (V_u2 : Arv Z h0 u2 kv .byte (3 : Int32) [(.int x0), (.int x1), (.int x2)] (.int (0 : Int32))) (hx0 : y0 = x0) (hx1 : y1 = x1) (hx2 : ¬ (y2 = x2)) :
    MetFree l (⟨"java/lang/String", "equals", "(Ljava/lang/Object;)Z"⟩ : MethodName) (head1 (Jvm.Cond.code (⟨"java/lang/String", "equals", "(Ljava/lang/Object;)Z"⟩ : MethodName) jdk_42_method_66_code 3 (some .boolean) :: ws) ({ frames := 1, cells := 0, slots := 0, locals := 14 } : Room)) (fun a U => a = #[(.ref a1), (.ref a2)] ∧ Z.Warmed39 U.vm ∧ U.heap = h0) (fun _ _ _ _ _ => True) (fun _ U o U' => ∃ v L, o = .returned v ∧ QrmseE3 Z a1 a2 u1 u2 ku kv y0 y1 y2 x0 x1 x2 cs h0 n0 v U'.heap L ∧ FrameEnd U o U' L ({ frames := 1, cells := 0, slots := 0, locals := 14 } : Room).cells ({ frames := 1, cells := 0, slots := 0, locals := 14 } : Room).slots) := by
 refine MetFree.of_bodySF (plainFor_of_name pn_8) hisR ?_
 intro p e s m args below meth c s₁ Bd hml0 hP hK
 obtain ⟨rfl, hZ, hh⟩ := hP
 have hx := Bd.exec
 have hby := Bd.bytes
 have hml : c.maxLocals = 3 := hml0
 have hown : s.vm.findClass "java/lang/String" = some m.cls := findClass_of_methodNamed Bd.named
 have hnm := (name_of_methodNamed Bd.named Bd.method).1
 have X0 : Stand p l e ({ frames := 1, cells := 0, slots := 0, locals := 14 } : Room) s m #[(.ref a1), (.ref a2)] below meth c s₁ [] 0 0 := Stand.of_body Bd
 have e0 : s₁.heap = h0 := by rw [← hh, Bd.state]; rfl
 have N0 := Fr.nil n0
 refine own_go (b := (s₁.setTop (mkF m 0 #[.val (.ref a1), .val (.ref a2), .unset] []))) (fun _ k => castTop (ef_rmseE3 m a1 a2) k) ?_
 refine own_go (b := (s₁.setTop (mkF m 8 #[.val (.ref a1), .val (.ref a2), .unset] [(.ref a2)]))) (fun _ k => XS.aloadN X0.here hx rfl (hb hby d8_0) rfl rfl (XS.aloadN X0.here hx rfl (hb hby d8_1) rfl rfl (Jvm.RoadKit.acmp (g := (mkF m 2 #[.val (.ref a1), .val (.ref a2), .unset] [(.ref a2), (.ref a1)])) X0 hx rfl rfl rfl (pc0 := 2) (pc' := 7) (same := false) rfl (hb hby d8_2) rfl (decide_eq_false fun q => ne_a1_a2 (Value.ref.inj q)) (by decide) (by decide) (XS.aloadN X0.here hx rfl (hb hby d8_7) rfl rfl k)))) ?_
 obtain ⟨T1, X1, e1, st1⟩ := instY X0 hx hZ hown (hw _ (List.mem_of_getElem? (i := 58) rfl)) e0 (Ins.self E_a2) (g := (mkF m 8 #[.val (.ref a1), .val (.ref a2), .unset] [(.ref a2)])) rfl rfl (hb hby d8_8)
 refine own_go (b := (T1.setTop (mkF m 15 #[.val (.ref a1), .val (.ref a2), .unset] [(.ref a2)]))) (fun _ k => st1 _ (XS.ifNo X1.here hx rfl (hb hby d8_11) rfl ((if0 _ _).trans (feq (by decide : ¬ ((1 : Int32) = (0 : Int32)))).1) (XS.aloadN X1.here hx rfl (hb hby d8_14) rfl rfl k))) ?_
 obtain ⟨T2, X2, e2, st2⟩ := castY X1 hx hZ hown (hw _ (List.mem_of_getElem? (i := 58) rfl)) e1 (Ins.self E_a2) (g := (mkF m 15 #[.val (.ref a1), .val (.ref a2), .unset] [(.ref a2)])) rfl rfl (hb hby d8_15)
 refine own_go (b := (T2.setTop (mkF m 19 #[.val (.ref a1), .val (.ref a2), .val (.ref a2)] []))) (fun _ k => st2 _ (XS.astoreN X2.here hx rfl (hb hby d8_18) rfl rfl (l' := #[.val (.ref a1), .val (.ref a2), .val (.ref a2)]) rfl k)) ?_
 obtain ⟨T3, X3, e3, st3⟩ := getS2 X2 hx hZ hown (host := "") (Or.inl (hw _ (List.mem_of_getElem? (i := 59) rfl))) Via.refl e2 (S_COMPACT_STRINGS.ext O0.2) (g := (mkF m 19 #[.val (.ref a1), .val (.ref a2), .val (.ref a2)] [])) rfl (hb hby d8_19)
 refine own_go (b := (T3.setTop (mkF m 26 #[.val (.ref a1), .val (.ref a2), .val (.ref a2)] [(.ref a1)]))) (fun _ k => st3 _ (XS.ifNo X3.here hx rfl (hb hby d8_22) rfl ((if0 _ _).trans (feq hcs).1) (XS.aloadN X3.here hx rfl (hb hby d8_25) rfl rfl k))) ?_
 refine own_getf X3 hx hZ hown (hw _ (List.mem_of_getElem? (i := 29) rfl)) Via.refl e3 Fld_a1_coder rfl rfl (hb hby d8_26) (fun T4 X4 e4 => ?_)
 refine own_go (b := (T4.setTop (mkF m 30 #[.val (.ref a1), .val (.ref a2), .val (.ref a2)] [(.ref a2), (.int (0 : Int32))]))) (fun _ k => XS.aloadN X4.here hx rfl (hb hby d8_29) rfl rfl k) ?_
 refine own_getf X4 hx hZ hown (hw _ (List.mem_of_getElem? (i := 29) rfl)) Via.refl e4 Fld_a2_coder rfl rfl (hb hby d8_30) (fun T5 X5 e5 => ?_)
 refine own_go (b := (T5.setTop (mkF m 37 #[.val (.ref a1), .val (.ref a2), .val (.ref a2)] [(.ref a1)]))) (fun _ k => XS.icmpNo X5.here hx rfl (hb hby d8_33) rfl (teq (rfl : (0 : Int32) = (0 : Int32))).2 (XS.aloadN X5.here hx rfl (hb hby d8_36) rfl rfl k)) ?_
 refine own_getf X5 hx hZ hown (hw _ (List.mem_of_getElem? (i := 28) rfl)) Via.refl e5 Fld_a1_value rfl rfl (hb hby d8_37) (fun T6 X6 e6 => ?_)
 refine own_go (b := (T6.setTop (mkF m 41 #[.val (.ref a1), .val (.ref a2), .val (.ref a2)] [(.ref a2), (.ref u1)]))) (fun _ k => XS.aloadN X6.here hx rfl (hb hby d8_40) rfl rfl k) ?_
 refine own_getf X6 hx hZ hown (hw _ (List.mem_of_getElem? (i := 28) rfl)) Via.refl e6 Fld_a2_value rfl rfl (hb hby d8_41) (fun T7 X7 e7 => ?_)
 refine own_stat (W := 0) X7 hx hZ hown e7 (hw _ (List.mem_of_getElem? (i := 60) rfl)) (hw _ (List.mem_of_getElem? (i := 61) rfl)) (rmslE3 l Z a0 hw [] u1 u2 ku kv y0 y1 y2 x0 x1 x2 h0 n0 Z0 V_u1 V_u2 hx0 hx1 hx2) (hw _ (List.mem_of_getElem? (i := 63) rfl)) (hw _ (List.mem_of_getElem? (i := 62) rfl)) rfl (by rw [hml]; rfl) rfl (hb hby d8_44) (lenOf pd___B_B_Z rfl) rfl (by decide) (fun T8 v8 Ll8 X8 hQ8 => ?_)
 obtain ⟨rfl, N8q, eh8⟩ := hQ8
 have N8 := Fr.app N0 N8q
 refine own_go (b := (T8.setTop (mkF m 55 #[.val (.ref a1), .val (.ref a2), .val (.ref a2)] [(.int (0 : Int32))]))) (fun _ k => XS.ifYes X8.here hx rfl (pc0 := 47) (pc' := 54) rfl (hb hby d8_47) rfl ((if0 _ _).trans (teq (rfl : (0 : Int32) = (0 : Int32))).1) (by decide) (by decide) (XS.iconst X8.here hx rfl (hb hby d8_54) k)) ?_
 obtain ⟨fs, hr, hrun, hended, hW, hsame⟩ := X8.leave (v := some (.int (0 : Int32))) (fun h => by rw [Bd.returns] at h; cases h)
 exact ⟨_, _, retN X8 hx (t := .boolean) Bd.returns (by simp) (hb hby d8_55) hr, hrun, hended, _, _, rfl, (show QrmseE3 Z a1 a2 u1 u2 ku kv y0 y1 y2 x0 x1 x2 cs h0 n0 _ T8.heap _ from (by rw [eh8]; exact ⟨rfl, N8, rfl⟩)), ⟨_, rfl⟩, hW, hsame.mono (by decide) (by decide)⟩
theorem ef_rmslE4 (m : MethodId) (x0 : Addr) (x1 : Addr) : entryFrame m #[(.ref x0), (.ref x1)] 3 = mkF m 0 #[.val (.ref x0), .val (.ref x1), .unset] [] := by first | (simp [entryFrame, mkF, argsToLocals, Value.category]; done) | rfl
def QrmslE4 (Z : State) (u1 : Addr) (u2 : Addr) (ku : ClassId) (kv : ClassId) (y0 : Int32) (y1 : Int32) (y2 : Int32) (x0 : Int32) (x1 : Int32) (x2 : Int32) (h0 : Heap) (n0 : Nat) (v : Option Value) (h : Heap) (L : List Loc) : Prop := v = some (.int (1 : Int32)) ∧ Fr n0 L ∧ h = h0
set_option maxRecDepth 65536 in
set_option maxHeartbeats 40000000 in
theorem rmslE4 (l : Launch) (Z : State) (a0 : Array Value) (hw : ∀ d ∈ tables_1, d.before a0 Z = true) (ws : List Jvm.Cond) (u1 : Addr) (u2 : Addr) (ku : ClassId) (kv : ClassId) (y0 : Int32) (y1 : Int32) (y2 : Int32) (x0 : Int32) (x1 : Int32) (x2 : Int32) (h0 : Heap) (n0 : Nat) (Z0 : n0 ≤ h0.size) (V_u1 : Arv Z h0 u1 ku .byte (3 : Int32) [(.int y0), (.int y1), (.int y2)] (.int (0 : Int32))) (V_u2 : Arv Z h0 u2 kv .byte (3 : Int32) [(.int x0), (.int x1), (.int x2)] (.int (0 : Int32))) (hx0 : y0 = x0) (hx1 : y1 = x1) (hx2 : y2 = x2) :
    MetFree l (⟨"java/lang/StringLatin1", "equals", "([B[B)Z"⟩ : MethodName) (head1 (Jvm.Cond.code (⟨"java/lang/StringLatin1", "equals", "([B[B)Z"⟩ : MethodName) jdk_43_method_13_code 3 (some .boolean) :: ws) ({ frames := 0, cells := 0, slots := 0, locals := 0 } : Room)) (fun a U => a = #[(.ref u1), (.ref u2)] ∧ Z.Warmed39 U.vm ∧ U.heap = h0) (fun _ _ _ _ _ => True) (fun _ U o U' => ∃ v L, o = .returned v ∧ QrmslE4 Z u1 u2 ku kv y0 y1 y2 x0 x1 x2 h0 n0 v U'.heap L ∧ FrameEnd U o U' L ({ frames := 0, cells := 0, slots := 0, locals := 0 } : Room).cells ({ frames := 0, cells := 0, slots := 0, locals := 0 } : Room).slots) := by
 refine MetFree.of_bodySF (plainFor_of_name pn_9) hisR ?_
 intro p e s m args below meth c s₁ Bd hml0 hP hK
 obtain ⟨rfl, hZ, hh⟩ := hP
 have hx := Bd.exec
 have hby := Bd.bytes
 have hml : c.maxLocals = 3 := hml0
 have hown : s.vm.findClass "java/lang/StringLatin1" = some m.cls := findClass_of_methodNamed Bd.named
 have hnm := (name_of_methodNamed Bd.named Bd.method).1
 have X0 : Stand p l e ({ frames := 0, cells := 0, slots := 0, locals := 0 } : Room) s m #[(.ref u1), (.ref u2)] below meth c s₁ [] 0 0 := Stand.of_body Bd
 have e0 : s₁.heap = h0 := by rw [← hh, Bd.state]; rfl
 have N0 := Fr.nil n0
 refine own_go (b := (s₁.setTop (mkF m 0 #[.val (.ref u1), .val (.ref u2), .unset] []))) (fun _ k => castTop (ef_rmslE4 m u1 u2) k) ?_
 refine own_go (b := (s₁.setTop (mkF m 1 #[.val (.ref u1), .val (.ref u2), .unset] [(.ref u1)]))) (fun _ k => XS.aloadN X0.here hx rfl (hb hby d9_0) rfl rfl k) ?_
 obtain ⟨cl1, Ar1, -, Sz1, Nn1, -, -⟩ := id V_u1
 refine own_go (b := (s₁.setTop (mkF m 3 #[.val (.ref u1), .val (.ref u2), .unset] [(.ref u2), (.int (3 : Int32))]))) (fun _ k => X0.arraylength hx (by rw [e0]; exact Ar1.1) (State.isArrayOf_alike hZ.alike Ar1.2.1) (g := (mkF m 1 #[.val (.ref u1), .val (.ref u2), .unset] [(.ref u1)])) rfl rfl (hb hby d9_1) _ (by rw [len_of Sz1 Nn1]; exact (XS.aloadN X0.here hx rfl (hb hby d9_2) rfl rfl k))) ?_
 obtain ⟨cl2, Ar2, -, Sz2, Nn2, -, -⟩ := id V_u2
 refine own_go (b := (s₁.setTop (mkF m 11 #[.val (.ref u1), .val (.ref u2), .val (.int (0 : Int32))] [(.ref u1), (.int (0 : Int32))]))) (fun _ k => X0.arraylength hx (by rw [e0]; exact Ar2.1) (State.isArrayOf_alike hZ.alike Ar2.2.1) (g := (mkF m 3 #[.val (.ref u1), .val (.ref u2), .unset] [(.ref u2), (.int (3 : Int32))])) rfl rfl (hb hby d9_3) _ (by rw [len_of Sz2 Nn2]; exact (XS.icmpNo X0.here hx rfl (hb hby d9_4) rfl (teq (rfl : (3 : Int32) = (3 : Int32))).2 (XS.iconst X0.here hx rfl (hb hby d9_7) (XS.istoreN X0.here hx rfl (hb hby d9_8) rfl (l' := #[.val (.ref u1), .val (.ref u2), .val (.int (0 : Int32))]) rfl (XS.iloadN X0.here hx rfl (hb hby d9_9) rfl (XS.aloadN X0.here hx rfl (hb hby d9_10) rfl rfl k))))))) ?_
 obtain ⟨cl3, Ar3, -, Sz3, Nn3, -, -⟩ := id V_u1
 refine own_go (b := (s₁.setTop (mkF m 17 #[.val (.ref u1), .val (.ref u2), .val (.int (0 : Int32))] [(.int (0 : Int32)), (.ref u1)]))) (fun _ k => X0.arraylength hx (by rw [e0]; exact Ar3.1) (State.isArrayOf_alike hZ.alike Ar3.2.1) (g := (mkF m 11 #[.val (.ref u1), .val (.ref u2), .val (.int (0 : Int32))] [(.ref u1), (.int (0 : Int32))])) rfl rfl (hb hby d9_11) _ (by rw [len_of Sz3 Nn3]; exact (XS.icmpNo X0.here hx rfl (hb hby d9_12) rfl (tlt (by decide : (0 : Int32) < (3 : Int32))).2.1 (XS.aloadN X0.here hx rfl (hb hby d9_15) rfl rfl (XS.iloadN X0.here hx rfl (hb hby d9_16) rfl k))))) ?_
 obtain ⟨cl4, Ar4, ql4, Sz4, Nn4, Hl4, Gl4⟩ := id V_u1
 have hin4 : ¬ ((0 : Int32) < 0 ∨ cl4.slots.size ≤ ((0 : Int32)).toNatClampNeg) := inb_of Sz4 ⟨by decide, by decide⟩
 refine own_go (b := (s₁.setTop (mkF m 20 #[.val (.ref u1), .val (.ref u2), .val (.int (0 : Int32))] [(.int (0 : Int32)), (.ref u2), (.int y0)]))) (fun _ k => X0.baloadBytes hx (j := (0 : Int32)) (v := (.int y0)) (by rw [e0]; exact Ar4.1) (State.isArrayOf_alike hZ.alike Ar4.2.1) Ar4.2.2 hin4 (Hl4.at hin4 rfl) (g := (mkF m 17 #[.val (.ref u1), .val (.ref u2), .val (.int (0 : Int32))] [(.int (0 : Int32)), (.ref u1)])) rfl rfl (hb hby d9_17) _ (XS.aloadN X0.here hx rfl (hb hby d9_18) rfl rfl (XS.iloadN X0.here hx rfl (hb hby d9_19) rfl k))) ?_
 obtain ⟨cl5, Ar5, ql5, Sz5, Nn5, Hl5, Gl5⟩ := id V_u2
 have hin5 : ¬ ((0 : Int32) < 0 ∨ cl5.slots.size ≤ ((0 : Int32)).toNatClampNeg) := inb_of Sz5 ⟨by decide, by decide⟩
 refine own_go (b := (s₁.setTop (mkF m 11 #[.val (.ref u1), .val (.ref u2), .val (.int (1 : Int32))] [(.ref u1), (.int (1 : Int32))]))) (fun _ k => X0.baloadBytes hx (j := (0 : Int32)) (v := (.int x0)) (by rw [e0]; exact Ar5.1) (State.isArrayOf_alike hZ.alike Ar5.2.1) Ar5.2.2 hin5 (Hl5.at hin5 rfl) (g := (mkF m 20 #[.val (.ref u1), .val (.ref u2), .val (.int (0 : Int32))] [(.int (0 : Int32)), (.ref u2), (.int y0)])) rfl rfl (hb hby d9_20) _ (XS.icmpYes X0.here hx rfl (pc0 := 21) (pc' := 26) rfl (hb hby d9_21) rfl (teq hx0).1 (by decide) (by decide) (XS.iinc X0.here hx rfl (hb hby d9_26) rfl (l' := #[.val (.ref u1), .val (.ref u2), .val (.int (1 : Int32))]) rfl (XS.goto X0.here hx rfl (pc0 := 29) (pc' := 9) rfl (hb hby d9_29) (by decide) (by decide) (XS.iloadN X0.here hx rfl (hb hby d9_9) rfl (XS.aloadN X0.here hx rfl (hb hby d9_10) rfl rfl k)))))) ?_
 obtain ⟨cl6, Ar6, -, Sz6, Nn6, -, -⟩ := id V_u1
 refine own_go (b := (s₁.setTop (mkF m 17 #[.val (.ref u1), .val (.ref u2), .val (.int (1 : Int32))] [(.int (1 : Int32)), (.ref u1)]))) (fun _ k => X0.arraylength hx (by rw [e0]; exact Ar6.1) (State.isArrayOf_alike hZ.alike Ar6.2.1) (g := (mkF m 11 #[.val (.ref u1), .val (.ref u2), .val (.int (1 : Int32))] [(.ref u1), (.int (1 : Int32))])) rfl rfl (hb hby d9_11) _ (by rw [len_of Sz6 Nn6]; exact (XS.icmpNo X0.here hx rfl (hb hby d9_12) rfl (tlt (by decide : (1 : Int32) < (3 : Int32))).2.1 (XS.aloadN X0.here hx rfl (hb hby d9_15) rfl rfl (XS.iloadN X0.here hx rfl (hb hby d9_16) rfl k))))) ?_
 obtain ⟨cl7, Ar7, ql7, Sz7, Nn7, Hl7, Gl7⟩ := id V_u1
 have hin7 : ¬ ((1 : Int32) < 0 ∨ cl7.slots.size ≤ ((1 : Int32)).toNatClampNeg) := inb_of Sz7 ⟨by decide, by decide⟩
 refine own_go (b := (s₁.setTop (mkF m 20 #[.val (.ref u1), .val (.ref u2), .val (.int (1 : Int32))] [(.int (1 : Int32)), (.ref u2), (.int y1)]))) (fun _ k => X0.baloadBytes hx (j := (1 : Int32)) (v := (.int y1)) (by rw [e0]; exact Ar7.1) (State.isArrayOf_alike hZ.alike Ar7.2.1) Ar7.2.2 hin7 (Hl7.at hin7 rfl) (g := (mkF m 17 #[.val (.ref u1), .val (.ref u2), .val (.int (1 : Int32))] [(.int (1 : Int32)), (.ref u1)])) rfl rfl (hb hby d9_17) _ (XS.aloadN X0.here hx rfl (hb hby d9_18) rfl rfl (XS.iloadN X0.here hx rfl (hb hby d9_19) rfl k))) ?_
 obtain ⟨cl8, Ar8, ql8, Sz8, Nn8, Hl8, Gl8⟩ := id V_u2
 have hin8 : ¬ ((1 : Int32) < 0 ∨ cl8.slots.size ≤ ((1 : Int32)).toNatClampNeg) := inb_of Sz8 ⟨by decide, by decide⟩
 refine own_go (b := (s₁.setTop (mkF m 11 #[.val (.ref u1), .val (.ref u2), .val (.int (2 : Int32))] [(.ref u1), (.int (2 : Int32))]))) (fun _ k => X0.baloadBytes hx (j := (1 : Int32)) (v := (.int x1)) (by rw [e0]; exact Ar8.1) (State.isArrayOf_alike hZ.alike Ar8.2.1) Ar8.2.2 hin8 (Hl8.at hin8 rfl) (g := (mkF m 20 #[.val (.ref u1), .val (.ref u2), .val (.int (1 : Int32))] [(.int (1 : Int32)), (.ref u2), (.int y1)])) rfl rfl (hb hby d9_20) _ (XS.icmpYes X0.here hx rfl (pc0 := 21) (pc' := 26) rfl (hb hby d9_21) rfl (teq hx1).1 (by decide) (by decide) (XS.iinc X0.here hx rfl (hb hby d9_26) rfl (l' := #[.val (.ref u1), .val (.ref u2), .val (.int (2 : Int32))]) rfl (XS.goto X0.here hx rfl (pc0 := 29) (pc' := 9) rfl (hb hby d9_29) (by decide) (by decide) (XS.iloadN X0.here hx rfl (hb hby d9_9) rfl (XS.aloadN X0.here hx rfl (hb hby d9_10) rfl rfl k)))))) ?_
 obtain ⟨cl9, Ar9, -, Sz9, Nn9, -, -⟩ := id V_u1
 refine own_go (b := (s₁.setTop (mkF m 17 #[.val (.ref u1), .val (.ref u2), .val (.int (2 : Int32))] [(.int (2 : Int32)), (.ref u1)]))) (fun _ k => X0.arraylength hx (by rw [e0]; exact Ar9.1) (State.isArrayOf_alike hZ.alike Ar9.2.1) (g := (mkF m 11 #[.val (.ref u1), .val (.ref u2), .val (.int (2 : Int32))] [(.ref u1), (.int (2 : Int32))])) rfl rfl (hb hby d9_11) _ (by rw [len_of Sz9 Nn9]; exact (XS.icmpNo X0.here hx rfl (hb hby d9_12) rfl (tlt (by decide : (2 : Int32) < (3 : Int32))).2.1 (XS.aloadN X0.here hx rfl (hb hby d9_15) rfl rfl (XS.iloadN X0.here hx rfl (hb hby d9_16) rfl k))))) ?_
 obtain ⟨cl10, Ar10, ql10, Sz10, Nn10, Hl10, Gl10⟩ := id V_u1
 have hin10 : ¬ ((2 : Int32) < 0 ∨ cl10.slots.size ≤ ((2 : Int32)).toNatClampNeg) := inb_of Sz10 ⟨by decide, by decide⟩
 refine own_go (b := (s₁.setTop (mkF m 20 #[.val (.ref u1), .val (.ref u2), .val (.int (2 : Int32))] [(.int (2 : Int32)), (.ref u2), (.int y2)]))) (fun _ k => X0.baloadBytes hx (j := (2 : Int32)) (v := (.int y2)) (by rw [e0]; exact Ar10.1) (State.isArrayOf_alike hZ.alike Ar10.2.1) Ar10.2.2 hin10 (Hl10.at hin10 rfl) (g := (mkF m 17 #[.val (.ref u1), .val (.ref u2), .val (.int (2 : Int32))] [(.int (2 : Int32)), (.ref u1)])) rfl rfl (hb hby d9_17) _ (XS.aloadN X0.here hx rfl (hb hby d9_18) rfl rfl (XS.iloadN X0.here hx rfl (hb hby d9_19) rfl k))) ?_
 obtain ⟨cl11, Ar11, ql11, Sz11, Nn11, Hl11, Gl11⟩ := id V_u2
 have hin11 : ¬ ((2 : Int32) < 0 ∨ cl11.slots.size ≤ ((2 : Int32)).toNatClampNeg) := inb_of Sz11 ⟨by decide, by decide⟩
 refine own_go (b := (s₁.setTop (mkF m 11 #[.val (.ref u1), .val (.ref u2), .val (.int (3 : Int32))] [(.ref u1), (.int (3 : Int32))]))) (fun _ k => X0.baloadBytes hx (j := (2 : Int32)) (v := (.int x2)) (by rw [e0]; exact Ar11.1) (State.isArrayOf_alike hZ.alike Ar11.2.1) Ar11.2.2 hin11 (Hl11.at hin11 rfl) (g := (mkF m 20 #[.val (.ref u1), .val (.ref u2), .val (.int (2 : Int32))] [(.int (2 : Int32)), (.ref u2), (.int y2)])) rfl rfl (hb hby d9_20) _ (XS.icmpYes X0.here hx rfl (pc0 := 21) (pc' := 26) rfl (hb hby d9_21) rfl (teq hx2).1 (by decide) (by decide) (XS.iinc X0.here hx rfl (hb hby d9_26) rfl (l' := #[.val (.ref u1), .val (.ref u2), .val (.int (3 : Int32))]) rfl (XS.goto X0.here hx rfl (pc0 := 29) (pc' := 9) rfl (hb hby d9_29) (by decide) (by decide) (XS.iloadN X0.here hx rfl (hb hby d9_9) rfl (XS.aloadN X0.here hx rfl (hb hby d9_10) rfl rfl k)))))) ?_
 obtain ⟨cl12, Ar12, -, Sz12, Nn12, -, -⟩ := id V_u1
 refine own_go (b := (s₁.setTop (mkF m 33 #[.val (.ref u1), .val (.ref u2), .val (.int (3 : Int32))] [(.int (1 : Int32))]))) (fun _ k => X0.arraylength hx (by rw [e0]; exact Ar12.1) (State.isArrayOf_alike hZ.alike Ar12.2.1) (g := (mkF m 11 #[.val (.ref u1), .val (.ref u2), .val (.int (3 : Int32))] [(.ref u1), (.int (3 : Int32))])) rfl rfl (hb hby d9_11) _ (by rw [len_of Sz12 Nn12]; exact (XS.icmpYes X0.here hx rfl (pc0 := 12) (pc' := 32) rfl (hb hby d9_12) rfl (flt (by decide : ¬ ((3 : Int32) < (3 : Int32)))).2.1 (by decide) (by decide) (XS.iconst X0.here hx rfl (hb hby d9_32) k)))) ?_
 obtain ⟨fs, hr, hrun, hended, hW, hsame⟩ := X0.leave (v := some (.int (1 : Int32))) (fun h => by rw [Bd.returns] at h; cases h)
 exact ⟨_, _, retN X0 hx (t := .boolean) Bd.returns (by simp) (hb hby d9_33) hr, hrun, hended, _, _, rfl, (show QrmslE4 Z u1 u2 ku kv y0 y1 y2 x0 x1 x2 h0 n0 _ s₁.heap _ from (by rw [e0]; exact ⟨rfl, N0, rfl⟩)), ⟨_, rfl⟩, hW, hsame.mono (by decide) (by decide)⟩
theorem ef_rmseE4 (m : MethodId) (x0 : Addr) (x1 : Addr) : entryFrame m #[(.ref x0), (.ref x1)] 3 = mkF m 0 #[.val (.ref x0), .val (.ref x1), .unset] [] := by first | (simp [entryFrame, mkF, argsToLocals, Value.category]; done) | rfl
def QrmseE4 (Z : State) (a1 : Addr) (a2 : Addr) (u1 : Addr) (u2 : Addr) (ku : ClassId) (kv : ClassId) (y0 : Int32) (y1 : Int32) (y2 : Int32) (x0 : Int32) (x1 : Int32) (x2 : Int32) (cs : Int32) (h0 : Heap) (n0 : Nat) (v : Option Value) (h : Heap) (L : List Loc) : Prop := v = some (.int (1 : Int32)) ∧ Fr n0 L ∧ h = h0
set_option maxRecDepth 65536 in
set_option maxHeartbeats 40000000 in
theorem rmseE4 (l : Launch) (Z : State) (a0 : Array Value) (hw : ∀ d ∈ tables_1, d.before a0 Z = true) (ws : List Jvm.Cond) (a1 : Addr) (a2 : Addr) (u1 : Addr) (u2 : Addr) (ku : ClassId) (kv : ClassId) (y0 : Int32) (y1 : Int32) (y2 : Int32) (x0 : Int32) (x1 : Int32) (x2 : Int32) (cs : Int32) (h0 : Heap) (n0 : Nat) (Z0 : n0 ≤ h0.size) (O0 : Old Z n0 h0) (S_COMPACT_STRINGS : Sta Z Z.heap "java/lang/String" "COMPACT_STRINGS" "Z" (.int cs)) (hcs : ¬ (cs = (0 : Int32))) (ne_a1_a2 : a1 ≠ a2) (E_a2 : Exa Z h0 a2 "java/lang/String") (Fld_a1_coder : Fld Z h0 a1 "java/lang/String" "coder" "B" (.int (0 : Int32))) (Fld_a1_value : Fld Z h0 a1 "java/lang/String" "value" "[B" (.ref u1)) (Fld_a2_coder : Fld Z h0 a2 "java/lang/String" "coder" "B" (.int (0 : Int32))) (Fld_a2_value : Fld Z h0 a2 "java/lang/String" "value" "[B" (.ref u2)) (V_u1 : Arv Z h0 u1 ku .byte (3 : Int32) [(.int y0), (.int y1), (.int y2)] (.int (0 : Int32))) (V_u2 : Arv Z h0 u2 kv .byte (3 : Int32) [(.int x0), (.int x1), (.int x2)] (.int (0 : Int32))) (hx0 : y0 = x0) (hx1 : y1 = x1) (hx2 : y2 = x2) :
    MetFree l (⟨"java/lang/String", "equals", "(Ljava/lang/Object;)Z"⟩ : MethodName) (head1 (Jvm.Cond.code (⟨"java/lang/String", "equals", "(Ljava/lang/Object;)Z"⟩ : MethodName) jdk_42_method_66_code 3 (some .boolean) :: ws) ({ frames := 1, cells := 0, slots := 0, locals := 14 } : Room)) (fun a U => a = #[(.ref a1), (.ref a2)] ∧ Z.Warmed39 U.vm ∧ U.heap = h0) (fun _ _ _ _ _ => True) (fun _ U o U' => ∃ v L, o = .returned v ∧ QrmseE4 Z a1 a2 u1 u2 ku kv y0 y1 y2 x0 x1 x2 cs h0 n0 v U'.heap L ∧ FrameEnd U o U' L ({ frames := 1, cells := 0, slots := 0, locals := 14 } : Room).cells ({ frames := 1, cells := 0, slots := 0, locals := 14 } : Room).slots) := by
 refine MetFree.of_bodySF (plainFor_of_name pn_8) hisR ?_
 intro p e s m args below meth c s₁ Bd hml0 hP hK
 obtain ⟨rfl, hZ, hh⟩ := hP
 have hx := Bd.exec
 have hby := Bd.bytes
 have hml : c.maxLocals = 3 := hml0
 have hown : s.vm.findClass "java/lang/String" = some m.cls := findClass_of_methodNamed Bd.named
 have hnm := (name_of_methodNamed Bd.named Bd.method).1
 have X0 : Stand p l e ({ frames := 1, cells := 0, slots := 0, locals := 14 } : Room) s m #[(.ref a1), (.ref a2)] below meth c s₁ [] 0 0 := Stand.of_body Bd
 have e0 : s₁.heap = h0 := by rw [← hh, Bd.state]; rfl
 have N0 := Fr.nil n0
 refine own_go (b := (s₁.setTop (mkF m 0 #[.val (.ref a1), .val (.ref a2), .unset] []))) (fun _ k => castTop (ef_rmseE4 m a1 a2) k) ?_
 refine own_go (b := (s₁.setTop (mkF m 8 #[.val (.ref a1), .val (.ref a2), .unset] [(.ref a2)]))) (fun _ k => XS.aloadN X0.here hx rfl (hb hby d8_0) rfl rfl (XS.aloadN X0.here hx rfl (hb hby d8_1) rfl rfl (Jvm.RoadKit.acmp (g := (mkF m 2 #[.val (.ref a1), .val (.ref a2), .unset] [(.ref a2), (.ref a1)])) X0 hx rfl rfl rfl (pc0 := 2) (pc' := 7) (same := false) rfl (hb hby d8_2) rfl (decide_eq_false fun q => ne_a1_a2 (Value.ref.inj q)) (by decide) (by decide) (XS.aloadN X0.here hx rfl (hb hby d8_7) rfl rfl k)))) ?_
 obtain ⟨T1, X1, e1, st1⟩ := instY X0 hx hZ hown (hw _ (List.mem_of_getElem? (i := 58) rfl)) e0 (Ins.self E_a2) (g := (mkF m 8 #[.val (.ref a1), .val (.ref a2), .unset] [(.ref a2)])) rfl rfl (hb hby d8_8)
 refine own_go (b := (T1.setTop (mkF m 15 #[.val (.ref a1), .val (.ref a2), .unset] [(.ref a2)]))) (fun _ k => st1 _ (XS.ifNo X1.here hx rfl (hb hby d8_11) rfl ((if0 _ _).trans (feq (by decide : ¬ ((1 : Int32) = (0 : Int32)))).1) (XS.aloadN X1.here hx rfl (hb hby d8_14) rfl rfl k))) ?_
 obtain ⟨T2, X2, e2, st2⟩ := castY X1 hx hZ hown (hw _ (List.mem_of_getElem? (i := 58) rfl)) e1 (Ins.self E_a2) (g := (mkF m 15 #[.val (.ref a1), .val (.ref a2), .unset] [(.ref a2)])) rfl rfl (hb hby d8_15)
 refine own_go (b := (T2.setTop (mkF m 19 #[.val (.ref a1), .val (.ref a2), .val (.ref a2)] []))) (fun _ k => st2 _ (XS.astoreN X2.here hx rfl (hb hby d8_18) rfl rfl (l' := #[.val (.ref a1), .val (.ref a2), .val (.ref a2)]) rfl k)) ?_
 obtain ⟨T3, X3, e3, st3⟩ := getS2 X2 hx hZ hown (host := "") (Or.inl (hw _ (List.mem_of_getElem? (i := 59) rfl))) Via.refl e2 (S_COMPACT_STRINGS.ext O0.2) (g := (mkF m 19 #[.val (.ref a1), .val (.ref a2), .val (.ref a2)] [])) rfl (hb hby d8_19)
 refine own_go (b := (T3.setTop (mkF m 26 #[.val (.ref a1), .val (.ref a2), .val (.ref a2)] [(.ref a1)]))) (fun _ k => st3 _ (XS.ifNo X3.here hx rfl (hb hby d8_22) rfl ((if0 _ _).trans (feq hcs).1) (XS.aloadN X3.here hx rfl (hb hby d8_25) rfl rfl k))) ?_
 refine own_getf X3 hx hZ hown (hw _ (List.mem_of_getElem? (i := 29) rfl)) Via.refl e3 Fld_a1_coder rfl rfl (hb hby d8_26) (fun T4 X4 e4 => ?_)
 refine own_go (b := (T4.setTop (mkF m 30 #[.val (.ref a1), .val (.ref a2), .val (.ref a2)] [(.ref a2), (.int (0 : Int32))]))) (fun _ k => XS.aloadN X4.here hx rfl (hb hby d8_29) rfl rfl k) ?_
 refine own_getf X4 hx hZ hown (hw _ (List.mem_of_getElem? (i := 29) rfl)) Via.refl e4 Fld_a2_coder rfl rfl (hb hby d8_30) (fun T5 X5 e5 => ?_)
 refine own_go (b := (T5.setTop (mkF m 37 #[.val (.ref a1), .val (.ref a2), .val (.ref a2)] [(.ref a1)]))) (fun _ k => XS.icmpNo X5.here hx rfl (hb hby d8_33) rfl (teq (rfl : (0 : Int32) = (0 : Int32))).2 (XS.aloadN X5.here hx rfl (hb hby d8_36) rfl rfl k)) ?_
 refine own_getf X5 hx hZ hown (hw _ (List.mem_of_getElem? (i := 28) rfl)) Via.refl e5 Fld_a1_value rfl rfl (hb hby d8_37) (fun T6 X6 e6 => ?_)
 refine own_go (b := (T6.setTop (mkF m 41 #[.val (.ref a1), .val (.ref a2), .val (.ref a2)] [(.ref a2), (.ref u1)]))) (fun _ k => XS.aloadN X6.here hx rfl (hb hby d8_40) rfl rfl k) ?_
 refine own_getf X6 hx hZ hown (hw _ (List.mem_of_getElem? (i := 28) rfl)) Via.refl e6 Fld_a2_value rfl rfl (hb hby d8_41) (fun T7 X7 e7 => ?_)
 refine own_stat (W := 0) X7 hx hZ hown e7 (hw _ (List.mem_of_getElem? (i := 60) rfl)) (hw _ (List.mem_of_getElem? (i := 61) rfl)) (rmslE4 l Z a0 hw [] u1 u2 ku kv y0 y1 y2 x0 x1 x2 h0 n0 Z0 V_u1 V_u2 hx0 hx1 hx2) (hw _ (List.mem_of_getElem? (i := 63) rfl)) (hw _ (List.mem_of_getElem? (i := 62) rfl)) rfl (by rw [hml]; rfl) rfl (hb hby d8_44) (lenOf pd___B_B_Z rfl) rfl (by decide) (fun T8 v8 Ll8 X8 hQ8 => ?_)
 obtain ⟨rfl, N8q, eh8⟩ := hQ8
 have N8 := Fr.app N0 N8q
 refine own_go (b := (T8.setTop (mkF m 55 #[.val (.ref a1), .val (.ref a2), .val (.ref a2)] [(.int (1 : Int32))]))) (fun _ k => XS.ifNo X8.here hx rfl (hb hby d8_47) rfl ((if0 _ _).trans (feq (by decide : ¬ ((1 : Int32) = (0 : Int32)))).1) (XS.iconst X8.here hx rfl (hb hby d8_50) (XS.goto X8.here hx rfl (pc0 := 51) (pc' := 55) rfl (hb hby d8_51) (by decide) (by decide) k))) ?_
 obtain ⟨fs, hr, hrun, hended, hW, hsame⟩ := X8.leave (v := some (.int (1 : Int32))) (fun h => by rw [Bd.returns] at h; cases h)
 exact ⟨_, _, retN X8 hx (t := .boolean) Bd.returns (by simp) (hb hby d8_55) hr, hrun, hended, _, _, rfl, (show QrmseE4 Z a1 a2 u1 u2 ku kv y0 y1 y2 x0 x1 x2 cs h0 n0 _ T8.heap _ from (by rw [eh8]; exact ⟨rfl, N8, rfl⟩)), ⟨_, rfl⟩, hW, hsame.mono (by decide) (by decide)⟩
theorem d16_0 : decode jdk_31_method_10_code 0 = .ok (.aload_n 0, 1) := by decide +kernel
theorem d16_1 : decode jdk_31_method_10_code 1 = .ok (.ifnonnull 11, 3) := by decide +kernel
theorem d16_4 : decode jdk_31_method_10_code 4 = .ok (.new 84, 3) := by decide +kernel
theorem d16_7 : decode jdk_31_method_10_code 7 = .ok (.dup, 1) := by decide +kernel
theorem d16_8 : decode jdk_31_method_10_code 8 = .ok (.invokespecial 86, 3) := by decide +kernel
theorem d16_11 : decode jdk_31_method_10_code 11 = .ok (.athrow, 1) := by decide +kernel
theorem d16_12 : decode jdk_31_method_10_code 12 = .ok (.aload_n 0, 1) := by decide +kernel
theorem d16_13 : decode jdk_31_method_10_code 13 = .ok (.areturn, 1) := by decide +kernel
theorem pn_16 : plainName "java/util/Objects" = true := by first | (simp [plainName, overriddenIn]; done) | decide +kernel
theorem ef_rmnn (m : MethodId) (x0 : Addr) : entryFrame m #[(.ref x0)] 1 = mkF m 0 #[.val (.ref x0)] [] := by first | (simp [entryFrame, mkF, argsToLocals, Value.category]; done) | rfl
def Qrmnn (Z : State) (a1 : Addr) (h0 : Heap) (n0 : Nat) (v : Option Value) (h : Heap) (L : List Loc) : Prop := v = some (.ref a1) ∧ Fr n0 L ∧ h = h0
set_option maxRecDepth 65536 in
set_option maxHeartbeats 40000000 in
theorem rmnn (l : Launch) (Z : State) (a0 : Array Value) (hw : ∀ d ∈ tables_1, d.before a0 Z = true) (ws : List Jvm.Cond) (a1 : Addr) (h0 : Heap) (n0 : Nat) (Z0 : n0 ≤ h0.size) :
    MetFree l (⟨"java/util/Objects", "requireNonNull", "(Ljava/lang/Object;)Ljava/lang/Object;"⟩ : MethodName) (head1 (Jvm.Cond.code (⟨"java/util/Objects", "requireNonNull", "(Ljava/lang/Object;)Ljava/lang/Object;"⟩ : MethodName) jdk_31_method_10_code 1 (some (.object "java/lang/Object")) :: ws) ({ frames := 0, cells := 0, slots := 0, locals := 0 } : Room)) (fun a U => a = #[(.ref a1)] ∧ Z.Warmed39 U.vm ∧ U.heap = h0) (fun _ _ _ _ _ => True) (fun _ U o U' => ∃ v L, o = .returned v ∧ Qrmnn Z a1 h0 n0 v U'.heap L ∧ FrameEnd U o U' L ({ frames := 0, cells := 0, slots := 0, locals := 0 } : Room).cells ({ frames := 0, cells := 0, slots := 0, locals := 0 } : Room).slots) := by
 refine MetFree.of_bodySF (plainFor_of_name pn_16) hisR ?_
 intro p e s m args below meth c s₁ Bd hml0 hP hK
 obtain ⟨rfl, hZ, hh⟩ := hP
 have hx := Bd.exec
 have hby := Bd.bytes
 have hml : c.maxLocals = 1 := hml0
 have hown : s.vm.findClass "java/util/Objects" = some m.cls := findClass_of_methodNamed Bd.named
 have hnm := (name_of_methodNamed Bd.named Bd.method).1
 have X0 : Stand p l e ({ frames := 0, cells := 0, slots := 0, locals := 0 } : Room) s m #[(.ref a1)] below meth c s₁ [] 0 0 := Stand.of_body Bd
 have e0 : s₁.heap = h0 := by rw [← hh, Bd.state]; rfl
 have N0 := Fr.nil n0
 refine own_go (b := (s₁.setTop (mkF m 0 #[.val (.ref a1)] []))) (fun _ k => castTop (ef_rmnn m a1) k) ?_
 refine own_go (b := (s₁.setTop (mkF m 13 #[.val (.ref a1)] [(.ref a1)]))) (fun _ k => XS.aloadN X0.here hx rfl (hb hby d16_0) rfl rfl (XS.ifnonnullYes X0.here hx rfl (pc0 := 1) (pc' := 12) rfl (hb hby d16_1) rfl (by decide) (by decide) (XS.aloadN X0.here hx rfl (hb hby d16_12) rfl rfl k))) ?_
 obtain ⟨fs, hr, hrun, hended, hW, hsame⟩ := X0.leave (v := some (.ref a1)) (fun h => by rw [Bd.returns] at h; cases h)
 exact ⟨_, _, retOut X0 hx Bd.returns rfl (Or.inr (Or.inr (Or.inr (Or.inr ⟨rfl, rfl, rfl⟩)))) (hb hby d16_13) hr, hrun, hended, _, _, rfl, (show Qrmnn Z a1 h0 n0 _ s₁.heap _ from (by rw [e0]; exact ⟨rfl, N0, rfl⟩)), ⟨_, rfl⟩, hW, hsame.mono (by decide) (by decide)⟩
theorem d17_0 : decode jdk_32_method_2_code 0 = .ok (.aload_n 0, 1) := by decide +kernel
theorem d17_1 : decode jdk_32_method_2_code 1 = .ok (.invokespecial 7, 3) := by decide +kernel
theorem d17_4 : decode jdk_32_method_2_code 4 = .ok (.aload_n 0, 1) := by decide +kernel
theorem d17_5 : decode jdk_32_method_2_code 5 = .ok (.aload_n 1, 1) := by decide +kernel
theorem d17_6 : decode jdk_32_method_2_code 6 = .ok (.putfield 13, 3) := by decide +kernel
theorem d17_9 : decode jdk_32_method_2_code 9 = .ok (.return_, 1) := by decide +kernel
theorem pn_17 : plainName "java/util/Optional" = true := by first | (simp [plainName, overriddenIn]; done) | decide +kernel
theorem ef_rmoi (m : MethodId) (x0 : Addr) (x1 : Addr) : entryFrame m #[(.ref x0), (.ref x1)] 2 = mkF m 0 #[.val (.ref x0), .val (.ref x1)] [] := by first | (simp [entryFrame, mkF, argsToLocals, Value.category]; done) | rfl
def Qrmoi (Z : State) (a1 : Addr) (a2 : Addr) (h0 : Heap) (n0 : Nat) (v : Option Value) (h : Heap) (L : List Loc) : Prop := v = none ∧ Fr n0 L ∧ Keep h0 h [a1] ∧ (Fld Z h a1 "java/util/Optional" "value" "Ljava/lang/Object;" (.ref a2))
set_option maxRecDepth 65536 in
set_option maxHeartbeats 40000000 in
theorem rmoi (l : Launch) (Z : State) (a0 : Array Value) (hw : ∀ d ∈ tables_1, d.before a0 Z = true) (ws : List Jvm.Cond) (a1 : Addr) (a2 : Addr) (h0 : Heap) (n0 : Nat) (Z0 : n0 ≤ h0.size) (E_a1 : Exa Z h0 a1 "java/util/Optional") (Fld_a1_value : Fld Z h0 a1 "java/util/Optional" "value" "Ljava/lang/Object;" .null) (g_a1 : n0 ≤ a1) :
    MetFree l (⟨"java/util/Optional", "<init>", "(Ljava/lang/Object;)V"⟩ : MethodName) (head1 (Jvm.Cond.code (⟨"java/util/Optional", "<init>", "(Ljava/lang/Object;)V"⟩ : MethodName) jdk_32_method_2_code 2 none :: ws) ({ frames := 1, cells := 0, slots := 0, locals := 12 } : Room)) (fun a U => a = #[(.ref a1), (.ref a2)] ∧ Z.Warmed39 U.vm ∧ U.heap = h0) (fun _ _ _ _ _ => True) (fun _ U o U' => ∃ v L, o = .returned v ∧ Qrmoi Z a1 a2 h0 n0 v U'.heap L ∧ FrameEnd U o U' L ({ frames := 1, cells := 0, slots := 0, locals := 12 } : Room).cells ({ frames := 1, cells := 0, slots := 0, locals := 12 } : Room).slots) := by
 refine MetFree.of_bodySF (plainFor_of_name pn_17) hisR ?_
 intro p e s m args below meth c s₁ Bd hml0 hP hK
 obtain ⟨rfl, hZ, hh⟩ := hP
 have hx := Bd.exec
 have hby := Bd.bytes
 have hml : c.maxLocals = 2 := hml0
 have hown : s.vm.findClass "java/util/Optional" = some m.cls := findClass_of_methodNamed Bd.named
 have hnm := (name_of_methodNamed Bd.named Bd.method).1
 have X0 : Stand p l e ({ frames := 1, cells := 0, slots := 0, locals := 12 } : Room) s m #[(.ref a1), (.ref a2)] below meth c s₁ [] 0 0 := Stand.of_body Bd
 have e0 : s₁.heap = h0 := by rw [← hh, Bd.state]; rfl
 have N0 := Fr.nil n0
 refine own_go (b := (s₁.setTop (mkF m 0 #[.val (.ref a1), .val (.ref a2)] []))) (fun _ k => castTop (ef_rmoi m a1 a2) k) ?_
 refine own_go (b := (s₁.setTop (mkF m 1 #[.val (.ref a1), .val (.ref a2)] [(.ref a1)]))) (fun _ k => XS.aloadN X0.here hx rfl (hb hby d17_0) rfl rfl k) ?_
 obtain ⟨T1, X1, e1, st1⟩ := initO X0 hx hZ hown (hw _ (List.mem_of_getElem? (i := 99) rfl)) (hw _ (List.mem_of_getElem? (i := 20) rfl)) (hw _ (List.mem_of_getElem? (i := 21) rfl)) e0 (g := (mkF m 1 #[.val (.ref a1), .val (.ref a2)] [(.ref a1)])) rfl (by rw [hml]; rfl) rfl (hb hby d17_1) (by decide) (W := 0) (by show 2 * 0 + _ ≤ _; exact Nat.le_of_eq rfl) (by decide)
 refine own_go (b := (T1.setTop (mkF m 6 #[.val (.ref a1), .val (.ref a2)] [(.ref a2), (.ref a1)]))) (fun _ k => st1 _ (XS.aloadN X1.here hx rfl (hb hby d17_4) rfl rfl (XS.aloadN X1.here hx rfl (hb hby d17_5) rfl rfl k))) ?_
 obtain ⟨T2, h2, X2, e2, W2, st2⟩ := putF X1 hx hZ hown (host := "") (Or.inl (hw _ (List.mem_of_getElem? (i := 74) rfl))) Via.refl e1 Fld_a1_value E_a1 (Or.inr ⟨(hw _ (List.mem_of_getElem? (i := 75) rfl)), rfl, hnm⟩) (hw _ (List.mem_of_getElem? (i := 90) rfl)) (ty := (.object "java/lang/Object")) (by decide) rfl rfl (g := (mkF m 6 #[.val (.ref a1), .val (.ref a2)] [(.ref a2), (.ref a1)])) rfl rfl (hb hby d17_6)
 have N2 := Fr.snoc X2 N0 g_a1
 have Zs3 : n0 ≤ h2.size := Nat.le_trans Z0 (Keep.of_wr W2).1
 have F2 : Fld Z h2 a1 "java/util/Optional" "value" "Ljava/lang/Object;" (.ref a2) := Fld_a1_value.same W2
 refine own_go (b := (T2.setTop (mkF m 9 #[.val (.ref a1), .val (.ref a2)] []))) (fun _ k => st2 _ k) ?_
 have K4 := (Keep.refl h0 [a1]).wr W2 (Or.inl (List.mem_of_getElem? (i := 0) rfl))
 obtain ⟨fs, hr, hrun, hended, hW, hsame⟩ := X2.leave (v := none) (fun _ => rfl)
 exact ⟨_, _, X2.returnOut hx Bd.returns (hb hby d17_9) hr, hrun, hended, _, _, rfl, (show Qrmoi Z a1 a2 h0 n0 _ T2.heap _ from (by rw [e2]; exact ⟨rfl, N2, K4, F2⟩)), ⟨_, rfl⟩, hW, hsame.mono (by decide) (by decide)⟩
theorem d15_0 : decode jdk_32_method_3_code 0 = .ok (.new 2, 3) := by decide +kernel
theorem d15_3 : decode jdk_32_method_3_code 3 = .ok (.dup, 1) := by decide +kernel
theorem d15_4 : decode jdk_32_method_3_code 4 = .ok (.aload_n 0, 1) := by decide +kernel
theorem d15_5 : decode jdk_32_method_3_code 5 = .ok (.invokestatic 17, 3) := by decide +kernel
theorem d15_8 : decode jdk_32_method_3_code 8 = .ok (.invokespecial 23, 3) := by decide +kernel
theorem d15_11 : decode jdk_32_method_3_code 11 = .ok (.areturn, 1) := by decide +kernel
theorem pd__Ljava_lang_Object__Ljava_lang_Object_ : parseMethodDescriptor "(Ljava/lang/Object;)Ljava/lang/Object;" = some ⟨[(.object "java/lang/Object")], some (.object "java/lang/Object")⟩ := by decide +kernel
theorem pd__Ljava_lang_Object__V : parseMethodDescriptor "(Ljava/lang/Object;)V" = some ⟨[(.object "java/lang/Object")], none⟩ := by decide +kernel
theorem pn_15 : plainName "java/util/Optional" = true := by first | (simp [plainName, overriddenIn]; done) | decide +kernel
theorem ef_rmoo (m : MethodId) (x0 : Addr) : entryFrame m #[(.ref x0)] 1 = mkF m 0 #[.val (.ref x0)] [] := by first | (simp [entryFrame, mkF, argsToLocals, Value.category]; done) | rfl
def Qrmoo (Z : State) (a2 : Addr) (h0 : Heap) (n0 : Nat) (v : Option Value) (h : Heap) (L : List Loc) : Prop := ∃ (o : Addr), v = some (.ref o) ∧ Fr n0 L ∧ Keep h0 h [] ∧ (h0.size ≤ o) ∧ (Exa Z h o "java/util/Optional") ∧ (Fld Z h o "java/util/Optional" "value" "Ljava/lang/Object;" (.ref a2))
set_option maxRecDepth 65536 in
set_option maxHeartbeats 40000000 in
theorem rmoo (l : Launch) (Z : State) (a0 : Array Value) (hw : ∀ d ∈ tables_1, d.before a0 Z = true) (ws : List Jvm.Cond) (a2 : Addr) (h0 : Heap) (n0 : Nat) (Z0 : n0 ≤ h0.size) :
    MetFree l (⟨"java/util/Optional", "of", "(Ljava/lang/Object;)Ljava/util/Optional;"⟩ : MethodName) (head1 (Jvm.Cond.code (⟨"java/util/Optional", "of", "(Ljava/lang/Object;)Ljava/util/Optional;"⟩ : MethodName) jdk_32_method_3_code 1 (some (.object "java/util/Optional")) :: ws) ({ frames := 2, cells := 1, slots := 1, locals := 26 } : Room)) (fun a U => a = #[(.ref a2)] ∧ Z.Warmed39 U.vm ∧ U.heap = h0) (fun _ _ _ _ _ => True) (fun _ U o U' => ∃ v L, o = .returned v ∧ Qrmoo Z a2 h0 n0 v U'.heap L ∧ FrameEnd U o U' L ({ frames := 2, cells := 1, slots := 1, locals := 26 } : Room).cells ({ frames := 2, cells := 1, slots := 1, locals := 26 } : Room).slots) := by
 refine MetFree.of_bodySF (plainFor_of_name pn_15) hisR ?_
 intro p e s m args below meth c s₁ Bd hml0 hP hK
 obtain ⟨rfl, hZ, hh⟩ := hP
 have hx := Bd.exec
 have hby := Bd.bytes
 have hml : c.maxLocals = 1 := hml0
 have hown : s.vm.findClass "java/util/Optional" = some m.cls := findClass_of_methodNamed Bd.named
 have hnm := (name_of_methodNamed Bd.named Bd.method).1
 have X0 : Stand p l e ({ frames := 2, cells := 1, slots := 1, locals := 26 } : Room) s m #[(.ref a2)] below meth c s₁ [] 0 0 := Stand.of_body Bd
 have e0 : s₁.heap = h0 := by rw [← hh, Bd.state]; rfl
 have N0 := Fr.nil n0
 refine own_go (b := (s₁.setTop (mkF m 0 #[.val (.ref a2)] []))) (fun _ k => castTop (ef_rmoo m a2) k) ?_
 obtain ⟨T1, h1, X1, e1, E1, A1, D1, Un1, st1⟩ := newO X0 hx hZ hown (hw _ (List.mem_of_getElem? (i := 89) rfl)) (hw _ (List.mem_of_getElem? (i := 90) rfl)) (hw _ (List.mem_of_getElem? (i := 66) rfl)) e0 (g := (mkF m 0 #[.val (.ref a2)] [])) rfl (hb hby d15_0) (by decide) (by decide)
 obtain ⟨b1, g1⟩ : ∃ z, z = h0.size := ⟨_, rfl⟩
 rw [← g1] at A1 D1 Un1 st1
 have Zs2 : n0 ≤ h1.size := Nat.le_trans Z0 E1.1
 have F1_value : Fld Z h1 b1 "java/util/Optional" "value" "Ljava/lang/Object;" .null := D1 (Or.inr (hw _ (List.mem_of_getElem? (i := 75) rfl))) (ty := (.object "java/lang/Object")) (by decide)
 refine own_go (b := (T1.setTop (mkF m 5 #[.val (.ref a2)] [(.ref a2), (.ref b1), (.ref b1)]))) (fun _ k => st1 _ (XS.dup X1.here hx rfl (hb hby d15_3) rfl rfl (XS.aloadN X1.here hx rfl (hb hby d15_4) rfl rfl k))) ?_
 refine own_stat (W := 2) X1 hx hZ hown e1 (hw _ (List.mem_of_getElem? (i := 91) rfl)) (hw _ (List.mem_of_getElem? (i := 92) rfl)) (rmnn l Z a0 hw [] a2 h1 n0 Zs2) (hw _ (List.mem_of_getElem? (i := 94) rfl)) (hw _ (List.mem_of_getElem? (i := 93) rfl)) rfl (by rw [hml]; rfl) rfl (hb hby d15_5) (lenOf pd__Ljava_lang_Object__Ljava_lang_Object_ rfl) rfl (by decide) (fun T3 v3 Ll3 X3 hQ3 => ?_)
 obtain ⟨rfl, N3q, eh3⟩ := hQ3
 have N3 := Fr.app N0 N3q
 have gx5 : n0 ≤ b1 := Nat.le_trans Z0 (Nat.le_of_eq g1.symm)
 refine own_spec (W := 1) X3 hx hZ hown eh3 (hw _ (List.mem_of_getElem? (i := 95) rfl)) (hw _ (List.mem_of_getElem? (i := 96) rfl)) (rmoi l Z a0 hw [] b1 a2 h1 n0 Zs2 A1 F1_value gx5) (hw _ (List.mem_of_getElem? (i := 98) rfl)) (hw _ (List.mem_of_getElem? (i := 66) rfl)) rfl (by rw [hml]; rfl) rfl (hb hby d15_8) (lenOf pd__Ljava_lang_Object__V rfl) rfl rfl (by decide) (fun T4 v4 Ll4 X4 hQ4 => ?_)
 obtain ⟨rfl, N4q, K4, P4_0⟩ := hQ4
 have N4 := Fr.app N3 N4q
 have Zs6 : n0 ≤ T4.heap.size := Nat.le_trans Zs2 K4.1
 have K7 := (Keep.refl h0 []).ext E1
 have K8 := K7.trans K4 (allS (Or.inr (Nat.le_trans (Nat.le_refl _) (Nat.le_of_eq g1.symm))) all0)
 have F9 := A1.keep K4
 obtain ⟨fs, hr, hrun, hended, hW, hsame⟩ := X4.leave (v := some (.ref b1)) (fun h => by rw [Bd.returns] at h; cases h)
 exact ⟨_, _, retOut X4 hx Bd.returns rfl (Or.inr (Or.inr (Or.inr (Or.inr ⟨rfl, rfl, rfl⟩)))) (hb hby d15_11) hr, hrun, hended, _, _, rfl, (show Qrmoo Z a2 h0 n0 _ T4.heap _ from (by exact ⟨b1, rfl, N4, K8, (Nat.le_trans (Nat.le_refl _) (Nat.le_of_eq g1.symm)), F9, P4_0⟩)), ⟨_, rfl⟩, hW, hsame.mono (by decide) (by decide)⟩
theorem d10_0 : decode jdk_32_method_1_code 0 = .ok (.getstatic 1, 3) := by decide +kernel
theorem d10_3 : decode jdk_32_method_1_code 3 = .ok (.astore_n 0, 1) := by decide +kernel
theorem d10_4 : decode jdk_32_method_1_code 4 = .ok (.aload_n 0, 1) := by decide +kernel
theorem d10_5 : decode jdk_32_method_1_code 5 = .ok (.areturn, 1) := by decide +kernel
theorem pn_10 : plainName "java/util/Optional" = true := by first | (simp [plainName, overriddenIn]; done) | decide +kernel
theorem ef_rmoe (m : MethodId)  : entryFrame m #[] 1 = mkF m 0 #[.unset] [] := by first | (simp [entryFrame, mkF, argsToLocals, Value.category]; done) | rfl
def Qrmoe (Z : State) (oe : Addr) (h0 : Heap) (n0 : Nat) (v : Option Value) (h : Heap) (L : List Loc) : Prop := v = some (.ref oe) ∧ Fr n0 L ∧ h = h0
set_option maxRecDepth 65536 in
set_option maxHeartbeats 40000000 in
theorem rmoe (l : Launch) (Z : State) (a0 : Array Value) (hw : ∀ d ∈ tables_1, d.before a0 Z = true) (ws : List Jvm.Cond) (oe : Addr) (h0 : Heap) (n0 : Nat) (Z0 : n0 ≤ h0.size) (O0 : Old Z n0 h0) (S_EMPTY : Sta Z Z.heap "java/util/Optional" "EMPTY" "Ljava/util/Optional;" (.ref oe)) :
    MetFree l (⟨"java/util/Optional", "empty", "()Ljava/util/Optional;"⟩ : MethodName) (head1 (Jvm.Cond.code (⟨"java/util/Optional", "empty", "()Ljava/util/Optional;"⟩ : MethodName) jdk_32_method_1_code 1 (some (.object "java/util/Optional")) :: ws) ({ frames := 0, cells := 0, slots := 0, locals := 0 } : Room)) (fun a U => a = #[] ∧ Z.Warmed39 U.vm ∧ U.heap = h0) (fun _ _ _ _ _ => True) (fun _ U o U' => ∃ v L, o = .returned v ∧ Qrmoe Z oe h0 n0 v U'.heap L ∧ FrameEnd U o U' L ({ frames := 0, cells := 0, slots := 0, locals := 0 } : Room).cells ({ frames := 0, cells := 0, slots := 0, locals := 0 } : Room).slots) := by
 refine MetFree.of_bodySF (plainFor_of_name pn_10) hisR ?_
 intro p e s m args below meth c s₁ Bd hml0 hP hK
 obtain ⟨rfl, hZ, hh⟩ := hP
 have hx := Bd.exec
 have hby := Bd.bytes
 have hml : c.maxLocals = 1 := hml0
 have hown : s.vm.findClass "java/util/Optional" = some m.cls := findClass_of_methodNamed Bd.named
 have hnm := (name_of_methodNamed Bd.named Bd.method).1
 have X0 : Stand p l e ({ frames := 0, cells := 0, slots := 0, locals := 0 } : Room) s m #[] below meth c s₁ [] 0 0 := Stand.of_body Bd
 have e0 : s₁.heap = h0 := by rw [← hh, Bd.state]; rfl
 have N0 := Fr.nil n0
 refine own_go (b := (s₁.setTop (mkF m 0 #[.unset] []))) (fun _ k => castTop (ef_rmoe m ) k) ?_
 obtain ⟨T1, X1, e1, st1⟩ := getS2 X0 hx hZ hown (host := "") (Or.inl (hw _ (List.mem_of_getElem? (i := 68) rfl))) Via.refl e0 (S_EMPTY.ext O0.2) (g := (mkF m 0 #[.unset] [])) rfl (hb hby d10_0)
 refine own_go (b := (T1.setTop (mkF m 5 #[.val (.ref oe)] [(.ref oe)]))) (fun _ k => st1 _ (XS.astoreN X1.here hx rfl (hb hby d10_3) rfl rfl (l' := #[.val (.ref oe)]) rfl (XS.aloadN X1.here hx rfl (hb hby d10_4) rfl rfl k))) ?_
 obtain ⟨fs, hr, hrun, hended, hW, hsame⟩ := X1.leave (v := some (.ref oe)) (fun h => by rw [Bd.returns] at h; cases h)
 exact ⟨_, _, retOut X1 hx Bd.returns rfl (Or.inr (Or.inr (Or.inr (Or.inr ⟨rfl, rfl, rfl⟩)))) (hb hby d10_5) hr, hrun, hended, _, _, rfl, (show Qrmoe Z oe h0 n0 _ T1.heap _ from (by rw [e1]; exact ⟨rfl, N0, rfl⟩)), ⟨_, rfl⟩, hW, hsame.mono (by decide) (by decide)⟩
theorem d11_0 : decode jdk_32_method_6_code 0 = .ok (.aload_n 0, 1) := by decide +kernel
theorem d11_1 : decode jdk_32_method_6_code 1 = .ok (.getfield 13, 3) := by decide +kernel
theorem d11_4 : decode jdk_32_method_6_code 4 = .ok (.ifnull 7, 3) := by decide +kernel
theorem d11_7 : decode jdk_32_method_6_code 7 = .ok (.iconst 1, 1) := by decide +kernel
theorem d11_8 : decode jdk_32_method_6_code 8 = .ok (.goto 4, 3) := by decide +kernel
theorem d11_11 : decode jdk_32_method_6_code 11 = .ok (.iconst 0, 1) := by decide +kernel
theorem d11_12 : decode jdk_32_method_6_code 12 = .ok (.ireturn, 1) := by decide +kernel
theorem pn_11 : plainName "java/util/Optional" = true := by first | (simp [plainName, overriddenIn]; done) | decide +kernel
theorem ef_rmip1 (m : MethodId) (x0 : Addr) : entryFrame m #[(.ref x0)] 1 = mkF m 0 #[.val (.ref x0)] [] := by first | (simp [entryFrame, mkF, argsToLocals, Value.category]; done) | rfl
def Qrmip1 (Z : State) (a1 : Addr) (a2 : Addr) (h0 : Heap) (n0 : Nat) (v : Option Value) (h : Heap) (L : List Loc) : Prop := v = some (.int (1 : Int32)) ∧ Fr n0 L ∧ h = h0
set_option maxRecDepth 65536 in
set_option maxHeartbeats 40000000 in
theorem rmip1 (l : Launch) (Z : State) (a0 : Array Value) (hw : ∀ d ∈ tables_1, d.before a0 Z = true) (ws : List Jvm.Cond) (a1 : Addr) (a2 : Addr) (h0 : Heap) (n0 : Nat) (Z0 : n0 ≤ h0.size) (Fld_a1_value : Fld Z h0 a1 "java/util/Optional" "value" "Ljava/lang/Object;" (.ref a2)) :
    MetFree l (⟨"java/util/Optional", "isPresent", "()Z"⟩ : MethodName) (head1 (Jvm.Cond.code (⟨"java/util/Optional", "isPresent", "()Z"⟩ : MethodName) jdk_32_method_6_code 1 (some .boolean) :: ws) ({ frames := 0, cells := 0, slots := 0, locals := 0 } : Room)) (fun a U => a = #[(.ref a1)] ∧ Z.Warmed39 U.vm ∧ U.heap = h0) (fun _ _ _ _ _ => True) (fun _ U o U' => ∃ v L, o = .returned v ∧ Qrmip1 Z a1 a2 h0 n0 v U'.heap L ∧ FrameEnd U o U' L ({ frames := 0, cells := 0, slots := 0, locals := 0 } : Room).cells ({ frames := 0, cells := 0, slots := 0, locals := 0 } : Room).slots) := by
 refine MetFree.of_bodySF (plainFor_of_name pn_11) hisR ?_
 intro p e s m args below meth c s₁ Bd hml0 hP hK
 obtain ⟨rfl, hZ, hh⟩ := hP
 have hx := Bd.exec
 have hby := Bd.bytes
 have hml : c.maxLocals = 1 := hml0
 have hown : s.vm.findClass "java/util/Optional" = some m.cls := findClass_of_methodNamed Bd.named
 have hnm := (name_of_methodNamed Bd.named Bd.method).1
 have X0 : Stand p l e ({ frames := 0, cells := 0, slots := 0, locals := 0 } : Room) s m #[(.ref a1)] below meth c s₁ [] 0 0 := Stand.of_body Bd
 have e0 : s₁.heap = h0 := by rw [← hh, Bd.state]; rfl
 have N0 := Fr.nil n0
 refine own_go (b := (s₁.setTop (mkF m 0 #[.val (.ref a1)] []))) (fun _ k => castTop (ef_rmip1 m a1) k) ?_
 refine own_go (b := (s₁.setTop (mkF m 1 #[.val (.ref a1)] [(.ref a1)]))) (fun _ k => XS.aloadN X0.here hx rfl (hb hby d11_0) rfl rfl k) ?_
 refine own_getf X0 hx hZ hown (hw _ (List.mem_of_getElem? (i := 74) rfl)) Via.refl e0 Fld_a1_value rfl rfl (hb hby d11_1) (fun T1 X1 e1 => ?_)
 refine own_go (b := (T1.setTop (mkF m 12 #[.val (.ref a1)] [(.int (1 : Int32))]))) (fun _ k => XS.ifnullNo X1.here hx rfl (hb hby d11_4) rfl (XS.iconst X1.here hx rfl (hb hby d11_7) (XS.goto X1.here hx rfl (pc0 := 8) (pc' := 12) rfl (hb hby d11_8) (by decide) (by decide) k))) ?_
 obtain ⟨fs, hr, hrun, hended, hW, hsame⟩ := X1.leave (v := some (.int (1 : Int32))) (fun h => by rw [Bd.returns] at h; cases h)
 exact ⟨_, _, retN X1 hx (t := .boolean) Bd.returns (by simp) (hb hby d11_12) hr, hrun, hended, _, _, rfl, (show Qrmip1 Z a1 a2 h0 n0 _ T1.heap _ from (by rw [e1]; exact ⟨rfl, N0, rfl⟩)), ⟨_, rfl⟩, hW, hsame.mono (by decide) (by decide)⟩
theorem ef_rmip0 (m : MethodId) (x0 : Addr) : entryFrame m #[(.ref x0)] 1 = mkF m 0 #[.val (.ref x0)] [] := by first | (simp [entryFrame, mkF, argsToLocals, Value.category]; done) | rfl
def Qrmip0 (Z : State) (a1 : Addr) (h0 : Heap) (n0 : Nat) (v : Option Value) (h : Heap) (L : List Loc) : Prop := v = some (.int (0 : Int32)) ∧ Fr n0 L ∧ h = h0
set_option maxRecDepth 65536 in
set_option maxHeartbeats 40000000 in
theorem rmip0 (l : Launch) (Z : State) (a0 : Array Value) (hw : ∀ d ∈ tables_1, d.before a0 Z = true) (ws : List Jvm.Cond) (a1 : Addr) (h0 : Heap) (n0 : Nat) (Z0 : n0 ≤ h0.size) (Fld_a1_value : Fld Z h0 a1 "java/util/Optional" "value" "Ljava/lang/Object;" .null) :
    MetFree l (⟨"java/util/Optional", "isPresent", "()Z"⟩ : MethodName) (head1 (Jvm.Cond.code (⟨"java/util/Optional", "isPresent", "()Z"⟩ : MethodName) jdk_32_method_6_code 1 (some .boolean) :: ws) ({ frames := 0, cells := 0, slots := 0, locals := 0 } : Room)) (fun a U => a = #[(.ref a1)] ∧ Z.Warmed39 U.vm ∧ U.heap = h0) (fun _ _ _ _ _ => True) (fun _ U o U' => ∃ v L, o = .returned v ∧ Qrmip0 Z a1 h0 n0 v U'.heap L ∧ FrameEnd U o U' L ({ frames := 0, cells := 0, slots := 0, locals := 0 } : Room).cells ({ frames := 0, cells := 0, slots := 0, locals := 0 } : Room).slots) := by
 refine MetFree.of_bodySF (plainFor_of_name pn_11) hisR ?_
 intro p e s m args below meth c s₁ Bd hml0 hP hK
 obtain ⟨rfl, hZ, hh⟩ := hP
 have hx := Bd.exec
 have hby := Bd.bytes
 have hml : c.maxLocals = 1 := hml0
 have hown : s.vm.findClass "java/util/Optional" = some m.cls := findClass_of_methodNamed Bd.named
 have hnm := (name_of_methodNamed Bd.named Bd.method).1
 have X0 : Stand p l e ({ frames := 0, cells := 0, slots := 0, locals := 0 } : Room) s m #[(.ref a1)] below meth c s₁ [] 0 0 := Stand.of_body Bd
 have e0 : s₁.heap = h0 := by rw [← hh, Bd.state]; rfl
 have N0 := Fr.nil n0
 refine own_go (b := (s₁.setTop (mkF m 0 #[.val (.ref a1)] []))) (fun _ k => castTop (ef_rmip0 m a1) k) ?_
 refine own_go (b := (s₁.setTop (mkF m 1 #[.val (.ref a1)] [(.ref a1)]))) (fun _ k => XS.aloadN X0.here hx rfl (hb hby d11_0) rfl rfl k) ?_
 refine own_getf X0 hx hZ hown (hw _ (List.mem_of_getElem? (i := 74) rfl)) Via.refl e0 Fld_a1_value rfl rfl (hb hby d11_1) (fun T1 X1 e1 => ?_)
 refine own_go (b := (T1.setTop (mkF m 12 #[.val (.ref a1)] [(.int (0 : Int32))]))) (fun _ k => XS.ifnullYes X1.here hx rfl (pc0 := 4) (pc' := 11) rfl (hb hby d11_4) rfl (by decide) (by decide) (XS.iconst X1.here hx rfl (hb hby d11_11) k)) ?_
 obtain ⟨fs, hr, hrun, hended, hW, hsame⟩ := X1.leave (v := some (.int (0 : Int32))) (fun h => by rw [Bd.returns] at h; cases h)
 exact ⟨_, _, retN X1 hx (t := .boolean) Bd.returns (by simp) (hb hby d11_12) hr, hrun, hended, _, _, rfl, (show Qrmip0 Z a1 h0 n0 _ T1.heap _ from (by rw [e1]; exact ⟨rfl, N0, rfl⟩)), ⟨_, rfl⟩, hW, hsame.mono (by decide) (by decide)⟩
theorem d18_0 : decode jdk_32_method_5_code 0 = .ok (.aload_n 0, 1) := by decide +kernel
theorem d18_1 : decode jdk_32_method_5_code 1 = .ok (.getfield 13, 3) := by decide +kernel
theorem d18_4 : decode jdk_32_method_5_code 4 = .ok (.ifnonnull 13, 3) := by decide +kernel
theorem d18_7 : decode jdk_32_method_5_code 7 = .ok (.new 26, 3) := by decide +kernel
theorem d18_10 : decode jdk_32_method_5_code 10 = .ok (.dup, 1) := by decide +kernel
theorem d18_11 : decode jdk_32_method_5_code 11 = .ok (.ldc 28, 2) := by decide +kernel
theorem d18_13 : decode jdk_32_method_5_code 13 = .ok (.invokespecial 30, 3) := by decide +kernel
theorem d18_16 : decode jdk_32_method_5_code 16 = .ok (.athrow, 1) := by decide +kernel
theorem d18_17 : decode jdk_32_method_5_code 17 = .ok (.aload_n 0, 1) := by decide +kernel
theorem d18_18 : decode jdk_32_method_5_code 18 = .ok (.getfield 13, 3) := by decide +kernel
theorem d18_21 : decode jdk_32_method_5_code 21 = .ok (.areturn, 1) := by decide +kernel
theorem pn_18 : plainName "java/util/Optional" = true := by first | (simp [plainName, overriddenIn]; done) | decide +kernel
theorem ef_rmog (m : MethodId) (x0 : Addr) : entryFrame m #[(.ref x0)] 1 = mkF m 0 #[.val (.ref x0)] [] := by first | (simp [entryFrame, mkF, argsToLocals, Value.category]; done) | rfl
def Qrmog (Z : State) (a1 : Addr) (a2 : Addr) (h0 : Heap) (n0 : Nat) (v : Option Value) (h : Heap) (L : List Loc) : Prop := v = some (.ref a2) ∧ Fr n0 L ∧ h = h0
set_option maxRecDepth 65536 in
set_option maxHeartbeats 40000000 in
theorem rmog (l : Launch) (Z : State) (a0 : Array Value) (hw : ∀ d ∈ tables_1, d.before a0 Z = true) (ws : List Jvm.Cond) (a1 : Addr) (a2 : Addr) (h0 : Heap) (n0 : Nat) (Z0 : n0 ≤ h0.size) (Fld_a1_value : Fld Z h0 a1 "java/util/Optional" "value" "Ljava/lang/Object;" (.ref a2)) :
    MetFree l (⟨"java/util/Optional", "get", "()Ljava/lang/Object;"⟩ : MethodName) (head1 (Jvm.Cond.code (⟨"java/util/Optional", "get", "()Ljava/lang/Object;"⟩ : MethodName) jdk_32_method_5_code 1 (some (.object "java/lang/Object")) :: ws) ({ frames := 0, cells := 0, slots := 0, locals := 0 } : Room)) (fun a U => a = #[(.ref a1)] ∧ Z.Warmed39 U.vm ∧ U.heap = h0) (fun _ _ _ _ _ => True) (fun _ U o U' => ∃ v L, o = .returned v ∧ Qrmog Z a1 a2 h0 n0 v U'.heap L ∧ FrameEnd U o U' L ({ frames := 0, cells := 0, slots := 0, locals := 0 } : Room).cells ({ frames := 0, cells := 0, slots := 0, locals := 0 } : Room).slots) := by
 refine MetFree.of_bodySF (plainFor_of_name pn_18) hisR ?_
 intro p e s m args below meth c s₁ Bd hml0 hP hK
 obtain ⟨rfl, hZ, hh⟩ := hP
 have hx := Bd.exec
 have hby := Bd.bytes
 have hml : c.maxLocals = 1 := hml0
 have hown : s.vm.findClass "java/util/Optional" = some m.cls := findClass_of_methodNamed Bd.named
 have hnm := (name_of_methodNamed Bd.named Bd.method).1
 have X0 : Stand p l e ({ frames := 0, cells := 0, slots := 0, locals := 0 } : Room) s m #[(.ref a1)] below meth c s₁ [] 0 0 := Stand.of_body Bd
 have e0 : s₁.heap = h0 := by rw [← hh, Bd.state]; rfl
 have N0 := Fr.nil n0
 refine own_go (b := (s₁.setTop (mkF m 0 #[.val (.ref a1)] []))) (fun _ k => castTop (ef_rmog m a1) k) ?_
 refine own_go (b := (s₁.setTop (mkF m 1 #[.val (.ref a1)] [(.ref a1)]))) (fun _ k => XS.aloadN X0.here hx rfl (hb hby d18_0) rfl rfl k) ?_
 refine own_getf X0 hx hZ hown (hw _ (List.mem_of_getElem? (i := 74) rfl)) Via.refl e0 Fld_a1_value rfl rfl (hb hby d18_1) (fun T1 X1 e1 => ?_)
 refine own_go (b := (T1.setTop (mkF m 18 #[.val (.ref a1)] [(.ref a1)]))) (fun _ k => XS.ifnonnullYes X1.here hx rfl (pc0 := 4) (pc' := 17) rfl (hb hby d18_4) rfl (by decide) (by decide) (XS.aloadN X1.here hx rfl (hb hby d18_17) rfl rfl k)) ?_
 refine own_getf X1 hx hZ hown (hw _ (List.mem_of_getElem? (i := 74) rfl)) Via.refl e1 Fld_a1_value rfl rfl (hb hby d18_18) (fun T2 X2 e2 => ?_)
 obtain ⟨fs, hr, hrun, hended, hW, hsame⟩ := X2.leave (v := some (.ref a2)) (fun h => by rw [Bd.returns] at h; cases h)
 exact ⟨_, _, retOut X2 hx Bd.returns rfl (Or.inr (Or.inr (Or.inr (Or.inr ⟨rfl, rfl, rfl⟩)))) (hb hby d18_21) hr, hrun, hended, _, _, rfl, (show Qrmog Z a1 a2 h0 n0 _ T2.heap _ from (by rw [e2]; exact ⟨rfl, N0, rfl⟩)), ⟨_, rfl⟩, hW, hsame.mono (by decide) (by decide)⟩
theorem d7_0 : decode prog_22_method_1_code 0 = .ok (.getstatic 10, 3) := by decide +kernel
theorem d7_3 : decode prog_22_method_1_code 3 = .ok (.invokevirtual 14, 3) := by decide +kernel
theorem d7_6 : decode prog_22_method_1_code 6 = .ok (.checkcast 15, 3) := by decide +kernel
theorem d7_9 : decode prog_22_method_1_code 9 = .ok (.areturn, 1) := by decide +kernel
theorem pn_7 : plainName "com/example/keyclasp/keyclasp/protocol/ProtocolVersion" = true := by first | (simp [plainName, overriddenIn]; done) | decide +kernel
theorem ef_rmvs (m : MethodId)  : entryFrame m #[] 0 = mkF m 0 #[] [] := by first | (simp [entryFrame, mkF, argsToLocals, Value.category]; done) | rfl
def Qrmvs (Z : State) (vv : Addr) (kvv : ClassId) (ev2 : Addr) (ev3 : Addr) (h0 : Heap) (n0 : Nat) (v : Option Value) (h : Heap) (L : List Loc) : Prop := ∃ (b : Addr), v = some (.ref b) ∧ Fr n0 L ∧ Keep h0 h [] ∧ (h0.size ≤ b) ∧ (Arv Z h b kvv (.object "com/example/keyclasp/keyclasp/protocol/ProtocolVersion") (2 : Int32) [(.ref ev2), (.ref ev3)] .null)
set_option maxRecDepth 65536 in
set_option maxHeartbeats 40000000 in
theorem rmvs (l : Launch) (Z : State) (a0 : Array Value) (hw : ∀ d ∈ tables_1, d.before a0 Z = true) (ws : List Jvm.Cond) (vv : Addr) (kvv : ClassId) (ev2 : Addr) (ev3 : Addr) (h0 : Heap) (n0 : Nat) (Z0 : n0 ≤ h0.size) (O0 : Old Z n0 h0) (S__VALUES : Sta Z Z.heap "com/example/keyclasp/keyclasp/protocol/ProtocolVersion" "$VALUES" "[Lcom/example/keyclasp/keyclasp/protocol/ProtocolVersion;" (.ref vv)) (EZ_vv : Exa Z Z.heap vv "[Lcom/example/keyclasp/keyclasp/protocol/ProtocolVersion;") (VZ_vv : Arv Z Z.heap vv kvv (.object "com/example/keyclasp/keyclasp/protocol/ProtocolVersion") (2 : Int32) [(.ref ev2), (.ref ev3)] .null) :
    MetFree l (⟨"com/example/keyclasp/keyclasp/protocol/ProtocolVersion", "values", "()[Lcom/example/keyclasp/keyclasp/protocol/ProtocolVersion;"⟩ : MethodName) (head1 (Jvm.Cond.code (⟨"com/example/keyclasp/keyclasp/protocol/ProtocolVersion", "values", "()[Lcom/example/keyclasp/keyclasp/protocol/ProtocolVersion;"⟩ : MethodName) prog_22_method_1_code 0 (some (.array (.object "com/example/keyclasp/keyclasp/protocol/ProtocolVersion"))) :: ws) ({ frames := 1, cells := 1, slots := 2, locals := 14 } : Room)) (fun a U => a = #[] ∧ Z.Warmed39 U.vm ∧ U.heap = h0) (fun _ _ _ _ _ => True) (fun _ U o U' => ∃ v L, o = .returned v ∧ Qrmvs Z vv kvv ev2 ev3 h0 n0 v U'.heap L ∧ FrameEnd U o U' L ({ frames := 1, cells := 1, slots := 2, locals := 14 } : Room).cells ({ frames := 1, cells := 1, slots := 2, locals := 14 } : Room).slots) := by
 refine MetFree.of_bodySF (plainFor_of_name pn_7) hisR ?_
 intro p e s m args below meth c s₁ Bd hml0 hP hK
 obtain ⟨rfl, hZ, hh⟩ := hP
 have hx := Bd.exec
 have hby := Bd.bytes
 have hml : c.maxLocals = 0 := hml0
 have hown : s.vm.findClass "com/example/keyclasp/keyclasp/protocol/ProtocolVersion" = some m.cls := findClass_of_methodNamed Bd.named
 have hnm := (name_of_methodNamed Bd.named Bd.method).1
 have X0 : Stand p l e ({ frames := 1, cells := 1, slots := 2, locals := 14 } : Room) s m #[] below meth c s₁ [] 0 0 := Stand.of_body Bd
 have e0 : s₁.heap = h0 := by rw [← hh, Bd.state]; rfl
 have N0 := Fr.nil n0
 refine own_go (b := (s₁.setTop (mkF m 0 #[] []))) (fun _ k => castTop (ef_rmvs m ) k) ?_
 obtain ⟨T1, X1, e1, st1⟩ := getS2 X0 hx hZ hown (host := "") (Or.inl (hw _ (List.mem_of_getElem? (i := 37) rfl))) Via.refl e0 (S__VALUES.ext O0.2) (g := (mkF m 0 #[] [])) rfl (hb hby d7_0)
 refine own_go (b := (T1.setTop (mkF m 3 #[] [(.ref vv)]))) (fun _ k => st1 _ k) ?_
 obtain ⟨T2, h2, X2, e2, E2, V2, Ex2, st2⟩ := own_cloneV X1 hx hZ hown (hw _ (List.mem_of_getElem? (i := 39) rfl)) (hw _ (List.mem_of_getElem? (i := 40) rfl)) (hw _ (List.mem_of_getElem? (i := 44) rfl)) (hw _ (List.mem_of_getElem? (i := 42) rfl)) (hw _ (List.mem_of_getElem? (i := 43) rfl)) (hw _ (List.mem_of_getElem? (i := 45) rfl)) e1 (VZ_vv.ext O0.2) (EZ_vv.ext O0.2) (g := (mkF m 3 #[] [(.ref vv)])) rfl (by rw [hml]; rfl) rfl (hb hby d7_3) (by decide) (cap := 2) (W := 0) (by show 2 * 0 + _ ≤ _; exact Nat.le_of_eq rfl) (by decide) (by decide) (by decide) (by decide)
 obtain ⟨b2, g2⟩ : ∃ z, z = h0.size := ⟨_, rfl⟩
 rw [← g2] at V2 Ex2 st2
 have Zs3 : n0 ≤ h2.size := Nat.le_trans Z0 E2.1
 refine own_go (b := (T2.setTop (mkF m 6 #[] [(.ref b2)]))) (fun _ k => st2 _ k) ?_
 obtain ⟨T4, X4, e4, st4⟩ := castY X2 hx hZ hown (hw _ (List.mem_of_getElem? (i := 49) rfl)) e2 (Ins.self Ex2) (g := (mkF m 6 #[] [(.ref b2)])) rfl rfl (hb hby d7_6)
 refine own_go (b := (T4.setTop (mkF m 9 #[] [(.ref b2)]))) (fun _ k => st4 _ k) ?_
 have K5 := (Keep.refl h0 []).ext E2
 obtain ⟨fs, hr, hrun, hended, hW, hsame⟩ := X4.leave (v := some (.ref b2)) (fun h => by rw [Bd.returns] at h; cases h)
 exact ⟨_, _, retOut X4 hx Bd.returns rfl (Or.inr (Or.inr (Or.inr (Or.inr ⟨rfl, rfl, rfl⟩)))) (hb hby d7_9) hr, hrun, hended, _, _, rfl, (show Qrmvs Z vv kvv ev2 ev3 h0 n0 _ T4.heap _ from (by rw [e4]; exact ⟨b2, rfl, N0, K5, (Nat.le_trans (Nat.le_refl _) (Nat.le_of_eq g2.symm)), V2⟩)), ⟨_, rfl⟩, hW, hsame.mono (by decide) (by decide)⟩
theorem d6_0 : decode prog_22_method_4_code 0 = .ok (.invokestatic 37, 3) := by decide +kernel
theorem d6_3 : decode prog_22_method_4_code 3 = .ok (.astore_n 1, 1) := by decide +kernel
theorem d6_4 : decode prog_22_method_4_code 4 = .ok (.aload_n 1, 1) := by decide +kernel
theorem d6_5 : decode prog_22_method_4_code 5 = .ok (.arraylength, 1) := by decide +kernel
theorem d6_6 : decode prog_22_method_4_code 6 = .ok (.istore_n 2, 1) := by decide +kernel
theorem d6_7 : decode prog_22_method_4_code 7 = .ok (.iconst 0, 1) := by decide +kernel
theorem d6_8 : decode prog_22_method_4_code 8 = .ok (.istore_n 3, 1) := by decide +kernel
theorem d6_9 : decode prog_22_method_4_code 9 = .ok (.iload_n 3, 1) := by decide +kernel
theorem d6_10 : decode prog_22_method_4_code 10 = .ok (.iload_n 2, 1) := by decide +kernel
theorem d6_11 : decode prog_22_method_4_code 11 = .ok (.if_icmp .ge 32, 3) := by decide +kernel
theorem d6_14 : decode prog_22_method_4_code 14 = .ok (.aload_n 1, 1) := by decide +kernel
theorem d6_15 : decode prog_22_method_4_code 15 = .ok (.iload_n 3, 1) := by decide +kernel
theorem d6_16 : decode prog_22_method_4_code 16 = .ok (.aaload, 1) := by decide +kernel
theorem d6_17 : decode prog_22_method_4_code 17 = .ok (.astore 4, 2) := by decide +kernel
theorem d6_19 : decode prog_22_method_4_code 19 = .ok (.aload 4, 2) := by decide +kernel
theorem d6_21 : decode prog_22_method_4_code 21 = .ok (.getfield 29, 3) := by decide +kernel
theorem d6_24 : decode prog_22_method_4_code 24 = .ok (.aload_n 0, 1) := by decide +kernel
theorem d6_25 : decode prog_22_method_4_code 25 = .ok (.invokevirtual 41, 3) := by decide +kernel
theorem d6_28 : decode prog_22_method_4_code 28 = .ok (.ifCond .eq 9, 3) := by decide +kernel
theorem d6_31 : decode prog_22_method_4_code 31 = .ok (.aload 4, 2) := by decide +kernel
theorem d6_33 : decode prog_22_method_4_code 33 = .ok (.invokestatic 47, 3) := by decide +kernel
theorem d6_36 : decode prog_22_method_4_code 36 = .ok (.areturn, 1) := by decide +kernel
theorem d6_37 : decode prog_22_method_4_code 37 = .ok (.iinc 3 1, 3) := by decide +kernel
theorem d6_40 : decode prog_22_method_4_code 40 = .ok (.goto (-31), 3) := by decide +kernel
theorem d6_43 : decode prog_22_method_4_code 43 = .ok (.invokestatic 53, 3) := by decide +kernel
theorem d6_46 : decode prog_22_method_4_code 46 = .ok (.areturn, 1) := by decide +kernel
theorem pd____Lcom_example_keyclasp_keyclasp_protocol_ProtocolVersion_ : parseMethodDescriptor "()[Lcom/example/keyclasp/keyclasp/protocol/ProtocolVersion;" = some ⟨[], some (.array (.object "com/example/keyclasp/keyclasp/protocol/ProtocolVersion"))⟩ := by decide +kernel
theorem pd__Ljava_lang_Object__Z : parseMethodDescriptor "(Ljava/lang/Object;)Z" = some ⟨[(.object "java/lang/Object")], some .boolean⟩ := by decide +kernel
theorem pd___Ljava_util_Optional_ : parseMethodDescriptor "()Ljava/util/Optional;" = some ⟨[], some (.object "java/util/Optional")⟩ := by decide +kernel
theorem pn_6 : plainName "com/example/keyclasp/keyclasp/protocol/ProtocolVersion" = true := by first | (simp [plainName, overriddenIn]; done) | decide +kernel
theorem ef_rmofN0 (m : MethodId) (x0 : Addr) : entryFrame m #[(.ref x0)] 5 = mkF m 0 #[.val (.ref x0), .unset, .unset, .unset, .unset] [] := by first | (simp [entryFrame, mkF, argsToLocals, Value.category]; done) | rfl
def QrmofN0 (Z : State) (a1 : Addr) (bs : Addr) (kbs : ClassId) (cs : Int32) (vv : Addr) (kvv : ClassId) (ev2 : Addr) (ev3 : Addr) (t2 : Addr) (u2 : Addr) (ku2 : ClassId) (t3 : Addr) (u3 : Addr) (ku3 : ClassId) (oe : Addr) (h0 : Heap) (n0 : Nat) (v : Option Value) (h : Heap) (L : List Loc) : Prop := v = some (.ref oe) ∧ Fr n0 L ∧ Keep h0 h []
set_option maxRecDepth 65536 in
set_option maxHeartbeats 40000000 in
theorem rmofN0 (l : Launch) (Z : State) (a0 : Array Value) (hw : ∀ d ∈ tables_1, d.before a0 Z = true) (ws : List Jvm.Cond) (a1 : Addr) (bs : Addr) (kbs : ClassId) (cs : Int32) (vv : Addr) (kvv : ClassId) (ev2 : Addr) (ev3 : Addr) (t2 : Addr) (u2 : Addr) (ku2 : ClassId) (t3 : Addr) (u3 : Addr) (ku3 : ClassId) (oe : Addr) (h0 : Heap) (n0 : Nat) (Z0 : n0 ≤ h0.size) (O0 : Old Z n0 h0) (S_COMPACT_STRINGS : Sta Z Z.heap "java/lang/String" "COMPACT_STRINGS" "Z" (.int cs)) (hcs : ¬ (cs = (0 : Int32))) (S__VALUES : Sta Z Z.heap "com/example/keyclasp/keyclasp/protocol/ProtocolVersion" "$VALUES" "[Lcom/example/keyclasp/keyclasp/protocol/ProtocolVersion;" (.ref vv)) (EZ_vv : Exa Z Z.heap vv "[Lcom/example/keyclasp/keyclasp/protocol/ProtocolVersion;") (VZ_vv : Arv Z Z.heap vv kvv (.object "com/example/keyclasp/keyclasp/protocol/ProtocolVersion") (2 : Int32) [(.ref ev2), (.ref ev3)] .null) (EZ_ev2 : Exa Z Z.heap ev2 "com/example/keyclasp/keyclasp/protocol/ProtocolVersion") (Fld0_ev2_text : Fld Z Z.heap ev2 "com/example/keyclasp/keyclasp/protocol/ProtocolVersion" "text" "Ljava/lang/String;" (.ref t2)) (EZ_t2 : Exa Z Z.heap t2 "java/lang/String") (Fld0_t2_coder : Fld Z Z.heap t2 "java/lang/String" "coder" "B" (.int (0 : Int32))) (Fld0_t2_value : Fld Z Z.heap t2 "java/lang/String" "value" "[B" (.ref u2)) (VZ_u2 : Arv Z Z.heap u2 ku2 .byte (3 : Int32) [(.int (51 : Int32)), (.int (46 : Int32)), (.int (50 : Int32))] (.int (0 : Int32))) (EZ_ev3 : Exa Z Z.heap ev3 "com/example/keyclasp/keyclasp/protocol/ProtocolVersion") (Fld0_ev3_text : Fld Z Z.heap ev3 "com/example/keyclasp/keyclasp/protocol/ProtocolVersion" "text" "Ljava/lang/String;" (.ref t3)) (EZ_t3 : Exa Z Z.heap t3 "java/lang/String") (Fld0_t3_coder : Fld Z Z.heap t3 "java/lang/String" "coder" "B" (.int (0 : Int32))) (Fld0_t3_value : Fld Z Z.heap t3 "java/lang/String" "value" "[B" (.ref u3)) (VZ_u3 : Arv Z Z.heap u3 ku3 .byte (3 : Int32) [(.int (51 : Int32)), (.int (46 : Int32)), (.int (51 : Int32))] (.int (0 : Int32))) (S_EMPTY : Sta Z Z.heap "java/util/Optional" "EMPTY" "Ljava/util/Optional;" (.ref oe)) (g_a1 : n0 ≤ a1) (E_a1 : Exa Z h0 a1 "java/lang/String") (Fld_a1_coder : Fld Z h0 a1 "java/lang/String" "coder" "B" (.int (0 : Int32))) (Fld_a1_value : Fld Z h0 a1 "java/lang/String" "value" "[B" (.ref bs)) (V_bs : Arv Z h0 bs kbs .byte (0 : Int32) [] (.int (0 : Int32))) :
    MetFree l (⟨"com/example/keyclasp/keyclasp/protocol/ProtocolVersion", "of", "(Ljava/lang/String;)Ljava/util/Optional;"⟩ : MethodName) (head1 (Jvm.Cond.code (⟨"com/example/keyclasp/keyclasp/protocol/ProtocolVersion", "of", "(Ljava/lang/String;)Ljava/util/Optional;"⟩ : MethodName) prog_22_method_4_code 5 (some (.object "java/util/Optional")) :: ws) ({ frames := 2, cells := 1, slots := 2, locals := 28 } : Room)) (fun a U => a = #[(.ref a1)] ∧ Z.Warmed39 U.vm ∧ U.heap = h0) (fun _ _ _ _ _ => True) (fun _ U o U' => ∃ v L, o = .returned v ∧ QrmofN0 Z a1 bs kbs cs vv kvv ev2 ev3 t2 u2 ku2 t3 u3 ku3 oe h0 n0 v U'.heap L ∧ FrameEnd U o U' L ({ frames := 2, cells := 1, slots := 2, locals := 28 } : Room).cells ({ frames := 2, cells := 1, slots := 2, locals := 28 } : Room).slots) := by
 refine MetFree.of_bodySF (plainFor_of_name pn_6) hisR ?_
 intro p e s m args below meth c s₁ Bd hml0 hP hK
 obtain ⟨rfl, hZ, hh⟩ := hP
 have hx := Bd.exec
 have hby := Bd.bytes
 have hml : c.maxLocals = 5 := hml0
 have hown : s.vm.findClass "com/example/keyclasp/keyclasp/protocol/ProtocolVersion" = some m.cls := findClass_of_methodNamed Bd.named
 have hnm := (name_of_methodNamed Bd.named Bd.method).1
 have X0 : Stand p l e ({ frames := 2, cells := 1, slots := 2, locals := 28 } : Room) s m #[(.ref a1)] below meth c s₁ [] 0 0 := Stand.of_body Bd
 have e0 : s₁.heap = h0 := by rw [← hh, Bd.state]; rfl
 have N0 := Fr.nil n0
 refine own_go (b := (s₁.setTop (mkF m 0 #[.val (.ref a1), .unset, .unset, .unset, .unset] []))) (fun _ k => castTop (ef_rmofN0 m a1) k) ?_
 refine own_stat (W := 0) X0 hx hZ hown e0 (hw _ (List.mem_of_getElem? (i := 34) rfl)) (hw _ (List.mem_of_getElem? (i := 35) rfl)) (rmvs l Z a0 hw [] vv kvv ev2 ev3 h0 n0 Z0 O0 S__VALUES EZ_vv VZ_vv) (hw _ (List.mem_of_getElem? (i := 36) rfl)) (hw _ (List.mem_of_getElem? (i := 32) rfl)) rfl (by rw [hml]; rfl) rfl (hb hby d6_0) (lenOf pd____Lcom_example_keyclasp_keyclasp_protocol_ProtocolVersion_ rfl) rfl (by decide) (fun T1 v1 Ll1 X1 hQ1 => ?_)
 obtain ⟨b_1, rfl, N1q, K1, P1_0, P1_1⟩ := hQ1
 have N1 := Fr.app N0 N1q
 have Zs2 : n0 ≤ T1.heap.size := Nat.le_trans Z0 K1.1
 refine own_go (b := (T1.setTop (mkF m 5 #[.val (.ref a1), .val (.ref b_1), .unset, .unset, .unset] [(.ref b_1)]))) (fun _ k => XS.astoreN X1.here hx rfl (hb hby d6_3) rfl rfl (l' := #[.val (.ref a1), .val (.ref b_1), .unset, .unset, .unset]) rfl (XS.aloadN X1.here hx rfl (hb hby d6_4) rfl rfl k)) ?_
 obtain ⟨cl3, Ar3, -, Sz3, Nn3, -, -⟩ := id P1_1
 refine own_go (b := (T1.setTop (mkF m 16 #[.val (.ref a1), .val (.ref b_1), .val (.int (2 : Int32)), .val (.int (0 : Int32)), .unset] [(.int (0 : Int32)), (.ref b_1)]))) (fun _ k => X1.arraylength hx Ar3.1 (State.isArrayOf_alike hZ.alike Ar3.2.1) (g := (mkF m 5 #[.val (.ref a1), .val (.ref b_1), .unset, .unset, .unset] [(.ref b_1)])) rfl rfl (hb hby d6_5) _ (by rw [len_of Sz3 Nn3]; exact (XS.istoreN X1.here hx rfl (hb hby d6_6) rfl (l' := #[.val (.ref a1), .val (.ref b_1), .val (.int (2 : Int32)), .unset, .unset]) rfl (XS.iconst X1.here hx rfl (hb hby d6_7) (XS.istoreN X1.here hx rfl (hb hby d6_8) rfl (l' := #[.val (.ref a1), .val (.ref b_1), .val (.int (2 : Int32)), .val (.int (0 : Int32)), .unset]) rfl (XS.iloadN X1.here hx rfl (hb hby d6_9) rfl (XS.iloadN X1.here hx rfl (hb hby d6_10) rfl (XS.icmpNo X1.here hx rfl (hb hby d6_11) rfl (tlt (by decide : (0 : Int32) < (2 : Int32))).2.1 (XS.aloadN X1.here hx rfl (hb hby d6_14) rfl rfl (XS.iloadN X1.here hx rfl (hb hby d6_15) rfl k)))))))))) ?_
 obtain ⟨cl4, Ar4, ql4, Sz4, Nn4, Hl4, Gl4⟩ := id P1_1
 have hin4 : ¬ ((0 : Int32) < 0 ∨ cl4.slots.size ≤ ((0 : Int32)).toNatClampNeg) := inb_of Sz4 ⟨by decide, by decide⟩
 refine own_go (b := (T1.setTop (mkF m 21 #[.val (.ref a1), .val (.ref b_1), .val (.int (2 : Int32)), .val (.int (0 : Int32)), .val (.ref ev2)] [(.ref ev2)]))) (fun _ k => X1.aaload hx (j := (0 : Int32)) (v := (.ref ev2)) Ar4.1 (State.isArrayOf_alike hZ.alike Ar4.2.1) rfl Ar4.2.2 hin4 (Hl4.at hin4 rfl) (g := (mkF m 16 #[.val (.ref a1), .val (.ref b_1), .val (.int (2 : Int32)), .val (.int (0 : Int32)), .unset] [(.int (0 : Int32)), (.ref b_1)])) rfl rfl (hb hby d6_16) _ (XS.astore X1.here hx rfl (hb hby d6_17) rfl rfl (l' := #[.val (.ref a1), .val (.ref b_1), .val (.int (2 : Int32)), .val (.int (0 : Int32)), .val (.ref ev2)]) rfl (XS.aload X1.here hx rfl (hb hby d6_19) rfl rfl k))) ?_
 have O5 := O0.keep K1 all0
 refine own_getf X1 hx hZ hown (hw _ (List.mem_of_getElem? (i := 51) rfl)) Via.refl rfl (Fld0_ev2_text.ext O5.2) rfl rfl (hb hby d6_21) (fun T6 X6 e6 => ?_)
 refine own_go (b := (T6.setTop (mkF m 25 #[.val (.ref a1), .val (.ref b_1), .val (.int (2 : Int32)), .val (.int (0 : Int32)), .val (.ref ev2)] [(.ref a1), (.ref t2)]))) (fun _ k => XS.aloadN X6.here hx rfl (hb hby d6_24) rfl rfl k) ?_
 have nx8 : t2 ≠ a1 := (Old.ne O5 EZ_t2.lt g_a1)
 have F9 := E_a1.keep K1
 have F10 := Fld_a1_coder.keep K1 nin0
 have F11 := Fld_a1_value.keep K1 nin0
 have F12 := V_bs.keep K1 nin0
 refine own_virt (W := 0) X6 hx hZ hown e6 (hw _ (List.mem_of_getElem? (i := 53) rfl)) (hw _ (List.mem_of_getElem? (i := 54) rfl)) (hw _ (List.mem_of_getElem? (i := 56) rfl)) (hw _ (List.mem_of_getElem? (i := 55) rfl)) (rmseN0 l Z a0 hw [] t2 a1 u2 bs ku2 kbs (51 : Int32) (46 : Int32) (50 : Int32) cs T1.heap n0 Zs2 O5 S_COMPACT_STRINGS hcs nx8 F9 (Fld0_t2_coder.ext O5.2) (Fld0_t2_value.ext O5.2) F10 F11 (VZ_u2.ext O5.2) F12) (hw _ (List.mem_of_getElem? (i := 57) rfl)) (hw _ (List.mem_of_getElem? (i := 10) rfl)) (EZ_t2.ext O5.2) rfl (by rw [hml]; rfl) rfl (hb hby d6_25) (lenOf pd__Ljava_lang_Object__Z rfl) rfl (by decide) (fun T7 v7 Ll7 X7 hQ7 => ?_)
 obtain ⟨rfl, N7q, eh7⟩ := hQ7
 have N7 := Fr.app N1 N7q
 refine own_go (b := (T7.setTop (mkF m 16 #[.val (.ref a1), .val (.ref b_1), .val (.int (2 : Int32)), .val (.int (1 : Int32)), .val (.ref ev2)] [(.int (1 : Int32)), (.ref b_1)]))) (fun _ k => XS.ifYes X7.here hx rfl (pc0 := 28) (pc' := 37) rfl (hb hby d6_28) rfl ((if0 _ _).trans (teq (rfl : (0 : Int32) = (0 : Int32))).1) (by decide) (by decide) (XS.iinc X7.here hx rfl (hb hby d6_37) rfl (l' := #[.val (.ref a1), .val (.ref b_1), .val (.int (2 : Int32)), .val (.int (1 : Int32)), .val (.ref ev2)]) rfl (XS.goto X7.here hx rfl (pc0 := 40) (pc' := 9) rfl (hb hby d6_40) (by decide) (by decide) (XS.iloadN X7.here hx rfl (hb hby d6_9) rfl (XS.iloadN X7.here hx rfl (hb hby d6_10) rfl (XS.icmpNo X7.here hx rfl (hb hby d6_11) rfl (tlt (by decide : (1 : Int32) < (2 : Int32))).2.1 (XS.aloadN X7.here hx rfl (hb hby d6_14) rfl rfl (XS.iloadN X7.here hx rfl (hb hby d6_15) rfl k)))))))) ?_
 obtain ⟨cl13, Ar13, ql13, Sz13, Nn13, Hl13, Gl13⟩ := id P1_1
 have hin13 : ¬ ((1 : Int32) < 0 ∨ cl13.slots.size ≤ ((1 : Int32)).toNatClampNeg) := inb_of Sz13 ⟨by decide, by decide⟩
 refine own_go (b := (T7.setTop (mkF m 21 #[.val (.ref a1), .val (.ref b_1), .val (.int (2 : Int32)), .val (.int (1 : Int32)), .val (.ref ev3)] [(.ref ev3)]))) (fun _ k => X7.aaload hx (j := (1 : Int32)) (v := (.ref ev3)) (by rw [eh7]; exact Ar13.1) (State.isArrayOf_alike hZ.alike Ar13.2.1) rfl Ar13.2.2 hin13 (Hl13.at hin13 rfl) (g := (mkF m 16 #[.val (.ref a1), .val (.ref b_1), .val (.int (2 : Int32)), .val (.int (1 : Int32)), .val (.ref ev2)] [(.int (1 : Int32)), (.ref b_1)])) rfl rfl (hb hby d6_16) _ (XS.astore X7.here hx rfl (hb hby d6_17) rfl rfl (l' := #[.val (.ref a1), .val (.ref b_1), .val (.int (2 : Int32)), .val (.int (1 : Int32)), .val (.ref ev3)]) rfl (XS.aload X7.here hx rfl (hb hby d6_19) rfl rfl k))) ?_
 refine own_getf X7 hx hZ hown (hw _ (List.mem_of_getElem? (i := 51) rfl)) Via.refl eh7 (Fld0_ev3_text.ext O5.2) rfl rfl (hb hby d6_21) (fun T14 X14 e14 => ?_)
 refine own_go (b := (T14.setTop (mkF m 25 #[.val (.ref a1), .val (.ref b_1), .val (.int (2 : Int32)), .val (.int (1 : Int32)), .val (.ref ev3)] [(.ref a1), (.ref t3)]))) (fun _ k => XS.aloadN X14.here hx rfl (hb hby d6_24) rfl rfl k) ?_
 have nx16 : t3 ≠ a1 := (Old.ne O5 EZ_t3.lt g_a1)
 refine own_virt (W := 0) X14 hx hZ hown e14 (hw _ (List.mem_of_getElem? (i := 53) rfl)) (hw _ (List.mem_of_getElem? (i := 54) rfl)) (hw _ (List.mem_of_getElem? (i := 56) rfl)) (hw _ (List.mem_of_getElem? (i := 55) rfl)) (rmseN0 l Z a0 hw [] t3 a1 u3 bs ku3 kbs (51 : Int32) (46 : Int32) (51 : Int32) cs T1.heap n0 Zs2 O5 S_COMPACT_STRINGS hcs nx16 F9 (Fld0_t3_coder.ext O5.2) (Fld0_t3_value.ext O5.2) F10 F11 (VZ_u3.ext O5.2) F12) (hw _ (List.mem_of_getElem? (i := 57) rfl)) (hw _ (List.mem_of_getElem? (i := 10) rfl)) (EZ_t3.ext O5.2) rfl (by rw [hml]; rfl) rfl (hb hby d6_25) (lenOf pd__Ljava_lang_Object__Z rfl) rfl (by decide) (fun T15 v15 Ll15 X15 hQ15 => ?_)
 obtain ⟨rfl, N15q, eh15⟩ := hQ15
 have N15 := Fr.app N7 N15q
 refine own_go (b := (T15.setTop (mkF m 43 #[.val (.ref a1), .val (.ref b_1), .val (.int (2 : Int32)), .val (.int (2 : Int32)), .val (.ref ev3)] []))) (fun _ k => XS.ifYes X15.here hx rfl (pc0 := 28) (pc' := 37) rfl (hb hby d6_28) rfl ((if0 _ _).trans (teq (rfl : (0 : Int32) = (0 : Int32))).1) (by decide) (by decide) (XS.iinc X15.here hx rfl (hb hby d6_37) rfl (l' := #[.val (.ref a1), .val (.ref b_1), .val (.int (2 : Int32)), .val (.int (2 : Int32)), .val (.ref ev3)]) rfl (XS.goto X15.here hx rfl (pc0 := 40) (pc' := 9) rfl (hb hby d6_40) (by decide) (by decide) (XS.iloadN X15.here hx rfl (hb hby d6_9) rfl (XS.iloadN X15.here hx rfl (hb hby d6_10) rfl (XS.icmpYes X15.here hx rfl (pc0 := 11) (pc' := 43) rfl (hb hby d6_11) rfl (flt (by decide : ¬ ((2 : Int32) < (2 : Int32)))).2.1 (by decide) (by decide) k)))))) ?_
 refine own_stat (W := 0) X15 hx hZ hown eh15 (hw _ (List.mem_of_getElem? (i := 64) rfl)) (hw _ (List.mem_of_getElem? (i := 65) rfl)) (rmoe l Z a0 hw [] oe T1.heap n0 Zs2 O5 S_EMPTY) (hw _ (List.mem_of_getElem? (i := 67) rfl)) (hw _ (List.mem_of_getElem? (i := 66) rfl)) rfl (by rw [hml]; rfl) rfl (hb hby d6_43) (lenOf pd___Ljava_util_Optional_ rfl) rfl (by decide) (fun T17 v17 Ll17 X17 hQ17 => ?_)
 obtain ⟨rfl, N17q, eh17⟩ := hQ17
 have N17 := Fr.app N15 N17q
 have K18 := (Keep.refl h0 []).trans K1 all0
 obtain ⟨fs, hr, hrun, hended, hW, hsame⟩ := X17.leave (v := some (.ref oe)) (fun h => by rw [Bd.returns] at h; cases h)
 exact ⟨_, _, retOut X17 hx Bd.returns rfl (Or.inr (Or.inr (Or.inr (Or.inr ⟨rfl, rfl, rfl⟩)))) (hb hby d6_46) hr, hrun, hended, _, _, rfl, (show QrmofN0 Z a1 bs kbs cs vv kvv ev2 ev3 t2 u2 ku2 t3 u3 ku3 oe h0 n0 _ T17.heap _ from (by rw [eh17]; exact ⟨rfl, N17, K18⟩)), ⟨_, rfl⟩, hW, hsame.mono (by decide) (by decide)⟩
theorem ef_rmofN1 (m : MethodId) (x0 : Addr) : entryFrame m #[(.ref x0)] 5 = mkF m 0 #[.val (.ref x0), .unset, .unset, .unset, .unset] [] := by first | (simp [entryFrame, mkF, argsToLocals, Value.category]; done) | rfl
def QrmofN1 (Z : State) (a1 : Addr) (bs : Addr) (kbs : ClassId) (x0 : Int32) (cs : Int32) (vv : Addr) (kvv : ClassId) (ev2 : Addr) (ev3 : Addr) (t2 : Addr) (u2 : Addr) (ku2 : ClassId) (t3 : Addr) (u3 : Addr) (ku3 : ClassId) (oe : Addr) (h0 : Heap) (n0 : Nat) (v : Option Value) (h : Heap) (L : List Loc) : Prop := v = some (.ref oe) ∧ Fr n0 L ∧ Keep h0 h []
set_option maxRecDepth 65536 in
set_option maxHeartbeats 40000000 in
theorem rmofN1 (l : Launch) (Z : State) (a0 : Array Value) (hw : ∀ d ∈ tables_1, d.before a0 Z = true) (ws : List Jvm.Cond) (a1 : Addr) (bs : Addr) (kbs : ClassId) (x0 : Int32) (cs : Int32) (vv : Addr) (kvv : ClassId) (ev2 : Addr) (ev3 : Addr) (t2 : Addr) (u2 : Addr) (ku2 : ClassId) (t3 : Addr) (u3 : Addr) (ku3 : ClassId) (oe : Addr) (h0 : Heap) (n0 : Nat) (Z0 : n0 ≤ h0.size) (O0 : Old Z n0 h0) (S_COMPACT_STRINGS : Sta Z Z.heap "java/lang/String" "COMPACT_STRINGS" "Z" (.int cs)) (hcs : ¬ (cs = (0 : Int32))) (S__VALUES : Sta Z Z.heap "com/example/keyclasp/keyclasp/protocol/ProtocolVersion" "$VALUES" "[Lcom/example/keyclasp/keyclasp/protocol/ProtocolVersion;" (.ref vv)) (EZ_vv : Exa Z Z.heap vv "[Lcom/example/keyclasp/keyclasp/protocol/ProtocolVersion;") (VZ_vv : Arv Z Z.heap vv kvv (.object "com/example/keyclasp/keyclasp/protocol/ProtocolVersion") (2 : Int32) [(.ref ev2), (.ref ev3)] .null) (EZ_ev2 : Exa Z Z.heap ev2 "com/example/keyclasp/keyclasp/protocol/ProtocolVersion") (Fld0_ev2_text : Fld Z Z.heap ev2 "com/example/keyclasp/keyclasp/protocol/ProtocolVersion" "text" "Ljava/lang/String;" (.ref t2)) (EZ_t2 : Exa Z Z.heap t2 "java/lang/String") (Fld0_t2_coder : Fld Z Z.heap t2 "java/lang/String" "coder" "B" (.int (0 : Int32))) (Fld0_t2_value : Fld Z Z.heap t2 "java/lang/String" "value" "[B" (.ref u2)) (VZ_u2 : Arv Z Z.heap u2 ku2 .byte (3 : Int32) [(.int (51 : Int32)), (.int (46 : Int32)), (.int (50 : Int32))] (.int (0 : Int32))) (EZ_ev3 : Exa Z Z.heap ev3 "com/example/keyclasp/keyclasp/protocol/ProtocolVersion") (Fld0_ev3_text : Fld Z Z.heap ev3 "com/example/keyclasp/keyclasp/protocol/ProtocolVersion" "text" "Ljava/lang/String;" (.ref t3)) (EZ_t3 : Exa Z Z.heap t3 "java/lang/String") (Fld0_t3_coder : Fld Z Z.heap t3 "java/lang/String" "coder" "B" (.int (0 : Int32))) (Fld0_t3_value : Fld Z Z.heap t3 "java/lang/String" "value" "[B" (.ref u3)) (VZ_u3 : Arv Z Z.heap u3 ku3 .byte (3 : Int32) [(.int (51 : Int32)), (.int (46 : Int32)), (.int (51 : Int32))] (.int (0 : Int32))) (S_EMPTY : Sta Z Z.heap "java/util/Optional" "EMPTY" "Ljava/util/Optional;" (.ref oe)) (g_a1 : n0 ≤ a1) (E_a1 : Exa Z h0 a1 "java/lang/String") (Fld_a1_coder : Fld Z h0 a1 "java/lang/String" "coder" "B" (.int (0 : Int32))) (Fld_a1_value : Fld Z h0 a1 "java/lang/String" "value" "[B" (.ref bs)) (V_bs : Arv Z h0 bs kbs .byte (1 : Int32) [(.int x0)] (.int (0 : Int32))) :
    MetFree l (⟨"com/example/keyclasp/keyclasp/protocol/ProtocolVersion", "of", "(Ljava/lang/String;)Ljava/util/Optional;"⟩ : MethodName) (head1 (Jvm.Cond.code (⟨"com/example/keyclasp/keyclasp/protocol/ProtocolVersion", "of", "(Ljava/lang/String;)Ljava/util/Optional;"⟩ : MethodName) prog_22_method_4_code 5 (some (.object "java/util/Optional")) :: ws) ({ frames := 2, cells := 1, slots := 2, locals := 28 } : Room)) (fun a U => a = #[(.ref a1)] ∧ Z.Warmed39 U.vm ∧ U.heap = h0) (fun _ _ _ _ _ => True) (fun _ U o U' => ∃ v L, o = .returned v ∧ QrmofN1 Z a1 bs kbs x0 cs vv kvv ev2 ev3 t2 u2 ku2 t3 u3 ku3 oe h0 n0 v U'.heap L ∧ FrameEnd U o U' L ({ frames := 2, cells := 1, slots := 2, locals := 28 } : Room).cells ({ frames := 2, cells := 1, slots := 2, locals := 28 } : Room).slots) := by
 refine MetFree.of_bodySF (plainFor_of_name pn_6) hisR ?_
 intro p e s m args below meth c s₁ Bd hml0 hP hK
 obtain ⟨rfl, hZ, hh⟩ := hP
 have hx := Bd.exec
 have hby := Bd.bytes
 have hml : c.maxLocals = 5 := hml0
 have hown : s.vm.findClass "com/example/keyclasp/keyclasp/protocol/ProtocolVersion" = some m.cls := findClass_of_methodNamed Bd.named
 have hnm := (name_of_methodNamed Bd.named Bd.method).1
 have X0 : Stand p l e ({ frames := 2, cells := 1, slots := 2, locals := 28 } : Room) s m #[(.ref a1)] below meth c s₁ [] 0 0 := Stand.of_body Bd
 have e0 : s₁.heap = h0 := by rw [← hh, Bd.state]; rfl
 have N0 := Fr.nil n0
 refine own_go (b := (s₁.setTop (mkF m 0 #[.val (.ref a1), .unset, .unset, .unset, .unset] []))) (fun _ k => castTop (ef_rmofN1 m a1) k) ?_
 refine own_stat (W := 0) X0 hx hZ hown e0 (hw _ (List.mem_of_getElem? (i := 34) rfl)) (hw _ (List.mem_of_getElem? (i := 35) rfl)) (rmvs l Z a0 hw [] vv kvv ev2 ev3 h0 n0 Z0 O0 S__VALUES EZ_vv VZ_vv) (hw _ (List.mem_of_getElem? (i := 36) rfl)) (hw _ (List.mem_of_getElem? (i := 32) rfl)) rfl (by rw [hml]; rfl) rfl (hb hby d6_0) (lenOf pd____Lcom_example_keyclasp_keyclasp_protocol_ProtocolVersion_ rfl) rfl (by decide) (fun T1 v1 Ll1 X1 hQ1 => ?_)
 obtain ⟨b_1, rfl, N1q, K1, P1_0, P1_1⟩ := hQ1
 have N1 := Fr.app N0 N1q
 have Zs2 : n0 ≤ T1.heap.size := Nat.le_trans Z0 K1.1
 refine own_go (b := (T1.setTop (mkF m 5 #[.val (.ref a1), .val (.ref b_1), .unset, .unset, .unset] [(.ref b_1)]))) (fun _ k => XS.astoreN X1.here hx rfl (hb hby d6_3) rfl rfl (l' := #[.val (.ref a1), .val (.ref b_1), .unset, .unset, .unset]) rfl (XS.aloadN X1.here hx rfl (hb hby d6_4) rfl rfl k)) ?_
 obtain ⟨cl3, Ar3, -, Sz3, Nn3, -, -⟩ := id P1_1
 refine own_go (b := (T1.setTop (mkF m 16 #[.val (.ref a1), .val (.ref b_1), .val (.int (2 : Int32)), .val (.int (0 : Int32)), .unset] [(.int (0 : Int32)), (.ref b_1)]))) (fun _ k => X1.arraylength hx Ar3.1 (State.isArrayOf_alike hZ.alike Ar3.2.1) (g := (mkF m 5 #[.val (.ref a1), .val (.ref b_1), .unset, .unset, .unset] [(.ref b_1)])) rfl rfl (hb hby d6_5) _ (by rw [len_of Sz3 Nn3]; exact (XS.istoreN X1.here hx rfl (hb hby d6_6) rfl (l' := #[.val (.ref a1), .val (.ref b_1), .val (.int (2 : Int32)), .unset, .unset]) rfl (XS.iconst X1.here hx rfl (hb hby d6_7) (XS.istoreN X1.here hx rfl (hb hby d6_8) rfl (l' := #[.val (.ref a1), .val (.ref b_1), .val (.int (2 : Int32)), .val (.int (0 : Int32)), .unset]) rfl (XS.iloadN X1.here hx rfl (hb hby d6_9) rfl (XS.iloadN X1.here hx rfl (hb hby d6_10) rfl (XS.icmpNo X1.here hx rfl (hb hby d6_11) rfl (tlt (by decide : (0 : Int32) < (2 : Int32))).2.1 (XS.aloadN X1.here hx rfl (hb hby d6_14) rfl rfl (XS.iloadN X1.here hx rfl (hb hby d6_15) rfl k)))))))))) ?_
 obtain ⟨cl4, Ar4, ql4, Sz4, Nn4, Hl4, Gl4⟩ := id P1_1
 have hin4 : ¬ ((0 : Int32) < 0 ∨ cl4.slots.size ≤ ((0 : Int32)).toNatClampNeg) := inb_of Sz4 ⟨by decide, by decide⟩
 refine own_go (b := (T1.setTop (mkF m 21 #[.val (.ref a1), .val (.ref b_1), .val (.int (2 : Int32)), .val (.int (0 : Int32)), .val (.ref ev2)] [(.ref ev2)]))) (fun _ k => X1.aaload hx (j := (0 : Int32)) (v := (.ref ev2)) Ar4.1 (State.isArrayOf_alike hZ.alike Ar4.2.1) rfl Ar4.2.2 hin4 (Hl4.at hin4 rfl) (g := (mkF m 16 #[.val (.ref a1), .val (.ref b_1), .val (.int (2 : Int32)), .val (.int (0 : Int32)), .unset] [(.int (0 : Int32)), (.ref b_1)])) rfl rfl (hb hby d6_16) _ (XS.astore X1.here hx rfl (hb hby d6_17) rfl rfl (l' := #[.val (.ref a1), .val (.ref b_1), .val (.int (2 : Int32)), .val (.int (0 : Int32)), .val (.ref ev2)]) rfl (XS.aload X1.here hx rfl (hb hby d6_19) rfl rfl k))) ?_
 have O5 := O0.keep K1 all0
 refine own_getf X1 hx hZ hown (hw _ (List.mem_of_getElem? (i := 51) rfl)) Via.refl rfl (Fld0_ev2_text.ext O5.2) rfl rfl (hb hby d6_21) (fun T6 X6 e6 => ?_)
 refine own_go (b := (T6.setTop (mkF m 25 #[.val (.ref a1), .val (.ref b_1), .val (.int (2 : Int32)), .val (.int (0 : Int32)), .val (.ref ev2)] [(.ref a1), (.ref t2)]))) (fun _ k => XS.aloadN X6.here hx rfl (hb hby d6_24) rfl rfl k) ?_
 have nx8 : t2 ≠ a1 := (Old.ne O5 EZ_t2.lt g_a1)
 have F9 := E_a1.keep K1
 have F10 := Fld_a1_coder.keep K1 nin0
 have F11 := Fld_a1_value.keep K1 nin0
 have F12 := V_bs.keep K1 nin0
 refine own_virt (W := 0) X6 hx hZ hown e6 (hw _ (List.mem_of_getElem? (i := 53) rfl)) (hw _ (List.mem_of_getElem? (i := 54) rfl)) (hw _ (List.mem_of_getElem? (i := 56) rfl)) (hw _ (List.mem_of_getElem? (i := 55) rfl)) (rmseN1 l Z a0 hw [] t2 a1 u2 bs ku2 kbs (51 : Int32) (46 : Int32) (50 : Int32) x0 cs T1.heap n0 Zs2 O5 S_COMPACT_STRINGS hcs nx8 F9 (Fld0_t2_coder.ext O5.2) (Fld0_t2_value.ext O5.2) F10 F11 (VZ_u2.ext O5.2) F12) (hw _ (List.mem_of_getElem? (i := 57) rfl)) (hw _ (List.mem_of_getElem? (i := 10) rfl)) (EZ_t2.ext O5.2) rfl (by rw [hml]; rfl) rfl (hb hby d6_25) (lenOf pd__Ljava_lang_Object__Z rfl) rfl (by decide) (fun T7 v7 Ll7 X7 hQ7 => ?_)
 obtain ⟨rfl, N7q, eh7⟩ := hQ7
 have N7 := Fr.app N1 N7q
 refine own_go (b := (T7.setTop (mkF m 16 #[.val (.ref a1), .val (.ref b_1), .val (.int (2 : Int32)), .val (.int (1 : Int32)), .val (.ref ev2)] [(.int (1 : Int32)), (.ref b_1)]))) (fun _ k => XS.ifYes X7.here hx rfl (pc0 := 28) (pc' := 37) rfl (hb hby d6_28) rfl ((if0 _ _).trans (teq (rfl : (0 : Int32) = (0 : Int32))).1) (by decide) (by decide) (XS.iinc X7.here hx rfl (hb hby d6_37) rfl (l' := #[.val (.ref a1), .val (.ref b_1), .val (.int (2 : Int32)), .val (.int (1 : Int32)), .val (.ref ev2)]) rfl (XS.goto X7.here hx rfl (pc0 := 40) (pc' := 9) rfl (hb hby d6_40) (by decide) (by decide) (XS.iloadN X7.here hx rfl (hb hby d6_9) rfl (XS.iloadN X7.here hx rfl (hb hby d6_10) rfl (XS.icmpNo X7.here hx rfl (hb hby d6_11) rfl (tlt (by decide : (1 : Int32) < (2 : Int32))).2.1 (XS.aloadN X7.here hx rfl (hb hby d6_14) rfl rfl (XS.iloadN X7.here hx rfl (hb hby d6_15) rfl k)))))))) ?_
 obtain ⟨cl13, Ar13, ql13, Sz13, Nn13, Hl13, Gl13⟩ := id P1_1
 have hin13 : ¬ ((1 : Int32) < 0 ∨ cl13.slots.size ≤ ((1 : Int32)).toNatClampNeg) := inb_of Sz13 ⟨by decide, by decide⟩
 refine own_go (b := (T7.setTop (mkF m 21 #[.val (.ref a1), .val (.ref b_1), .val (.int (2 : Int32)), .val (.int (1 : Int32)), .val (.ref ev3)] [(.ref ev3)]))) (fun _ k => X7.aaload hx (j := (1 : Int32)) (v := (.ref ev3)) (by rw [eh7]; exact Ar13.1) (State.isArrayOf_alike hZ.alike Ar13.2.1) rfl Ar13.2.2 hin13 (Hl13.at hin13 rfl) (g := (mkF m 16 #[.val (.ref a1), .val (.ref b_1), .val (.int (2 : Int32)), .val (.int (1 : Int32)), .val (.ref ev2)] [(.int (1 : Int32)), (.ref b_1)])) rfl rfl (hb hby d6_16) _ (XS.astore X7.here hx rfl (hb hby d6_17) rfl rfl (l' := #[.val (.ref a1), .val (.ref b_1), .val (.int (2 : Int32)), .val (.int (1 : Int32)), .val (.ref ev3)]) rfl (XS.aload X7.here hx rfl (hb hby d6_19) rfl rfl k))) ?_
 refine own_getf X7 hx hZ hown (hw _ (List.mem_of_getElem? (i := 51) rfl)) Via.refl eh7 (Fld0_ev3_text.ext O5.2) rfl rfl (hb hby d6_21) (fun T14 X14 e14 => ?_)
 refine own_go (b := (T14.setTop (mkF m 25 #[.val (.ref a1), .val (.ref b_1), .val (.int (2 : Int32)), .val (.int (1 : Int32)), .val (.ref ev3)] [(.ref a1), (.ref t3)]))) (fun _ k => XS.aloadN X14.here hx rfl (hb hby d6_24) rfl rfl k) ?_
 have nx16 : t3 ≠ a1 := (Old.ne O5 EZ_t3.lt g_a1)
 refine own_virt (W := 0) X14 hx hZ hown e14 (hw _ (List.mem_of_getElem? (i := 53) rfl)) (hw _ (List.mem_of_getElem? (i := 54) rfl)) (hw _ (List.mem_of_getElem? (i := 56) rfl)) (hw _ (List.mem_of_getElem? (i := 55) rfl)) (rmseN1 l Z a0 hw [] t3 a1 u3 bs ku3 kbs (51 : Int32) (46 : Int32) (51 : Int32) x0 cs T1.heap n0 Zs2 O5 S_COMPACT_STRINGS hcs nx16 F9 (Fld0_t3_coder.ext O5.2) (Fld0_t3_value.ext O5.2) F10 F11 (VZ_u3.ext O5.2) F12) (hw _ (List.mem_of_getElem? (i := 57) rfl)) (hw _ (List.mem_of_getElem? (i := 10) rfl)) (EZ_t3.ext O5.2) rfl (by rw [hml]; rfl) rfl (hb hby d6_25) (lenOf pd__Ljava_lang_Object__Z rfl) rfl (by decide) (fun T15 v15 Ll15 X15 hQ15 => ?_)
 obtain ⟨rfl, N15q, eh15⟩ := hQ15
 have N15 := Fr.app N7 N15q
 refine own_go (b := (T15.setTop (mkF m 43 #[.val (.ref a1), .val (.ref b_1), .val (.int (2 : Int32)), .val (.int (2 : Int32)), .val (.ref ev3)] []))) (fun _ k => XS.ifYes X15.here hx rfl (pc0 := 28) (pc' := 37) rfl (hb hby d6_28) rfl ((if0 _ _).trans (teq (rfl : (0 : Int32) = (0 : Int32))).1) (by decide) (by decide) (XS.iinc X15.here hx rfl (hb hby d6_37) rfl (l' := #[.val (.ref a1), .val (.ref b_1), .val (.int (2 : Int32)), .val (.int (2 : Int32)), .val (.ref ev3)]) rfl (XS.goto X15.here hx rfl (pc0 := 40) (pc' := 9) rfl (hb hby d6_40) (by decide) (by decide) (XS.iloadN X15.here hx rfl (hb hby d6_9) rfl (XS.iloadN X15.here hx rfl (hb hby d6_10) rfl (XS.icmpYes X15.here hx rfl (pc0 := 11) (pc' := 43) rfl (hb hby d6_11) rfl (flt (by decide : ¬ ((2 : Int32) < (2 : Int32)))).2.1 (by decide) (by decide) k)))))) ?_
 refine own_stat (W := 0) X15 hx hZ hown eh15 (hw _ (List.mem_of_getElem? (i := 64) rfl)) (hw _ (List.mem_of_getElem? (i := 65) rfl)) (rmoe l Z a0 hw [] oe T1.heap n0 Zs2 O5 S_EMPTY) (hw _ (List.mem_of_getElem? (i := 67) rfl)) (hw _ (List.mem_of_getElem? (i := 66) rfl)) rfl (by rw [hml]; rfl) rfl (hb hby d6_43) (lenOf pd___Ljava_util_Optional_ rfl) rfl (by decide) (fun T17 v17 Ll17 X17 hQ17 => ?_)
 obtain ⟨rfl, N17q, eh17⟩ := hQ17
 have N17 := Fr.app N15 N17q
 have K18 := (Keep.refl h0 []).trans K1 all0
 obtain ⟨fs, hr, hrun, hended, hW, hsame⟩ := X17.leave (v := some (.ref oe)) (fun h => by rw [Bd.returns] at h; cases h)
 exact ⟨_, _, retOut X17 hx Bd.returns rfl (Or.inr (Or.inr (Or.inr (Or.inr ⟨rfl, rfl, rfl⟩)))) (hb hby d6_46) hr, hrun, hended, _, _, rfl, (show QrmofN1 Z a1 bs kbs x0 cs vv kvv ev2 ev3 t2 u2 ku2 t3 u3 ku3 oe h0 n0 _ T17.heap _ from (by rw [eh17]; exact ⟨rfl, N17, K18⟩)), ⟨_, rfl⟩, hW, hsame.mono (by decide) (by decide)⟩
theorem ef_rmofN2 (m : MethodId) (x0 : Addr) : entryFrame m #[(.ref x0)] 5 = mkF m 0 #[.val (.ref x0), .unset, .unset, .unset, .unset] [] := by first | (simp [entryFrame, mkF, argsToLocals, Value.category]; done) | rfl
def QrmofN2 (Z : State) (a1 : Addr) (bs : Addr) (kbs : ClassId) (x0 : Int32) (x1 : Int32) (cs : Int32) (vv : Addr) (kvv : ClassId) (ev2 : Addr) (ev3 : Addr) (t2 : Addr) (u2 : Addr) (ku2 : ClassId) (t3 : Addr) (u3 : Addr) (ku3 : ClassId) (oe : Addr) (h0 : Heap) (n0 : Nat) (v : Option Value) (h : Heap) (L : List Loc) : Prop := v = some (.ref oe) ∧ Fr n0 L ∧ Keep h0 h []
set_option maxRecDepth 65536 in
set_option maxHeartbeats 40000000 in
theorem rmofN2 (l : Launch) (Z : State) (a0 : Array Value) (hw : ∀ d ∈ tables_1, d.before a0 Z = true) (ws : List Jvm.Cond) (a1 : Addr) (bs : Addr) (kbs : ClassId) (x0 : Int32) (x1 : Int32) (cs : Int32) (vv : Addr) (kvv : ClassId) (ev2 : Addr) (ev3 : Addr) (t2 : Addr) (u2 : Addr) (ku2 : ClassId) (t3 : Addr) (u3 : Addr) (ku3 : ClassId) (oe : Addr) (h0 : Heap) (n0 : Nat) (Z0 : n0 ≤ h0.size) (O0 : Old Z n0 h0) (S_COMPACT_STRINGS : Sta Z Z.heap "java/lang/String" "COMPACT_STRINGS" "Z" (.int cs)) (hcs : ¬ (cs = (0 : Int32))) (S__VALUES : Sta Z Z.heap "com/example/keyclasp/keyclasp/protocol/ProtocolVersion" "$VALUES" "[Lcom/example/keyclasp/keyclasp/protocol/ProtocolVersion;" (.ref vv)) (EZ_vv : Exa Z Z.heap vv "[Lcom/example/keyclasp/keyclasp/protocol/ProtocolVersion;") (VZ_vv : Arv Z Z.heap vv kvv (.object "com/example/keyclasp/keyclasp/protocol/ProtocolVersion") (2 : Int32) [(.ref ev2), (.ref ev3)] .null) (EZ_ev2 : Exa Z Z.heap ev2 "com/example/keyclasp/keyclasp/protocol/ProtocolVersion") (Fld0_ev2_text : Fld Z Z.heap ev2 "com/example/keyclasp/keyclasp/protocol/ProtocolVersion" "text" "Ljava/lang/String;" (.ref t2)) (EZ_t2 : Exa Z Z.heap t2 "java/lang/String") (Fld0_t2_coder : Fld Z Z.heap t2 "java/lang/String" "coder" "B" (.int (0 : Int32))) (Fld0_t2_value : Fld Z Z.heap t2 "java/lang/String" "value" "[B" (.ref u2)) (VZ_u2 : Arv Z Z.heap u2 ku2 .byte (3 : Int32) [(.int (51 : Int32)), (.int (46 : Int32)), (.int (50 : Int32))] (.int (0 : Int32))) (EZ_ev3 : Exa Z Z.heap ev3 "com/example/keyclasp/keyclasp/protocol/ProtocolVersion") (Fld0_ev3_text : Fld Z Z.heap ev3 "com/example/keyclasp/keyclasp/protocol/ProtocolVersion" "text" "Ljava/lang/String;" (.ref t3)) (EZ_t3 : Exa Z Z.heap t3 "java/lang/String") (Fld0_t3_coder : Fld Z Z.heap t3 "java/lang/String" "coder" "B" (.int (0 : Int32))) (Fld0_t3_value : Fld Z Z.heap t3 "java/lang/String" "value" "[B" (.ref u3)) (VZ_u3 : Arv Z Z.heap u3 ku3 .byte (3 : Int32) [(.int (51 : Int32)), (.int (46 : Int32)), (.int (51 : Int32))] (.int (0 : Int32))) (S_EMPTY : Sta Z Z.heap "java/util/Optional" "EMPTY" "Ljava/util/Optional;" (.ref oe)) (g_a1 : n0 ≤ a1) (E_a1 : Exa Z h0 a1 "java/lang/String") (Fld_a1_coder : Fld Z h0 a1 "java/lang/String" "coder" "B" (.int (0 : Int32))) (Fld_a1_value : Fld Z h0 a1 "java/lang/String" "value" "[B" (.ref bs)) (V_bs : Arv Z h0 bs kbs .byte (2 : Int32) [(.int x0), (.int x1)] (.int (0 : Int32))) :
    MetFree l (⟨"com/example/keyclasp/keyclasp/protocol/ProtocolVersion", "of", "(Ljava/lang/String;)Ljava/util/Optional;"⟩ : MethodName) (head1 (Jvm.Cond.code (⟨"com/example/keyclasp/keyclasp/protocol/ProtocolVersion", "of", "(Ljava/lang/String;)Ljava/util/Optional;"⟩ : MethodName) prog_22_method_4_code 5 (some (.object "java/util/Optional")) :: ws) ({ frames := 2, cells := 1, slots := 2, locals := 28 } : Room)) (fun a U => a = #[(.ref a1)] ∧ Z.Warmed39 U.vm ∧ U.heap = h0) (fun _ _ _ _ _ => True) (fun _ U o U' => ∃ v L, o = .returned v ∧ QrmofN2 Z a1 bs kbs x0 x1 cs vv kvv ev2 ev3 t2 u2 ku2 t3 u3 ku3 oe h0 n0 v U'.heap L ∧ FrameEnd U o U' L ({ frames := 2, cells := 1, slots := 2, locals := 28 } : Room).cells ({ frames := 2, cells := 1, slots := 2, locals := 28 } : Room).slots) := by
 refine MetFree.of_bodySF (plainFor_of_name pn_6) hisR ?_
 intro p e s m args below meth c s₁ Bd hml0 hP hK
 obtain ⟨rfl, hZ, hh⟩ := hP
 have hx := Bd.exec
 have hby := Bd.bytes
 have hml : c.maxLocals = 5 := hml0
 have hown : s.vm.findClass "com/example/keyclasp/keyclasp/protocol/ProtocolVersion" = some m.cls := findClass_of_methodNamed Bd.named
 have hnm := (name_of_methodNamed Bd.named Bd.method).1
 have X0 : Stand p l e ({ frames := 2, cells := 1, slots := 2, locals := 28 } : Room) s m #[(.ref a1)] below meth c s₁ [] 0 0 := Stand.of_body Bd
 have e0 : s₁.heap = h0 := by rw [← hh, Bd.state]; rfl
 have N0 := Fr.nil n0
 refine own_go (b := (s₁.setTop (mkF m 0 #[.val (.ref a1), .unset, .unset, .unset, .unset] []))) (fun _ k => castTop (ef_rmofN2 m a1) k) ?_
 refine own_stat (W := 0) X0 hx hZ hown e0 (hw _ (List.mem_of_getElem? (i := 34) rfl)) (hw _ (List.mem_of_getElem? (i := 35) rfl)) (rmvs l Z a0 hw [] vv kvv ev2 ev3 h0 n0 Z0 O0 S__VALUES EZ_vv VZ_vv) (hw _ (List.mem_of_getElem? (i := 36) rfl)) (hw _ (List.mem_of_getElem? (i := 32) rfl)) rfl (by rw [hml]; rfl) rfl (hb hby d6_0) (lenOf pd____Lcom_example_keyclasp_keyclasp_protocol_ProtocolVersion_ rfl) rfl (by decide) (fun T1 v1 Ll1 X1 hQ1 => ?_)
 obtain ⟨b_1, rfl, N1q, K1, P1_0, P1_1⟩ := hQ1
 have N1 := Fr.app N0 N1q
 have Zs2 : n0 ≤ T1.heap.size := Nat.le_trans Z0 K1.1
 refine own_go (b := (T1.setTop (mkF m 5 #[.val (.ref a1), .val (.ref b_1), .unset, .unset, .unset] [(.ref b_1)]))) (fun _ k => XS.astoreN X1.here hx rfl (hb hby d6_3) rfl rfl (l' := #[.val (.ref a1), .val (.ref b_1), .unset, .unset, .unset]) rfl (XS.aloadN X1.here hx rfl (hb hby d6_4) rfl rfl k)) ?_
 obtain ⟨cl3, Ar3, -, Sz3, Nn3, -, -⟩ := id P1_1
 refine own_go (b := (T1.setTop (mkF m 16 #[.val (.ref a1), .val (.ref b_1), .val (.int (2 : Int32)), .val (.int (0 : Int32)), .unset] [(.int (0 : Int32)), (.ref b_1)]))) (fun _ k => X1.arraylength hx Ar3.1 (State.isArrayOf_alike hZ.alike Ar3.2.1) (g := (mkF m 5 #[.val (.ref a1), .val (.ref b_1), .unset, .unset, .unset] [(.ref b_1)])) rfl rfl (hb hby d6_5) _ (by rw [len_of Sz3 Nn3]; exact (XS.istoreN X1.here hx rfl (hb hby d6_6) rfl (l' := #[.val (.ref a1), .val (.ref b_1), .val (.int (2 : Int32)), .unset, .unset]) rfl (XS.iconst X1.here hx rfl (hb hby d6_7) (XS.istoreN X1.here hx rfl (hb hby d6_8) rfl (l' := #[.val (.ref a1), .val (.ref b_1), .val (.int (2 : Int32)), .val (.int (0 : Int32)), .unset]) rfl (XS.iloadN X1.here hx rfl (hb hby d6_9) rfl (XS.iloadN X1.here hx rfl (hb hby d6_10) rfl (XS.icmpNo X1.here hx rfl (hb hby d6_11) rfl (tlt (by decide : (0 : Int32) < (2 : Int32))).2.1 (XS.aloadN X1.here hx rfl (hb hby d6_14) rfl rfl (XS.iloadN X1.here hx rfl (hb hby d6_15) rfl k)))))))))) ?_
 obtain ⟨cl4, Ar4, ql4, Sz4, Nn4, Hl4, Gl4⟩ := id P1_1
 have hin4 : ¬ ((0 : Int32) < 0 ∨ cl4.slots.size ≤ ((0 : Int32)).toNatClampNeg) := inb_of Sz4 ⟨by decide, by decide⟩
 refine own_go (b := (T1.setTop (mkF m 21 #[.val (.ref a1), .val (.ref b_1), .val (.int (2 : Int32)), .val (.int (0 : Int32)), .val (.ref ev2)] [(.ref ev2)]))) (fun _ k => X1.aaload hx (j := (0 : Int32)) (v := (.ref ev2)) Ar4.1 (State.isArrayOf_alike hZ.alike Ar4.2.1) rfl Ar4.2.2 hin4 (Hl4.at hin4 rfl) (g := (mkF m 16 #[.val (.ref a1), .val (.ref b_1), .val (.int (2 : Int32)), .val (.int (0 : Int32)), .unset] [(.int (0 : Int32)), (.ref b_1)])) rfl rfl (hb hby d6_16) _ (XS.astore X1.here hx rfl (hb hby d6_17) rfl rfl (l' := #[.val (.ref a1), .val (.ref b_1), .val (.int (2 : Int32)), .val (.int (0 : Int32)), .val (.ref ev2)]) rfl (XS.aload X1.here hx rfl (hb hby d6_19) rfl rfl k))) ?_
 have O5 := O0.keep K1 all0
 refine own_getf X1 hx hZ hown (hw _ (List.mem_of_getElem? (i := 51) rfl)) Via.refl rfl (Fld0_ev2_text.ext O5.2) rfl rfl (hb hby d6_21) (fun T6 X6 e6 => ?_)
 refine own_go (b := (T6.setTop (mkF m 25 #[.val (.ref a1), .val (.ref b_1), .val (.int (2 : Int32)), .val (.int (0 : Int32)), .val (.ref ev2)] [(.ref a1), (.ref t2)]))) (fun _ k => XS.aloadN X6.here hx rfl (hb hby d6_24) rfl rfl k) ?_
 have nx8 : t2 ≠ a1 := (Old.ne O5 EZ_t2.lt g_a1)
 have F9 := E_a1.keep K1
 have F10 := Fld_a1_coder.keep K1 nin0
 have F11 := Fld_a1_value.keep K1 nin0
 have F12 := V_bs.keep K1 nin0
 refine own_virt (W := 0) X6 hx hZ hown e6 (hw _ (List.mem_of_getElem? (i := 53) rfl)) (hw _ (List.mem_of_getElem? (i := 54) rfl)) (hw _ (List.mem_of_getElem? (i := 56) rfl)) (hw _ (List.mem_of_getElem? (i := 55) rfl)) (rmseN2 l Z a0 hw [] t2 a1 u2 bs ku2 kbs (51 : Int32) (46 : Int32) (50 : Int32) x0 x1 cs T1.heap n0 Zs2 O5 S_COMPACT_STRINGS hcs nx8 F9 (Fld0_t2_coder.ext O5.2) (Fld0_t2_value.ext O5.2) F10 F11 (VZ_u2.ext O5.2) F12) (hw _ (List.mem_of_getElem? (i := 57) rfl)) (hw _ (List.mem_of_getElem? (i := 10) rfl)) (EZ_t2.ext O5.2) rfl (by rw [hml]; rfl) rfl (hb hby d6_25) (lenOf pd__Ljava_lang_Object__Z rfl) rfl (by decide) (fun T7 v7 Ll7 X7 hQ7 => ?_)
 obtain ⟨rfl, N7q, eh7⟩ := hQ7
 have N7 := Fr.app N1 N7q
 refine own_go (b := (T7.setTop (mkF m 16 #[.val (.ref a1), .val (.ref b_1), .val (.int (2 : Int32)), .val (.int (1 : Int32)), .val (.ref ev2)] [(.int (1 : Int32)), (.ref b_1)]))) (fun _ k => XS.ifYes X7.here hx rfl (pc0 := 28) (pc' := 37) rfl (hb hby d6_28) rfl ((if0 _ _).trans (teq (rfl : (0 : Int32) = (0 : Int32))).1) (by decide) (by decide) (XS.iinc X7.here hx rfl (hb hby d6_37) rfl (l' := #[.val (.ref a1), .val (.ref b_1), .val (.int (2 : Int32)), .val (.int (1 : Int32)), .val (.ref ev2)]) rfl (XS.goto X7.here hx rfl (pc0 := 40) (pc' := 9) rfl (hb hby d6_40) (by decide) (by decide) (XS.iloadN X7.here hx rfl (hb hby d6_9) rfl (XS.iloadN X7.here hx rfl (hb hby d6_10) rfl (XS.icmpNo X7.here hx rfl (hb hby d6_11) rfl (tlt (by decide : (1 : Int32) < (2 : Int32))).2.1 (XS.aloadN X7.here hx rfl (hb hby d6_14) rfl rfl (XS.iloadN X7.here hx rfl (hb hby d6_15) rfl k)))))))) ?_
 obtain ⟨cl13, Ar13, ql13, Sz13, Nn13, Hl13, Gl13⟩ := id P1_1
 have hin13 : ¬ ((1 : Int32) < 0 ∨ cl13.slots.size ≤ ((1 : Int32)).toNatClampNeg) := inb_of Sz13 ⟨by decide, by decide⟩
 refine own_go (b := (T7.setTop (mkF m 21 #[.val (.ref a1), .val (.ref b_1), .val (.int (2 : Int32)), .val (.int (1 : Int32)), .val (.ref ev3)] [(.ref ev3)]))) (fun _ k => X7.aaload hx (j := (1 : Int32)) (v := (.ref ev3)) (by rw [eh7]; exact Ar13.1) (State.isArrayOf_alike hZ.alike Ar13.2.1) rfl Ar13.2.2 hin13 (Hl13.at hin13 rfl) (g := (mkF m 16 #[.val (.ref a1), .val (.ref b_1), .val (.int (2 : Int32)), .val (.int (1 : Int32)), .val (.ref ev2)] [(.int (1 : Int32)), (.ref b_1)])) rfl rfl (hb hby d6_16) _ (XS.astore X7.here hx rfl (hb hby d6_17) rfl rfl (l' := #[.val (.ref a1), .val (.ref b_1), .val (.int (2 : Int32)), .val (.int (1 : Int32)), .val (.ref ev3)]) rfl (XS.aload X7.here hx rfl (hb hby d6_19) rfl rfl k))) ?_
 refine own_getf X7 hx hZ hown (hw _ (List.mem_of_getElem? (i := 51) rfl)) Via.refl eh7 (Fld0_ev3_text.ext O5.2) rfl rfl (hb hby d6_21) (fun T14 X14 e14 => ?_)
 refine own_go (b := (T14.setTop (mkF m 25 #[.val (.ref a1), .val (.ref b_1), .val (.int (2 : Int32)), .val (.int (1 : Int32)), .val (.ref ev3)] [(.ref a1), (.ref t3)]))) (fun _ k => XS.aloadN X14.here hx rfl (hb hby d6_24) rfl rfl k) ?_
 have nx16 : t3 ≠ a1 := (Old.ne O5 EZ_t3.lt g_a1)
 refine own_virt (W := 0) X14 hx hZ hown e14 (hw _ (List.mem_of_getElem? (i := 53) rfl)) (hw _ (List.mem_of_getElem? (i := 54) rfl)) (hw _ (List.mem_of_getElem? (i := 56) rfl)) (hw _ (List.mem_of_getElem? (i := 55) rfl)) (rmseN2 l Z a0 hw [] t3 a1 u3 bs ku3 kbs (51 : Int32) (46 : Int32) (51 : Int32) x0 x1 cs T1.heap n0 Zs2 O5 S_COMPACT_STRINGS hcs nx16 F9 (Fld0_t3_coder.ext O5.2) (Fld0_t3_value.ext O5.2) F10 F11 (VZ_u3.ext O5.2) F12) (hw _ (List.mem_of_getElem? (i := 57) rfl)) (hw _ (List.mem_of_getElem? (i := 10) rfl)) (EZ_t3.ext O5.2) rfl (by rw [hml]; rfl) rfl (hb hby d6_25) (lenOf pd__Ljava_lang_Object__Z rfl) rfl (by decide) (fun T15 v15 Ll15 X15 hQ15 => ?_)
 obtain ⟨rfl, N15q, eh15⟩ := hQ15
 have N15 := Fr.app N7 N15q
 refine own_go (b := (T15.setTop (mkF m 43 #[.val (.ref a1), .val (.ref b_1), .val (.int (2 : Int32)), .val (.int (2 : Int32)), .val (.ref ev3)] []))) (fun _ k => XS.ifYes X15.here hx rfl (pc0 := 28) (pc' := 37) rfl (hb hby d6_28) rfl ((if0 _ _).trans (teq (rfl : (0 : Int32) = (0 : Int32))).1) (by decide) (by decide) (XS.iinc X15.here hx rfl (hb hby d6_37) rfl (l' := #[.val (.ref a1), .val (.ref b_1), .val (.int (2 : Int32)), .val (.int (2 : Int32)), .val (.ref ev3)]) rfl (XS.goto X15.here hx rfl (pc0 := 40) (pc' := 9) rfl (hb hby d6_40) (by decide) (by decide) (XS.iloadN X15.here hx rfl (hb hby d6_9) rfl (XS.iloadN X15.here hx rfl (hb hby d6_10) rfl (XS.icmpYes X15.here hx rfl (pc0 := 11) (pc' := 43) rfl (hb hby d6_11) rfl (flt (by decide : ¬ ((2 : Int32) < (2 : Int32)))).2.1 (by decide) (by decide) k)))))) ?_
 refine own_stat (W := 0) X15 hx hZ hown eh15 (hw _ (List.mem_of_getElem? (i := 64) rfl)) (hw _ (List.mem_of_getElem? (i := 65) rfl)) (rmoe l Z a0 hw [] oe T1.heap n0 Zs2 O5 S_EMPTY) (hw _ (List.mem_of_getElem? (i := 67) rfl)) (hw _ (List.mem_of_getElem? (i := 66) rfl)) rfl (by rw [hml]; rfl) rfl (hb hby d6_43) (lenOf pd___Ljava_util_Optional_ rfl) rfl (by decide) (fun T17 v17 Ll17 X17 hQ17 => ?_)
 obtain ⟨rfl, N17q, eh17⟩ := hQ17
 have N17 := Fr.app N15 N17q
 have K18 := (Keep.refl h0 []).trans K1 all0
 obtain ⟨fs, hr, hrun, hended, hW, hsame⟩ := X17.leave (v := some (.ref oe)) (fun h => by rw [Bd.returns] at h; cases h)
 exact ⟨_, _, retOut X17 hx Bd.returns rfl (Or.inr (Or.inr (Or.inr (Or.inr ⟨rfl, rfl, rfl⟩)))) (hb hby d6_46) hr, hrun, hended, _, _, rfl, (show QrmofN2 Z a1 bs kbs x0 x1 cs vv kvv ev2 ev3 t2 u2 ku2 t3 u3 ku3 oe h0 n0 _ T17.heap _ from (by rw [eh17]; exact ⟨rfl, N17, K18⟩)), ⟨_, rfl⟩, hW, hsame.mono (by decide) (by decide)⟩
theorem ef_rmofN4 (m : MethodId) (x0 : Addr) : entryFrame m #[(.ref x0)] 5 = mkF m 0 #[.val (.ref x0), .unset, .unset, .unset, .unset] [] := by first | (simp [entryFrame, mkF, argsToLocals, Value.category]; done) | rfl
def QrmofN4 (Z : State) (a1 : Addr) (bs : Addr) (kbs : ClassId) (x0 : Int32) (x1 : Int32) (x2 : Int32) (x3 : Int32) (cs : Int32) (vv : Addr) (kvv : ClassId) (ev2 : Addr) (ev3 : Addr) (t2 : Addr) (u2 : Addr) (ku2 : ClassId) (t3 : Addr) (u3 : Addr) (ku3 : ClassId) (oe : Addr) (h0 : Heap) (n0 : Nat) (v : Option Value) (h : Heap) (L : List Loc) : Prop := v = some (.ref oe) ∧ Fr n0 L ∧ Keep h0 h []
set_option maxRecDepth 65536 in
set_option maxHeartbeats 40000000 in
theorem rmofN4 (l : Launch) (Z : State) (a0 : Array Value) (hw : ∀ d ∈ tables_1, d.before a0 Z = true) (ws : List Jvm.Cond) (a1 : Addr) (bs : Addr) (kbs : ClassId) (x0 : Int32) (x1 : Int32) (x2 : Int32) (x3 : Int32) (cs : Int32) (vv : Addr) (kvv : ClassId) (ev2 : Addr) (ev3 : Addr) (t2 : Addr) (u2 : Addr) (ku2 : ClassId) (t3 : Addr) (u3 : Addr) (ku3 : ClassId) (oe : Addr) (h0 : Heap) (n0 : Nat) (Z0 : n0 ≤ h0.size) (O0 : Old Z n0 h0) (S_COMPACT_STRINGS : Sta Z Z.heap "java/lang/String" "COMPACT_STRINGS" "Z" (.int cs)) (hcs : ¬ (cs = (0 : Int32))) (S__VALUES : Sta Z Z.heap "com/example/keyclasp/keyclasp/protocol/ProtocolVersion" "$VALUES" "[Lcom/example/keyclasp/keyclasp/protocol/ProtocolVersion;" (.ref vv)) (EZ_vv : Exa Z Z.heap vv "[Lcom/example/keyclasp/keyclasp/protocol/ProtocolVersion;") (VZ_vv : Arv Z Z.heap vv kvv (.object "com/example/keyclasp/keyclasp/protocol/ProtocolVersion") (2 : Int32) [(.ref ev2), (.ref ev3)] .null) (EZ_ev2 : Exa Z Z.heap ev2 "com/example/keyclasp/keyclasp/protocol/ProtocolVersion") (Fld0_ev2_text : Fld Z Z.heap ev2 "com/example/keyclasp/keyclasp/protocol/ProtocolVersion" "text" "Ljava/lang/String;" (.ref t2)) (EZ_t2 : Exa Z Z.heap t2 "java/lang/String") (Fld0_t2_coder : Fld Z Z.heap t2 "java/lang/String" "coder" "B" (.int (0 : Int32))) (Fld0_t2_value : Fld Z Z.heap t2 "java/lang/String" "value" "[B" (.ref u2)) (VZ_u2 : Arv Z Z.heap u2 ku2 .byte (3 : Int32) [(.int (51 : Int32)), (.int (46 : Int32)), (.int (50 : Int32))] (.int (0 : Int32))) (EZ_ev3 : Exa Z Z.heap ev3 "com/example/keyclasp/keyclasp/protocol/ProtocolVersion") (Fld0_ev3_text : Fld Z Z.heap ev3 "com/example/keyclasp/keyclasp/protocol/ProtocolVersion" "text" "Ljava/lang/String;" (.ref t3)) (EZ_t3 : Exa Z Z.heap t3 "java/lang/String") (Fld0_t3_coder : Fld Z Z.heap t3 "java/lang/String" "coder" "B" (.int (0 : Int32))) (Fld0_t3_value : Fld Z Z.heap t3 "java/lang/String" "value" "[B" (.ref u3)) (VZ_u3 : Arv Z Z.heap u3 ku3 .byte (3 : Int32) [(.int (51 : Int32)), (.int (46 : Int32)), (.int (51 : Int32))] (.int (0 : Int32))) (S_EMPTY : Sta Z Z.heap "java/util/Optional" "EMPTY" "Ljava/util/Optional;" (.ref oe)) (g_a1 : n0 ≤ a1) (E_a1 : Exa Z h0 a1 "java/lang/String") (Fld_a1_coder : Fld Z h0 a1 "java/lang/String" "coder" "B" (.int (0 : Int32))) (Fld_a1_value : Fld Z h0 a1 "java/lang/String" "value" "[B" (.ref bs)) (V_bs : Arv Z h0 bs kbs .byte (4 : Int32) [(.int x0), (.int x1), (.int x2), (.int x3)] (.int (0 : Int32))) :
    MetFree l (⟨"com/example/keyclasp/keyclasp/protocol/ProtocolVersion", "of", "(Ljava/lang/String;)Ljava/util/Optional;"⟩ : MethodName) (head1 (Jvm.Cond.code (⟨"com/example/keyclasp/keyclasp/protocol/ProtocolVersion", "of", "(Ljava/lang/String;)Ljava/util/Optional;"⟩ : MethodName) prog_22_method_4_code 5 (some (.object "java/util/Optional")) :: ws) ({ frames := 2, cells := 1, slots := 2, locals := 28 } : Room)) (fun a U => a = #[(.ref a1)] ∧ Z.Warmed39 U.vm ∧ U.heap = h0) (fun _ _ _ _ _ => True) (fun _ U o U' => ∃ v L, o = .returned v ∧ QrmofN4 Z a1 bs kbs x0 x1 x2 x3 cs vv kvv ev2 ev3 t2 u2 ku2 t3 u3 ku3 oe h0 n0 v U'.heap L ∧ FrameEnd U o U' L ({ frames := 2, cells := 1, slots := 2, locals := 28 } : Room).cells ({ frames := 2, cells := 1, slots := 2, locals := 28 } : Room).slots) := by
 refine MetFree.of_bodySF (plainFor_of_name pn_6) hisR ?_
 intro p e s m args below meth c s₁ Bd hml0 hP hK
 obtain ⟨rfl, hZ, hh⟩ := hP
 have hx := Bd.exec
 have hby := Bd.bytes
 have hml : c.maxLocals = 5 := hml0
 have hown : s.vm.findClass "com/example/keyclasp/keyclasp/protocol/ProtocolVersion" = some m.cls := findClass_of_methodNamed Bd.named
 have hnm := (name_of_methodNamed Bd.named Bd.method).1
 have X0 : Stand p l e ({ frames := 2, cells := 1, slots := 2, locals := 28 } : Room) s m #[(.ref a1)] below meth c s₁ [] 0 0 := Stand.of_body Bd
 have e0 : s₁.heap = h0 := by rw [← hh, Bd.state]; rfl
 have N0 := Fr.nil n0
 refine own_go (b := (s₁.setTop (mkF m 0 #[.val (.ref a1), .unset, .unset, .unset, .unset] []))) (fun _ k => castTop (ef_rmofN4 m a1) k) ?_
 refine own_stat (W := 0) X0 hx hZ hown e0 (hw _ (List.mem_of_getElem? (i := 34) rfl)) (hw _ (List.mem_of_getElem? (i := 35) rfl)) (rmvs l Z a0 hw [] vv kvv ev2 ev3 h0 n0 Z0 O0 S__VALUES EZ_vv VZ_vv) (hw _ (List.mem_of_getElem? (i := 36) rfl)) (hw _ (List.mem_of_getElem? (i := 32) rfl)) rfl (by rw [hml]; rfl) rfl (hb hby d6_0) (lenOf pd____Lcom_example_keyclasp_keyclasp_protocol_ProtocolVersion_ rfl) rfl (by decide) (fun T1 v1 Ll1 X1 hQ1 => ?_)
 obtain ⟨b_1, rfl, N1q, K1, P1_0, P1_1⟩ := hQ1
 have N1 := Fr.app N0 N1q
 have Zs2 : n0 ≤ T1.heap.size := Nat.le_trans Z0 K1.1
 refine own_go (b := (T1.setTop (mkF m 5 #[.val (.ref a1), .val (.ref b_1), .unset, .unset, .unset] [(.ref b_1)]))) (fun _ k => XS.astoreN X1.here hx rfl (hb hby d6_3) rfl rfl (l' := #[.val (.ref a1), .val (.ref b_1), .unset, .unset, .unset]) rfl (XS.aloadN X1.here hx rfl (hb hby d6_4) rfl rfl k)) ?_
 obtain ⟨cl3, Ar3, -, Sz3, Nn3, -, -⟩ := id P1_1
 refine own_go (b := (T1.setTop (mkF m 16 #[.val (.ref a1), .val (.ref b_1), .val (.int (2 : Int32)), .val (.int (0 : Int32)), .unset] [(.int (0 : Int32)), (.ref b_1)]))) (fun _ k => X1.arraylength hx Ar3.1 (State.isArrayOf_alike hZ.alike Ar3.2.1) (g := (mkF m 5 #[.val (.ref a1), .val (.ref b_1), .unset, .unset, .unset] [(.ref b_1)])) rfl rfl (hb hby d6_5) _ (by rw [len_of Sz3 Nn3]; exact (XS.istoreN X1.here hx rfl (hb hby d6_6) rfl (l' := #[.val (.ref a1), .val (.ref b_1), .val (.int (2 : Int32)), .unset, .unset]) rfl (XS.iconst X1.here hx rfl (hb hby d6_7) (XS.istoreN X1.here hx rfl (hb hby d6_8) rfl (l' := #[.val (.ref a1), .val (.ref b_1), .val (.int (2 : Int32)), .val (.int (0 : Int32)), .unset]) rfl (XS.iloadN X1.here hx rfl (hb hby d6_9) rfl (XS.iloadN X1.here hx rfl (hb hby d6_10) rfl (XS.icmpNo X1.here hx rfl (hb hby d6_11) rfl (tlt (by decide : (0 : Int32) < (2 : Int32))).2.1 (XS.aloadN X1.here hx rfl (hb hby d6_14) rfl rfl (XS.iloadN X1.here hx rfl (hb hby d6_15) rfl k)))))))))) ?_
 obtain ⟨cl4, Ar4, ql4, Sz4, Nn4, Hl4, Gl4⟩ := id P1_1
 have hin4 : ¬ ((0 : Int32) < 0 ∨ cl4.slots.size ≤ ((0 : Int32)).toNatClampNeg) := inb_of Sz4 ⟨by decide, by decide⟩
 refine own_go (b := (T1.setTop (mkF m 21 #[.val (.ref a1), .val (.ref b_1), .val (.int (2 : Int32)), .val (.int (0 : Int32)), .val (.ref ev2)] [(.ref ev2)]))) (fun _ k => X1.aaload hx (j := (0 : Int32)) (v := (.ref ev2)) Ar4.1 (State.isArrayOf_alike hZ.alike Ar4.2.1) rfl Ar4.2.2 hin4 (Hl4.at hin4 rfl) (g := (mkF m 16 #[.val (.ref a1), .val (.ref b_1), .val (.int (2 : Int32)), .val (.int (0 : Int32)), .unset] [(.int (0 : Int32)), (.ref b_1)])) rfl rfl (hb hby d6_16) _ (XS.astore X1.here hx rfl (hb hby d6_17) rfl rfl (l' := #[.val (.ref a1), .val (.ref b_1), .val (.int (2 : Int32)), .val (.int (0 : Int32)), .val (.ref ev2)]) rfl (XS.aload X1.here hx rfl (hb hby d6_19) rfl rfl k))) ?_
 have O5 := O0.keep K1 all0
 refine own_getf X1 hx hZ hown (hw _ (List.mem_of_getElem? (i := 51) rfl)) Via.refl rfl (Fld0_ev2_text.ext O5.2) rfl rfl (hb hby d6_21) (fun T6 X6 e6 => ?_)
 refine own_go (b := (T6.setTop (mkF m 25 #[.val (.ref a1), .val (.ref b_1), .val (.int (2 : Int32)), .val (.int (0 : Int32)), .val (.ref ev2)] [(.ref a1), (.ref t2)]))) (fun _ k => XS.aloadN X6.here hx rfl (hb hby d6_24) rfl rfl k) ?_
 have nx8 : t2 ≠ a1 := (Old.ne O5 EZ_t2.lt g_a1)
 have F9 := E_a1.keep K1
 have F10 := Fld_a1_coder.keep K1 nin0
 have F11 := Fld_a1_value.keep K1 nin0
 have F12 := V_bs.keep K1 nin0
 refine own_virt (W := 0) X6 hx hZ hown e6 (hw _ (List.mem_of_getElem? (i := 53) rfl)) (hw _ (List.mem_of_getElem? (i := 54) rfl)) (hw _ (List.mem_of_getElem? (i := 56) rfl)) (hw _ (List.mem_of_getElem? (i := 55) rfl)) (rmseN4 l Z a0 hw [] t2 a1 u2 bs ku2 kbs (51 : Int32) (46 : Int32) (50 : Int32) x0 x1 x2 x3 cs T1.heap n0 Zs2 O5 S_COMPACT_STRINGS hcs nx8 F9 (Fld0_t2_coder.ext O5.2) (Fld0_t2_value.ext O5.2) F10 F11 (VZ_u2.ext O5.2) F12) (hw _ (List.mem_of_getElem? (i := 57) rfl)) (hw _ (List.mem_of_getElem? (i := 10) rfl)) (EZ_t2.ext O5.2) rfl (by rw [hml]; rfl) rfl (hb hby d6_25) (lenOf pd__Ljava_lang_Object__Z rfl) rfl (by decide) (fun T7 v7 Ll7 X7 hQ7 => ?_)
 obtain ⟨rfl, N7q, eh7⟩ := hQ7
 have N7 := Fr.app N1 N7q
 refine own_go (b := (T7.setTop (mkF m 16 #[.val (.ref a1), .val (.ref b_1), .val (.int (2 : Int32)), .val (.int (1 : Int32)), .val (.ref ev2)] [(.int (1 : Int32)), (.ref b_1)]))) (fun _ k => XS.ifYes X7.here hx rfl (pc0 := 28) (pc' := 37) rfl (hb hby d6_28) rfl ((if0 _ _).trans (teq (rfl : (0 : Int32) = (0 : Int32))).1) (by decide) (by decide) (XS.iinc X7.here hx rfl (hb hby d6_37) rfl (l' := #[.val (.ref a1), .val (.ref b_1), .val (.int (2 : Int32)), .val (.int (1 : Int32)), .val (.ref ev2)]) rfl (XS.goto X7.here hx rfl (pc0 := 40) (pc' := 9) rfl (hb hby d6_40) (by decide) (by decide) (XS.iloadN X7.here hx rfl (hb hby d6_9) rfl (XS.iloadN X7.here hx rfl (hb hby d6_10) rfl (XS.icmpNo X7.here hx rfl (hb hby d6_11) rfl (tlt (by decide : (1 : Int32) < (2 : Int32))).2.1 (XS.aloadN X7.here hx rfl (hb hby d6_14) rfl rfl (XS.iloadN X7.here hx rfl (hb hby d6_15) rfl k)))))))) ?_
 obtain ⟨cl13, Ar13, ql13, Sz13, Nn13, Hl13, Gl13⟩ := id P1_1
 have hin13 : ¬ ((1 : Int32) < 0 ∨ cl13.slots.size ≤ ((1 : Int32)).toNatClampNeg) := inb_of Sz13 ⟨by decide, by decide⟩
 refine own_go (b := (T7.setTop (mkF m 21 #[.val (.ref a1), .val (.ref b_1), .val (.int (2 : Int32)), .val (.int (1 : Int32)), .val (.ref ev3)] [(.ref ev3)]))) (fun _ k => X7.aaload hx (j := (1 : Int32)) (v := (.ref ev3)) (by rw [eh7]; exact Ar13.1) (State.isArrayOf_alike hZ.alike Ar13.2.1) rfl Ar13.2.2 hin13 (Hl13.at hin13 rfl) (g := (mkF m 16 #[.val (.ref a1), .val (.ref b_1), .val (.int (2 : Int32)), .val (.int (1 : Int32)), .val (.ref ev2)] [(.int (1 : Int32)), (.ref b_1)])) rfl rfl (hb hby d6_16) _ (XS.astore X7.here hx rfl (hb hby d6_17) rfl rfl (l' := #[.val (.ref a1), .val (.ref b_1), .val (.int (2 : Int32)), .val (.int (1 : Int32)), .val (.ref ev3)]) rfl (XS.aload X7.here hx rfl (hb hby d6_19) rfl rfl k))) ?_
 refine own_getf X7 hx hZ hown (hw _ (List.mem_of_getElem? (i := 51) rfl)) Via.refl eh7 (Fld0_ev3_text.ext O5.2) rfl rfl (hb hby d6_21) (fun T14 X14 e14 => ?_)
 refine own_go (b := (T14.setTop (mkF m 25 #[.val (.ref a1), .val (.ref b_1), .val (.int (2 : Int32)), .val (.int (1 : Int32)), .val (.ref ev3)] [(.ref a1), (.ref t3)]))) (fun _ k => XS.aloadN X14.here hx rfl (hb hby d6_24) rfl rfl k) ?_
 have nx16 : t3 ≠ a1 := (Old.ne O5 EZ_t3.lt g_a1)
 refine own_virt (W := 0) X14 hx hZ hown e14 (hw _ (List.mem_of_getElem? (i := 53) rfl)) (hw _ (List.mem_of_getElem? (i := 54) rfl)) (hw _ (List.mem_of_getElem? (i := 56) rfl)) (hw _ (List.mem_of_getElem? (i := 55) rfl)) (rmseN4 l Z a0 hw [] t3 a1 u3 bs ku3 kbs (51 : Int32) (46 : Int32) (51 : Int32) x0 x1 x2 x3 cs T1.heap n0 Zs2 O5 S_COMPACT_STRINGS hcs nx16 F9 (Fld0_t3_coder.ext O5.2) (Fld0_t3_value.ext O5.2) F10 F11 (VZ_u3.ext O5.2) F12) (hw _ (List.mem_of_getElem? (i := 57) rfl)) (hw _ (List.mem_of_getElem? (i := 10) rfl)) (EZ_t3.ext O5.2) rfl (by rw [hml]; rfl) rfl (hb hby d6_25) (lenOf pd__Ljava_lang_Object__Z rfl) rfl (by decide) (fun T15 v15 Ll15 X15 hQ15 => ?_)
 obtain ⟨rfl, N15q, eh15⟩ := hQ15
 have N15 := Fr.app N7 N15q
 refine own_go (b := (T15.setTop (mkF m 43 #[.val (.ref a1), .val (.ref b_1), .val (.int (2 : Int32)), .val (.int (2 : Int32)), .val (.ref ev3)] []))) (fun _ k => XS.ifYes X15.here hx rfl (pc0 := 28) (pc' := 37) rfl (hb hby d6_28) rfl ((if0 _ _).trans (teq (rfl : (0 : Int32) = (0 : Int32))).1) (by decide) (by decide) (XS.iinc X15.here hx rfl (hb hby d6_37) rfl (l' := #[.val (.ref a1), .val (.ref b_1), .val (.int (2 : Int32)), .val (.int (2 : Int32)), .val (.ref ev3)]) rfl (XS.goto X15.here hx rfl (pc0 := 40) (pc' := 9) rfl (hb hby d6_40) (by decide) (by decide) (XS.iloadN X15.here hx rfl (hb hby d6_9) rfl (XS.iloadN X15.here hx rfl (hb hby d6_10) rfl (XS.icmpYes X15.here hx rfl (pc0 := 11) (pc' := 43) rfl (hb hby d6_11) rfl (flt (by decide : ¬ ((2 : Int32) < (2 : Int32)))).2.1 (by decide) (by decide) k)))))) ?_
 refine own_stat (W := 0) X15 hx hZ hown eh15 (hw _ (List.mem_of_getElem? (i := 64) rfl)) (hw _ (List.mem_of_getElem? (i := 65) rfl)) (rmoe l Z a0 hw [] oe T1.heap n0 Zs2 O5 S_EMPTY) (hw _ (List.mem_of_getElem? (i := 67) rfl)) (hw _ (List.mem_of_getElem? (i := 66) rfl)) rfl (by rw [hml]; rfl) rfl (hb hby d6_43) (lenOf pd___Ljava_util_Optional_ rfl) rfl (by decide) (fun T17 v17 Ll17 X17 hQ17 => ?_)
 obtain ⟨rfl, N17q, eh17⟩ := hQ17
 have N17 := Fr.app N15 N17q
 have K18 := (Keep.refl h0 []).trans K1 all0
 obtain ⟨fs, hr, hrun, hended, hW, hsame⟩ := X17.leave (v := some (.ref oe)) (fun h => by rw [Bd.returns] at h; cases h)
 exact ⟨_, _, retOut X17 hx Bd.returns rfl (Or.inr (Or.inr (Or.inr (Or.inr ⟨rfl, rfl, rfl⟩)))) (hb hby d6_46) hr, hrun, hended, _, _, rfl, (show QrmofN4 Z a1 bs kbs x0 x1 x2 x3 cs vv kvv ev2 ev3 t2 u2 ku2 t3 u3 ku3 oe h0 n0 _ T17.heap _ from (by rw [eh17]; exact ⟨rfl, N17, K18⟩)), ⟨_, rfl⟩, hW, hsame.mono (by decide) (by decide)⟩
theorem ef_rmofE1 (m : MethodId) (x0 : Addr) : entryFrame m #[(.ref x0)] 5 = mkF m 0 #[.val (.ref x0), .unset, .unset, .unset, .unset] [] := by first | (simp [entryFrame, mkF, argsToLocals, Value.category]; done) | rfl
def QrmofE1 (Z : State) (a1 : Addr) (bs : Addr) (kbs : ClassId) (x0 : Int32) (x1 : Int32) (x2 : Int32) (cs : Int32) (vv : Addr) (kvv : ClassId) (ev2 : Addr) (ev3 : Addr) (t2 : Addr) (u2 : Addr) (ku2 : ClassId) (t3 : Addr) (u3 : Addr) (ku3 : ClassId) (oe : Addr) (h0 : Heap) (n0 : Nat) (v : Option Value) (h : Heap) (L : List Loc) : Prop := v = some (.ref oe) ∧ Fr n0 L ∧ Keep h0 h []
set_option maxRecDepth 65536 in
set_option maxHeartbeats 40000000 in
theorem rmofE1 (l : Launch) (Z : State) (a0 : Array Value) (hw : ∀ d ∈ tables_1, d.before a0 Z = true) (ws : List Jvm.Cond) (a1 : Addr) (bs : Addr) (kbs : ClassId) (x0 : Int32) (x1 : Int32) (x2 : Int32) (cs : Int32) (vv : Addr) (kvv : ClassId) (ev2 : Addr) (ev3 : Addr) (t2 : Addr) (u2 : Addr) (ku2 : ClassId) (t3 : Addr) (u3 : Addr) (ku3 : ClassId) (oe : Addr) (h0 : Heap) (n0 : Nat) (Z0 : n0 ≤ h0.size) (O0 : Old Z n0 h0) (S_COMPACT_STRINGS : Sta Z Z.heap "java/lang/String" "COMPACT_STRINGS" "Z" (.int cs)) (hcs : ¬ (cs = (0 : Int32))) (S__VALUES : Sta Z Z.heap "com/example/keyclasp/keyclasp/protocol/ProtocolVersion" "$VALUES" "[Lcom/example/keyclasp/keyclasp/protocol/ProtocolVersion;" (.ref vv)) (EZ_vv : Exa Z Z.heap vv "[Lcom/example/keyclasp/keyclasp/protocol/ProtocolVersion;") (VZ_vv : Arv Z Z.heap vv kvv (.object "com/example/keyclasp/keyclasp/protocol/ProtocolVersion") (2 : Int32) [(.ref ev2), (.ref ev3)] .null) (EZ_ev2 : Exa Z Z.heap ev2 "com/example/keyclasp/keyclasp/protocol/ProtocolVersion") (Fld0_ev2_text : Fld Z Z.heap ev2 "com/example/keyclasp/keyclasp/protocol/ProtocolVersion" "text" "Ljava/lang/String;" (.ref t2)) (EZ_t2 : Exa Z Z.heap t2 "java/lang/String") (Fld0_t2_coder : Fld Z Z.heap t2 "java/lang/String" "coder" "B" (.int (0 : Int32))) (Fld0_t2_value : Fld Z Z.heap t2 "java/lang/String" "value" "[B" (.ref u2)) (VZ_u2 : Arv Z Z.heap u2 ku2 .byte (3 : Int32) [(.int (51 : Int32)), (.int (46 : Int32)), (.int (50 : Int32))] (.int (0 : Int32))) (EZ_ev3 : Exa Z Z.heap ev3 "com/example/keyclasp/keyclasp/protocol/ProtocolVersion") (Fld0_ev3_text : Fld Z Z.heap ev3 "com/example/keyclasp/keyclasp/protocol/ProtocolVersion" "text" "Ljava/lang/String;" (.ref t3)) (EZ_t3 : Exa Z Z.heap t3 "java/lang/String") (Fld0_t3_coder : Fld Z Z.heap t3 "java/lang/String" "coder" "B" (.int (0 : Int32))) (Fld0_t3_value : Fld Z Z.heap t3 "java/lang/String" "value" "[B" (.ref u3)) (VZ_u3 : Arv Z Z.heap u3 ku3 .byte (3 : Int32) [(.int (51 : Int32)), (.int (46 : Int32)), (.int (51 : Int32))] (.int (0 : Int32))) (S_EMPTY : Sta Z Z.heap "java/util/Optional" "EMPTY" "Ljava/util/Optional;" (.ref oe)) (g_a1 : n0 ≤ a1) (E_a1 : Exa Z h0 a1 "java/lang/String") (Fld_a1_coder : Fld Z h0 a1 "java/lang/String" "coder" "B" (.int (0 : Int32))) (Fld_a1_value : Fld Z h0 a1 "java/lang/String" "value" "[B" (.ref bs)) (V_bs : Arv Z h0 bs kbs .byte (3 : Int32) [(.int x0), (.int x1), (.int x2)] (.int (0 : Int32))) (hp0 : ¬ ((51 : Int32) = x0)) :
    MetFree l (⟨"com/example/keyclasp/keyclasp/protocol/ProtocolVersion", "of", "(Ljava/lang/String;)Ljava/util/Optional;"⟩ : MethodName) (head1 (Jvm.Cond.code (⟨"com/example/keyclasp/keyclasp/protocol/ProtocolVersion", "of", "(Ljava/lang/String;)Ljava/util/Optional;"⟩ : MethodName) prog_22_method_4_code 5 (some (.object "java/util/Optional")) :: ws) ({ frames := 2, cells := 1, slots := 2, locals := 28 } : Room)) (fun a U => a = #[(.ref a1)] ∧ Z.Warmed39 U.vm ∧ U.heap = h0) (fun _ _ _ _ _ => True) (fun _ U o U' => ∃ v L, o = .returned v ∧ QrmofE1 Z a1 bs kbs x0 x1 x2 cs vv kvv ev2 ev3 t2 u2 ku2 t3 u3 ku3 oe h0 n0 v U'.heap L ∧ FrameEnd U o U' L ({ frames := 2, cells := 1, slots := 2, locals := 28 } : Room).cells ({ frames := 2, cells := 1, slots := 2, locals := 28 } : Room).slots) := by
 refine MetFree.of_bodySF (plainFor_of_name pn_6) hisR ?_
 intro p e s m args below meth c s₁ Bd hml0 hP hK
 obtain ⟨rfl, hZ, hh⟩ := hP
 have hx := Bd.exec
 have hby := Bd.bytes
 have hml : c.maxLocals = 5 := hml0
 have hown : s.vm.findClass "com/example/keyclasp/keyclasp/protocol/ProtocolVersion" = some m.cls := findClass_of_methodNamed Bd.named
 have hnm := (name_of_methodNamed Bd.named Bd.method).1
 have X0 : Stand p l e ({ frames := 2, cells := 1, slots := 2, locals := 28 } : Room) s m #[(.ref a1)] below meth c s₁ [] 0 0 := Stand.of_body Bd
 have e0 : s₁.heap = h0 := by rw [← hh, Bd.state]; rfl
 have N0 := Fr.nil n0
 refine own_go (b := (s₁.setTop (mkF m 0 #[.val (.ref a1), .unset, .unset, .unset, .unset] []))) (fun _ k => castTop (ef_rmofE1 m a1) k) ?_
 refine own_stat (W := 0) X0 hx hZ hown e0 (hw _ (List.mem_of_getElem? (i := 34) rfl)) (hw _ (List.mem_of_getElem? (i := 35) rfl)) (rmvs l Z a0 hw [] vv kvv ev2 ev3 h0 n0 Z0 O0 S__VALUES EZ_vv VZ_vv) (hw _ (List.mem_of_getElem? (i := 36) rfl)) (hw _ (List.mem_of_getElem? (i := 32) rfl)) rfl (by rw [hml]; rfl) rfl (hb hby d6_0) (lenOf pd____Lcom_example_keyclasp_keyclasp_protocol_ProtocolVersion_ rfl) rfl (by decide) (fun T1 v1 Ll1 X1 hQ1 => ?_)
 obtain ⟨b_1, rfl, N1q, K1, P1_0, P1_1⟩ := hQ1
 have N1 := Fr.app N0 N1q
 have Zs2 : n0 ≤ T1.heap.size := Nat.le_trans Z0 K1.1
 refine own_go (b := (T1.setTop (mkF m 5 #[.val (.ref a1), .val (.ref b_1), .unset, .unset, .unset] [(.ref b_1)]))) (fun _ k => XS.astoreN X1.here hx rfl (hb hby d6_3) rfl rfl (l' := #[.val (.ref a1), .val (.ref b_1), .unset, .unset, .unset]) rfl (XS.aloadN X1.here hx rfl (hb hby d6_4) rfl rfl k)) ?_
 obtain ⟨cl3, Ar3, -, Sz3, Nn3, -, -⟩ := id P1_1
 refine own_go (b := (T1.setTop (mkF m 16 #[.val (.ref a1), .val (.ref b_1), .val (.int (2 : Int32)), .val (.int (0 : Int32)), .unset] [(.int (0 : Int32)), (.ref b_1)]))) (fun _ k => X1.arraylength hx Ar3.1 (State.isArrayOf_alike hZ.alike Ar3.2.1) (g := (mkF m 5 #[.val (.ref a1), .val (.ref b_1), .unset, .unset, .unset] [(.ref b_1)])) rfl rfl (hb hby d6_5) _ (by rw [len_of Sz3 Nn3]; exact (XS.istoreN X1.here hx rfl (hb hby d6_6) rfl (l' := #[.val (.ref a1), .val (.ref b_1), .val (.int (2 : Int32)), .unset, .unset]) rfl (XS.iconst X1.here hx rfl (hb hby d6_7) (XS.istoreN X1.here hx rfl (hb hby d6_8) rfl (l' := #[.val (.ref a1), .val (.ref b_1), .val (.int (2 : Int32)), .val (.int (0 : Int32)), .unset]) rfl (XS.iloadN X1.here hx rfl (hb hby d6_9) rfl (XS.iloadN X1.here hx rfl (hb hby d6_10) rfl (XS.icmpNo X1.here hx rfl (hb hby d6_11) rfl (tlt (by decide : (0 : Int32) < (2 : Int32))).2.1 (XS.aloadN X1.here hx rfl (hb hby d6_14) rfl rfl (XS.iloadN X1.here hx rfl (hb hby d6_15) rfl k)))))))))) ?_
 obtain ⟨cl4, Ar4, ql4, Sz4, Nn4, Hl4, Gl4⟩ := id P1_1
 have hin4 : ¬ ((0 : Int32) < 0 ∨ cl4.slots.size ≤ ((0 : Int32)).toNatClampNeg) := inb_of Sz4 ⟨by decide, by decide⟩
 refine own_go (b := (T1.setTop (mkF m 21 #[.val (.ref a1), .val (.ref b_1), .val (.int (2 : Int32)), .val (.int (0 : Int32)), .val (.ref ev2)] [(.ref ev2)]))) (fun _ k => X1.aaload hx (j := (0 : Int32)) (v := (.ref ev2)) Ar4.1 (State.isArrayOf_alike hZ.alike Ar4.2.1) rfl Ar4.2.2 hin4 (Hl4.at hin4 rfl) (g := (mkF m 16 #[.val (.ref a1), .val (.ref b_1), .val (.int (2 : Int32)), .val (.int (0 : Int32)), .unset] [(.int (0 : Int32)), (.ref b_1)])) rfl rfl (hb hby d6_16) _ (XS.astore X1.here hx rfl (hb hby d6_17) rfl rfl (l' := #[.val (.ref a1), .val (.ref b_1), .val (.int (2 : Int32)), .val (.int (0 : Int32)), .val (.ref ev2)]) rfl (XS.aload X1.here hx rfl (hb hby d6_19) rfl rfl k))) ?_
 have O5 := O0.keep K1 all0
 refine own_getf X1 hx hZ hown (hw _ (List.mem_of_getElem? (i := 51) rfl)) Via.refl rfl (Fld0_ev2_text.ext O5.2) rfl rfl (hb hby d6_21) (fun T6 X6 e6 => ?_)
 refine own_go (b := (T6.setTop (mkF m 25 #[.val (.ref a1), .val (.ref b_1), .val (.int (2 : Int32)), .val (.int (0 : Int32)), .val (.ref ev2)] [(.ref a1), (.ref t2)]))) (fun _ k => XS.aloadN X6.here hx rfl (hb hby d6_24) rfl rfl k) ?_
 have nx8 : t2 ≠ a1 := (Old.ne O5 EZ_t2.lt g_a1)
 have F9 := E_a1.keep K1
 have F10 := Fld_a1_coder.keep K1 nin0
 have F11 := Fld_a1_value.keep K1 nin0
 have F12 := V_bs.keep K1 nin0
 refine own_virt (W := 0) X6 hx hZ hown e6 (hw _ (List.mem_of_getElem? (i := 53) rfl)) (hw _ (List.mem_of_getElem? (i := 54) rfl)) (hw _ (List.mem_of_getElem? (i := 56) rfl)) (hw _ (List.mem_of_getElem? (i := 55) rfl)) (rmseE1 l Z a0 hw [] t2 a1 u2 bs ku2 kbs (51 : Int32) (46 : Int32) (50 : Int32) x0 x1 x2 cs T1.heap n0 Zs2 O5 S_COMPACT_STRINGS hcs nx8 F9 (Fld0_t2_coder.ext O5.2) (Fld0_t2_value.ext O5.2) F10 F11 (VZ_u2.ext O5.2) F12 hp0) (hw _ (List.mem_of_getElem? (i := 57) rfl)) (hw _ (List.mem_of_getElem? (i := 10) rfl)) (EZ_t2.ext O5.2) rfl (by rw [hml]; rfl) rfl (hb hby d6_25) (lenOf pd__Ljava_lang_Object__Z rfl) rfl (by decide) (fun T7 v7 Ll7 X7 hQ7 => ?_)
 obtain ⟨rfl, N7q, eh7⟩ := hQ7
 have N7 := Fr.app N1 N7q
 refine own_go (b := (T7.setTop (mkF m 16 #[.val (.ref a1), .val (.ref b_1), .val (.int (2 : Int32)), .val (.int (1 : Int32)), .val (.ref ev2)] [(.int (1 : Int32)), (.ref b_1)]))) (fun _ k => XS.ifYes X7.here hx rfl (pc0 := 28) (pc' := 37) rfl (hb hby d6_28) rfl ((if0 _ _).trans (teq (rfl : (0 : Int32) = (0 : Int32))).1) (by decide) (by decide) (XS.iinc X7.here hx rfl (hb hby d6_37) rfl (l' := #[.val (.ref a1), .val (.ref b_1), .val (.int (2 : Int32)), .val (.int (1 : Int32)), .val (.ref ev2)]) rfl (XS.goto X7.here hx rfl (pc0 := 40) (pc' := 9) rfl (hb hby d6_40) (by decide) (by decide) (XS.iloadN X7.here hx rfl (hb hby d6_9) rfl (XS.iloadN X7.here hx rfl (hb hby d6_10) rfl (XS.icmpNo X7.here hx rfl (hb hby d6_11) rfl (tlt (by decide : (1 : Int32) < (2 : Int32))).2.1 (XS.aloadN X7.here hx rfl (hb hby d6_14) rfl rfl (XS.iloadN X7.here hx rfl (hb hby d6_15) rfl k)))))))) ?_
 obtain ⟨cl13, Ar13, ql13, Sz13, Nn13, Hl13, Gl13⟩ := id P1_1
 have hin13 : ¬ ((1 : Int32) < 0 ∨ cl13.slots.size ≤ ((1 : Int32)).toNatClampNeg) := inb_of Sz13 ⟨by decide, by decide⟩
 refine own_go (b := (T7.setTop (mkF m 21 #[.val (.ref a1), .val (.ref b_1), .val (.int (2 : Int32)), .val (.int (1 : Int32)), .val (.ref ev3)] [(.ref ev3)]))) (fun _ k => X7.aaload hx (j := (1 : Int32)) (v := (.ref ev3)) (by rw [eh7]; exact Ar13.1) (State.isArrayOf_alike hZ.alike Ar13.2.1) rfl Ar13.2.2 hin13 (Hl13.at hin13 rfl) (g := (mkF m 16 #[.val (.ref a1), .val (.ref b_1), .val (.int (2 : Int32)), .val (.int (1 : Int32)), .val (.ref ev2)] [(.int (1 : Int32)), (.ref b_1)])) rfl rfl (hb hby d6_16) _ (XS.astore X7.here hx rfl (hb hby d6_17) rfl rfl (l' := #[.val (.ref a1), .val (.ref b_1), .val (.int (2 : Int32)), .val (.int (1 : Int32)), .val (.ref ev3)]) rfl (XS.aload X7.here hx rfl (hb hby d6_19) rfl rfl k))) ?_
 refine own_getf X7 hx hZ hown (hw _ (List.mem_of_getElem? (i := 51) rfl)) Via.refl eh7 (Fld0_ev3_text.ext O5.2) rfl rfl (hb hby d6_21) (fun T14 X14 e14 => ?_)
 refine own_go (b := (T14.setTop (mkF m 25 #[.val (.ref a1), .val (.ref b_1), .val (.int (2 : Int32)), .val (.int (1 : Int32)), .val (.ref ev3)] [(.ref a1), (.ref t3)]))) (fun _ k => XS.aloadN X14.here hx rfl (hb hby d6_24) rfl rfl k) ?_
 have nx16 : t3 ≠ a1 := (Old.ne O5 EZ_t3.lt g_a1)
 refine own_virt (W := 0) X14 hx hZ hown e14 (hw _ (List.mem_of_getElem? (i := 53) rfl)) (hw _ (List.mem_of_getElem? (i := 54) rfl)) (hw _ (List.mem_of_getElem? (i := 56) rfl)) (hw _ (List.mem_of_getElem? (i := 55) rfl)) (rmseE1 l Z a0 hw [] t3 a1 u3 bs ku3 kbs (51 : Int32) (46 : Int32) (51 : Int32) x0 x1 x2 cs T1.heap n0 Zs2 O5 S_COMPACT_STRINGS hcs nx16 F9 (Fld0_t3_coder.ext O5.2) (Fld0_t3_value.ext O5.2) F10 F11 (VZ_u3.ext O5.2) F12 hp0) (hw _ (List.mem_of_getElem? (i := 57) rfl)) (hw _ (List.mem_of_getElem? (i := 10) rfl)) (EZ_t3.ext O5.2) rfl (by rw [hml]; rfl) rfl (hb hby d6_25) (lenOf pd__Ljava_lang_Object__Z rfl) rfl (by decide) (fun T15 v15 Ll15 X15 hQ15 => ?_)
 obtain ⟨rfl, N15q, eh15⟩ := hQ15
 have N15 := Fr.app N7 N15q
 refine own_go (b := (T15.setTop (mkF m 43 #[.val (.ref a1), .val (.ref b_1), .val (.int (2 : Int32)), .val (.int (2 : Int32)), .val (.ref ev3)] []))) (fun _ k => XS.ifYes X15.here hx rfl (pc0 := 28) (pc' := 37) rfl (hb hby d6_28) rfl ((if0 _ _).trans (teq (rfl : (0 : Int32) = (0 : Int32))).1) (by decide) (by decide) (XS.iinc X15.here hx rfl (hb hby d6_37) rfl (l' := #[.val (.ref a1), .val (.ref b_1), .val (.int (2 : Int32)), .val (.int (2 : Int32)), .val (.ref ev3)]) rfl (XS.goto X15.here hx rfl (pc0 := 40) (pc' := 9) rfl (hb hby d6_40) (by decide) (by decide) (XS.iloadN X15.here hx rfl (hb hby d6_9) rfl (XS.iloadN X15.here hx rfl (hb hby d6_10) rfl (XS.icmpYes X15.here hx rfl (pc0 := 11) (pc' := 43) rfl (hb hby d6_11) rfl (flt (by decide : ¬ ((2 : Int32) < (2 : Int32)))).2.1 (by decide) (by decide) k)))))) ?_
 refine own_stat (W := 0) X15 hx hZ hown eh15 (hw _ (List.mem_of_getElem? (i := 64) rfl)) (hw _ (List.mem_of_getElem? (i := 65) rfl)) (rmoe l Z a0 hw [] oe T1.heap n0 Zs2 O5 S_EMPTY) (hw _ (List.mem_of_getElem? (i := 67) rfl)) (hw _ (List.mem_of_getElem? (i := 66) rfl)) rfl (by rw [hml]; rfl) rfl (hb hby d6_43) (lenOf pd___Ljava_util_Optional_ rfl) rfl (by decide) (fun T17 v17 Ll17 X17 hQ17 => ?_)
 obtain ⟨rfl, N17q, eh17⟩ := hQ17
 have N17 := Fr.app N15 N17q
 have K18 := (Keep.refl h0 []).trans K1 all0
 obtain ⟨fs, hr, hrun, hended, hW, hsame⟩ := X17.leave (v := some (.ref oe)) (fun h => by rw [Bd.returns] at h; cases h)
 exact ⟨_, _, retOut X17 hx Bd.returns rfl (Or.inr (Or.inr (Or.inr (Or.inr ⟨rfl, rfl, rfl⟩)))) (hb hby d6_46) hr, hrun, hended, _, _, rfl, (show QrmofE1 Z a1 bs kbs x0 x1 x2 cs vv kvv ev2 ev3 t2 u2 ku2 t3 u3 ku3 oe h0 n0 _ T17.heap _ from (by rw [eh17]; exact ⟨rfl, N17, K18⟩)), ⟨_, rfl⟩, hW, hsame.mono (by decide) (by decide)⟩
theorem ef_rmofE2 (m : MethodId) (x0 : Addr) : entryFrame m #[(.ref x0)] 5 = mkF m 0 #[.val (.ref x0), .unset, .unset, .unset, .unset] [] := by first | (simp [entryFrame, mkF, argsToLocals, Value.category]; done) | rfl
def QrmofE2 (Z : State) (a1 : Addr) (bs : Addr) (kbs : ClassId) (x0 : Int32) (x1 : Int32) (x2 : Int32) (cs : Int32) (vv : Addr) (kvv : ClassId) (ev2 : Addr) (ev3 : Addr) (t2 : Addr) (u2 : Addr) (ku2 : ClassId) (t3 : Addr) (u3 : Addr) (ku3 : ClassId) (oe : Addr) (h0 : Heap) (n0 : Nat) (v : Option Value) (h : Heap) (L : List Loc) : Prop := v = some (.ref oe) ∧ Fr n0 L ∧ Keep h0 h []
set_option maxRecDepth 65536 in
set_option maxHeartbeats 40000000 in
theorem rmofE2 (l : Launch) (Z : State) (a0 : Array Value) (hw : ∀ d ∈ tables_1, d.before a0 Z = true) (ws : List Jvm.Cond) (a1 : Addr) (bs : Addr) (kbs : ClassId) (x0 : Int32) (x1 : Int32) (x2 : Int32) (cs : Int32) (vv : Addr) (kvv : ClassId) (ev2 : Addr) (ev3 : Addr) (t2 : Addr) (u2 : Addr) (ku2 : ClassId) (t3 : Addr) (u3 : Addr) (ku3 : ClassId) (oe : Addr) (h0 : Heap) (n0 : Nat) (Z0 : n0 ≤ h0.size) (O0 : Old Z n0 h0) (S_COMPACT_STRINGS : Sta Z Z.heap "java/lang/String" "COMPACT_STRINGS" "Z" (.int cs)) (hcs : ¬ (cs = (0 : Int32))) (S__VALUES : Sta Z Z.heap "com/example/keyclasp/keyclasp/protocol/ProtocolVersion" "$VALUES" "[Lcom/example/keyclasp/keyclasp/protocol/ProtocolVersion;" (.ref vv)) (EZ_vv : Exa Z Z.heap vv "[Lcom/example/keyclasp/keyclasp/protocol/ProtocolVersion;") (VZ_vv : Arv Z Z.heap vv kvv (.object "com/example/keyclasp/keyclasp/protocol/ProtocolVersion") (2 : Int32) [(.ref ev2), (.ref ev3)] .null) (EZ_ev2 : Exa Z Z.heap ev2 "com/example/keyclasp/keyclasp/protocol/ProtocolVersion") (Fld0_ev2_text : Fld Z Z.heap ev2 "com/example/keyclasp/keyclasp/protocol/ProtocolVersion" "text" "Ljava/lang/String;" (.ref t2)) (EZ_t2 : Exa Z Z.heap t2 "java/lang/String") (Fld0_t2_coder : Fld Z Z.heap t2 "java/lang/String" "coder" "B" (.int (0 : Int32))) (Fld0_t2_value : Fld Z Z.heap t2 "java/lang/String" "value" "[B" (.ref u2)) (VZ_u2 : Arv Z Z.heap u2 ku2 .byte (3 : Int32) [(.int (51 : Int32)), (.int (46 : Int32)), (.int (50 : Int32))] (.int (0 : Int32))) (EZ_ev3 : Exa Z Z.heap ev3 "com/example/keyclasp/keyclasp/protocol/ProtocolVersion") (Fld0_ev3_text : Fld Z Z.heap ev3 "com/example/keyclasp/keyclasp/protocol/ProtocolVersion" "text" "Ljava/lang/String;" (.ref t3)) (EZ_t3 : Exa Z Z.heap t3 "java/lang/String") (Fld0_t3_coder : Fld Z Z.heap t3 "java/lang/String" "coder" "B" (.int (0 : Int32))) (Fld0_t3_value : Fld Z Z.heap t3 "java/lang/String" "value" "[B" (.ref u3)) (VZ_u3 : Arv Z Z.heap u3 ku3 .byte (3 : Int32) [(.int (51 : Int32)), (.int (46 : Int32)), (.int (51 : Int32))] (.int (0 : Int32))) (S_EMPTY : Sta Z Z.heap "java/util/Optional" "EMPTY" "Ljava/util/Optional;" (.ref oe)) (g_a1 : n0 ≤ a1) (E_a1 : Exa Z h0 a1 "java/lang/String") (Fld_a1_coder : Fld Z h0 a1 "java/lang/String" "coder" "B" (.int (0 : Int32))) (Fld_a1_value : Fld Z h0 a1 "java/lang/String" "value" "[B" (.ref bs)) (V_bs : Arv Z h0 bs kbs .byte (3 : Int32) [(.int x0), (.int x1), (.int x2)] (.int (0 : Int32))) (hp0 : (51 : Int32) = x0) (hp1 : ¬ ((46 : Int32) = x1)) :
    MetFree l (⟨"com/example/keyclasp/keyclasp/protocol/ProtocolVersion", "of", "(Ljava/lang/String;)Ljava/util/Optional;"⟩ : MethodName) (head1 (Jvm.Cond.code (⟨"com/example/keyclasp/keyclasp/protocol/ProtocolVersion", "of", "(Ljava/lang/String;)Ljava/util/Optional;"⟩ : MethodName) prog_22_method_4_code 5 (some (.object "java/util/Optional")) :: ws) ({ frames := 2, cells := 1, slots := 2, locals := 28 } : Room)) (fun a U => a = #[(.ref a1)] ∧ Z.Warmed39 U.vm ∧ U.heap = h0) (fun _ _ _ _ _ => True) (fun _ U o U' => ∃ v L, o = .returned v ∧ QrmofE2 Z a1 bs kbs x0 x1 x2 cs vv kvv ev2 ev3 t2 u2 ku2 t3 u3 ku3 oe h0 n0 v U'.heap L ∧ FrameEnd U o U' L ({ frames := 2, cells := 1, slots := 2, locals := 28 } : Room).cells ({ frames := 2, cells := 1, slots := 2, locals := 28 } : Room).slots) := by
 refine MetFree.of_bodySF (plainFor_of_name pn_6) hisR ?_
 intro p e s m args below meth c s₁ Bd hml0 hP hK
 obtain ⟨rfl, hZ, hh⟩ := hP
 have hx := Bd.exec
 have hby := Bd.bytes
 have hml : c.maxLocals = 5 := hml0
 have hown : s.vm.findClass "com/example/keyclasp/keyclasp/protocol/ProtocolVersion" = some m.cls := findClass_of_methodNamed Bd.named
 have hnm := (name_of_methodNamed Bd.named Bd.method).1
 have X0 : Stand p l e ({ frames := 2, cells := 1, slots := 2, locals := 28 } : Room) s m #[(.ref a1)] below meth c s₁ [] 0 0 := Stand.of_body Bd
 have e0 : s₁.heap = h0 := by rw [← hh, Bd.state]; rfl
 have N0 := Fr.nil n0
 refine own_go (b := (s₁.setTop (mkF m 0 #[.val (.ref a1), .unset, .unset, .unset, .unset] []))) (fun _ k => castTop (ef_rmofE2 m a1) k) ?_
 refine own_stat (W := 0) X0 hx hZ hown e0 (hw _ (List.mem_of_getElem? (i := 34) rfl)) (hw _ (List.mem_of_getElem? (i := 35) rfl)) (rmvs l Z a0 hw [] vv kvv ev2 ev3 h0 n0 Z0 O0 S__VALUES EZ_vv VZ_vv) (hw _ (List.mem_of_getElem? (i := 36) rfl)) (hw _ (List.mem_of_getElem? (i := 32) rfl)) rfl (by rw [hml]; rfl) rfl (hb hby d6_0) (lenOf pd____Lcom_example_keyclasp_keyclasp_protocol_ProtocolVersion_ rfl) rfl (by decide) (fun T1 v1 Ll1 X1 hQ1 => ?_)
 obtain ⟨b_1, rfl, N1q, K1, P1_0, P1_1⟩ := hQ1
 have N1 := Fr.app N0 N1q
 have Zs2 : n0 ≤ T1.heap.size := Nat.le_trans Z0 K1.1
 refine own_go (b := (T1.setTop (mkF m 5 #[.val (.ref a1), .val (.ref b_1), .unset, .unset, .unset] [(.ref b_1)]))) (fun _ k => XS.astoreN X1.here hx rfl (hb hby d6_3) rfl rfl (l' := #[.val (.ref a1), .val (.ref b_1), .unset, .unset, .unset]) rfl (XS.aloadN X1.here hx rfl (hb hby d6_4) rfl rfl k)) ?_
 obtain ⟨cl3, Ar3, -, Sz3, Nn3, -, -⟩ := id P1_1
 refine own_go (b := (T1.setTop (mkF m 16 #[.val (.ref a1), .val (.ref b_1), .val (.int (2 : Int32)), .val (.int (0 : Int32)), .unset] [(.int (0 : Int32)), (.ref b_1)]))) (fun _ k => X1.arraylength hx Ar3.1 (State.isArrayOf_alike hZ.alike Ar3.2.1) (g := (mkF m 5 #[.val (.ref a1), .val (.ref b_1), .unset, .unset, .unset] [(.ref b_1)])) rfl rfl (hb hby d6_5) _ (by rw [len_of Sz3 Nn3]; exact (XS.istoreN X1.here hx rfl (hb hby d6_6) rfl (l' := #[.val (.ref a1), .val (.ref b_1), .val (.int (2 : Int32)), .unset, .unset]) rfl (XS.iconst X1.here hx rfl (hb hby d6_7) (XS.istoreN X1.here hx rfl (hb hby d6_8) rfl (l' := #[.val (.ref a1), .val (.ref b_1), .val (.int (2 : Int32)), .val (.int (0 : Int32)), .unset]) rfl (XS.iloadN X1.here hx rfl (hb hby d6_9) rfl (XS.iloadN X1.here hx rfl (hb hby d6_10) rfl (XS.icmpNo X1.here hx rfl (hb hby d6_11) rfl (tlt (by decide : (0 : Int32) < (2 : Int32))).2.1 (XS.aloadN X1.here hx rfl (hb hby d6_14) rfl rfl (XS.iloadN X1.here hx rfl (hb hby d6_15) rfl k)))))))))) ?_
 obtain ⟨cl4, Ar4, ql4, Sz4, Nn4, Hl4, Gl4⟩ := id P1_1
 have hin4 : ¬ ((0 : Int32) < 0 ∨ cl4.slots.size ≤ ((0 : Int32)).toNatClampNeg) := inb_of Sz4 ⟨by decide, by decide⟩
 refine own_go (b := (T1.setTop (mkF m 21 #[.val (.ref a1), .val (.ref b_1), .val (.int (2 : Int32)), .val (.int (0 : Int32)), .val (.ref ev2)] [(.ref ev2)]))) (fun _ k => X1.aaload hx (j := (0 : Int32)) (v := (.ref ev2)) Ar4.1 (State.isArrayOf_alike hZ.alike Ar4.2.1) rfl Ar4.2.2 hin4 (Hl4.at hin4 rfl) (g := (mkF m 16 #[.val (.ref a1), .val (.ref b_1), .val (.int (2 : Int32)), .val (.int (0 : Int32)), .unset] [(.int (0 : Int32)), (.ref b_1)])) rfl rfl (hb hby d6_16) _ (XS.astore X1.here hx rfl (hb hby d6_17) rfl rfl (l' := #[.val (.ref a1), .val (.ref b_1), .val (.int (2 : Int32)), .val (.int (0 : Int32)), .val (.ref ev2)]) rfl (XS.aload X1.here hx rfl (hb hby d6_19) rfl rfl k))) ?_
 have O5 := O0.keep K1 all0
 refine own_getf X1 hx hZ hown (hw _ (List.mem_of_getElem? (i := 51) rfl)) Via.refl rfl (Fld0_ev2_text.ext O5.2) rfl rfl (hb hby d6_21) (fun T6 X6 e6 => ?_)
 refine own_go (b := (T6.setTop (mkF m 25 #[.val (.ref a1), .val (.ref b_1), .val (.int (2 : Int32)), .val (.int (0 : Int32)), .val (.ref ev2)] [(.ref a1), (.ref t2)]))) (fun _ k => XS.aloadN X6.here hx rfl (hb hby d6_24) rfl rfl k) ?_
 have nx8 : t2 ≠ a1 := (Old.ne O5 EZ_t2.lt g_a1)
 have F9 := E_a1.keep K1
 have F10 := Fld_a1_coder.keep K1 nin0
 have F11 := Fld_a1_value.keep K1 nin0
 have F12 := V_bs.keep K1 nin0
 refine own_virt (W := 0) X6 hx hZ hown e6 (hw _ (List.mem_of_getElem? (i := 53) rfl)) (hw _ (List.mem_of_getElem? (i := 54) rfl)) (hw _ (List.mem_of_getElem? (i := 56) rfl)) (hw _ (List.mem_of_getElem? (i := 55) rfl)) (rmseE2 l Z a0 hw [] t2 a1 u2 bs ku2 kbs (51 : Int32) (46 : Int32) (50 : Int32) x0 x1 x2 cs T1.heap n0 Zs2 O5 S_COMPACT_STRINGS hcs nx8 F9 (Fld0_t2_coder.ext O5.2) (Fld0_t2_value.ext O5.2) F10 F11 (VZ_u2.ext O5.2) F12 hp0 hp1) (hw _ (List.mem_of_getElem? (i := 57) rfl)) (hw _ (List.mem_of_getElem? (i := 10) rfl)) (EZ_t2.ext O5.2) rfl (by rw [hml]; rfl) rfl (hb hby d6_25) (lenOf pd__Ljava_lang_Object__Z rfl) rfl (by decide) (fun T7 v7 Ll7 X7 hQ7 => ?_)
 obtain ⟨rfl, N7q, eh7⟩ := hQ7
 have N7 := Fr.app N1 N7q
 refine own_go (b := (T7.setTop (mkF m 16 #[.val (.ref a1), .val (.ref b_1), .val (.int (2 : Int32)), .val (.int (1 : Int32)), .val (.ref ev2)] [(.int (1 : Int32)), (.ref b_1)]))) (fun _ k => XS.ifYes X7.here hx rfl (pc0 := 28) (pc' := 37) rfl (hb hby d6_28) rfl ((if0 _ _).trans (teq (rfl : (0 : Int32) = (0 : Int32))).1) (by decide) (by decide) (XS.iinc X7.here hx rfl (hb hby d6_37) rfl (l' := #[.val (.ref a1), .val (.ref b_1), .val (.int (2 : Int32)), .val (.int (1 : Int32)), .val (.ref ev2)]) rfl (XS.goto X7.here hx rfl (pc0 := 40) (pc' := 9) rfl (hb hby d6_40) (by decide) (by decide) (XS.iloadN X7.here hx rfl (hb hby d6_9) rfl (XS.iloadN X7.here hx rfl (hb hby d6_10) rfl (XS.icmpNo X7.here hx rfl (hb hby d6_11) rfl (tlt (by decide : (1 : Int32) < (2 : Int32))).2.1 (XS.aloadN X7.here hx rfl (hb hby d6_14) rfl rfl (XS.iloadN X7.here hx rfl (hb hby d6_15) rfl k)))))))) ?_
 obtain ⟨cl13, Ar13, ql13, Sz13, Nn13, Hl13, Gl13⟩ := id P1_1
 have hin13 : ¬ ((1 : Int32) < 0 ∨ cl13.slots.size ≤ ((1 : Int32)).toNatClampNeg) := inb_of Sz13 ⟨by decide, by decide⟩
 refine own_go (b := (T7.setTop (mkF m 21 #[.val (.ref a1), .val (.ref b_1), .val (.int (2 : Int32)), .val (.int (1 : Int32)), .val (.ref ev3)] [(.ref ev3)]))) (fun _ k => X7.aaload hx (j := (1 : Int32)) (v := (.ref ev3)) (by rw [eh7]; exact Ar13.1) (State.isArrayOf_alike hZ.alike Ar13.2.1) rfl Ar13.2.2 hin13 (Hl13.at hin13 rfl) (g := (mkF m 16 #[.val (.ref a1), .val (.ref b_1), .val (.int (2 : Int32)), .val (.int (1 : Int32)), .val (.ref ev2)] [(.int (1 : Int32)), (.ref b_1)])) rfl rfl (hb hby d6_16) _ (XS.astore X7.here hx rfl (hb hby d6_17) rfl rfl (l' := #[.val (.ref a1), .val (.ref b_1), .val (.int (2 : Int32)), .val (.int (1 : Int32)), .val (.ref ev3)]) rfl (XS.aload X7.here hx rfl (hb hby d6_19) rfl rfl k))) ?_
 refine own_getf X7 hx hZ hown (hw _ (List.mem_of_getElem? (i := 51) rfl)) Via.refl eh7 (Fld0_ev3_text.ext O5.2) rfl rfl (hb hby d6_21) (fun T14 X14 e14 => ?_)
 refine own_go (b := (T14.setTop (mkF m 25 #[.val (.ref a1), .val (.ref b_1), .val (.int (2 : Int32)), .val (.int (1 : Int32)), .val (.ref ev3)] [(.ref a1), (.ref t3)]))) (fun _ k => XS.aloadN X14.here hx rfl (hb hby d6_24) rfl rfl k) ?_
 have nx16 : t3 ≠ a1 := (Old.ne O5 EZ_t3.lt g_a1)
 refine own_virt (W := 0) X14 hx hZ hown e14 (hw _ (List.mem_of_getElem? (i := 53) rfl)) (hw _ (List.mem_of_getElem? (i := 54) rfl)) (hw _ (List.mem_of_getElem? (i := 56) rfl)) (hw _ (List.mem_of_getElem? (i := 55) rfl)) (rmseE2 l Z a0 hw [] t3 a1 u3 bs ku3 kbs (51 : Int32) (46 : Int32) (51 : Int32) x0 x1 x2 cs T1.heap n0 Zs2 O5 S_COMPACT_STRINGS hcs nx16 F9 (Fld0_t3_coder.ext O5.2) (Fld0_t3_value.ext O5.2) F10 F11 (VZ_u3.ext O5.2) F12 hp0 hp1) (hw _ (List.mem_of_getElem? (i := 57) rfl)) (hw _ (List.mem_of_getElem? (i := 10) rfl)) (EZ_t3.ext O5.2) rfl (by rw [hml]; rfl) rfl (hb hby d6_25) (lenOf pd__Ljava_lang_Object__Z rfl) rfl (by decide) (fun T15 v15 Ll15 X15 hQ15 => ?_)
 obtain ⟨rfl, N15q, eh15⟩ := hQ15
 have N15 := Fr.app N7 N15q
 refine own_go (b := (T15.setTop (mkF m 43 #[.val (.ref a1), .val (.ref b_1), .val (.int (2 : Int32)), .val (.int (2 : Int32)), .val (.ref ev3)] []))) (fun _ k => XS.ifYes X15.here hx rfl (pc0 := 28) (pc' := 37) rfl (hb hby d6_28) rfl ((if0 _ _).trans (teq (rfl : (0 : Int32) = (0 : Int32))).1) (by decide) (by decide) (XS.iinc X15.here hx rfl (hb hby d6_37) rfl (l' := #[.val (.ref a1), .val (.ref b_1), .val (.int (2 : Int32)), .val (.int (2 : Int32)), .val (.ref ev3)]) rfl (XS.goto X15.here hx rfl (pc0 := 40) (pc' := 9) rfl (hb hby d6_40) (by decide) (by decide) (XS.iloadN X15.here hx rfl (hb hby d6_9) rfl (XS.iloadN X15.here hx rfl (hb hby d6_10) rfl (XS.icmpYes X15.here hx rfl (pc0 := 11) (pc' := 43) rfl (hb hby d6_11) rfl (flt (by decide : ¬ ((2 : Int32) < (2 : Int32)))).2.1 (by decide) (by decide) k)))))) ?_
 refine own_stat (W := 0) X15 hx hZ hown eh15 (hw _ (List.mem_of_getElem? (i := 64) rfl)) (hw _ (List.mem_of_getElem? (i := 65) rfl)) (rmoe l Z a0 hw [] oe T1.heap n0 Zs2 O5 S_EMPTY) (hw _ (List.mem_of_getElem? (i := 67) rfl)) (hw _ (List.mem_of_getElem? (i := 66) rfl)) rfl (by rw [hml]; rfl) rfl (hb hby d6_43) (lenOf pd___Ljava_util_Optional_ rfl) rfl (by decide) (fun T17 v17 Ll17 X17 hQ17 => ?_)
 obtain ⟨rfl, N17q, eh17⟩ := hQ17
 have N17 := Fr.app N15 N17q
 have K18 := (Keep.refl h0 []).trans K1 all0
 obtain ⟨fs, hr, hrun, hended, hW, hsame⟩ := X17.leave (v := some (.ref oe)) (fun h => by rw [Bd.returns] at h; cases h)
 exact ⟨_, _, retOut X17 hx Bd.returns rfl (Or.inr (Or.inr (Or.inr (Or.inr ⟨rfl, rfl, rfl⟩)))) (hb hby d6_46) hr, hrun, hended, _, _, rfl, (show QrmofE2 Z a1 bs kbs x0 x1 x2 cs vv kvv ev2 ev3 t2 u2 ku2 t3 u3 ku3 oe h0 n0 _ T17.heap _ from (by rw [eh17]; exact ⟨rfl, N17, K18⟩)), ⟨_, rfl⟩, hW, hsame.mono (by decide) (by decide)⟩
theorem ef_rmofE3 (m : MethodId) (x0 : Addr) : entryFrame m #[(.ref x0)] 5 = mkF m 0 #[.val (.ref x0), .unset, .unset, .unset, .unset] [] := by first | (simp [entryFrame, mkF, argsToLocals, Value.category]; done) | rfl
def QrmofE3 (Z : State) (a1 : Addr) (bs : Addr) (kbs : ClassId) (x0 : Int32) (x1 : Int32) (x2 : Int32) (cs : Int32) (vv : Addr) (kvv : ClassId) (ev2 : Addr) (ev3 : Addr) (t2 : Addr) (u2 : Addr) (ku2 : ClassId) (t3 : Addr) (u3 : Addr) (ku3 : ClassId) (oe : Addr) (h0 : Heap) (n0 : Nat) (v : Option Value) (h : Heap) (L : List Loc) : Prop := v = some (.ref oe) ∧ Fr n0 L ∧ Keep h0 h []
set_option maxRecDepth 65536 in
set_option maxHeartbeats 40000000 in
theorem rmofE3 (l : Launch) (Z : State) (a0 : Array Value) (hw : ∀ d ∈ tables_1, d.before a0 Z = true) (ws : List Jvm.Cond) (a1 : Addr) (bs : Addr) (kbs : ClassId) (x0 : Int32) (x1 : Int32) (x2 : Int32) (cs : Int32) (vv : Addr) (kvv : ClassId) (ev2 : Addr) (ev3 : Addr) (t2 : Addr) (u2 : Addr) (ku2 : ClassId) (t3 : Addr) (u3 : Addr) (ku3 : ClassId) (oe : Addr) (h0 : Heap) (n0 : Nat) (Z0 : n0 ≤ h0.size) (O0 : Old Z n0 h0) (S_COMPACT_STRINGS : Sta Z Z.heap "java/lang/String" "COMPACT_STRINGS" "Z" (.int cs)) (hcs : ¬ (cs = (0 : Int32))) (S__VALUES : Sta Z Z.heap "com/example/keyclasp/keyclasp/protocol/ProtocolVersion" "$VALUES" "[Lcom/example/keyclasp/keyclasp/protocol/ProtocolVersion;" (.ref vv)) (EZ_vv : Exa Z Z.heap vv "[Lcom/example/keyclasp/keyclasp/protocol/ProtocolVersion;") (VZ_vv : Arv Z Z.heap vv kvv (.object "com/example/keyclasp/keyclasp/protocol/ProtocolVersion") (2 : Int32) [(.ref ev2), (.ref ev3)] .null) (EZ_ev2 : Exa Z Z.heap ev2 "com/example/keyclasp/keyclasp/protocol/ProtocolVersion") (Fld0_ev2_text : Fld Z Z.heap ev2 "com/example/keyclasp/keyclasp/protocol/ProtocolVersion" "text" "Ljava/lang/String;" (.ref t2)) (EZ_t2 : Exa Z Z.heap t2 "java/lang/String") (Fld0_t2_coder : Fld Z Z.heap t2 "java/lang/String" "coder" "B" (.int (0 : Int32))) (Fld0_t2_value : Fld Z Z.heap t2 "java/lang/String" "value" "[B" (.ref u2)) (VZ_u2 : Arv Z Z.heap u2 ku2 .byte (3 : Int32) [(.int (51 : Int32)), (.int (46 : Int32)), (.int (50 : Int32))] (.int (0 : Int32))) (EZ_ev3 : Exa Z Z.heap ev3 "com/example/keyclasp/keyclasp/protocol/ProtocolVersion") (Fld0_ev3_text : Fld Z Z.heap ev3 "com/example/keyclasp/keyclasp/protocol/ProtocolVersion" "text" "Ljava/lang/String;" (.ref t3)) (EZ_t3 : Exa Z Z.heap t3 "java/lang/String") (Fld0_t3_coder : Fld Z Z.heap t3 "java/lang/String" "coder" "B" (.int (0 : Int32))) (Fld0_t3_value : Fld Z Z.heap t3 "java/lang/String" "value" "[B" (.ref u3)) (VZ_u3 : Arv Z Z.heap u3 ku3 .byte (3 : Int32) [(.int (51 : Int32)), (.int (46 : Int32)), (.int (51 : Int32))] (.int (0 : Int32))) (S_EMPTY : Sta Z Z.heap "java/util/Optional" "EMPTY" "Ljava/util/Optional;" (.ref oe)) (g_a1 : n0 ≤ a1) (E_a1 : Exa Z h0 a1 "java/lang/String") (Fld_a1_coder : Fld Z h0 a1 "java/lang/String" "coder" "B" (.int (0 : Int32))) (Fld_a1_value : Fld Z h0 a1 "java/lang/String" "value" "[B" (.ref bs)) (V_bs : Arv Z h0 bs kbs .byte (3 : Int32) [(.int x0), (.int x1), (.int x2)] (.int (0 : Int32))) (hp0 : (51 : Int32) = x0) (hp1 : (46 : Int32) = x1) (hp2 : ¬ ((50 : Int32) = x2)) (hp3 : ¬ ((51 : Int32) = x2)) :
    MetFree l (⟨"com/example/keyclasp/keyclasp/protocol/ProtocolVersion", "of", "(Ljava/lang/String;)Ljava/util/Optional;"⟩ : MethodName) (head1 (Jvm.Cond.code (⟨"com/example/keyclasp/keyclasp/protocol/ProtocolVersion", "of", "(Ljava/lang/String;)Ljava/util/Optional;"⟩ : MethodName) prog_22_method_4_code 5 (some (.object "java/util/Optional")) :: ws) ({ frames := 2, cells := 1, slots := 2, locals := 28 } : Room)) (fun a U => a = #[(.ref a1)] ∧ Z.Warmed39 U.vm ∧ U.heap = h0) (fun _ _ _ _ _ => True) (fun _ U o U' => ∃ v L, o = .returned v ∧ QrmofE3 Z a1 bs kbs x0 x1 x2 cs vv kvv ev2 ev3 t2 u2 ku2 t3 u3 ku3 oe h0 n0 v U'.heap L ∧ FrameEnd U o U' L ({ frames := 2, cells := 1, slots := 2, locals := 28 } : Room).cells ({ frames := 2, cells := 1, slots := 2, locals := 28 } : Room).slots) := by
 refine MetFree.of_bodySF (plainFor_of_name pn_6) hisR ?_
 intro p e s m args below meth c s₁ Bd hml0 hP hK
 obtain ⟨rfl, hZ, hh⟩ := hP
 have hx := Bd.exec
 have hby := Bd.bytes
 have hml : c.maxLocals = 5 := hml0
 have hown : s.vm.findClass "com/example/keyclasp/keyclasp/protocol/ProtocolVersion" = some m.cls := findClass_of_methodNamed Bd.named
 have hnm := (name_of_methodNamed Bd.named Bd.method).1
 have X0 : Stand p l e ({ frames := 2, cells := 1, slots := 2, locals := 28 } : Room) s m #[(.ref a1)] below meth c s₁ [] 0 0 := Stand.of_body Bd
 have e0 : s₁.heap = h0 := by rw [← hh, Bd.state]; rfl
 have N0 := Fr.nil n0
 refine own_go (b := (s₁.setTop (mkF m 0 #[.val (.ref a1), .unset, .unset, .unset, .unset] []))) (fun _ k => castTop (ef_rmofE3 m a1) k) ?_
 refine own_stat (W := 0) X0 hx hZ hown e0 (hw _ (List.mem_of_getElem? (i := 34) rfl)) (hw _ (List.mem_of_getElem? (i := 35) rfl)) (rmvs l Z a0 hw [] vv kvv ev2 ev3 h0 n0 Z0 O0 S__VALUES EZ_vv VZ_vv) (hw _ (List.mem_of_getElem? (i := 36) rfl)) (hw _ (List.mem_of_getElem? (i := 32) rfl)) rfl (by rw [hml]; rfl) rfl (hb hby d6_0) (lenOf pd____Lcom_example_keyclasp_keyclasp_protocol_ProtocolVersion_ rfl) rfl (by decide) (fun T1 v1 Ll1 X1 hQ1 => ?_)
 obtain ⟨b_1, rfl, N1q, K1, P1_0, P1_1⟩ := hQ1
 have N1 := Fr.app N0 N1q
 have Zs2 : n0 ≤ T1.heap.size := Nat.le_trans Z0 K1.1
 refine own_go (b := (T1.setTop (mkF m 5 #[.val (.ref a1), .val (.ref b_1), .unset, .unset, .unset] [(.ref b_1)]))) (fun _ k => XS.astoreN X1.here hx rfl (hb hby d6_3) rfl rfl (l' := #[.val (.ref a1), .val (.ref b_1), .unset, .unset, .unset]) rfl (XS.aloadN X1.here hx rfl (hb hby d6_4) rfl rfl k)) ?_
 obtain ⟨cl3, Ar3, -, Sz3, Nn3, -, -⟩ := id P1_1
 refine own_go (b := (T1.setTop (mkF m 16 #[.val (.ref a1), .val (.ref b_1), .val (.int (2 : Int32)), .val (.int (0 : Int32)), .unset] [(.int (0 : Int32)), (.ref b_1)]))) (fun _ k => X1.arraylength hx Ar3.1 (State.isArrayOf_alike hZ.alike Ar3.2.1) (g := (mkF m 5 #[.val (.ref a1), .val (.ref b_1), .unset, .unset, .unset] [(.ref b_1)])) rfl rfl (hb hby d6_5) _ (by rw [len_of Sz3 Nn3]; exact (XS.istoreN X1.here hx rfl (hb hby d6_6) rfl (l' := #[.val (.ref a1), .val (.ref b_1), .val (.int (2 : Int32)), .unset, .unset]) rfl (XS.iconst X1.here hx rfl (hb hby d6_7) (XS.istoreN X1.here hx rfl (hb hby d6_8) rfl (l' := #[.val (.ref a1), .val (.ref b_1), .val (.int (2 : Int32)), .val (.int (0 : Int32)), .unset]) rfl (XS.iloadN X1.here hx rfl (hb hby d6_9) rfl (XS.iloadN X1.here hx rfl (hb hby d6_10) rfl (XS.icmpNo X1.here hx rfl (hb hby d6_11) rfl (tlt (by decide : (0 : Int32) < (2 : Int32))).2.1 (XS.aloadN X1.here hx rfl (hb hby d6_14) rfl rfl (XS.iloadN X1.here hx rfl (hb hby d6_15) rfl k)))))))))) ?_
 obtain ⟨cl4, Ar4, ql4, Sz4, Nn4, Hl4, Gl4⟩ := id P1_1
 have hin4 : ¬ ((0 : Int32) < 0 ∨ cl4.slots.size ≤ ((0 : Int32)).toNatClampNeg) := inb_of Sz4 ⟨by decide, by decide⟩
 refine own_go (b := (T1.setTop (mkF m 21 #[.val (.ref a1), .val (.ref b_1), .val (.int (2 : Int32)), .val (.int (0 : Int32)), .val (.ref ev2)] [(.ref ev2)]))) (fun _ k => X1.aaload hx (j := (0 : Int32)) (v := (.ref ev2)) Ar4.1 (State.isArrayOf_alike hZ.alike Ar4.2.1) rfl Ar4.2.2 hin4 (Hl4.at hin4 rfl) (g := (mkF m 16 #[.val (.ref a1), .val (.ref b_1), .val (.int (2 : Int32)), .val (.int (0 : Int32)), .unset] [(.int (0 : Int32)), (.ref b_1)])) rfl rfl (hb hby d6_16) _ (XS.astore X1.here hx rfl (hb hby d6_17) rfl rfl (l' := #[.val (.ref a1), .val (.ref b_1), .val (.int (2 : Int32)), .val (.int (0 : Int32)), .val (.ref ev2)]) rfl (XS.aload X1.here hx rfl (hb hby d6_19) rfl rfl k))) ?_
 have O5 := O0.keep K1 all0
 refine own_getf X1 hx hZ hown (hw _ (List.mem_of_getElem? (i := 51) rfl)) Via.refl rfl (Fld0_ev2_text.ext O5.2) rfl rfl (hb hby d6_21) (fun T6 X6 e6 => ?_)
 refine own_go (b := (T6.setTop (mkF m 25 #[.val (.ref a1), .val (.ref b_1), .val (.int (2 : Int32)), .val (.int (0 : Int32)), .val (.ref ev2)] [(.ref a1), (.ref t2)]))) (fun _ k => XS.aloadN X6.here hx rfl (hb hby d6_24) rfl rfl k) ?_
 have nx8 : t2 ≠ a1 := (Old.ne O5 EZ_t2.lt g_a1)
 have F9 := E_a1.keep K1
 have F10 := Fld_a1_coder.keep K1 nin0
 have F11 := Fld_a1_value.keep K1 nin0
 have F12 := V_bs.keep K1 nin0
 refine own_virt (W := 0) X6 hx hZ hown e6 (hw _ (List.mem_of_getElem? (i := 53) rfl)) (hw _ (List.mem_of_getElem? (i := 54) rfl)) (hw _ (List.mem_of_getElem? (i := 56) rfl)) (hw _ (List.mem_of_getElem? (i := 55) rfl)) (rmseE3 l Z a0 hw [] t2 a1 u2 bs ku2 kbs (51 : Int32) (46 : Int32) (50 : Int32) x0 x1 x2 cs T1.heap n0 Zs2 O5 S_COMPACT_STRINGS hcs nx8 F9 (Fld0_t2_coder.ext O5.2) (Fld0_t2_value.ext O5.2) F10 F11 (VZ_u2.ext O5.2) F12 hp0 hp1 hp2) (hw _ (List.mem_of_getElem? (i := 57) rfl)) (hw _ (List.mem_of_getElem? (i := 10) rfl)) (EZ_t2.ext O5.2) rfl (by rw [hml]; rfl) rfl (hb hby d6_25) (lenOf pd__Ljava_lang_Object__Z rfl) rfl (by decide) (fun T7 v7 Ll7 X7 hQ7 => ?_)
 obtain ⟨rfl, N7q, eh7⟩ := hQ7
 have N7 := Fr.app N1 N7q
 refine own_go (b := (T7.setTop (mkF m 16 #[.val (.ref a1), .val (.ref b_1), .val (.int (2 : Int32)), .val (.int (1 : Int32)), .val (.ref ev2)] [(.int (1 : Int32)), (.ref b_1)]))) (fun _ k => XS.ifYes X7.here hx rfl (pc0 := 28) (pc' := 37) rfl (hb hby d6_28) rfl ((if0 _ _).trans (teq (rfl : (0 : Int32) = (0 : Int32))).1) (by decide) (by decide) (XS.iinc X7.here hx rfl (hb hby d6_37) rfl (l' := #[.val (.ref a1), .val (.ref b_1), .val (.int (2 : Int32)), .val (.int (1 : Int32)), .val (.ref ev2)]) rfl (XS.goto X7.here hx rfl (pc0 := 40) (pc' := 9) rfl (hb hby d6_40) (by decide) (by decide) (XS.iloadN X7.here hx rfl (hb hby d6_9) rfl (XS.iloadN X7.here hx rfl (hb hby d6_10) rfl (XS.icmpNo X7.here hx rfl (hb hby d6_11) rfl (tlt (by decide : (1 : Int32) < (2 : Int32))).2.1 (XS.aloadN X7.here hx rfl (hb hby d6_14) rfl rfl (XS.iloadN X7.here hx rfl (hb hby d6_15) rfl k)))))))) ?_
 obtain ⟨cl13, Ar13, ql13, Sz13, Nn13, Hl13, Gl13⟩ := id P1_1
 have hin13 : ¬ ((1 : Int32) < 0 ∨ cl13.slots.size ≤ ((1 : Int32)).toNatClampNeg) := inb_of Sz13 ⟨by decide, by decide⟩
 refine own_go (b := (T7.setTop (mkF m 21 #[.val (.ref a1), .val (.ref b_1), .val (.int (2 : Int32)), .val (.int (1 : Int32)), .val (.ref ev3)] [(.ref ev3)]))) (fun _ k => X7.aaload hx (j := (1 : Int32)) (v := (.ref ev3)) (by rw [eh7]; exact Ar13.1) (State.isArrayOf_alike hZ.alike Ar13.2.1) rfl Ar13.2.2 hin13 (Hl13.at hin13 rfl) (g := (mkF m 16 #[.val (.ref a1), .val (.ref b_1), .val (.int (2 : Int32)), .val (.int (1 : Int32)), .val (.ref ev2)] [(.int (1 : Int32)), (.ref b_1)])) rfl rfl (hb hby d6_16) _ (XS.astore X7.here hx rfl (hb hby d6_17) rfl rfl (l' := #[.val (.ref a1), .val (.ref b_1), .val (.int (2 : Int32)), .val (.int (1 : Int32)), .val (.ref ev3)]) rfl (XS.aload X7.here hx rfl (hb hby d6_19) rfl rfl k))) ?_
 refine own_getf X7 hx hZ hown (hw _ (List.mem_of_getElem? (i := 51) rfl)) Via.refl eh7 (Fld0_ev3_text.ext O5.2) rfl rfl (hb hby d6_21) (fun T14 X14 e14 => ?_)
 refine own_go (b := (T14.setTop (mkF m 25 #[.val (.ref a1), .val (.ref b_1), .val (.int (2 : Int32)), .val (.int (1 : Int32)), .val (.ref ev3)] [(.ref a1), (.ref t3)]))) (fun _ k => XS.aloadN X14.here hx rfl (hb hby d6_24) rfl rfl k) ?_
 have nx16 : t3 ≠ a1 := (Old.ne O5 EZ_t3.lt g_a1)
 refine own_virt (W := 0) X14 hx hZ hown e14 (hw _ (List.mem_of_getElem? (i := 53) rfl)) (hw _ (List.mem_of_getElem? (i := 54) rfl)) (hw _ (List.mem_of_getElem? (i := 56) rfl)) (hw _ (List.mem_of_getElem? (i := 55) rfl)) (rmseE3 l Z a0 hw [] t3 a1 u3 bs ku3 kbs (51 : Int32) (46 : Int32) (51 : Int32) x0 x1 x2 cs T1.heap n0 Zs2 O5 S_COMPACT_STRINGS hcs nx16 F9 (Fld0_t3_coder.ext O5.2) (Fld0_t3_value.ext O5.2) F10 F11 (VZ_u3.ext O5.2) F12 hp0 hp1 hp3) (hw _ (List.mem_of_getElem? (i := 57) rfl)) (hw _ (List.mem_of_getElem? (i := 10) rfl)) (EZ_t3.ext O5.2) rfl (by rw [hml]; rfl) rfl (hb hby d6_25) (lenOf pd__Ljava_lang_Object__Z rfl) rfl (by decide) (fun T15 v15 Ll15 X15 hQ15 => ?_)
 obtain ⟨rfl, N15q, eh15⟩ := hQ15
 have N15 := Fr.app N7 N15q
 refine own_go (b := (T15.setTop (mkF m 43 #[.val (.ref a1), .val (.ref b_1), .val (.int (2 : Int32)), .val (.int (2 : Int32)), .val (.ref ev3)] []))) (fun _ k => XS.ifYes X15.here hx rfl (pc0 := 28) (pc' := 37) rfl (hb hby d6_28) rfl ((if0 _ _).trans (teq (rfl : (0 : Int32) = (0 : Int32))).1) (by decide) (by decide) (XS.iinc X15.here hx rfl (hb hby d6_37) rfl (l' := #[.val (.ref a1), .val (.ref b_1), .val (.int (2 : Int32)), .val (.int (2 : Int32)), .val (.ref ev3)]) rfl (XS.goto X15.here hx rfl (pc0 := 40) (pc' := 9) rfl (hb hby d6_40) (by decide) (by decide) (XS.iloadN X15.here hx rfl (hb hby d6_9) rfl (XS.iloadN X15.here hx rfl (hb hby d6_10) rfl (XS.icmpYes X15.here hx rfl (pc0 := 11) (pc' := 43) rfl (hb hby d6_11) rfl (flt (by decide : ¬ ((2 : Int32) < (2 : Int32)))).2.1 (by decide) (by decide) k)))))) ?_
 refine own_stat (W := 0) X15 hx hZ hown eh15 (hw _ (List.mem_of_getElem? (i := 64) rfl)) (hw _ (List.mem_of_getElem? (i := 65) rfl)) (rmoe l Z a0 hw [] oe T1.heap n0 Zs2 O5 S_EMPTY) (hw _ (List.mem_of_getElem? (i := 67) rfl)) (hw _ (List.mem_of_getElem? (i := 66) rfl)) rfl (by rw [hml]; rfl) rfl (hb hby d6_43) (lenOf pd___Ljava_util_Optional_ rfl) rfl (by decide) (fun T17 v17 Ll17 X17 hQ17 => ?_)
 obtain ⟨rfl, N17q, eh17⟩ := hQ17
 have N17 := Fr.app N15 N17q
 have K18 := (Keep.refl h0 []).trans K1 all0
 obtain ⟨fs, hr, hrun, hended, hW, hsame⟩ := X17.leave (v := some (.ref oe)) (fun h => by rw [Bd.returns] at h; cases h)
 exact ⟨_, _, retOut X17 hx Bd.returns rfl (Or.inr (Or.inr (Or.inr (Or.inr ⟨rfl, rfl, rfl⟩)))) (hb hby d6_46) hr, hrun, hended, _, _, rfl, (show QrmofE3 Z a1 bs kbs x0 x1 x2 cs vv kvv ev2 ev3 t2 u2 ku2 t3 u3 ku3 oe h0 n0 _ T17.heap _ from (by rw [eh17]; exact ⟨rfl, N17, K18⟩)), ⟨_, rfl⟩, hW, hsame.mono (by decide) (by decide)⟩
theorem pd__Ljava_lang_Object__Ljava_util_Optional_ : parseMethodDescriptor "(Ljava/lang/Object;)Ljava/util/Optional;" = some ⟨[(.object "java/lang/Object")], some (.object "java/util/Optional")⟩ := by decide +kernel
theorem ef_rmofA (m : MethodId) (x0 : Addr) : entryFrame m #[(.ref x0)] 5 = mkF m 0 #[.val (.ref x0), .unset, .unset, .unset, .unset] [] := by first | (simp [entryFrame, mkF, argsToLocals, Value.category]; done) | rfl
def QrmofA (Z : State) (a1 : Addr) (bs : Addr) (kbs : ClassId) (x0 : Int32) (x1 : Int32) (x2 : Int32) (cs : Int32) (vv : Addr) (kvv : ClassId) (ev2 : Addr) (ev3 : Addr) (t2 : Addr) (u2 : Addr) (ku2 : ClassId) (t3 : Addr) (u3 : Addr) (ku3 : ClassId) (oe : Addr) (h0 : Heap) (n0 : Nat) (v : Option Value) (h : Heap) (L : List Loc) : Prop := ∃ (o : Addr), v = some (.ref o) ∧ Fr n0 L ∧ Keep h0 h [] ∧ (h0.size ≤ o) ∧ (Exa Z h o "java/util/Optional") ∧ (Fld Z h o "java/util/Optional" "value" "Ljava/lang/Object;" (.ref ev2))
set_option maxRecDepth 65536 in
set_option maxHeartbeats 40000000 in
theorem rmofA (l : Launch) (Z : State) (a0 : Array Value) (hw : ∀ d ∈ tables_1, d.before a0 Z = true) (ws : List Jvm.Cond) (a1 : Addr) (bs : Addr) (kbs : ClassId) (x0 : Int32) (x1 : Int32) (x2 : Int32) (cs : Int32) (vv : Addr) (kvv : ClassId) (ev2 : Addr) (ev3 : Addr) (t2 : Addr) (u2 : Addr) (ku2 : ClassId) (t3 : Addr) (u3 : Addr) (ku3 : ClassId) (oe : Addr) (h0 : Heap) (n0 : Nat) (Z0 : n0 ≤ h0.size) (O0 : Old Z n0 h0) (S_COMPACT_STRINGS : Sta Z Z.heap "java/lang/String" "COMPACT_STRINGS" "Z" (.int cs)) (hcs : ¬ (cs = (0 : Int32))) (S__VALUES : Sta Z Z.heap "com/example/keyclasp/keyclasp/protocol/ProtocolVersion" "$VALUES" "[Lcom/example/keyclasp/keyclasp/protocol/ProtocolVersion;" (.ref vv)) (EZ_vv : Exa Z Z.heap vv "[Lcom/example/keyclasp/keyclasp/protocol/ProtocolVersion;") (VZ_vv : Arv Z Z.heap vv kvv (.object "com/example/keyclasp/keyclasp/protocol/ProtocolVersion") (2 : Int32) [(.ref ev2), (.ref ev3)] .null) (EZ_ev2 : Exa Z Z.heap ev2 "com/example/keyclasp/keyclasp/protocol/ProtocolVersion") (Fld0_ev2_text : Fld Z Z.heap ev2 "com/example/keyclasp/keyclasp/protocol/ProtocolVersion" "text" "Ljava/lang/String;" (.ref t2)) (EZ_t2 : Exa Z Z.heap t2 "java/lang/String") (Fld0_t2_coder : Fld Z Z.heap t2 "java/lang/String" "coder" "B" (.int (0 : Int32))) (Fld0_t2_value : Fld Z Z.heap t2 "java/lang/String" "value" "[B" (.ref u2)) (VZ_u2 : Arv Z Z.heap u2 ku2 .byte (3 : Int32) [(.int (51 : Int32)), (.int (46 : Int32)), (.int (50 : Int32))] (.int (0 : Int32))) (EZ_ev3 : Exa Z Z.heap ev3 "com/example/keyclasp/keyclasp/protocol/ProtocolVersion") (Fld0_ev3_text : Fld Z Z.heap ev3 "com/example/keyclasp/keyclasp/protocol/ProtocolVersion" "text" "Ljava/lang/String;" (.ref t3)) (EZ_t3 : Exa Z Z.heap t3 "java/lang/String") (Fld0_t3_coder : Fld Z Z.heap t3 "java/lang/String" "coder" "B" (.int (0 : Int32))) (Fld0_t3_value : Fld Z Z.heap t3 "java/lang/String" "value" "[B" (.ref u3)) (VZ_u3 : Arv Z Z.heap u3 ku3 .byte (3 : Int32) [(.int (51 : Int32)), (.int (46 : Int32)), (.int (51 : Int32))] (.int (0 : Int32))) (S_EMPTY : Sta Z Z.heap "java/util/Optional" "EMPTY" "Ljava/util/Optional;" (.ref oe)) (g_a1 : n0 ≤ a1) (E_a1 : Exa Z h0 a1 "java/lang/String") (Fld_a1_coder : Fld Z h0 a1 "java/lang/String" "coder" "B" (.int (0 : Int32))) (Fld_a1_value : Fld Z h0 a1 "java/lang/String" "value" "[B" (.ref bs)) (V_bs : Arv Z h0 bs kbs .byte (3 : Int32) [(.int x0), (.int x1), (.int x2)] (.int (0 : Int32))) (hp0 : (51 : Int32) = x0) (hp1 : (46 : Int32) = x1) (hp2 : (50 : Int32) = x2) :
    MetFree l (⟨"com/example/keyclasp/keyclasp/protocol/ProtocolVersion", "of", "(Ljava/lang/String;)Ljava/util/Optional;"⟩ : MethodName) (head1 (Jvm.Cond.code (⟨"com/example/keyclasp/keyclasp/protocol/ProtocolVersion", "of", "(Ljava/lang/String;)Ljava/util/Optional;"⟩ : MethodName) prog_22_method_4_code 5 (some (.object "java/util/Optional")) :: ws) ({ frames := 3, cells := 2, slots := 3, locals := 38 } : Room)) (fun a U => a = #[(.ref a1)] ∧ Z.Warmed39 U.vm ∧ U.heap = h0) (fun _ _ _ _ _ => True) (fun _ U o U' => ∃ v L, o = .returned v ∧ QrmofA Z a1 bs kbs x0 x1 x2 cs vv kvv ev2 ev3 t2 u2 ku2 t3 u3 ku3 oe h0 n0 v U'.heap L ∧ FrameEnd U o U' L ({ frames := 3, cells := 2, slots := 3, locals := 38 } : Room).cells ({ frames := 3, cells := 2, slots := 3, locals := 38 } : Room).slots) := by
 refine MetFree.of_bodySF (plainFor_of_name pn_6) hisR ?_
 intro p e s m args below meth c s₁ Bd hml0 hP hK
 obtain ⟨rfl, hZ, hh⟩ := hP
 have hx := Bd.exec
 have hby := Bd.bytes
 have hml : c.maxLocals = 5 := hml0
 have hown : s.vm.findClass "com/example/keyclasp/keyclasp/protocol/ProtocolVersion" = some m.cls := findClass_of_methodNamed Bd.named
 have hnm := (name_of_methodNamed Bd.named Bd.method).1
 have X0 : Stand p l e ({ frames := 3, cells := 2, slots := 3, locals := 38 } : Room) s m #[(.ref a1)] below meth c s₁ [] 0 0 := Stand.of_body Bd
 have e0 : s₁.heap = h0 := by rw [← hh, Bd.state]; rfl
 have N0 := Fr.nil n0
 refine own_go (b := (s₁.setTop (mkF m 0 #[.val (.ref a1), .unset, .unset, .unset, .unset] []))) (fun _ k => castTop (ef_rmofA m a1) k) ?_
 refine own_stat (W := 0) X0 hx hZ hown e0 (hw _ (List.mem_of_getElem? (i := 34) rfl)) (hw _ (List.mem_of_getElem? (i := 35) rfl)) (rmvs l Z a0 hw [] vv kvv ev2 ev3 h0 n0 Z0 O0 S__VALUES EZ_vv VZ_vv) (hw _ (List.mem_of_getElem? (i := 36) rfl)) (hw _ (List.mem_of_getElem? (i := 32) rfl)) rfl (by rw [hml]; rfl) rfl (hb hby d6_0) (lenOf pd____Lcom_example_keyclasp_keyclasp_protocol_ProtocolVersion_ rfl) rfl (by decide) (fun T1 v1 Ll1 X1 hQ1 => ?_)
 obtain ⟨b_1, rfl, N1q, K1, P1_0, P1_1⟩ := hQ1
 have N1 := Fr.app N0 N1q
 have Zs2 : n0 ≤ T1.heap.size := Nat.le_trans Z0 K1.1
 refine own_go (b := (T1.setTop (mkF m 5 #[.val (.ref a1), .val (.ref b_1), .unset, .unset, .unset] [(.ref b_1)]))) (fun _ k => XS.astoreN X1.here hx rfl (hb hby d6_3) rfl rfl (l' := #[.val (.ref a1), .val (.ref b_1), .unset, .unset, .unset]) rfl (XS.aloadN X1.here hx rfl (hb hby d6_4) rfl rfl k)) ?_
 obtain ⟨cl3, Ar3, -, Sz3, Nn3, -, -⟩ := id P1_1
 refine own_go (b := (T1.setTop (mkF m 16 #[.val (.ref a1), .val (.ref b_1), .val (.int (2 : Int32)), .val (.int (0 : Int32)), .unset] [(.int (0 : Int32)), (.ref b_1)]))) (fun _ k => X1.arraylength hx Ar3.1 (State.isArrayOf_alike hZ.alike Ar3.2.1) (g := (mkF m 5 #[.val (.ref a1), .val (.ref b_1), .unset, .unset, .unset] [(.ref b_1)])) rfl rfl (hb hby d6_5) _ (by rw [len_of Sz3 Nn3]; exact (XS.istoreN X1.here hx rfl (hb hby d6_6) rfl (l' := #[.val (.ref a1), .val (.ref b_1), .val (.int (2 : Int32)), .unset, .unset]) rfl (XS.iconst X1.here hx rfl (hb hby d6_7) (XS.istoreN X1.here hx rfl (hb hby d6_8) rfl (l' := #[.val (.ref a1), .val (.ref b_1), .val (.int (2 : Int32)), .val (.int (0 : Int32)), .unset]) rfl (XS.iloadN X1.here hx rfl (hb hby d6_9) rfl (XS.iloadN X1.here hx rfl (hb hby d6_10) rfl (XS.icmpNo X1.here hx rfl (hb hby d6_11) rfl (tlt (by decide : (0 : Int32) < (2 : Int32))).2.1 (XS.aloadN X1.here hx rfl (hb hby d6_14) rfl rfl (XS.iloadN X1.here hx rfl (hb hby d6_15) rfl k)))))))))) ?_
 obtain ⟨cl4, Ar4, ql4, Sz4, Nn4, Hl4, Gl4⟩ := id P1_1
 have hin4 : ¬ ((0 : Int32) < 0 ∨ cl4.slots.size ≤ ((0 : Int32)).toNatClampNeg) := inb_of Sz4 ⟨by decide, by decide⟩
 refine own_go (b := (T1.setTop (mkF m 21 #[.val (.ref a1), .val (.ref b_1), .val (.int (2 : Int32)), .val (.int (0 : Int32)), .val (.ref ev2)] [(.ref ev2)]))) (fun _ k => X1.aaload hx (j := (0 : Int32)) (v := (.ref ev2)) Ar4.1 (State.isArrayOf_alike hZ.alike Ar4.2.1) rfl Ar4.2.2 hin4 (Hl4.at hin4 rfl) (g := (mkF m 16 #[.val (.ref a1), .val (.ref b_1), .val (.int (2 : Int32)), .val (.int (0 : Int32)), .unset] [(.int (0 : Int32)), (.ref b_1)])) rfl rfl (hb hby d6_16) _ (XS.astore X1.here hx rfl (hb hby d6_17) rfl rfl (l' := #[.val (.ref a1), .val (.ref b_1), .val (.int (2 : Int32)), .val (.int (0 : Int32)), .val (.ref ev2)]) rfl (XS.aload X1.here hx rfl (hb hby d6_19) rfl rfl k))) ?_
 have O5 := O0.keep K1 all0
 refine own_getf X1 hx hZ hown (hw _ (List.mem_of_getElem? (i := 51) rfl)) Via.refl rfl (Fld0_ev2_text.ext O5.2) rfl rfl (hb hby d6_21) (fun T6 X6 e6 => ?_)
 refine own_go (b := (T6.setTop (mkF m 25 #[.val (.ref a1), .val (.ref b_1), .val (.int (2 : Int32)), .val (.int (0 : Int32)), .val (.ref ev2)] [(.ref a1), (.ref t2)]))) (fun _ k => XS.aloadN X6.here hx rfl (hb hby d6_24) rfl rfl k) ?_
 have nx8 : t2 ≠ a1 := (Old.ne O5 EZ_t2.lt g_a1)
 have F9 := E_a1.keep K1
 have F10 := Fld_a1_coder.keep K1 nin0
 have F11 := Fld_a1_value.keep K1 nin0
 have F12 := V_bs.keep K1 nin0
 refine own_virt (W := 0) X6 hx hZ hown e6 (hw _ (List.mem_of_getElem? (i := 53) rfl)) (hw _ (List.mem_of_getElem? (i := 54) rfl)) (hw _ (List.mem_of_getElem? (i := 56) rfl)) (hw _ (List.mem_of_getElem? (i := 55) rfl)) (rmseE4 l Z a0 hw [] t2 a1 u2 bs ku2 kbs (51 : Int32) (46 : Int32) (50 : Int32) x0 x1 x2 cs T1.heap n0 Zs2 O5 S_COMPACT_STRINGS hcs nx8 F9 (Fld0_t2_coder.ext O5.2) (Fld0_t2_value.ext O5.2) F10 F11 (VZ_u2.ext O5.2) F12 hp0 hp1 hp2) (hw _ (List.mem_of_getElem? (i := 57) rfl)) (hw _ (List.mem_of_getElem? (i := 10) rfl)) (EZ_t2.ext O5.2) rfl (by rw [hml]; rfl) rfl (hb hby d6_25) (lenOf pd__Ljava_lang_Object__Z rfl) rfl (by decide) (fun T7 v7 Ll7 X7 hQ7 => ?_)
 obtain ⟨rfl, N7q, eh7⟩ := hQ7
 have N7 := Fr.app N1 N7q
 refine own_go (b := (T7.setTop (mkF m 33 #[.val (.ref a1), .val (.ref b_1), .val (.int (2 : Int32)), .val (.int (0 : Int32)), .val (.ref ev2)] [(.ref ev2)]))) (fun _ k => XS.ifNo X7.here hx rfl (hb hby d6_28) rfl ((if0 _ _).trans (feq (by decide : ¬ ((1 : Int32) = (0 : Int32)))).1) (XS.aload X7.here hx rfl (hb hby d6_31) rfl rfl k)) ?_
 refine own_stat (W := 0) X7 hx hZ hown eh7 (hw _ (List.mem_of_getElem? (i := 86) rfl)) (hw _ (List.mem_of_getElem? (i := 87) rfl)) (rmoo l Z a0 hw [] ev2 T1.heap n0 Zs2) (hw _ (List.mem_of_getElem? (i := 88) rfl)) (hw _ (List.mem_of_getElem? (i := 66) rfl)) rfl (by rw [hml]; rfl) rfl (hb hby d6_33) (lenOf pd__Ljava_lang_Object__Ljava_util_Optional_ rfl) rfl (by decide) (fun T13 v13 Ll13 X13 hQ13 => ?_)
 obtain ⟨o_13, rfl, N13q, K13, P13_0, P13_1, P13_2⟩ := hQ13
 have N13 := Fr.app N7 N13q
 have Zs14 : n0 ≤ T13.heap.size := Nat.le_trans Zs2 K13.1
 have K15 := (Keep.refl h0 []).trans K1 all0
 have K16 := K15.trans K13 all0
 obtain ⟨fs, hr, hrun, hended, hW, hsame⟩ := X13.leave (v := some (.ref o_13)) (fun h => by rw [Bd.returns] at h; cases h)
 exact ⟨_, _, retOut X13 hx Bd.returns rfl (Or.inr (Or.inr (Or.inr (Or.inr ⟨rfl, rfl, rfl⟩)))) (hb hby d6_36) hr, hrun, hended, _, _, rfl, (show QrmofA Z a1 bs kbs x0 x1 x2 cs vv kvv ev2 ev3 t2 u2 ku2 t3 u3 ku3 oe h0 n0 _ T13.heap _ from (by exact ⟨o_13, rfl, N13, K16, (Nat.le_trans K1.1 P13_0), P13_1, P13_2⟩)), ⟨_, rfl⟩, hW, hsame.mono (by decide) (by decide)⟩
theorem ef_rmofB (m : MethodId) (x0 : Addr) : entryFrame m #[(.ref x0)] 5 = mkF m 0 #[.val (.ref x0), .unset, .unset, .unset, .unset] [] := by first | (simp [entryFrame, mkF, argsToLocals, Value.category]; done) | rfl
def QrmofB (Z : State) (a1 : Addr) (bs : Addr) (kbs : ClassId) (x0 : Int32) (x1 : Int32) (x2 : Int32) (cs : Int32) (vv : Addr) (kvv : ClassId) (ev2 : Addr) (ev3 : Addr) (t2 : Addr) (u2 : Addr) (ku2 : ClassId) (t3 : Addr) (u3 : Addr) (ku3 : ClassId) (oe : Addr) (h0 : Heap) (n0 : Nat) (v : Option Value) (h : Heap) (L : List Loc) : Prop := ∃ (o : Addr), v = some (.ref o) ∧ Fr n0 L ∧ Keep h0 h [] ∧ (h0.size ≤ o) ∧ (Exa Z h o "java/util/Optional") ∧ (Fld Z h o "java/util/Optional" "value" "Ljava/lang/Object;" (.ref ev3))
set_option maxRecDepth 65536 in
set_option maxHeartbeats 40000000 in
theorem rmofB (l : Launch) (Z : State) (a0 : Array Value) (hw : ∀ d ∈ tables_1, d.before a0 Z = true) (ws : List Jvm.Cond) (a1 : Addr) (bs : Addr) (kbs : ClassId) (x0 : Int32) (x1 : Int32) (x2 : Int32) (cs : Int32) (vv : Addr) (kvv : ClassId) (ev2 : Addr) (ev3 : Addr) (t2 : Addr) (u2 : Addr) (ku2 : ClassId) (t3 : Addr) (u3 : Addr) (ku3 : ClassId) (oe : Addr) (h0 : Heap) (n0 : Nat) (Z0 : n0 ≤ h0.size) (O0 : Old Z n0 h0) (S_COMPACT_STRINGS : Sta Z Z.heap "java/lang/String" "COMPACT_STRINGS" "Z" (.int cs)) (hcs : ¬ (cs = (0 : Int32))) (S__VALUES : Sta Z Z.heap "com/example/keyclasp/keyclasp/protocol/ProtocolVersion" "$VALUES" "[Lcom/example/keyclasp/keyclasp/protocol/ProtocolVersion;" (.ref vv)) (EZ_vv : Exa Z Z.heap vv "[Lcom/example/keyclasp/keyclasp/protocol/ProtocolVersion;") (VZ_vv : Arv Z Z.heap vv kvv (.object "com/example/keyclasp/keyclasp/protocol/ProtocolVersion") (2 : Int32) [(.ref ev2), (.ref ev3)] .null) (EZ_ev2 : Exa Z Z.heap ev2 "com/example/keyclasp/keyclasp/protocol/ProtocolVersion") (Fld0_ev2_text : Fld Z Z.heap ev2 "com/example/keyclasp/keyclasp/protocol/ProtocolVersion" "text" "Ljava/lang/String;" (.ref t2)) (EZ_t2 : Exa Z Z.heap t2 "java/lang/String") (Fld0_t2_coder : Fld Z Z.heap t2 "java/lang/String" "coder" "B" (.int (0 : Int32))) (Fld0_t2_value : Fld Z Z.heap t2 "java/lang/String" "value" "[B" (.ref u2)) (VZ_u2 : Arv Z Z.heap u2 ku2 .byte (3 : Int32) [(.int (51 : Int32)), (.int (46 : Int32)), (.int (50 : Int32))] (.int (0 : Int32))) (EZ_ev3 : Exa Z Z.heap ev3 "com/example/keyclasp/keyclasp/protocol/ProtocolVersion") (Fld0_ev3_text : Fld Z Z.heap ev3 "com/example/keyclasp/keyclasp/protocol/ProtocolVersion" "text" "Ljava/lang/String;" (.ref t3)) (EZ_t3 : Exa Z Z.heap t3 "java/lang/String") (Fld0_t3_coder : Fld Z Z.heap t3 "java/lang/String" "coder" "B" (.int (0 : Int32))) (Fld0_t3_value : Fld Z Z.heap t3 "java/lang/String" "value" "[B" (.ref u3)) (VZ_u3 : Arv Z Z.heap u3 ku3 .byte (3 : Int32) [(.int (51 : Int32)), (.int (46 : Int32)), (.int (51 : Int32))] (.int (0 : Int32))) (S_EMPTY : Sta Z Z.heap "java/util/Optional" "EMPTY" "Ljava/util/Optional;" (.ref oe)) (g_a1 : n0 ≤ a1) (E_a1 : Exa Z h0 a1 "java/lang/String") (Fld_a1_coder : Fld Z h0 a1 "java/lang/String" "coder" "B" (.int (0 : Int32))) (Fld_a1_value : Fld Z h0 a1 "java/lang/String" "value" "[B" (.ref bs)) (V_bs : Arv Z h0 bs kbs .byte (3 : Int32) [(.int x0), (.int x1), (.int x2)] (.int (0 : Int32))) (hp0 : (51 : Int32) = x0) (hp1 : (46 : Int32) = x1) (hp2 : ¬ ((50 : Int32) = x2)) (hp3 : (51 : Int32) = x2) :
    MetFree l (⟨"com/example/keyclasp/keyclasp/protocol/ProtocolVersion", "of", "(Ljava/lang/String;)Ljava/util/Optional;"⟩ : MethodName) (head1 (Jvm.Cond.code (⟨"com/example/keyclasp/keyclasp/protocol/ProtocolVersion", "of", "(Ljava/lang/String;)Ljava/util/Optional;"⟩ : MethodName) prog_22_method_4_code 5 (some (.object "java/util/Optional")) :: ws) ({ frames := 3, cells := 2, slots := 3, locals := 38 } : Room)) (fun a U => a = #[(.ref a1)] ∧ Z.Warmed39 U.vm ∧ U.heap = h0) (fun _ _ _ _ _ => True) (fun _ U o U' => ∃ v L, o = .returned v ∧ QrmofB Z a1 bs kbs x0 x1 x2 cs vv kvv ev2 ev3 t2 u2 ku2 t3 u3 ku3 oe h0 n0 v U'.heap L ∧ FrameEnd U o U' L ({ frames := 3, cells := 2, slots := 3, locals := 38 } : Room).cells ({ frames := 3, cells := 2, slots := 3, locals := 38 } : Room).slots) := by
 refine MetFree.of_bodySF (plainFor_of_name pn_6) hisR ?_
 intro p e s m args below meth c s₁ Bd hml0 hP hK
 obtain ⟨rfl, hZ, hh⟩ := hP
 have hx := Bd.exec
 have hby := Bd.bytes
 have hml : c.maxLocals = 5 := hml0
 have hown : s.vm.findClass "com/example/keyclasp/keyclasp/protocol/ProtocolVersion" = some m.cls := findClass_of_methodNamed Bd.named
 have hnm := (name_of_methodNamed Bd.named Bd.method).1
 have X0 : Stand p l e ({ frames := 3, cells := 2, slots := 3, locals := 38 } : Room) s m #[(.ref a1)] below meth c s₁ [] 0 0 := Stand.of_body Bd
 have e0 : s₁.heap = h0 := by rw [← hh, Bd.state]; rfl
 have N0 := Fr.nil n0
 refine own_go (b := (s₁.setTop (mkF m 0 #[.val (.ref a1), .unset, .unset, .unset, .unset] []))) (fun _ k => castTop (ef_rmofB m a1) k) ?_
 refine own_stat (W := 0) X0 hx hZ hown e0 (hw _ (List.mem_of_getElem? (i := 34) rfl)) (hw _ (List.mem_of_getElem? (i := 35) rfl)) (rmvs l Z a0 hw [] vv kvv ev2 ev3 h0 n0 Z0 O0 S__VALUES EZ_vv VZ_vv) (hw _ (List.mem_of_getElem? (i := 36) rfl)) (hw _ (List.mem_of_getElem? (i := 32) rfl)) rfl (by rw [hml]; rfl) rfl (hb hby d6_0) (lenOf pd____Lcom_example_keyclasp_keyclasp_protocol_ProtocolVersion_ rfl) rfl (by decide) (fun T1 v1 Ll1 X1 hQ1 => ?_)
 obtain ⟨b_1, rfl, N1q, K1, P1_0, P1_1⟩ := hQ1
 have N1 := Fr.app N0 N1q
 have Zs2 : n0 ≤ T1.heap.size := Nat.le_trans Z0 K1.1
 refine own_go (b := (T1.setTop (mkF m 5 #[.val (.ref a1), .val (.ref b_1), .unset, .unset, .unset] [(.ref b_1)]))) (fun _ k => XS.astoreN X1.here hx rfl (hb hby d6_3) rfl rfl (l' := #[.val (.ref a1), .val (.ref b_1), .unset, .unset, .unset]) rfl (XS.aloadN X1.here hx rfl (hb hby d6_4) rfl rfl k)) ?_
 obtain ⟨cl3, Ar3, -, Sz3, Nn3, -, -⟩ := id P1_1
 refine own_go (b := (T1.setTop (mkF m 16 #[.val (.ref a1), .val (.ref b_1), .val (.int (2 : Int32)), .val (.int (0 : Int32)), .unset] [(.int (0 : Int32)), (.ref b_1)]))) (fun _ k => X1.arraylength hx Ar3.1 (State.isArrayOf_alike hZ.alike Ar3.2.1) (g := (mkF m 5 #[.val (.ref a1), .val (.ref b_1), .unset, .unset, .unset] [(.ref b_1)])) rfl rfl (hb hby d6_5) _ (by rw [len_of Sz3 Nn3]; exact (XS.istoreN X1.here hx rfl (hb hby d6_6) rfl (l' := #[.val (.ref a1), .val (.ref b_1), .val (.int (2 : Int32)), .unset, .unset]) rfl (XS.iconst X1.here hx rfl (hb hby d6_7) (XS.istoreN X1.here hx rfl (hb hby d6_8) rfl (l' := #[.val (.ref a1), .val (.ref b_1), .val (.int (2 : Int32)), .val (.int (0 : Int32)), .unset]) rfl (XS.iloadN X1.here hx rfl (hb hby d6_9) rfl (XS.iloadN X1.here hx rfl (hb hby d6_10) rfl (XS.icmpNo X1.here hx rfl (hb hby d6_11) rfl (tlt (by decide : (0 : Int32) < (2 : Int32))).2.1 (XS.aloadN X1.here hx rfl (hb hby d6_14) rfl rfl (XS.iloadN X1.here hx rfl (hb hby d6_15) rfl k)))))))))) ?_
 obtain ⟨cl4, Ar4, ql4, Sz4, Nn4, Hl4, Gl4⟩ := id P1_1
 have hin4 : ¬ ((0 : Int32) < 0 ∨ cl4.slots.size ≤ ((0 : Int32)).toNatClampNeg) := inb_of Sz4 ⟨by decide, by decide⟩
 refine own_go (b := (T1.setTop (mkF m 21 #[.val (.ref a1), .val (.ref b_1), .val (.int (2 : Int32)), .val (.int (0 : Int32)), .val (.ref ev2)] [(.ref ev2)]))) (fun _ k => X1.aaload hx (j := (0 : Int32)) (v := (.ref ev2)) Ar4.1 (State.isArrayOf_alike hZ.alike Ar4.2.1) rfl Ar4.2.2 hin4 (Hl4.at hin4 rfl) (g := (mkF m 16 #[.val (.ref a1), .val (.ref b_1), .val (.int (2 : Int32)), .val (.int (0 : Int32)), .unset] [(.int (0 : Int32)), (.ref b_1)])) rfl rfl (hb hby d6_16) _ (XS.astore X1.here hx rfl (hb hby d6_17) rfl rfl (l' := #[.val (.ref a1), .val (.ref b_1), .val (.int (2 : Int32)), .val (.int (0 : Int32)), .val (.ref ev2)]) rfl (XS.aload X1.here hx rfl (hb hby d6_19) rfl rfl k))) ?_
 have O5 := O0.keep K1 all0
 refine own_getf X1 hx hZ hown (hw _ (List.mem_of_getElem? (i := 51) rfl)) Via.refl rfl (Fld0_ev2_text.ext O5.2) rfl rfl (hb hby d6_21) (fun T6 X6 e6 => ?_)
 refine own_go (b := (T6.setTop (mkF m 25 #[.val (.ref a1), .val (.ref b_1), .val (.int (2 : Int32)), .val (.int (0 : Int32)), .val (.ref ev2)] [(.ref a1), (.ref t2)]))) (fun _ k => XS.aloadN X6.here hx rfl (hb hby d6_24) rfl rfl k) ?_
 have nx8 : t2 ≠ a1 := (Old.ne O5 EZ_t2.lt g_a1)
 have F9 := E_a1.keep K1
 have F10 := Fld_a1_coder.keep K1 nin0
 have F11 := Fld_a1_value.keep K1 nin0
 have F12 := V_bs.keep K1 nin0
 refine own_virt (W := 0) X6 hx hZ hown e6 (hw _ (List.mem_of_getElem? (i := 53) rfl)) (hw _ (List.mem_of_getElem? (i := 54) rfl)) (hw _ (List.mem_of_getElem? (i := 56) rfl)) (hw _ (List.mem_of_getElem? (i := 55) rfl)) (rmseE3 l Z a0 hw [] t2 a1 u2 bs ku2 kbs (51 : Int32) (46 : Int32) (50 : Int32) x0 x1 x2 cs T1.heap n0 Zs2 O5 S_COMPACT_STRINGS hcs nx8 F9 (Fld0_t2_coder.ext O5.2) (Fld0_t2_value.ext O5.2) F10 F11 (VZ_u2.ext O5.2) F12 hp0 hp1 hp2) (hw _ (List.mem_of_getElem? (i := 57) rfl)) (hw _ (List.mem_of_getElem? (i := 10) rfl)) (EZ_t2.ext O5.2) rfl (by rw [hml]; rfl) rfl (hb hby d6_25) (lenOf pd__Ljava_lang_Object__Z rfl) rfl (by decide) (fun T7 v7 Ll7 X7 hQ7 => ?_)
 obtain ⟨rfl, N7q, eh7⟩ := hQ7
 have N7 := Fr.app N1 N7q
 refine own_go (b := (T7.setTop (mkF m 16 #[.val (.ref a1), .val (.ref b_1), .val (.int (2 : Int32)), .val (.int (1 : Int32)), .val (.ref ev2)] [(.int (1 : Int32)), (.ref b_1)]))) (fun _ k => XS.ifYes X7.here hx rfl (pc0 := 28) (pc' := 37) rfl (hb hby d6_28) rfl ((if0 _ _).trans (teq (rfl : (0 : Int32) = (0 : Int32))).1) (by decide) (by decide) (XS.iinc X7.here hx rfl (hb hby d6_37) rfl (l' := #[.val (.ref a1), .val (.ref b_1), .val (.int (2 : Int32)), .val (.int (1 : Int32)), .val (.ref ev2)]) rfl (XS.goto X7.here hx rfl (pc0 := 40) (pc' := 9) rfl (hb hby d6_40) (by decide) (by decide) (XS.iloadN X7.here hx rfl (hb hby d6_9) rfl (XS.iloadN X7.here hx rfl (hb hby d6_10) rfl (XS.icmpNo X7.here hx rfl (hb hby d6_11) rfl (tlt (by decide : (1 : Int32) < (2 : Int32))).2.1 (XS.aloadN X7.here hx rfl (hb hby d6_14) rfl rfl (XS.iloadN X7.here hx rfl (hb hby d6_15) rfl k)))))))) ?_
 obtain ⟨cl13, Ar13, ql13, Sz13, Nn13, Hl13, Gl13⟩ := id P1_1
 have hin13 : ¬ ((1 : Int32) < 0 ∨ cl13.slots.size ≤ ((1 : Int32)).toNatClampNeg) := inb_of Sz13 ⟨by decide, by decide⟩
 refine own_go (b := (T7.setTop (mkF m 21 #[.val (.ref a1), .val (.ref b_1), .val (.int (2 : Int32)), .val (.int (1 : Int32)), .val (.ref ev3)] [(.ref ev3)]))) (fun _ k => X7.aaload hx (j := (1 : Int32)) (v := (.ref ev3)) (by rw [eh7]; exact Ar13.1) (State.isArrayOf_alike hZ.alike Ar13.2.1) rfl Ar13.2.2 hin13 (Hl13.at hin13 rfl) (g := (mkF m 16 #[.val (.ref a1), .val (.ref b_1), .val (.int (2 : Int32)), .val (.int (1 : Int32)), .val (.ref ev2)] [(.int (1 : Int32)), (.ref b_1)])) rfl rfl (hb hby d6_16) _ (XS.astore X7.here hx rfl (hb hby d6_17) rfl rfl (l' := #[.val (.ref a1), .val (.ref b_1), .val (.int (2 : Int32)), .val (.int (1 : Int32)), .val (.ref ev3)]) rfl (XS.aload X7.here hx rfl (hb hby d6_19) rfl rfl k))) ?_
 refine own_getf X7 hx hZ hown (hw _ (List.mem_of_getElem? (i := 51) rfl)) Via.refl eh7 (Fld0_ev3_text.ext O5.2) rfl rfl (hb hby d6_21) (fun T14 X14 e14 => ?_)
 refine own_go (b := (T14.setTop (mkF m 25 #[.val (.ref a1), .val (.ref b_1), .val (.int (2 : Int32)), .val (.int (1 : Int32)), .val (.ref ev3)] [(.ref a1), (.ref t3)]))) (fun _ k => XS.aloadN X14.here hx rfl (hb hby d6_24) rfl rfl k) ?_
 have nx16 : t3 ≠ a1 := (Old.ne O5 EZ_t3.lt g_a1)
 refine own_virt (W := 0) X14 hx hZ hown e14 (hw _ (List.mem_of_getElem? (i := 53) rfl)) (hw _ (List.mem_of_getElem? (i := 54) rfl)) (hw _ (List.mem_of_getElem? (i := 56) rfl)) (hw _ (List.mem_of_getElem? (i := 55) rfl)) (rmseE4 l Z a0 hw [] t3 a1 u3 bs ku3 kbs (51 : Int32) (46 : Int32) (51 : Int32) x0 x1 x2 cs T1.heap n0 Zs2 O5 S_COMPACT_STRINGS hcs nx16 F9 (Fld0_t3_coder.ext O5.2) (Fld0_t3_value.ext O5.2) F10 F11 (VZ_u3.ext O5.2) F12 hp0 hp1 hp3) (hw _ (List.mem_of_getElem? (i := 57) rfl)) (hw _ (List.mem_of_getElem? (i := 10) rfl)) (EZ_t3.ext O5.2) rfl (by rw [hml]; rfl) rfl (hb hby d6_25) (lenOf pd__Ljava_lang_Object__Z rfl) rfl (by decide) (fun T15 v15 Ll15 X15 hQ15 => ?_)
 obtain ⟨rfl, N15q, eh15⟩ := hQ15
 have N15 := Fr.app N7 N15q
 refine own_go (b := (T15.setTop (mkF m 33 #[.val (.ref a1), .val (.ref b_1), .val (.int (2 : Int32)), .val (.int (1 : Int32)), .val (.ref ev3)] [(.ref ev3)]))) (fun _ k => XS.ifNo X15.here hx rfl (hb hby d6_28) rfl ((if0 _ _).trans (feq (by decide : ¬ ((1 : Int32) = (0 : Int32)))).1) (XS.aload X15.here hx rfl (hb hby d6_31) rfl rfl k)) ?_
 refine own_stat (W := 0) X15 hx hZ hown eh15 (hw _ (List.mem_of_getElem? (i := 86) rfl)) (hw _ (List.mem_of_getElem? (i := 87) rfl)) (rmoo l Z a0 hw [] ev3 T1.heap n0 Zs2) (hw _ (List.mem_of_getElem? (i := 88) rfl)) (hw _ (List.mem_of_getElem? (i := 66) rfl)) rfl (by rw [hml]; rfl) rfl (hb hby d6_33) (lenOf pd__Ljava_lang_Object__Ljava_util_Optional_ rfl) rfl (by decide) (fun T17 v17 Ll17 X17 hQ17 => ?_)
 obtain ⟨o_17, rfl, N17q, K17, P17_0, P17_1, P17_2⟩ := hQ17
 have N17 := Fr.app N15 N17q
 have Zs18 : n0 ≤ T17.heap.size := Nat.le_trans Zs2 K17.1
 have K19 := (Keep.refl h0 []).trans K1 all0
 have K20 := K19.trans K17 all0
 obtain ⟨fs, hr, hrun, hended, hW, hsame⟩ := X17.leave (v := some (.ref o_17)) (fun h => by rw [Bd.returns] at h; cases h)
 exact ⟨_, _, retOut X17 hx Bd.returns rfl (Or.inr (Or.inr (Or.inr (Or.inr ⟨rfl, rfl, rfl⟩)))) (hb hby d6_36) hr, hrun, hended, _, _, rfl, (show QrmofB Z a1 bs kbs x0 x1 x2 cs vv kvv ev2 ev3 t2 u2 ku2 t3 u3 ku3 oe h0 n0 _ T17.heap _ from (by exact ⟨o_17, rfl, N17, K20, (Nat.le_trans K1.1 P17_0), P17_1, P17_2⟩)), ⟨_, rfl⟩, hW, hsame.mono (by decide) (by decide)⟩
theorem pd__I_C : parseMethodDescriptor "(I)C" = some ⟨[.int], some .char⟩ := by decide +kernel
theorem pd__ICCCC_Ljava_lang_String_ : parseMethodDescriptor "(ICCCC)Ljava/lang/String;" = some ⟨[.int, .char, .char, .char, .char], some (.object "java/lang/String")⟩ := by decide +kernel
theorem pd__Ljava_lang_String__Ljava_util_Optional_ : parseMethodDescriptor "(Ljava/lang/String;)Ljava/util/Optional;" = some ⟨[(.object "java/lang/String")], some (.object "java/util/Optional")⟩ := by decide +kernel
theorem pd___Z : parseMethodDescriptor "()Z" = some ⟨[], some .boolean⟩ := by decide +kernel
theorem pd___Ljava_lang_Object_ : parseMethodDescriptor "()Ljava/lang/Object;" = some ⟨[], some (.object "java/lang/Object")⟩ := by decide +kernel
theorem pn_0 : plainName "com/example/keyclasp/keyclasp/protocol/ProtocolVersionOfPinLaw" = true := by first | (simp [plainName, overriddenIn]; done) | decide +kernel
theorem ef_rm0 (m : MethodId) (x0 : Int32) (x1 : Int32) (x2 : Int32) (x3 : Int32) (x4 : Int32) : entryFrame m #[(.int x0), (.int x1), (.int x2), (.int x3), (.int x4)] maxLocals = mkF m 0 #[.val (.int x0), .val (.int x1), .val (.int x2), .val (.int x3), .val (.int x4), .unset, .unset, .unset, .unset, .unset, .unset, .unset, .unset, .unset] [] := by first | (simp [entryFrame, mkF, argsToLocals, Value.category, maxLocals]; done) | rfl
def Qrm0 (Z : State) (p0 : Int32) (p1 : Int32) (p2 : Int32) (p3 : Int32) (p4 : Int32) (cs : Int32) (vv : Addr) (kvv : ClassId) (ev2 : Addr) (ev3 : Addr) (t2 : Addr) (u2 : Addr) (ku2 : ClassId) (t3 : Addr) (u3 : Addr) (ku3 : ClassId) (oe : Addr) (h0 : Heap) (n0 : Nat) (v : Option Value) (h : Heap) (L : List Loc) : Prop := v = some (.int (1 : Int32)) ∧ Fr n0 L
set_option maxRecDepth 65536 in
set_option maxHeartbeats 40000000 in
theorem rm0 (l : Launch) (Z : State) (a0 : Array Value) (hw : ∀ d ∈ tables_1, d.before a0 Z = true) (ws : List Jvm.Cond) (p0 : Int32) (p1 : Int32) (p2 : Int32) (p3 : Int32) (p4 : Int32) (cs : Int32) (vv : Addr) (kvv : ClassId) (ev2 : Addr) (ev3 : Addr) (t2 : Addr) (u2 : Addr) (ku2 : ClassId) (t3 : Addr) (u3 : Addr) (ku3 : ClassId) (oe : Addr) (h0 : Heap) (n0 : Nat) (Z0 : n0 ≤ h0.size) (O0 : Old Z n0 h0) (S_COMPACT_STRINGS : Sta Z Z.heap "java/lang/String" "COMPACT_STRINGS" "Z" (.int cs)) (hcs : ¬ (cs = (0 : Int32))) (S__VALUES : Sta Z Z.heap "com/example/keyclasp/keyclasp/protocol/ProtocolVersion" "$VALUES" "[Lcom/example/keyclasp/keyclasp/protocol/ProtocolVersion;" (.ref vv)) (EZ_vv : Exa Z Z.heap vv "[Lcom/example/keyclasp/keyclasp/protocol/ProtocolVersion;") (VZ_vv : Arv Z Z.heap vv kvv (.object "com/example/keyclasp/keyclasp/protocol/ProtocolVersion") (2 : Int32) [(.ref ev2), (.ref ev3)] .null) (EZ_ev2 : Exa Z Z.heap ev2 "com/example/keyclasp/keyclasp/protocol/ProtocolVersion") (Fld0_ev2_text : Fld Z Z.heap ev2 "com/example/keyclasp/keyclasp/protocol/ProtocolVersion" "text" "Ljava/lang/String;" (.ref t2)) (EZ_t2 : Exa Z Z.heap t2 "java/lang/String") (Fld0_t2_coder : Fld Z Z.heap t2 "java/lang/String" "coder" "B" (.int (0 : Int32))) (Fld0_t2_value : Fld Z Z.heap t2 "java/lang/String" "value" "[B" (.ref u2)) (VZ_u2 : Arv Z Z.heap u2 ku2 .byte (3 : Int32) [(.int (51 : Int32)), (.int (46 : Int32)), (.int (50 : Int32))] (.int (0 : Int32))) (EZ_ev3 : Exa Z Z.heap ev3 "com/example/keyclasp/keyclasp/protocol/ProtocolVersion") (Fld0_ev3_text : Fld Z Z.heap ev3 "com/example/keyclasp/keyclasp/protocol/ProtocolVersion" "text" "Ljava/lang/String;" (.ref t3)) (EZ_t3 : Exa Z Z.heap t3 "java/lang/String") (Fld0_t3_coder : Fld Z Z.heap t3 "java/lang/String" "coder" "B" (.int (0 : Int32))) (Fld0_t3_value : Fld Z Z.heap t3 "java/lang/String" "value" "[B" (.ref u3)) (VZ_u3 : Arv Z Z.heap u3 ku3 .byte (3 : Int32) [(.int (51 : Int32)), (.int (46 : Int32)), (.int (51 : Int32))] (.int (0 : Int32))) (S_EMPTY : Sta Z Z.heap "java/util/Optional" "EMPTY" "Ljava/util/Optional;" (.ref oe)) (S_V3_2 : Sta Z Z.heap "com/example/keyclasp/keyclasp/protocol/ProtocolVersion" "V3_2" "Lcom/example/keyclasp/keyclasp/protocol/ProtocolVersion;" (.ref ev2)) (S_V3_3 : Sta Z Z.heap "com/example/keyclasp/keyclasp/protocol/ProtocolVersion" "V3_3" "Lcom/example/keyclasp/keyclasp/protocol/ProtocolVersion;" (.ref ev3)) (EZ_oe : Exa Z Z.heap oe "java/util/Optional") (Fld0_oe_value : Fld Z Z.heap oe "java/util/Optional" "value" "Ljava/lang/Object;" .null) :
    MetFree l x (head1 (Jvm.Cond.code x code maxLocals ret :: ws) room_1) (fun a U => a = #[(.int p0), (.int p1), (.int p2), (.int p3), (.int p4)] ∧ Z.Warmed39 U.vm ∧ U.heap = h0 ∧ CHv Z own_EL U.vm h0) (fun _ _ _ _ _ => True) (fun _ U o U' => ∃ v L, o = .returned v ∧ Qrm0 Z p0 p1 p2 p3 p4 cs vv kvv ev2 ev3 t2 u2 ku2 t3 u3 ku3 oe h0 n0 v U'.heap L ∧ ReturnedEndW U o U' L room_1.cells room_1.slots) := by
 refine MetFree.of_bodySF (plainFor_of_name pn_0) hisR ?_
 intro p e s m args below meth c s₁ Bd hml0 hP hK
 obtain ⟨rfl, hZ, hh, hCH⟩ := hP
 have hx := Bd.exec
 have hby := Bd.bytes
 have hml : c.maxLocals = 14 := hml0
 have hown : s.vm.findClass "com/example/keyclasp/keyclasp/protocol/ProtocolVersionOfPinLaw" = some m.cls := findClass_of_methodNamed Bd.named
 have hnm := (name_of_methodNamed Bd.named Bd.method).1
 have X0 : Stand p l e room_1 s m #[(.int p0), (.int p1), (.int p2), (.int p3), (.int p4)] below meth c s₁ [] 0 0 := Stand.of_body Bd
 have e0 : s₁.heap = h0 := by rw [← hh, Bd.state]; rfl
 have N0 := Fr.nil n0
 refine own_go (b := (s₁.setTop (mkF m 0 #[.val (.int p0), .val (.int p1), .val (.int p2), .val (.int p3), .val (.int p4), .unset, .unset, .unset, .unset, .unset, .unset, .unset, .unset, .unset] []))) (fun _ k => castTop (ef_rm0 m p0 p1 p2 p3 p4) k) ?_
 refine own_go (b := (s₁.setTop (mkF m 6 #[.val (.int p0), .val (.int p1), .val (.int p2), .val (.int p3), .val (.int p4), .unset, .unset, .unset, .unset, .unset, .unset, .unset, .unset, .unset] [(.int ((p0 &&& (2147483647 : Int32)) % (5 : Int32)))]))) (fun _ k => XS.iloadN X0.here hx rfl (hb hby at_0) rfl (X0.ldcInt hx hown (mvT hZ (hw _ (List.mem_of_getElem? (i := 0) rfl))) (g := (mkF m 1 #[.val (.int p0), .val (.int p1), .val (.int p2), .val (.int p3), .val (.int p4), .unset, .unset, .unset, .unset, .unset, .unset, .unset, .unset, .unset] [(.int p0)])) rfl (hb hby at_1) _ (XS.iand X0.here hx rfl (hb hby at_3) rfl (XS.iconst X0.here hx rfl (hb hby at_4) (iremM (g := (mkF m 5 #[.val (.int p0), .val (.int p1), .val (.int p2), .val (.int p3), .val (.int p4), .unset, .unset, .unset, .unset, .unset, .unset, .unset, .unset, .unset] [(.int (5 : Int32)), (.int (p0 &&& (2147483647 : Int32)))])) X0 hx rfl (hb hby at_5) rfl (by decide) k))))) ?_
 rcases own_mod5 _ (own_m31 p0) with hk | hk | hk | hk | hk
 · rw [hk]
   refine own_go (b := (s₁.setTop (mkF m 9 #[.val (.int p0), .val (.int p1), .val (.int p2), .val (.int p3), .val (.int p4), .val (.int (0 : Int32)), .unset, .unset, .unset, .unset, .unset, .unset, .unset, .unset] [(.int p1)]))) (fun _ k => XS.istore X0.here hx rfl (hb hby at_6) rfl (l' := #[.val (.int p0), .val (.int p1), .val (.int p2), .val (.int p3), .val (.int p4), .val (.int (0 : Int32)), .unset, .unset, .unset, .unset, .unset, .unset, .unset, .unset]) rfl (XS.iloadN X0.here hx rfl (hb hby at_8) rfl k)) ?_
   refine own_stat (W := 0) X0 hx hZ hown e0 (hw _ (List.mem_of_getElem? (i := 1) rfl)) (hw _ (List.mem_of_getElem? (i := 2) rfl)) (rmch l Z a0 hw [] p1 h0 n0 Z0) (hw _ (List.mem_of_getElem? (i := 4) rfl)) (hw _ (List.mem_of_getElem? (i := 3) rfl)) rfl (by rw [hml]; rfl) rfl (hb hby at_9) (lenOf pd__I_C rfl) rfl (by decide) (fun T1 v1 Ll1 X1 hQ1 => ?_)
   obtain ⟨rc_1, rfl, N1q, eh1, P1_0⟩ := hQ1
   have N1 := Fr.app N0 N1q
   refine own_go (b := (T1.setTop (mkF m 15 #[.val (.int p0), .val (.int p1), .val (.int p2), .val (.int p3), .val (.int p4), .val (.int (0 : Int32)), .val (.int rc_1), .unset, .unset, .unset, .unset, .unset, .unset, .unset] [(.int p2)]))) (fun _ k => XS.istore X1.here hx rfl (hb hby at_12) rfl (l' := #[.val (.int p0), .val (.int p1), .val (.int p2), .val (.int p3), .val (.int p4), .val (.int (0 : Int32)), .val (.int rc_1), .unset, .unset, .unset, .unset, .unset, .unset, .unset]) rfl (XS.iloadN X1.here hx rfl (hb hby at_14) rfl k)) ?_
   refine own_stat (W := 0) X1 hx hZ hown eh1 (hw _ (List.mem_of_getElem? (i := 1) rfl)) (hw _ (List.mem_of_getElem? (i := 2) rfl)) (rmch l Z a0 hw [] p2 h0 n0 Z0) (hw _ (List.mem_of_getElem? (i := 4) rfl)) (hw _ (List.mem_of_getElem? (i := 3) rfl)) rfl (by rw [hml]; rfl) rfl (hb hby at_15) (lenOf pd__I_C rfl) rfl (by decide) (fun T2 v2 Ll2 X2 hQ2 => ?_)
   obtain ⟨rc_2, rfl, N2q, eh2, P2_0⟩ := hQ2
   have N2 := Fr.app N1 N2q
   refine own_go (b := (T2.setTop (mkF m 21 #[.val (.int p0), .val (.int p1), .val (.int p2), .val (.int p3), .val (.int p4), .val (.int (0 : Int32)), .val (.int rc_1), .val (.int rc_2), .unset, .unset, .unset, .unset, .unset, .unset] [(.int p3)]))) (fun _ k => XS.istore X2.here hx rfl (hb hby at_18) rfl (l' := #[.val (.int p0), .val (.int p1), .val (.int p2), .val (.int p3), .val (.int p4), .val (.int (0 : Int32)), .val (.int rc_1), .val (.int rc_2), .unset, .unset, .unset, .unset, .unset, .unset]) rfl (XS.iloadN X2.here hx rfl (hb hby at_20) rfl k)) ?_
   refine own_stat (W := 0) X2 hx hZ hown eh2 (hw _ (List.mem_of_getElem? (i := 1) rfl)) (hw _ (List.mem_of_getElem? (i := 2) rfl)) (rmch l Z a0 hw [] p3 h0 n0 Z0) (hw _ (List.mem_of_getElem? (i := 4) rfl)) (hw _ (List.mem_of_getElem? (i := 3) rfl)) rfl (by rw [hml]; rfl) rfl (hb hby at_21) (lenOf pd__I_C rfl) rfl (by decide) (fun T3 v3 Ll3 X3 hQ3 => ?_)
   obtain ⟨rc_3, rfl, N3q, eh3, P3_0⟩ := hQ3
   have N3 := Fr.app N2 N3q
   refine own_go (b := (T3.setTop (mkF m 28 #[.val (.int p0), .val (.int p1), .val (.int p2), .val (.int p3), .val (.int p4), .val (.int (0 : Int32)), .val (.int rc_1), .val (.int rc_2), .val (.int rc_3), .unset, .unset, .unset, .unset, .unset] [(.int p4)]))) (fun _ k => XS.istore X3.here hx rfl (hb hby at_24) rfl (l' := #[.val (.int p0), .val (.int p1), .val (.int p2), .val (.int p3), .val (.int p4), .val (.int (0 : Int32)), .val (.int rc_1), .val (.int rc_2), .val (.int rc_3), .unset, .unset, .unset, .unset, .unset]) rfl (XS.iload X3.here hx rfl (hb hby at_26) rfl k)) ?_
   refine own_stat (W := 0) X3 hx hZ hown eh3 (hw _ (List.mem_of_getElem? (i := 1) rfl)) (hw _ (List.mem_of_getElem? (i := 2) rfl)) (rmch l Z a0 hw [] p4 h0 n0 Z0) (hw _ (List.mem_of_getElem? (i := 4) rfl)) (hw _ (List.mem_of_getElem? (i := 3) rfl)) rfl (by rw [hml]; rfl) rfl (hb hby at_28) (lenOf pd__I_C rfl) rfl (by decide) (fun T4 v4 Ll4 X4 hQ4 => ?_)
   obtain ⟨rc_4, rfl, N4q, eh4, P4_0⟩ := hQ4
   have N4 := Fr.app N3 N4q
   refine own_go (b := (T4.setTop (mkF m 43 #[.val (.int p0), .val (.int p1), .val (.int p2), .val (.int p3), .val (.int p4), .val (.int (0 : Int32)), .val (.int rc_1), .val (.int rc_2), .val (.int rc_3), .val (.int rc_4), .unset, .unset, .unset, .unset] [(.int rc_4), (.int rc_3), (.int rc_2), (.int rc_1), (.int (0 : Int32))]))) (fun _ k => XS.istore X4.here hx rfl (hb hby at_31) rfl (l' := #[.val (.int p0), .val (.int p1), .val (.int p2), .val (.int p3), .val (.int p4), .val (.int (0 : Int32)), .val (.int rc_1), .val (.int rc_2), .val (.int rc_3), .val (.int rc_4), .unset, .unset, .unset, .unset]) rfl (XS.iload X4.here hx rfl (hb hby at_33) rfl (XS.iload X4.here hx rfl (hb hby at_35) rfl (XS.iload X4.here hx rfl (hb hby at_37) rfl (XS.iload X4.here hx rfl (hb hby at_39) rfl (XS.iload X4.here hx rfl (hb hby at_41) rfl k)))))) ?_
   refine own_statW (W := 0) X4 hx hZ hown eh4 (hw _ (List.mem_of_getElem? (i := 5) rfl)) (hw _ (List.mem_of_getElem? (i := 6) rfl)) (rmmk_0 l Z a0 hw [] rc_1 rc_2 rc_3 rc_4 cs h0 n0 Z0 O0 S_COMPACT_STRINGS hcs P1_0 P2_0 P3_0 P4_0) (hw _ (List.mem_of_getElem? (i := 7) rfl)) (hw _ (List.mem_of_getElem? (i := 3) rfl)) rfl (by rw [hml]; rfl) rfl (hb hby at_43) (lenOf pd__ICCCC_Ljava_lang_String_ rfl) rfl (by decide) (own_EW hw) hCH (fun T5 v5 Ll5 X5 hQ5 Sn5 hZ5 ho5 => ?_)
   obtain ⟨a_5, b_5, kb_5, rfl, N5q, K5, P5_0, P5_1, P5_2, P5_3, P5_4⟩ := hQ5
   have N5 := Fr.app N4 N5q
   have Zs6 : n0 ≤ T5.heap.size := Nat.le_trans Z0 K5.1
   have hZ := hZ5
   have hown := ho5
   refine own_go (b := (T5.setTop (mkF m 118 #[.val (.int p0), .val (.int p1), .val (.int p2), .val (.int p3), .val (.int p4), .val (.int (0 : Int32)), .val (.int rc_1), .val (.int rc_2), .val (.int rc_3), .val (.int rc_4), .val (.ref a_5), .val (.int (0 : Int32)), .val (.int (0 : Int32)), .unset] [(.ref a_5)]))) (fun _ k => XS.astore X5.here hx rfl (hb hby at_46) rfl rfl (l' := #[.val (.int p0), .val (.int p1), .val (.int p2), .val (.int p3), .val (.int p4), .val (.int (0 : Int32)), .val (.int rc_1), .val (.int rc_2), .val (.int rc_3), .val (.int rc_4), .val (.ref a_5), .unset, .unset, .unset]) rfl (XS.iload X5.here hx rfl (hb hby at_48) rfl (XS.iconst X5.here hx rfl (hb hby at_50) (XS.icmpYes X5.here hx rfl (pc0 := 51) (pc' := 79) rfl (hb hby at_51) rfl (feq (by decide : ¬ ((0 : Int32) = (3 : Int32)))).2 (by decide) (by decide) (XS.iconst X5.here hx rfl (hb hby at_79) (XS.istore X5.here hx rfl (hb hby at_80) rfl (l' := #[.val (.int p0), .val (.int p1), .val (.int p2), .val (.int p3), .val (.int p4), .val (.int (0 : Int32)), .val (.int rc_1), .val (.int rc_2), .val (.int rc_3), .val (.int rc_4), .val (.ref a_5), .val (.int (0 : Int32)), .unset, .unset]) rfl (XS.iload X5.here hx rfl (hb hby at_82) rfl (XS.iconst X5.here hx rfl (hb hby at_84) (XS.icmpYes X5.here hx rfl (pc0 := 85) (pc' := 113) rfl (hb hby at_85) rfl (feq (by decide : ¬ ((0 : Int32) = (3 : Int32)))).2 (by decide) (by decide) (XS.iconst X5.here hx rfl (hb hby at_113) (XS.istore X5.here hx rfl (hb hby at_114) rfl (l' := #[.val (.int p0), .val (.int p1), .val (.int p2), .val (.int p3), .val (.int p4), .val (.int (0 : Int32)), .val (.int rc_1), .val (.int rc_2), .val (.int rc_3), .val (.int rc_4), .val (.ref a_5), .val (.int (0 : Int32)), .val (.int (0 : Int32)), .unset]) rfl (XS.aload X5.here hx rfl (hb hby at_116) rfl rfl k)))))))))))) ?_
   have O8 := O0.keep K5 all0
   have gx9 : n0 ≤ a_5 := Nat.le_trans Z0 P5_0
   refine own_stat (W := 0) X5 hx hZ hown rfl (hw _ (List.mem_of_getElem? (i := 30) rfl)) (hw _ (List.mem_of_getElem? (i := 31) rfl)) (rmofN0 l Z a0 hw [] a_5 b_5 kb_5 cs vv kvv ev2 ev3 t2 u2 ku2 t3 u3 ku3 oe T5.heap n0 Zs6 O8 S_COMPACT_STRINGS hcs S__VALUES EZ_vv VZ_vv EZ_ev2 Fld0_ev2_text EZ_t2 Fld0_t2_coder Fld0_t2_value VZ_u2 EZ_ev3 Fld0_ev3_text EZ_t3 Fld0_t3_coder Fld0_t3_value VZ_u3 S_EMPTY gx9 P5_1 P5_3 P5_2 P5_4) (hw _ (List.mem_of_getElem? (i := 33) rfl)) (hw _ (List.mem_of_getElem? (i := 32) rfl)) rfl (by rw [hml]; rfl) rfl (hb hby at_118) (lenOf pd__Ljava_lang_String__Ljava_util_Optional_ rfl) rfl (by decide) (fun T7 v7 Ll7 X7 hQ7 => ?_)
   obtain ⟨rfl, N7q, K7⟩ := hQ7
   have N7 := Fr.app N5 N7q
   have Zs10 : n0 ≤ T7.heap.size := Nat.le_trans Zs6 K7.1
   refine own_go (b := (T7.setTop (mkF m 185 #[.val (.int p0), .val (.int p1), .val (.int p2), .val (.int p3), .val (.int p4), .val (.int (0 : Int32)), .val (.int rc_1), .val (.int rc_2), .val (.int rc_3), .val (.int rc_4), .val (.ref a_5), .val (.int (0 : Int32)), .val (.int (0 : Int32)), .val (.ref oe)] [(.ref oe)]))) (fun _ k => XS.astore X7.here hx rfl (hb hby at_121) rfl rfl (l' := #[.val (.int p0), .val (.int p1), .val (.int p2), .val (.int p3), .val (.int p4), .val (.int (0 : Int32)), .val (.int rc_1), .val (.int rc_2), .val (.int rc_3), .val (.int rc_4), .val (.ref a_5), .val (.int (0 : Int32)), .val (.int (0 : Int32)), .val (.ref oe)]) rfl (XS.iload X7.here hx rfl (hb hby at_123) rfl (XS.ifYes X7.here hx rfl (pc0 := 125) (pc' := 153) rfl (hb hby at_125) rfl ((if0 _ _).trans (teq (rfl : (0 : Int32) = (0 : Int32))).1) (by decide) (by decide) (XS.iload X7.here hx rfl (hb hby at_153) rfl (XS.ifYes X7.here hx rfl (pc0 := 155) (pc' := 183) rfl (hb hby at_155) rfl ((if0 _ _).trans (teq (rfl : (0 : Int32) = (0 : Int32))).1) (by decide) (by decide) (XS.aload X7.here hx rfl (hb hby at_183) rfl rfl k)))))) ?_
   have O12 := O8.keep K7 all0
   refine own_virt (W := 0) X7 hx hZ hown rfl (hw _ (List.mem_of_getElem? (i := 69) rfl)) (hw _ (List.mem_of_getElem? (i := 70) rfl)) (hw _ (List.mem_of_getElem? (i := 72) rfl)) (hw _ (List.mem_of_getElem? (i := 71) rfl)) (rmip0 l Z a0 hw [] oe T7.heap n0 Zs10 (Fld0_oe_value.ext O12.2)) (hw _ (List.mem_of_getElem? (i := 73) rfl)) (hw _ (List.mem_of_getElem? (i := 66) rfl)) (EZ_oe.ext O12.2) rfl (by rw [hml]; rfl) rfl (hb hby at_185) (lenOf pd___Z rfl) rfl (by decide) (fun T11 v11 Ll11 X11 hQ11 => ?_)
   obtain ⟨rfl, N11q, eh11⟩ := hQ11
   have N11 := Fr.app N7 N11q
   refine own_go (b := (T11.setTop (mkF m 196 #[.val (.int p0), .val (.int p1), .val (.int p2), .val (.int p3), .val (.int p4), .val (.int (0 : Int32)), .val (.int rc_1), .val (.int rc_2), .val (.int rc_3), .val (.int rc_4), .val (.ref a_5), .val (.int (0 : Int32)), .val (.int (0 : Int32)), .val (.ref oe)] [(.int (1 : Int32))]))) (fun _ k => XS.ifNo X11.here hx rfl (hb hby at_188) rfl ((if0 _ _).trans (teq (rfl : (0 : Int32) = (0 : Int32))).2) (XS.iconst X11.here hx rfl (hb hby at_191) (XS.goto X11.here hx rfl (pc0 := 192) (pc' := 196) rfl (hb hby at_192) (by decide) (by decide) k))) ?_
   obtain ⟨fs, hr, hrun, hended, hRE⟩ := Stand.leaveW (s := s) X11 Sn5 (by rw [eh11]; exact Nat.le_trans (Nat.le_refl _) K7.1) (v := some (.int (1 : Int32))) (fun h => by rw [Bd.returns] at h; cases h)
   exact ⟨_, _, retN X11 hx (t := .boolean) Bd.returns (by simp) (hb hby at_196) hr, hrun, hended, _, _, rfl, (show Qrm0 Z p0 p1 p2 p3 p4 cs vv kvv ev2 ev3 t2 u2 ku2 t3 u3 ku3 oe h0 n0 _ T11.heap _ from (by rw [eh11]; exact ⟨rfl, N11⟩)), ⟨hRE.1, hRE.2.1, hRE.2.2.1, hRE.2.2.2.mono (by decide) (by decide)⟩⟩
 · rw [hk]
   refine own_go (b := (s₁.setTop (mkF m 9 #[.val (.int p0), .val (.int p1), .val (.int p2), .val (.int p3), .val (.int p4), .val (.int (1 : Int32)), .unset, .unset, .unset, .unset, .unset, .unset, .unset, .unset] [(.int p1)]))) (fun _ k => XS.istore X0.here hx rfl (hb hby at_6) rfl (l' := #[.val (.int p0), .val (.int p1), .val (.int p2), .val (.int p3), .val (.int p4), .val (.int (1 : Int32)), .unset, .unset, .unset, .unset, .unset, .unset, .unset, .unset]) rfl (XS.iloadN X0.here hx rfl (hb hby at_8) rfl k)) ?_
   refine own_stat (W := 0) X0 hx hZ hown e0 (hw _ (List.mem_of_getElem? (i := 1) rfl)) (hw _ (List.mem_of_getElem? (i := 2) rfl)) (rmch l Z a0 hw [] p1 h0 n0 Z0) (hw _ (List.mem_of_getElem? (i := 4) rfl)) (hw _ (List.mem_of_getElem? (i := 3) rfl)) rfl (by rw [hml]; rfl) rfl (hb hby at_9) (lenOf pd__I_C rfl) rfl (by decide) (fun T13 v13 Ll13 X13 hQ13 => ?_)
   obtain ⟨rc_13, rfl, N13q, eh13, P13_0⟩ := hQ13
   have N13 := Fr.app N0 N13q
   refine own_go (b := (T13.setTop (mkF m 15 #[.val (.int p0), .val (.int p1), .val (.int p2), .val (.int p3), .val (.int p4), .val (.int (1 : Int32)), .val (.int rc_13), .unset, .unset, .unset, .unset, .unset, .unset, .unset] [(.int p2)]))) (fun _ k => XS.istore X13.here hx rfl (hb hby at_12) rfl (l' := #[.val (.int p0), .val (.int p1), .val (.int p2), .val (.int p3), .val (.int p4), .val (.int (1 : Int32)), .val (.int rc_13), .unset, .unset, .unset, .unset, .unset, .unset, .unset]) rfl (XS.iloadN X13.here hx rfl (hb hby at_14) rfl k)) ?_
   refine own_stat (W := 0) X13 hx hZ hown eh13 (hw _ (List.mem_of_getElem? (i := 1) rfl)) (hw _ (List.mem_of_getElem? (i := 2) rfl)) (rmch l Z a0 hw [] p2 h0 n0 Z0) (hw _ (List.mem_of_getElem? (i := 4) rfl)) (hw _ (List.mem_of_getElem? (i := 3) rfl)) rfl (by rw [hml]; rfl) rfl (hb hby at_15) (lenOf pd__I_C rfl) rfl (by decide) (fun T14 v14 Ll14 X14 hQ14 => ?_)
   obtain ⟨rc_14, rfl, N14q, eh14, P14_0⟩ := hQ14
   have N14 := Fr.app N13 N14q
   refine own_go (b := (T14.setTop (mkF m 21 #[.val (.int p0), .val (.int p1), .val (.int p2), .val (.int p3), .val (.int p4), .val (.int (1 : Int32)), .val (.int rc_13), .val (.int rc_14), .unset, .unset, .unset, .unset, .unset, .unset] [(.int p3)]))) (fun _ k => XS.istore X14.here hx rfl (hb hby at_18) rfl (l' := #[.val (.int p0), .val (.int p1), .val (.int p2), .val (.int p3), .val (.int p4), .val (.int (1 : Int32)), .val (.int rc_13), .val (.int rc_14), .unset, .unset, .unset, .unset, .unset, .unset]) rfl (XS.iloadN X14.here hx rfl (hb hby at_20) rfl k)) ?_
   refine own_stat (W := 0) X14 hx hZ hown eh14 (hw _ (List.mem_of_getElem? (i := 1) rfl)) (hw _ (List.mem_of_getElem? (i := 2) rfl)) (rmch l Z a0 hw [] p3 h0 n0 Z0) (hw _ (List.mem_of_getElem? (i := 4) rfl)) (hw _ (List.mem_of_getElem? (i := 3) rfl)) rfl (by rw [hml]; rfl) rfl (hb hby at_21) (lenOf pd__I_C rfl) rfl (by decide) (fun T15 v15 Ll15 X15 hQ15 => ?_)
   obtain ⟨rc_15, rfl, N15q, eh15, P15_0⟩ := hQ15
   have N15 := Fr.app N14 N15q
   refine own_go (b := (T15.setTop (mkF m 28 #[.val (.int p0), .val (.int p1), .val (.int p2), .val (.int p3), .val (.int p4), .val (.int (1 : Int32)), .val (.int rc_13), .val (.int rc_14), .val (.int rc_15), .unset, .unset, .unset, .unset, .unset] [(.int p4)]))) (fun _ k => XS.istore X15.here hx rfl (hb hby at_24) rfl (l' := #[.val (.int p0), .val (.int p1), .val (.int p2), .val (.int p3), .val (.int p4), .val (.int (1 : Int32)), .val (.int rc_13), .val (.int rc_14), .val (.int rc_15), .unset, .unset, .unset, .unset, .unset]) rfl (XS.iload X15.here hx rfl (hb hby at_26) rfl k)) ?_
   refine own_stat (W := 0) X15 hx hZ hown eh15 (hw _ (List.mem_of_getElem? (i := 1) rfl)) (hw _ (List.mem_of_getElem? (i := 2) rfl)) (rmch l Z a0 hw [] p4 h0 n0 Z0) (hw _ (List.mem_of_getElem? (i := 4) rfl)) (hw _ (List.mem_of_getElem? (i := 3) rfl)) rfl (by rw [hml]; rfl) rfl (hb hby at_28) (lenOf pd__I_C rfl) rfl (by decide) (fun T16 v16 Ll16 X16 hQ16 => ?_)
   obtain ⟨rc_16, rfl, N16q, eh16, P16_0⟩ := hQ16
   have N16 := Fr.app N15 N16q
   refine own_go (b := (T16.setTop (mkF m 43 #[.val (.int p0), .val (.int p1), .val (.int p2), .val (.int p3), .val (.int p4), .val (.int (1 : Int32)), .val (.int rc_13), .val (.int rc_14), .val (.int rc_15), .val (.int rc_16), .unset, .unset, .unset, .unset] [(.int rc_16), (.int rc_15), (.int rc_14), (.int rc_13), (.int (1 : Int32))]))) (fun _ k => XS.istore X16.here hx rfl (hb hby at_31) rfl (l' := #[.val (.int p0), .val (.int p1), .val (.int p2), .val (.int p3), .val (.int p4), .val (.int (1 : Int32)), .val (.int rc_13), .val (.int rc_14), .val (.int rc_15), .val (.int rc_16), .unset, .unset, .unset, .unset]) rfl (XS.iload X16.here hx rfl (hb hby at_33) rfl (XS.iload X16.here hx rfl (hb hby at_35) rfl (XS.iload X16.here hx rfl (hb hby at_37) rfl (XS.iload X16.here hx rfl (hb hby at_39) rfl (XS.iload X16.here hx rfl (hb hby at_41) rfl k)))))) ?_
   refine own_stat (W := 0) X16 hx hZ hown eh16 (hw _ (List.mem_of_getElem? (i := 5) rfl)) (hw _ (List.mem_of_getElem? (i := 6) rfl)) (rmmk_1 l Z a0 hw [] rc_13 rc_14 rc_15 rc_16 cs h0 n0 Z0 O0 S_COMPACT_STRINGS hcs P13_0 P14_0 P15_0 P16_0) (hw _ (List.mem_of_getElem? (i := 7) rfl)) (hw _ (List.mem_of_getElem? (i := 3) rfl)) rfl (by rw [hml]; rfl) rfl (hb hby at_43) (lenOf pd__ICCCC_Ljava_lang_String_ rfl) rfl (by decide) (fun T17 v17 Ll17 X17 hQ17 => ?_)
   obtain ⟨a_17, b_17, kb_17, rfl, N17q, K17, P17_0, P17_1, P17_2, P17_3, P17_4⟩ := hQ17
   have N17 := Fr.app N16 N17q
   have Zs18 : n0 ≤ T17.heap.size := Nat.le_trans Z0 K17.1
   refine own_go (b := (T17.setTop (mkF m 118 #[.val (.int p0), .val (.int p1), .val (.int p2), .val (.int p3), .val (.int p4), .val (.int (1 : Int32)), .val (.int rc_13), .val (.int rc_14), .val (.int rc_15), .val (.int rc_16), .val (.ref a_17), .val (.int (0 : Int32)), .val (.int (0 : Int32)), .unset] [(.ref a_17)]))) (fun _ k => XS.astore X17.here hx rfl (hb hby at_46) rfl rfl (l' := #[.val (.int p0), .val (.int p1), .val (.int p2), .val (.int p3), .val (.int p4), .val (.int (1 : Int32)), .val (.int rc_13), .val (.int rc_14), .val (.int rc_15), .val (.int rc_16), .val (.ref a_17), .unset, .unset, .unset]) rfl (XS.iload X17.here hx rfl (hb hby at_48) rfl (XS.iconst X17.here hx rfl (hb hby at_50) (XS.icmpYes X17.here hx rfl (pc0 := 51) (pc' := 79) rfl (hb hby at_51) rfl (feq (by decide : ¬ ((1 : Int32) = (3 : Int32)))).2 (by decide) (by decide) (XS.iconst X17.here hx rfl (hb hby at_79) (XS.istore X17.here hx rfl (hb hby at_80) rfl (l' := #[.val (.int p0), .val (.int p1), .val (.int p2), .val (.int p3), .val (.int p4), .val (.int (1 : Int32)), .val (.int rc_13), .val (.int rc_14), .val (.int rc_15), .val (.int rc_16), .val (.ref a_17), .val (.int (0 : Int32)), .unset, .unset]) rfl (XS.iload X17.here hx rfl (hb hby at_82) rfl (XS.iconst X17.here hx rfl (hb hby at_84) (XS.icmpYes X17.here hx rfl (pc0 := 85) (pc' := 113) rfl (hb hby at_85) rfl (feq (by decide : ¬ ((1 : Int32) = (3 : Int32)))).2 (by decide) (by decide) (XS.iconst X17.here hx rfl (hb hby at_113) (XS.istore X17.here hx rfl (hb hby at_114) rfl (l' := #[.val (.int p0), .val (.int p1), .val (.int p2), .val (.int p3), .val (.int p4), .val (.int (1 : Int32)), .val (.int rc_13), .val (.int rc_14), .val (.int rc_15), .val (.int rc_16), .val (.ref a_17), .val (.int (0 : Int32)), .val (.int (0 : Int32)), .unset]) rfl (XS.aload X17.here hx rfl (hb hby at_116) rfl rfl k)))))))))))) ?_
   have O20 := O0.keep K17 all0
   have gx21 : n0 ≤ a_17 := Nat.le_trans Z0 P17_0
   refine own_stat (W := 0) X17 hx hZ hown rfl (hw _ (List.mem_of_getElem? (i := 30) rfl)) (hw _ (List.mem_of_getElem? (i := 31) rfl)) (rmofN1 l Z a0 hw [] a_17 b_17 kb_17 (own_lt (nar .char rc_13)) cs vv kvv ev2 ev3 t2 u2 ku2 t3 u3 ku3 oe T17.heap n0 Zs18 O20 S_COMPACT_STRINGS hcs S__VALUES EZ_vv VZ_vv EZ_ev2 Fld0_ev2_text EZ_t2 Fld0_t2_coder Fld0_t2_value VZ_u2 EZ_ev3 Fld0_ev3_text EZ_t3 Fld0_t3_coder Fld0_t3_value VZ_u3 S_EMPTY gx21 P17_1 P17_3 P17_2 P17_4) (hw _ (List.mem_of_getElem? (i := 33) rfl)) (hw _ (List.mem_of_getElem? (i := 32) rfl)) rfl (by rw [hml]; rfl) rfl (hb hby at_118) (lenOf pd__Ljava_lang_String__Ljava_util_Optional_ rfl) rfl (by decide) (fun T19 v19 Ll19 X19 hQ19 => ?_)
   obtain ⟨rfl, N19q, K19⟩ := hQ19
   have N19 := Fr.app N17 N19q
   have Zs22 : n0 ≤ T19.heap.size := Nat.le_trans Zs18 K19.1
   refine own_go (b := (T19.setTop (mkF m 185 #[.val (.int p0), .val (.int p1), .val (.int p2), .val (.int p3), .val (.int p4), .val (.int (1 : Int32)), .val (.int rc_13), .val (.int rc_14), .val (.int rc_15), .val (.int rc_16), .val (.ref a_17), .val (.int (0 : Int32)), .val (.int (0 : Int32)), .val (.ref oe)] [(.ref oe)]))) (fun _ k => XS.astore X19.here hx rfl (hb hby at_121) rfl rfl (l' := #[.val (.int p0), .val (.int p1), .val (.int p2), .val (.int p3), .val (.int p4), .val (.int (1 : Int32)), .val (.int rc_13), .val (.int rc_14), .val (.int rc_15), .val (.int rc_16), .val (.ref a_17), .val (.int (0 : Int32)), .val (.int (0 : Int32)), .val (.ref oe)]) rfl (XS.iload X19.here hx rfl (hb hby at_123) rfl (XS.ifYes X19.here hx rfl (pc0 := 125) (pc' := 153) rfl (hb hby at_125) rfl ((if0 _ _).trans (teq (rfl : (0 : Int32) = (0 : Int32))).1) (by decide) (by decide) (XS.iload X19.here hx rfl (hb hby at_153) rfl (XS.ifYes X19.here hx rfl (pc0 := 155) (pc' := 183) rfl (hb hby at_155) rfl ((if0 _ _).trans (teq (rfl : (0 : Int32) = (0 : Int32))).1) (by decide) (by decide) (XS.aload X19.here hx rfl (hb hby at_183) rfl rfl k)))))) ?_
   have O24 := O20.keep K19 all0
   refine own_virt (W := 0) X19 hx hZ hown rfl (hw _ (List.mem_of_getElem? (i := 69) rfl)) (hw _ (List.mem_of_getElem? (i := 70) rfl)) (hw _ (List.mem_of_getElem? (i := 72) rfl)) (hw _ (List.mem_of_getElem? (i := 71) rfl)) (rmip0 l Z a0 hw [] oe T19.heap n0 Zs22 (Fld0_oe_value.ext O24.2)) (hw _ (List.mem_of_getElem? (i := 73) rfl)) (hw _ (List.mem_of_getElem? (i := 66) rfl)) (EZ_oe.ext O24.2) rfl (by rw [hml]; rfl) rfl (hb hby at_185) (lenOf pd___Z rfl) rfl (by decide) (fun T23 v23 Ll23 X23 hQ23 => ?_)
   obtain ⟨rfl, N23q, eh23⟩ := hQ23
   have N23 := Fr.app N19 N23q
   refine own_go (b := (T23.setTop (mkF m 196 #[.val (.int p0), .val (.int p1), .val (.int p2), .val (.int p3), .val (.int p4), .val (.int (1 : Int32)), .val (.int rc_13), .val (.int rc_14), .val (.int rc_15), .val (.int rc_16), .val (.ref a_17), .val (.int (0 : Int32)), .val (.int (0 : Int32)), .val (.ref oe)] [(.int (1 : Int32))]))) (fun _ k => XS.ifNo X23.here hx rfl (hb hby at_188) rfl ((if0 _ _).trans (teq (rfl : (0 : Int32) = (0 : Int32))).2) (XS.iconst X23.here hx rfl (hb hby at_191) (XS.goto X23.here hx rfl (pc0 := 192) (pc' := 196) rfl (hb hby at_192) (by decide) (by decide) k))) ?_
   obtain ⟨fs, hr, hrun, hended, hW, hsame⟩ := X23.leave (v := some (.int (1 : Int32))) (fun h => by rw [Bd.returns] at h; cases h)
   exact ⟨_, _, retN X23 hx (t := .boolean) Bd.returns (by simp) (hb hby at_196) hr, hrun, hended, _, _, rfl, (show Qrm0 Z p0 p1 p2 p3 p4 cs vv kvv ev2 ev3 t2 u2 ku2 t3 u3 ku3 oe h0 n0 _ T23.heap _ from (by rw [eh23]; exact ⟨rfl, N23⟩)), ReturnedEndW.of_narrow ⟨_, rfl⟩ hW (hsame.mono (by decide) (by decide))⟩
 · rw [hk]
   refine own_go (b := (s₁.setTop (mkF m 9 #[.val (.int p0), .val (.int p1), .val (.int p2), .val (.int p3), .val (.int p4), .val (.int (2 : Int32)), .unset, .unset, .unset, .unset, .unset, .unset, .unset, .unset] [(.int p1)]))) (fun _ k => XS.istore X0.here hx rfl (hb hby at_6) rfl (l' := #[.val (.int p0), .val (.int p1), .val (.int p2), .val (.int p3), .val (.int p4), .val (.int (2 : Int32)), .unset, .unset, .unset, .unset, .unset, .unset, .unset, .unset]) rfl (XS.iloadN X0.here hx rfl (hb hby at_8) rfl k)) ?_
   refine own_stat (W := 0) X0 hx hZ hown e0 (hw _ (List.mem_of_getElem? (i := 1) rfl)) (hw _ (List.mem_of_getElem? (i := 2) rfl)) (rmch l Z a0 hw [] p1 h0 n0 Z0) (hw _ (List.mem_of_getElem? (i := 4) rfl)) (hw _ (List.mem_of_getElem? (i := 3) rfl)) rfl (by rw [hml]; rfl) rfl (hb hby at_9) (lenOf pd__I_C rfl) rfl (by decide) (fun T25 v25 Ll25 X25 hQ25 => ?_)
   obtain ⟨rc_25, rfl, N25q, eh25, P25_0⟩ := hQ25
   have N25 := Fr.app N0 N25q
   refine own_go (b := (T25.setTop (mkF m 15 #[.val (.int p0), .val (.int p1), .val (.int p2), .val (.int p3), .val (.int p4), .val (.int (2 : Int32)), .val (.int rc_25), .unset, .unset, .unset, .unset, .unset, .unset, .unset] [(.int p2)]))) (fun _ k => XS.istore X25.here hx rfl (hb hby at_12) rfl (l' := #[.val (.int p0), .val (.int p1), .val (.int p2), .val (.int p3), .val (.int p4), .val (.int (2 : Int32)), .val (.int rc_25), .unset, .unset, .unset, .unset, .unset, .unset, .unset]) rfl (XS.iloadN X25.here hx rfl (hb hby at_14) rfl k)) ?_
   refine own_stat (W := 0) X25 hx hZ hown eh25 (hw _ (List.mem_of_getElem? (i := 1) rfl)) (hw _ (List.mem_of_getElem? (i := 2) rfl)) (rmch l Z a0 hw [] p2 h0 n0 Z0) (hw _ (List.mem_of_getElem? (i := 4) rfl)) (hw _ (List.mem_of_getElem? (i := 3) rfl)) rfl (by rw [hml]; rfl) rfl (hb hby at_15) (lenOf pd__I_C rfl) rfl (by decide) (fun T26 v26 Ll26 X26 hQ26 => ?_)
   obtain ⟨rc_26, rfl, N26q, eh26, P26_0⟩ := hQ26
   have N26 := Fr.app N25 N26q
   refine own_go (b := (T26.setTop (mkF m 21 #[.val (.int p0), .val (.int p1), .val (.int p2), .val (.int p3), .val (.int p4), .val (.int (2 : Int32)), .val (.int rc_25), .val (.int rc_26), .unset, .unset, .unset, .unset, .unset, .unset] [(.int p3)]))) (fun _ k => XS.istore X26.here hx rfl (hb hby at_18) rfl (l' := #[.val (.int p0), .val (.int p1), .val (.int p2), .val (.int p3), .val (.int p4), .val (.int (2 : Int32)), .val (.int rc_25), .val (.int rc_26), .unset, .unset, .unset, .unset, .unset, .unset]) rfl (XS.iloadN X26.here hx rfl (hb hby at_20) rfl k)) ?_
   refine own_stat (W := 0) X26 hx hZ hown eh26 (hw _ (List.mem_of_getElem? (i := 1) rfl)) (hw _ (List.mem_of_getElem? (i := 2) rfl)) (rmch l Z a0 hw [] p3 h0 n0 Z0) (hw _ (List.mem_of_getElem? (i := 4) rfl)) (hw _ (List.mem_of_getElem? (i := 3) rfl)) rfl (by rw [hml]; rfl) rfl (hb hby at_21) (lenOf pd__I_C rfl) rfl (by decide) (fun T27 v27 Ll27 X27 hQ27 => ?_)
   obtain ⟨rc_27, rfl, N27q, eh27, P27_0⟩ := hQ27
   have N27 := Fr.app N26 N27q
   refine own_go (b := (T27.setTop (mkF m 28 #[.val (.int p0), .val (.int p1), .val (.int p2), .val (.int p3), .val (.int p4), .val (.int (2 : Int32)), .val (.int rc_25), .val (.int rc_26), .val (.int rc_27), .unset, .unset, .unset, .unset, .unset] [(.int p4)]))) (fun _ k => XS.istore X27.here hx rfl (hb hby at_24) rfl (l' := #[.val (.int p0), .val (.int p1), .val (.int p2), .val (.int p3), .val (.int p4), .val (.int (2 : Int32)), .val (.int rc_25), .val (.int rc_26), .val (.int rc_27), .unset, .unset, .unset, .unset, .unset]) rfl (XS.iload X27.here hx rfl (hb hby at_26) rfl k)) ?_
   refine own_stat (W := 0) X27 hx hZ hown eh27 (hw _ (List.mem_of_getElem? (i := 1) rfl)) (hw _ (List.mem_of_getElem? (i := 2) rfl)) (rmch l Z a0 hw [] p4 h0 n0 Z0) (hw _ (List.mem_of_getElem? (i := 4) rfl)) (hw _ (List.mem_of_getElem? (i := 3) rfl)) rfl (by rw [hml]; rfl) rfl (hb hby at_28) (lenOf pd__I_C rfl) rfl (by decide) (fun T28 v28 Ll28 X28 hQ28 => ?_)
   obtain ⟨rc_28, rfl, N28q, eh28, P28_0⟩ := hQ28
   have N28 := Fr.app N27 N28q
   refine own_go (b := (T28.setTop (mkF m 43 #[.val (.int p0), .val (.int p1), .val (.int p2), .val (.int p3), .val (.int p4), .val (.int (2 : Int32)), .val (.int rc_25), .val (.int rc_26), .val (.int rc_27), .val (.int rc_28), .unset, .unset, .unset, .unset] [(.int rc_28), (.int rc_27), (.int rc_26), (.int rc_25), (.int (2 : Int32))]))) (fun _ k => XS.istore X28.here hx rfl (hb hby at_31) rfl (l' := #[.val (.int p0), .val (.int p1), .val (.int p2), .val (.int p3), .val (.int p4), .val (.int (2 : Int32)), .val (.int rc_25), .val (.int rc_26), .val (.int rc_27), .val (.int rc_28), .unset, .unset, .unset, .unset]) rfl (XS.iload X28.here hx rfl (hb hby at_33) rfl (XS.iload X28.here hx rfl (hb hby at_35) rfl (XS.iload X28.here hx rfl (hb hby at_37) rfl (XS.iload X28.here hx rfl (hb hby at_39) rfl (XS.iload X28.here hx rfl (hb hby at_41) rfl k)))))) ?_
   refine own_stat (W := 0) X28 hx hZ hown eh28 (hw _ (List.mem_of_getElem? (i := 5) rfl)) (hw _ (List.mem_of_getElem? (i := 6) rfl)) (rmmk_2 l Z a0 hw [] rc_25 rc_26 rc_27 rc_28 cs h0 n0 Z0 O0 S_COMPACT_STRINGS hcs P25_0 P26_0 P27_0 P28_0) (hw _ (List.mem_of_getElem? (i := 7) rfl)) (hw _ (List.mem_of_getElem? (i := 3) rfl)) rfl (by rw [hml]; rfl) rfl (hb hby at_43) (lenOf pd__ICCCC_Ljava_lang_String_ rfl) rfl (by decide) (fun T29 v29 Ll29 X29 hQ29 => ?_)
   obtain ⟨a_29, b_29, kb_29, rfl, N29q, K29, P29_0, P29_1, P29_2, P29_3, P29_4⟩ := hQ29
   have N29 := Fr.app N28 N29q
   have Zs30 : n0 ≤ T29.heap.size := Nat.le_trans Z0 K29.1
   refine own_go (b := (T29.setTop (mkF m 118 #[.val (.int p0), .val (.int p1), .val (.int p2), .val (.int p3), .val (.int p4), .val (.int (2 : Int32)), .val (.int rc_25), .val (.int rc_26), .val (.int rc_27), .val (.int rc_28), .val (.ref a_29), .val (.int (0 : Int32)), .val (.int (0 : Int32)), .unset] [(.ref a_29)]))) (fun _ k => XS.astore X29.here hx rfl (hb hby at_46) rfl rfl (l' := #[.val (.int p0), .val (.int p1), .val (.int p2), .val (.int p3), .val (.int p4), .val (.int (2 : Int32)), .val (.int rc_25), .val (.int rc_26), .val (.int rc_27), .val (.int rc_28), .val (.ref a_29), .unset, .unset, .unset]) rfl (XS.iload X29.here hx rfl (hb hby at_48) rfl (XS.iconst X29.here hx rfl (hb hby at_50) (XS.icmpYes X29.here hx rfl (pc0 := 51) (pc' := 79) rfl (hb hby at_51) rfl (feq (by decide : ¬ ((2 : Int32) = (3 : Int32)))).2 (by decide) (by decide) (XS.iconst X29.here hx rfl (hb hby at_79) (XS.istore X29.here hx rfl (hb hby at_80) rfl (l' := #[.val (.int p0), .val (.int p1), .val (.int p2), .val (.int p3), .val (.int p4), .val (.int (2 : Int32)), .val (.int rc_25), .val (.int rc_26), .val (.int rc_27), .val (.int rc_28), .val (.ref a_29), .val (.int (0 : Int32)), .unset, .unset]) rfl (XS.iload X29.here hx rfl (hb hby at_82) rfl (XS.iconst X29.here hx rfl (hb hby at_84) (XS.icmpYes X29.here hx rfl (pc0 := 85) (pc' := 113) rfl (hb hby at_85) rfl (feq (by decide : ¬ ((2 : Int32) = (3 : Int32)))).2 (by decide) (by decide) (XS.iconst X29.here hx rfl (hb hby at_113) (XS.istore X29.here hx rfl (hb hby at_114) rfl (l' := #[.val (.int p0), .val (.int p1), .val (.int p2), .val (.int p3), .val (.int p4), .val (.int (2 : Int32)), .val (.int rc_25), .val (.int rc_26), .val (.int rc_27), .val (.int rc_28), .val (.ref a_29), .val (.int (0 : Int32)), .val (.int (0 : Int32)), .unset]) rfl (XS.aload X29.here hx rfl (hb hby at_116) rfl rfl k)))))))))))) ?_
   have O32 := O0.keep K29 all0
   have gx33 : n0 ≤ a_29 := Nat.le_trans Z0 P29_0
   refine own_stat (W := 0) X29 hx hZ hown rfl (hw _ (List.mem_of_getElem? (i := 30) rfl)) (hw _ (List.mem_of_getElem? (i := 31) rfl)) (rmofN2 l Z a0 hw [] a_29 b_29 kb_29 (own_lt (nar .char rc_25)) (own_lt (nar .char rc_26)) cs vv kvv ev2 ev3 t2 u2 ku2 t3 u3 ku3 oe T29.heap n0 Zs30 O32 S_COMPACT_STRINGS hcs S__VALUES EZ_vv VZ_vv EZ_ev2 Fld0_ev2_text EZ_t2 Fld0_t2_coder Fld0_t2_value VZ_u2 EZ_ev3 Fld0_ev3_text EZ_t3 Fld0_t3_coder Fld0_t3_value VZ_u3 S_EMPTY gx33 P29_1 P29_3 P29_2 P29_4) (hw _ (List.mem_of_getElem? (i := 33) rfl)) (hw _ (List.mem_of_getElem? (i := 32) rfl)) rfl (by rw [hml]; rfl) rfl (hb hby at_118) (lenOf pd__Ljava_lang_String__Ljava_util_Optional_ rfl) rfl (by decide) (fun T31 v31 Ll31 X31 hQ31 => ?_)
   obtain ⟨rfl, N31q, K31⟩ := hQ31
   have N31 := Fr.app N29 N31q
   have Zs34 : n0 ≤ T31.heap.size := Nat.le_trans Zs30 K31.1
   refine own_go (b := (T31.setTop (mkF m 185 #[.val (.int p0), .val (.int p1), .val (.int p2), .val (.int p3), .val (.int p4), .val (.int (2 : Int32)), .val (.int rc_25), .val (.int rc_26), .val (.int rc_27), .val (.int rc_28), .val (.ref a_29), .val (.int (0 : Int32)), .val (.int (0 : Int32)), .val (.ref oe)] [(.ref oe)]))) (fun _ k => XS.astore X31.here hx rfl (hb hby at_121) rfl rfl (l' := #[.val (.int p0), .val (.int p1), .val (.int p2), .val (.int p3), .val (.int p4), .val (.int (2 : Int32)), .val (.int rc_25), .val (.int rc_26), .val (.int rc_27), .val (.int rc_28), .val (.ref a_29), .val (.int (0 : Int32)), .val (.int (0 : Int32)), .val (.ref oe)]) rfl (XS.iload X31.here hx rfl (hb hby at_123) rfl (XS.ifYes X31.here hx rfl (pc0 := 125) (pc' := 153) rfl (hb hby at_125) rfl ((if0 _ _).trans (teq (rfl : (0 : Int32) = (0 : Int32))).1) (by decide) (by decide) (XS.iload X31.here hx rfl (hb hby at_153) rfl (XS.ifYes X31.here hx rfl (pc0 := 155) (pc' := 183) rfl (hb hby at_155) rfl ((if0 _ _).trans (teq (rfl : (0 : Int32) = (0 : Int32))).1) (by decide) (by decide) (XS.aload X31.here hx rfl (hb hby at_183) rfl rfl k)))))) ?_
   have O36 := O32.keep K31 all0
   refine own_virt (W := 0) X31 hx hZ hown rfl (hw _ (List.mem_of_getElem? (i := 69) rfl)) (hw _ (List.mem_of_getElem? (i := 70) rfl)) (hw _ (List.mem_of_getElem? (i := 72) rfl)) (hw _ (List.mem_of_getElem? (i := 71) rfl)) (rmip0 l Z a0 hw [] oe T31.heap n0 Zs34 (Fld0_oe_value.ext O36.2)) (hw _ (List.mem_of_getElem? (i := 73) rfl)) (hw _ (List.mem_of_getElem? (i := 66) rfl)) (EZ_oe.ext O36.2) rfl (by rw [hml]; rfl) rfl (hb hby at_185) (lenOf pd___Z rfl) rfl (by decide) (fun T35 v35 Ll35 X35 hQ35 => ?_)
   obtain ⟨rfl, N35q, eh35⟩ := hQ35
   have N35 := Fr.app N31 N35q
   refine own_go (b := (T35.setTop (mkF m 196 #[.val (.int p0), .val (.int p1), .val (.int p2), .val (.int p3), .val (.int p4), .val (.int (2 : Int32)), .val (.int rc_25), .val (.int rc_26), .val (.int rc_27), .val (.int rc_28), .val (.ref a_29), .val (.int (0 : Int32)), .val (.int (0 : Int32)), .val (.ref oe)] [(.int (1 : Int32))]))) (fun _ k => XS.ifNo X35.here hx rfl (hb hby at_188) rfl ((if0 _ _).trans (teq (rfl : (0 : Int32) = (0 : Int32))).2) (XS.iconst X35.here hx rfl (hb hby at_191) (XS.goto X35.here hx rfl (pc0 := 192) (pc' := 196) rfl (hb hby at_192) (by decide) (by decide) k))) ?_
   obtain ⟨fs, hr, hrun, hended, hW, hsame⟩ := X35.leave (v := some (.int (1 : Int32))) (fun h => by rw [Bd.returns] at h; cases h)
   exact ⟨_, _, retN X35 hx (t := .boolean) Bd.returns (by simp) (hb hby at_196) hr, hrun, hended, _, _, rfl, (show Qrm0 Z p0 p1 p2 p3 p4 cs vv kvv ev2 ev3 t2 u2 ku2 t3 u3 ku3 oe h0 n0 _ T35.heap _ from (by rw [eh35]; exact ⟨rfl, N35⟩)), ReturnedEndW.of_narrow ⟨_, rfl⟩ hW (hsame.mono (by decide) (by decide))⟩
 · rw [hk]
   refine own_go (b := (s₁.setTop (mkF m 9 #[.val (.int p0), .val (.int p1), .val (.int p2), .val (.int p3), .val (.int p4), .val (.int (3 : Int32)), .unset, .unset, .unset, .unset, .unset, .unset, .unset, .unset] [(.int p1)]))) (fun _ k => XS.istore X0.here hx rfl (hb hby at_6) rfl (l' := #[.val (.int p0), .val (.int p1), .val (.int p2), .val (.int p3), .val (.int p4), .val (.int (3 : Int32)), .unset, .unset, .unset, .unset, .unset, .unset, .unset, .unset]) rfl (XS.iloadN X0.here hx rfl (hb hby at_8) rfl k)) ?_
   refine own_stat (W := 0) X0 hx hZ hown e0 (hw _ (List.mem_of_getElem? (i := 1) rfl)) (hw _ (List.mem_of_getElem? (i := 2) rfl)) (rmch l Z a0 hw [] p1 h0 n0 Z0) (hw _ (List.mem_of_getElem? (i := 4) rfl)) (hw _ (List.mem_of_getElem? (i := 3) rfl)) rfl (by rw [hml]; rfl) rfl (hb hby at_9) (lenOf pd__I_C rfl) rfl (by decide) (fun T37 v37 Ll37 X37 hQ37 => ?_)
   obtain ⟨rc_37, rfl, N37q, eh37, P37_0⟩ := hQ37
   have N37 := Fr.app N0 N37q
   refine own_go (b := (T37.setTop (mkF m 15 #[.val (.int p0), .val (.int p1), .val (.int p2), .val (.int p3), .val (.int p4), .val (.int (3 : Int32)), .val (.int rc_37), .unset, .unset, .unset, .unset, .unset, .unset, .unset] [(.int p2)]))) (fun _ k => XS.istore X37.here hx rfl (hb hby at_12) rfl (l' := #[.val (.int p0), .val (.int p1), .val (.int p2), .val (.int p3), .val (.int p4), .val (.int (3 : Int32)), .val (.int rc_37), .unset, .unset, .unset, .unset, .unset, .unset, .unset]) rfl (XS.iloadN X37.here hx rfl (hb hby at_14) rfl k)) ?_
   refine own_stat (W := 0) X37 hx hZ hown eh37 (hw _ (List.mem_of_getElem? (i := 1) rfl)) (hw _ (List.mem_of_getElem? (i := 2) rfl)) (rmch l Z a0 hw [] p2 h0 n0 Z0) (hw _ (List.mem_of_getElem? (i := 4) rfl)) (hw _ (List.mem_of_getElem? (i := 3) rfl)) rfl (by rw [hml]; rfl) rfl (hb hby at_15) (lenOf pd__I_C rfl) rfl (by decide) (fun T38 v38 Ll38 X38 hQ38 => ?_)
   obtain ⟨rc_38, rfl, N38q, eh38, P38_0⟩ := hQ38
   have N38 := Fr.app N37 N38q
   refine own_go (b := (T38.setTop (mkF m 21 #[.val (.int p0), .val (.int p1), .val (.int p2), .val (.int p3), .val (.int p4), .val (.int (3 : Int32)), .val (.int rc_37), .val (.int rc_38), .unset, .unset, .unset, .unset, .unset, .unset] [(.int p3)]))) (fun _ k => XS.istore X38.here hx rfl (hb hby at_18) rfl (l' := #[.val (.int p0), .val (.int p1), .val (.int p2), .val (.int p3), .val (.int p4), .val (.int (3 : Int32)), .val (.int rc_37), .val (.int rc_38), .unset, .unset, .unset, .unset, .unset, .unset]) rfl (XS.iloadN X38.here hx rfl (hb hby at_20) rfl k)) ?_
   refine own_stat (W := 0) X38 hx hZ hown eh38 (hw _ (List.mem_of_getElem? (i := 1) rfl)) (hw _ (List.mem_of_getElem? (i := 2) rfl)) (rmch l Z a0 hw [] p3 h0 n0 Z0) (hw _ (List.mem_of_getElem? (i := 4) rfl)) (hw _ (List.mem_of_getElem? (i := 3) rfl)) rfl (by rw [hml]; rfl) rfl (hb hby at_21) (lenOf pd__I_C rfl) rfl (by decide) (fun T39 v39 Ll39 X39 hQ39 => ?_)
   obtain ⟨rc_39, rfl, N39q, eh39, P39_0⟩ := hQ39
   have N39 := Fr.app N38 N39q
   refine own_go (b := (T39.setTop (mkF m 28 #[.val (.int p0), .val (.int p1), .val (.int p2), .val (.int p3), .val (.int p4), .val (.int (3 : Int32)), .val (.int rc_37), .val (.int rc_38), .val (.int rc_39), .unset, .unset, .unset, .unset, .unset] [(.int p4)]))) (fun _ k => XS.istore X39.here hx rfl (hb hby at_24) rfl (l' := #[.val (.int p0), .val (.int p1), .val (.int p2), .val (.int p3), .val (.int p4), .val (.int (3 : Int32)), .val (.int rc_37), .val (.int rc_38), .val (.int rc_39), .unset, .unset, .unset, .unset, .unset]) rfl (XS.iload X39.here hx rfl (hb hby at_26) rfl k)) ?_
   refine own_stat (W := 0) X39 hx hZ hown eh39 (hw _ (List.mem_of_getElem? (i := 1) rfl)) (hw _ (List.mem_of_getElem? (i := 2) rfl)) (rmch l Z a0 hw [] p4 h0 n0 Z0) (hw _ (List.mem_of_getElem? (i := 4) rfl)) (hw _ (List.mem_of_getElem? (i := 3) rfl)) rfl (by rw [hml]; rfl) rfl (hb hby at_28) (lenOf pd__I_C rfl) rfl (by decide) (fun T40 v40 Ll40 X40 hQ40 => ?_)
   obtain ⟨rc_40, rfl, N40q, eh40, P40_0⟩ := hQ40
   have N40 := Fr.app N39 N40q
   refine own_go (b := (T40.setTop (mkF m 43 #[.val (.int p0), .val (.int p1), .val (.int p2), .val (.int p3), .val (.int p4), .val (.int (3 : Int32)), .val (.int rc_37), .val (.int rc_38), .val (.int rc_39), .val (.int rc_40), .unset, .unset, .unset, .unset] [(.int rc_40), (.int rc_39), (.int rc_38), (.int rc_37), (.int (3 : Int32))]))) (fun _ k => XS.istore X40.here hx rfl (hb hby at_31) rfl (l' := #[.val (.int p0), .val (.int p1), .val (.int p2), .val (.int p3), .val (.int p4), .val (.int (3 : Int32)), .val (.int rc_37), .val (.int rc_38), .val (.int rc_39), .val (.int rc_40), .unset, .unset, .unset, .unset]) rfl (XS.iload X40.here hx rfl (hb hby at_33) rfl (XS.iload X40.here hx rfl (hb hby at_35) rfl (XS.iload X40.here hx rfl (hb hby at_37) rfl (XS.iload X40.here hx rfl (hb hby at_39) rfl (XS.iload X40.here hx rfl (hb hby at_41) rfl k)))))) ?_
   refine own_stat (W := 0) X40 hx hZ hown eh40 (hw _ (List.mem_of_getElem? (i := 5) rfl)) (hw _ (List.mem_of_getElem? (i := 6) rfl)) (rmmk_3 l Z a0 hw [] rc_37 rc_38 rc_39 rc_40 cs h0 n0 Z0 O0 S_COMPACT_STRINGS hcs P37_0 P38_0 P39_0 P40_0) (hw _ (List.mem_of_getElem? (i := 7) rfl)) (hw _ (List.mem_of_getElem? (i := 3) rfl)) rfl (by rw [hml]; rfl) rfl (hb hby at_43) (lenOf pd__ICCCC_Ljava_lang_String_ rfl) rfl (by decide) (fun T41 v41 Ll41 X41 hQ41 => ?_)
   obtain ⟨a_41, b_41, kb_41, rfl, N41q, K41, P41_0, P41_1, P41_2, P41_3, P41_4⟩ := hQ41
   have N41 := Fr.app N40 N41q
   have Zs42 : n0 ≤ T41.heap.size := Nat.le_trans Z0 K41.1
   refine own_go (b := (T41.setTop (mkF m 58 #[.val (.int p0), .val (.int p1), .val (.int p2), .val (.int p3), .val (.int p4), .val (.int (3 : Int32)), .val (.int rc_37), .val (.int rc_38), .val (.int rc_39), .val (.int rc_40), .val (.ref a_41), .unset, .unset, .unset] [(.int (51 : Int32)), (.int rc_37)]))) (fun _ k => XS.astore X41.here hx rfl (hb hby at_46) rfl rfl (l' := #[.val (.int p0), .val (.int p1), .val (.int p2), .val (.int p3), .val (.int p4), .val (.int (3 : Int32)), .val (.int rc_37), .val (.int rc_38), .val (.int rc_39), .val (.int rc_40), .val (.ref a_41), .unset, .unset, .unset]) rfl (XS.iload X41.here hx rfl (hb hby at_48) rfl (XS.iconst X41.here hx rfl (hb hby at_50) (XS.icmpNo X41.here hx rfl (hb hby at_51) rfl (teq (rfl : (3 : Int32) = (3 : Int32))).2 (XS.iload X41.here hx rfl (hb hby at_54) rfl (XS.bipush X41.here hx rfl (hb hby at_56) k)))))) ?_
   by_cases hc58_43 : rc_37 = (51 : Int32)
   · skip
     refine own_go (b := (T41.setTop (mkF m 65 #[.val (.int p0), .val (.int p1), .val (.int p2), .val (.int p3), .val (.int p4), .val (.int (3 : Int32)), .val (.int rc_37), .val (.int rc_38), .val (.int rc_39), .val (.int rc_40), .val (.ref a_41), .unset, .unset, .unset] [(.int (46 : Int32)), (.int rc_38)]))) (fun _ k => XS.icmpNo X41.here hx rfl (hb hby at_58) rfl (teq hc58_43).2 (XS.iload X41.here hx rfl (hb hby at_61) rfl (XS.bipush X41.here hx rfl (hb hby at_63) k))) ?_
     by_cases hc65_44 : rc_38 = (46 : Int32)
     · skip
       refine own_go (b := (T41.setTop (mkF m 72 #[.val (.int p0), .val (.int p1), .val (.int p2), .val (.int p3), .val (.int p4), .val (.int (3 : Int32)), .val (.int rc_37), .val (.int rc_38), .val (.int rc_39), .val (.int rc_40), .val (.ref a_41), .unset, .unset, .unset] [(.int (50 : Int32)), (.int rc_39)]))) (fun _ k => XS.icmpNo X41.here hx rfl (hb hby at_65) rfl (teq hc65_44).2 (XS.iload X41.here hx rfl (hb hby at_68) rfl (XS.bipush X41.here hx rfl (hb hby at_70) k))) ?_
       by_cases hc72_45 : rc_39 = (50 : Int32)
       · skip
         refine own_go (b := (T41.setTop (mkF m 113 #[.val (.int p0), .val (.int p1), .val (.int p2), .val (.int p3), .val (.int p4), .val (.int (3 : Int32)), .val (.int rc_37), .val (.int rc_38), .val (.int rc_39), .val (.int rc_40), .val (.ref a_41), .val (.int (1 : Int32)), .unset, .unset] []))) (fun _ k => XS.icmpNo X41.here hx rfl (hb hby at_72) rfl (teq hc72_45).2 (XS.iconst X41.here hx rfl (hb hby at_75) (XS.goto X41.here hx rfl (pc0 := 76) (pc' := 80) rfl (hb hby at_76) (by decide) (by decide) (XS.istore X41.here hx rfl (hb hby at_80) rfl (l' := #[.val (.int p0), .val (.int p1), .val (.int p2), .val (.int p3), .val (.int p4), .val (.int (3 : Int32)), .val (.int rc_37), .val (.int rc_38), .val (.int rc_39), .val (.int rc_40), .val (.ref a_41), .val (.int (1 : Int32)), .unset, .unset]) rfl (XS.iload X41.here hx rfl (hb hby at_82) rfl (XS.iconst X41.here hx rfl (hb hby at_84) (XS.icmpNo X41.here hx rfl (hb hby at_85) rfl (teq (rfl : (3 : Int32) = (3 : Int32))).2 (XS.iload X41.here hx rfl (hb hby at_88) rfl (XS.bipush X41.here hx rfl (hb hby at_90) (XS.icmpNo X41.here hx rfl (hb hby at_92) rfl (teq hc58_43).2 (XS.iload X41.here hx rfl (hb hby at_95) rfl (XS.bipush X41.here hx rfl (hb hby at_97) (XS.icmpNo X41.here hx rfl (hb hby at_99) rfl (teq hc65_44).2 (XS.iload X41.here hx rfl (hb hby at_102) rfl (XS.bipush X41.here hx rfl (hb hby at_104) (XS.icmpYes X41.here hx rfl (pc0 := 106) (pc' := 113) rfl (hb hby at_106) rfl (feq (own_51 hc72_45)).2 (by decide) (by decide) k)))))))))))))))) ?_
         refine own_go (b := (T41.setTop (mkF m 118 #[.val (.int p0), .val (.int p1), .val (.int p2), .val (.int p3), .val (.int p4), .val (.int (3 : Int32)), .val (.int rc_37), .val (.int rc_38), .val (.int rc_39), .val (.int rc_40), .val (.ref a_41), .val (.int (1 : Int32)), .val (.int (0 : Int32)), .unset] [(.ref a_41)]))) (fun _ k => XS.iconst X41.here hx rfl (hb hby at_113) (XS.istore X41.here hx rfl (hb hby at_114) rfl (l' := #[.val (.int p0), .val (.int p1), .val (.int p2), .val (.int p3), .val (.int p4), .val (.int (3 : Int32)), .val (.int rc_37), .val (.int rc_38), .val (.int rc_39), .val (.int rc_40), .val (.ref a_41), .val (.int (1 : Int32)), .val (.int (0 : Int32)), .unset]) rfl (XS.aload X41.here hx rfl (hb hby at_116) rfl rfl k))) ?_
         have O47 := O0.keep K41 all0
         have gx48 : n0 ≤ a_41 := Nat.le_trans Z0 P41_0
         refine own_stat (W := 0) X41 hx hZ hown rfl (hw _ (List.mem_of_getElem? (i := 30) rfl)) (hw _ (List.mem_of_getElem? (i := 31) rfl)) (rmofA l Z a0 hw [] a_41 b_41 kb_41 (own_lt (nar .char rc_37)) (own_lt (nar .char rc_38)) (own_lt (nar .char rc_39)) cs vv kvv ev2 ev3 t2 u2 ku2 t3 u3 ku3 oe T41.heap n0 Zs42 O47 S_COMPACT_STRINGS hcs S__VALUES EZ_vv VZ_vv EZ_ev2 Fld0_ev2_text EZ_t2 Fld0_t2_coder Fld0_t2_value VZ_u2 EZ_ev3 Fld0_ev3_text EZ_t3 Fld0_t3_coder Fld0_t3_value VZ_u3 S_EMPTY gx48 P41_1 P41_3 P41_2 P41_4 ((own_ltk P37_0 (by decide) (by decide)).2 hc58_43) ((own_ltk P38_0 (by decide) (by decide)).2 hc65_44) ((own_ltk P39_0 (by decide) (by decide)).2 hc72_45)) (hw _ (List.mem_of_getElem? (i := 33) rfl)) (hw _ (List.mem_of_getElem? (i := 32) rfl)) rfl (by rw [hml]; rfl) rfl (hb hby at_118) (lenOf pd__Ljava_lang_String__Ljava_util_Optional_ rfl) rfl (by decide) (fun T46 v46 Ll46 X46 hQ46 => ?_)
         obtain ⟨o_46, rfl, N46q, K46, P46_0, P46_1, P46_2⟩ := hQ46
         have N46 := Fr.app N41 N46q
         have Zs49 : n0 ≤ T46.heap.size := Nat.le_trans Zs42 K46.1
         refine own_go (b := (T46.setTop (mkF m 130 #[.val (.int p0), .val (.int p1), .val (.int p2), .val (.int p3), .val (.int p4), .val (.int (3 : Int32)), .val (.int rc_37), .val (.int rc_38), .val (.int rc_39), .val (.int rc_40), .val (.ref a_41), .val (.int (1 : Int32)), .val (.int (0 : Int32)), .val (.ref o_46)] [(.ref o_46)]))) (fun _ k => XS.astore X46.here hx rfl (hb hby at_121) rfl rfl (l' := #[.val (.int p0), .val (.int p1), .val (.int p2), .val (.int p3), .val (.int p4), .val (.int (3 : Int32)), .val (.int rc_37), .val (.int rc_38), .val (.int rc_39), .val (.int rc_40), .val (.ref a_41), .val (.int (1 : Int32)), .val (.int (0 : Int32)), .val (.ref o_46)]) rfl (XS.iload X46.here hx rfl (hb hby at_123) rfl (XS.ifNo X46.here hx rfl (hb hby at_125) rfl ((if0 _ _).trans (feq (by decide : ¬ ((1 : Int32) = (0 : Int32)))).1) (XS.aload X46.here hx rfl (hb hby at_128) rfl rfl k)))) ?_
         refine own_virt (W := 0) X46 hx hZ hown rfl (hw _ (List.mem_of_getElem? (i := 69) rfl)) (hw _ (List.mem_of_getElem? (i := 70) rfl)) (hw _ (List.mem_of_getElem? (i := 72) rfl)) (hw _ (List.mem_of_getElem? (i := 71) rfl)) (rmip1 l Z a0 hw [] o_46 ev2 T46.heap n0 Zs49 P46_2) (hw _ (List.mem_of_getElem? (i := 73) rfl)) (hw _ (List.mem_of_getElem? (i := 66) rfl)) P46_1 rfl (by rw [hml]; rfl) rfl (hb hby at_130) (lenOf pd___Z rfl) rfl (by decide) (fun T50 v50 Ll50 X50 hQ50 => ?_)
         obtain ⟨rfl, N50q, eh50⟩ := hQ50
         have N50 := Fr.app N46 N50q
         refine own_go (b := (T50.setTop (mkF m 138 #[.val (.int p0), .val (.int p1), .val (.int p2), .val (.int p3), .val (.int p4), .val (.int (3 : Int32)), .val (.int rc_37), .val (.int rc_38), .val (.int rc_39), .val (.int rc_40), .val (.ref a_41), .val (.int (1 : Int32)), .val (.int (0 : Int32)), .val (.ref o_46)] [(.ref o_46)]))) (fun _ k => XS.ifNo X50.here hx rfl (hb hby at_133) rfl ((if0 _ _).trans (feq (by decide : ¬ ((1 : Int32) = (0 : Int32)))).1) (XS.aload X50.here hx rfl (hb hby at_136) rfl rfl k)) ?_
         refine own_virt (W := 0) X50 hx hZ hown eh50 (hw _ (List.mem_of_getElem? (i := 100) rfl)) (hw _ (List.mem_of_getElem? (i := 101) rfl)) (hw _ (List.mem_of_getElem? (i := 103) rfl)) (hw _ (List.mem_of_getElem? (i := 102) rfl)) (rmog l Z a0 hw [] o_46 ev2 T46.heap n0 Zs49 P46_2) (hw _ (List.mem_of_getElem? (i := 104) rfl)) (hw _ (List.mem_of_getElem? (i := 66) rfl)) P46_1 rfl (by rw [hml]; rfl) rfl (hb hby at_138) (lenOf pd___Ljava_lang_Object_ rfl) rfl (by decide) (fun T51 v51 Ll51 X51 hQ51 => ?_)
         obtain ⟨rfl, N51q, eh51⟩ := hQ51
         have N51 := Fr.app N50 N51q
         have O52 := O47.keep K46 all0
         obtain ⟨T53, X53, e53, st53⟩ := getS2 X51 hx hZ hown (host := "") (Or.inl (hw _ (List.mem_of_getElem? (i := 105) rfl))) Via.refl eh51 (S_V3_2.ext O52.2) (g := (mkF m 141 #[.val (.int p0), .val (.int p1), .val (.int p2), .val (.int p3), .val (.int p4), .val (.int (3 : Int32)), .val (.int rc_37), .val (.int rc_38), .val (.int rc_39), .val (.int rc_40), .val (.ref a_41), .val (.int (1 : Int32)), .val (.int (0 : Int32)), .val (.ref o_46)] [(.ref ev2)])) rfl (hb hby at_141)
         refine own_go (b := (T53.setTop (mkF m 152 #[.val (.int p0), .val (.int p1), .val (.int p2), .val (.int p3), .val (.int p4), .val (.int (3 : Int32)), .val (.int rc_37), .val (.int rc_38), .val (.int rc_39), .val (.int rc_40), .val (.ref a_41), .val (.int (1 : Int32)), .val (.int (0 : Int32)), .val (.ref o_46)] [(.int (1 : Int32))]))) (fun _ k => st53 _ (Jvm.RoadKit.acmp (g := (mkF m 144 #[.val (.int p0), .val (.int p1), .val (.int p2), .val (.int p3), .val (.int p4), .val (.int (3 : Int32)), .val (.int rc_37), .val (.int rc_38), .val (.int rc_39), .val (.int rc_40), .val (.ref a_41), .val (.int (1 : Int32)), .val (.int (0 : Int32)), .val (.ref o_46)] [(.ref ev2), (.ref ev2)])) X53 hx rfl rfl rfl (pc0 := 144) (pc' := 147) (same := true) rfl (hb hby at_144) rfl (decide_eq_true rfl) (by decide) (by decide) (XS.iconst X53.here hx rfl (hb hby at_147) (XS.goto X53.here hx rfl (pc0 := 148) (pc' := 152) rfl (hb hby at_148) (by decide) (by decide) k)))) ?_
         obtain ⟨fs, hr, hrun, hended, hW, hsame⟩ := X53.leave (v := some (.int (1 : Int32))) (fun h => by rw [Bd.returns] at h; cases h)
         exact ⟨_, _, retN X53 hx (t := .boolean) Bd.returns (by simp) (hb hby at_152) hr, hrun, hended, _, _, rfl, (show Qrm0 Z p0 p1 p2 p3 p4 cs vv kvv ev2 ev3 t2 u2 ku2 t3 u3 ku3 oe h0 n0 _ T53.heap _ from (by rw [e53]; exact ⟨rfl, N51⟩)), ReturnedEndW.of_narrow ⟨_, rfl⟩ hW (hsame.mono (by decide) (by decide))⟩
       · skip
         refine own_go (b := (T41.setTop (mkF m 106 #[.val (.int p0), .val (.int p1), .val (.int p2), .val (.int p3), .val (.int p4), .val (.int (3 : Int32)), .val (.int rc_37), .val (.int rc_38), .val (.int rc_39), .val (.int rc_40), .val (.ref a_41), .val (.int (0 : Int32)), .unset, .unset] [(.int (51 : Int32)), (.int rc_39)]))) (fun _ k => XS.icmpYes X41.here hx rfl (pc0 := 72) (pc' := 79) rfl (hb hby at_72) rfl (feq hc72_45).2 (by decide) (by decide) (XS.iconst X41.here hx rfl (hb hby at_79) (XS.istore X41.here hx rfl (hb hby at_80) rfl (l' := #[.val (.int p0), .val (.int p1), .val (.int p2), .val (.int p3), .val (.int p4), .val (.int (3 : Int32)), .val (.int rc_37), .val (.int rc_38), .val (.int rc_39), .val (.int rc_40), .val (.ref a_41), .val (.int (0 : Int32)), .unset, .unset]) rfl (XS.iload X41.here hx rfl (hb hby at_82) rfl (XS.iconst X41.here hx rfl (hb hby at_84) (XS.icmpNo X41.here hx rfl (hb hby at_85) rfl (teq (rfl : (3 : Int32) = (3 : Int32))).2 (XS.iload X41.here hx rfl (hb hby at_88) rfl (XS.bipush X41.here hx rfl (hb hby at_90) (XS.icmpNo X41.here hx rfl (hb hby at_92) rfl (teq hc58_43).2 (XS.iload X41.here hx rfl (hb hby at_95) rfl (XS.bipush X41.here hx rfl (hb hby at_97) (XS.icmpNo X41.here hx rfl (hb hby at_99) rfl (teq hc65_44).2 (XS.iload X41.here hx rfl (hb hby at_102) rfl (XS.bipush X41.here hx rfl (hb hby at_104) k)))))))))))))) ?_
         by_cases hc106_54 : rc_39 = (51 : Int32)
         · skip
           refine own_go (b := (T41.setTop (mkF m 118 #[.val (.int p0), .val (.int p1), .val (.int p2), .val (.int p3), .val (.int p4), .val (.int (3 : Int32)), .val (.int rc_37), .val (.int rc_38), .val (.int rc_39), .val (.int rc_40), .val (.ref a_41), .val (.int (0 : Int32)), .val (.int (1 : Int32)), .unset] [(.ref a_41)]))) (fun _ k => XS.icmpNo X41.here hx rfl (hb hby at_106) rfl (teq hc106_54).2 (XS.iconst X41.here hx rfl (hb hby at_109) (XS.goto X41.here hx rfl (pc0 := 110) (pc' := 114) rfl (hb hby at_110) (by decide) (by decide) (XS.istore X41.here hx rfl (hb hby at_114) rfl (l' := #[.val (.int p0), .val (.int p1), .val (.int p2), .val (.int p3), .val (.int p4), .val (.int (3 : Int32)), .val (.int rc_37), .val (.int rc_38), .val (.int rc_39), .val (.int rc_40), .val (.ref a_41), .val (.int (0 : Int32)), .val (.int (1 : Int32)), .unset]) rfl (XS.aload X41.here hx rfl (hb hby at_116) rfl rfl k))))) ?_
           have O56 := O0.keep K41 all0
           have gx57 : n0 ≤ a_41 := Nat.le_trans Z0 P41_0
           refine own_stat (W := 0) X41 hx hZ hown rfl (hw _ (List.mem_of_getElem? (i := 30) rfl)) (hw _ (List.mem_of_getElem? (i := 31) rfl)) (rmofB l Z a0 hw [] a_41 b_41 kb_41 (own_lt (nar .char rc_37)) (own_lt (nar .char rc_38)) (own_lt (nar .char rc_39)) cs vv kvv ev2 ev3 t2 u2 ku2 t3 u3 ku3 oe T41.heap n0 Zs42 O56 S_COMPACT_STRINGS hcs S__VALUES EZ_vv VZ_vv EZ_ev2 Fld0_ev2_text EZ_t2 Fld0_t2_coder Fld0_t2_value VZ_u2 EZ_ev3 Fld0_ev3_text EZ_t3 Fld0_t3_coder Fld0_t3_value VZ_u3 S_EMPTY gx57 P41_1 P41_3 P41_2 P41_4 ((own_ltk P37_0 (by decide) (by decide)).2 hc58_43) ((own_ltk P38_0 (by decide) (by decide)).2 hc65_44) (fun q => hc72_45 ((own_ltk P39_0 (by decide) (by decide)).1 q)) ((own_ltk P39_0 (by decide) (by decide)).2 hc106_54)) (hw _ (List.mem_of_getElem? (i := 33) rfl)) (hw _ (List.mem_of_getElem? (i := 32) rfl)) rfl (by rw [hml]; rfl) rfl (hb hby at_118) (lenOf pd__Ljava_lang_String__Ljava_util_Optional_ rfl) rfl (by decide) (fun T55 v55 Ll55 X55 hQ55 => ?_)
           obtain ⟨o_55, rfl, N55q, K55, P55_0, P55_1, P55_2⟩ := hQ55
           have N55 := Fr.app N41 N55q
           have Zs58 : n0 ≤ T55.heap.size := Nat.le_trans Zs42 K55.1
           refine own_go (b := (T55.setTop (mkF m 160 #[.val (.int p0), .val (.int p1), .val (.int p2), .val (.int p3), .val (.int p4), .val (.int (3 : Int32)), .val (.int rc_37), .val (.int rc_38), .val (.int rc_39), .val (.int rc_40), .val (.ref a_41), .val (.int (0 : Int32)), .val (.int (1 : Int32)), .val (.ref o_55)] [(.ref o_55)]))) (fun _ k => XS.astore X55.here hx rfl (hb hby at_121) rfl rfl (l' := #[.val (.int p0), .val (.int p1), .val (.int p2), .val (.int p3), .val (.int p4), .val (.int (3 : Int32)), .val (.int rc_37), .val (.int rc_38), .val (.int rc_39), .val (.int rc_40), .val (.ref a_41), .val (.int (0 : Int32)), .val (.int (1 : Int32)), .val (.ref o_55)]) rfl (XS.iload X55.here hx rfl (hb hby at_123) rfl (XS.ifYes X55.here hx rfl (pc0 := 125) (pc' := 153) rfl (hb hby at_125) rfl ((if0 _ _).trans (teq (rfl : (0 : Int32) = (0 : Int32))).1) (by decide) (by decide) (XS.iload X55.here hx rfl (hb hby at_153) rfl (XS.ifNo X55.here hx rfl (hb hby at_155) rfl ((if0 _ _).trans (feq (by decide : ¬ ((1 : Int32) = (0 : Int32)))).1) (XS.aload X55.here hx rfl (hb hby at_158) rfl rfl k)))))) ?_
           refine own_virt (W := 0) X55 hx hZ hown rfl (hw _ (List.mem_of_getElem? (i := 69) rfl)) (hw _ (List.mem_of_getElem? (i := 70) rfl)) (hw _ (List.mem_of_getElem? (i := 72) rfl)) (hw _ (List.mem_of_getElem? (i := 71) rfl)) (rmip1 l Z a0 hw [] o_55 ev3 T55.heap n0 Zs58 P55_2) (hw _ (List.mem_of_getElem? (i := 73) rfl)) (hw _ (List.mem_of_getElem? (i := 66) rfl)) P55_1 rfl (by rw [hml]; rfl) rfl (hb hby at_160) (lenOf pd___Z rfl) rfl (by decide) (fun T59 v59 Ll59 X59 hQ59 => ?_)
           obtain ⟨rfl, N59q, eh59⟩ := hQ59
           have N59 := Fr.app N55 N59q
           refine own_go (b := (T59.setTop (mkF m 168 #[.val (.int p0), .val (.int p1), .val (.int p2), .val (.int p3), .val (.int p4), .val (.int (3 : Int32)), .val (.int rc_37), .val (.int rc_38), .val (.int rc_39), .val (.int rc_40), .val (.ref a_41), .val (.int (0 : Int32)), .val (.int (1 : Int32)), .val (.ref o_55)] [(.ref o_55)]))) (fun _ k => XS.ifNo X59.here hx rfl (hb hby at_163) rfl ((if0 _ _).trans (feq (by decide : ¬ ((1 : Int32) = (0 : Int32)))).1) (XS.aload X59.here hx rfl (hb hby at_166) rfl rfl k)) ?_
           refine own_virt (W := 0) X59 hx hZ hown eh59 (hw _ (List.mem_of_getElem? (i := 100) rfl)) (hw _ (List.mem_of_getElem? (i := 101) rfl)) (hw _ (List.mem_of_getElem? (i := 103) rfl)) (hw _ (List.mem_of_getElem? (i := 102) rfl)) (rmog l Z a0 hw [] o_55 ev3 T55.heap n0 Zs58 P55_2) (hw _ (List.mem_of_getElem? (i := 104) rfl)) (hw _ (List.mem_of_getElem? (i := 66) rfl)) P55_1 rfl (by rw [hml]; rfl) rfl (hb hby at_168) (lenOf pd___Ljava_lang_Object_ rfl) rfl (by decide) (fun T60 v60 Ll60 X60 hQ60 => ?_)
           obtain ⟨rfl, N60q, eh60⟩ := hQ60
           have N60 := Fr.app N59 N60q
           have O61 := O56.keep K55 all0
           obtain ⟨T62, X62, e62, st62⟩ := getS2 X60 hx hZ hown (host := "") (Or.inl (hw _ (List.mem_of_getElem? (i := 106) rfl))) Via.refl eh60 (S_V3_3.ext O61.2) (g := (mkF m 171 #[.val (.int p0), .val (.int p1), .val (.int p2), .val (.int p3), .val (.int p4), .val (.int (3 : Int32)), .val (.int rc_37), .val (.int rc_38), .val (.int rc_39), .val (.int rc_40), .val (.ref a_41), .val (.int (0 : Int32)), .val (.int (1 : Int32)), .val (.ref o_55)] [(.ref ev3)])) rfl (hb hby at_171)
           refine own_go (b := (T62.setTop (mkF m 182 #[.val (.int p0), .val (.int p1), .val (.int p2), .val (.int p3), .val (.int p4), .val (.int (3 : Int32)), .val (.int rc_37), .val (.int rc_38), .val (.int rc_39), .val (.int rc_40), .val (.ref a_41), .val (.int (0 : Int32)), .val (.int (1 : Int32)), .val (.ref o_55)] [(.int (1 : Int32))]))) (fun _ k => st62 _ (Jvm.RoadKit.acmp (g := (mkF m 174 #[.val (.int p0), .val (.int p1), .val (.int p2), .val (.int p3), .val (.int p4), .val (.int (3 : Int32)), .val (.int rc_37), .val (.int rc_38), .val (.int rc_39), .val (.int rc_40), .val (.ref a_41), .val (.int (0 : Int32)), .val (.int (1 : Int32)), .val (.ref o_55)] [(.ref ev3), (.ref ev3)])) X62 hx rfl rfl rfl (pc0 := 174) (pc' := 177) (same := true) rfl (hb hby at_174) rfl (decide_eq_true rfl) (by decide) (by decide) (XS.iconst X62.here hx rfl (hb hby at_177) (XS.goto X62.here hx rfl (pc0 := 178) (pc' := 182) rfl (hb hby at_178) (by decide) (by decide) k)))) ?_
           obtain ⟨fs, hr, hrun, hended, hW, hsame⟩ := X62.leave (v := some (.int (1 : Int32))) (fun h => by rw [Bd.returns] at h; cases h)
           exact ⟨_, _, retN X62 hx (t := .boolean) Bd.returns (by simp) (hb hby at_182) hr, hrun, hended, _, _, rfl, (show Qrm0 Z p0 p1 p2 p3 p4 cs vv kvv ev2 ev3 t2 u2 ku2 t3 u3 ku3 oe h0 n0 _ T62.heap _ from (by rw [e62]; exact ⟨rfl, N60⟩)), ReturnedEndW.of_narrow ⟨_, rfl⟩ hW (hsame.mono (by decide) (by decide))⟩
         · skip
           refine own_go (b := (T41.setTop (mkF m 118 #[.val (.int p0), .val (.int p1), .val (.int p2), .val (.int p3), .val (.int p4), .val (.int (3 : Int32)), .val (.int rc_37), .val (.int rc_38), .val (.int rc_39), .val (.int rc_40), .val (.ref a_41), .val (.int (0 : Int32)), .val (.int (0 : Int32)), .unset] [(.ref a_41)]))) (fun _ k => XS.icmpYes X41.here hx rfl (pc0 := 106) (pc' := 113) rfl (hb hby at_106) rfl (feq hc106_54).2 (by decide) (by decide) (XS.iconst X41.here hx rfl (hb hby at_113) (XS.istore X41.here hx rfl (hb hby at_114) rfl (l' := #[.val (.int p0), .val (.int p1), .val (.int p2), .val (.int p3), .val (.int p4), .val (.int (3 : Int32)), .val (.int rc_37), .val (.int rc_38), .val (.int rc_39), .val (.int rc_40), .val (.ref a_41), .val (.int (0 : Int32)), .val (.int (0 : Int32)), .unset]) rfl (XS.aload X41.here hx rfl (hb hby at_116) rfl rfl k)))) ?_
           have O64 := O0.keep K41 all0
           have gx65 : n0 ≤ a_41 := Nat.le_trans Z0 P41_0
           refine own_stat (W := 0) X41 hx hZ hown rfl (hw _ (List.mem_of_getElem? (i := 30) rfl)) (hw _ (List.mem_of_getElem? (i := 31) rfl)) (rmofE3 l Z a0 hw [] a_41 b_41 kb_41 (own_lt (nar .char rc_37)) (own_lt (nar .char rc_38)) (own_lt (nar .char rc_39)) cs vv kvv ev2 ev3 t2 u2 ku2 t3 u3 ku3 oe T41.heap n0 Zs42 O64 S_COMPACT_STRINGS hcs S__VALUES EZ_vv VZ_vv EZ_ev2 Fld0_ev2_text EZ_t2 Fld0_t2_coder Fld0_t2_value VZ_u2 EZ_ev3 Fld0_ev3_text EZ_t3 Fld0_t3_coder Fld0_t3_value VZ_u3 S_EMPTY gx65 P41_1 P41_3 P41_2 P41_4 ((own_ltk P37_0 (by decide) (by decide)).2 hc58_43) ((own_ltk P38_0 (by decide) (by decide)).2 hc65_44) (fun q => hc72_45 ((own_ltk P39_0 (by decide) (by decide)).1 q)) (fun q => hc106_54 ((own_ltk P39_0 (by decide) (by decide)).1 q))) (hw _ (List.mem_of_getElem? (i := 33) rfl)) (hw _ (List.mem_of_getElem? (i := 32) rfl)) rfl (by rw [hml]; rfl) rfl (hb hby at_118) (lenOf pd__Ljava_lang_String__Ljava_util_Optional_ rfl) rfl (by decide) (fun T63 v63 Ll63 X63 hQ63 => ?_)
           obtain ⟨rfl, N63q, K63⟩ := hQ63
           have N63 := Fr.app N41 N63q
           have Zs66 : n0 ≤ T63.heap.size := Nat.le_trans Zs42 K63.1
           refine own_go (b := (T63.setTop (mkF m 185 #[.val (.int p0), .val (.int p1), .val (.int p2), .val (.int p3), .val (.int p4), .val (.int (3 : Int32)), .val (.int rc_37), .val (.int rc_38), .val (.int rc_39), .val (.int rc_40), .val (.ref a_41), .val (.int (0 : Int32)), .val (.int (0 : Int32)), .val (.ref oe)] [(.ref oe)]))) (fun _ k => XS.astore X63.here hx rfl (hb hby at_121) rfl rfl (l' := #[.val (.int p0), .val (.int p1), .val (.int p2), .val (.int p3), .val (.int p4), .val (.int (3 : Int32)), .val (.int rc_37), .val (.int rc_38), .val (.int rc_39), .val (.int rc_40), .val (.ref a_41), .val (.int (0 : Int32)), .val (.int (0 : Int32)), .val (.ref oe)]) rfl (XS.iload X63.here hx rfl (hb hby at_123) rfl (XS.ifYes X63.here hx rfl (pc0 := 125) (pc' := 153) rfl (hb hby at_125) rfl ((if0 _ _).trans (teq (rfl : (0 : Int32) = (0 : Int32))).1) (by decide) (by decide) (XS.iload X63.here hx rfl (hb hby at_153) rfl (XS.ifYes X63.here hx rfl (pc0 := 155) (pc' := 183) rfl (hb hby at_155) rfl ((if0 _ _).trans (teq (rfl : (0 : Int32) = (0 : Int32))).1) (by decide) (by decide) (XS.aload X63.here hx rfl (hb hby at_183) rfl rfl k)))))) ?_
           have O68 := O64.keep K63 all0
           refine own_virt (W := 0) X63 hx hZ hown rfl (hw _ (List.mem_of_getElem? (i := 69) rfl)) (hw _ (List.mem_of_getElem? (i := 70) rfl)) (hw _ (List.mem_of_getElem? (i := 72) rfl)) (hw _ (List.mem_of_getElem? (i := 71) rfl)) (rmip0 l Z a0 hw [] oe T63.heap n0 Zs66 (Fld0_oe_value.ext O68.2)) (hw _ (List.mem_of_getElem? (i := 73) rfl)) (hw _ (List.mem_of_getElem? (i := 66) rfl)) (EZ_oe.ext O68.2) rfl (by rw [hml]; rfl) rfl (hb hby at_185) (lenOf pd___Z rfl) rfl (by decide) (fun T67 v67 Ll67 X67 hQ67 => ?_)
           obtain ⟨rfl, N67q, eh67⟩ := hQ67
           have N67 := Fr.app N63 N67q
           refine own_go (b := (T67.setTop (mkF m 196 #[.val (.int p0), .val (.int p1), .val (.int p2), .val (.int p3), .val (.int p4), .val (.int (3 : Int32)), .val (.int rc_37), .val (.int rc_38), .val (.int rc_39), .val (.int rc_40), .val (.ref a_41), .val (.int (0 : Int32)), .val (.int (0 : Int32)), .val (.ref oe)] [(.int (1 : Int32))]))) (fun _ k => XS.ifNo X67.here hx rfl (hb hby at_188) rfl ((if0 _ _).trans (teq (rfl : (0 : Int32) = (0 : Int32))).2) (XS.iconst X67.here hx rfl (hb hby at_191) (XS.goto X67.here hx rfl (pc0 := 192) (pc' := 196) rfl (hb hby at_192) (by decide) (by decide) k))) ?_
           obtain ⟨fs, hr, hrun, hended, hW, hsame⟩ := X67.leave (v := some (.int (1 : Int32))) (fun h => by rw [Bd.returns] at h; cases h)
           exact ⟨_, _, retN X67 hx (t := .boolean) Bd.returns (by simp) (hb hby at_196) hr, hrun, hended, _, _, rfl, (show Qrm0 Z p0 p1 p2 p3 p4 cs vv kvv ev2 ev3 t2 u2 ku2 t3 u3 ku3 oe h0 n0 _ T67.heap _ from (by rw [eh67]; exact ⟨rfl, N67⟩)), ReturnedEndW.of_narrow ⟨_, rfl⟩ hW (hsame.mono (by decide) (by decide))⟩
     · skip
       refine own_go (b := (T41.setTop (mkF m 118 #[.val (.int p0), .val (.int p1), .val (.int p2), .val (.int p3), .val (.int p4), .val (.int (3 : Int32)), .val (.int rc_37), .val (.int rc_38), .val (.int rc_39), .val (.int rc_40), .val (.ref a_41), .val (.int (0 : Int32)), .val (.int (0 : Int32)), .unset] [(.ref a_41)]))) (fun _ k => XS.icmpYes X41.here hx rfl (pc0 := 65) (pc' := 79) rfl (hb hby at_65) rfl (feq hc65_44).2 (by decide) (by decide) (XS.iconst X41.here hx rfl (hb hby at_79) (XS.istore X41.here hx rfl (hb hby at_80) rfl (l' := #[.val (.int p0), .val (.int p1), .val (.int p2), .val (.int p3), .val (.int p4), .val (.int (3 : Int32)), .val (.int rc_37), .val (.int rc_38), .val (.int rc_39), .val (.int rc_40), .val (.ref a_41), .val (.int (0 : Int32)), .unset, .unset]) rfl (XS.iload X41.here hx rfl (hb hby at_82) rfl (XS.iconst X41.here hx rfl (hb hby at_84) (XS.icmpNo X41.here hx rfl (hb hby at_85) rfl (teq (rfl : (3 : Int32) = (3 : Int32))).2 (XS.iload X41.here hx rfl (hb hby at_88) rfl (XS.bipush X41.here hx rfl (hb hby at_90) (XS.icmpNo X41.here hx rfl (hb hby at_92) rfl (teq hc58_43).2 (XS.iload X41.here hx rfl (hb hby at_95) rfl (XS.bipush X41.here hx rfl (hb hby at_97) (XS.icmpYes X41.here hx rfl (pc0 := 99) (pc' := 113) rfl (hb hby at_99) rfl (feq hc65_44).2 (by decide) (by decide) (XS.iconst X41.here hx rfl (hb hby at_113) (XS.istore X41.here hx rfl (hb hby at_114) rfl (l' := #[.val (.int p0), .val (.int p1), .val (.int p2), .val (.int p3), .val (.int p4), .val (.int (3 : Int32)), .val (.int rc_37), .val (.int rc_38), .val (.int rc_39), .val (.int rc_40), .val (.ref a_41), .val (.int (0 : Int32)), .val (.int (0 : Int32)), .unset]) rfl (XS.aload X41.here hx rfl (hb hby at_116) rfl rfl k))))))))))))))) ?_
       have O70 := O0.keep K41 all0
       have gx71 : n0 ≤ a_41 := Nat.le_trans Z0 P41_0
       refine own_stat (W := 0) X41 hx hZ hown rfl (hw _ (List.mem_of_getElem? (i := 30) rfl)) (hw _ (List.mem_of_getElem? (i := 31) rfl)) (rmofE2 l Z a0 hw [] a_41 b_41 kb_41 (own_lt (nar .char rc_37)) (own_lt (nar .char rc_38)) (own_lt (nar .char rc_39)) cs vv kvv ev2 ev3 t2 u2 ku2 t3 u3 ku3 oe T41.heap n0 Zs42 O70 S_COMPACT_STRINGS hcs S__VALUES EZ_vv VZ_vv EZ_ev2 Fld0_ev2_text EZ_t2 Fld0_t2_coder Fld0_t2_value VZ_u2 EZ_ev3 Fld0_ev3_text EZ_t3 Fld0_t3_coder Fld0_t3_value VZ_u3 S_EMPTY gx71 P41_1 P41_3 P41_2 P41_4 ((own_ltk P37_0 (by decide) (by decide)).2 hc58_43) (fun q => hc65_44 ((own_ltk P38_0 (by decide) (by decide)).1 q))) (hw _ (List.mem_of_getElem? (i := 33) rfl)) (hw _ (List.mem_of_getElem? (i := 32) rfl)) rfl (by rw [hml]; rfl) rfl (hb hby at_118) (lenOf pd__Ljava_lang_String__Ljava_util_Optional_ rfl) rfl (by decide) (fun T69 v69 Ll69 X69 hQ69 => ?_)
       obtain ⟨rfl, N69q, K69⟩ := hQ69
       have N69 := Fr.app N41 N69q
       have Zs72 : n0 ≤ T69.heap.size := Nat.le_trans Zs42 K69.1
       refine own_go (b := (T69.setTop (mkF m 185 #[.val (.int p0), .val (.int p1), .val (.int p2), .val (.int p3), .val (.int p4), .val (.int (3 : Int32)), .val (.int rc_37), .val (.int rc_38), .val (.int rc_39), .val (.int rc_40), .val (.ref a_41), .val (.int (0 : Int32)), .val (.int (0 : Int32)), .val (.ref oe)] [(.ref oe)]))) (fun _ k => XS.astore X69.here hx rfl (hb hby at_121) rfl rfl (l' := #[.val (.int p0), .val (.int p1), .val (.int p2), .val (.int p3), .val (.int p4), .val (.int (3 : Int32)), .val (.int rc_37), .val (.int rc_38), .val (.int rc_39), .val (.int rc_40), .val (.ref a_41), .val (.int (0 : Int32)), .val (.int (0 : Int32)), .val (.ref oe)]) rfl (XS.iload X69.here hx rfl (hb hby at_123) rfl (XS.ifYes X69.here hx rfl (pc0 := 125) (pc' := 153) rfl (hb hby at_125) rfl ((if0 _ _).trans (teq (rfl : (0 : Int32) = (0 : Int32))).1) (by decide) (by decide) (XS.iload X69.here hx rfl (hb hby at_153) rfl (XS.ifYes X69.here hx rfl (pc0 := 155) (pc' := 183) rfl (hb hby at_155) rfl ((if0 _ _).trans (teq (rfl : (0 : Int32) = (0 : Int32))).1) (by decide) (by decide) (XS.aload X69.here hx rfl (hb hby at_183) rfl rfl k)))))) ?_
       have O74 := O70.keep K69 all0
       refine own_virt (W := 0) X69 hx hZ hown rfl (hw _ (List.mem_of_getElem? (i := 69) rfl)) (hw _ (List.mem_of_getElem? (i := 70) rfl)) (hw _ (List.mem_of_getElem? (i := 72) rfl)) (hw _ (List.mem_of_getElem? (i := 71) rfl)) (rmip0 l Z a0 hw [] oe T69.heap n0 Zs72 (Fld0_oe_value.ext O74.2)) (hw _ (List.mem_of_getElem? (i := 73) rfl)) (hw _ (List.mem_of_getElem? (i := 66) rfl)) (EZ_oe.ext O74.2) rfl (by rw [hml]; rfl) rfl (hb hby at_185) (lenOf pd___Z rfl) rfl (by decide) (fun T73 v73 Ll73 X73 hQ73 => ?_)
       obtain ⟨rfl, N73q, eh73⟩ := hQ73
       have N73 := Fr.app N69 N73q
       refine own_go (b := (T73.setTop (mkF m 196 #[.val (.int p0), .val (.int p1), .val (.int p2), .val (.int p3), .val (.int p4), .val (.int (3 : Int32)), .val (.int rc_37), .val (.int rc_38), .val (.int rc_39), .val (.int rc_40), .val (.ref a_41), .val (.int (0 : Int32)), .val (.int (0 : Int32)), .val (.ref oe)] [(.int (1 : Int32))]))) (fun _ k => XS.ifNo X73.here hx rfl (hb hby at_188) rfl ((if0 _ _).trans (teq (rfl : (0 : Int32) = (0 : Int32))).2) (XS.iconst X73.here hx rfl (hb hby at_191) (XS.goto X73.here hx rfl (pc0 := 192) (pc' := 196) rfl (hb hby at_192) (by decide) (by decide) k))) ?_
       obtain ⟨fs, hr, hrun, hended, hW, hsame⟩ := X73.leave (v := some (.int (1 : Int32))) (fun h => by rw [Bd.returns] at h; cases h)
       exact ⟨_, _, retN X73 hx (t := .boolean) Bd.returns (by simp) (hb hby at_196) hr, hrun, hended, _, _, rfl, (show Qrm0 Z p0 p1 p2 p3 p4 cs vv kvv ev2 ev3 t2 u2 ku2 t3 u3 ku3 oe h0 n0 _ T73.heap _ from (by rw [eh73]; exact ⟨rfl, N73⟩)), ReturnedEndW.of_narrow ⟨_, rfl⟩ hW (hsame.mono (by decide) (by decide))⟩
   · skip
     refine own_go (b := (T41.setTop (mkF m 118 #[.val (.int p0), .val (.int p1), .val (.int p2), .val (.int p3), .val (.int p4), .val (.int (3 : Int32)), .val (.int rc_37), .val (.int rc_38), .val (.int rc_39), .val (.int rc_40), .val (.ref a_41), .val (.int (0 : Int32)), .val (.int (0 : Int32)), .unset] [(.ref a_41)]))) (fun _ k => XS.icmpYes X41.here hx rfl (pc0 := 58) (pc' := 79) rfl (hb hby at_58) rfl (feq hc58_43).2 (by decide) (by decide) (XS.iconst X41.here hx rfl (hb hby at_79) (XS.istore X41.here hx rfl (hb hby at_80) rfl (l' := #[.val (.int p0), .val (.int p1), .val (.int p2), .val (.int p3), .val (.int p4), .val (.int (3 : Int32)), .val (.int rc_37), .val (.int rc_38), .val (.int rc_39), .val (.int rc_40), .val (.ref a_41), .val (.int (0 : Int32)), .unset, .unset]) rfl (XS.iload X41.here hx rfl (hb hby at_82) rfl (XS.iconst X41.here hx rfl (hb hby at_84) (XS.icmpNo X41.here hx rfl (hb hby at_85) rfl (teq (rfl : (3 : Int32) = (3 : Int32))).2 (XS.iload X41.here hx rfl (hb hby at_88) rfl (XS.bipush X41.here hx rfl (hb hby at_90) (XS.icmpYes X41.here hx rfl (pc0 := 92) (pc' := 113) rfl (hb hby at_92) rfl (feq hc58_43).2 (by decide) (by decide) (XS.iconst X41.here hx rfl (hb hby at_113) (XS.istore X41.here hx rfl (hb hby at_114) rfl (l' := #[.val (.int p0), .val (.int p1), .val (.int p2), .val (.int p3), .val (.int p4), .val (.int (3 : Int32)), .val (.int rc_37), .val (.int rc_38), .val (.int rc_39), .val (.int rc_40), .val (.ref a_41), .val (.int (0 : Int32)), .val (.int (0 : Int32)), .unset]) rfl (XS.aload X41.here hx rfl (hb hby at_116) rfl rfl k)))))))))))) ?_
     have O76 := O0.keep K41 all0
     have gx77 : n0 ≤ a_41 := Nat.le_trans Z0 P41_0
     refine own_stat (W := 0) X41 hx hZ hown rfl (hw _ (List.mem_of_getElem? (i := 30) rfl)) (hw _ (List.mem_of_getElem? (i := 31) rfl)) (rmofE1 l Z a0 hw [] a_41 b_41 kb_41 (own_lt (nar .char rc_37)) (own_lt (nar .char rc_38)) (own_lt (nar .char rc_39)) cs vv kvv ev2 ev3 t2 u2 ku2 t3 u3 ku3 oe T41.heap n0 Zs42 O76 S_COMPACT_STRINGS hcs S__VALUES EZ_vv VZ_vv EZ_ev2 Fld0_ev2_text EZ_t2 Fld0_t2_coder Fld0_t2_value VZ_u2 EZ_ev3 Fld0_ev3_text EZ_t3 Fld0_t3_coder Fld0_t3_value VZ_u3 S_EMPTY gx77 P41_1 P41_3 P41_2 P41_4 (fun q => hc58_43 ((own_ltk P37_0 (by decide) (by decide)).1 q))) (hw _ (List.mem_of_getElem? (i := 33) rfl)) (hw _ (List.mem_of_getElem? (i := 32) rfl)) rfl (by rw [hml]; rfl) rfl (hb hby at_118) (lenOf pd__Ljava_lang_String__Ljava_util_Optional_ rfl) rfl (by decide) (fun T75 v75 Ll75 X75 hQ75 => ?_)
     obtain ⟨rfl, N75q, K75⟩ := hQ75
     have N75 := Fr.app N41 N75q
     have Zs78 : n0 ≤ T75.heap.size := Nat.le_trans Zs42 K75.1
     refine own_go (b := (T75.setTop (mkF m 185 #[.val (.int p0), .val (.int p1), .val (.int p2), .val (.int p3), .val (.int p4), .val (.int (3 : Int32)), .val (.int rc_37), .val (.int rc_38), .val (.int rc_39), .val (.int rc_40), .val (.ref a_41), .val (.int (0 : Int32)), .val (.int (0 : Int32)), .val (.ref oe)] [(.ref oe)]))) (fun _ k => XS.astore X75.here hx rfl (hb hby at_121) rfl rfl (l' := #[.val (.int p0), .val (.int p1), .val (.int p2), .val (.int p3), .val (.int p4), .val (.int (3 : Int32)), .val (.int rc_37), .val (.int rc_38), .val (.int rc_39), .val (.int rc_40), .val (.ref a_41), .val (.int (0 : Int32)), .val (.int (0 : Int32)), .val (.ref oe)]) rfl (XS.iload X75.here hx rfl (hb hby at_123) rfl (XS.ifYes X75.here hx rfl (pc0 := 125) (pc' := 153) rfl (hb hby at_125) rfl ((if0 _ _).trans (teq (rfl : (0 : Int32) = (0 : Int32))).1) (by decide) (by decide) (XS.iload X75.here hx rfl (hb hby at_153) rfl (XS.ifYes X75.here hx rfl (pc0 := 155) (pc' := 183) rfl (hb hby at_155) rfl ((if0 _ _).trans (teq (rfl : (0 : Int32) = (0 : Int32))).1) (by decide) (by decide) (XS.aload X75.here hx rfl (hb hby at_183) rfl rfl k)))))) ?_
     have O80 := O76.keep K75 all0
     refine own_virt (W := 0) X75 hx hZ hown rfl (hw _ (List.mem_of_getElem? (i := 69) rfl)) (hw _ (List.mem_of_getElem? (i := 70) rfl)) (hw _ (List.mem_of_getElem? (i := 72) rfl)) (hw _ (List.mem_of_getElem? (i := 71) rfl)) (rmip0 l Z a0 hw [] oe T75.heap n0 Zs78 (Fld0_oe_value.ext O80.2)) (hw _ (List.mem_of_getElem? (i := 73) rfl)) (hw _ (List.mem_of_getElem? (i := 66) rfl)) (EZ_oe.ext O80.2) rfl (by rw [hml]; rfl) rfl (hb hby at_185) (lenOf pd___Z rfl) rfl (by decide) (fun T79 v79 Ll79 X79 hQ79 => ?_)
     obtain ⟨rfl, N79q, eh79⟩ := hQ79
     have N79 := Fr.app N75 N79q
     refine own_go (b := (T79.setTop (mkF m 196 #[.val (.int p0), .val (.int p1), .val (.int p2), .val (.int p3), .val (.int p4), .val (.int (3 : Int32)), .val (.int rc_37), .val (.int rc_38), .val (.int rc_39), .val (.int rc_40), .val (.ref a_41), .val (.int (0 : Int32)), .val (.int (0 : Int32)), .val (.ref oe)] [(.int (1 : Int32))]))) (fun _ k => XS.ifNo X79.here hx rfl (hb hby at_188) rfl ((if0 _ _).trans (teq (rfl : (0 : Int32) = (0 : Int32))).2) (XS.iconst X79.here hx rfl (hb hby at_191) (XS.goto X79.here hx rfl (pc0 := 192) (pc' := 196) rfl (hb hby at_192) (by decide) (by decide) k))) ?_
     obtain ⟨fs, hr, hrun, hended, hW, hsame⟩ := X79.leave (v := some (.int (1 : Int32))) (fun h => by rw [Bd.returns] at h; cases h)
     exact ⟨_, _, retN X79 hx (t := .boolean) Bd.returns (by simp) (hb hby at_196) hr, hrun, hended, _, _, rfl, (show Qrm0 Z p0 p1 p2 p3 p4 cs vv kvv ev2 ev3 t2 u2 ku2 t3 u3 ku3 oe h0 n0 _ T79.heap _ from (by rw [eh79]; exact ⟨rfl, N79⟩)), ReturnedEndW.of_narrow ⟨_, rfl⟩ hW (hsame.mono (by decide) (by decide))⟩
 · rw [hk]
   refine own_go (b := (s₁.setTop (mkF m 9 #[.val (.int p0), .val (.int p1), .val (.int p2), .val (.int p3), .val (.int p4), .val (.int (4 : Int32)), .unset, .unset, .unset, .unset, .unset, .unset, .unset, .unset] [(.int p1)]))) (fun _ k => XS.istore X0.here hx rfl (hb hby at_6) rfl (l' := #[.val (.int p0), .val (.int p1), .val (.int p2), .val (.int p3), .val (.int p4), .val (.int (4 : Int32)), .unset, .unset, .unset, .unset, .unset, .unset, .unset, .unset]) rfl (XS.iloadN X0.here hx rfl (hb hby at_8) rfl k)) ?_
   refine own_stat (W := 0) X0 hx hZ hown e0 (hw _ (List.mem_of_getElem? (i := 1) rfl)) (hw _ (List.mem_of_getElem? (i := 2) rfl)) (rmch l Z a0 hw [] p1 h0 n0 Z0) (hw _ (List.mem_of_getElem? (i := 4) rfl)) (hw _ (List.mem_of_getElem? (i := 3) rfl)) rfl (by rw [hml]; rfl) rfl (hb hby at_9) (lenOf pd__I_C rfl) rfl (by decide) (fun T81 v81 Ll81 X81 hQ81 => ?_)
   obtain ⟨rc_81, rfl, N81q, eh81, P81_0⟩ := hQ81
   have N81 := Fr.app N0 N81q
   refine own_go (b := (T81.setTop (mkF m 15 #[.val (.int p0), .val (.int p1), .val (.int p2), .val (.int p3), .val (.int p4), .val (.int (4 : Int32)), .val (.int rc_81), .unset, .unset, .unset, .unset, .unset, .unset, .unset] [(.int p2)]))) (fun _ k => XS.istore X81.here hx rfl (hb hby at_12) rfl (l' := #[.val (.int p0), .val (.int p1), .val (.int p2), .val (.int p3), .val (.int p4), .val (.int (4 : Int32)), .val (.int rc_81), .unset, .unset, .unset, .unset, .unset, .unset, .unset]) rfl (XS.iloadN X81.here hx rfl (hb hby at_14) rfl k)) ?_
   refine own_stat (W := 0) X81 hx hZ hown eh81 (hw _ (List.mem_of_getElem? (i := 1) rfl)) (hw _ (List.mem_of_getElem? (i := 2) rfl)) (rmch l Z a0 hw [] p2 h0 n0 Z0) (hw _ (List.mem_of_getElem? (i := 4) rfl)) (hw _ (List.mem_of_getElem? (i := 3) rfl)) rfl (by rw [hml]; rfl) rfl (hb hby at_15) (lenOf pd__I_C rfl) rfl (by decide) (fun T82 v82 Ll82 X82 hQ82 => ?_)
   obtain ⟨rc_82, rfl, N82q, eh82, P82_0⟩ := hQ82
   have N82 := Fr.app N81 N82q
   refine own_go (b := (T82.setTop (mkF m 21 #[.val (.int p0), .val (.int p1), .val (.int p2), .val (.int p3), .val (.int p4), .val (.int (4 : Int32)), .val (.int rc_81), .val (.int rc_82), .unset, .unset, .unset, .unset, .unset, .unset] [(.int p3)]))) (fun _ k => XS.istore X82.here hx rfl (hb hby at_18) rfl (l' := #[.val (.int p0), .val (.int p1), .val (.int p2), .val (.int p3), .val (.int p4), .val (.int (4 : Int32)), .val (.int rc_81), .val (.int rc_82), .unset, .unset, .unset, .unset, .unset, .unset]) rfl (XS.iloadN X82.here hx rfl (hb hby at_20) rfl k)) ?_
   refine own_stat (W := 0) X82 hx hZ hown eh82 (hw _ (List.mem_of_getElem? (i := 1) rfl)) (hw _ (List.mem_of_getElem? (i := 2) rfl)) (rmch l Z a0 hw [] p3 h0 n0 Z0) (hw _ (List.mem_of_getElem? (i := 4) rfl)) (hw _ (List.mem_of_getElem? (i := 3) rfl)) rfl (by rw [hml]; rfl) rfl (hb hby at_21) (lenOf pd__I_C rfl) rfl (by decide) (fun T83 v83 Ll83 X83 hQ83 => ?_)
   obtain ⟨rc_83, rfl, N83q, eh83, P83_0⟩ := hQ83
   have N83 := Fr.app N82 N83q
   refine own_go (b := (T83.setTop (mkF m 28 #[.val (.int p0), .val (.int p1), .val (.int p2), .val (.int p3), .val (.int p4), .val (.int (4 : Int32)), .val (.int rc_81), .val (.int rc_82), .val (.int rc_83), .unset, .unset, .unset, .unset, .unset] [(.int p4)]))) (fun _ k => XS.istore X83.here hx rfl (hb hby at_24) rfl (l' := #[.val (.int p0), .val (.int p1), .val (.int p2), .val (.int p3), .val (.int p4), .val (.int (4 : Int32)), .val (.int rc_81), .val (.int rc_82), .val (.int rc_83), .unset, .unset, .unset, .unset, .unset]) rfl (XS.iload X83.here hx rfl (hb hby at_26) rfl k)) ?_
   refine own_stat (W := 0) X83 hx hZ hown eh83 (hw _ (List.mem_of_getElem? (i := 1) rfl)) (hw _ (List.mem_of_getElem? (i := 2) rfl)) (rmch l Z a0 hw [] p4 h0 n0 Z0) (hw _ (List.mem_of_getElem? (i := 4) rfl)) (hw _ (List.mem_of_getElem? (i := 3) rfl)) rfl (by rw [hml]; rfl) rfl (hb hby at_28) (lenOf pd__I_C rfl) rfl (by decide) (fun T84 v84 Ll84 X84 hQ84 => ?_)
   obtain ⟨rc_84, rfl, N84q, eh84, P84_0⟩ := hQ84
   have N84 := Fr.app N83 N84q
   refine own_go (b := (T84.setTop (mkF m 43 #[.val (.int p0), .val (.int p1), .val (.int p2), .val (.int p3), .val (.int p4), .val (.int (4 : Int32)), .val (.int rc_81), .val (.int rc_82), .val (.int rc_83), .val (.int rc_84), .unset, .unset, .unset, .unset] [(.int rc_84), (.int rc_83), (.int rc_82), (.int rc_81), (.int (4 : Int32))]))) (fun _ k => XS.istore X84.here hx rfl (hb hby at_31) rfl (l' := #[.val (.int p0), .val (.int p1), .val (.int p2), .val (.int p3), .val (.int p4), .val (.int (4 : Int32)), .val (.int rc_81), .val (.int rc_82), .val (.int rc_83), .val (.int rc_84), .unset, .unset, .unset, .unset]) rfl (XS.iload X84.here hx rfl (hb hby at_33) rfl (XS.iload X84.here hx rfl (hb hby at_35) rfl (XS.iload X84.here hx rfl (hb hby at_37) rfl (XS.iload X84.here hx rfl (hb hby at_39) rfl (XS.iload X84.here hx rfl (hb hby at_41) rfl k)))))) ?_
   refine own_stat (W := 0) X84 hx hZ hown eh84 (hw _ (List.mem_of_getElem? (i := 5) rfl)) (hw _ (List.mem_of_getElem? (i := 6) rfl)) (rmmk_4 l Z a0 hw [] rc_81 rc_82 rc_83 rc_84 cs h0 n0 Z0 O0 S_COMPACT_STRINGS hcs P81_0 P82_0 P83_0 P84_0) (hw _ (List.mem_of_getElem? (i := 7) rfl)) (hw _ (List.mem_of_getElem? (i := 3) rfl)) rfl (by rw [hml]; rfl) rfl (hb hby at_43) (lenOf pd__ICCCC_Ljava_lang_String_ rfl) rfl (by decide) (fun T85 v85 Ll85 X85 hQ85 => ?_)
   obtain ⟨a_85, b_85, kb_85, rfl, N85q, K85, P85_0, P85_1, P85_2, P85_3, P85_4⟩ := hQ85
   have N85 := Fr.app N84 N85q
   have Zs86 : n0 ≤ T85.heap.size := Nat.le_trans Z0 K85.1
   refine own_go (b := (T85.setTop (mkF m 118 #[.val (.int p0), .val (.int p1), .val (.int p2), .val (.int p3), .val (.int p4), .val (.int (4 : Int32)), .val (.int rc_81), .val (.int rc_82), .val (.int rc_83), .val (.int rc_84), .val (.ref a_85), .val (.int (0 : Int32)), .val (.int (0 : Int32)), .unset] [(.ref a_85)]))) (fun _ k => XS.astore X85.here hx rfl (hb hby at_46) rfl rfl (l' := #[.val (.int p0), .val (.int p1), .val (.int p2), .val (.int p3), .val (.int p4), .val (.int (4 : Int32)), .val (.int rc_81), .val (.int rc_82), .val (.int rc_83), .val (.int rc_84), .val (.ref a_85), .unset, .unset, .unset]) rfl (XS.iload X85.here hx rfl (hb hby at_48) rfl (XS.iconst X85.here hx rfl (hb hby at_50) (XS.icmpYes X85.here hx rfl (pc0 := 51) (pc' := 79) rfl (hb hby at_51) rfl (feq (by decide : ¬ ((4 : Int32) = (3 : Int32)))).2 (by decide) (by decide) (XS.iconst X85.here hx rfl (hb hby at_79) (XS.istore X85.here hx rfl (hb hby at_80) rfl (l' := #[.val (.int p0), .val (.int p1), .val (.int p2), .val (.int p3), .val (.int p4), .val (.int (4 : Int32)), .val (.int rc_81), .val (.int rc_82), .val (.int rc_83), .val (.int rc_84), .val (.ref a_85), .val (.int (0 : Int32)), .unset, .unset]) rfl (XS.iload X85.here hx rfl (hb hby at_82) rfl (XS.iconst X85.here hx rfl (hb hby at_84) (XS.icmpYes X85.here hx rfl (pc0 := 85) (pc' := 113) rfl (hb hby at_85) rfl (feq (by decide : ¬ ((4 : Int32) = (3 : Int32)))).2 (by decide) (by decide) (XS.iconst X85.here hx rfl (hb hby at_113) (XS.istore X85.here hx rfl (hb hby at_114) rfl (l' := #[.val (.int p0), .val (.int p1), .val (.int p2), .val (.int p3), .val (.int p4), .val (.int (4 : Int32)), .val (.int rc_81), .val (.int rc_82), .val (.int rc_83), .val (.int rc_84), .val (.ref a_85), .val (.int (0 : Int32)), .val (.int (0 : Int32)), .unset]) rfl (XS.aload X85.here hx rfl (hb hby at_116) rfl rfl k)))))))))))) ?_
   have O88 := O0.keep K85 all0
   have gx89 : n0 ≤ a_85 := Nat.le_trans Z0 P85_0
   refine own_stat (W := 0) X85 hx hZ hown rfl (hw _ (List.mem_of_getElem? (i := 30) rfl)) (hw _ (List.mem_of_getElem? (i := 31) rfl)) (rmofN4 l Z a0 hw [] a_85 b_85 kb_85 (own_lt (nar .char rc_81)) (own_lt (nar .char rc_82)) (own_lt (nar .char rc_83)) (own_lt (nar .char rc_84)) cs vv kvv ev2 ev3 t2 u2 ku2 t3 u3 ku3 oe T85.heap n0 Zs86 O88 S_COMPACT_STRINGS hcs S__VALUES EZ_vv VZ_vv EZ_ev2 Fld0_ev2_text EZ_t2 Fld0_t2_coder Fld0_t2_value VZ_u2 EZ_ev3 Fld0_ev3_text EZ_t3 Fld0_t3_coder Fld0_t3_value VZ_u3 S_EMPTY gx89 P85_1 P85_3 P85_2 P85_4) (hw _ (List.mem_of_getElem? (i := 33) rfl)) (hw _ (List.mem_of_getElem? (i := 32) rfl)) rfl (by rw [hml]; rfl) rfl (hb hby at_118) (lenOf pd__Ljava_lang_String__Ljava_util_Optional_ rfl) rfl (by decide) (fun T87 v87 Ll87 X87 hQ87 => ?_)
   obtain ⟨rfl, N87q, K87⟩ := hQ87
   have N87 := Fr.app N85 N87q
   have Zs90 : n0 ≤ T87.heap.size := Nat.le_trans Zs86 K87.1
   refine own_go (b := (T87.setTop (mkF m 185 #[.val (.int p0), .val (.int p1), .val (.int p2), .val (.int p3), .val (.int p4), .val (.int (4 : Int32)), .val (.int rc_81), .val (.int rc_82), .val (.int rc_83), .val (.int rc_84), .val (.ref a_85), .val (.int (0 : Int32)), .val (.int (0 : Int32)), .val (.ref oe)] [(.ref oe)]))) (fun _ k => XS.astore X87.here hx rfl (hb hby at_121) rfl rfl (l' := #[.val (.int p0), .val (.int p1), .val (.int p2), .val (.int p3), .val (.int p4), .val (.int (4 : Int32)), .val (.int rc_81), .val (.int rc_82), .val (.int rc_83), .val (.int rc_84), .val (.ref a_85), .val (.int (0 : Int32)), .val (.int (0 : Int32)), .val (.ref oe)]) rfl (XS.iload X87.here hx rfl (hb hby at_123) rfl (XS.ifYes X87.here hx rfl (pc0 := 125) (pc' := 153) rfl (hb hby at_125) rfl ((if0 _ _).trans (teq (rfl : (0 : Int32) = (0 : Int32))).1) (by decide) (by decide) (XS.iload X87.here hx rfl (hb hby at_153) rfl (XS.ifYes X87.here hx rfl (pc0 := 155) (pc' := 183) rfl (hb hby at_155) rfl ((if0 _ _).trans (teq (rfl : (0 : Int32) = (0 : Int32))).1) (by decide) (by decide) (XS.aload X87.here hx rfl (hb hby at_183) rfl rfl k)))))) ?_
   have O92 := O88.keep K87 all0
   refine own_virt (W := 0) X87 hx hZ hown rfl (hw _ (List.mem_of_getElem? (i := 69) rfl)) (hw _ (List.mem_of_getElem? (i := 70) rfl)) (hw _ (List.mem_of_getElem? (i := 72) rfl)) (hw _ (List.mem_of_getElem? (i := 71) rfl)) (rmip0 l Z a0 hw [] oe T87.heap n0 Zs90 (Fld0_oe_value.ext O92.2)) (hw _ (List.mem_of_getElem? (i := 73) rfl)) (hw _ (List.mem_of_getElem? (i := 66) rfl)) (EZ_oe.ext O92.2) rfl (by rw [hml]; rfl) rfl (hb hby at_185) (lenOf pd___Z rfl) rfl (by decide) (fun T91 v91 Ll91 X91 hQ91 => ?_)
   obtain ⟨rfl, N91q, eh91⟩ := hQ91
   have N91 := Fr.app N87 N91q
   refine own_go (b := (T91.setTop (mkF m 196 #[.val (.int p0), .val (.int p1), .val (.int p2), .val (.int p3), .val (.int p4), .val (.int (4 : Int32)), .val (.int rc_81), .val (.int rc_82), .val (.int rc_83), .val (.int rc_84), .val (.ref a_85), .val (.int (0 : Int32)), .val (.int (0 : Int32)), .val (.ref oe)] [(.int (1 : Int32))]))) (fun _ k => XS.ifNo X91.here hx rfl (hb hby at_188) rfl ((if0 _ _).trans (teq (rfl : (0 : Int32) = (0 : Int32))).2) (XS.iconst X91.here hx rfl (hb hby at_191) (XS.goto X91.here hx rfl (pc0 := 192) (pc' := 196) rfl (hb hby at_192) (by decide) (by decide) k))) ?_
   obtain ⟨fs, hr, hrun, hended, hW, hsame⟩ := X91.leave (v := some (.int (1 : Int32))) (fun h => by rw [Bd.returns] at h; cases h)
   exact ⟨_, _, retN X91 hx (t := .boolean) Bd.returns (by simp) (hb hby at_196) hr, hrun, hended, _, _, rfl, (show Qrm0 Z p0 p1 p2 p3 p4 cs vv kvv ev2 ev3 t2 u2 ku2 t3 u3 ku3 oe h0 n0 _ T91.heap _ from (by rw [eh91]; exact ⟨rfl, N91⟩)), ReturnedEndW.of_narrow ⟨_, rfl⟩ hW (hsame.mono (by decide) (by decide))⟩
set_option maxRecDepth 65536 in
set_option maxHeartbeats 40000000 in
theorem comes_1 {Post : Tables → Env → Array Value → State → Outcome → State → Prop} (hpost : ∀ tb e args s v u, (limb_1_1.after args s (.returned v) u = true ∧ limb_1_2.after args s (.returned v) u = true ∧ True) → ReturnedEndW s (.returned v) u (Jvm.fieldLocs frame_1_writes args s ++ Jvm.arrayLocs frame_1_arrays args s ++ Jvm.staticLocs frame_1_statics s) 24 1152 → Post tb e args s (.returned v) u) :
    ArmFor flags0 classFile x code maxLocals ret World_1 tables_1 room_1 Calls_1 rest_1 Pre_1 Post := by
  intro l hfl _ _ p e ha hc hk s m args below hf hA hF happ hP
  obtain ⟨hcalls, hrest, hpre⟩ := hP
  obtain ⟨-, -, -, hnamed, -, -, -, hat⟩ := (Spec.applies_iff hf).mp happ
  obtain ⟨hg, hn⟩ := and_e (Cond.before_iff.mp (show (Jvm.Cond.and given_1 narrow_1).before args s = true from hpre))
  obtain ⟨gc0, gr0⟩ := and_e hg
  obtain ⟨gc1, gr1⟩ := and_e gr0
  obtain ⟨gc2, gr2⟩ := and_e gr1
  obtain ⟨gc3, gr3⟩ := and_e gr2
  obtain ⟨gc4, gr4⟩ := and_e gr3
  obtain ⟨w0, w1, w2, w3, w4, rfl⟩ : ∃ w0 w1 w2 w3 w4 : Value, args = #[w0, w1, w2, w3, w4] := by
    have hs : args.size = 5 := by simpa [Cond.value, given_1] using gc0
    obtain ⟨L⟩ := args
    match L, hs with
    | [w0, w1, w2, w3, w4], _ => exact ⟨w0, w1, w2, w3, w4, rfl⟩
  have hw := fun d (hd : d ∈ tables_1) => atoms_spec (ws := Jvm.Cond.code x code maxLocals ret :: tables_1) hat d (List.mem_cons_of_mem _ hd)
  have hfit : Fit s := fun {y c} hc i hi => by
    obtain ⟨ha, rfl⟩ := Array.getElem?_eq_some_iff.mp hc
    have q := List.all_eq_true.mp ((Array.all_eq_true_iff_forall_mem.mp hF) _ (Array.getElem_mem ha)) i (List.mem_range.mpr hi)
    simpa [Array.getElem?_eq_getElem hi] using q
  obtain ⟨hsets, hown0⟩ := atoms_of _ (rest_1_c_eq ▸ (show rest_1_c.before _ s = true from hrest))
  have hr0 := Cond.before_iff.mp hown0
  obtain ⟨i0, ei0⟩ := is_v gc1
  obtain rfl : w0 = (.int i0) := Option.some.inj ei0
  obtain ⟨i1, ei1⟩ := is_v gc2
  obtain rfl : w1 = (.int i1) := Option.some.inj ei1
  obtain ⟨i2, ei2⟩ := is_v gc3
  obtain rfl : w2 = (.int i2) := Option.some.inj ei2
  obtain ⟨i3, ei3⟩ := is_v gc4
  obtain rfl : w3 = (.int i3) := Option.some.inj ei3
  obtain ⟨i4, ei4⟩ := is_v gr4
  obtain rfl : w4 = (.int i4) := Option.some.inj ei4
  obtain ⟨cs, v_cs⟩ := is_v (Cond.before_iff.mp (hsets _ (List.mem_of_getElem? (i := 1) rfl)))
  have S_cs := Sta.start v_cs (Or.inl (hsets _ (List.mem_of_getElem? (i := 0) rfl)))
  have hcs : ¬ (cs = (0 : Int32)) := gotF (Cond.eq_ints v_cs (Term.int_eval 0)) (not_v (Cond.before_iff.mp (hsets _ (List.mem_of_getElem? (i := 2) rfl))))
  obtain ⟨nc0, nr0⟩ := and_e hn
  obtain ⟨nc1, nr1⟩ := and_e nr0
  obtain ⟨nc2, nr2⟩ := and_e nr1
  obtain ⟨nc3, nr3⟩ := and_e nr2
  obtain ⟨nc4, nr4⟩ := and_e nr3
  obtain ⟨nc5, nr5⟩ := and_e nr4
  obtain ⟨nc6, nr6⟩ := and_e nr5
  obtain ⟨nc7, nr7⟩ := and_e nr6
  obtain ⟨nc8, nr8⟩ := and_e nr7
  obtain ⟨nc9, nr9⟩ := and_e nr8
  obtain ⟨nc10, nr10⟩ := and_e nr9
  obtain ⟨nc11, nr11⟩ := and_e nr10
  obtain ⟨nc12, nr12⟩ := and_e nr11
  obtain ⟨nc13, nr13⟩ := and_e nr12
  obtain ⟨nc14, nr14⟩ := and_e nr13
  obtain ⟨nc15, nr15⟩ := and_e nr14
  obtain ⟨nc16, nr16⟩ := and_e nr15
  obtain ⟨nc17, nr17⟩ := and_e nr16
  obtain ⟨nc18, nr18⟩ := and_e nr17
  obtain ⟨nc19, nr19⟩ := and_e nr18
  obtain ⟨vv, v_vv⟩ := exa_v nc1
  have EZ_vv := Exa.start v_vv nc1
  have S_vv := Sta.start v_vv (Or.inr ⟨(hw _ (List.mem_of_getElem? (i := 32) rfl)), (hw _ (List.mem_of_getElem? (i := 38) rfl))⟩)
  obtain ⟨ev2, v_ev2⟩ := exa_v nc3
  have EZ_ev2 := Exa.start v_ev2 nc3
  have S_ev2 := Sta.start v_ev2 (Or.inr ⟨(hw _ (List.mem_of_getElem? (i := 32) rfl)), (hw _ (List.mem_of_getElem? (i := 46) rfl))⟩)
  obtain ⟨ev3, v_ev3⟩ := exa_v nc5
  have EZ_ev3 := Exa.start v_ev3 nc5
  have S_ev3 := Sta.start v_ev3 (Or.inr ⟨(hw _ (List.mem_of_getElem? (i := 32) rfl)), (hw _ (List.mem_of_getElem? (i := 47) rfl))⟩)
  obtain ⟨clv, Av, qv, zv⟩ := own_arr0 v_vv nc0 nc2
  have VZ_vv := Arv.start (vs := [(.ref ev2), (.ref ev3)]) (dv := .null) hfit Av qv zv (by decide) rfl ⟨own_elR v_vv Av.1 v_ev2 nc4, own_elR v_vv Av.1 v_ev3 nc6, trivial⟩
  obtain ⟨t2, v_t2⟩ := exa_v nc7
  have EZ_t2 := Exa.start v_t2 nc7
  have FZ_ev2 := Fld.start (by rw [← fld_at (C := "com/example/keyclasp/keyclasp/protocol/ProtocolVersion") (n := "text") (dd := "Ljava/lang/String;") v_ev2]; exact v_t2)
  have FC_t2 := own_fint nc8 v_t2
  obtain ⟨u2, v_u2⟩ := arr_v nc9
  have FV_t2 := Fld.start (by rw [← fld_at (C := "java/lang/String") (n := "value") (dd := "[B") v_t2]; exact v_u2)
  obtain ⟨clu2, Au2, qu2, zu2⟩ := own_arr0 v_u2 nc9 nc10
  have VZ_u2 := Arv.start (vs := [(.int (51 : Int32)), (.int (46 : Int32)), (.int (50 : Int32))]) (dv := (.int (0 : Int32))) hfit Au2 qu2 zu2 (by decide) (by decide) ⟨own_el0 v_u2 Au2.1 nc15, own_el0 v_u2 Au2.1 nc16, own_el0 v_u2 Au2.1 nc19, trivial⟩
  obtain ⟨t3, v_t3⟩ := exa_v nc11
  have EZ_t3 := Exa.start v_t3 nc11
  have FZ_ev3 := Fld.start (by rw [← fld_at (C := "com/example/keyclasp/keyclasp/protocol/ProtocolVersion") (n := "text") (dd := "Ljava/lang/String;") v_ev3]; exact v_t3)
  have FC_t3 := own_fint nc12 v_t3
  obtain ⟨u3, v_u3⟩ := arr_v nc13
  have FV_t3 := Fld.start (by rw [← fld_at (C := "java/lang/String") (n := "value") (dd := "[B") v_t3]; exact v_u3)
  obtain ⟨clu3, Au3, qu3, zu3⟩ := own_arr0 v_u3 nc13 nc14
  have VZ_u3 := Arv.start (vs := [(.int (51 : Int32)), (.int (46 : Int32)), (.int (51 : Int32))]) (dv := (.int (0 : Int32))) hfit Au3 qu3 zu3 (by decide) (by decide) ⟨own_el0 v_u3 Au3.1 nc17, own_el0 v_u3 Au3.1 nc18, own_el0 v_u3 Au3.1 nr19, trivial⟩
  obtain ⟨oe, v_oe⟩ := exa_v (Cond.before_iff.mp (hsets _ (List.mem_of_getElem? (i := 11) rfl)))
  have EZ_oe := Exa.start v_oe (Cond.before_iff.mp (hsets _ (List.mem_of_getElem? (i := 11) rfl)))
  have S_oe := Sta.start v_oe (Or.inl (hsets _ (List.mem_of_getElem? (i := 10) rfl)))
  have FZ_oe := Fld.start (by rw [← fld_at (C := "java/util/Optional") (n := "value") (dd := "Ljava/lang/Object;") v_oe]; exact null_v (Cond.before_iff.mp (hsets _ (List.mem_of_getElem? (i := 12) rfl))))
  have hCHs := CHv.start (EL := own_EL) (own_EW hw) (fun p hp => hcalls.1 p hp) (hsets _ (List.mem_of_getElem? (i := 2) rfl)) (hw _ (List.mem_of_getElem? (i := 23) rfl)) (hw _ (List.mem_of_getElem? (i := 9) rfl))
  obtain ⟨n, o, h1, h2, h3, _, L, rfl, ⟨rfl, N⟩, hq⟩ := rm0 l s _ hw tables_1 i0 i1 i2 i3 i4 cs vv clv.cls ev2 ev3 t2 u2 clu2.cls t3 u3 clu3.cls oe s.heap s.heap.size (Nat.le_refl _) (Old.start s) S_cs hcs S_vv EZ_vv VZ_vv EZ_ev2 FZ_ev2 EZ_t2 FC_t2 FV_t2 VZ_u2 EZ_ev3 FZ_ev3 EZ_t3 FC_t3 FV_t3 VZ_u3 S_oe S_ev2 S_ev3 EZ_oe FZ_oe p e ha hc hk s m _ below hf ((Spec.applies_iff_loose hf).mp happ).1 ⟨rfl, State.Warmed39.refl s, rfl, hCHs⟩ trivial
  refine ⟨n, _, h1, h2, h3, hpost _ _ _ _ _ _ ⟨Cond.after_iff.mpr rfl, Cond.after_iff.mpr (eq_i res_at (Term.int_eval (1)) rfl), trivial⟩ ⟨hq.1, hq.2.1, hq.2.2.1, (hq.2.2.2.sift fun y hy => Or.inr (N y hy)).mono (by decide) (by decide)⟩⟩
theorem main_1_1 : Claimed_1_1 := comes_1 fun _ _ _ _ _ _ h hF => ⟨h.1, hF⟩
theorem main_1_2 : Claimed_1_2 := comes_1 fun _ _ _ _ _ _ h hF => ⟨h.2.1, hF⟩
end Jvm.Pilot.@@N@@
namespace Jvm.Pilot.@@N@@
open Jvm Jvm.ClassFile Sem Op Lib Jvm.Free Jvm.Stand Jvm.Pilot.@@N@@.Jvm.D
/-! MADE BY PROGRAM (witnessworld.py) out of the Statement's table words and the real class files: 24 classes; the members and pool entries that the words name. The judged class is class 1, her method 3. -/
namespace start1
open Jvm.ClassFile
def u (s : String) : CpInfo := .utf8 (stringToUtf16 s)
/-- a pool by its gaps: so many unusable entries, then the entry; so many at the end -/
def gap : Nat → List CpInfo → List CpInfo
  | 0, r => r
  | n + 1, r => .unusable :: gap n r
def poolList (es : List (Nat × CpInfo)) (last : Nat) : List CpInfo := es.foldr (fun e r => gap e.1 (e.2 :: r)) (gap last [])
def pool (es : List (Nat × CpInfo)) (last : Nat) : Array CpInfo := ⟨poolList es last⟩
def fileOf (pool : Array CpInfo) (this : Nat) (attrs : Array Attribute := #[]) (ms : Array MethodInfo := #[]) (fl : Nat := 33) (sup : Nat := 0) (ifs : Array Nat := #[]) (fds : Array FieldInfo := #[]) : ClassFile where
  minorVersion := 0
  majorVersion := 65
  constantPool := pool
  accessFlags := fl
  thisClass := this
  superClass := sup
  interfaces := ifs
  fields := fds
  methods := ms
  attributes := attrs
def plain (name : String) (sup : Option ClassId) : Class where
  name := name
  kind := .ordinary
  loader := none
  accessFlags := 33
  super := sup
  interfaces := #[]
  cf := none
  fields := #[]
  methods := #[]
  instanceTypes := #[]
  staticTypes := #[]
  resolved := #[]
  callSites := []
  init := .initialized
  statics := none
  mirror := none

def pool0 : Array CpInfo := pool [(5, u "<init>"), (0, u "()V"), (1, .class_ 10), (1, u "java/lang/Object"), (85, u "clone"), (0, u "()Ljava/lang/Object;")] 26

def k0c0 : Code := { maxStack := 0, maxLocals := 1, code := object_method_1_code, exceptionTable := #[], attributes := #[] }
def k0m0 : Method := { name := "<init>", desc := "()V", sig := { parameters := [], returnType := none }, accessFlags := 1, code := some k0c0 }
def k0m1 : Method := { name := "clone", desc := "()Ljava/lang/Object;", sig := { parameters := [], returnType := some (.object "java/lang/Object") }, accessFlags := 260, code := none }
/-- java/lang/Object -/
def k0 : Class := { plain "java/lang/Object" none with
  accessFlags := 33
  interfaces := #[]
  cf := some (fileOf pool0 8 #[] #[{ accessFlags := 1, nameIndex := 5, descriptorIndex := 6, attributes := #[] }, { accessFlags := 260, nameIndex := 96, descriptorIndex := 97, attributes := #[] }] 33 0 #[] #[])
  fields := #[]
  methods := #[k0m0, k0m1]
  instanceTypes := #[]
  staticTypes := #[]
  resolved := Array.replicate 124 none
  statics := none }

def pool1 : Array CpInfo := pool [(2, .class_ 4), (1, u "java/lang/Object"), (0, u "<init>"), (0, u "()V"), (0, .class_ 8), (0, u "java/lang/String"), (0, .methodref 7 10), (0, .nameAndType 5 11), (0, u "([C)V"), (0, .integer 2147483647), (0, .methodref 14 15), (0, .class_ 16), (0, .nameAndType 17 18), (0, u "com/example/keyclasp/keyclasp/protocol/ProtocolVersionOfPinLaw"), (0, u "ch"), (0, u "(I)C"), (0, .methodref 14 20), (0, .nameAndType 21 22), (0, u "make"), (0, u "(ICCCC)Ljava/lang/String;"), (0, .methodref 24 25), (0, .class_ 26), (0, .nameAndType 27 28), (0, u "com/example/keyclasp/keyclasp/protocol/ProtocolVersion"), (0, u "of"), (0, u "(Ljava/lang/String;)Ljava/util/Optional;"), (0, .methodref 30 31), (0, .class_ 32), (0, .nameAndType 33 34), (0, u "java/util/Optional"), (0, u "isPresent"), (0, u "()Z"), (0, .methodref 30 36), (0, .nameAndType 37 38), (0, u "get"), (0, u "()Ljava/lang/Object;"), (0, .fieldref 24 40), (0, .nameAndType 41 42), (0, u "V3_2"), (0, u "Lcom/example/keyclasp/keyclasp/protocol/ProtocolVersion;"), (0, .fieldref 24 44), (0, .nameAndType 45 42), (0, u "V3_3"), (3, u "law"), (0, u "(IIIII)Z")] 2

def k1m0 : Method := { name := "<init>", desc := "()V", sig := { parameters := [], returnType := none }, accessFlags := 1, code := none }
def k1c1 : Code := { maxStack := 2, maxLocals := 2, code := method_2_code, exceptionTable := #[], attributes := #[] }
def k1m1 : Method := { name := "ch", desc := "(I)C", sig := { parameters := [.int], returnType := some .char }, accessFlags := 10, code := some k1c1 }
def k1c2 : Code := { maxStack := 6, maxLocals := 5, code := method_3_code, exceptionTable := #[], attributes := #[] }
def k1m2 : Method := { name := "make", desc := "(ICCCC)Ljava/lang/String;", sig := { parameters := [.int, .char, .char, .char, .char], returnType := some (.object "java/lang/String") }, accessFlags := 10, code := some k1c2 }
def k1c3 : Code := { maxStack := 5, maxLocals := 14, code := code, exceptionTable := #[], attributes := #[] }
def k1m3 : Method := { name := "law", desc := "(IIIII)Z", sig := { parameters := [.int, .int, .int, .int, .int], returnType := some .boolean }, accessFlags := 9, code := some k1c3 }
/-- com/example/keyclasp/keyclasp/protocol/ProtocolVersionOfPinLaw -/
def k1 : Class := { plain "com/example/keyclasp/keyclasp/protocol/ProtocolVersionOfPinLaw" (some 0) with
  accessFlags := 49
  interfaces := #[]
  cf := some (fileOf pool1 14 #[] #[{ accessFlags := 1, nameIndex := 5, descriptorIndex := 6, attributes := #[] }, { accessFlags := 10, nameIndex := 17, descriptorIndex := 18, attributes := #[] }, { accessFlags := 10, nameIndex := 21, descriptorIndex := 22, attributes := #[] }, { accessFlags := 9, nameIndex := 49, descriptorIndex := 50, attributes := #[] }] 49 2 #[] #[])
  fields := #[]
  methods := #[k1m0, k1m1, k1m2, k1m3]
  instanceTypes := #[]
  staticTypes := #[]
  resolved := Array.replicate 53 none
  statics := none }

def pool2 : Array CpInfo := pool [(1, .class_ 2), (0, u "java/io/Serializable"), (0, .class_ 4), (0, u "java/lang/Object")] 2

/-- java/io/Serializable -/
def k2 : Class := { plain "java/io/Serializable" (some 0) with
  accessFlags := 1537
  interfaces := #[]
  cf := some (fileOf pool2 1 #[] #[] 1537 3 #[] #[])
  fields := #[]
  methods := #[]
  instanceTypes := #[]
  staticTypes := #[]
  resolved := Array.replicate 7 none
  statics := none }

def pool3 : Array CpInfo := pool [(1, .class_ 2), (0, u "java/lang/Comparable"), (0, .class_ 4), (0, u "java/lang/Object")] 7

/-- java/lang/Comparable -/
def k3 : Class := { plain "java/lang/Comparable" (some 0) with
  accessFlags := 1537
  interfaces := #[]
  cf := some (fileOf pool3 1 #[] #[] 1537 3 #[] #[])
  fields := #[]
  methods := #[]
  instanceTypes := #[]
  staticTypes := #[]
  resolved := Array.replicate 12 none
  statics := none }

def pool4 : Array CpInfo := pool [(2, .class_ 4), (1, u "java/lang/CharSequence"), (42, .class_ 48), (0, u "java/lang/CharSequence$1CodePointIterator"), (10, .class_ 60), (0, u "java/lang/CharSequence$1CharIterator"), (5, .class_ 67), (0, u "java/lang/Object")] 63

/-- java/lang/CharSequence -/
def k4 : Class := { plain "java/lang/CharSequence" (some 0) with
  accessFlags := 1537
  interfaces := #[]
  cf := some (fileOf pool4 2 #[.nestMembers #[47, 59]] #[] 1537 66 #[] #[])
  fields := #[]
  methods := #[]
  instanceTypes := #[]
  staticTypes := #[]
  resolved := Array.replicate 131 none
  statics := none }

def pool5 : Array CpInfo := pool [(1, .class_ 2), (0, u "java/lang/constant/Constable"), (0, .class_ 4), (0, u "java/lang/Object")] 6

/-- java/lang/constant/Constable -/
def k5 : Class := { plain "java/lang/constant/Constable" (some 0) with
  accessFlags := 1537
  interfaces := #[]
  cf := some (fileOf pool5 1 #[] #[] 1537 3 #[] #[])
  fields := #[]
  methods := #[]
  instanceTypes := #[]
  staticTypes := #[]
  resolved := Array.replicate 11 none
  statics := none }

def pool6 : Array CpInfo := pool [(1, .class_ 2), (0, u "java/lang/constant/ConstantDesc"), (0, .class_ 4), (0, u "java/lang/Object")] 32

/-- java/lang/constant/ConstantDesc -/
def k6 : Class := { plain "java/lang/constant/ConstantDesc" (some 0) with
  accessFlags := 1537
  interfaces := #[]
  cf := some (fileOf pool6 1 #[] #[] 1537 3 #[] #[])
  fields := #[]
  methods := #[]
  instanceTypes := #[]
  staticTypes := #[]
  resolved := Array.replicate 37 none
  statics := none }

def pool7 : Array CpInfo := pool [(1, .methodref 2 3), (0, .class_ 4), (0, .nameAndType 5 6), (0, u "java/lang/Object"), (0, u "<init>"), (0, u "()V"), (0, .string 8), (0, u ""), (0, .fieldref 10 11), (0, .class_ 12), (0, .nameAndType 13 14), (0, u "java/lang/String"), (0, u "value"), (0, u "[B"), (0, .fieldref 10 16), (0, .nameAndType 17 18), (0, u "coder"), (0, u "B"), (2, u "hash"), (0, u "I"), (2, u "hashIsZero"), (0, u "Z"), (0, .methodref 10 28), (0, .nameAndType 5 29), (0, u "([CIILjava/lang/Void;)V"), (8, .fieldref 10 39), (0, .nameAndType 40 26), (0, u "COMPACT_STRINGS"), (1, .class_ 44), (1, u "java/lang/StringUTF16"), (0, u "compress"), (1, .methodref 42 48), (0, .nameAndType 49 50), (0, u "coderFromArrayLen"), (0, u "([BI)B"), (56, .class_ 109), (1, u "java/lang/StringLatin1"), (67, .methodref 42 178), (0, .nameAndType 45 179), (0, u "([CII)[B"), (361, .methodref 107 542), (0, .nameAndType 543 544), (0, u "equals"), (0, u "([B[B)Z"), (28, u "(Ljava/lang/Object;)Z"), (1, .class_ 576), (0, u "java/lang/CharSequence"), (22, u "CASE_INSENSITIVE_ORDER"), (0, u "Ljava/util/Comparator;"), (409, u "([C)V"), (90, u "serialPersistentFields"), (0, u "[Ljava/io/ObjectStreamField;"), (0, .class_ 1104), (0, u "java/lang/String$CaseInsensitiveComparator"), (1, .class_ 1107), (0, u "java/io/Serializable"), (0, .class_ 1109), (0, u "java/lang/Comparable"), (0, .class_ 1111), (0, u "java/lang/constant/Constable"), (0, .class_ 1113), (0, u "java/lang/constant/ConstantDesc"), (2, u "serialVersionUID"), (0, u "J"), (3, u "REPL"), (0, u "C"), (2, u "LATIN1"), (1, u "UTF16")] 323

def k7m0 : Method := { name := "<init>", desc := "()V", sig := { parameters := [], returnType := none }, accessFlags := 1, code := none }
def k7c1 : Code := { maxStack := 5, maxLocals := 2, code := jdk_42_method_3_code, exceptionTable := #[], attributes := #[] }
def k7m1 : Method := { name := "<init>", desc := "([C)V", sig := { parameters := [(.array .char)], returnType := none }, accessFlags := 1, code := some k7c1 }
def k7c2 : Code := { maxStack := 2, maxLocals := 3, code := jdk_42_method_66_code, exceptionTable := #[], attributes := #[] }
def k7m2 : Method := { name := "equals", desc := "(Ljava/lang/Object;)Z", sig := { parameters := [(.object "java/lang/Object")], returnType := some .boolean }, accessFlags := 1, code := some k7c2 }
def k7c3 : Code := { maxStack := 4, maxLocals := 6, code := jdk_42_method_149_code, exceptionTable := #[], attributes := #[] }
def k7m3 : Method := { name := "<init>", desc := "([CIILjava/lang/Void;)V", sig := { parameters := [(.array .char), .int, .int, (.object "java/lang/Void")], returnType := none }, accessFlags := 2, code := some k7c3 }
/-- java/lang/String -/
def k7 : Class := { plain "java/lang/String" (some 0) with
  accessFlags := 49
  interfaces := #[2, 3, 4, 5, 6]
  cf := some (fileOf pool7 10 #[.nestMembers #[1103]] #[{ accessFlags := 1, nameIndex := 5, descriptorIndex := 6, attributes := #[] }, { accessFlags := 1, nameIndex := 5, descriptorIndex := 1010, attributes := #[] }, { accessFlags := 1, nameIndex := 543, descriptorIndex := 573, attributes := #[] }, { accessFlags := 2, nameIndex := 5, descriptorIndex := 29, attributes := #[] }] 49 2 #[1106, 1108, 575, 1110, 1112] #[{ accessFlags := 18, nameIndex := 13, descriptorIndex := 14, attributes := #[] }, { accessFlags := 18, nameIndex := 17, descriptorIndex := 18, attributes := #[] }, { accessFlags := 2, nameIndex := 21, descriptorIndex := 22, attributes := #[] }, { accessFlags := 2, nameIndex := 25, descriptorIndex := 26, attributes := #[] }, { accessFlags := 26, nameIndex := 1116, descriptorIndex := 1117, attributes := #[] }, { accessFlags := 24, nameIndex := 40, descriptorIndex := 26, attributes := #[] }, { accessFlags := 26, nameIndex := 1101, descriptorIndex := 1102, attributes := #[] }, { accessFlags := 26, nameIndex := 1121, descriptorIndex := 1122, attributes := #[] }, { accessFlags := 25, nameIndex := 599, descriptorIndex := 600, attributes := #[] }, { accessFlags := 24, nameIndex := 1125, descriptorIndex := 18, attributes := #[] }, { accessFlags := 24, nameIndex := 1127, descriptorIndex := 18, attributes := #[] }])
  fields := #[{ name := "value", type := (.array .byte), accessFlags := 18, slot := 0, constantValue := 0 }, { name := "coder", type := .byte, accessFlags := 18, slot := 1, constantValue := 0 }, { name := "hash", type := .int, accessFlags := 2, slot := 2, constantValue := 0 }, { name := "hashIsZero", type := .boolean, accessFlags := 2, slot := 3, constantValue := 0 }, { name := "serialVersionUID", type := .long, accessFlags := 26, slot := 0, constantValue := 0 }, { name := "COMPACT_STRINGS", type := .boolean, accessFlags := 24, slot := 1, constantValue := 0 }, { name := "serialPersistentFields", type := (.array (.object "java/io/ObjectStreamField")), accessFlags := 26, slot := 2, constantValue := 0 }, { name := "REPL", type := .char, accessFlags := 26, slot := 3, constantValue := 0 }, { name := "CASE_INSENSITIVE_ORDER", type := (.object "java/util/Comparator"), accessFlags := 25, slot := 4, constantValue := 0 }, { name := "LATIN1", type := .byte, accessFlags := 24, slot := 5, constantValue := 0 }, { name := "UTF16", type := .byte, accessFlags := 24, slot := 6, constantValue := 0 }]
  methods := #[k7m0, k7m1, k7m2, k7m3]
  instanceTypes := #[(.array .byte), .byte, .int, .boolean]
  staticTypes := #[.long, .boolean, (.array (.object "java/io/ObjectStreamField")), .char, (.object "java/util/Comparator"), .byte, .byte]
  resolved := Array.replicate 1451 none
  statics := some 0 }

def pool8 : Array CpInfo := pool [(2, .class_ 4), (1, u "java/lang/Enum"), (0, u "name"), (0, u "Ljava/lang/String;"), (2, u "ordinal"), (0, u "I"), (1, .class_ 14), (1, u "java/lang/Object"), (4, u "hash"), (86, .class_ 108), (1, u "java/lang/Enum$EnumDesc"), (2, .class_ 112), (0, u "java/lang/constant/Constable"), (0, .class_ 114), (0, u "java/lang/Comparable"), (0, .class_ 116), (0, u "java/io/Serializable")] 87

/-- java/lang/Enum -/
def k8 : Class := { plain "java/lang/Enum" (some 0) with
  accessFlags := 1057
  interfaces := #[5, 3, 2]
  cf := some (fileOf pool8 2 #[.nestMembers #[106]] #[] 1057 12 #[111, 113, 115] #[{ accessFlags := 18, nameIndex := 5, descriptorIndex := 6, attributes := #[] }, { accessFlags := 18, nameIndex := 9, descriptorIndex := 10, attributes := #[] }, { accessFlags := 2, nameIndex := 19, descriptorIndex := 10, attributes := #[] }])
  fields := #[{ name := "name", type := (.object "java/lang/String"), accessFlags := 18, slot := 0, constantValue := 0 }, { name := "ordinal", type := .int, accessFlags := 18, slot := 1, constantValue := 0 }, { name := "hash", type := .int, accessFlags := 2, slot := 2, constantValue := 0 }]
  methods := #[]
  instanceTypes := #[(.object "java/lang/String"), .int, .int]
  staticTypes := #[]
  resolved := Array.replicate 204 none
  statics := none }

def pool9 : Array CpInfo := pool [(1, .class_ 2), (0, u "com/example/keyclasp/keyclasp/protocol/ProtocolVersion"), (2, u "V3_2"), (0, u "Lcom/example/keyclasp/keyclasp/protocol/ProtocolVersion;"), (2, u "V3_3"), (0, .fieldref 1 11), (0, .nameAndType 12 13), (0, u "$VALUES"), (0, u "[Lcom/example/keyclasp/keyclasp/protocol/ProtocolVersion;"), (0, .methodref 15 16), (0, .class_ 13), (0, .nameAndType 17 18), (0, u "clone"), (0, u "()Ljava/lang/Object;"), (1, .class_ 22), (1, u "java/lang/Enum"), (6, .fieldref 1 30), (0, .nameAndType 31 32), (0, u "text"), (0, u "Ljava/lang/String;"), (2, u "sealsToTemporaryKey"), (0, u "Z"), (0, .methodref 1 38), (0, .nameAndType 39 40), (0, u "values"), (0, u "()[Lcom/example/keyclasp/keyclasp/protocol/ProtocolVersion;"), (0, .methodref 42 43), (0, .class_ 44), (0, .nameAndType 45 46), (0, u "java/lang/String"), (0, u "equals"), (0, u "(Ljava/lang/Object;)Z"), (0, .methodref 48 49), (0, .class_ 50), (0, .nameAndType 51 52), (0, u "java/util/Optional"), (0, u "of"), (0, u "(Ljava/lang/Object;)Ljava/util/Optional;"), (0, .methodref 48 54), (0, .nameAndType 55 56), (0, u "empty"), (0, u "()Ljava/util/Optional;"), (18, u "(Ljava/lang/String;)Ljava/util/Optional;")] 9

def k9c0 : Code := { maxStack := 1, maxLocals := 0, code := prog_22_method_1_code, exceptionTable := #[], attributes := #[] }
def k9m0 : Method := { name := "values", desc := "()[Lcom/example/keyclasp/keyclasp/protocol/ProtocolVersion;", sig := { parameters := [], returnType := some (.array (.object "com/example/keyclasp/keyclasp/protocol/ProtocolVersion")) }, accessFlags := 9, code := some k9c0 }
def k9c1 : Code := { maxStack := 2, maxLocals := 5, code := prog_22_method_4_code, exceptionTable := #[], attributes := #[] }
def k9m1 : Method := { name := "of", desc := "(Ljava/lang/String;)Ljava/util/Optional;", sig := { parameters := [(.object "java/lang/String")], returnType := some (.object "java/util/Optional") }, accessFlags := 9, code := some k9c1 }
/-- com/example/keyclasp/keyclasp/protocol/ProtocolVersion -/
def k9 : Class := { plain "com/example/keyclasp/keyclasp/protocol/ProtocolVersion" (some 8) with
  accessFlags := 16433
  interfaces := #[]
  cf := some (fileOf pool9 1 #[] #[{ accessFlags := 9, nameIndex := 39, descriptorIndex := 40, attributes := #[] }, { accessFlags := 9, nameIndex := 51, descriptorIndex := 75, attributes := #[] }] 16433 20 #[] #[{ accessFlags := 16409, nameIndex := 5, descriptorIndex := 6, attributes := #[] }, { accessFlags := 16409, nameIndex := 9, descriptorIndex := 6, attributes := #[] }, { accessFlags := 18, nameIndex := 31, descriptorIndex := 32, attributes := #[] }, { accessFlags := 18, nameIndex := 35, descriptorIndex := 36, attributes := #[] }, { accessFlags := 4122, nameIndex := 12, descriptorIndex := 13, attributes := #[] }])
  fields := #[{ name := "V3_2", type := (.object "com/example/keyclasp/keyclasp/protocol/ProtocolVersion"), accessFlags := 16409, slot := 0, constantValue := 0 }, { name := "V3_3", type := (.object "com/example/keyclasp/keyclasp/protocol/ProtocolVersion"), accessFlags := 16409, slot := 1, constantValue := 0 }, { name := "text", type := (.object "java/lang/String"), accessFlags := 18, slot := 3, constantValue := 0 }, { name := "sealsToTemporaryKey", type := .boolean, accessFlags := 18, slot := 4, constantValue := 0 }, { name := "$VALUES", type := (.array (.object "com/example/keyclasp/keyclasp/protocol/ProtocolVersion")), accessFlags := 4122, slot := 2, constantValue := 0 }]
  methods := #[k9m0, k9m1]
  instanceTypes := #[(.object "java/lang/String"), .int, .int, (.object "java/lang/String"), .boolean]
  staticTypes := #[(.object "com/example/keyclasp/keyclasp/protocol/ProtocolVersion"), (.object "com/example/keyclasp/keyclasp/protocol/ProtocolVersion"), (.array (.object "com/example/keyclasp/keyclasp/protocol/ProtocolVersion"))]
  resolved := Array.replicate 85 none
  statics := some 1 }

def pool10 : Array CpInfo := pool [(1, .class_ 2), (0, u "java/lang/Cloneable"), (0, .class_ 4), (0, u "java/lang/Object")] 2

/-- java/lang/Cloneable -/
def k10 : Class := { plain "java/lang/Cloneable" (some 0) with
  accessFlags := 1537
  interfaces := #[]
  cf := some (fileOf pool10 1 #[] #[] 1537 3 #[] #[])
  fields := #[]
  methods := #[]
  instanceTypes := #[]
  staticTypes := #[]
  resolved := Array.replicate 7 none
  statics := none }

def pool11 : Array CpInfo := pool [(4, .class_ 6), (1, u "java/lang/Object"), (0, u "<init>"), (0, u "()V"), (5, .class_ 16), (1, u "java/lang/StringLatin1"), (104, u "$assertionsDisabled"), (0, u "Z"), (98, .class_ 223), (1, u "java/lang/StringLatin1$LinesSpliterator"), (57, u "equals"), (0, u "([B[B)Z"), (107, .class_ 391), (0, u "java/lang/StringLatin1$CharsSpliterator")] 3

def k11m0 : Method := { name := "<init>", desc := "()V", sig := { parameters := [], returnType := none }, accessFlags := 0, code := none }
def k11c1 : Code := { maxStack := 3, maxLocals := 3, code := jdk_43_method_13_code, exceptionTable := #[], attributes := #[] }
def k11m1 : Method := { name := "equals", desc := "([B[B)Z", sig := { parameters := [(.array .byte), (.array .byte)], returnType := some .boolean }, accessFlags := 9, code := some k11c1 }
/-- java/lang/StringLatin1 -/
def k11 : Class := { plain "java/lang/StringLatin1" (some 0) with
  accessFlags := 48
  interfaces := #[]
  cf := some (fileOf pool11 14 #[.nestMembers #[390, 221]] #[{ accessFlags := 0, nameIndex := 7, descriptorIndex := 8, attributes := #[] }, { accessFlags := 9, nameIndex := 281, descriptorIndex := 282, attributes := #[] }] 48 4 #[] #[{ accessFlags := 4120, nameIndex := 121, descriptorIndex := 122, attributes := #[] }])
  fields := #[{ name := "$assertionsDisabled", type := .boolean, accessFlags := 4120, slot := 0, constantValue := 0 }]
  methods := #[k11m0, k11m1]
  instanceTypes := #[]
  staticTypes := #[.boolean]
  resolved := Array.replicate 395 none
  statics := none }

def pool12 : Array CpInfo := pool [(1, .fieldref 2 3), (0, .class_ 4), (0, .nameAndType 5 6), (0, u "java/util/Optional"), (0, u "EMPTY"), (0, u "Ljava/util/Optional;"), (0, .methodref 8 9), (0, .class_ 10), (0, .nameAndType 11 12), (0, u "java/lang/Object"), (0, u "<init>"), (0, u "()V"), (0, .fieldref 2 14), (0, .nameAndType 15 16), (0, u "value"), (0, u "Ljava/lang/Object;"), (0, .methodref 18 19), (0, .class_ 20), (0, .nameAndType 21 22), (0, u "java/util/Objects"), (0, u "requireNonNull"), (0, u "(Ljava/lang/Object;)Ljava/lang/Object;"), (0, .methodref 2 24), (0, .nameAndType 11 25), (0, u "(Ljava/lang/Object;)V"), (20, u "()Z"), (8, u "empty"), (0, u "()Ljava/util/Optional;"), (8, u "(Ljava/lang/Object;)Ljava/util/Optional;"), (2, u "isPresent"), (4, u "get"), (0, u "()Ljava/lang/Object;"), (7, u "of")] 104

def k12c0 : Code := { maxStack := 1, maxLocals := 1, code := jdk_32_method_1_code, exceptionTable := #[], attributes := #[] }
def k12m0 : Method := { name := "empty", desc := "()Ljava/util/Optional;", sig := { parameters := [], returnType := some (.object "java/util/Optional") }, accessFlags := 9, code := some k12c0 }
def k12c1 : Code := { maxStack := 2, maxLocals := 2, code := jdk_32_method_2_code, exceptionTable := #[], attributes := #[] }
def k12m1 : Method := { name := "<init>", desc := "(Ljava/lang/Object;)V", sig := { parameters := [(.object "java/lang/Object")], returnType := none }, accessFlags := 2, code := some k12c1 }
def k12c2 : Code := { maxStack := 3, maxLocals := 1, code := jdk_32_method_3_code, exceptionTable := #[], attributes := #[] }
def k12m2 : Method := { name := "of", desc := "(Ljava/lang/Object;)Ljava/util/Optional;", sig := { parameters := [(.object "java/lang/Object")], returnType := some (.object "java/util/Optional") }, accessFlags := 9, code := some k12c2 }
def k12c3 : Code := { maxStack := 3, maxLocals := 1, code := jdk_32_method_5_code, exceptionTable := #[], attributes := #[] }
def k12m3 : Method := { name := "get", desc := "()Ljava/lang/Object;", sig := { parameters := [], returnType := some (.object "java/lang/Object") }, accessFlags := 1, code := some k12c3 }
def k12c4 : Code := { maxStack := 1, maxLocals := 1, code := jdk_32_method_6_code, exceptionTable := #[], attributes := #[] }
def k12m4 : Method := { name := "isPresent", desc := "()Z", sig := { parameters := [], returnType := some .boolean }, accessFlags := 1, code := some k12c4 }
/-- java/util/Optional -/
def k12 : Class := { plain "java/util/Optional" (some 0) with
  accessFlags := 49
  interfaces := #[]
  cf := some (fileOf pool12 2 #[] #[{ accessFlags := 9, nameIndex := 55, descriptorIndex := 56, attributes := #[] }, { accessFlags := 2, nameIndex := 11, descriptorIndex := 25, attributes := #[] }, { accessFlags := 9, nameIndex := 82, descriptorIndex := 65, attributes := #[] }, { accessFlags := 1, nameIndex := 73, descriptorIndex := 74, attributes := #[] }, { accessFlags := 1, nameIndex := 68, descriptorIndex := 46, attributes := #[] }] 49 8 #[] #[{ accessFlags := 26, nameIndex := 5, descriptorIndex := 6, attributes := #[] }, { accessFlags := 18, nameIndex := 15, descriptorIndex := 16, attributes := #[] }])
  fields := #[{ name := "EMPTY", type := (.object "java/util/Optional"), accessFlags := 26, slot := 0, constantValue := 0 }, { name := "value", type := (.object "java/lang/Object"), accessFlags := 18, slot := 0, constantValue := 0 }]
  methods := #[k12m0, k12m1, k12m2, k12m3, k12m4]
  instanceTypes := #[(.object "java/lang/Object")]
  staticTypes := #[(.object "java/util/Optional")]
  resolved := Array.replicate 187 none
  statics := some 2 }

def pool13 : Array CpInfo := pool [(6, .class_ 8), (1, u "java/lang/Object"), (0, u "<init>"), (0, u "()V"), (1, .class_ 14), (1, u "java/lang/StringUTF16"), (31, u "$assertionsDisabled"), (0, u "Z"), (13, u "HI_BYTE_SHIFT"), (0, u "I"), (2, u "LO_BYTE_SHIFT"), (49, .methodref 12 116), (0, .nameAndType 117 118), (0, u "compress"), (0, u "([CI[BII)I"), (3, u "([CII)[B"), (138, u "coderFromArrayLen"), (0, u "([BI)B"), (106, .class_ 371), (1, u "java/lang/StringUTF16$LinesSpliterator"), (58, u "MAX_LENGTH"), (196, .class_ 628), (0, u "java/lang/StringUTF16$CodePointsSpliterator"), (0, .class_ 630), (0, u "java/lang/StringUTF16$CharsSpliterator")] 4

def k13m0 : Method := { name := "<init>", desc := "()V", sig := { parameters := [], returnType := none }, accessFlags := 0, code := none }
def k13c1 : Code := { maxStack := 2, maxLocals := 2, code := jdk_52_method_15_code, exceptionTable := #[], attributes := #[] }
def k13m1 : Method := { name := "coderFromArrayLen", desc := "([BI)B", sig := { parameters := [(.array .byte), .int], returnType := some .byte }, accessFlags := 8, code := some k13c1 }
def k13c2 : Code := { maxStack := 5, maxLocals := 6, code := jdk_52_method_16_code, exceptionTable := #[], attributes := #[] }
def k13m2 : Method := { name := "compress", desc := "([CII)[B", sig := { parameters := [(.array .char), .int, .int], returnType := some (.array .byte) }, accessFlags := 9, code := some k13c2 }
def k13c3 : Code := { maxStack := 3, maxLocals := 7, code := jdk_52_method_21_code, exceptionTable := #[], attributes := #[] }
def k13m3 : Method := { name := "compress", desc := "([CI[BII)I", sig := { parameters := [(.array .char), .int, (.array .byte), .int, .int], returnType := some .int }, accessFlags := 9, code := some k13c3 }
/-- java/lang/StringUTF16 -/
def k13 : Class := { plain "java/lang/StringUTF16" (some 0) with
  accessFlags := 48
  interfaces := #[]
  cf := some (fileOf pool13 12 #[.nestMembers #[627, 629, 369]] #[{ accessFlags := 0, nameIndex := 9, descriptorIndex := 10, attributes := #[] }, { accessFlags := 8, nameIndex := 261, descriptorIndex := 262, attributes := #[] }, { accessFlags := 9, nameIndex := 117, descriptorIndex := 122, attributes := #[] }, { accessFlags := 9, nameIndex := 117, descriptorIndex := 118, attributes := #[] }] 48 6 #[] #[{ accessFlags := 26, nameIndex := 61, descriptorIndex := 62, attributes := #[] }, { accessFlags := 26, nameIndex := 65, descriptorIndex := 62, attributes := #[] }, { accessFlags := 24, nameIndex := 430, descriptorIndex := 62, attributes := #[] }, { accessFlags := 4120, nameIndex := 46, descriptorIndex := 47, attributes := #[] }])
  fields := #[{ name := "HI_BYTE_SHIFT", type := .int, accessFlags := 26, slot := 0, constantValue := 0 }, { name := "LO_BYTE_SHIFT", type := .int, accessFlags := 26, slot := 1, constantValue := 0 }, { name := "MAX_LENGTH", type := .int, accessFlags := 24, slot := 2, constantValue := 0 }, { name := "$assertionsDisabled", type := .boolean, accessFlags := 4120, slot := 3, constantValue := 0 }]
  methods := #[k13m0, k13m1, k13m2, k13m3]
  instanceTypes := #[]
  staticTypes := #[.int, .int, .int, .boolean]
  resolved := Array.replicate 635 none
  statics := none }

def pool14 : Array CpInfo := pool [(2, .class_ 4), (1, u "java/lang/Object"), (0, u "<init>"), (0, u "()V"), (35, .class_ 44), (1, u "java/util/Objects"), (0, u "requireNonNull"), (0, u "(Ljava/lang/Object;)Ljava/lang/Object;")] 137

def k14m0 : Method := { name := "<init>", desc := "()V", sig := { parameters := [], returnType := none }, accessFlags := 2, code := none }
def k14c1 : Code := { maxStack := 2, maxLocals := 1, code := jdk_31_method_10_code, exceptionTable := #[], attributes := #[] }
def k14m1 : Method := { name := "requireNonNull", desc := "(Ljava/lang/Object;)Ljava/lang/Object;", sig := { parameters := [(.object "java/lang/Object")], returnType := some (.object "java/lang/Object") }, accessFlags := 9, code := some k14c1 }
/-- java/util/Objects -/
def k14 : Class := { plain "java/util/Objects" (some 0) with
  accessFlags := 49
  interfaces := #[]
  cf := some (fileOf pool14 42 #[] #[{ accessFlags := 2, nameIndex := 5, descriptorIndex := 6, attributes := #[] }, { accessFlags := 9, nameIndex := 45, descriptorIndex := 46, attributes := #[] }] 49 2 #[] #[])
  fields := #[]
  methods := #[k14m0, k14m1]
  instanceTypes := #[]
  staticTypes := #[]
  resolved := Array.replicate 184 none
  statics := none }

def pool15 : Array CpInfo := pool [(2, .class_ 4), (1, u "java/lang/Object"), (0, u "<init>"), (0, u "()V"), (17, .class_ 26), (1, u "jdk/internal/util/Preconditions"), (28, .class_ 56), (0, u "jdk/internal/util/Preconditions$4"), (57, .class_ 115), (0, u "jdk/internal/util/Preconditions$1"), (7, u "SIOOBE_FORMATTER"), (0, u "Ljava/util/function/BiFunction;"), (0, .class_ 126), (0, u "jdk/internal/util/Preconditions$2"), (3, u "AIOOBE_FORMATTER"), (0, .class_ 132), (0, u "jdk/internal/util/Preconditions$3"), (3, u "IOOBE_FORMATTER")] 57

def k15m0 : Method := { name := "<init>", desc := "()V", sig := { parameters := [], returnType := none }, accessFlags := 1, code := none }
/-- jdk/internal/util/Preconditions -/
def k15 : Class := { plain "jdk/internal/util/Preconditions" (some 0) with
  accessFlags := 33
  interfaces := #[]
  cf := some (fileOf pool15 24 #[.nestMembers #[55, 131, 125, 114]] #[{ accessFlags := 1, nameIndex := 5, descriptorIndex := 6, attributes := #[] }] 33 2 #[] #[{ accessFlags := 25, nameIndex := 123, descriptorIndex := 124, attributes := #[] }, { accessFlags := 25, nameIndex := 130, descriptorIndex := 124, attributes := #[] }, { accessFlags := 25, nameIndex := 136, descriptorIndex := 124, attributes := #[] }])
  fields := #[{ name := "SIOOBE_FORMATTER", type := (.object "java/util/function/BiFunction"), accessFlags := 25, slot := 0, constantValue := 0 }, { name := "AIOOBE_FORMATTER", type := (.object "java/util/function/BiFunction"), accessFlags := 25, slot := 1, constantValue := 0 }, { name := "IOOBE_FORMATTER", type := (.object "java/util/function/BiFunction"), accessFlags := 25, slot := 2, constantValue := 0 }]
  methods := #[k15m0]
  instanceTypes := #[]
  staticTypes := #[(.object "java/util/function/BiFunction"), (.object "java/util/function/BiFunction"), (.object "java/util/function/BiFunction")]
  resolved := Array.replicate 194 none
  statics := some 3 }

def pool16 : Array CpInfo := pool [(9, u "<init>"), (6, .class_ 18), (1, u "java/lang/Object"), (0, u "()V"), (1, .class_ 23), (1, u "jdk/internal/util/ArraysSupport"), (0, u "LOG2_ARRAY_LONG_INDEX_SCALE"), (0, u "I"), (2, u "U"), (0, u "Ljdk/internal/misc/Unsafe;"), (8, u "BIG_ENDIAN"), (0, u "Z"), (8, u "LOG2_BYTE_BIT_SIZE"), (4, u "LOG2_ARRAY_INT_INDEX_SCALE"), (54, u "JLA"), (0, u "Ljdk/internal/access/JavaLangAccess;"), (11, u "LOG2_ARRAY_BOOLEAN_INDEX_SCALE"), (9, u "LOG2_ARRAY_BYTE_INDEX_SCALE"), (5, u "LOG2_ARRAY_CHAR_INDEX_SCALE"), (5, u "LOG2_ARRAY_SHORT_INDEX_SCALE"), (18, u "LOG2_ARRAY_FLOAT_INDEX_SCALE"), (24, u "LOG2_ARRAY_DOUBLE_INDEX_SCALE"), (89, u "T_BOOLEAN"), (2, u "T_CHAR"), (1, u "T_FLOAT"), (1, u "T_DOUBLE"), (1, u "T_BYTE"), (1, u "T_SHORT"), (1, u "T_INT"), (1, u "T_LONG"), (1, u "SOFT_MAX_ARRAY_LENGTH")] 83

def k16m0 : Method := { name := "<init>", desc := "()V", sig := { parameters := [], returnType := none }, accessFlags := 2, code := none }
/-- jdk/internal/util/ArraysSupport -/
def k16 : Class := { plain "jdk/internal/util/ArraysSupport" (some 0) with
  accessFlags := 33
  interfaces := #[]
  cf := some (fileOf pool16 21 #[] #[{ accessFlags := 2, nameIndex := 9, descriptorIndex := 19, attributes := #[] }] 33 16 #[] #[{ accessFlags := 24, nameIndex := 28, descriptorIndex := 29, attributes := #[] }, { accessFlags := 26, nameIndex := 38, descriptorIndex := 39, attributes := #[] }, { accessFlags := 25, nameIndex := 121, descriptorIndex := 25, attributes := #[] }, { accessFlags := 25, nameIndex := 131, descriptorIndex := 25, attributes := #[] }, { accessFlags := 25, nameIndex := 137, descriptorIndex := 25, attributes := #[] }, { accessFlags := 25, nameIndex := 143, descriptorIndex := 25, attributes := #[] }, { accessFlags := 25, nameIndex := 53, descriptorIndex := 25, attributes := #[] }, { accessFlags := 25, nameIndex := 24, descriptorIndex := 25, attributes := #[] }, { accessFlags := 25, nameIndex := 162, descriptorIndex := 25, attributes := #[] }, { accessFlags := 25, nameIndex := 187, descriptorIndex := 25, attributes := #[] }, { accessFlags := 26, nameIndex := 48, descriptorIndex := 25, attributes := #[] }, { accessFlags := 25, nameIndex := 277, descriptorIndex := 25, attributes := #[] }, { accessFlags := 25, nameIndex := 280, descriptorIndex := 25, attributes := #[] }, { accessFlags := 25, nameIndex := 282, descriptorIndex := 25, attributes := #[] }, { accessFlags := 25, nameIndex := 284, descriptorIndex := 25, attributes := #[] }, { accessFlags := 25, nameIndex := 286, descriptorIndex := 25, attributes := #[] }, { accessFlags := 25, nameIndex := 288, descriptorIndex := 25, attributes := #[] }, { accessFlags := 25, nameIndex := 290, descriptorIndex := 25, attributes := #[] }, { accessFlags := 25, nameIndex := 292, descriptorIndex := 25, attributes := #[] }, { accessFlags := 26, nameIndex := 108, descriptorIndex := 109, attributes := #[] }, { accessFlags := 25, nameIndex := 294, descriptorIndex := 25, attributes := #[] }])
  fields := #[{ name := "U", type := (.object "jdk/internal/misc/Unsafe"), accessFlags := 24, slot := 0, constantValue := 0 }, { name := "BIG_ENDIAN", type := .boolean, accessFlags := 26, slot := 1, constantValue := 0 }, { name := "LOG2_ARRAY_BOOLEAN_INDEX_SCALE", type := .int, accessFlags := 25, slot := 2, constantValue := 0 }, { name := "LOG2_ARRAY_BYTE_INDEX_SCALE", type := .int, accessFlags := 25, slot := 3, constantValue := 0 }, { name := "LOG2_ARRAY_CHAR_INDEX_SCALE", type := .int, accessFlags := 25, slot := 4, constantValue := 0 }, { name := "LOG2_ARRAY_SHORT_INDEX_SCALE", type := .int, accessFlags := 25, slot := 5, constantValue := 0 }, { name := "LOG2_ARRAY_INT_INDEX_SCALE", type := .int, accessFlags := 25, slot := 6, constantValue := 0 }, { name := "LOG2_ARRAY_LONG_INDEX_SCALE", type := .int, accessFlags := 25, slot := 7, constantValue := 0 }, { name := "LOG2_ARRAY_FLOAT_INDEX_SCALE", type := .int, accessFlags := 25, slot := 8, constantValue := 0 }, { name := "LOG2_ARRAY_DOUBLE_INDEX_SCALE", type := .int, accessFlags := 25, slot := 9, constantValue := 0 }, { name := "LOG2_BYTE_BIT_SIZE", type := .int, accessFlags := 26, slot := 10, constantValue := 0 }, { name := "T_BOOLEAN", type := .int, accessFlags := 25, slot := 11, constantValue := 0 }, { name := "T_CHAR", type := .int, accessFlags := 25, slot := 12, constantValue := 0 }, { name := "T_FLOAT", type := .int, accessFlags := 25, slot := 13, constantValue := 0 }, { name := "T_DOUBLE", type := .int, accessFlags := 25, slot := 14, constantValue := 0 }, { name := "T_BYTE", type := .int, accessFlags := 25, slot := 15, constantValue := 0 }, { name := "T_SHORT", type := .int, accessFlags := 25, slot := 16, constantValue := 0 }, { name := "T_INT", type := .int, accessFlags := 25, slot := 17, constantValue := 0 }, { name := "T_LONG", type := .int, accessFlags := 25, slot := 18, constantValue := 0 }, { name := "JLA", type := (.object "jdk/internal/access/JavaLangAccess"), accessFlags := 26, slot := 19, constantValue := 0 }, { name := "SOFT_MAX_ARRAY_LENGTH", type := .int, accessFlags := 25, slot := 20, constantValue := 0 }]
  methods := #[k16m0]
  instanceTypes := #[]
  staticTypes := #[(.object "jdk/internal/misc/Unsafe"), .boolean, .int, .int, .int, .int, .int, .int, .int, .int, .int, .int, .int, .int, .int, .int, .int, .int, .int, (.object "jdk/internal/access/JavaLangAccess"), .int]
  resolved := Array.replicate 378 none
  statics := none }

/-- the primitive byte -/
def k17 : Class := { plain "byte" none with kind := .primitive 'B', accessFlags := 0x411 }
/-- [B -/
def k18 : Class := { plain "[B" (some 0) with kind := .array 17 .byte, interfaces := #[10, 2], accessFlags := 1041 }

/-- the primitive char -/
def k19 : Class := { plain "char" none with kind := .primitive 'C', accessFlags := 0x411 }
/-- [C -/
def k20 : Class := { plain "[C" (some 0) with kind := .array 19 .char, interfaces := #[10, 2], accessFlags := 1041 }

/-- the primitive int -/
def k21 : Class := { plain "int" none with kind := .primitive 'I', accessFlags := 0x411 }
/-- [I -/
def k22 : Class := { plain "[I" (some 0) with kind := .array 21 .int, interfaces := #[10, 2], accessFlags := 1041 }

/-- [Lcom/example/keyclasp/keyclasp/protocol/ProtocolVersion; -/
def k23 : Class := { plain "[Lcom/example/keyclasp/keyclasp/protocol/ProtocolVersion;" (some 0) with kind := .array 9 (.object "com/example/keyclasp/keyclasp/protocol/ProtocolVersion"), interfaces := #[10, 2], accessFlags := 1041 }

def heap : Heap := #[{ cls := 7, slots := #[.long 0, .int 1, .null, .int 0, .null, .int 0, .int 0], vm := .statics 7 },
  { cls := 9, slots := #[.ref 5, .ref 6, .ref 4], vm := .statics 9 },
  { cls := 12, slots := #[.ref 11], vm := .statics 12 },
  { cls := 15, slots := #[.null, .null, .null], vm := .statics 15 },
  { cls := 23, slots := #[.ref 5, .ref 6], vm := .none },
  { cls := 9, slots := #[.null, .int 0, .int 0, .ref 7, .int 0], vm := .none },
  { cls := 9, slots := #[.null, .int 1, .int 0, .ref 8, .int 1], vm := .none },
  { cls := 7, slots := #[.ref 9, .int 0, .int 0, .int 0], vm := .none },
  { cls := 7, slots := #[.ref 10, .int 0, .int 0, .int 0], vm := .none },
  { cls := 18, slots := #[.int 51, .int 46, .int 50], vm := .none },
  { cls := 18, slots := #[.int 51, .int 46, .int 51], vm := .none },
  { cls := 12, slots := #[.null], vm := .none }]
def classes : Array Class := #[k0, k1, k2, k3, k4, k5, k6, k7, k8, k9, k10, k11, k12, k13, k14, k15, k16, k17, k18, k19, k20, k21, k22, k23]
def interned : List (Array UInt16 × Addr) := []
def slotsUsed : Nat := 41
def theMethod : MethodId := ⟨1, 3⟩
def args0 : Array Value := #[.int 5, .int 6, .int 7, .int 8, .int 9]
def aboutOver (below : List Frame) : State where
  vm := { classes := classes, interned := interned.toArray }
  heap := heap
  slotsUsed := slotsUsed
  threads := #[{ frames := .invoking theMethod args0 :: below }]
def below0 : List Frame := [.native { method := ⟨0, 0⟩, args := #[] }]
def about1 : State := aboutOver below0
def p0 : Program := .bare "" "" ""
def e0 : Env := launch0.env 0 0 0
theorem w_frames : about1.frames = Frame.invoking theMethod args0 :: below0 := rfl
set_option maxRecDepth 65536 in
theorem w_args : argsFit about1.vm theMethod args0 = true := by decide +kernel
set_option maxRecDepth 65536 in
theorem w_heap : heapFits about1 = true := by decide +kernel
set_option maxRecDepth 65536 in
theorem w_runnable : about1.curStatus? = some .runnable := by decide +kernel
set_option maxRecDepth 65536 in
theorem w_alone : about1.alone = true := by decide +kernel
set_option maxRecDepth 65536 in
theorem w_named : about1.methodNamed? x = some theMethod := by decide +kernel
set_option maxRecDepth 65536 in
theorem w_hears : about1.hears theMethod below0 = true := by decide +kernel
set_option maxRecDepth 65536 in
theorem w_ripe : about1.ripe theMethod args0 below0 = true := by decide +kernel
theorem w_running : about1.status = .running := rfl
set_option maxRecDepth 65536 in
theorem w_room : about1.hasRoom e0.platform room_1 = true :=
  launch0.hasRoom_least _ room_1 (by decide +kernel) (by decide +kernel) (by decide +kernel) (by decide +kernel) (by decide +kernel) (by decide +kernel)
theorem allAtoms_all (ts : List Jvm.Cond) (a : Array Jvm.Value) (st : Jvm.State) : (allAtoms ts).before a st = ts.all (fun c => c.before a st) := by
  induction ts with
  | nil => rfl
  | cons c t ih =>
    show (Jvm.Cond.and c (allAtoms t)).before a st = _
    rw [Jvm.Cond.before_and, ih, List.all_cons]
def words1 : List Jvm.Cond := Jvm.Cond.code x code maxLocals ret :: tables_1
/-- a 'code' word, met by the world's own term for the bytes: nothing is compared byte by byte -/
theorem code_word {y : MethodName} {bytes : ByteArray} {mx : Nat} {rt : Option FieldType} {a : Array Value} {s : State} {m : MethodId} {meth : Method} {c : Code} (h1 : s.methodNamed? y = some m) (h2 : s.vm.method? m = some meth) (h3 : meth.code = some c) (h4 : c.code = bytes)
    (h5 : (c.maxLocals == mx && c.exceptionTable.isEmpty && decide (c.maxStack ≤ mostOperands) && decide (meth.sig.returnType = rt) && !meth.locks && decide (parseMethodDescriptor y.desc = some meth.sig)) = true) : (Jvm.Cond.code y bytes mx rt).before a s = true := by
  simp only [Bool.and_eq_true, beq_iff_eq, Bool.not_eq_true', decide_eq_true_eq] at h5
  obtain ⟨⟨⟨⟨⟨g1, g2⟩, g3⟩, g4⟩, g5⟩, g6⟩ := h5
  simp [Cond.before, Cond.holds, Cond.value, h1, h2, h3, h4, g1, g2, g3, g4, g5, g6]
def isCode : Jvm.Cond → Bool
  | .code _ _ _ _ => true
  | _ => false
theorem all_split {L : List Jvm.Cond} {P : Jvm.Cond → Bool} (h1 : L.all (fun c => isCode c || P c) = true) (h2 : ∀ c ∈ L.filter isCode, P c = true) : L.all P = true := by
  refine List.all_eq_true.mpr fun c hc => ?_
  have h := List.all_eq_true.mp h1 c hc
  rcases Bool.eq_false_or_eq_true (isCode c) with hi | hi
  · exact h2 c (List.mem_filter.mpr ⟨hc, hi⟩)
  · simpa [hi] using h
set_option maxRecDepth 65536 in
theorem w_c0 : (Jvm.Cond.code x code maxLocals ret).before args0 about1 = true := code_word (m := ⟨1, 3⟩) (meth := k1m3) (c := k1c3) (by decide +kernel) rfl rfl rfl (by decide +kernel)
set_option maxRecDepth 65536 in
theorem w_c1 : (Jvm.Cond.code ({ cls := "com/example/keyclasp/keyclasp/protocol/ProtocolVersionOfPinLaw", name := "ch", desc := "(I)C" } : Jvm.MethodName) method_2_code (2 : Nat) (Option.some Jvm.ClassFile.FieldType.char)).before args0 about1 = true := code_word (m := ⟨1, 1⟩) (meth := k1m1) (c := k1c1) (by decide +kernel) rfl rfl rfl (by decide +kernel)
set_option maxRecDepth 65536 in
theorem w_c2 : (Jvm.Cond.code ({ cls := "com/example/keyclasp/keyclasp/protocol/ProtocolVersionOfPinLaw", name := "make", desc := "(ICCCC)Ljava/lang/String;" } : Jvm.MethodName) method_3_code (5 : Nat) (Option.some (Jvm.ClassFile.FieldType.object "java/lang/String"))).before args0 about1 = true := code_word (m := ⟨1, 2⟩) (meth := k1m2) (c := k1c2) (by decide +kernel) rfl rfl rfl (by decide +kernel)
set_option maxRecDepth 65536 in
theorem w_c3 : (Jvm.Cond.code ({ cls := "java/lang/String", name := "<init>", desc := "([C)V" } : Jvm.MethodName) jdk_42_method_3_code (2 : Nat) (Option.none : Option Jvm.ClassFile.FieldType)).before args0 about1 = true := code_word (m := ⟨7, 1⟩) (meth := k7m1) (c := k7c1) (by decide +kernel) rfl rfl rfl (by decide +kernel)
set_option maxRecDepth 65536 in
theorem w_c4 : (Jvm.Cond.code ({ cls := "java/lang/String", name := "<init>", desc := "([CIILjava/lang/Void;)V" } : Jvm.MethodName) jdk_42_method_149_code (6 : Nat) (Option.none : Option Jvm.ClassFile.FieldType)).before args0 about1 = true := code_word (m := ⟨7, 3⟩) (meth := k7m3) (c := k7c3) (by decide +kernel) rfl rfl rfl (by decide +kernel)
set_option maxRecDepth 65536 in
theorem w_c5 : (Jvm.Cond.code ({ cls := "java/lang/Object", name := "<init>", desc := "()V" } : Jvm.MethodName) object_method_1_code (1 : Nat) (Option.none : Option Jvm.ClassFile.FieldType)).before args0 about1 = true := code_word (m := ⟨0, 0⟩) (meth := k0m0) (c := k0c0) (by decide +kernel) rfl rfl rfl (by decide +kernel)
set_option maxRecDepth 65536 in
theorem w_c6 : (Jvm.Cond.code ({ cls := "com/example/keyclasp/keyclasp/protocol/ProtocolVersion", name := "of", desc := "(Ljava/lang/String;)Ljava/util/Optional;" } : Jvm.MethodName) prog_22_method_4_code (5 : Nat) (Option.some (Jvm.ClassFile.FieldType.object "java/util/Optional"))).before args0 about1 = true := code_word (m := ⟨9, 1⟩) (meth := k9m1) (c := k9c1) (by decide +kernel) rfl rfl rfl (by decide +kernel)
set_option maxRecDepth 65536 in
theorem w_c7 : (Jvm.Cond.code ({ cls := "com/example/keyclasp/keyclasp/protocol/ProtocolVersion", name := "values", desc := "()[Lcom/example/keyclasp/keyclasp/protocol/ProtocolVersion;" } : Jvm.MethodName) prog_22_method_1_code (0 : Nat) (Option.some (Jvm.ClassFile.FieldType.array (Jvm.ClassFile.FieldType.object "com/example/keyclasp/keyclasp/protocol/ProtocolVersion")))).before args0 about1 = true := code_word (m := ⟨9, 0⟩) (meth := k9m0) (c := k9c0) (by decide +kernel) rfl rfl rfl (by decide +kernel)
set_option maxRecDepth 65536 in
theorem w_c8 : (Jvm.Cond.code ({ cls := "java/lang/String", name := "equals", desc := "(Ljava/lang/Object;)Z" } : Jvm.MethodName) jdk_42_method_66_code (3 : Nat) (Option.some Jvm.ClassFile.FieldType.boolean)).before args0 about1 = true := code_word (m := ⟨7, 2⟩) (meth := k7m2) (c := k7c2) (by decide +kernel) rfl rfl rfl (by decide +kernel)
set_option maxRecDepth 65536 in
theorem w_c9 : (Jvm.Cond.code ({ cls := "java/lang/StringLatin1", name := "equals", desc := "([B[B)Z" } : Jvm.MethodName) jdk_43_method_13_code (3 : Nat) (Option.some Jvm.ClassFile.FieldType.boolean)).before args0 about1 = true := code_word (m := ⟨11, 1⟩) (meth := k11m1) (c := k11c1) (by decide +kernel) rfl rfl rfl (by decide +kernel)
set_option maxRecDepth 65536 in
theorem w_c10 : (Jvm.Cond.code ({ cls := "java/util/Optional", name := "empty", desc := "()Ljava/util/Optional;" } : Jvm.MethodName) jdk_32_method_1_code (1 : Nat) (Option.some (Jvm.ClassFile.FieldType.object "java/util/Optional"))).before args0 about1 = true := code_word (m := ⟨12, 0⟩) (meth := k12m0) (c := k12c0) (by decide +kernel) rfl rfl rfl (by decide +kernel)
set_option maxRecDepth 65536 in
theorem w_c11 : (Jvm.Cond.code ({ cls := "java/util/Optional", name := "isPresent", desc := "()Z" } : Jvm.MethodName) jdk_32_method_6_code (1 : Nat) (Option.some Jvm.ClassFile.FieldType.boolean)).before args0 about1 = true := code_word (m := ⟨12, 4⟩) (meth := k12m4) (c := k12c4) (by decide +kernel) rfl rfl rfl (by decide +kernel)
set_option maxRecDepth 65536 in
theorem w_c12 : (Jvm.Cond.code ({ cls := "java/lang/StringUTF16", name := "compress", desc := "([CII)[B" } : Jvm.MethodName) jdk_52_method_16_code (6 : Nat) (Option.some (Jvm.ClassFile.FieldType.array Jvm.ClassFile.FieldType.byte))).before args0 about1 = true := code_word (m := ⟨13, 2⟩) (meth := k13m2) (c := k13c2) (by decide +kernel) rfl rfl rfl (by decide +kernel)
set_option maxRecDepth 65536 in
theorem w_c13 : (Jvm.Cond.code ({ cls := "java/lang/StringUTF16", name := "compress", desc := "([CI[BII)I" } : Jvm.MethodName) jdk_52_method_21_code (7 : Nat) (Option.some Jvm.ClassFile.FieldType.int)).before args0 about1 = true := code_word (m := ⟨13, 3⟩) (meth := k13m3) (c := k13c3) (by decide +kernel) rfl rfl rfl (by decide +kernel)
set_option maxRecDepth 65536 in
theorem w_c14 : (Jvm.Cond.code ({ cls := "java/lang/StringUTF16", name := "coderFromArrayLen", desc := "([BI)B" } : Jvm.MethodName) jdk_52_method_15_code (2 : Nat) (Option.some Jvm.ClassFile.FieldType.byte)).before args0 about1 = true := code_word (m := ⟨13, 1⟩) (meth := k13m1) (c := k13c1) (by decide +kernel) rfl rfl rfl (by decide +kernel)
set_option maxRecDepth 65536 in
theorem w_c15 : (Jvm.Cond.code ({ cls := "java/util/Optional", name := "of", desc := "(Ljava/lang/Object;)Ljava/util/Optional;" } : Jvm.MethodName) jdk_32_method_3_code (1 : Nat) (Option.some (Jvm.ClassFile.FieldType.object "java/util/Optional"))).before args0 about1 = true := code_word (m := ⟨12, 2⟩) (meth := k12m2) (c := k12c2) (by decide +kernel) rfl rfl rfl (by decide +kernel)
set_option maxRecDepth 65536 in
theorem w_c16 : (Jvm.Cond.code ({ cls := "java/util/Objects", name := "requireNonNull", desc := "(Ljava/lang/Object;)Ljava/lang/Object;" } : Jvm.MethodName) jdk_31_method_10_code (1 : Nat) (Option.some (Jvm.ClassFile.FieldType.object "java/lang/Object"))).before args0 about1 = true := code_word (m := ⟨14, 1⟩) (meth := k14m1) (c := k14c1) (by decide +kernel) rfl rfl rfl (by decide +kernel)
set_option maxRecDepth 65536 in
theorem w_c17 : (Jvm.Cond.code ({ cls := "java/util/Optional", name := "<init>", desc := "(Ljava/lang/Object;)V" } : Jvm.MethodName) jdk_32_method_2_code (2 : Nat) (Option.none : Option Jvm.ClassFile.FieldType)).before args0 about1 = true := code_word (m := ⟨12, 1⟩) (meth := k12m1) (c := k12c1) (by decide +kernel) rfl rfl rfl (by decide +kernel)
set_option maxRecDepth 65536 in
theorem w_c18 : (Jvm.Cond.code ({ cls := "java/util/Optional", name := "get", desc := "()Ljava/lang/Object;" } : Jvm.MethodName) jdk_32_method_5_code (1 : Nat) (Option.some (Jvm.ClassFile.FieldType.object "java/lang/Object"))).before args0 about1 = true := code_word (m := ⟨12, 3⟩) (meth := k12m3) (c := k12c3) (by decide +kernel) rfl rfl rfl (by decide +kernel)
def codes1 : List Jvm.Cond := [Jvm.Cond.code x code maxLocals ret, Jvm.Cond.code ({ cls := "com/example/keyclasp/keyclasp/protocol/ProtocolVersionOfPinLaw", name := "ch", desc := "(I)C" } : Jvm.MethodName) method_2_code (2 : Nat) (Option.some Jvm.ClassFile.FieldType.char), Jvm.Cond.code ({ cls := "com/example/keyclasp/keyclasp/protocol/ProtocolVersionOfPinLaw", name := "make", desc := "(ICCCC)Ljava/lang/String;" } : Jvm.MethodName) method_3_code (5 : Nat) (Option.some (Jvm.ClassFile.FieldType.object "java/lang/String")), Jvm.Cond.code ({ cls := "java/lang/String", name := "<init>", desc := "([C)V" } : Jvm.MethodName) jdk_42_method_3_code (2 : Nat) (Option.none : Option Jvm.ClassFile.FieldType), Jvm.Cond.code ({ cls := "java/lang/String", name := "<init>", desc := "([CIILjava/lang/Void;)V" } : Jvm.MethodName) jdk_42_method_149_code (6 : Nat) (Option.none : Option Jvm.ClassFile.FieldType), Jvm.Cond.code ({ cls := "java/lang/Object", name := "<init>", desc := "()V" } : Jvm.MethodName) object_method_1_code (1 : Nat) (Option.none : Option Jvm.ClassFile.FieldType), Jvm.Cond.code ({ cls := "com/example/keyclasp/keyclasp/protocol/ProtocolVersion", name := "of", desc := "(Ljava/lang/String;)Ljava/util/Optional;" } : Jvm.MethodName) prog_22_method_4_code (5 : Nat) (Option.some (Jvm.ClassFile.FieldType.object "java/util/Optional")), Jvm.Cond.code ({ cls := "com/example/keyclasp/keyclasp/protocol/ProtocolVersion", name := "values", desc := "()[Lcom/example/keyclasp/keyclasp/protocol/ProtocolVersion;" } : Jvm.MethodName) prog_22_method_1_code (0 : Nat) (Option.some (Jvm.ClassFile.FieldType.array (Jvm.ClassFile.FieldType.object "com/example/keyclasp/keyclasp/protocol/ProtocolVersion"))), Jvm.Cond.code ({ cls := "java/lang/String", name := "equals", desc := "(Ljava/lang/Object;)Z" } : Jvm.MethodName) jdk_42_method_66_code (3 : Nat) (Option.some Jvm.ClassFile.FieldType.boolean), Jvm.Cond.code ({ cls := "java/lang/StringLatin1", name := "equals", desc := "([B[B)Z" } : Jvm.MethodName) jdk_43_method_13_code (3 : Nat) (Option.some Jvm.ClassFile.FieldType.boolean), Jvm.Cond.code ({ cls := "java/util/Optional", name := "empty", desc := "()Ljava/util/Optional;" } : Jvm.MethodName) jdk_32_method_1_code (1 : Nat) (Option.some (Jvm.ClassFile.FieldType.object "java/util/Optional")), Jvm.Cond.code ({ cls := "java/util/Optional", name := "isPresent", desc := "()Z" } : Jvm.MethodName) jdk_32_method_6_code (1 : Nat) (Option.some Jvm.ClassFile.FieldType.boolean), Jvm.Cond.code ({ cls := "java/lang/StringUTF16", name := "compress", desc := "([CII)[B" } : Jvm.MethodName) jdk_52_method_16_code (6 : Nat) (Option.some (Jvm.ClassFile.FieldType.array Jvm.ClassFile.FieldType.byte)), Jvm.Cond.code ({ cls := "java/lang/StringUTF16", name := "compress", desc := "([CI[BII)I" } : Jvm.MethodName) jdk_52_method_21_code (7 : Nat) (Option.some Jvm.ClassFile.FieldType.int), Jvm.Cond.code ({ cls := "java/lang/StringUTF16", name := "coderFromArrayLen", desc := "([BI)B" } : Jvm.MethodName) jdk_52_method_15_code (2 : Nat) (Option.some Jvm.ClassFile.FieldType.byte), Jvm.Cond.code ({ cls := "java/util/Optional", name := "of", desc := "(Ljava/lang/Object;)Ljava/util/Optional;" } : Jvm.MethodName) jdk_32_method_3_code (1 : Nat) (Option.some (Jvm.ClassFile.FieldType.object "java/util/Optional")), Jvm.Cond.code ({ cls := "java/util/Objects", name := "requireNonNull", desc := "(Ljava/lang/Object;)Ljava/lang/Object;" } : Jvm.MethodName) jdk_31_method_10_code (1 : Nat) (Option.some (Jvm.ClassFile.FieldType.object "java/lang/Object")), Jvm.Cond.code ({ cls := "java/util/Optional", name := "<init>", desc := "(Ljava/lang/Object;)V" } : Jvm.MethodName) jdk_32_method_2_code (2 : Nat) (Option.none : Option Jvm.ClassFile.FieldType), Jvm.Cond.code ({ cls := "java/util/Optional", name := "get", desc := "()Ljava/lang/Object;" } : Jvm.MethodName) jdk_32_method_5_code (1 : Nat) (Option.some (Jvm.ClassFile.FieldType.object "java/lang/Object"))]
set_option maxRecDepth 65536 in
theorem codes_eq : words1.filter isCode = codes1 := rfl
theorem w_codes : ∀ c ∈ words1.filter isCode, c.before args0 about1 = true := by
  rw [codes_eq]
  intro c hc
  simp only [codes1, List.mem_cons, List.not_mem_nil, or_false] at hc
  rcases hc with rfl | rfl | rfl | rfl | rfl | rfl | rfl | rfl | rfl | rfl | rfl | rfl | rfl | rfl | rfl | rfl | rfl | rfl | rfl
  · exact w_c0
  · exact w_c1
  · exact w_c2
  · exact w_c3
  · exact w_c4
  · exact w_c5
  · exact w_c6
  · exact w_c7
  · exact w_c8
  · exact w_c9
  · exact w_c10
  · exact w_c11
  · exact w_c12
  · exact w_c13
  · exact w_c14
  · exact w_c15
  · exact w_c16
  · exact w_c17
  · exact w_c18
set_option maxRecDepth 65536 in
theorem w_t1 : (words1.take 24).all (fun c => isCode c || c.before args0 about1) = true := by decide +kernel
set_option maxRecDepth 65536 in
theorem w_t2 : ((words1.drop 24).take 24).all (fun c => isCode c || c.before args0 about1) = true := by decide +kernel
set_option maxRecDepth 65536 in
theorem w_t3 : (((words1.drop 24).drop 24).take 24).all (fun c => isCode c || c.before args0 about1) = true := by decide +kernel
set_option maxRecDepth 65536 in
theorem w_t4 : ((((words1.drop 24).drop 24).drop 24).take 24).all (fun c => isCode c || c.before args0 about1) = true := by decide +kernel
set_option maxRecDepth 65536 in
theorem w_t5 : ((((words1.drop 24).drop 24).drop 24).drop 24).all (fun c => isCode c || c.before args0 about1) = true := by decide +kernel
theorem w_tables : (allAtoms (Jvm.Cond.code x code maxLocals ret :: tables_1)).before args0 about1 = true := by
  rw [allAtoms_all]
  show words1.all (fun c => c.before args0 about1) = true
  refine all_split ?_ w_codes
  rw [← List.take_append_drop 24 words1, List.all_append, w_t1, ← List.take_append_drop 24 (words1.drop 24), List.all_append, w_t2, ← List.take_append_drop 24 ((words1.drop 24).drop 24), List.all_append, w_t3, ← List.take_append_drop 24 (((words1.drop 24).drop 24).drop 24), List.all_append, w_t4, w_t5]
  rfl
set_option maxRecDepth 65536 in
theorem w_rest : rest_1_c.before args0 about1 = true := by decide +kernel
set_option maxRecDepth 65536 in
theorem w_case : (Jvm.Cond.and given_1 narrow_1).before args0 about1 = true := by decide +kernel
set_option maxRecDepth 65536 in
theorem w_consts : constsHeld consts_1 about1 := Jvm.Lit.constsHeldB_iff.mp (by decide +kernel)
theorem w_applies : (headSpec (Jvm.Cond.code x code maxLocals ret :: tables_1) room_1).applies x e0.platform about1 = true :=
  (Spec.applies_iff w_frames).mpr ⟨w_running, w_runnable, w_alone, w_named, w_hears, w_ripe, w_room, w_tables⟩
theorem atStart : AtStart classFile x code maxLocals ret World_1 tables_1 room_1 Calls_1 rest_1 Pre_1 launch0 p0 e0 about1 theMethod args0 below0 :=
  ⟨lists_1, trivial, launch0.admits_env _ _ _, launch0.least_env, fairChoices_fair.cas, fairChoices_fair.clock, w_frames, w_args, w_heap, w_applies, ⟨w_consts, trivial⟩, w_rest, w_case⟩
end start1
theorem witness_1 : WitnessClaimed_1 := ⟨start1.p0, start1.e0, start1.about1, start1.theMethod, start1.args0, start1.below0, start1.atStart⟩
end Jvm.Pilot.@@N@@
