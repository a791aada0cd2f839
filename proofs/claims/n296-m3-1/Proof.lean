import JvmDerived
import JvmDerived.Pilot.@@N@@Statement
import JvmDerived.Pilot.@@N@@Code
set_option linter.unusedVariables false
set_option linter.unusedSimpArgs false
@@BLOCK:NumsL.lean.txt@@
namespace Jvm.RoadKit
open Sem ClassFile Op Lib Jvm.Stand Jvm.Free Jvm.LawKit
/-- a step taken in front of a run that ends well -/
theorem own_go {tb : Tables} {e : Env} {below : List Frame} {a b : State} {P : State → Outcome → Prop} (h : ∀ target, Steps tb e below b target → Steps tb e below a target) (k : ∃ t o, Steps tb e below b t ∧ P t o) : ∃ t o, Steps tb e below a t ∧ P t o := by
  obtain ⟨t, o, h1, h2⟩ := k
  exact ⟨t, o, h _ h1, h2⟩
theorem own_ne {a n m b : Nat} (h1 : a < n) (h2 : n ≤ m) (h3 : m ≤ b) : a ≠ b := Nat.ne_of_lt (Nat.lt_of_lt_of_le h1 (Nat.le_trans h2 h3))
theorem own_tr {a b c : Nat} (h1 : a ≤ b) (h2 : b ≤ c) : a ≤ c := Nat.le_trans h1 h2
/-- a word of the tables by its place -/
theorem ow {ws : List Jvm.Cond} {a0 : Array Value} {Z : State} (hw : ∀ d ∈ ws, d.before a0 Z = true) (i : Nat) {d : Jvm.Cond} (h : ws[i]? = some d) : d.before a0 Z = true := hw d (List.mem_of_getElem? h)
/-- several roads meet -/
theorem own_join {A : Type} {C : A → Prop} {tb : Tables} {e : Env} {below : List Frame} {P : State → Outcome → Prop} {f : A → State} {a : State} (body : ∀ x, C x → ∃ t o, Steps tb e below (f x) t ∧ P t o)
    (use : (∀ x, C x → ∃ t o, Steps tb e below (f x) t ∧ P t o) → ∃ t o, Steps tb e below a t ∧ P t o) : ∃ t o, Steps tb e below a t ∧ P t o := use body
/-- a private method is its own selection -/
theorem own_selp {args : Array Value} {s : State} {y : MethodName} {n : Nat} (wi : (Cond.instantiable y.cls n).before args s = true) (wp : (Cond.privateMethod y).before args s = true) (wm : (Cond.instanceMethod y).before args s = true) (ny : y.cls ≠ "java/lang/invoke/MethodHandle" ∧ y.cls ≠ "java/lang/invoke/VarHandle") :
    (Cond.selects y.cls y y).before args s = true := by
  obtain ⟨c, k, h1, h2, -, h4, -⟩ := Cond.instantiable_spec wi
  obtain ⟨m, meth, g1, g2, -⟩ := Cond.instanceMethod_spec wm
  have hp := Cond.privateMethod_at wp m meth g1 g2
  have hc : m.cls = c := by
    have := findClass_of_methodNamed g1
    rw [h1] at this; exact (Option.some.inj this).symm
  have hi : k.isInterface = false := by simp at h4; exact h4.1
  have hf : s.methodFound? y.cls y.name y.desc = some m := State.methodFound?_of_named g1 ny
  simp [Cond.before, Cond.holds, Cond.value, h1, hf, g1, selectMethod_private g2 hp, hc, h2, hi]
section OwnCalls
variable {p : Program} {l : Launch} {e : Env} {R : Room} {s : State} {m : MethodId} {args : Array Value} {below : List Frame} {meth : Method} {c : Code} {T : State} {locs : List Loc} {cells slots : Nat} {Z : State} {a0 : Array Value} {h : Heap} {P : State → Outcome → Prop}
  {own C : String} {index W : Nat} {y z : MethodName} {bytes : ByteArray} {maxL : Nat} {ret : Option FieldType} {rm : Room} {Q : Option Value → Heap → List Loc → Prop} {b : Addr} {g : JFrame} {argsL rest : List Value}
/-- a static call by its contract, taken in front of a run that ends well -/
theorem own_stat (X : Stand p l e R s m args below meth c T locs cells slots) (hx : p.tables.exec = Jvm.exec) (hZ : Z.Warmed39 s.vm) (hown : s.vm.findClass own = some m.cls) (E : T.heap = h)
    (w1 : (Cond.methodLink own index y).before a0 Z = true) (w2 : (Cond.static y).before a0 Z = true)
    (hM : MetFree l y (head1 [Cond.code y bytes maxL ret] rm) (fun a U => a = argsL.toArray ∧ Z.Warmed39 U.vm ∧ U.heap = h) (fun _ _ _ _ _ => True) (fun _ U o U' => ∃ v L, o = .returned v ∧ Q v U'.heap L ∧ FrameEnd U o U' L rm.cells rm.slots))
    (wc : (Cond.code y bytes maxL ret).before a0 Z = true) (wz : (Cond.initialized y.cls).before a0 Z = true)
    (hg : g.method = m) (hsize : g.locals.size = c.maxLocals) (hs : g.stack = argsL.reverse ++ rest) (hd : decode c.code g.pc = .ok (.invokestatic index, 3))
    (hlen : ∀ sig, parseMethodDescriptor y.desc = some sig → argsL.length = sig.parameters.length) (hW : 2 * g.monitorRoom + (rest.map fun v => v.category).sum = W)
    (hnum : (y.cls ≠ "java/lang/invoke/MethodHandle" ∧ y.cls ≠ "java/lang/invoke/VarHandle") ∧ rm.frames + 1 ≤ R.frames ∧ W + (maxL + 11) + rm.locals ≤ R.locals ∧ cells + rm.cells ≤ R.cells ∧ slots + rm.slots ≤ R.slots)
    (K : ∀ (T' : State) (v : Option Value) (L : List Loc), Stand p l e R s m args below meth c T' (locs ++ L) (cells + rm.cells) (slots + rm.slots) → Q v T'.heap L → ∃ t o, Steps p.tables e below (T'.setTop { g with pc := g.pc + 3, stack := v.toList ++ rest }) t ∧ P t o) :
    ∃ t o, Steps p.tables e below (T.setTop g) t ∧ P t o := by
  obtain ⟨hy, hf, hl, hc, hsl⟩ := hnum
  obtain ⟨v, _, ⟨T', L, kz, nz⟩, -, X', ⟨Lc, hQ, l1, y1, z1⟩, st⟩ := Jvm.LawKit.callS X hx (y := y) hown (mvT hZ w1) (mvT hZ w2) (mvT hZ wz) (mvT hZ wc) hy (backOf (W := W) hM hZ wc wz hf hl) (g := g) hg hsize (argsL := argsL) (rest := rest) hlen hs (Nat.le_of_eq hW) hd (fun _ _ => ⟨rfl, E, hc, hsl⟩)
  dsimp only [Pt.U, Pt.locs, Pt.cells, Pt.slots] at X' l1 y1 z1 st hQ
  subst l1 y1 z1
  obtain ⟨t, o, k1, k2⟩ := K T' v Lc X' hQ
  exact ⟨t, o, st _ k1, k2⟩
/-- a constructor by its contract -/
theorem own_spec (X : Stand p l e R s m args below meth c T locs cells slots) (hx : p.tables.exec = Jvm.exec) (hZ : Z.Warmed39 s.vm) (hown : s.vm.findClass own = some m.cls) (E : T.heap = h)
    (w1 : (Cond.methodLink own index y).before a0 Z = true) (w2 : (Cond.instanceMethod y).before a0 Z = true)
    (hM : MetFree l y (head1 [Cond.code y bytes maxL none] rm) (fun a U => a = (.ref b :: argsL).toArray ∧ Z.Warmed39 U.vm ∧ U.heap = h) (fun _ _ _ _ _ => True) (fun _ U o U' => ∃ v L, o = .returned v ∧ Q v U'.heap L ∧ FrameEnd U o U' L rm.cells rm.slots))
    (wc : (Cond.code y bytes maxL none).before a0 Z = true) (wz : (Cond.initialized y.cls).before a0 Z = true)
    (hg : g.method = m) (hsize : g.locals.size = c.maxLocals) (hs : g.stack = argsL.reverse ++ .ref b :: rest) (hd : decode c.code g.pc = .ok (.invokespecial index, 3))
    (hlen : ∀ sig, parseMethodDescriptor y.desc = some sig → argsL.length = sig.parameters.length) (hW : 2 * g.monitorRoom + (rest.map fun v => v.category).sum = W)
    (hy1 : y.name = "<init>") (hnum : (y.cls ≠ "java/lang/invoke/MethodHandle" ∧ y.cls ≠ "java/lang/invoke/VarHandle") ∧ rm.frames + 1 ≤ R.frames ∧ W + (maxL + 11) + rm.locals ≤ R.locals ∧ cells + rm.cells ≤ R.cells ∧ slots + rm.slots ≤ R.slots)
    (K : ∀ (T' : State) (v : Option Value) (L : List Loc), Stand p l e R s m args below meth c T' (locs ++ L) (cells + rm.cells) (slots + rm.slots) → Q v T'.heap L → ∃ t o, Steps p.tables e below (T'.setTop { g with pc := g.pc + 3, stack := v.toList ++ rest }) t ∧ P t o) :
    ∃ t o, Steps p.tables e below (T.setTop g) t ∧ P t o := by
  obtain ⟨hy, hf, hl, hc, hsl⟩ := hnum
  obtain ⟨v, _, ⟨T', L, kz, nz⟩, -, X', ⟨Lc, hQ, l1, y1, z1⟩, st⟩ := X.specialBack hx (y := y) hy1 hown (mvT hZ w1) (mvT hZ w2) (mvT hZ wc) hy (backOf (W := W) hM hZ wc wz hf hl) (g := g) hg hsize (Steps.refl _) (a := b) (argsL := argsL) (rest := rest) hlen hs (Nat.le_of_eq hW) hd (fun _ _ => ⟨rfl, E, hc, hsl⟩)
  dsimp only [Pt.U, Pt.locs, Pt.cells, Pt.slots] at X' l1 y1 z1 st hQ
  subst l1 y1 z1
  obtain ⟨t, o, k1, k2⟩ := K T' v Lc X' hQ
  exact ⟨t, o, st.trans k1, k2⟩
/-- a virtual call by the contract of what the receiver's class selects -/
theorem own_virt (X : Stand p l e R s m args below meth c T locs cells slots) (hx : p.tables.exec = Jvm.exec) (hZ : Z.Warmed39 s.vm) (hown : s.vm.findClass own = some m.cls) (E : T.heap = h)
    (w1 : (Cond.methodLink own index y).before a0 Z = true) (w2 : (Cond.declares y).before a0 Z = true) (w3 : (Cond.selects C y y).before a0 Z = true) (w4 : (Cond.instanceMethod y).before a0 Z = true)
    (hM : MetFree l y (head1 [Cond.code y bytes maxL ret] rm) (fun a U => a = (.ref b :: argsL).toArray ∧ Z.Warmed39 U.vm ∧ U.heap = h) (fun _ _ _ _ _ => True) (fun _ U o U' => ∃ v L, o = .returned v ∧ Q v U'.heap L ∧ FrameEnd U o U' L rm.cells rm.slots))
    (wc : (Cond.code y bytes maxL ret).before a0 Z = true) (wz : (Cond.initialized y.cls).before a0 Z = true) (Ex : Exa Z h b C)
    (hg : g.method = m) (hsize : g.locals.size = c.maxLocals) (hs : g.stack = argsL.reverse ++ .ref b :: rest) (hd : decode c.code g.pc = .ok (.invokevirtual index, 3))
    (hlen : ∀ sig, parseMethodDescriptor y.desc = some sig → argsL.length = sig.parameters.length) (hW : 2 * g.monitorRoom + (rest.map fun v => v.category).sum = W)
    (hnum : (y.cls ≠ "java/lang/invoke/MethodHandle" ∧ y.cls ≠ "java/lang/invoke/VarHandle") ∧ rm.frames + 1 ≤ R.frames ∧ W + (maxL + 11) + rm.locals ≤ R.locals ∧ cells + rm.cells ≤ R.cells ∧ slots + rm.slots ≤ R.slots)
    (K : ∀ (T' : State) (v : Option Value) (L : List Loc), Stand p l e R s m args below meth c T' (locs ++ L) (cells + rm.cells) (slots + rm.slots) → Q v T'.heap L → ∃ t o, Steps p.tables e below (T'.setTop { g with pc := g.pc + 3, stack := v.toList ++ rest }) t ∧ P t o) :
    ∃ t o, Steps p.tables e below (T.setTop g) t ∧ P t o := by
  obtain ⟨hy, hf, hl, hc, hsl⟩ := hnum
  obtain ⟨cq, kq, qa, qb, qc⟩ := isOf hZ E Ex
  obtain ⟨v, _, ⟨T', L, kz, nz⟩, -, X', ⟨Lc, hQ, l1, y1, z1⟩, st⟩ := X.virtualBack hx (y := y) (z := y) hown (mvT hZ w1) (mvT hZ w2) (notFace_of_selects (args := #[]) (mvT hZ w3)) (mvT hZ w3) (mvT hZ w4) hy (backOf (W := W) hM hZ wc wz hf hl) qa qc (g := g) hg hsize (Steps.refl _) (argsL := argsL) (rest := rest) hlen hs (Nat.le_of_eq hW) hd (fun _ _ => ⟨rfl, E, hc, hsl⟩)
  dsimp only [Pt.U, Pt.locs, Pt.cells, Pt.slots] at X' l1 y1 z1 st hQ
  subst l1 y1 z1
  obtain ⟨t, o, k1, k2⟩ := K T' v Lc X' hQ
  exact ⟨t, o, st.trans k1, k2⟩
/-- getfield -/
theorem own_getf (X : Stand p l e R s m args below meth c T locs cells slots) (hx : p.tables.exec = Jvm.exec) (hZ : Z.Warmed39 s.vm) {R0 O n d : String} (hown : s.vm.findClass own = some m.cls) (w : (Cond.fieldLink own index R0 n d).before a0 Z = true) (via : Via Z R0 O n d)
    (E : T.heap = h) {v : Value} (F : Fld Z h b O n d v) (hg : g.method = m) (hs : g.stack = .ref b :: rest) (hd : decode c.code g.pc = .ok (.getfield index, 3))
    (K : ∀ T' : State, Stand p l e R s m args below meth c T' locs cells slots → T'.heap = h → ∃ t o, Steps p.tables e below (T'.setTop { g with pc := g.pc + 3, stack := v :: rest }) t ∧ P t o) : ∃ t o, Steps p.tables e below (T.setTop g) t ∧ P t o := by
  obtain ⟨T', X', e', st⟩ := getF X hx hZ hown (host := "") (Or.inl w) via E F (g := g) hg hs hd
  obtain ⟨t, o, k1, k2⟩ := K T' X' e'
  exact ⟨t, o, st _ k1, k2⟩
end OwnCalls
/-- a field of an object of the start that the case fixes as an int -/
theorem own_fint {args : Array Value} {s : State} {t : Term} {C n d : String} {k : Int32} {x : Addr} (h : (Jvm.Cond.eq (Term.field t C n d) (Term.int k)).value args s none s [] = some true) (ht : t.eval args s none [] s = some (.ref x)) : Fld s s.heap x C n d (.int k) := by
  obtain ⟨u, v, h1, h2, h3, h4⟩ := cmp_v (Or.inl h)
  have e2 : v = .int k := by rw [Term.int_eval] at h2; exact (Option.some.inj h2).symm
  subst e2
  obtain ⟨z, rfl⟩ : ∃ z, u = .int z := h4
  have q := gotT (Cond.eq_ints h1 h2) h
  subst q
  exact Fld.start (by rw [← fld_at (C := C) (n := n) (dd := d) ht]; exact h1)
end Jvm.RoadKit
namespace Jvm.RoadKit
open Sem ClassFile Op Lib Bundle Jvm.Stand Jvm.Free Jvm.LawKit
section OwnW
variable {p : Program} {l : Launch} {e : Env} {R : Room} {s : State} {m : MethodId} {args : Array Value} {below : List Frame} {meth : Method} {c : Code} {T : State} {locs : List Loc} {cells slots : Nat} {Z : State} {a0 : Array Value} {h : Heap} {P : State → Outcome → Prop} {EL : List (String × Nat)}
  {own C : String} {index W : Nat} {y : MethodName} {bytes : ByteArray} {maxL : Nat} {ret : Option FieldType} {rm : Room} {Q : Option Value → Heap → List Loc → Prop} {a b : Addr} {g : JFrame} {argsL rest : List Value} {as' : Array Value}
theorem own_backW {len : Nat} (hM : MetFree l y (head1 [Cond.code y bytes maxL ret] rm) (fun a U => a = as' ∧ Z.Warmed39 U.vm ∧ U.heap = h ∧ CHv Z EL U.vm h) (fun _ _ _ _ _ => True) (fun _ U o U' => ∃ v L, o = .returned v ∧ Q v U'.heap L ∧ ReturnedEndW U o U' L rm.cells rm.slots))
    (hZ : Z.Warmed39 s.vm) (wc : (Cond.code y bytes maxL ret).before a0 Z = true) (wz : (Cond.initialized y.cls).before a0 Z = true) (hf : rm.frames + 1 ≤ R.frames) (hl : W + (maxL + 11) + rm.locals ≤ R.locals) (hEL : EW Z a0 EL) (H : CHv Z EL s.vm h) :
    BackS l R p e below s args y len W (fun A a => a = as' ∧ A.U.heap = h ∧ A.cells + rm.cells ≤ R.cells ∧ A.slots + rm.slots ≤ R.slots)
      (fun A _ v B => ∃ L, Q v B.U.heap L ∧ B.locs = A.locs ++ L ∧ B.cells = A.cells + rm.cells ∧ B.slots = A.slots + rm.slots) :=
  BackS.of_freeW (bytes := bytes) (maxL := maxL) (ret := ret) (E := fun _ _ o t L k n => k = rm.cells ∧ n = rm.slots ∧ ∃ v, o = .returned v ∧ Q v t.heap L) hM hf hl
    (fun m meth c A a Y hp => have hU : Z.Warmed39 A.U.vm := wtrans hZ Y.warmed
      ⟨by show (Cond.and _ .tt).before a A.U = true; rw [Cond.before_and, mv hU wc]; rfl, mv hU wc, mv hU wz, hp.2.2.1, hp.2.2.2⟩)
    (fun m meth c A a g mk Y hp => ⟨hp.1, wtrans hZ Y.warmed, hp.2.1, (CHv.at (s := s) (vm0 := s.vm) Y hZ hEL H).1⟩) (fun _ _ _ _ _ _ _ _ _ => trivial)
    (fun _ _ _ _ ⟨v, L, h1, h2, h3⟩ => ⟨L, _, _, h3, rfl, rfl, v, h1, h2⟩)
    (fun m meth c A a g mk v t L k n Y hp _ _ ⟨e1, e2, v', e3, e4⟩ => by cases e3; subst e1 e2; exact ⟨L, e4, rfl, rfl, rfl⟩)
/-- a static call of a callee that may intern -/
theorem own_statW (X : Stand p l e R s m args below meth c T locs cells slots) (hx : p.tables.exec = Jvm.exec) (hZ : Z.Warmed39 s.vm) (hown : s.vm.findClass own = some m.cls) (E : T.heap = h)
    (w1 : (Cond.methodLink own index y).before a0 Z = true) (w2 : (Cond.static y).before a0 Z = true)
    (hM : MetFree l y (head1 [Cond.code y bytes maxL ret] rm) (fun a U => a = argsL.toArray ∧ Z.Warmed39 U.vm ∧ U.heap = h ∧ CHv Z EL U.vm h) (fun _ _ _ _ _ => True) (fun _ U o U' => ∃ v L, o = .returned v ∧ Q v U'.heap L ∧ ReturnedEndW U o U' L rm.cells rm.slots))
    (wc : (Cond.code y bytes maxL ret).before a0 Z = true) (wz : (Cond.initialized y.cls).before a0 Z = true)
    (hg : g.method = m) (hsize : g.locals.size = c.maxLocals) (hs : g.stack = argsL.reverse ++ rest) (hd : decode c.code g.pc = .ok (.invokestatic index, 3))
    (hlen : ∀ sig, parseMethodDescriptor y.desc = some sig → argsL.length = sig.parameters.length) (hW : 2 * g.monitorRoom + (rest.map fun v => v.category).sum = W)
    (hnum : (y.cls ≠ "java/lang/invoke/MethodHandle" ∧ y.cls ≠ "java/lang/invoke/VarHandle") ∧ rm.frames + 1 ≤ R.frames ∧ W + (maxL + 11) + rm.locals ≤ R.locals ∧ cells + rm.cells ≤ R.cells ∧ slots + rm.slots ≤ R.slots) (hEL : EW Z a0 EL) (H : CHv Z EL s.vm h)
    (K : ∀ (T' : State) (v : Option Value) (L : List Loc), Stand p l e R (s.setVm T'.vm) m args below meth c T' (locs ++ L) (cells + rm.cells) (slots + rm.slots) → Q v T'.heap L → s.Since T'.vm T'.heap.size → Z.Warmed39 (s.setVm T'.vm).vm → (s.setVm T'.vm).vm.findClass own = some m.cls → ∃ t o, Steps p.tables e below (T'.setTop { g with pc := g.pc + 3, stack := v.toList ++ rest }) t ∧ P t o) :
    ∃ t o, Steps p.tables e below (T.setTop g) t ∧ P t o := by
  obtain ⟨hy, hf, hl, hc, hsl⟩ := hnum
  obtain ⟨v, _, ⟨T', L, kz, nz⟩, -, X', hS, -, ⟨Lc, hQ, l1, y1, z1⟩, st⟩ := callSS X hx (y := y) hown (mvT hZ w1) (mvT hZ w2) (mvT hZ wz) (mvT hZ wc) hy (own_backW (W := W) hM hZ wc wz hf hl hEL H) (g := g) hg hsize (argsL := argsL) (rest := rest) hlen hs (Nat.le_of_eq hW) hd (fun _ _ => ⟨rfl, E, hc, hsl⟩)
  dsimp only [Pt.U, Pt.locs, Pt.cells, Pt.slots] at X' l1 y1 z1 st hQ hS
  subst l1 y1 z1
  obtain ⟨t, o, k1, k2⟩ := K T' v Lc X' hQ hS (State.Warmed39.trans (t := s) hZ hS.1) (by rw [show (s.setVm T'.vm).vm = T'.vm from rfl, hS.1.alike.findClass]; exact hown)
  exact ⟨t, o, st.trans k1, k2⟩
/-- a constructor that may intern -/
theorem own_specW (X : Stand p l e R s m args below meth c T locs cells slots) (hx : p.tables.exec = Jvm.exec) (hZ : Z.Warmed39 s.vm) (hown : s.vm.findClass own = some m.cls) (E : T.heap = h)
    (w1 : (Cond.methodLink own index y).before a0 Z = true) (w2 : (Cond.instanceMethod y).before a0 Z = true)
    (hM : MetFree l y (head1 [Cond.code y bytes maxL none] rm) (fun a U => a = (.ref b :: argsL).toArray ∧ Z.Warmed39 U.vm ∧ U.heap = h ∧ CHv Z EL U.vm h) (fun _ _ _ _ _ => True) (fun _ U o U' => ∃ v L, o = .returned v ∧ Q v U'.heap L ∧ ReturnedEndW U o U' L rm.cells rm.slots))
    (wc : (Cond.code y bytes maxL none).before a0 Z = true) (wz : (Cond.initialized y.cls).before a0 Z = true)
    (hg : g.method = m) (hsize : g.locals.size = c.maxLocals) (hs : g.stack = argsL.reverse ++ .ref b :: rest) (hd : decode c.code g.pc = .ok (.invokespecial index, 3))
    (hlen : ∀ sig, parseMethodDescriptor y.desc = some sig → argsL.length = sig.parameters.length) (hW : 2 * g.monitorRoom + (rest.map fun v => v.category).sum = W)
    (hy1 : y.name = "<init>") (hnum : (y.cls ≠ "java/lang/invoke/MethodHandle" ∧ y.cls ≠ "java/lang/invoke/VarHandle") ∧ rm.frames + 1 ≤ R.frames ∧ W + (maxL + 11) + rm.locals ≤ R.locals ∧ cells + rm.cells ≤ R.cells ∧ slots + rm.slots ≤ R.slots) (hEL : EW Z a0 EL) (H : CHv Z EL s.vm h)
    (K : ∀ (T' : State) (v : Option Value) (L : List Loc), Stand p l e R (s.setVm T'.vm) m args below meth c T' (locs ++ L) (cells + rm.cells) (slots + rm.slots) → Q v T'.heap L → s.Since T'.vm T'.heap.size → Z.Warmed39 (s.setVm T'.vm).vm → (s.setVm T'.vm).vm.findClass own = some m.cls → ∃ t o, Steps p.tables e below (T'.setTop { g with pc := g.pc + 3, stack := v.toList ++ rest }) t ∧ P t o) :
    ∃ t o, Steps p.tables e below (T.setTop g) t ∧ P t o := by
  obtain ⟨hy, hf, hl, hc, hsl⟩ := hnum
  obtain ⟨v, _, ⟨T', L, kz, nz⟩, -, X', hS, -, ⟨Lc, hQ, l1, y1, z1⟩, st⟩ := X.specialBackS hx (y := y) hy1 hown (mvT hZ w1) (mvT hZ w2) (mvT hZ wc) hy (own_backW (W := W) hM hZ wc wz hf hl hEL H) (g := g) hg hsize (Steps.refl _) (a := b) (argsL := argsL) (rest := rest) hlen hs (Nat.le_of_eq hW) hd (fun _ _ => ⟨rfl, E, hc, hsl⟩)
  dsimp only [Pt.U, Pt.locs, Pt.cells, Pt.slots] at X' l1 y1 z1 st hQ hS
  subst l1 y1 z1
  obtain ⟨t, o, k1, k2⟩ := K T' v Lc X' hQ hS (State.Warmed39.trans (t := s) hZ hS.1) (by rw [show (s.setVm T'.vm).vm = T'.vm from rfl, hS.1.alike.findClass]; exact hown)
  exact ⟨t, o, st.trans k1, k2⟩
/-- the copy of an array -/
theorem own_cloneV (X : Stand p l e R s m args below meth c T locs cells slots) (hx : p.tables.exec = Jvm.exec) (hZ : Z.Warmed39 s.vm) {ad : String} (hown : s.vm.findClass own = some m.cls)
    (w1 : (Cond.methodLink own index ⟨ad, "clone", "()Ljava/lang/Object;"⟩).before a0 Z = true) (w2 : (Cond.sameMethod ad "java/lang/Object" "clone" "()Ljava/lang/Object;").before a0 Z = true) (w3 : (Cond.native ⟨"java/lang/Object", "clone", "()Ljava/lang/Object;"⟩).before a0 Z = true)
    (w4 : (Cond.instanceMethod ⟨"java/lang/Object", "clone", "()Ljava/lang/Object;"⟩).before a0 Z = true) (w5 : (Cond.selects ad ⟨ad, "clone", "()Ljava/lang/Object;"⟩ ⟨"java/lang/Object", "clone", "()Ljava/lang/Object;"⟩).before a0 Z = true) (w6 : (Cond.castable ad "java/lang/Cloneable").before a0 Z = true)
    (eT : T.heap = h) {k : ClassId} {ty : FieldType} {n : Int32} {vs : List Value} {d : Value} (F : Arv Z h a k ty n vs d) (E : Exa Z h a ad) (hg : g.method = m) (hsize : g.locals.size = c.maxLocals) (hs : g.stack = .ref a :: rest) (hd : decode c.code g.pc = .ok (.invokevirtual index, 3))
    (hf : 1 ≤ R.frames) {cap : Nat} (hW : 2 * g.monitorRoom + (rest.map fun v => v.category).sum ≤ W) (hl : W + 14 ≤ R.locals) (hcap : n.toNatClampNeg ≤ cap) (hc : cells + 1 ≤ R.cells) (hsl : slots + cap ≤ R.slots) :
    ∃ T' h', Stand p l e R s m args below meth c T' locs (cells + 1) (slots + cap) ∧ T'.heap = h' ∧ Ext h h' ∧ Arv Z h' h.size k ty n vs d ∧ Exa Z h' h.size ad ∧
      ∀ target, Steps p.tables e below (T'.setTop { g with pc := g.pc + 3, stack := .ref h.size :: rest }) target → Steps p.tables e below (T.setTop g) target := by
  obtain ⟨cl, A, r1, r2, r3, H, G⟩ := F
  have FC : FitC Z cl := fitC_of A fun i hi v hv => by rw [H i hi] at hv; cases hv; exact G i hi
  obtain ⟨T', h', X', e', E', A', Ex', st⟩ := cloneA X hx hZ hown w1 w2 w3 w4 w5 w6 eT A E FC hg hsize hs hd hf hW hl (by rw [r2]; exact hcap) hc hsl
  exact ⟨T', h', X', e', E', ⟨_, A', r1, r2, r3, H, G⟩, Ex', st⟩
/-- an array of the start -/
theorem own_arr0 {t : Term} {ty : FieldType} {n : Int32} {x : Addr} (ev : t.eval args s none [] s = some (.ref x)) (ha : (Cond.arrayOf t ty).value args s none s [] = some true) (hl : (Cond.eq (Term.length t) (Term.int n)).value args s none s [] = some true) :
    ∃ cl, Arr s s.heap x cl ty ∧ cl.slots.size < 2 ^ 31 ∧ cl.slots.size.toInt32 = n := by
  obtain ⟨cl, A⟩ := Arr.start ev ha
  obtain ⟨u, v, h1, h2, h3, h4⟩ := cmp_v (Or.inl hl)
  have e2 : v = .int n := by rw [Term.int_eval] at h2; exact (Option.some.inj h2).symm
  subst e2
  obtain ⟨x', cell, f1, f2, f3⟩ := Term.length_spec h1
  cases f1.symm.trans ev
  have hc : s.heap[x]? = some cell := by
    have f2' := f2
    simp only [State.arrayAt?, Option.bind_eq_bind, Option.bind_eq_some_iff] at f2'
    obtain ⟨c', q1, k', q2, q3⟩ := f2'
    split at q3
    · cases q3
    · split at q3
      · cases q3; exact q1
      · cases q3
  cases hc.symm.trans A.1
  subst f3
  have q := gotT (Cond.eq_ints h1 h2) hl
  refine ⟨cl, A, ?_, q⟩
  simp only [Term.eval, ev, f2, Option.bind_eq_bind, Option.bind_some] at h1
  split at h1
  · assumption
  · cases h1
theorem own_el0 {t : Term} {x : Addr} {cl : Cell} {j k : Int32} (ev : t.eval args s none [] s = some (.ref x)) (hc : s.heap[x]? = some cl) (h : (Cond.eq (Term.elem t (Term.int j)) (Term.int k)).value args s none s [] = some true) : cl.slots[j.toNatClampNeg]? = some (.int k) := by
  obtain ⟨u, v, h1, h2, h3, h4⟩ := cmp_v (Or.inl h)
  have e2 : v = .int k := by rw [Term.int_eval] at h2; exact (Option.some.inj h2).symm
  subst e2
  obtain ⟨z, rfl⟩ : ∃ z, u = .int z := h4
  have q := gotT (Cond.eq_ints h1 h2) h
  subst q
  exact (elem_in h1 ev (Term.int_eval j) hc).2
theorem own_elR {t u : Term} {x y : Addr} {cl : Cell} {j : Int32} (ev : t.eval args s none [] s = some (.ref x)) (hc : s.heap[x]? = some cl) (eu : u.eval args s none [] s = some (.ref y)) (h : (Cond.eq (Term.elem t (Term.int j)) u).value args s none s [] = some true) : cl.slots[j.toNatClampNeg]? = some (.ref y) := by
  obtain ⟨w, v, h1, h2, h3, h4⟩ := cmp_v (Or.inl h)
  cases h2.symm.trans eu
  have e1 := (elem_in h1 ev (Term.int_eval j) hc).2
  cases w with
  | ref z =>
    have q := gotT (eq_R h1 h2 rfl rfl) h
    rw [e1, q]
  | null =>
    have q := gotT (eq_R h1 h2 rfl rfl) h
    cases q
  | _ => simp [Cond.value, h1, h2] at h
end OwnW
end Jvm.RoadKit
namespace Jvm.RoadKit
open Sem ClassFile Op Lib Bundle Jvm.Stand Jvm.Free Jvm.LawKit
section OwnX
variable {p : Program} {l : Launch} {e : Env} {R : Room} {s : State} {m : MethodId} {args : Array Value} {below : List Frame} {meth : Method} {c : Code} {T : State} {locs : List Loc} {cells slots : Nat} {Z : State} {a0 : Array Value} {h : Heap} {P : State → Outcome → Prop} {EL : List (String × Nat)}
  {own C : String} {index W : Nat} {y : MethodName} {bytes : ByteArray} {maxL : Nat} {ret : Option FieldType} {rm : Room} {Q : Option Value → Heap → List Loc → Prop} {a b : Addr} {g : JFrame} {argsL rest : List Value} {as' : Array Value}
/-- a private method of a class that is no interface is its own selection -/
theorem own_selpV (ws : (Cond.selects C y y).before args s = true) (wp : (Cond.privateMethod y).before args s = true) (wm : (Cond.instanceMethod y).before args s = true) (ny : y.cls ≠ "java/lang/invoke/MethodHandle" ∧ y.cls ≠ "java/lang/invoke/VarHandle") :
    (Cond.selects y.cls y y).before args s = true := by
  obtain ⟨m, meth, g1, g2, -⟩ := Cond.instanceMethod_spec wm
  have hp := Cond.privateMethod_at wp m meth g1 g2
  have hf : s.methodFound? y.cls y.name y.desc = some m := State.methodFound?_of_named g1 ny
  obtain ⟨c2, r2, m2, q1, q2, q3, q4, kP, hkP, hkPi⟩ := Cond.selects_spec ws
  have e2 : m = r2 := by cases q2.symm.trans hf; rfl
  have h1 : s.vm.findClass y.cls = some m.cls := findClass_of_methodNamed g1
  subst e2
  have e3 : m = m2 := Option.some.inj (g1.symm.trans q3)
  subst e3
  simp [Cond.before, Cond.holds, Cond.value, h1, hf, g1, selectMethod_private g2 hp, hkP, hkPi]
theorem own_same {z : MethodName} (ws : (Cond.selects C z z).before args s = true) (ez : z.cls = y.cls) (wm : (Cond.instanceMethod y).before args s = true) (ny : y.cls ≠ "java/lang/invoke/MethodHandle" ∧ y.cls ≠ "java/lang/invoke/VarHandle") : (Cond.sameMethod y.cls y.cls y.name y.desc).before args s = true := by
  obtain ⟨m, meth, g1, g2, -⟩ := Cond.instanceMethod_spec wm
  have hf : s.methodFound? y.cls y.name y.desc = some m := State.methodFound?_of_named g1 ny
  obtain ⟨c2, r2, m2, q1, q2, q3, q4, kP, hkP, hkPi⟩ := Cond.selects_spec ws
  have h1 : s.vm.findClass y.cls = some m.cls := findClass_of_methodNamed g1
  have h2 : s.vm.findClass y.cls = some m2.cls := by rw [← ez]; exact findClass_of_methodNamed q3
  have e3 : m.cls = m2.cls := Option.some.inj (h1.symm.trans h2)
  have g1' : s.methodNamed? ⟨y.cls, y.name, y.desc⟩ = some m := g1
  simp [Cond.before, Cond.holds, Cond.value, hf, g1', h1, e3, hkP, hkPi]
/-- a static of a class kind holds null or a reference -/
theorem own_sref {n d D : String} (hf : Fit s) (ht : parseFieldDescriptor d = some (.object D)) (w : (Cond.laysStatic C n d).before args s = true) : ∃ v, (Term.static C n d).eval args s none [] s = some v ∧ (v = .null ∨ ∃ x : Addr, v = .ref x) := by
  obtain ⟨c, k, i, fd, a, cell, hc, hff, hst, hsta, hcell, hiss, hcls, hlt, hty⟩ := Cond.laysStatic_spec w
  have hv : cell.slots[fd.slot]? = some cell.slots[fd.slot] := Array.getElem?_eq_getElem hlt
  have hk : s.vm.classes[c]? = some k := (State.fieldFound?_spec hff).1
  have h1 := hf hcell (i := fd.slot) hlt
  have h2 : fits (.object D) cell.slots[fd.slot] = true := by
    have htt := (State.fieldFound?_type hff ht).2
    cases hvm : cell.vm with
    | statics x => simpa [State.fitsSlot, State.slotType?, hcls, hk, hvm, hty, htt] using h1
    | _ => simp [hvm, VmData.isStatics] at hiss
  refine ⟨cell.slots[fd.slot], by simp [Term.eval, State.fieldNamed?, hff, hst, hsta, hcell, hiss, hv], ?_⟩
  cases hq : cell.slots[fd.slot] with
  | null => exact Or.inl rfl
  | ref x => exact Or.inr ⟨x, rfl⟩
  | _ => rw [hq] at h2; simp [fits] at h2
/-- a call of a method of the superclass -/
theorem own_super (X : Stand p l e R s m args below meth c T locs cells slots) (hx : p.tables.exec = Jvm.exec) (hZ : Z.Warmed39 s.vm) (hown : s.vm.findClass own = some m.cls) (E : T.heap = h)
    (w1 : (Cond.methodLink own index y).before a0 Z = true) (w2 : (Cond.sameMethod y.cls y.cls y.name y.desc).before a0 Z = true) (w3 : (Cond.instanceMethod y).before a0 Z = true) (w4 : (Cond.superclass own y.cls).before a0 Z = true)
    (hM : MetFree l y (head1 [Cond.code y bytes maxL ret] rm) (fun a U => a = (.ref b :: argsL).toArray ∧ Z.Warmed39 U.vm ∧ U.heap = h) (fun _ _ _ _ _ => True) (fun _ U o U' => ∃ v L, o = .returned v ∧ Q v U'.heap L ∧ FrameEnd U o U' L rm.cells rm.slots))
    (wc : (Cond.code y bytes maxL ret).before a0 Z = true) (wz : (Cond.initialized y.cls).before a0 Z = true) (F : Ins Z h b own true)
    (hg : g.method = m) (hsize : g.locals.size = c.maxLocals) (hs : g.stack = argsL.reverse ++ .ref b :: rest) (hd : decode c.code g.pc = .ok (.invokespecial index, 3))
    (hlen : ∀ sig, parseMethodDescriptor y.desc = some sig → argsL.length = sig.parameters.length) (hW : 2 * g.monitorRoom + (rest.map fun v => v.category).sum = W)
    (hn : y.name ≠ "<init>") (hnum : rm.frames + 1 ≤ R.frames ∧ W + (maxL + 11) + rm.locals ≤ R.locals ∧ cells + rm.cells ≤ R.cells ∧ slots + rm.slots ≤ R.slots)
    (K : ∀ (T' : State) (v : Option Value) (L : List Loc), Stand p l e R s m args below meth c T' (locs ++ L) (cells + rm.cells) (slots + rm.slots) → Q v T'.heap L → ∃ t o, Steps p.tables e below (T'.setTop { g with pc := g.pc + 3, stack := v.toList ++ rest }) t ∧ P t o) :
    ∃ t o, Steps p.tables e below (T.setTop g) t ∧ P t o := by
  obtain ⟨hf, hl, hc, hsl⟩ := hnum
  obtain ⟨v, _, ⟨T', L, kz, nz⟩, -, X', ⟨Lc, hQ, l1, y1, z1⟩, st⟩ := superBack (K := own) X hx hZ hown w1 w2 w3 w4 hn (backOf (W := W) hM hZ wc wz hf hl) E F (g := g) hg hsize wc (argsL := argsL) (rest := rest) hlen hs (Nat.le_of_eq hW) hd (fun _ _ => ⟨rfl, E, hc, hsl⟩)
  dsimp only [Pt.U, Pt.locs, Pt.cells, Pt.slots] at X' l1 y1 z1 st hQ
  subst l1 y1 z1
  obtain ⟨t, o, k1, k2⟩ := K T' v Lc X' hQ
  exact ⟨t, o, st.trans k1, k2⟩
theorem own_nf {z : MethodName} (ws : (Cond.selects C z z).before args s = true) (ez : z.cls = y.cls) : NotFace s y := fun r0 h0 => by
  obtain ⟨c2, r2, m2, q1, q2, q3, q4, kP, hkP, hkPi⟩ := Cond.selects_spec ws
  have h1 : s.vm.findClass y.cls = some r0.cls := findClass_of_methodNamed h0
  have h2 : s.vm.findClass y.cls = some m2.cls := by rw [← ez]; exact findClass_of_methodNamed q3
  have e3 : r0.cls = m2.cls := Option.some.inj (h1.symm.trans h2)
  exact ⟨kP, by rw [e3]; exact hkP, hkPi⟩
variable {QV : Option Value → Heap → List Loc → Vm → Prop}
theorem own_backV {len : Nat} (hM : MetFree l y (head1 [Cond.code y bytes maxL ret] rm) (fun a U => a = as' ∧ Z.Warmed39 U.vm ∧ U.heap = h ∧ CHv Z EL U.vm h) (fun _ _ _ _ _ => True) (fun _ U o U' => ∃ v L, o = .returned v ∧ QV v U'.heap L U'.vm ∧ ReturnedEndW U o U' L rm.cells rm.slots))
    (hZ : Z.Warmed39 s.vm) (wc : (Cond.code y bytes maxL ret).before a0 Z = true) (wz : (Cond.initialized y.cls).before a0 Z = true) (hf : rm.frames + 1 ≤ R.frames) (hl : W + (maxL + 11) + rm.locals ≤ R.locals) (hEL : EW Z a0 EL) (H : CHv Z EL s.vm h) :
    BackS l R p e below s args y len W (fun A a => a = as' ∧ A.U.heap = h ∧ A.cells + rm.cells ≤ R.cells ∧ A.slots + rm.slots ≤ R.slots)
      (fun A _ v B => ∃ L, QV v B.U.heap L B.U.vm ∧ B.locs = A.locs ++ L ∧ B.cells = A.cells + rm.cells ∧ B.slots = A.slots + rm.slots) :=
  BackS.of_freeW (bytes := bytes) (maxL := maxL) (ret := ret) (E := fun _ _ o t L k n => k = rm.cells ∧ n = rm.slots ∧ ∃ v, o = .returned v ∧ QV v t.heap L t.vm) hM hf hl
    (fun m meth c A a Y hp => have hU : Z.Warmed39 A.U.vm := wtrans hZ Y.warmed
      ⟨by show (Cond.and _ .tt).before a A.U = true; rw [Cond.before_and, mv hU wc]; rfl, mv hU wc, mv hU wz, hp.2.2.1, hp.2.2.2⟩)
    (fun m meth c A a g mk Y hp => ⟨hp.1, wtrans hZ Y.warmed, hp.2.1, (CHv.at (s := s) (vm0 := s.vm) Y hZ hEL H).1⟩) (fun _ _ _ _ _ _ _ _ _ => trivial)
    (fun _ _ _ _ ⟨v, L, h1, h2, h3⟩ => ⟨L, _, _, h3, rfl, rfl, v, h1, h2⟩)
    (fun m meth c A a g mk v t L k n Y hp _ _ ⟨e1, e2, v', e3, e4⟩ => by cases e3; subst e1 e2; exact ⟨L, e4, rfl, rfl, rfl⟩)
/-- a static call of a callee that loads a constant and tells where it is -/
theorem own_statV (X : Stand p l e R s m args below meth c T locs cells slots) (hx : p.tables.exec = Jvm.exec) (hZ : Z.Warmed39 s.vm) (hown : s.vm.findClass own = some m.cls) (E : T.heap = h)
    (w1 : (Cond.methodLink own index y).before a0 Z = true) (w2 : (Cond.static y).before a0 Z = true)
    (hM : MetFree l y (head1 [Cond.code y bytes maxL ret] rm) (fun a U => a = argsL.toArray ∧ Z.Warmed39 U.vm ∧ U.heap = h ∧ CHv Z EL U.vm h) (fun _ _ _ _ _ => True) (fun _ U o U' => ∃ v L, o = .returned v ∧ QV v U'.heap L U'.vm ∧ ReturnedEndW U o U' L rm.cells rm.slots))
    (wc : (Cond.code y bytes maxL ret).before a0 Z = true) (wz : (Cond.initialized y.cls).before a0 Z = true)
    (hg : g.method = m) (hsize : g.locals.size = c.maxLocals) (hs : g.stack = argsL.reverse ++ rest) (hd : decode c.code g.pc = .ok (.invokestatic index, 3))
    (hlen : ∀ sig, parseMethodDescriptor y.desc = some sig → argsL.length = sig.parameters.length) (hW : 2 * g.monitorRoom + (rest.map fun v => v.category).sum = W)
    (hnum : (y.cls ≠ "java/lang/invoke/MethodHandle" ∧ y.cls ≠ "java/lang/invoke/VarHandle") ∧ rm.frames + 1 ≤ R.frames ∧ W + (maxL + 11) + rm.locals ≤ R.locals ∧ cells + rm.cells ≤ R.cells ∧ slots + rm.slots ≤ R.slots) (hEL : EW Z a0 EL) (H : CHv Z EL s.vm h)
    (K : ∀ (T' : State) (v : Option Value) (L : List Loc), Stand p l e R (s.setVm T'.vm) m args below meth c T' (locs ++ L) (cells + rm.cells) (slots + rm.slots) → QV v T'.heap L T'.vm → s.Since T'.vm T'.heap.size → Z.Warmed39 (s.setVm T'.vm).vm → (s.setVm T'.vm).vm.findClass own = some m.cls → ∃ t o, Steps p.tables e below (T'.setTop { g with pc := g.pc + 3, stack := v.toList ++ rest }) t ∧ P t o) :
    ∃ t o, Steps p.tables e below (T.setTop g) t ∧ P t o := by
  obtain ⟨hy, hf, hl, hc, hsl⟩ := hnum
  obtain ⟨v, _, ⟨T', L, kz, nz⟩, -, X', hS, -, ⟨Lc, hQ, l1, y1, z1⟩, st⟩ := callSS X hx (y := y) hown (mvT hZ w1) (mvT hZ w2) (mvT hZ wz) (mvT hZ wc) hy (own_backV (W := W) hM hZ wc wz hf hl hEL H) (g := g) hg hsize (argsL := argsL) (rest := rest) hlen hs (Nat.le_of_eq hW) hd (fun _ _ => ⟨rfl, E, hc, hsl⟩)
  dsimp only [Pt.U, Pt.locs, Pt.cells, Pt.slots] at X' l1 y1 z1 st hQ hS
  subst l1 y1 z1
  obtain ⟨t, o, k1, k2⟩ := K T' v Lc X' hQ hS (State.Warmed39.trans (t := s) hZ hS.1) (by rw [show (s.setVm T'.vm).vm = T'.vm from rfl, hS.1.alike.findClass]; exact hown)
  exact ⟨t, o, st.trans k1, k2⟩
/-- what is booked stays booked, in a walk -/
theorem own_litAt {lo : String} {li : Nat} {la : Addr} (X : Stand p l e R s m args below meth c T locs cells slots) (L : Lit (Z.setVm s.vm) lo li la) : Lit (Z.setVm T.vm) lo li la :=
  Lit.stays (s := s) (vm0 := s.vm) (vm1 := T.vm) L X.warmed.wide
theorem own_backL {len : Nat} {lo : String} {li : Nat} {la : Addr} (hM : MetFree l y (head1 [Cond.code y bytes maxL ret] rm) (fun a U => a = as' ∧ Z.Warmed39 U.vm ∧ U.heap = h ∧ Lit (Z.setVm U.vm) lo li la) (fun _ _ _ _ _ => True) (fun _ U o U' => ∃ v L, o = .returned v ∧ Q v U'.heap L ∧ FrameEnd U o U' L rm.cells rm.slots))
    (hZ : Z.Warmed39 s.vm) (wc : (Cond.code y bytes maxL ret).before a0 Z = true) (wz : (Cond.initialized y.cls).before a0 Z = true) (hf : rm.frames + 1 ≤ R.frames) (hl : W + (maxL + 11) + rm.locals ≤ R.locals) (H : Lit (Z.setVm s.vm) lo li la) :
    Back l R p e below s args y len W (fun A a => a = as' ∧ A.U.heap = h ∧ A.cells + rm.cells ≤ R.cells ∧ A.slots + rm.slots ≤ R.slots)
      (fun A _ v B => ∃ L, Q v B.U.heap L ∧ B.locs = A.locs ++ L ∧ B.cells = A.cells + rm.cells ∧ B.slots = A.slots + rm.slots) :=
  Back.of_free (bytes := bytes) (maxL := maxL) (ret := ret) (E := fun _ _ o t L k n => k = rm.cells ∧ n = rm.slots ∧ ∃ v, o = .returned v ∧ Q v t.heap L) hM hf hl
    (fun m meth c A a Y hp => have hU : Z.Warmed39 A.U.vm := wtrans hZ Y.warmed
      ⟨by show (Cond.and _ .tt).before a A.U = true; rw [Cond.before_and, mv hU wc]; rfl, mv hU wc, mv hU wz, hp.2.2.1, hp.2.2.2⟩)
    (fun m meth c A a g mk Y hp => ⟨hp.1, wtrans hZ Y.warmed, hp.2.1, (show Lit (Z.setVm A.U.vm) lo li la from own_litAt Y H)⟩) (fun _ _ _ _ _ _ _ _ _ => trivial)
    (fun _ _ _ _ ⟨v, L, h1, h2, h3⟩ => ⟨L, _, _, h3, rfl, rfl, v, h1, h2⟩)
    (fun m meth c A a g mk v t L k n Y hp _ _ ⟨e1, e2, v', e3, e4⟩ => by cases e3; subst e1 e2; exact ⟨L, e4, rfl, rfl, rfl⟩)
/-- a static call of a callee that loads a constant that is booked -/
theorem own_statL {lo : String} {li : Nat} {la : Addr} (X : Stand p l e R s m args below meth c T locs cells slots) (hx : p.tables.exec = Jvm.exec) (hZ : Z.Warmed39 s.vm) (hown : s.vm.findClass own = some m.cls) (E : T.heap = h)
    (w1 : (Cond.methodLink own index y).before a0 Z = true) (w2 : (Cond.static y).before a0 Z = true)
    (hM : MetFree l y (head1 [Cond.code y bytes maxL ret] rm) (fun a U => a = argsL.toArray ∧ Z.Warmed39 U.vm ∧ U.heap = h ∧ Lit (Z.setVm U.vm) lo li la) (fun _ _ _ _ _ => True) (fun _ U o U' => ∃ v L, o = .returned v ∧ Q v U'.heap L ∧ FrameEnd U o U' L rm.cells rm.slots))
    (wc : (Cond.code y bytes maxL ret).before a0 Z = true) (wz : (Cond.initialized y.cls).before a0 Z = true)
    (hg : g.method = m) (hsize : g.locals.size = c.maxLocals) (hs : g.stack = argsL.reverse ++ rest) (hd : decode c.code g.pc = .ok (.invokestatic index, 3))
    (hlen : ∀ sig, parseMethodDescriptor y.desc = some sig → argsL.length = sig.parameters.length) (hW : 2 * g.monitorRoom + (rest.map fun v => v.category).sum = W)
    (hnum : (y.cls ≠ "java/lang/invoke/MethodHandle" ∧ y.cls ≠ "java/lang/invoke/VarHandle") ∧ rm.frames + 1 ≤ R.frames ∧ W + (maxL + 11) + rm.locals ≤ R.locals ∧ cells + rm.cells ≤ R.cells ∧ slots + rm.slots ≤ R.slots) (H : Lit (Z.setVm s.vm) lo li la)
    (K : ∀ (T' : State) (v : Option Value) (L : List Loc), Stand p l e R s m args below meth c T' (locs ++ L) (cells + rm.cells) (slots + rm.slots) → Q v T'.heap L → ∃ t o, Steps p.tables e below (T'.setTop { g with pc := g.pc + 3, stack := v.toList ++ rest }) t ∧ P t o) :
    ∃ t o, Steps p.tables e below (T.setTop g) t ∧ P t o := by
  obtain ⟨hy, hf, hl, hc, hsl⟩ := hnum
  obtain ⟨v, _, ⟨T', L, kz, nz⟩, -, X', ⟨Lc, hQ, l1, y1, z1⟩, st⟩ := Jvm.LawKit.callS X hx (y := y) hown (mvT hZ w1) (mvT hZ w2) (mvT hZ wz) (mvT hZ wc) hy (own_backL (W := W) hM hZ wc wz hf hl H) (g := g) hg hsize (argsL := argsL) (rest := rest) hlen hs (Nat.le_of_eq hW) hd (fun _ _ => ⟨rfl, E, hc, hsl⟩)
  dsimp only [Pt.U, Pt.locs, Pt.cells, Pt.slots] at X' l1 y1 z1 st hQ
  subst l1 y1 z1
  obtain ⟨t, o, k1, k2⟩ := K T' v Lc X' hQ
  exact ⟨t, o, st _ k1, k2⟩
end OwnX
end Jvm.RoadKit
namespace Jvm.RoadKit
open Sem ClassFile Op Lib Bundle Jvm.Stand Jvm.Free Jvm.LawKit
section OwnZ
variable {p : Program} {l : Launch} {e : Env} {R : Room} {s : State} {m : MethodId} {args : Array Value} {below : List Frame} {meth : Method} {c : Code} {T : State} {locs : List Loc} {cells slots : Nat} {Z : State} {h : Heap} {P : State → Outcome → Prop}
  {a : Addr} {g : JFrame} {rest : List Value} {n0 : Nat} {k : ClassId} {n j x : Int32} {vs : List Value} {d v : Value}
/-- what is appended to the part of an array that isn't default -/
theorem own_push {ty : FieldType} {h' : Heap} {cl : Cell} (A : Arr Z h a cl ty) (q1 : cl.cls = k) (S : cl.slots.size = n.toNatClampNeg) (q3 : ¬ n < 0) (H : Has cl vs (Value.int (0 : Int32))) (G : ∀ i, i < cl.slots.size → fits ty (vs.getD i (Value.int (0 : Int32))) = true) (hv : fits ty v = true) (W : Wr h h' a j.toNatClampNeg v) (hl : vs.length = j.toNatClampNeg) : Arv Z h' a k ty n (vs ++ [v]) (Value.int (0 : Int32)) := by
  have e : ∀ i, (vs ++ [(Value.int (0 : Int32))]).getD i (Value.int (0 : Int32)) = vs.getD i (Value.int (0 : Int32)) := fun i => by
    by_cases hi : i < vs.length
    · simp [List.getD, List.getElem?_append_left hi]
    · have hi' : vs.length ≤ i := Nat.le_of_not_lt hi
      simp only [List.getD, List.getElem?_append_right hi', List.getElem?_eq_none hi']
      cases hq : i - vs.length <;> simp
  have H' : Has cl (vs ++ [(Value.int (0 : Int32))]) (Value.int (0 : Int32)) := fun i hi => by rw [e]; exact H i hi
  have q := Arv.set A q1 S q3 H' (fun i hi => by rw [e]; exact G i hi) hv W vs.length hl.symm (by simp)
  simpa using q
theorem ogo {tb : Tables} {e : Env} {below : List Frame} {a T' : State} {P : State → Outcome → Prop} (g : JFrame) (h : ∀ target, Steps tb e below (T'.setTop g) target → Steps tb e below a target) (k : ∃ t o, Steps tb e below (T'.setTop g) t ∧ P t o) : ∃ t o, Steps tb e below a t ∧ P t o := by
  obtain ⟨t, o, h1, h2⟩ := k
  exact ⟨t, o, h _ h1, h2⟩
/-- array loads -/
theorem own_cal (X : Stand p l e R s m args below meth c T locs cells slots) (hx : p.tables.exec = Jvm.exec) (hZ : Z.Warmed39 s.vm) (E : T.heap = h) (V : Arv Z h a k .char n vs d) (inb : ¬ j < 0 ∧ j < n) (hv : vs.getD j.toNatClampNeg d = .int x)
    (hg : g.method = m) (hs : g.stack = .int j :: .ref a :: rest) (hd : decode c.code g.pc = .ok (.caload, 1)) (K : ∃ t o, Steps p.tables e below (T.setTop { g with pc := g.pc + 1, stack := .int x :: rest }) t ∧ P t o) : ∃ t o, Steps p.tables e below (T.setTop g) t ∧ P t o := by
  obtain ⟨cl, Ar, ql, Sz, Nn, Hl, Gl⟩ := V
  have hin := inb_of Sz inb
  obtain ⟨t, o, k1, k2⟩ := K
  exact ⟨t, o, X.caload hx (j := j) (v := .int x) (by rw [E]; exact Ar.1) (State.isArrayOf_alike hZ.alike Ar.2.1) Ar.2.2 hin (Hl.at hin hv) (g := g) hg hs hd _ k1, k2⟩
theorem own_bal (X : Stand p l e R s m args below meth c T locs cells slots) (hx : p.tables.exec = Jvm.exec) (hZ : Z.Warmed39 s.vm) (E : T.heap = h) (V : Arv Z h a k .byte n vs d) (inb : ¬ j < 0 ∧ j < n) (hv : vs.getD j.toNatClampNeg d = .int x)
    (hg : g.method = m) (hs : g.stack = .int j :: .ref a :: rest) (hd : decode c.code g.pc = .ok (.baload, 1)) (K : ∃ t o, Steps p.tables e below (T.setTop { g with pc := g.pc + 1, stack := .int x :: rest }) t ∧ P t o) : ∃ t o, Steps p.tables e below (T.setTop g) t ∧ P t o := by
  obtain ⟨cl, Ar, ql, Sz, Nn, Hl, Gl⟩ := V
  have hin := inb_of Sz inb
  obtain ⟨t, o, k1, k2⟩ := K
  exact ⟨t, o, X.baloadBytes hx (j := j) (v := .int x) (by rw [E]; exact Ar.1) (State.isArrayOf_alike hZ.alike Ar.2.1) Ar.2.2 hin (Hl.at hin hv) (g := g) hg hs hd _ k1, k2⟩
/-- array stores: P behind what is written, S in its midst -/
theorem own_basP (X : Stand p l e R s m args below meth c T locs cells slots) (hx : p.tables.exec = Jvm.exec) (hZ : Z.Warmed39 s.vm) (E : T.heap = h) (N : Fr n0 locs) (Zs : n0 ≤ h.size) (ge : n0 ≤ a) (V : Arv Z h a k .byte n vs (Value.int (0 : Int32))) (inb : ¬ j < 0 ∧ j < n) (hl : vs.length = j.toNatClampNeg)
    (hg : g.method = m) (hs : g.stack = .int x :: .int j :: .ref a :: rest) (hd : decode c.code g.pc = .ok (.bastore, 1))
    (K : ∀ (T' : State) (h' : Heap) (lo : List Loc), Stand p l e R s m args below meth c T' lo cells slots → T'.heap = h' → Fr n0 lo → Wr h h' a j.toNatClampNeg (.int (nar .byte x)) → n0 ≤ h'.size → Arv Z h' a k .byte n (vs ++ [.int (nar .byte x)]) (Value.int (0 : Int32)) → ∃ t o, Steps p.tables e below (T'.setTop { g with pc := g.pc + 1, stack := rest }) t ∧ P t o) : ∃ t o, Steps p.tables e below (T.setTop g) t ∧ P t o := by
  obtain ⟨cl, Ar, ql, Sz, Nn, Hl, Gl⟩ := V
  obtain ⟨T', h', X', e', W, st⟩ := stB X hx hZ E Ar (inb_of Sz inb) (g := g) hg hs hd
  obtain ⟨t, o, k1, k2⟩ := K T' h' _ X' e' (Fr.snoc X' N ge) W (Nat.le_trans Zs (Keep.of_wr W).1) (own_push Ar ql Sz Nn Hl Gl (fits_nar_byte _) W hl)
  exact ⟨t, o, st _ k1, k2⟩
theorem own_casP (X : Stand p l e R s m args below meth c T locs cells slots) (hx : p.tables.exec = Jvm.exec) (hZ : Z.Warmed39 s.vm) (E : T.heap = h) (N : Fr n0 locs) (Zs : n0 ≤ h.size) (ge : n0 ≤ a) (V : Arv Z h a k .char n vs (Value.int (0 : Int32))) (inb : ¬ j < 0 ∧ j < n) (hl : vs.length = j.toNatClampNeg)
    (hg : g.method = m) (hs : g.stack = .int x :: .int j :: .ref a :: rest) (hd : decode c.code g.pc = .ok (.castore, 1))
    (K : ∀ (T' : State) (h' : Heap) (lo : List Loc), Stand p l e R s m args below meth c T' lo cells slots → T'.heap = h' → Fr n0 lo → Wr h h' a j.toNatClampNeg (.int (nar .char x)) → n0 ≤ h'.size → Arv Z h' a k .char n (vs ++ [.int (nar .char x)]) (Value.int (0 : Int32)) → ∃ t o, Steps p.tables e below (T'.setTop { g with pc := g.pc + 1, stack := rest }) t ∧ P t o) : ∃ t o, Steps p.tables e below (T.setTop g) t ∧ P t o := by
  obtain ⟨cl, Ar, ql, Sz, Nn, Hl, Gl⟩ := V
  obtain ⟨T', h', X', e', W, st⟩ := stC X hx hZ E Ar (inb_of Sz inb) (g := g) hg hs hd
  obtain ⟨t, o, k1, k2⟩ := K T' h' _ X' e' (Fr.snoc X' N ge) W (Nat.le_trans Zs (Keep.of_wr W).1) (own_push Ar ql Sz Nn Hl Gl (fits_nar_char _) W hl)
  exact ⟨t, o, st _ k1, k2⟩
theorem own_basS (X : Stand p l e R s m args below meth c T locs cells slots) (hx : p.tables.exec = Jvm.exec) (hZ : Z.Warmed39 s.vm) (E : T.heap = h) (N : Fr n0 locs) (Zs : n0 ≤ h.size) (ge : n0 ≤ a) (V : Arv Z h a k .byte n vs d) (inb : ¬ j < 0 ∧ j < n) (hi : j.toNatClampNeg < vs.length)
    (hg : g.method = m) (hs : g.stack = .int x :: .int j :: .ref a :: rest) (hd : decode c.code g.pc = .ok (.bastore, 1))
    (K : ∀ (T' : State) (h' : Heap) (lo : List Loc), Stand p l e R s m args below meth c T' lo cells slots → T'.heap = h' → Fr n0 lo → Wr h h' a j.toNatClampNeg (.int (nar .byte x)) → n0 ≤ h'.size → Arv Z h' a k .byte n (vs.set j.toNatClampNeg (.int (nar .byte x))) d → ∃ t o, Steps p.tables e below (T'.setTop { g with pc := g.pc + 1, stack := rest }) t ∧ P t o) : ∃ t o, Steps p.tables e below (T.setTop g) t ∧ P t o := by
  obtain ⟨cl, Ar, ql, Sz, Nn, Hl, Gl⟩ := V
  obtain ⟨T', h', X', e', W, st⟩ := stB X hx hZ E Ar (inb_of Sz inb) (g := g) hg hs hd
  obtain ⟨t, o, k1, k2⟩ := K T' h' _ X' e' (Fr.snoc X' N ge) W (Nat.le_trans Zs (Keep.of_wr W).1) (Arv.set Ar ql Sz Nn Hl Gl (fits_nar_byte _) W _ rfl hi)
  exact ⟨t, o, st _ k1, k2⟩
theorem own_casS (X : Stand p l e R s m args below meth c T locs cells slots) (hx : p.tables.exec = Jvm.exec) (hZ : Z.Warmed39 s.vm) (E : T.heap = h) (N : Fr n0 locs) (Zs : n0 ≤ h.size) (ge : n0 ≤ a) (V : Arv Z h a k .char n vs d) (inb : ¬ j < 0 ∧ j < n) (hi : j.toNatClampNeg < vs.length)
    (hg : g.method = m) (hs : g.stack = .int x :: .int j :: .ref a :: rest) (hd : decode c.code g.pc = .ok (.castore, 1))
    (K : ∀ (T' : State) (h' : Heap) (lo : List Loc), Stand p l e R s m args below meth c T' lo cells slots → T'.heap = h' → Fr n0 lo → Wr h h' a j.toNatClampNeg (.int (nar .char x)) → n0 ≤ h'.size → Arv Z h' a k .char n (vs.set j.toNatClampNeg (.int (nar .char x))) d → ∃ t o, Steps p.tables e below (T'.setTop { g with pc := g.pc + 1, stack := rest }) t ∧ P t o) : ∃ t o, Steps p.tables e below (T.setTop g) t ∧ P t o := by
  obtain ⟨cl, Ar, ql, Sz, Nn, Hl, Gl⟩ := V
  obtain ⟨T', h', X', e', W, st⟩ := stC X hx hZ E Ar (inb_of Sz inb) (g := g) hg hs hd
  obtain ⟨t, o, k1, k2⟩ := K T' h' _ X' e' (Fr.snoc X' N ge) W (Nat.le_trans Zs (Keep.of_wr W).1) (Arv.set Ar ql Sz Nn Hl Gl (fits_nar_char _) W _ rfl hi)
  exact ⟨t, o, st _ k1, k2⟩
/-- arrays of two kinds are two -/
theorem own_neA {b : Addr} {k' : ClassId} {ty ty' : FieldType} {n' : Int32} {vs' : List Value} {d' : Value} (F : Arv Z h a k ty n vs d) (G : Arv Z h b k' ty' n' vs' d') (hn : ty ≠ ty') : a ≠ b := fun e => by
  subst e
  obtain ⟨c1, A1, -⟩ := F
  obtain ⟨c2, A2, -⟩ := G
  cases A1.1.symm.trans A2.1
  obtain ⟨-, k1, h1, p1, e1⟩ := A1.2.1
  obtain ⟨-, k2, h2, p2, e2⟩ := A2.2.1
  cases h1.symm.trans h2
  rw [e1] at e2
  cases e2
  exact hn rfl
variable {y : MethodName} {bytes : ByteArray} {maxL pc C S : Nat} {ret : Option FieldType} {ws : List Cond} {rm : Room} {A : Array Value} {h0 : Heap} {Q : Option Value → Heap → List Loc → Prop} {L0 : Array Slot} {t : FieldType}
/-- what a contract says -/
abbrev own_MF (l : Launch) (y : MethodName) (bytes : ByteArray) (maxL : Nat) (ret : Option FieldType) (ws : List Cond) (rm : Room) (A : Array Value) (Z : State) (h0 : Heap) (Q : Option Value → Heap → List Loc → Prop) : Prop :=
  MetFree l y (head1 (Cond.code y bytes maxL ret :: ws) rm) (fun a U => a = A ∧ Z.Warmed39 U.vm ∧ U.heap = h0) (fun _ _ _ _ _ => True) (fun _ U o U' => ∃ v L, o = .returned v ∧ Q v U'.heap L ∧ FrameEnd U o U' L rm.cells rm.slots)
abbrev own_MFL (l : Launch) (y : MethodName) (bytes : ByteArray) (maxL : Nat) (ret : Option FieldType) (ws : List Cond) (rm : Room) (A : Array Value) (Z : State) (h0 : Heap) (Q : Option Value → Heap → List Loc → Prop) (lo : String) (li : Nat) (la : Addr) : Prop :=
  MetFree l y (head1 (Cond.code y bytes maxL ret :: ws) rm) (fun a U => a = A ∧ Z.Warmed39 U.vm ∧ U.heap = h0 ∧ Lit (Z.setVm U.vm) lo li la) (fun _ _ _ _ _ => True) (fun _ U o U' => ∃ v L, o = .returned v ∧ Q v U'.heap L ∧ FrameEnd U o U' L rm.cells rm.slots)
/-- the beginning of a walk -/
theorem own_body (n0 : Nat) (hp : plainFor y = true) (ef : ∀ m, entryFrame m A maxL = mkF m 0 L0 [])
    (K : ∀ (p : Program) (e : Env) (s : State) (m : MethodId) (below : List Frame) (meth : Method) (c : Code) (s₁ : State), p.tables.exec = Jvm.exec → c.code = bytes → c.maxLocals = maxL → meth.sig.returnType = ret ∧ meth.locks = false → Z.Warmed39 s.vm → s.vm.findClass y.cls = some m.cls → meth.name = y.name → Stand p l e rm s m A below meth c s₁ [] 0 0 → s₁.heap = h0 → Fr n0 [] →
      ∃ t o, Steps p.tables e below (s₁.setTop (mkF m 0 L0 [])) t ∧ t.status = .running ∧ Ended t below o ∧ ∃ v L, o = .returned v ∧ Q v t.heap L ∧ FrameEnd s o t L rm.cells rm.slots) : own_MF l y bytes maxL ret ws rm A Z h0 Q := by
  refine MetFree.of_bodySF hp hisR ?_
  intro p e s m args below meth c s₁ Bd hml0 hP hK
  obtain ⟨rfl, hZ, hh⟩ := hP
  obtain ⟨t, o, k1, k2⟩ := K p e s m below meth c s₁ Bd.exec Bd.bytes hml0 ⟨Bd.returns, Bd.notSynchronized⟩ hZ (findClass_of_methodNamed Bd.named) (name_of_methodNamed Bd.named Bd.method).1 (Stand.of_body Bd) (by rw [← hh, Bd.state]; rfl) (Fr.nil n0)
  exact ⟨t, o, castTop (ef m) k1, k2⟩
theorem own_bodyL {lo : String} {li : Nat} {la : Addr} (n0 : Nat) (hp : plainFor y = true) (ef : ∀ m, entryFrame m A maxL = mkF m 0 L0 [])
    (K : ∀ (p : Program) (e : Env) (s : State) (m : MethodId) (below : List Frame) (meth : Method) (c : Code) (s₁ : State), p.tables.exec = Jvm.exec → c.code = bytes → c.maxLocals = maxL → meth.sig.returnType = ret ∧ meth.locks = false → Z.Warmed39 s.vm → s.vm.findClass y.cls = some m.cls → meth.name = y.name → Stand p l e rm s m A below meth c s₁ [] 0 0 → s₁.heap = h0 → Fr n0 [] → Lit (Z.setVm s.vm) lo li la →
      ∃ t o, Steps p.tables e below (s₁.setTop (mkF m 0 L0 [])) t ∧ t.status = .running ∧ Ended t below o ∧ ∃ v L, o = .returned v ∧ Q v t.heap L ∧ FrameEnd s o t L rm.cells rm.slots) : own_MFL l y bytes maxL ret ws rm A Z h0 Q lo li la := by
  refine MetFree.of_bodySF hp hisR ?_
  intro p e s m args below meth c s₁ Bd hml0 hP hK
  obtain ⟨rfl, hZ, hh, hL⟩ := hP
  obtain ⟨t, o, k1, k2⟩ := K p e s m below meth c s₁ Bd.exec Bd.bytes hml0 ⟨Bd.returns, Bd.notSynchronized⟩ hZ (findClass_of_methodNamed Bd.named) (name_of_methodNamed Bd.named Bd.method).1 (Stand.of_body Bd) (by rw [← hh, Bd.state]; rfl) (Fr.nil n0) hL
  exact ⟨t, o, castTop (ef m) k1, k2⟩
/-- and its ends -/
theorem own_endI {Ls : Array Slot} (X : Stand p l e R s m args below meth c T locs cells slots) (hx : p.tables.exec = Jvm.exec) (hr2 : meth.sig.returnType = some .int ∧ meth.locks = false) (hd : decode c.code pc = .ok (.ireturn, 1)) (hc : cells ≤ C) (hs : slots ≤ S) (hQ : Q (some (.int x)) T.heap locs) :
    ∃ t o, Steps p.tables e below (T.setTop (mkF m pc Ls [.int x])) t ∧ t.status = .running ∧ Ended t below o ∧ ∃ v L, o = .returned v ∧ Q v t.heap L ∧ FrameEnd s o t L C S := by
  obtain ⟨fs, hr, hrun, hended, hW, hsame⟩ := X.leave (v := some (.int x)) (fun h => by rw [hr2.1] at h; cases h) hr2.2
  exact ⟨_, _, retOut X hx hr2.1 rfl (Or.inl ⟨rfl, Or.inl rfl, _, rfl⟩) hd hr, hrun, hended, _, _, rfl, hQ, ⟨_, rfl⟩, hW, hsame.mono hc hs⟩
theorem own_endN {Ls : Array Slot} (X : Stand p l e R s m args below meth c T locs cells slots) (hx : p.tables.exec = Jvm.exec) (hr2 : meth.sig.returnType = some t ∧ meth.locks = false) (ht : t = .boolean ∨ t = .byte ∨ t = .char ∨ t = .short) (hd : decode c.code pc = .ok (.ireturn, 1)) (hc : cells ≤ C) (hs : slots ≤ S) (hQ : Q (some (.int (nar t x))) T.heap locs) :
    ∃ t o, Steps p.tables e below (T.setTop (mkF m pc Ls [.int x])) t ∧ t.status = .running ∧ Ended t below o ∧ ∃ v L, o = .returned v ∧ Q v t.heap L ∧ FrameEnd s o t L C S := by
  obtain ⟨fs, hr, hrun, hended, hW, hsame⟩ := X.leave (v := some (.int (nar t x))) (fun h => by rw [hr2.1] at h; cases h) hr2.2
  exact ⟨_, _, retN X hx hr2.1 ht hd hr, hrun, hended, _, _, rfl, hQ, ⟨_, rfl⟩, hW, hsame.mono hc hs⟩
theorem own_endR {Ls : Array Slot} (X : Stand p l e R s m args below meth c T locs cells slots) (hx : p.tables.exec = Jvm.exec) (hr2 : meth.sig.returnType = some t ∧ meth.locks = false) (hn : narrow t (.ref a) = .ref a) (ht : t.isReference = true) (hd : decode c.code pc = .ok (.areturn, 1)) (hc : cells ≤ C) (hs : slots ≤ S) (hQ : Q (some (.ref a)) T.heap locs) :
    ∃ t o, Steps p.tables e below (T.setTop (mkF m pc Ls [.ref a])) t ∧ t.status = .running ∧ Ended t below o ∧ ∃ v L, o = .returned v ∧ Q v t.heap L ∧ FrameEnd s o t L C S := by
  obtain ⟨fs, hr, hrun, hended, hW, hsame⟩ := X.leave (v := some (.ref a)) (fun h => by rw [hr2.1] at h; cases h) hr2.2
  exact ⟨_, _, retOut X hx hr2.1 hn (Or.inr (Or.inr (Or.inr (Or.inr ⟨rfl, ht, rfl⟩)))) hd hr, hrun, hended, _, _, rfl, hQ, ⟨_, rfl⟩, hW, hsame.mono hc hs⟩
theorem own_endV {Ls : Array Slot} (X : Stand p l e R s m args below meth c T locs cells slots) (hx : p.tables.exec = Jvm.exec) (hr2 : meth.sig.returnType = none ∧ meth.locks = false) (hd : decode c.code pc = .ok (.return_, 1)) (hc : cells ≤ C) (hs : slots ≤ S) (hQ : Q none T.heap locs) :
    ∃ t o, Steps p.tables e below (T.setTop (mkF m pc Ls [])) t ∧ t.status = .running ∧ Ended t below o ∧ ∃ v L, o = .returned v ∧ Q v t.heap L ∧ FrameEnd s o t L C S := by
  obtain ⟨fs, hr, hrun, hended, hW, hsame⟩ := X.leave (v := none) (fun _ => rfl) hr2.2
  exact ⟨_, _, X.returnOut hx hr2.1 hd hr, hrun, hended, _, _, rfl, hQ, ⟨_, rfl⟩, hW, hsame.mono hc hs⟩
end OwnZ
end Jvm.RoadKit
namespace Jvm.Pilot.@@N@@
open Jvm Jvm.ClassFile Sem Op Lib Jvm.Free Jvm.Stand Jvm.LawKit Jvm.RoadKit Bundle Jvm.Pilot.@@N@@.Jvm.D
def own_LO : String := "com/example/keyclasp/keyclasp/protocol/ActivationCode"
def own_LI : Nat := 65
def own_EL : List (String × Nat) := [("com/example/keyclasp/keyclasp/protocol/ActivationCode", 65)]
def own_st (c : Int32) : Int32 := if c &&& (1 : Int32) = (0 : Int32) then ((c.toUInt32 >>> ((1 : Int32) &&& 31).toUInt32).toInt32) else (((c.toUInt32 >>> ((1 : Int32) &&& 31).toUInt32).toInt32) ^^^ (40961 : Int32))
def own_s8 (c : Int32) : Int32 := own_st (own_st (own_st (own_st (own_st (own_st (own_st (own_st c)))))))
def own_cb (c x : Int32) : Int32 := own_s8 (c ^^^ (x &&& (255 : Int32)))
def own_crc (x0 x1 x2 x3 x4 x5 x6 x7 x8 x9 : Int32) : Int32 := own_cb (own_cb (own_cb (own_cb (own_cb (own_cb (own_cb (own_cb (own_cb (own_cb 0 x0) x1) x2) x3) x4) x5) x6) x7) x8) x9
theorem own_st0 {c : Int32} (h : c &&& (1 : Int32) = (0 : Int32)) : ((c.toUInt32 >>> ((1 : Int32) &&& 31).toUInt32).toInt32) = own_st c := by unfold own_st; rw [if_pos h]
theorem own_st1 {c : Int32} (h : ¬ (c &&& (1 : Int32) = (0 : Int32))) : (((c.toUInt32 >>> ((1 : Int32) &&& 31).toUInt32).toInt32) ^^^ (40961 : Int32)) = own_st c := by unfold own_st; rw [if_neg h]
def own_lt (c : Int32) : Int32 := nar .byte (c.toInt8.toInt32)
def own_lc (x : Int32) : Int32 := nar .char ((x &&& (255 : Int32)).toUInt32.toUInt16.toUInt32.toInt32)
def own_vi (v : Value) : Int32 := match v with | .int x => x | _ => 0
def own_at (vs : List Value) (i : Int32) : Int32 := own_vi (vs.getD i.toNatClampNeg (Value.int (0 : Int32)))
theorem own_atp {v : Value} (h : fits .byte v = true) : v = .int (own_vi v) := by cases v <;> first | rfl | simp [fits] at h
theorem own_nb (x : Int32) : nar .byte x.toInt8.toInt32 = x.toInt8.toInt32 := by
  show x.toInt8.toInt32.toInt8.toInt32 = _
  rw [Int8.toInt8_toInt32]
theorem own_nc (x : Int32) : nar .char (nar .char x) = nar .char x := by
  show (x.toUInt32.toUInt16.toUInt32.toInt32).toUInt32.toUInt16.toUInt32.toInt32 = x.toUInt32.toUInt16.toUInt32.toInt32
  apply Int32.toBitVec_inj.mp
  show (BitVec.setWidth 32 (BitVec.setWidth 16 (BitVec.setWidth 32 (BitVec.setWidth 16 x.toBitVec)))) = BitVec.setWidth 32 (BitVec.setWidth 16 x.toBitVec)
  apply BitVec.eq_of_getLsbD_eq
  intro i hi
  simp only [BitVec.getLsbD_setWidth]
  by_cases h : i < 16 <;> simp [h, hi]
theorem own_gap (n z : Int32) (h : ¬ n < 0 ∧ n < z) (hz : z.toInt ≤ 64) : ¬ ((0 : Int32) < ((n + (1 : Int32)) - z)) := by
  have e0 : (0 : Int32).toInt = 0 := by decide
  have e1 : (1 : Int32).toInt = 1 := by decide
  obtain ⟨h1, h2⟩ := h
  rw [Int32.lt_iff_toInt_lt, e0] at h1
  rw [Int32.lt_iff_toInt_lt] at h2
  rw [Int32.lt_iff_toInt_lt, Int32.toInt_sub, Int32.toInt_add, e0, e1]
  simp only [Int.bmod_def]
  omega
theorem own_rng {vs : List Value} {n m : Nat} (h : vs.length = n) (hm : m = 0) : vs = (List.range n).map fun i => vs.getD (m + i) (Value.int (0 : Int32)) := by
  subst hm
  apply List.ext_getElem
  · simp [h]
  · intro i h1 h2
    simp [List.getD, List.getElem?_eq_getElem h1]
theorem own_cpg {Z : State} {h : Heap} {a : Addr} {k : ClassId} {z : Int32} {v0 us : List Value} {N n m : Nat} (R : Arv Z h a k .byte z ((v0 ++ List.replicate N (Value.int (0 : Int32))).take n ++ us ++ (v0 ++ List.replicate N (Value.int (0 : Int32))).drop (n + m)) (Value.int (0 : Int32))) (hn : v0.length = n) : Arv Z h a k .byte z (v0 ++ us) (Value.int (0 : Int32)) := by
  subst hn
  rw [List.take_left, List.drop_append, List.drop_eq_nil_of_le (Nat.le_add_right _ _), List.nil_append, Nat.add_sub_cancel_left, List.drop_replicate] at R
  exact R.pad fun i => (pad_rep (v0 ++ us) (Value.int (0 : Int32)) (N - m) i).symm
theorem own_hl23 {vs : List Value} {v : Value} {n m : Nat} (h : n + m ≤ (23 : Int32).toNatClampNeg) : n + m ≤ (vs ++ List.replicate 23 v).length := by
  have e : (23 : Int32).toNatClampNeg = 23 := by decide
  rw [List.length_append, List.length_replicate]
  omega
def own_sl (of to : Int32) (us : List Value) : List Value := (List.range (to - of).toNatClampNeg).map fun i => us.getD (of.toNatClampNeg + i) (Value.int (0 : Int32))
def own_AL : List Value := [(Value.int (65 : Int32)), (Value.int (66 : Int32)), (Value.int (67 : Int32)), (Value.int (68 : Int32)), (Value.int (69 : Int32)), (Value.int (70 : Int32)), (Value.int (71 : Int32)), (Value.int (72 : Int32)), (Value.int (73 : Int32)), (Value.int (74 : Int32)), (Value.int (75 : Int32)), (Value.int (76 : Int32)), (Value.int (77 : Int32)), (Value.int (78 : Int32)), (Value.int (79 : Int32)), (Value.int (80 : Int32)), (Value.int (81 : Int32)), (Value.int (82 : Int32)), (Value.int (83 : Int32)), (Value.int (84 : Int32)), (Value.int (85 : Int32)), (Value.int (86 : Int32)), (Value.int (87 : Int32)), (Value.int (88 : Int32)), (Value.int (89 : Int32)), (Value.int (90 : Int32)), (Value.int (50 : Int32)), (Value.int (51 : Int32)), (Value.int (52 : Int32)), (Value.int (53 : Int32)), (Value.int (54 : Int32)), (Value.int (55 : Int32))]
def own_al (i : Int32) : Int32 := own_lc (own_at own_AL i)
def own_p8 (v b : Int32) : Int32 := (v <<< ((8 : Int32) &&& 31)) ||| (b &&& (255 : Int32))
def own_g (k v : Int32) : Int32 := ((v.toUInt32 >>> (k &&& 31).toUInt32).toInt32) &&& (31 : Int32)
def own_g4 (v : Int32) : Int32 := (v <<< ((4 : Int32) &&& 31)) &&& (31 : Int32)
def own_mk (m v : Int32) : Int32 := v &&& m
def own_h8 (c : Int32) : Int32 := nar .byte (((c.toUInt32 >>> ((8 : Int32) &&& 31).toUInt32).toInt32).toInt8.toInt32)
theorem own_31 (x : Int32) : ¬ ((x &&& (31 : Int32)) < 0) ∧ (x &&& (31 : Int32)) < (32 : Int32) := by
  have e1 : (x &&& 31).toInt = x.toInt % 2 ^ 5 := Jvm.Kit.i32_mask x 31 (k := 5) (by decide) (by decide)
  have e0 : (0 : Int32).toInt = 0 := by decide
  have e2 : (32 : Int32).toInt = 32 := by decide
  rw [Int32.lt_iff_toInt_lt, Int32.lt_iff_toInt_lt, e0, e2]
  omega
theorem own_lc8 (x : Int32) : ¬ ((255 : Int32) < own_lc x) := by
  unfold own_lc
  have e1 : (x &&& 255).toInt = x.toInt % 2 ^ 8 := Jvm.Kit.i32_mask x 255 (k := 8) (by decide) (by decide)
  have e2 : (255 : Int32).toInt = 255 := by decide
  have hb : (x &&& (255 : Int32)).toBitVec.toNat < 256 := by
    have e6 : (x &&& (255 : Int32)).toInt = (x &&& (255 : Int32)).toBitVec.toInt := rfl
    rw [BitVec.toInt_eq_toNat_cond] at e6
    have := (x &&& (255 : Int32)).toBitVec.isLt
    split at e6 <;> omega
  have e3 : (x &&& (255 : Int32)).toUInt32.toUInt16.toUInt32.toInt32 = (x &&& (255 : Int32)) := by
    apply Int32.toBitVec_inj.mp
    show (BitVec.setWidth 32 (BitVec.setWidth 16 (x &&& (255 : Int32)).toBitVec)) = _
    apply BitVec.eq_of_toNat_eq
    rw [BitVec.toNat_setWidth, BitVec.toNat_setWidth]
    omega
  show ¬ ((255 : Int32) < ((x &&& (255 : Int32)).toUInt32.toUInt16.toUInt32.toInt32).toUInt32.toUInt16.toUInt32.toInt32)
  rw [e3, e3, Int32.lt_iff_toInt_lt]
  omega
theorem own_wS {a0 : Array Value} {Z : State} (hw : ∀ d ∈ tables_1, d.before a0 Z = true) : ∀ a ∈ Bundle.stringAtoms, a.before a0 Z = true := fun d hd => by
  simp only [Bundle.stringAtoms, List.mem_cons, List.not_mem_nil, or_false] at hd
  rcases hd with rfl | rfl | rfl | rfl | rfl | rfl | rfl
  · exact (ow hw 33 rfl)
  · exact (ow hw 39 rfl)
  · exact (ow hw 0 rfl)
  · exact (ow hw 40 rfl)
  · exact (ow hw 41 rfl)
  · exact (ow hw 42 rfl)
  · exact (ow hw 43 rfl)
theorem own_EW {a0 : Array Value} {Z : State} (hw : ∀ d ∈ tables_1, d.before a0 Z = true) : EW Z a0 own_EL := EW.cons (text := "ABCDEFGHIJKLMNOPQRSTUVWXYZ234567") (ow hw 38 rfl) (by decide) EW.nil
theorem own_31r {q x : Int32} (h : q = x &&& (31 : Int32)) : ¬ (q < 0) ∧ q < (32 : Int32) := by subst h; exact own_31 x
def own_enc (x0 x1 x2 x3 x4 x5 x6 x7 x8 x9 x10 x11 z0 z1 z2 z3 z4 z5 z6 z7 z8 z9 z10 z11 z12 z13 z14 z15 z16 z17 z18 z19 : Int32) : Prop := z0 = (own_lt (own_al (own_g (3 : Int32) (own_p8 (0 : Int32) x0)))) ∧ z1 = (own_lt (own_al (own_g (6 : Int32) (own_p8 (own_mk (7 : Int32) (own_p8 (0 : Int32) x0)) x1)))) ∧ z2 = (own_lt (own_al (own_g (1 : Int32) (own_p8 (own_mk (7 : Int32) (own_p8 (0 : Int32) x0)) x1)))) ∧ z3 = (own_lt (own_al (own_g (4 : Int32) (own_p8 (own_mk (1 : Int32) (own_p8 (own_mk (7 : Int32) (own_p8 (0 : Int32) x0)) x1)) x2)))) ∧ z4 = (own_lt (own_al (own_g (7 : Int32) (own_p8 (own_mk (15 : Int32) (own_p8 (own_mk (1 : Int32) (own_p8 (own_mk (7 : Int32) (own_p8 (0 : Int32) x0)) x1)) x2)) x3)))) ∧ z5 = (own_lt (own_al (own_g (2 : Int32) (own_p8 (own_mk (15 : Int32) (own_p8 (own_mk (1 : Int32) (own_p8 (own_mk (7 : Int32) (own_p8 (0 : Int32) x0)) x1)) x2)) x3)))) ∧ z6 = (own_lt (own_al (own_g (5 : Int32) (own_p8 (own_mk (3 : Int32) (own_p8 (own_mk (15 : Int32) (own_p8 (own_mk (1 : Int32) (own_p8 (own_mk (7 : Int32) (own_p8 (0 : Int32) x0)) x1)) x2)) x3)) x4)))) ∧ z7 = (own_lt (own_al (own_g (0 : Int32) (own_p8 (own_mk (3 : Int32) (own_p8 (own_mk (15 : Int32) (own_p8 (own_mk (1 : Int32) (own_p8 (own_mk (7 : Int32) (own_p8 (0 : Int32) x0)) x1)) x2)) x3)) x4)))) ∧ z8 = (own_lt (own_al (own_g (3 : Int32) (own_p8 (own_mk (0 : Int32) (own_p8 (own_mk (3 : Int32) (own_p8 (own_mk (15 : Int32) (own_p8 (own_mk (1 : Int32) (own_p8 (own_mk (7 : Int32) (own_p8 (0 : Int32) x0)) x1)) x2)) x3)) x4)) x5)))) ∧ z9 = (own_lt (own_al (own_g (6 : Int32) (own_p8 (own_mk (7 : Int32) (own_p8 (own_mk (0 : Int32) (own_p8 (own_mk (3 : Int32) (own_p8 (own_mk (15 : Int32) (own_p8 (own_mk (1 : Int32) (own_p8 (own_mk (7 : Int32) (own_p8 (0 : Int32) x0)) x1)) x2)) x3)) x4)) x5)) x6)))) ∧ z10 = (own_lt (own_al (own_g (1 : Int32) (own_p8 (own_mk (7 : Int32) (own_p8 (own_mk (0 : Int32) (own_p8 (own_mk (3 : Int32) (own_p8 (own_mk (15 : Int32) (own_p8 (own_mk (1 : Int32) (own_p8 (own_mk (7 : Int32) (own_p8 (0 : Int32) x0)) x1)) x2)) x3)) x4)) x5)) x6)))) ∧ z11 = (own_lt (own_al (own_g (4 : Int32) (own_p8 (own_mk (1 : Int32) (own_p8 (own_mk (7 : Int32) (own_p8 (own_mk (0 : Int32) (own_p8 (own_mk (3 : Int32) (own_p8 (own_mk (15 : Int32) (own_p8 (own_mk (1 : Int32) (own_p8 (own_mk (7 : Int32) (own_p8 (0 : Int32) x0)) x1)) x2)) x3)) x4)) x5)) x6)) x7)))) ∧ z12 = (own_lt (own_al (own_g (7 : Int32) (own_p8 (own_mk (15 : Int32) (own_p8 (own_mk (1 : Int32) (own_p8 (own_mk (7 : Int32) (own_p8 (own_mk (0 : Int32) (own_p8 (own_mk (3 : Int32) (own_p8 (own_mk (15 : Int32) (own_p8 (own_mk (1 : Int32) (own_p8 (own_mk (7 : Int32) (own_p8 (0 : Int32) x0)) x1)) x2)) x3)) x4)) x5)) x6)) x7)) x8)))) ∧ z13 = (own_lt (own_al (own_g (2 : Int32) (own_p8 (own_mk (15 : Int32) (own_p8 (own_mk (1 : Int32) (own_p8 (own_mk (7 : Int32) (own_p8 (own_mk (0 : Int32) (own_p8 (own_mk (3 : Int32) (own_p8 (own_mk (15 : Int32) (own_p8 (own_mk (1 : Int32) (own_p8 (own_mk (7 : Int32) (own_p8 (0 : Int32) x0)) x1)) x2)) x3)) x4)) x5)) x6)) x7)) x8)))) ∧ z14 = (own_lt (own_al (own_g (5 : Int32) (own_p8 (own_mk (3 : Int32) (own_p8 (own_mk (15 : Int32) (own_p8 (own_mk (1 : Int32) (own_p8 (own_mk (7 : Int32) (own_p8 (own_mk (0 : Int32) (own_p8 (own_mk (3 : Int32) (own_p8 (own_mk (15 : Int32) (own_p8 (own_mk (1 : Int32) (own_p8 (own_mk (7 : Int32) (own_p8 (0 : Int32) x0)) x1)) x2)) x3)) x4)) x5)) x6)) x7)) x8)) x9)))) ∧ z15 = (own_lt (own_al (own_g (0 : Int32) (own_p8 (own_mk (3 : Int32) (own_p8 (own_mk (15 : Int32) (own_p8 (own_mk (1 : Int32) (own_p8 (own_mk (7 : Int32) (own_p8 (own_mk (0 : Int32) (own_p8 (own_mk (3 : Int32) (own_p8 (own_mk (15 : Int32) (own_p8 (own_mk (1 : Int32) (own_p8 (own_mk (7 : Int32) (own_p8 (0 : Int32) x0)) x1)) x2)) x3)) x4)) x5)) x6)) x7)) x8)) x9)))) ∧ z16 = (own_lt (own_al (own_g (3 : Int32) (own_p8 (own_mk (0 : Int32) (own_p8 (own_mk (3 : Int32) (own_p8 (own_mk (15 : Int32) (own_p8 (own_mk (1 : Int32) (own_p8 (own_mk (7 : Int32) (own_p8 (own_mk (0 : Int32) (own_p8 (own_mk (3 : Int32) (own_p8 (own_mk (15 : Int32) (own_p8 (own_mk (1 : Int32) (own_p8 (own_mk (7 : Int32) (own_p8 (0 : Int32) x0)) x1)) x2)) x3)) x4)) x5)) x6)) x7)) x8)) x9)) x10)))) ∧ z17 = (own_lt (own_al (own_g (6 : Int32) (own_p8 (own_mk (7 : Int32) (own_p8 (own_mk (0 : Int32) (own_p8 (own_mk (3 : Int32) (own_p8 (own_mk (15 : Int32) (own_p8 (own_mk (1 : Int32) (own_p8 (own_mk (7 : Int32) (own_p8 (own_mk (0 : Int32) (own_p8 (own_mk (3 : Int32) (own_p8 (own_mk (15 : Int32) (own_p8 (own_mk (1 : Int32) (own_p8 (own_mk (7 : Int32) (own_p8 (0 : Int32) x0)) x1)) x2)) x3)) x4)) x5)) x6)) x7)) x8)) x9)) x10)) x11)))) ∧ z18 = (own_lt (own_al (own_g (1 : Int32) (own_p8 (own_mk (7 : Int32) (own_p8 (own_mk (0 : Int32) (own_p8 (own_mk (3 : Int32) (own_p8 (own_mk (15 : Int32) (own_p8 (own_mk (1 : Int32) (own_p8 (own_mk (7 : Int32) (own_p8 (own_mk (0 : Int32) (own_p8 (own_mk (3 : Int32) (own_p8 (own_mk (15 : Int32) (own_p8 (own_mk (1 : Int32) (own_p8 (own_mk (7 : Int32) (own_p8 (0 : Int32) x0)) x1)) x2)) x3)) x4)) x5)) x6)) x7)) x8)) x9)) x10)) x11)))) ∧ z19 = (own_lt (own_al (own_g4 (own_mk (1 : Int32) (own_p8 (own_mk (7 : Int32) (own_p8 (own_mk (0 : Int32) (own_p8 (own_mk (3 : Int32) (own_p8 (own_mk (15 : Int32) (own_p8 (own_mk (1 : Int32) (own_p8 (own_mk (7 : Int32) (own_p8 (own_mk (0 : Int32) (own_p8 (own_mk (3 : Int32) (own_p8 (own_mk (15 : Int32) (own_p8 (own_mk (1 : Int32) (own_p8 (own_mk (7 : Int32) (own_p8 (0 : Int32) x0)) x1)) x2)) x3)) x4)) x5)) x6)) x7)) x8)) x9)) x10)) x11)))))
def own_ixb (b : Int32) : Int32 := if (65 : Int32) = b then (0 : Int32) else if (66 : Int32) = b then (1 : Int32) else if (67 : Int32) = b then (2 : Int32) else if (68 : Int32) = b then (3 : Int32) else if (69 : Int32) = b then (4 : Int32) else if (70 : Int32) = b then (5 : Int32) else if (71 : Int32) = b then (6 : Int32) else if (72 : Int32) = b then (7 : Int32) else if (73 : Int32) = b then (8 : Int32) else if (74 : Int32) = b then (9 : Int32) else if (75 : Int32) = b then (10 : Int32) else if (76 : Int32) = b then (11 : Int32) else if (77 : Int32) = b then (12 : Int32) else if (78 : Int32) = b then (13 : Int32) else if (79 : Int32) = b then (14 : Int32) else if (80 : Int32) = b then (15 : Int32) else if (81 : Int32) = b then (16 : Int32) else if (82 : Int32) = b then (17 : Int32) else if (83 : Int32) = b then (18 : Int32) else if (84 : Int32) = b then (19 : Int32) else if (85 : Int32) = b then (20 : Int32) else if (86 : Int32) = b then (21 : Int32) else if (87 : Int32) = b then (22 : Int32) else if (88 : Int32) = b then (23 : Int32) else if (89 : Int32) = b then (24 : Int32) else if (90 : Int32) = b then (25 : Int32) else if (50 : Int32) = b then (26 : Int32) else if (51 : Int32) = b then (27 : Int32) else if (52 : Int32) = b then (28 : Int32) else if (53 : Int32) = b then (29 : Int32) else if (54 : Int32) = b then (30 : Int32) else if (55 : Int32) = b then (31 : Int32) else (-1 : Int32)
def own_ix (c : Int32) : Int32 := own_ixb (c.toInt8.toInt32)
theorem own_atA (n : Nat) : own_AL.getD n (Value.int (0 : Int32)) = .int (own_vi (own_AL.getD n (Value.int (0 : Int32)))) := by
  have q : ∀ v ∈ own_AL, v = Value.int (own_vi v) := by simp [own_AL, own_vi]
  by_cases h : n < own_AL.length
  · rw [List.getD_eq_getElem?_getD, List.getElem?_eq_getElem h]; exact q _ (List.getElem_mem h)
  · rw [List.getD_eq_getElem?_getD, List.getElem?_eq_none (Nat.le_of_not_lt h)]; rfl
def own_q5 (v i : Int32) : Int32 := (v <<< ((5 : Int32) &&& 31)) ||| i
def own_y (k v : Int32) : Int32 := nar .byte (((v.toUInt32 >>> (k &&& 31).toUInt32).toInt32).toInt8.toInt32)
def own_fd (a b : Int32) : Int32 := ((a &&& (255 : Int32)) <<< ((8 : Int32) &&& 31)) ||| (b &&& (255 : Int32))
theorem own_lcn (x : Int32) : ¬ (own_lc x < (0 : Int32)) := by
  unfold own_lc
  have e1 : (x &&& 255).toInt = x.toInt % 2 ^ 8 := Jvm.Kit.i32_mask x 255 (k := 8) (by decide) (by decide)
  have e2 : (0 : Int32).toInt = 0 := by decide
  have hb : (x &&& (255 : Int32)).toBitVec.toNat < 256 := by
    have e6 : (x &&& (255 : Int32)).toInt = (x &&& (255 : Int32)).toBitVec.toInt := rfl
    rw [BitVec.toInt_eq_toNat_cond] at e6
    have := (x &&& (255 : Int32)).toBitVec.isLt
    split at e6 <;> omega
  have e3 : (x &&& (255 : Int32)).toUInt32.toUInt16.toUInt32.toInt32 = (x &&& (255 : Int32)) := by
    apply Int32.toBitVec_inj.mp
    show (BitVec.setWidth 32 (BitVec.setWidth 16 (x &&& (255 : Int32)).toBitVec)) = _
    apply BitVec.eq_of_toNat_eq
    rw [BitVec.toNat_setWidth, BitVec.toNat_setWidth]
    omega
  show ¬ (((x &&& (255 : Int32)).toUInt32.toUInt16.toUInt32.toInt32).toUInt32.toUInt16.toUInt32.toInt32 < (0 : Int32))
  rw [e3, e3, Int32.lt_iff_toInt_lt]
  omega
def own_ok (y0 y1 y2 y3 y4 y5 y6 y7 y8 y9 y10 y11 y12 y13 y14 y15 y16 y17 y18 y19 y20 y21 y22 : Int32) : Prop := ¬ ((own_ix (own_lc y0)) < (0 : Int32)) ∧ ¬ ((own_ix (own_lc y1)) < (0 : Int32)) ∧ ¬ ((own_ix (own_lc y2)) < (0 : Int32)) ∧ ¬ ((own_ix (own_lc y3)) < (0 : Int32)) ∧ ¬ ((own_ix (own_lc y4)) < (0 : Int32)) ∧ (own_lc y5) = (45 : Int32) ∧ ¬ ((own_ix (own_lc y6)) < (0 : Int32)) ∧ ¬ ((own_ix (own_lc y7)) < (0 : Int32)) ∧ ¬ ((own_ix (own_lc y8)) < (0 : Int32)) ∧ ¬ ((own_ix (own_lc y9)) < (0 : Int32)) ∧ ¬ ((own_ix (own_lc y10)) < (0 : Int32)) ∧ (own_lc y11) = (45 : Int32) ∧ ¬ ((own_ix (own_lc y12)) < (0 : Int32)) ∧ ¬ ((own_ix (own_lc y13)) < (0 : Int32)) ∧ ¬ ((own_ix (own_lc y14)) < (0 : Int32)) ∧ ¬ ((own_ix (own_lc y15)) < (0 : Int32)) ∧ ¬ ((own_ix (own_lc y16)) < (0 : Int32)) ∧ (own_lc y17) = (45 : Int32) ∧ ¬ ((own_ix (own_lc y18)) < (0 : Int32)) ∧ ¬ ((own_ix (own_lc y19)) < (0 : Int32)) ∧ ¬ ((own_ix (own_lc y20)) < (0 : Int32)) ∧ ¬ ((own_ix (own_lc y21)) < (0 : Int32)) ∧ ¬ ((own_ix (own_lc y22)) < (0 : Int32)) ∧ (own_mk (15 : Int32) (own_q5 (own_q5 (own_mk (3 : Int32) (own_q5 (own_q5 (own_mk (0 : Int32) (own_q5 (own_mk (7 : Int32) (own_q5 (own_q5 (own_mk (1 : Int32) (own_q5 (own_mk (15 : Int32) (own_q5 (own_q5 (own_mk (3 : Int32) (own_q5 (own_q5 (own_mk (0 : Int32) (own_q5 (own_mk (7 : Int32) (own_q5 (own_q5 (own_mk (1 : Int32) (own_q5 (own_mk (15 : Int32) (own_q5 (own_q5 (own_mk (3 : Int32) (own_q5 (own_q5 (0 : Int32) (own_ix (own_lc y0))) (own_ix (own_lc y1)))) (own_ix (own_lc y2))) (own_ix (own_lc y3)))) (own_ix (own_lc y4)))) (own_ix (own_lc y6))) (own_ix (own_lc y7)))) (own_ix (own_lc y8)))) (own_ix (own_lc y9))) (own_ix (own_lc y10)))) (own_ix (own_lc y12))) (own_ix (own_lc y13)))) (own_ix (own_lc y14)))) (own_ix (own_lc y15))) (own_ix (own_lc y16)))) (own_ix (own_lc y18)))) (own_ix (own_lc y19))) (own_ix (own_lc y20)))) (own_ix (own_lc y21))) (own_ix (own_lc y22)))) = (0 : Int32) ∧ (own_fd (own_y (2 : Int32) (own_q5 (own_q5 (own_mk (0 : Int32) (own_q5 (own_mk (7 : Int32) (own_q5 (own_q5 (own_mk (1 : Int32) (own_q5 (own_mk (15 : Int32) (own_q5 (own_q5 (own_mk (3 : Int32) (own_q5 (own_q5 (own_mk (0 : Int32) (own_q5 (own_mk (7 : Int32) (own_q5 (own_q5 (own_mk (1 : Int32) (own_q5 (own_mk (15 : Int32) (own_q5 (own_q5 (own_mk (3 : Int32) (own_q5 (own_q5 (0 : Int32) (own_ix (own_lc y0))) (own_ix (own_lc y1)))) (own_ix (own_lc y2))) (own_ix (own_lc y3)))) (own_ix (own_lc y4)))) (own_ix (own_lc y6))) (own_ix (own_lc y7)))) (own_ix (own_lc y8)))) (own_ix (own_lc y9))) (own_ix (own_lc y10)))) (own_ix (own_lc y12))) (own_ix (own_lc y13)))) (own_ix (own_lc y14)))) (own_ix (own_lc y15))) (own_ix (own_lc y16)))) (own_ix (own_lc y18)))) (own_ix (own_lc y19))) (own_ix (own_lc y20)))) (own_y (4 : Int32) (own_q5 (own_q5 (own_mk (3 : Int32) (own_q5 (own_q5 (own_mk (0 : Int32) (own_q5 (own_mk (7 : Int32) (own_q5 (own_q5 (own_mk (1 : Int32) (own_q5 (own_mk (15 : Int32) (own_q5 (own_q5 (own_mk (3 : Int32) (own_q5 (own_q5 (own_mk (0 : Int32) (own_q5 (own_mk (7 : Int32) (own_q5 (own_q5 (own_mk (1 : Int32) (own_q5 (own_mk (15 : Int32) (own_q5 (own_q5 (own_mk (3 : Int32) (own_q5 (own_q5 (0 : Int32) (own_ix (own_lc y0))) (own_ix (own_lc y1)))) (own_ix (own_lc y2))) (own_ix (own_lc y3)))) (own_ix (own_lc y4)))) (own_ix (own_lc y6))) (own_ix (own_lc y7)))) (own_ix (own_lc y8)))) (own_ix (own_lc y9))) (own_ix (own_lc y10)))) (own_ix (own_lc y12))) (own_ix (own_lc y13)))) (own_ix (own_lc y14)))) (own_ix (own_lc y15))) (own_ix (own_lc y16)))) (own_ix (own_lc y18)))) (own_ix (own_lc y19))) (own_ix (own_lc y20)))) (own_ix (own_lc y21))) (own_ix (own_lc y22))))) = (own_crc (own_y (2 : Int32) (own_q5 (own_q5 (0 : Int32) (own_ix (own_lc y0))) (own_ix (own_lc y1)))) (own_y (4 : Int32) (own_q5 (own_q5 (own_mk (3 : Int32) (own_q5 (own_q5 (0 : Int32) (own_ix (own_lc y0))) (own_ix (own_lc y1)))) (own_ix (own_lc y2))) (own_ix (own_lc y3)))) (own_y (1 : Int32) (own_q5 (own_mk (15 : Int32) (own_q5 (own_q5 (own_mk (3 : Int32) (own_q5 (own_q5 (0 : Int32) (own_ix (own_lc y0))) (own_ix (own_lc y1)))) (own_ix (own_lc y2))) (own_ix (own_lc y3)))) (own_ix (own_lc y4)))) (own_y (3 : Int32) (own_q5 (own_q5 (own_mk (1 : Int32) (own_q5 (own_mk (15 : Int32) (own_q5 (own_q5 (own_mk (3 : Int32) (own_q5 (own_q5 (0 : Int32) (own_ix (own_lc y0))) (own_ix (own_lc y1)))) (own_ix (own_lc y2))) (own_ix (own_lc y3)))) (own_ix (own_lc y4)))) (own_ix (own_lc y6))) (own_ix (own_lc y7)))) (own_y (0 : Int32) (own_q5 (own_mk (7 : Int32) (own_q5 (own_q5 (own_mk (1 : Int32) (own_q5 (own_mk (15 : Int32) (own_q5 (own_q5 (own_mk (3 : Int32) (own_q5 (own_q5 (0 : Int32) (own_ix (own_lc y0))) (own_ix (own_lc y1)))) (own_ix (own_lc y2))) (own_ix (own_lc y3)))) (own_ix (own_lc y4)))) (own_ix (own_lc y6))) (own_ix (own_lc y7)))) (own_ix (own_lc y8)))) (own_y (2 : Int32) (own_q5 (own_q5 (own_mk (0 : Int32) (own_q5 (own_mk (7 : Int32) (own_q5 (own_q5 (own_mk (1 : Int32) (own_q5 (own_mk (15 : Int32) (own_q5 (own_q5 (own_mk (3 : Int32) (own_q5 (own_q5 (0 : Int32) (own_ix (own_lc y0))) (own_ix (own_lc y1)))) (own_ix (own_lc y2))) (own_ix (own_lc y3)))) (own_ix (own_lc y4)))) (own_ix (own_lc y6))) (own_ix (own_lc y7)))) (own_ix (own_lc y8)))) (own_ix (own_lc y9))) (own_ix (own_lc y10)))) (own_y (4 : Int32) (own_q5 (own_q5 (own_mk (3 : Int32) (own_q5 (own_q5 (own_mk (0 : Int32) (own_q5 (own_mk (7 : Int32) (own_q5 (own_q5 (own_mk (1 : Int32) (own_q5 (own_mk (15 : Int32) (own_q5 (own_q5 (own_mk (3 : Int32) (own_q5 (own_q5 (0 : Int32) (own_ix (own_lc y0))) (own_ix (own_lc y1)))) (own_ix (own_lc y2))) (own_ix (own_lc y3)))) (own_ix (own_lc y4)))) (own_ix (own_lc y6))) (own_ix (own_lc y7)))) (own_ix (own_lc y8)))) (own_ix (own_lc y9))) (own_ix (own_lc y10)))) (own_ix (own_lc y12))) (own_ix (own_lc y13)))) (own_y (1 : Int32) (own_q5 (own_mk (15 : Int32) (own_q5 (own_q5 (own_mk (3 : Int32) (own_q5 (own_q5 (own_mk (0 : Int32) (own_q5 (own_mk (7 : Int32) (own_q5 (own_q5 (own_mk (1 : Int32) (own_q5 (own_mk (15 : Int32) (own_q5 (own_q5 (own_mk (3 : Int32) (own_q5 (own_q5 (0 : Int32) (own_ix (own_lc y0))) (own_ix (own_lc y1)))) (own_ix (own_lc y2))) (own_ix (own_lc y3)))) (own_ix (own_lc y4)))) (own_ix (own_lc y6))) (own_ix (own_lc y7)))) (own_ix (own_lc y8)))) (own_ix (own_lc y9))) (own_ix (own_lc y10)))) (own_ix (own_lc y12))) (own_ix (own_lc y13)))) (own_ix (own_lc y14)))) (own_y (3 : Int32) (own_q5 (own_q5 (own_mk (1 : Int32) (own_q5 (own_mk (15 : Int32) (own_q5 (own_q5 (own_mk (3 : Int32) (own_q5 (own_q5 (own_mk (0 : Int32) (own_q5 (own_mk (7 : Int32) (own_q5 (own_q5 (own_mk (1 : Int32) (own_q5 (own_mk (15 : Int32) (own_q5 (own_q5 (own_mk (3 : Int32) (own_q5 (own_q5 (0 : Int32) (own_ix (own_lc y0))) (own_ix (own_lc y1)))) (own_ix (own_lc y2))) (own_ix (own_lc y3)))) (own_ix (own_lc y4)))) (own_ix (own_lc y6))) (own_ix (own_lc y7)))) (own_ix (own_lc y8)))) (own_ix (own_lc y9))) (own_ix (own_lc y10)))) (own_ix (own_lc y12))) (own_ix (own_lc y13)))) (own_ix (own_lc y14)))) (own_ix (own_lc y15))) (own_ix (own_lc y16)))) (own_y (0 : Int32) (own_q5 (own_mk (7 : Int32) (own_q5 (own_q5 (own_mk (1 : Int32) (own_q5 (own_mk (15 : Int32) (own_q5 (own_q5 (own_mk (3 : Int32) (own_q5 (own_q5 (own_mk (0 : Int32) (own_q5 (own_mk (7 : Int32) (own_q5 (own_q5 (own_mk (1 : Int32) (own_q5 (own_mk (15 : Int32) (own_q5 (own_q5 (own_mk (3 : Int32) (own_q5 (own_q5 (0 : Int32) (own_ix (own_lc y0))) (own_ix (own_lc y1)))) (own_ix (own_lc y2))) (own_ix (own_lc y3)))) (own_ix (own_lc y4)))) (own_ix (own_lc y6))) (own_ix (own_lc y7)))) (own_ix (own_lc y8)))) (own_ix (own_lc y9))) (own_ix (own_lc y10)))) (own_ix (own_lc y12))) (own_ix (own_lc y13)))) (own_ix (own_lc y14)))) (own_ix (own_lc y15))) (own_ix (own_lc y16)))) (own_ix (own_lc y18)))))
def own_LT (c : Int32) : Value := .int (own_lt c)
theorem own_eqn {i n : Int32} (hi : ¬ i < 0) (hn : ¬ n < 0) (h : i.toNatClampNeg = n.toNatClampNeg) : i = n := by
  have f0 : (0 : Int32).toInt = 0 := by decide
  rw [Int32.lt_iff_toInt_lt, f0] at hi hn
  unfold Int32.toNatClampNeg at h
  exact Int32.toInt_inj.mp (by omega)
theorem own_ltn {i n : Int32} (hi : ¬ i < 0) (h : i.toNatClampNeg < n.toNatClampNeg) : i < n := by
  have f0 : (0 : Int32).toInt = 0 := by decide
  rw [Int32.lt_iff_toInt_lt, f0] at hi
  rw [Int32.lt_iff_toInt_lt]
  unfold Int32.toNatClampNeg at h
  omega
theorem own_suc {i n : Int32} (hi : ¬ i < 0) (h : i < n) : ¬ (i + (1 : Int32) < 0) ∧ (i + (1 : Int32)).toNatClampNeg = i.toNatClampNeg + 1 := by
  have f0 : (0 : Int32).toInt = 0 := by decide
  have f1 : (1 : Int32).toInt = 1 := by decide
  have b1 := Int32.toInt_lt n
  rw [Int32.lt_iff_toInt_lt, f0] at hi
  rw [Int32.lt_iff_toInt_lt] at h
  have e : (i + (1 : Int32)).toInt = i.toInt + 1 := by
    rw [Int32.toInt_add, f1]
    simp only [Int.bmod_def]
    omega
  rw [Int32.lt_iff_toInt_lt, f0, e]
  unfold Int32.toNatClampNeg
  rw [e]
  omega
theorem own_gm {cl : List Int32} {n : Nat} (h : n < cl.length) : (cl.map Value.int).getD n (Value.int (0 : Int32)) = .int (cl.getD n 0) := by
  simp [List.getD, h]
theorem own_tk {cl : List Int32} {n : Nat} (h : n < cl.length) : (cl.take n).map own_LT ++ [.int (own_lt (cl.getD n 0))] = (cl.take (n + 1)).map own_LT := by
  have e : cl.getD n 0 = cl[n] := by simp [List.getD, h]
  rw [List.take_add_one, List.map_append, List.getElem?_eq_getElem h, e]
  rfl
theorem own_s0 (n : Int32) : n - n = (0 : Int32) := by apply Int32.toBitVec_inj.mp; simp
def own_k (y : Int32) : Int32 := nar .char (own_lc y)
theorem own_lt22 {j n : Int32} (h : (21 : Int32) < n) (hj : ¬ ((21 : Int32) < j)) : j < n := by
  rw [Int32.lt_iff_toInt_lt] at *
  omega
def own_N (x : Int32) : Nat := x.toBitVec.toNat
theorem own_Ni {x y : Int32} (h : own_N x = own_N y) : x = y := Int32.toBitVec_inj.mp (BitVec.eq_of_toNat_eq h)
theorem own_Nlt (x : Int32) : own_N x < 4294967296 := x.toBitVec.isLt
theorem own_Nand (x y : Int32) : own_N (x &&& y) = own_N x &&& own_N y := rfl
theorem own_Nxor (x y : Int32) : own_N (x ^^^ y) = own_N x ^^^ own_N y := rfl
theorem own_Nor (x y : Int32) : own_N (x ||| y) = own_N x ||| own_N y := rfl
theorem own_Nmk (n : Nat) {m : Int32} (hm : own_N m = 2 ^ n - 1) (x : Int32) : own_N (x &&& m) = own_N x % 2 ^ n := by
  rw [own_Nand, hm, Nat.and_two_pow_sub_one_eq_mod]
theorem own_Nush (n : Nat) {k : Int32} (hk : ((k &&& 31).toUInt32.toBitVec % 32#32).toNat = n) (v : Int32) : own_N ((v.toUInt32 >>> (k &&& 31).toUInt32).toInt32) = own_N v / 2 ^ n := by
  subst hk
  show (v.toBitVec >>> ((k &&& 31).toUInt32.toBitVec % 32#32)).toNat = _
  rw [BitVec.ushiftRight_eq', BitVec.toNat_ushiftRight, Nat.shiftRight_eq_div_pow]; rfl
theorem own_Nshl (n : Nat) {k : Int32} (hk : ((k &&& 31).toBitVec.smod 32#32).toNat = n) (v : Int32) (hv : own_N v * 2 ^ n < 4294967296) : own_N (v <<< (k &&& 31)) = own_N v * 2 ^ n := by
  subst hk
  show (v.toBitVec <<< ((k &&& 31).toBitVec.smod 32#32)).toNat = _
  rw [BitVec.shiftLeft_eq', BitVec.toNat_shiftLeft, Nat.shiftLeft_eq]
  exact Nat.mod_eq_of_lt hv
theorem own_lor (n a b : Nat) (hb : b < 2 ^ n) : a * 2 ^ n ||| b = a * 2 ^ n + b := by
  rw [Nat.mul_comm a, Nat.two_pow_add_eq_or_of_lt hb]
theorem own_q5N {v i : Int32} (hv : own_N v < 1048576) (hi : own_N i < 32) : own_N (own_q5 v i) = own_N v * 32 + own_N i := by
  unfold own_q5
  rw [own_Nor, own_Nshl 5 (by decide) v (by omega), own_lor 5 _ _ (by omega)]
theorem own_p8N {v b : Int32} (hv : own_N v < 65536) : own_N (own_p8 v b) = own_N v * 256 + own_N b % 256 := by
  unfold own_p8
  rw [own_Nor, own_Nshl 8 (by decide) v (by omega), own_Nmk 8 (by decide), own_lor 8 _ _ (Nat.mod_lt _ (by decide))]
theorem own_fdN (a b : Int32) : own_N (own_fd a b) = own_N a % 256 * 256 + own_N b % 256 := by
  unfold own_fd
  have e := own_Nmk 8 (m := 255) (by decide) a
  rw [own_Nor, own_Nshl 8 (by decide) _ (by rw [e]; omega), e, own_Nmk 8 (by decide), own_lor 8 _ _ (Nat.mod_lt _ (by decide))]
theorem own_gN (n : Nat) {k : Int32} (hk : ((k &&& 31).toUInt32.toBitVec % 32#32).toNat = n) (v : Int32) : own_N (own_g k v) = own_N v / 2 ^ n % 32 := by
  unfold own_g
  rw [own_Nmk 5 (by decide), own_Nush n hk]
theorem own_g4N {v : Int32} (hv : own_N v < 1048576) : own_N (own_g4 v) = own_N v * 16 % 32 := by
  unfold own_g4
  rw [own_Nmk 5 (by decide), own_Nshl 4 (by decide) v (by omega)]
theorem own_nbN (x : Int32) : own_N (nar .byte (x.toInt8.toInt32)) % 256 = own_N x % 256 := by
  have e1 : nar .byte (x.toInt8.toInt32) = x.toInt8.toInt32 := by show (_ : Int8).toInt32.toInt8.toInt32 = _; rw [Int8.toInt8_toInt32]
  rw [e1]
  have e2 : (x.toInt8.toInt32).toBitVec.setWidth 8 = x.toBitVec.setWidth 8 := by
    rw [Int8.toBitVec_toInt32, Int32.toBitVec_toInt8]
    apply BitVec.eq_of_getLsbD_eq
    intro i hi
    simp only [BitVec.getLsbD_setWidth, BitVec.getLsbD_signExtend]
    have h32 : i < 32 := by omega
    simp [hi, h32]
  have e3 := congrArg BitVec.toNat e2
  rw [BitVec.toNat_setWidth, BitVec.toNat_setWidth] at e3
  exact e3
theorem own_ltN (x : Int32) : own_N (own_lt x) % 256 = own_N x % 256 := own_nbN x
theorem own_yN (n : Nat) {k : Int32} (hk : ((k &&& 31).toUInt32.toBitVec % 32#32).toNat = n) (v : Int32) : own_N (own_y k v) % 256 = own_N v / 2 ^ n % 256 := by
  unfold own_y
  rw [own_nbN, own_Nush n hk]
theorem own_h8N (v : Int32) : own_N (own_h8 v) % 256 = own_N v / 256 % 256 := by
  unfold own_h8
  rw [own_nbN, own_Nush 8 (by decide)]
theorem own_ncN {x : Int32} (h : own_N x < 65536) : nar .char x = x := by
  show x.toUInt32.toUInt16.toUInt32.toInt32 = x
  apply Int32.toBitVec_inj.mp
  show (BitVec.setWidth 32 (BitVec.setWidth 16 x.toBitVec)) = _
  apply BitVec.eq_of_toNat_eq
  rw [BitVec.toNat_setWidth, BitVec.toNat_setWidth]
  unfold own_N at h
  omega
theorem own_lcN (x : Int32) : own_N (own_lc x) = own_N x % 256 := by
  have e := own_Nmk 8 (m := 255) (by decide) x
  have hl : own_N (x &&& 255) < 65536 := by rw [e]; omega
  have e2 : (x &&& (255 : Int32)).toUInt32.toUInt16.toUInt32.toInt32 = x &&& 255 := own_ncN hl
  unfold own_lc
  rw [e2, own_ncN hl, e]
theorem own_lclt {c : Int32} (h : own_N c < 256) : own_lc (own_lt c) = c := own_Ni (by rw [own_lcN, own_ltN, Nat.mod_eq_of_lt h])
theorem own_kl (y : Int32) : own_k y = own_lc y := by
  unfold own_k
  exact own_ncN (by rw [own_lcN]; omega)
theorem own_ofN (x : Int32) : x = Int32.ofNat (own_N x) := by
  apply Int32.toBitVec_inj.mp
  apply BitVec.eq_of_toNat_eq
  show own_N x = (BitVec.ofNat 32 (own_N x)).toNat
  rw [BitVec.toNat_ofNat]
  exact (Nat.mod_eq_of_lt (own_Nlt x)).symm
theorem own_aix {g : Int32} (hg : own_N g < 32) : own_ix (own_lc (own_lt (own_al g))) = g := by
  have q : ∀ n, n < 32 → own_ix (own_lc (own_lt (own_al (Int32.ofNat n)))) = Int32.ofNat n := by decide +kernel
  rw [own_ofN g]; exact q _ hg
theorem own_ixa {c : Int32} (hc : own_N c < 256) (h : ¬ (own_ix c < (0 : Int32))) : own_al (own_ix c) = c ∧ own_N (own_ix c) < 32 := by
  have q : ∀ n, n < 256 → ¬ (own_ix (Int32.ofNat n) < (0 : Int32)) → own_al (own_ix (Int32.ofNat n)) = Int32.ofNat n ∧ own_N (own_ix (Int32.ofNat n)) < 32 := by decide +kernel
  rw [own_ofN c] at h ⊢; exact q _ hc h
theorem own_nn {g : Int32} (hg : own_N g < 32) : ¬ (g < (0 : Int32)) := by
  have q : ∀ n, n < 32 → ¬ (Int32.ofNat n < (0 : Int32)) := by decide +kernel
  rw [own_ofN g]; exact q _ hg
def own_stN (n : Nat) : Nat := if n % 2 = 0 then n / 2 else (n / 2) ^^^ 40961
def own_s8N (n : Nat) : Nat := own_stN (own_stN (own_stN (own_stN (own_stN (own_stN (own_stN (own_stN n)))))))
def own_cf (c : Nat) (bs : List Nat) : Nat := bs.foldl (fun c b => own_s8N (c ^^^ b)) c
theorem own_stE (c : Int32) : own_N (own_st c) = own_stN (own_N c) := by
  unfold own_st own_stN
  have e := own_Nmk 1 (m := 1) (by decide) c
  have hs := own_Nush 1 (k := 1) (by decide) c
  by_cases h : c &&& (1 : Int32) = (0 : Int32)
  · have h2 : own_N c % 2 = 0 := by rw [← Nat.pow_one 2, ← e, h]; decide
    rw [if_pos h, if_pos h2, hs]
  · have h2 : ¬ (own_N c % 2 = 0) := fun q => h (own_Ni (by rw [e]; exact q))
    rw [if_neg h, if_neg h2, own_Nxor, hs]; rfl
theorem own_s8E (c : Int32) : own_N (own_s8 c) = own_s8N (own_N c) := by
  unfold own_s8 own_s8N
  simp only [own_stE]
theorem own_cbE (c x : Int32) : own_N (own_cb c x) = own_s8N (own_N c ^^^ (own_N x % 256)) := by
  unfold own_cb
  rw [own_s8E, own_Nxor, own_Nmk 8 (by decide)]
theorem own_crcE (x0 x1 x2 x3 x4 x5 x6 x7 x8 x9 : Int32) : own_N (own_crc x0 x1 x2 x3 x4 x5 x6 x7 x8 x9) = own_cf 0 [own_N x0 % 256, own_N x1 % 256, own_N x2 % 256, own_N x3 % 256, own_N x4 % 256, own_N x5 % 256, own_N x6 % 256, own_N x7 % 256, own_N x8 % 256, own_N x9 % 256] := by
  unfold own_crc own_cf
  simp only [own_cbE, List.foldl]
  rfl
theorem own_xlt {a b n : Nat} (ha : a < 2 ^ n) (hb : b < 2 ^ n) : a ^^^ b < 2 ^ n := Nat.xor_lt_two_pow ha hb
theorem own_stL {n : Nat} (h : n < 65536) : own_stN n < 65536 := by
  unfold own_stN
  split
  · omega
  · exact own_xlt (n := 16) (by omega) (by omega)
theorem own_s8L {n : Nat} (h : n < 65536) : own_s8N n < 65536 := by
  unfold own_s8N
  exact own_stL (own_stL (own_stL (own_stL (own_stL (own_stL (own_stL (own_stL h)))))))
theorem own_xc {a b c : Nat} (h : a ^^^ c = b ^^^ c) : a = b := by
  have q := congrArg (· ^^^ c) h
  simpa [Nat.xor_assoc] using q
theorem own_stX (a : Nat) (h : a < 32768) : 32768 ≤ a ^^^ 40961 := by
  have e : (a ^^^ 40961).testBit 15 = true := by
    rw [Nat.testBit_xor, Nat.testBit_lt_two_pow (i := 15) h]; decide
  exact Nat.ge_two_pow_of_testBit e
theorem own_stI {n m : Nat} (hn : n < 65536) (hm : m < 65536) (h : own_stN n = own_stN m) : n = m := by
  unfold own_stN at h
  by_cases h1 : n % 2 = 0 <;> by_cases h2 : m % 2 = 0
  · rw [if_pos h1, if_pos h2] at h; omega
  · rw [if_pos h1, if_neg h2] at h
    have := own_stX (m / 2) (by omega)
    omega
  · rw [if_neg h1, if_pos h2] at h
    have := own_stX (n / 2) (by omega)
    omega
  · rw [if_neg h1, if_neg h2] at h
    have := own_xc h
    omega
theorem own_s8I {n m : Nat} (hn : n < 65536) (hm : m < 65536) (h : own_s8N n = own_s8N m) : n = m := by
  unfold own_s8N at h
  have L := @own_stL
  exact own_stI hn hm (own_stI (L hn) (L hm) (own_stI (L (L hn)) (L (L hm)) (own_stI (L (L (L hn))) (L (L (L hm))) (own_stI (L (L (L (L hn)))) (L (L (L (L hm)))) (own_stI (L (L (L (L (L hn))))) (L (L (L (L (L hm))))) (own_stI (L (L (L (L (L (L hn)))))) (L (L (L (L (L (L hm)))))) (own_stI (L (L (L (L (L (L (L hn))))))) (L (L (L (L (L (L (L hm))))))) h)))))))
theorem own_xd (a b : Nat) : (a ^^^ b) / 2 = a / 2 ^^^ b / 2 := by
  apply Nat.eq_of_testBit_eq
  intro i
  rw [Nat.testBit_xor, Nat.testBit_div_two, Nat.testBit_div_two, Nat.testBit_div_two, Nat.testBit_xor]
theorem own_xm (a b : Nat) : (a ^^^ b) % 2 = (a % 2 + b % 2) % 2 := by
  have e : ∀ x : Nat, x % 2 = (x.testBit 0).toNat := fun x => by rw [Nat.testBit_zero]; have := Nat.mod_two_eq_zero_or_one x; rcases this with h | h <;> simp [h]
  rw [e a, e b, e (a ^^^ b), Nat.testBit_xor]
  cases a.testBit 0 <;> cases b.testBit 0 <;> rfl
theorem own_stN_xor (a b : Nat) : own_stN (a ^^^ b) = own_stN a ^^^ own_stN b := by
  unfold own_stN
  have e := own_xm a b
  have d := own_xd a b
  by_cases h1 : a % 2 = 0 <;> by_cases h2 : b % 2 = 0
  · rw [if_pos h1, if_pos h2, if_pos (by omega), d]
  · rw [if_pos h1, if_neg h2, if_neg (by omega), d, Nat.xor_assoc]
  · rw [if_neg h1, if_pos h2, if_neg (by omega), d, Nat.xor_assoc, Nat.xor_assoc, Nat.xor_comm 40961]
  · rw [if_neg h1, if_neg h2, if_pos (by omega), d, Nat.xor_assoc, ← Nat.xor_assoc 40961, Nat.xor_comm 40961, Nat.xor_assoc (b / 2), Nat.xor_self, Nat.xor_zero]
theorem own_s8X (a b : Nat) : own_s8N (a ^^^ b) = own_s8N a ^^^ own_s8N b := by
  unfold own_s8N
  simp only [own_stN_xor]
theorem own_s8z : ∀ d, d < 256 → own_s8N d < 256 → d = 0 := by decide +kernel
theorem own_x0 {a b : Nat} (h : a ^^^ b = 0) : a = b := own_xc (c := b) (by rw [h, Nat.xor_self])
theorem own_pair {c a b a' b' : Nat} (hc : c < 65536) (ha : a < 256) (hb : b < 256) (ha' : a' < 256) (hb' : b' < 256) (h : own_s8N (own_s8N (c ^^^ a) ^^^ b) = own_s8N (own_s8N (c ^^^ a') ^^^ b')) : a = a' ∧ b = b' := by
  have L : ∀ {x y : Nat}, x < 65536 → y < 256 → x ^^^ y < 65536 := fun hx hy => own_xlt (n := 16) hx (by omega)
  have h1 := own_s8I (L (own_s8L (L hc ha)) hb) (L (own_s8L (L hc ha')) hb') h
  rw [own_s8X, own_s8X, Nat.xor_assoc, Nat.xor_assoc, Nat.xor_comm (own_s8N c), Nat.xor_comm (own_s8N c)] at h1
  have h2 := own_xc h1
  have h3 : own_s8N (a ^^^ a') = b ^^^ b' := by
    rw [own_s8X]
    apply own_xc (c := own_s8N a' ^^^ b)
    calc own_s8N a ^^^ own_s8N a' ^^^ (own_s8N a' ^^^ b) = own_s8N a ^^^ b := by
            rw [Nat.xor_assoc, ← Nat.xor_assoc (own_s8N a'), Nat.xor_self, Nat.zero_xor]
      _ = own_s8N a' ^^^ b' := h2
      _ = b ^^^ b' ^^^ (own_s8N a' ^^^ b) := by
            rw [Nat.xor_comm b b', Nat.xor_comm (own_s8N a') b, Nat.xor_assoc, ← Nat.xor_assoc b, Nat.xor_self, Nat.zero_xor, Nat.xor_comm]
  have h4 := own_s8z (a ^^^ a') (own_xlt (n := 8) ha ha') (by rw [h3]; exact own_xlt (n := 8) hb hb')
  have h5 := own_x0 h4
  rw [h4] at h3
  exact ⟨h5, own_x0 (h3.symm.trans (by decide))⟩
theorem own_cfL {c : Nat} {bs : List Nat} (hc : c < 65536) (hb : ∀ b ∈ bs, b < 256) : own_cf c bs < 65536 := by
  induction bs generalizing c with
  | nil => exact hc
  | cons b bs ih => exact ih (own_s8L (own_xlt (n := 16) hc (by have := hb b (List.mem_cons_self ..); omega))) fun x hx => hb x (List.mem_cons_of_mem _ hx)
theorem own_cfI {c c' : Nat} {bs : List Nat} (hc : c < 65536) (hc' : c' < 65536) (hb : ∀ b ∈ bs, b < 256) (h : own_cf c bs = own_cf c' bs) : c = c' := by
  induction bs generalizing c c' with
  | nil => exact h
  | cons b bs ih =>
    have L : ∀ {x : Nat}, x < 65536 → x ^^^ b < 65536 := fun hx => own_xlt (n := 16) hx (by have := hb b (List.mem_cons_self ..); omega)
    exact own_xc (own_s8I (L hc) (L hc') (ih (own_s8L (L hc)) (own_s8L (L hc')) (fun x hx => hb x (List.mem_cons_of_mem _ hx)) h))
theorem own_cfP {c a b a' b' : Nat} {us ws : List Nat} (hc : c < 65536) (hu : ∀ b ∈ us, b < 256) (hw : ∀ b ∈ ws, b < 256) (ha : a < 256) (hb : b < 256) (ha' : a' < 256) (hb' : b' < 256) (h : own_cf c (us ++ a :: b :: ws) = own_cf c (us ++ a' :: b' :: ws)) : a = a' ∧ b = b' := by
  unfold own_cf at h
  rw [List.foldl_append, List.foldl_append, List.foldl_cons, List.foldl_cons, List.foldl_cons, List.foldl_cons] at h
  have hd := own_cfL hc hu
  have L : ∀ {x y : Nat}, x < 65536 → y < 256 → x ^^^ y < 65536 := fun hx hy => own_xlt (n := 16) hx (by omega)
  exact own_pair hd ha hb ha' hb' (own_cfI (own_s8L (L (own_s8L (L hd ha)) hb)) (own_s8L (L (own_s8L (L hd ha')) hb')) hw h)
def own_b0 (n0 n1 : Nat) : Nat := n0 * 8 + n1 / 4
def own_b1 (n1 n2 n3 : Nat) : Nat := n1 % 4 * 64 + n2 * 2 + n3 / 16
def own_b2 (n3 n4 : Nat) : Nat := n3 % 16 * 16 + n4 / 2
def own_b3 (n4 n5 n6 : Nat) : Nat := n4 % 2 * 128 + n5 * 4 + n6 / 8
def own_b4 (n6 n7 : Nat) : Nat := n6 % 8 * 32 + n7
theorem own_b0L {n0 n1 : Nat} (h0 : n0 < 32) (h1 : n1 < 32) : own_b0 n0 n1 < 256 := by unfold own_b0; omega
theorem own_b1L {n1 n2 n3 : Nat} (h1 : n1 < 32) (h2 : n2 < 32) (h3 : n3 < 32) : own_b1 n1 n2 n3 < 256 := by unfold own_b1; omega
theorem own_b2L {n3 n4 : Nat} (h3 : n3 < 32) (h4 : n4 < 32) : own_b2 n3 n4 < 256 := by unfold own_b2; omega
theorem own_b3L {n4 n5 n6 : Nat} (h4 : n4 < 32) (h5 : n5 < 32) (h6 : n6 < 32) : own_b3 n4 n5 n6 < 256 := by unfold own_b3; omega
theorem own_b4L {n6 n7 : Nat} (h6 : n6 < 32) (h7 : n7 < 32) : own_b4 n6 n7 < 256 := by unfold own_b4; omega
theorem own_dec8 {v i0 i1 i2 i3 i4 i5 i6 i7 : Int32} (hv : own_N v = 0) (h0 : own_N i0 < 32) (h1 : own_N i1 < 32) (h2 : own_N i2 < 32) (h3 : own_N i3 < 32) (h4 : own_N i4 < 32) (h5 : own_N i5 < 32) (h6 : own_N i6 < 32) (h7 : own_N i7 < 32) : own_N (own_y (2 : Int32) (own_q5 (own_q5 v i0) i1)) % 256 = own_b0 (own_N i0) (own_N i1) ∧ own_N (own_y (4 : Int32) (own_q5 (own_q5 (own_mk (3 : Int32) (own_q5 (own_q5 v i0) i1)) i2) i3)) % 256 = own_b1 (own_N i1) (own_N i2) (own_N i3) ∧ own_N (own_y (1 : Int32) (own_q5 (own_mk (15 : Int32) (own_q5 (own_q5 (own_mk (3 : Int32) (own_q5 (own_q5 v i0) i1)) i2) i3)) i4)) % 256 = own_b2 (own_N i3) (own_N i4) ∧ own_N (own_y (3 : Int32) (own_q5 (own_q5 (own_mk (1 : Int32) (own_q5 (own_mk (15 : Int32) (own_q5 (own_q5 (own_mk (3 : Int32) (own_q5 (own_q5 v i0) i1)) i2) i3)) i4)) i5) i6)) % 256 = own_b3 (own_N i4) (own_N i5) (own_N i6) ∧ own_N (own_y (0 : Int32) (own_q5 (own_mk (7 : Int32) (own_q5 (own_q5 (own_mk (1 : Int32) (own_q5 (own_mk (15 : Int32) (own_q5 (own_q5 (own_mk (3 : Int32) (own_q5 (own_q5 v i0) i1)) i2) i3)) i4)) i5) i6)) i7)) % 256 = own_b4 (own_N i6) (own_N i7) ∧ own_N (own_mk (0 : Int32) (own_q5 (own_mk (7 : Int32) (own_q5 (own_q5 (own_mk (1 : Int32) (own_q5 (own_mk (15 : Int32) (own_q5 (own_q5 (own_mk (3 : Int32) (own_q5 (own_q5 v i0) i1)) i2) i3)) i4)) i5) i6)) i7)) = 0 := by
  have a : own_N v = 0 := hv
  have c1 := own_q5N (v := v) (i := i0) (by omega) h0
  have c2 := own_q5N (v := (own_q5 v i0)) (i := i1) (by omega) h1
  have y0 := own_yN 2 (k := (2 : Int32)) (by decide) (own_q5 (own_q5 v i0) i1)
  have m1 : own_N (own_mk (3 : Int32) (own_q5 (own_q5 v i0) i1)) = own_N (own_q5 (own_q5 v i0) i1) % 2 ^ 2 := own_Nmk 2 (by decide) (own_q5 (own_q5 v i0) i1)
  have c3 := own_q5N (v := (own_mk (3 : Int32) (own_q5 (own_q5 v i0) i1))) (i := i2) (by omega) h2
  have c4 := own_q5N (v := (own_q5 (own_mk (3 : Int32) (own_q5 (own_q5 v i0) i1)) i2)) (i := i3) (by omega) h3
  have y1 := own_yN 4 (k := (4 : Int32)) (by decide) (own_q5 (own_q5 (own_mk (3 : Int32) (own_q5 (own_q5 v i0) i1)) i2) i3)
  have m2 : own_N (own_mk (15 : Int32) (own_q5 (own_q5 (own_mk (3 : Int32) (own_q5 (own_q5 v i0) i1)) i2) i3)) = own_N (own_q5 (own_q5 (own_mk (3 : Int32) (own_q5 (own_q5 v i0) i1)) i2) i3) % 2 ^ 4 := own_Nmk 4 (by decide) (own_q5 (own_q5 (own_mk (3 : Int32) (own_q5 (own_q5 v i0) i1)) i2) i3)
  have c5 := own_q5N (v := (own_mk (15 : Int32) (own_q5 (own_q5 (own_mk (3 : Int32) (own_q5 (own_q5 v i0) i1)) i2) i3))) (i := i4) (by omega) h4
  have y2 := own_yN 1 (k := (1 : Int32)) (by decide) (own_q5 (own_mk (15 : Int32) (own_q5 (own_q5 (own_mk (3 : Int32) (own_q5 (own_q5 v i0) i1)) i2) i3)) i4)
  have m3 : own_N (own_mk (1 : Int32) (own_q5 (own_mk (15 : Int32) (own_q5 (own_q5 (own_mk (3 : Int32) (own_q5 (own_q5 v i0) i1)) i2) i3)) i4)) = own_N (own_q5 (own_mk (15 : Int32) (own_q5 (own_q5 (own_mk (3 : Int32) (own_q5 (own_q5 v i0) i1)) i2) i3)) i4) % 2 ^ 1 := own_Nmk 1 (by decide) (own_q5 (own_mk (15 : Int32) (own_q5 (own_q5 (own_mk (3 : Int32) (own_q5 (own_q5 v i0) i1)) i2) i3)) i4)
  have c6 := own_q5N (v := (own_mk (1 : Int32) (own_q5 (own_mk (15 : Int32) (own_q5 (own_q5 (own_mk (3 : Int32) (own_q5 (own_q5 v i0) i1)) i2) i3)) i4))) (i := i5) (by omega) h5
  have c7 := own_q5N (v := (own_q5 (own_mk (1 : Int32) (own_q5 (own_mk (15 : Int32) (own_q5 (own_q5 (own_mk (3 : Int32) (own_q5 (own_q5 v i0) i1)) i2) i3)) i4)) i5)) (i := i6) (by omega) h6
  have y3 := own_yN 3 (k := (3 : Int32)) (by decide) (own_q5 (own_q5 (own_mk (1 : Int32) (own_q5 (own_mk (15 : Int32) (own_q5 (own_q5 (own_mk (3 : Int32) (own_q5 (own_q5 v i0) i1)) i2) i3)) i4)) i5) i6)
  have m4 : own_N (own_mk (7 : Int32) (own_q5 (own_q5 (own_mk (1 : Int32) (own_q5 (own_mk (15 : Int32) (own_q5 (own_q5 (own_mk (3 : Int32) (own_q5 (own_q5 v i0) i1)) i2) i3)) i4)) i5) i6)) = own_N (own_q5 (own_q5 (own_mk (1 : Int32) (own_q5 (own_mk (15 : Int32) (own_q5 (own_q5 (own_mk (3 : Int32) (own_q5 (own_q5 v i0) i1)) i2) i3)) i4)) i5) i6) % 2 ^ 3 := own_Nmk 3 (by decide) (own_q5 (own_q5 (own_mk (1 : Int32) (own_q5 (own_mk (15 : Int32) (own_q5 (own_q5 (own_mk (3 : Int32) (own_q5 (own_q5 v i0) i1)) i2) i3)) i4)) i5) i6)
  have c8 := own_q5N (v := (own_mk (7 : Int32) (own_q5 (own_q5 (own_mk (1 : Int32) (own_q5 (own_mk (15 : Int32) (own_q5 (own_q5 (own_mk (3 : Int32) (own_q5 (own_q5 v i0) i1)) i2) i3)) i4)) i5) i6))) (i := i7) (by omega) h7
  have y4 := own_yN 0 (k := (0 : Int32)) (by decide) (own_q5 (own_mk (7 : Int32) (own_q5 (own_q5 (own_mk (1 : Int32) (own_q5 (own_mk (15 : Int32) (own_q5 (own_q5 (own_mk (3 : Int32) (own_q5 (own_q5 v i0) i1)) i2) i3)) i4)) i5) i6)) i7)
  have m5 : own_N (own_mk (0 : Int32) (own_q5 (own_mk (7 : Int32) (own_q5 (own_q5 (own_mk (1 : Int32) (own_q5 (own_mk (15 : Int32) (own_q5 (own_q5 (own_mk (3 : Int32) (own_q5 (own_q5 v i0) i1)) i2) i3)) i4)) i5) i6)) i7)) = own_N (own_q5 (own_mk (7 : Int32) (own_q5 (own_q5 (own_mk (1 : Int32) (own_q5 (own_mk (15 : Int32) (own_q5 (own_q5 (own_mk (3 : Int32) (own_q5 (own_q5 v i0) i1)) i2) i3)) i4)) i5) i6)) i7) % 2 ^ 0 := own_Nmk 0 (by decide) (own_q5 (own_mk (7 : Int32) (own_q5 (own_q5 (own_mk (1 : Int32) (own_q5 (own_mk (15 : Int32) (own_q5 (own_q5 (own_mk (3 : Int32) (own_q5 (own_q5 v i0) i1)) i2) i3)) i4)) i5) i6)) i7)
  simp only [Nat.reducePow] at *
  unfold own_b0 own_b1 own_b2 own_b3 own_b4
  refine ⟨?_, ?_, ?_, ?_, ?_, ?_⟩ <;> omega
theorem own_dec4 {v i0 i1 i2 i3 : Int32} (hv : own_N v = 0) (h0 : own_N i0 < 32) (h1 : own_N i1 < 32) (h2 : own_N i2 < 32) (h3 : own_N i3 < 32) : own_N (own_y (2 : Int32) (own_q5 (own_q5 v i0) i1)) % 256 = own_b0 (own_N i0) (own_N i1) ∧ own_N (own_y (4 : Int32) (own_q5 (own_q5 (own_mk (3 : Int32) (own_q5 (own_q5 v i0) i1)) i2) i3)) % 256 = own_b1 (own_N i1) (own_N i2) (own_N i3) ∧ own_N (own_mk (15 : Int32) (own_q5 (own_q5 (own_mk (3 : Int32) (own_q5 (own_q5 v i0) i1)) i2) i3)) = own_N i3 % 16 := by
  have a : own_N v = 0 := hv
  have c1 := own_q5N (v := v) (i := i0) (by omega) h0
  have c2 := own_q5N (v := (own_q5 v i0)) (i := i1) (by omega) h1
  have y0 := own_yN 2 (k := (2 : Int32)) (by decide) (own_q5 (own_q5 v i0) i1)
  have m1 : own_N (own_mk (3 : Int32) (own_q5 (own_q5 v i0) i1)) = own_N (own_q5 (own_q5 v i0) i1) % 2 ^ 2 := own_Nmk 2 (by decide) (own_q5 (own_q5 v i0) i1)
  have c3 := own_q5N (v := (own_mk (3 : Int32) (own_q5 (own_q5 v i0) i1))) (i := i2) (by omega) h2
  have c4 := own_q5N (v := (own_q5 (own_mk (3 : Int32) (own_q5 (own_q5 v i0) i1)) i2)) (i := i3) (by omega) h3
  have y1 := own_yN 4 (k := (4 : Int32)) (by decide) (own_q5 (own_q5 (own_mk (3 : Int32) (own_q5 (own_q5 v i0) i1)) i2) i3)
  have m2 : own_N (own_mk (15 : Int32) (own_q5 (own_q5 (own_mk (3 : Int32) (own_q5 (own_q5 v i0) i1)) i2) i3)) = own_N (own_q5 (own_q5 (own_mk (3 : Int32) (own_q5 (own_q5 v i0) i1)) i2) i3) % 2 ^ 4 := own_Nmk 4 (by decide) (own_q5 (own_q5 (own_mk (3 : Int32) (own_q5 (own_q5 v i0) i1)) i2) i3)
  simp only [Nat.reducePow] at *
  unfold own_b0 own_b1
  refine ⟨?_, ?_, ?_⟩ <;> omega
theorem own_e5 {v x0 x1 x2 x3 x4 : Int32} (hv : own_N v = 0) : own_N (own_g (3 : Int32) (own_p8 v x0)) = (own_N x0 % 256) / 8 ∧ own_N (own_g (6 : Int32) (own_p8 (own_mk (7 : Int32) (own_p8 v x0)) x1)) = (own_N x0 % 256) % 8 * 4 + (own_N x1 % 256) / 64 ∧ own_N (own_g (1 : Int32) (own_p8 (own_mk (7 : Int32) (own_p8 v x0)) x1)) = (own_N x1 % 256) / 2 % 32 ∧ own_N (own_g (4 : Int32) (own_p8 (own_mk (1 : Int32) (own_p8 (own_mk (7 : Int32) (own_p8 v x0)) x1)) x2)) = (own_N x1 % 256) % 2 * 16 + (own_N x2 % 256) / 16 ∧ own_N (own_g (7 : Int32) (own_p8 (own_mk (15 : Int32) (own_p8 (own_mk (1 : Int32) (own_p8 (own_mk (7 : Int32) (own_p8 v x0)) x1)) x2)) x3)) = (own_N x2 % 256) % 16 * 2 + (own_N x3 % 256) / 128 ∧ own_N (own_g (2 : Int32) (own_p8 (own_mk (15 : Int32) (own_p8 (own_mk (1 : Int32) (own_p8 (own_mk (7 : Int32) (own_p8 v x0)) x1)) x2)) x3)) = (own_N x3 % 256) / 4 % 32 ∧ own_N (own_g (5 : Int32) (own_p8 (own_mk (3 : Int32) (own_p8 (own_mk (15 : Int32) (own_p8 (own_mk (1 : Int32) (own_p8 (own_mk (7 : Int32) (own_p8 v x0)) x1)) x2)) x3)) x4)) = (own_N x3 % 256) % 4 * 8 + (own_N x4 % 256) / 32 ∧ own_N (own_g (0 : Int32) (own_p8 (own_mk (3 : Int32) (own_p8 (own_mk (15 : Int32) (own_p8 (own_mk (1 : Int32) (own_p8 (own_mk (7 : Int32) (own_p8 v x0)) x1)) x2)) x3)) x4)) = (own_N x4 % 256) % 32 ∧ own_N (own_mk (0 : Int32) (own_p8 (own_mk (3 : Int32) (own_p8 (own_mk (15 : Int32) (own_p8 (own_mk (1 : Int32) (own_p8 (own_mk (7 : Int32) (own_p8 v x0)) x1)) x2)) x3)) x4)) = 0 := by
  have c0 := own_p8N (v := v) (b := x0) (by omega)
  have g0 := own_gN 3 (k := (3 : Int32)) (by decide) (own_p8 v x0)
  have m0 : own_N (own_mk (7 : Int32) (own_p8 v x0)) = own_N (own_p8 v x0) % 2 ^ 3 := own_Nmk 3 (by decide) (own_p8 v x0)
  have c1 := own_p8N (v := (own_mk (7 : Int32) (own_p8 v x0))) (b := x1) (by omega)
  have g1 := own_gN 6 (k := (6 : Int32)) (by decide) (own_p8 (own_mk (7 : Int32) (own_p8 v x0)) x1)
  have g2 := own_gN 1 (k := (1 : Int32)) (by decide) (own_p8 (own_mk (7 : Int32) (own_p8 v x0)) x1)
  have m1 : own_N (own_mk (1 : Int32) (own_p8 (own_mk (7 : Int32) (own_p8 v x0)) x1)) = own_N (own_p8 (own_mk (7 : Int32) (own_p8 v x0)) x1) % 2 ^ 1 := own_Nmk 1 (by decide) (own_p8 (own_mk (7 : Int32) (own_p8 v x0)) x1)
  have c2 := own_p8N (v := (own_mk (1 : Int32) (own_p8 (own_mk (7 : Int32) (own_p8 v x0)) x1))) (b := x2) (by omega)
  have g3 := own_gN 4 (k := (4 : Int32)) (by decide) (own_p8 (own_mk (1 : Int32) (own_p8 (own_mk (7 : Int32) (own_p8 v x0)) x1)) x2)
  have m2 : own_N (own_mk (15 : Int32) (own_p8 (own_mk (1 : Int32) (own_p8 (own_mk (7 : Int32) (own_p8 v x0)) x1)) x2)) = own_N (own_p8 (own_mk (1 : Int32) (own_p8 (own_mk (7 : Int32) (own_p8 v x0)) x1)) x2) % 2 ^ 4 := own_Nmk 4 (by decide) (own_p8 (own_mk (1 : Int32) (own_p8 (own_mk (7 : Int32) (own_p8 v x0)) x1)) x2)
  have c3 := own_p8N (v := (own_mk (15 : Int32) (own_p8 (own_mk (1 : Int32) (own_p8 (own_mk (7 : Int32) (own_p8 v x0)) x1)) x2))) (b := x3) (by omega)
  have g4 := own_gN 7 (k := (7 : Int32)) (by decide) (own_p8 (own_mk (15 : Int32) (own_p8 (own_mk (1 : Int32) (own_p8 (own_mk (7 : Int32) (own_p8 v x0)) x1)) x2)) x3)
  have g5 := own_gN 2 (k := (2 : Int32)) (by decide) (own_p8 (own_mk (15 : Int32) (own_p8 (own_mk (1 : Int32) (own_p8 (own_mk (7 : Int32) (own_p8 v x0)) x1)) x2)) x3)
  have m3 : own_N (own_mk (3 : Int32) (own_p8 (own_mk (15 : Int32) (own_p8 (own_mk (1 : Int32) (own_p8 (own_mk (7 : Int32) (own_p8 v x0)) x1)) x2)) x3)) = own_N (own_p8 (own_mk (15 : Int32) (own_p8 (own_mk (1 : Int32) (own_p8 (own_mk (7 : Int32) (own_p8 v x0)) x1)) x2)) x3) % 2 ^ 2 := own_Nmk 2 (by decide) (own_p8 (own_mk (15 : Int32) (own_p8 (own_mk (1 : Int32) (own_p8 (own_mk (7 : Int32) (own_p8 v x0)) x1)) x2)) x3)
  have c4 := own_p8N (v := (own_mk (3 : Int32) (own_p8 (own_mk (15 : Int32) (own_p8 (own_mk (1 : Int32) (own_p8 (own_mk (7 : Int32) (own_p8 v x0)) x1)) x2)) x3))) (b := x4) (by omega)
  have g6 := own_gN 5 (k := (5 : Int32)) (by decide) (own_p8 (own_mk (3 : Int32) (own_p8 (own_mk (15 : Int32) (own_p8 (own_mk (1 : Int32) (own_p8 (own_mk (7 : Int32) (own_p8 v x0)) x1)) x2)) x3)) x4)
  have g7 := own_gN 0 (k := (0 : Int32)) (by decide) (own_p8 (own_mk (3 : Int32) (own_p8 (own_mk (15 : Int32) (own_p8 (own_mk (1 : Int32) (own_p8 (own_mk (7 : Int32) (own_p8 v x0)) x1)) x2)) x3)) x4)
  have m4 : own_N (own_mk (0 : Int32) (own_p8 (own_mk (3 : Int32) (own_p8 (own_mk (15 : Int32) (own_p8 (own_mk (1 : Int32) (own_p8 (own_mk (7 : Int32) (own_p8 v x0)) x1)) x2)) x3)) x4)) = own_N (own_p8 (own_mk (3 : Int32) (own_p8 (own_mk (15 : Int32) (own_p8 (own_mk (1 : Int32) (own_p8 (own_mk (7 : Int32) (own_p8 v x0)) x1)) x2)) x3)) x4) % 2 ^ 0 := own_Nmk 0 (by decide) (own_p8 (own_mk (3 : Int32) (own_p8 (own_mk (15 : Int32) (own_p8 (own_mk (1 : Int32) (own_p8 (own_mk (7 : Int32) (own_p8 v x0)) x1)) x2)) x3)) x4)
  simp only [Nat.reducePow] at *
  refine ⟨?_, ?_, ?_, ?_, ?_, ?_, ?_, ?_, ?_⟩ <;> omega
theorem own_e2 {v x0 x1 : Int32} (hv : own_N v = 0) : own_N (own_g (3 : Int32) (own_p8 v x0)) = (own_N x0 % 256) / 8 ∧ own_N (own_g (6 : Int32) (own_p8 (own_mk (7 : Int32) (own_p8 v x0)) x1)) = (own_N x0 % 256) % 8 * 4 + (own_N x1 % 256) / 64 ∧ own_N (own_g (1 : Int32) (own_p8 (own_mk (7 : Int32) (own_p8 v x0)) x1)) = (own_N x1 % 256) / 2 % 32 ∧ own_N (own_g4 (own_mk (1 : Int32) (own_p8 (own_mk (7 : Int32) (own_p8 v x0)) x1))) = own_N x1 % 256 % 2 * 16 := by
  have c0 := own_p8N (v := v) (b := x0) (by omega)
  have g0 := own_gN 3 (k := (3 : Int32)) (by decide) (own_p8 v x0)
  have m0 : own_N (own_mk (7 : Int32) (own_p8 v x0)) = own_N (own_p8 v x0) % 2 ^ 3 := own_Nmk 3 (by decide) (own_p8 v x0)
  have c1 := own_p8N (v := (own_mk (7 : Int32) (own_p8 v x0))) (b := x1) (by omega)
  have g1 := own_gN 6 (k := (6 : Int32)) (by decide) (own_p8 (own_mk (7 : Int32) (own_p8 v x0)) x1)
  have g2 := own_gN 1 (k := (1 : Int32)) (by decide) (own_p8 (own_mk (7 : Int32) (own_p8 v x0)) x1)
  have m1 : own_N (own_mk (1 : Int32) (own_p8 (own_mk (7 : Int32) (own_p8 v x0)) x1)) = own_N (own_p8 (own_mk (7 : Int32) (own_p8 v x0)) x1) % 2 ^ 1 := own_Nmk 1 (by decide) (own_p8 (own_mk (7 : Int32) (own_p8 v x0)) x1)
  have g3 := own_g4N (v := (own_mk (1 : Int32) (own_p8 (own_mk (7 : Int32) (own_p8 v x0)) x1))) (by omega)
  simp only [Nat.reducePow] at *
  refine ⟨?_, ?_, ?_, ?_⟩ <;> omega
def own_D (n : Nat → Nat) : Prop := n 19 % 16 = 0 ∧ own_b0 (n 16) (n 17) * 256 + own_b1 (n 17) (n 18) (n 19) = own_cf 0 [own_b0 (n 0) (n 1), own_b1 (n 1) (n 2) (n 3), own_b2 (n 3) (n 4), own_b3 (n 4) (n 5) (n 6), own_b4 (n 6) (n 7), own_b0 (n 8) (n 9), own_b1 (n 9) (n 10) (n 11), own_b2 (n 11) (n 12), own_b3 (n 12) (n 13) (n 14), own_b4 (n 14) (n 15)]
theorem own_Dp {n n' : Nat → Nat} {p : Nat} (hp : p < 20) (h : ∀ i, n i < 32) (h' : ∀ i, n' i < 32) (he : ∀ i, i ≠ p → n i = n' i) (e1 : own_D n) (e2 : own_D n') : n p = n' p := by
  obtain ⟨p1, q1⟩ := e1; obtain ⟨p2, q2⟩ := e2
  have hq : (0 ≤ p ∧ p ≤ 1) ∨ (2 ≤ p ∧ p ≤ 3) ∨ (4 ≤ p ∧ p ≤ 4) ∨ (5 ≤ p ∧ p ≤ 7) ∨ (8 ≤ p ∧ p ≤ 9) ∨ (10 ≤ p ∧ p ≤ 11) ∨ (12 ≤ p ∧ p ≤ 12) ∨ (13 ≤ p ∧ p ≤ 15) ∨ 16 ≤ p := by omega
  rcases hq with hq | hq | hq | hq | hq | hq | hq | hq | hq
  · rw [he 2 (by omega), he 3 (by omega), he 4 (by omega), he 5 (by omega), he 6 (by omega), he 7 (by omega), he 8 (by omega), he 9 (by omega), he 10 (by omega), he 11 (by omega), he 12 (by omega), he 13 (by omega), he 14 (by omega), he 15 (by omega), he 16 (by omega), he 17 (by omega), he 18 (by omega), he 19 (by omega)] at q1
    have q := own_cfP (c := 0) (us := []) (ws := [own_b2 (n' 3) (n' 4), own_b3 (n' 4) (n' 5) (n' 6), own_b4 (n' 6) (n' 7), own_b0 (n' 8) (n' 9), own_b1 (n' 9) (n' 10) (n' 11), own_b2 (n' 11) (n' 12), own_b3 (n' 12) (n' 13) (n' 14), own_b4 (n' 14) (n' 15)]) (by decide) (fun _ q => absurd q List.not_mem_nil) (List.forall_mem_cons.2 ⟨(own_b2L (h' 3) (h' 4)), (List.forall_mem_cons.2 ⟨(own_b3L (h' 4) (h' 5) (h' 6)), (List.forall_mem_cons.2 ⟨(own_b4L (h' 6) (h' 7)), (List.forall_mem_cons.2 ⟨(own_b0L (h' 8) (h' 9)), (List.forall_mem_cons.2 ⟨(own_b1L (h' 9) (h' 10) (h' 11)), (List.forall_mem_cons.2 ⟨(own_b2L (h' 11) (h' 12)), (List.forall_mem_cons.2 ⟨(own_b3L (h' 12) (h' 13) (h' 14)), (List.forall_mem_cons.2 ⟨(own_b4L (h' 14) (h' 15)), (fun _ q => absurd q List.not_mem_nil)⟩)⟩)⟩)⟩)⟩)⟩)⟩)⟩) (own_b0L (h 0) (h 1)) (own_b1L (h 1) (h' 2) (h' 3)) (own_b0L (h' 0) (h' 1)) (own_b1L (h' 1) (h' 2) (h' 3)) (q1.symm.trans q2)
    unfold own_b0 own_b1 at q
    have a0 := h 0; have b0 := h' 0
    have a1 := h 1; have b1 := h' 1
    have ho : p = 0 ∨ p = 1 := by omega
    rcases ho with rfl | rfl
    · have c1 := he 1 (by omega); omega
    · have c0 := he 0 (by omega); omega
  · rw [he 0 (by omega), he 1 (by omega), he 4 (by omega), he 5 (by omega), he 6 (by omega), he 7 (by omega), he 8 (by omega), he 9 (by omega), he 10 (by omega), he 11 (by omega), he 12 (by omega), he 13 (by omega), he 14 (by omega), he 15 (by omega), he 16 (by omega), he 17 (by omega), he 18 (by omega), he 19 (by omega)] at q1
    have q := own_cfP (c := 0) (us := [own_b0 (n' 0) (n' 1)]) (ws := [own_b3 (n' 4) (n' 5) (n' 6), own_b4 (n' 6) (n' 7), own_b0 (n' 8) (n' 9), own_b1 (n' 9) (n' 10) (n' 11), own_b2 (n' 11) (n' 12), own_b3 (n' 12) (n' 13) (n' 14), own_b4 (n' 14) (n' 15)]) (by decide) (List.forall_mem_cons.2 ⟨(own_b0L (h' 0) (h' 1)), (fun _ q => absurd q List.not_mem_nil)⟩) (List.forall_mem_cons.2 ⟨(own_b3L (h' 4) (h' 5) (h' 6)), (List.forall_mem_cons.2 ⟨(own_b4L (h' 6) (h' 7)), (List.forall_mem_cons.2 ⟨(own_b0L (h' 8) (h' 9)), (List.forall_mem_cons.2 ⟨(own_b1L (h' 9) (h' 10) (h' 11)), (List.forall_mem_cons.2 ⟨(own_b2L (h' 11) (h' 12)), (List.forall_mem_cons.2 ⟨(own_b3L (h' 12) (h' 13) (h' 14)), (List.forall_mem_cons.2 ⟨(own_b4L (h' 14) (h' 15)), (fun _ q => absurd q List.not_mem_nil)⟩)⟩)⟩)⟩)⟩)⟩)⟩) (own_b1L (h' 1) (h 2) (h 3)) (own_b2L (h 3) (h' 4)) (own_b1L (h' 1) (h' 2) (h' 3)) (own_b2L (h' 3) (h' 4)) (q1.symm.trans q2)
    unfold own_b1 own_b2 at q
    have a2 := h 2; have b2 := h' 2
    have a3 := h 3; have b3 := h' 3
    have ho : p = 2 ∨ p = 3 := by omega
    rcases ho with rfl | rfl
    · have c3 := he 3 (by omega); omega
    · have c2 := he 2 (by omega); omega
  · rw [he 0 (by omega), he 1 (by omega), he 2 (by omega), he 3 (by omega), he 5 (by omega), he 6 (by omega), he 7 (by omega), he 8 (by omega), he 9 (by omega), he 10 (by omega), he 11 (by omega), he 12 (by omega), he 13 (by omega), he 14 (by omega), he 15 (by omega), he 16 (by omega), he 17 (by omega), he 18 (by omega), he 19 (by omega)] at q1
    have q := own_cfP (c := 0) (us := [own_b0 (n' 0) (n' 1), own_b1 (n' 1) (n' 2) (n' 3)]) (ws := [own_b4 (n' 6) (n' 7), own_b0 (n' 8) (n' 9), own_b1 (n' 9) (n' 10) (n' 11), own_b2 (n' 11) (n' 12), own_b3 (n' 12) (n' 13) (n' 14), own_b4 (n' 14) (n' 15)]) (by decide) (List.forall_mem_cons.2 ⟨(own_b0L (h' 0) (h' 1)), (List.forall_mem_cons.2 ⟨(own_b1L (h' 1) (h' 2) (h' 3)), (fun _ q => absurd q List.not_mem_nil)⟩)⟩) (List.forall_mem_cons.2 ⟨(own_b4L (h' 6) (h' 7)), (List.forall_mem_cons.2 ⟨(own_b0L (h' 8) (h' 9)), (List.forall_mem_cons.2 ⟨(own_b1L (h' 9) (h' 10) (h' 11)), (List.forall_mem_cons.2 ⟨(own_b2L (h' 11) (h' 12)), (List.forall_mem_cons.2 ⟨(own_b3L (h' 12) (h' 13) (h' 14)), (List.forall_mem_cons.2 ⟨(own_b4L (h' 14) (h' 15)), (fun _ q => absurd q List.not_mem_nil)⟩)⟩)⟩)⟩)⟩)⟩) (own_b2L (h' 3) (h 4)) (own_b3L (h 4) (h' 5) (h' 6)) (own_b2L (h' 3) (h' 4)) (own_b3L (h' 4) (h' 5) (h' 6)) (q1.symm.trans q2)
    unfold own_b2 own_b3 at q
    have a4 := h 4; have b4 := h' 4
    have ho : p = 4 := by omega
    subst ho
    · omega
  · rw [he 0 (by omega), he 1 (by omega), he 2 (by omega), he 3 (by omega), he 4 (by omega), he 8 (by omega), he 9 (by omega), he 10 (by omega), he 11 (by omega), he 12 (by omega), he 13 (by omega), he 14 (by omega), he 15 (by omega), he 16 (by omega), he 17 (by omega), he 18 (by omega), he 19 (by omega)] at q1
    have q := own_cfP (c := 0) (us := [own_b0 (n' 0) (n' 1), own_b1 (n' 1) (n' 2) (n' 3), own_b2 (n' 3) (n' 4)]) (ws := [own_b0 (n' 8) (n' 9), own_b1 (n' 9) (n' 10) (n' 11), own_b2 (n' 11) (n' 12), own_b3 (n' 12) (n' 13) (n' 14), own_b4 (n' 14) (n' 15)]) (by decide) (List.forall_mem_cons.2 ⟨(own_b0L (h' 0) (h' 1)), (List.forall_mem_cons.2 ⟨(own_b1L (h' 1) (h' 2) (h' 3)), (List.forall_mem_cons.2 ⟨(own_b2L (h' 3) (h' 4)), (fun _ q => absurd q List.not_mem_nil)⟩)⟩)⟩) (List.forall_mem_cons.2 ⟨(own_b0L (h' 8) (h' 9)), (List.forall_mem_cons.2 ⟨(own_b1L (h' 9) (h' 10) (h' 11)), (List.forall_mem_cons.2 ⟨(own_b2L (h' 11) (h' 12)), (List.forall_mem_cons.2 ⟨(own_b3L (h' 12) (h' 13) (h' 14)), (List.forall_mem_cons.2 ⟨(own_b4L (h' 14) (h' 15)), (fun _ q => absurd q List.not_mem_nil)⟩)⟩)⟩)⟩)⟩) (own_b3L (h' 4) (h 5) (h 6)) (own_b4L (h 6) (h 7)) (own_b3L (h' 4) (h' 5) (h' 6)) (own_b4L (h' 6) (h' 7)) (q1.symm.trans q2)
    unfold own_b3 own_b4 at q
    have a5 := h 5; have b5 := h' 5
    have a6 := h 6; have b6 := h' 6
    have a7 := h 7; have b7 := h' 7
    have ho : p = 5 ∨ p = 6 ∨ p = 7 := by omega
    rcases ho with rfl | rfl | rfl
    · have c6 := he 6 (by omega); have c7 := he 7 (by omega); omega
    · have c5 := he 5 (by omega); have c7 := he 7 (by omega); omega
    · have c5 := he 5 (by omega); have c6 := he 6 (by omega); omega
  · rw [he 0 (by omega), he 1 (by omega), he 2 (by omega), he 3 (by omega), he 4 (by omega), he 5 (by omega), he 6 (by omega), he 7 (by omega), he 10 (by omega), he 11 (by omega), he 12 (by omega), he 13 (by omega), he 14 (by omega), he 15 (by omega), he 16 (by omega), he 17 (by omega), he 18 (by omega), he 19 (by omega)] at q1
    have q := own_cfP (c := 0) (us := [own_b0 (n' 0) (n' 1), own_b1 (n' 1) (n' 2) (n' 3), own_b2 (n' 3) (n' 4), own_b3 (n' 4) (n' 5) (n' 6), own_b4 (n' 6) (n' 7)]) (ws := [own_b2 (n' 11) (n' 12), own_b3 (n' 12) (n' 13) (n' 14), own_b4 (n' 14) (n' 15)]) (by decide) (List.forall_mem_cons.2 ⟨(own_b0L (h' 0) (h' 1)), (List.forall_mem_cons.2 ⟨(own_b1L (h' 1) (h' 2) (h' 3)), (List.forall_mem_cons.2 ⟨(own_b2L (h' 3) (h' 4)), (List.forall_mem_cons.2 ⟨(own_b3L (h' 4) (h' 5) (h' 6)), (List.forall_mem_cons.2 ⟨(own_b4L (h' 6) (h' 7)), (fun _ q => absurd q List.not_mem_nil)⟩)⟩)⟩)⟩)⟩) (List.forall_mem_cons.2 ⟨(own_b2L (h' 11) (h' 12)), (List.forall_mem_cons.2 ⟨(own_b3L (h' 12) (h' 13) (h' 14)), (List.forall_mem_cons.2 ⟨(own_b4L (h' 14) (h' 15)), (fun _ q => absurd q List.not_mem_nil)⟩)⟩)⟩) (own_b0L (h 8) (h 9)) (own_b1L (h 9) (h' 10) (h' 11)) (own_b0L (h' 8) (h' 9)) (own_b1L (h' 9) (h' 10) (h' 11)) (q1.symm.trans q2)
    unfold own_b0 own_b1 at q
    have a8 := h 8; have b8 := h' 8
    have a9 := h 9; have b9 := h' 9
    have ho : p = 8 ∨ p = 9 := by omega
    rcases ho with rfl | rfl
    · have c9 := he 9 (by omega); omega
    · have c8 := he 8 (by omega); omega
  · rw [he 0 (by omega), he 1 (by omega), he 2 (by omega), he 3 (by omega), he 4 (by omega), he 5 (by omega), he 6 (by omega), he 7 (by omega), he 8 (by omega), he 9 (by omega), he 12 (by omega), he 13 (by omega), he 14 (by omega), he 15 (by omega), he 16 (by omega), he 17 (by omega), he 18 (by omega), he 19 (by omega)] at q1
    have q := own_cfP (c := 0) (us := [own_b0 (n' 0) (n' 1), own_b1 (n' 1) (n' 2) (n' 3), own_b2 (n' 3) (n' 4), own_b3 (n' 4) (n' 5) (n' 6), own_b4 (n' 6) (n' 7), own_b0 (n' 8) (n' 9)]) (ws := [own_b3 (n' 12) (n' 13) (n' 14), own_b4 (n' 14) (n' 15)]) (by decide) (List.forall_mem_cons.2 ⟨(own_b0L (h' 0) (h' 1)), (List.forall_mem_cons.2 ⟨(own_b1L (h' 1) (h' 2) (h' 3)), (List.forall_mem_cons.2 ⟨(own_b2L (h' 3) (h' 4)), (List.forall_mem_cons.2 ⟨(own_b3L (h' 4) (h' 5) (h' 6)), (List.forall_mem_cons.2 ⟨(own_b4L (h' 6) (h' 7)), (List.forall_mem_cons.2 ⟨(own_b0L (h' 8) (h' 9)), (fun _ q => absurd q List.not_mem_nil)⟩)⟩)⟩)⟩)⟩)⟩) (List.forall_mem_cons.2 ⟨(own_b3L (h' 12) (h' 13) (h' 14)), (List.forall_mem_cons.2 ⟨(own_b4L (h' 14) (h' 15)), (fun _ q => absurd q List.not_mem_nil)⟩)⟩) (own_b1L (h' 9) (h 10) (h 11)) (own_b2L (h 11) (h' 12)) (own_b1L (h' 9) (h' 10) (h' 11)) (own_b2L (h' 11) (h' 12)) (q1.symm.trans q2)
    unfold own_b1 own_b2 at q
    have a10 := h 10; have b10 := h' 10
    have a11 := h 11; have b11 := h' 11
    have ho : p = 10 ∨ p = 11 := by omega
    rcases ho with rfl | rfl
    · have c11 := he 11 (by omega); omega
    · have c10 := he 10 (by omega); omega
  · rw [he 0 (by omega), he 1 (by omega), he 2 (by omega), he 3 (by omega), he 4 (by omega), he 5 (by omega), he 6 (by omega), he 7 (by omega), he 8 (by omega), he 9 (by omega), he 10 (by omega), he 11 (by omega), he 13 (by omega), he 14 (by omega), he 15 (by omega), he 16 (by omega), he 17 (by omega), he 18 (by omega), he 19 (by omega)] at q1
    have q := own_cfP (c := 0) (us := [own_b0 (n' 0) (n' 1), own_b1 (n' 1) (n' 2) (n' 3), own_b2 (n' 3) (n' 4), own_b3 (n' 4) (n' 5) (n' 6), own_b4 (n' 6) (n' 7), own_b0 (n' 8) (n' 9), own_b1 (n' 9) (n' 10) (n' 11)]) (ws := [own_b4 (n' 14) (n' 15)]) (by decide) (List.forall_mem_cons.2 ⟨(own_b0L (h' 0) (h' 1)), (List.forall_mem_cons.2 ⟨(own_b1L (h' 1) (h' 2) (h' 3)), (List.forall_mem_cons.2 ⟨(own_b2L (h' 3) (h' 4)), (List.forall_mem_cons.2 ⟨(own_b3L (h' 4) (h' 5) (h' 6)), (List.forall_mem_cons.2 ⟨(own_b4L (h' 6) (h' 7)), (List.forall_mem_cons.2 ⟨(own_b0L (h' 8) (h' 9)), (List.forall_mem_cons.2 ⟨(own_b1L (h' 9) (h' 10) (h' 11)), (fun _ q => absurd q List.not_mem_nil)⟩)⟩)⟩)⟩)⟩)⟩)⟩) (List.forall_mem_cons.2 ⟨(own_b4L (h' 14) (h' 15)), (fun _ q => absurd q List.not_mem_nil)⟩) (own_b2L (h' 11) (h 12)) (own_b3L (h 12) (h' 13) (h' 14)) (own_b2L (h' 11) (h' 12)) (own_b3L (h' 12) (h' 13) (h' 14)) (q1.symm.trans q2)
    unfold own_b2 own_b3 at q
    have a12 := h 12; have b12 := h' 12
    have ho : p = 12 := by omega
    subst ho
    · omega
  · rw [he 0 (by omega), he 1 (by omega), he 2 (by omega), he 3 (by omega), he 4 (by omega), he 5 (by omega), he 6 (by omega), he 7 (by omega), he 8 (by omega), he 9 (by omega), he 10 (by omega), he 11 (by omega), he 12 (by omega), he 16 (by omega), he 17 (by omega), he 18 (by omega), he 19 (by omega)] at q1
    have q := own_cfP (c := 0) (us := [own_b0 (n' 0) (n' 1), own_b1 (n' 1) (n' 2) (n' 3), own_b2 (n' 3) (n' 4), own_b3 (n' 4) (n' 5) (n' 6), own_b4 (n' 6) (n' 7), own_b0 (n' 8) (n' 9), own_b1 (n' 9) (n' 10) (n' 11), own_b2 (n' 11) (n' 12)]) (ws := []) (by decide) (List.forall_mem_cons.2 ⟨(own_b0L (h' 0) (h' 1)), (List.forall_mem_cons.2 ⟨(own_b1L (h' 1) (h' 2) (h' 3)), (List.forall_mem_cons.2 ⟨(own_b2L (h' 3) (h' 4)), (List.forall_mem_cons.2 ⟨(own_b3L (h' 4) (h' 5) (h' 6)), (List.forall_mem_cons.2 ⟨(own_b4L (h' 6) (h' 7)), (List.forall_mem_cons.2 ⟨(own_b0L (h' 8) (h' 9)), (List.forall_mem_cons.2 ⟨(own_b1L (h' 9) (h' 10) (h' 11)), (List.forall_mem_cons.2 ⟨(own_b2L (h' 11) (h' 12)), (fun _ q => absurd q List.not_mem_nil)⟩)⟩)⟩)⟩)⟩)⟩)⟩)⟩) (fun _ q => absurd q List.not_mem_nil) (own_b3L (h' 12) (h 13) (h 14)) (own_b4L (h 14) (h 15)) (own_b3L (h' 12) (h' 13) (h' 14)) (own_b4L (h' 14) (h' 15)) (q1.symm.trans q2)
    unfold own_b3 own_b4 at q
    have a13 := h 13; have b13 := h' 13
    have a14 := h 14; have b14 := h' 14
    have a15 := h 15; have b15 := h' 15
    have ho : p = 13 ∨ p = 14 ∨ p = 15 := by omega
    rcases ho with rfl | rfl | rfl
    · have c14 := he 14 (by omega); have c15 := he 15 (by omega); omega
    · have c13 := he 13 (by omega); have c15 := he 15 (by omega); omega
    · have c13 := he 13 (by omega); have c14 := he 14 (by omega); omega
  · rw [he 0 (by omega), he 1 (by omega), he 2 (by omega), he 3 (by omega), he 4 (by omega), he 5 (by omega), he 6 (by omega), he 7 (by omega), he 8 (by omega), he 9 (by omega), he 10 (by omega), he 11 (by omega), he 12 (by omega), he 13 (by omega), he 14 (by omega), he 15 (by omega)] at q1
    have q := q1.trans q2.symm
    unfold own_b0 own_b1 at q
    have a16 := h 16; have b16 := h' 16
    have a17 := h 17; have b17 := h' 17
    have a18 := h 18; have b18 := h' 18
    have a19 := h 19; have b19 := h' 19
    have ho : p = 16 ∨ p = 17 ∨ p = 18 ∨ p = 19 := by omega
    rcases ho with rfl | rfl | rfl | rfl
    · have c17 := he 17 (by omega); have c18 := he 18 (by omega); have c19 := he 19 (by omega); omega
    · have c16 := he 16 (by omega); have c18 := he 18 (by omega); have c19 := he 19 (by omega); omega
    · have c16 := he 16 (by omega); have c17 := he 17 (by omega); have c19 := he 19 (by omega); omega
    · have c16 := he 16 (by omega); have c17 := he 17 (by omega); have c18 := he 18 (by omega); omega
def own_okF (y : Nat → Int32) : Prop := own_ok (y 0) (y 1) (y 2) (y 3) (y 4) (y 5) (y 6) (y 7) (y 8) (y 9) (y 10) (y 11) (y 12) (y 13) (y 14) (y 15) (y 16) (y 17) (y 18) (y 19) (y 20) (y 21) (y 22)
def own_ps (i : Nat) : Nat := i + i / 5
theorem own_l8 (y : Int32) : own_N (own_lc y) < 256 := by rw [own_lcN]; omega
def own_ni (y : Nat → Int32) (i : Nat) : Nat := own_N (own_ix (own_lc (y (own_ps i)))) % 32
theorem own_okI {y : Nat → Int32} : own_okF y ↔ (own_lc (y 5) = (45 : Int32) ∧ own_lc (y 11) = (45 : Int32) ∧ own_lc (y 17) = (45 : Int32)) ∧ (∀ i, i < 20 → ¬ (own_ix (own_lc (y (own_ps i))) < (0 : Int32))) ∧ own_D (own_ni y) := by
  constructor
  · rintro ⟨a0, a1, a2, a3, a4, a5, a6, a7, a8, a9, a10, a11, a12, a13, a14, a15, a16, a17, a18, a19, a20, a21, a22, e1, e2⟩
    have h0 := (own_ixa (own_l8 (y 0)) a0).2
    have h1 := (own_ixa (own_l8 (y 1)) a1).2
    have h2 := (own_ixa (own_l8 (y 2)) a2).2
    have h3 := (own_ixa (own_l8 (y 3)) a3).2
    have h4 := (own_ixa (own_l8 (y 4)) a4).2
    have h5 := (own_ixa (own_l8 (y 6)) a6).2
    have h6 := (own_ixa (own_l8 (y 7)) a7).2
    have h7 := (own_ixa (own_l8 (y 8)) a8).2
    have h8 := (own_ixa (own_l8 (y 9)) a9).2
    have h9 := (own_ixa (own_l8 (y 10)) a10).2
    have h10 := (own_ixa (own_l8 (y 12)) a12).2
    have h11 := (own_ixa (own_l8 (y 13)) a13).2
    have h12 := (own_ixa (own_l8 (y 14)) a14).2
    have h13 := (own_ixa (own_l8 (y 15)) a15).2
    have h14 := (own_ixa (own_l8 (y 16)) a16).2
    have h15 := (own_ixa (own_l8 (y 18)) a18).2
    have h16 := (own_ixa (own_l8 (y 19)) a19).2
    have h17 := (own_ixa (own_l8 (y 20)) a20).2
    have h18 := (own_ixa (own_l8 (y 21)) a21).2
    have h19 := (own_ixa (own_l8 (y 22)) a22).2
    have n0 : own_ni y 0 = own_N (own_ix (own_lc (y 0))) := Nat.mod_eq_of_lt h0
    have n1 : own_ni y 1 = own_N (own_ix (own_lc (y 1))) := Nat.mod_eq_of_lt h1
    have n2 : own_ni y 2 = own_N (own_ix (own_lc (y 2))) := Nat.mod_eq_of_lt h2
    have n3 : own_ni y 3 = own_N (own_ix (own_lc (y 3))) := Nat.mod_eq_of_lt h3
    have n4 : own_ni y 4 = own_N (own_ix (own_lc (y 4))) := Nat.mod_eq_of_lt h4
    have n5 : own_ni y 5 = own_N (own_ix (own_lc (y 6))) := Nat.mod_eq_of_lt h5
    have n6 : own_ni y 6 = own_N (own_ix (own_lc (y 7))) := Nat.mod_eq_of_lt h6
    have n7 : own_ni y 7 = own_N (own_ix (own_lc (y 8))) := Nat.mod_eq_of_lt h7
    have n8 : own_ni y 8 = own_N (own_ix (own_lc (y 9))) := Nat.mod_eq_of_lt h8
    have n9 : own_ni y 9 = own_N (own_ix (own_lc (y 10))) := Nat.mod_eq_of_lt h9
    have n10 : own_ni y 10 = own_N (own_ix (own_lc (y 12))) := Nat.mod_eq_of_lt h10
    have n11 : own_ni y 11 = own_N (own_ix (own_lc (y 13))) := Nat.mod_eq_of_lt h11
    have n12 : own_ni y 12 = own_N (own_ix (own_lc (y 14))) := Nat.mod_eq_of_lt h12
    have n13 : own_ni y 13 = own_N (own_ix (own_lc (y 15))) := Nat.mod_eq_of_lt h13
    have n14 : own_ni y 14 = own_N (own_ix (own_lc (y 16))) := Nat.mod_eq_of_lt h14
    have n15 : own_ni y 15 = own_N (own_ix (own_lc (y 18))) := Nat.mod_eq_of_lt h15
    have n16 : own_ni y 16 = own_N (own_ix (own_lc (y 19))) := Nat.mod_eq_of_lt h16
    have n17 : own_ni y 17 = own_N (own_ix (own_lc (y 20))) := Nat.mod_eq_of_lt h17
    have n18 : own_ni y 18 = own_N (own_ix (own_lc (y 21))) := Nat.mod_eq_of_lt h18
    have n19 : own_ni y 19 = own_N (own_ix (own_lc (y 22))) := Nat.mod_eq_of_lt h19
    have z0 : own_N (0 : Int32) = 0 := by decide
    obtain ⟨k0, k1, k2, k3, k4, w1⟩ := own_dec8 z0 h0 h1 h2 h3 h4 h5 h6 h7
    obtain ⟨k5, k6, k7, k8, k9, w2⟩ := own_dec8 w1 h8 h9 h10 h11 h12 h13 h14 h15
    obtain ⟨k10, k11, w3⟩ := own_dec4 w2 h16 h17 h18 h19
    refine ⟨⟨a5, a11, a17⟩, fun i hi => ?_, ?_, ?_⟩
    · have q : i = 0 ∨ i = 1 ∨ i = 2 ∨ i = 3 ∨ i = 4 ∨ i = 5 ∨ i = 6 ∨ i = 7 ∨ i = 8 ∨ i = 9 ∨ i = 10 ∨ i = 11 ∨ i = 12 ∨ i = 13 ∨ i = 14 ∨ i = 15 ∨ i = 16 ∨ i = 17 ∨ i = 18 ∨ i = 19 := by omega
      rcases q with rfl | rfl | rfl | rfl | rfl | rfl | rfl | rfl | rfl | rfl | rfl | rfl | rfl | rfl | rfl | rfl | rfl | rfl | rfl | rfl
      · exact a0
      · exact a1
      · exact a2
      · exact a3
      · exact a4
      · exact a6
      · exact a7
      · exact a8
      · exact a9
      · exact a10
      · exact a12
      · exact a13
      · exact a14
      · exact a15
      · exact a16
      · exact a18
      · exact a19
      · exact a20
      · exact a21
      · exact a22
    · rw [n19, ← w3, e1]; decide
    · have q := congrArg own_N e2
      rw [own_fdN, own_crcE, k10, k11, k0, k1, k2, k3, k4, k5, k6, k7, k8, k9] at q
      rw [n0, n1, n2, n3, n4, n5, n6, n7, n8, n9, n10, n11, n12, n13, n14, n15, n16, n17, n18, n19]; exact q
  · rintro ⟨⟨a5, a11, a17⟩, ha, p1, q1⟩
    have a0 : ¬ (own_ix (own_lc (y 0)) < (0 : Int32)) := ha 0 (by decide)
    have a1 : ¬ (own_ix (own_lc (y 1)) < (0 : Int32)) := ha 1 (by decide)
    have a2 : ¬ (own_ix (own_lc (y 2)) < (0 : Int32)) := ha 2 (by decide)
    have a3 : ¬ (own_ix (own_lc (y 3)) < (0 : Int32)) := ha 3 (by decide)
    have a4 : ¬ (own_ix (own_lc (y 4)) < (0 : Int32)) := ha 4 (by decide)
    have a6 : ¬ (own_ix (own_lc (y 6)) < (0 : Int32)) := ha 5 (by decide)
    have a7 : ¬ (own_ix (own_lc (y 7)) < (0 : Int32)) := ha 6 (by decide)
    have a8 : ¬ (own_ix (own_lc (y 8)) < (0 : Int32)) := ha 7 (by decide)
    have a9 : ¬ (own_ix (own_lc (y 9)) < (0 : Int32)) := ha 8 (by decide)
    have a10 : ¬ (own_ix (own_lc (y 10)) < (0 : Int32)) := ha 9 (by decide)
    have a12 : ¬ (own_ix (own_lc (y 12)) < (0 : Int32)) := ha 10 (by decide)
    have a13 : ¬ (own_ix (own_lc (y 13)) < (0 : Int32)) := ha 11 (by decide)
    have a14 : ¬ (own_ix (own_lc (y 14)) < (0 : Int32)) := ha 12 (by decide)
    have a15 : ¬ (own_ix (own_lc (y 15)) < (0 : Int32)) := ha 13 (by decide)
    have a16 : ¬ (own_ix (own_lc (y 16)) < (0 : Int32)) := ha 14 (by decide)
    have a18 : ¬ (own_ix (own_lc (y 18)) < (0 : Int32)) := ha 15 (by decide)
    have a19 : ¬ (own_ix (own_lc (y 19)) < (0 : Int32)) := ha 16 (by decide)
    have a20 : ¬ (own_ix (own_lc (y 20)) < (0 : Int32)) := ha 17 (by decide)
    have a21 : ¬ (own_ix (own_lc (y 21)) < (0 : Int32)) := ha 18 (by decide)
    have a22 : ¬ (own_ix (own_lc (y 22)) < (0 : Int32)) := ha 19 (by decide)
    have h0 := (own_ixa (own_l8 (y 0)) a0).2
    have h1 := (own_ixa (own_l8 (y 1)) a1).2
    have h2 := (own_ixa (own_l8 (y 2)) a2).2
    have h3 := (own_ixa (own_l8 (y 3)) a3).2
    have h4 := (own_ixa (own_l8 (y 4)) a4).2
    have h5 := (own_ixa (own_l8 (y 6)) a6).2
    have h6 := (own_ixa (own_l8 (y 7)) a7).2
    have h7 := (own_ixa (own_l8 (y 8)) a8).2
    have h8 := (own_ixa (own_l8 (y 9)) a9).2
    have h9 := (own_ixa (own_l8 (y 10)) a10).2
    have h10 := (own_ixa (own_l8 (y 12)) a12).2
    have h11 := (own_ixa (own_l8 (y 13)) a13).2
    have h12 := (own_ixa (own_l8 (y 14)) a14).2
    have h13 := (own_ixa (own_l8 (y 15)) a15).2
    have h14 := (own_ixa (own_l8 (y 16)) a16).2
    have h15 := (own_ixa (own_l8 (y 18)) a18).2
    have h16 := (own_ixa (own_l8 (y 19)) a19).2
    have h17 := (own_ixa (own_l8 (y 20)) a20).2
    have h18 := (own_ixa (own_l8 (y 21)) a21).2
    have h19 := (own_ixa (own_l8 (y 22)) a22).2
    have n0 : own_ni y 0 = own_N (own_ix (own_lc (y 0))) := Nat.mod_eq_of_lt h0
    have n1 : own_ni y 1 = own_N (own_ix (own_lc (y 1))) := Nat.mod_eq_of_lt h1
    have n2 : own_ni y 2 = own_N (own_ix (own_lc (y 2))) := Nat.mod_eq_of_lt h2
    have n3 : own_ni y 3 = own_N (own_ix (own_lc (y 3))) := Nat.mod_eq_of_lt h3
    have n4 : own_ni y 4 = own_N (own_ix (own_lc (y 4))) := Nat.mod_eq_of_lt h4
    have n5 : own_ni y 5 = own_N (own_ix (own_lc (y 6))) := Nat.mod_eq_of_lt h5
    have n6 : own_ni y 6 = own_N (own_ix (own_lc (y 7))) := Nat.mod_eq_of_lt h6
    have n7 : own_ni y 7 = own_N (own_ix (own_lc (y 8))) := Nat.mod_eq_of_lt h7
    have n8 : own_ni y 8 = own_N (own_ix (own_lc (y 9))) := Nat.mod_eq_of_lt h8
    have n9 : own_ni y 9 = own_N (own_ix (own_lc (y 10))) := Nat.mod_eq_of_lt h9
    have n10 : own_ni y 10 = own_N (own_ix (own_lc (y 12))) := Nat.mod_eq_of_lt h10
    have n11 : own_ni y 11 = own_N (own_ix (own_lc (y 13))) := Nat.mod_eq_of_lt h11
    have n12 : own_ni y 12 = own_N (own_ix (own_lc (y 14))) := Nat.mod_eq_of_lt h12
    have n13 : own_ni y 13 = own_N (own_ix (own_lc (y 15))) := Nat.mod_eq_of_lt h13
    have n14 : own_ni y 14 = own_N (own_ix (own_lc (y 16))) := Nat.mod_eq_of_lt h14
    have n15 : own_ni y 15 = own_N (own_ix (own_lc (y 18))) := Nat.mod_eq_of_lt h15
    have n16 : own_ni y 16 = own_N (own_ix (own_lc (y 19))) := Nat.mod_eq_of_lt h16
    have n17 : own_ni y 17 = own_N (own_ix (own_lc (y 20))) := Nat.mod_eq_of_lt h17
    have n18 : own_ni y 18 = own_N (own_ix (own_lc (y 21))) := Nat.mod_eq_of_lt h18
    have n19 : own_ni y 19 = own_N (own_ix (own_lc (y 22))) := Nat.mod_eq_of_lt h19
    have z0 : own_N (0 : Int32) = 0 := by decide
    obtain ⟨k0, k1, k2, k3, k4, w1⟩ := own_dec8 z0 h0 h1 h2 h3 h4 h5 h6 h7
    obtain ⟨k5, k6, k7, k8, k9, w2⟩ := own_dec8 w1 h8 h9 h10 h11 h12 h13 h14 h15
    obtain ⟨k10, k11, w3⟩ := own_dec4 w2 h16 h17 h18 h19
    refine ⟨a0, a1, a2, a3, a4, a5, a6, a7, a8, a9, a10, a11, a12, a13, a14, a15, a16, a17, a18, a19, a20, a21, a22, ?_, ?_⟩
    · apply own_Ni; rw [w3, ← n19, p1]; rfl
    · apply own_Ni
      rw [own_fdN, own_crcE, k10, k11, k0, k1, k2, k3, k4, k5, k6, k7, k8, k9]
      rw [n0, n1, n2, n3, n4, n5, n6, n7, n8, n9, n10, n11, n12, n13, n14, n15, n16, n17, n18, n19] at q1; exact q1
theorem own_one {y w : Nat → Int32} {p : Nat} (hp : p < 23) (he : ∀ i, i ≠ p → own_lc (y i) = own_lc (w i)) (e1 : own_okF y) (e2 : own_okF w) : own_lc (y p) = own_lc (w p) := by
  obtain ⟨⟨a1, a2, a3⟩, h1, d1⟩ := own_okI.1 e1
  obtain ⟨⟨b1, b2, b3⟩, h2, d2⟩ := own_okI.1 e2
  by_cases hd : p % 6 = 5
  · have ho : p = 5 ∨ p = 11 ∨ p = 17 := by omega
    rcases ho with rfl | rfl | rfl
    · rw [a1, b1]
    · rw [a2, b2]
    · rw [a3, b3]
  · obtain ⟨i, hi, rfl⟩ : ∃ i, i < 20 ∧ p = own_ps i := ⟨p - p / 6, by omega, by unfold own_ps; omega⟩
    have q := own_Dp hi (fun _ => Nat.mod_lt _ (by decide)) (fun _ => Nat.mod_lt _ (by decide)) (fun j hj => by
      have q := he (own_ps j) (by unfold own_ps; omega)
      show own_N (own_ix (own_lc (y (own_ps j)))) % 32 = _
      rw [q]) d1 d2
    have c1 := own_ixa (own_l8 (y (own_ps i))) (h1 i hi)
    have c2 := own_ixa (own_l8 (w (own_ps i))) (h2 i hi)
    unfold own_ni at q
    rw [Nat.mod_eq_of_lt c1.2, Nat.mod_eq_of_lt c2.2] at q
    rw [← c1.1, ← c2.1, own_Ni q]
theorem own_okc {y w : Nat → Int32} (h : ∀ i, own_lc (y i) = own_lc (w i)) (e : own_okF y) : own_okF w := by
  rw [own_okI] at e ⊢
  have q : own_ni w = own_ni y := by funext i; unfold own_ni; rw [h]
  rw [q]
  simp only [← h]
  exact e
theorem own_l32 {g : Int32} {t : Nat} (e : own_N g = t) (h : t < 32) : own_N g < 32 := e ▸ h
def own_tj (n j : Nat) (c k : Int32) : Int32 := if n = j then c else k
theorem own_k8 (y : Int32) : own_N (own_k y) < 256 := by rw [own_kl]; exact own_l8 y
theorem own_kk (y : Int32) : own_lc (own_lt (own_k y)) = own_lc y := by rw [own_lclt (own_k8 y), own_kl]
theorem own_tj8 {n j : Nat} {c y : Int32} (hc : own_N c < 256) : own_N (own_tj n j c (own_k y)) < 256 := by unfold own_tj; split; exact hc; exact own_k8 y
theorem own_lcc {c : Int32} (hc : own_N c < 256) : own_lc c = c := own_Ni (by rw [own_lcN, Nat.mod_eq_of_lt hc])
theorem own_tjk {n j : Nat} {c y : Int32} (hc : own_N c < 256) : own_lc (own_lt (own_tj n j c (own_k y))) = own_lc (own_tj n j c y) := by
  rw [own_lclt (own_tj8 hc)]
  unfold own_tj
  split
  · exact (own_lcc hc).symm
  · exact own_kl y
theorem own_255 {c : Int32} (hc : own_N c < 256) : ¬ ((255 : Int32) < c) := by
  have q : ∀ n, n < 256 → ¬ ((255 : Int32) < Int32.ofNat n) := by decide +kernel
  rw [own_ofN c]; exact q _ hc
theorem own_c8 (x : Int32) : own_N ((x &&& (255 : Int32)).toUInt32.toUInt16.toUInt32.toInt32) < 256 := by
  have e := own_Nmk 8 (m := 255) (by decide) x
  have hl : own_N (x &&& 255) < 65536 := by rw [e]; omega
  have e2 : (x &&& (255 : Int32)).toUInt32.toUInt16.toUInt32.toInt32 = x &&& 255 := own_ncN hl
  rw [e2, e]; omega
theorem own_ncc {c : Int32} (hc : own_N c < 256) : nar .char c = c := own_ncN (by omega)
theorem own_r1 {P : Prop} {r : Int32} (hr : (r = (1 : Int32) ∧ P) ∨ (r = (0 : Int32) ∧ ¬ P)) (h : P) : r = (1 : Int32) := by
  rcases hr with h1 | h1
  · exact h1.1
  · exact absurd h h1.2
theorem own_r0 {P : Prop} {r : Int32} (hr : (r = (1 : Int32) ∧ P) ∨ (r = (0 : Int32) ∧ ¬ P)) (h : ¬ P) : r = (0 : Int32) := by
  rcases hr with h1 | h1
  · exact absurd h1.2 h
  · exact h1.1
theorem own_m0 {n : Nat} (hn : n < 23) {w : Nat → Int32} {c : Int32} (hc : own_N c < 256) (e : own_okF w) : own_okF (fun j => own_lt (own_tj n j c (own_k (w j)))) ↔ c = own_k (w n) := by
  rw [own_kl]
  constructor
  · intro q
    have b := own_one hn (y := w) (w := fun j => own_lt (own_tj n j c (own_k (w j)))) (fun i hi => by
      show _ = own_lc (own_lt (own_tj n i c (own_k (w i))))
      rw [own_tjk hc, own_tj, if_neg (Ne.symm hi)]) e q
    have b' : own_lc (w n) = own_lc (own_lt (own_tj n n c (own_k (w n)))) := b
    rw [own_tjk hc, own_tj, if_pos rfl, own_lcc hc] at b'
    exact b'.symm
  · intro q
    refine own_okc (fun i => ?_) e
    show _ = own_lc (own_lt (own_tj n i c (own_k (w i))))
    rw [own_tjk hc, own_tj]
    split
    · next h => subst h; rw [own_lcc hc]; exact q.symm
    · rfl
theorem own_u0 {B0 B1 : Nat} (h0 : B0 < 256) (h1 : B1 < 256) : own_b0 ((B0 / 8) % 32) ((B0 % 8 * 4 + B1 / 64) % 32) = B0 := by unfold own_b0; omega
theorem own_u1 {B0 B1 B2 : Nat} (h0 : B0 < 256) (h1 : B1 < 256) (h2 : B2 < 256) : own_b1 ((B0 % 8 * 4 + B1 / 64) % 32) ((B1 / 2 % 32) % 32) ((B1 % 2 * 16 + B2 / 16) % 32) = B1 := by unfold own_b1; omega
theorem own_u2 {B1 B2 B3 : Nat} (h1 : B1 < 256) (h2 : B2 < 256) (h3 : B3 < 256) : own_b2 ((B1 % 2 * 16 + B2 / 16) % 32) ((B2 % 16 * 2 + B3 / 128) % 32) = B2 := by unfold own_b2; omega
theorem own_u3 {B2 B3 B4 : Nat} (h2 : B2 < 256) (h3 : B3 < 256) (h4 : B4 < 256) : own_b3 ((B2 % 16 * 2 + B3 / 128) % 32) ((B3 / 4 % 32) % 32) ((B3 % 4 * 8 + B4 / 32) % 32) = B3 := by unfold own_b3; omega
theorem own_u4 {B3 B4 : Nat} (h3 : B3 < 256) (h4 : B4 < 256) : own_b4 ((B3 % 4 * 8 + B4 / 32) % 32) ((B4 % 32) % 32) = B4 := by unfold own_b4; omega
theorem own_u5 {c : Nat} (h : c < 65536) : own_b0 (c / 256 % 256 / 8 % 32) ((c / 256 % 256 % 8 * 4 + c % 256 / 64) % 32) * 256 + own_b1 ((c / 256 % 256 % 8 * 4 + c % 256 / 64) % 32) (c % 256 / 2 % 32 % 32) (c % 256 % 2 * 16 % 32) = c := by unfold own_b0 own_b1; omega
theorem own_u6 (c : Nat) : c % 256 % 2 * 16 % 32 % 16 = 0 := by omega
theorem own_code {x0 x1 x2 x3 x4 x5 x6 x7 x8 x9 z0 z1 z2 z3 z4 z5 z6 z7 z8 z9 z10 z11 z12 z13 z14 z15 z16 z17 z18 z19 : Int32} (e : own_enc x0 x1 x2 x3 x4 x5 x6 x7 x8 x9 (own_h8 (own_crc x0 x1 x2 x3 x4 x5 x6 x7 x8 x9)) (own_lt (own_crc x0 x1 x2 x3 x4 x5 x6 x7 x8 x9)) z0 z1 z2 z3 z4 z5 z6 z7 z8 z9 z10 z11 z12 z13 z14 z15 z16 z17 z18 z19) : own_okF (fun j => [z0, z1, z2, z3, z4, (own_lt (45 : Int32)), z5, z6, z7, z8, z9, (own_lt (45 : Int32)), z10, z11, z12, z13, z14, (own_lt (45 : Int32)), z15, z16, z17, z18, z19].getD j 0) := by
  obtain ⟨rfl, rfl, rfl, rfl, rfl, rfl, rfl, rfl, rfl, rfl, rfl, rfl, rfl, rfl, rfl, rfl, rfl, rfl, rfl, rfl⟩ := e
  have z0 : own_N (0 : Int32) = 0 := by decide
  obtain ⟨g0, g1, g2, g3, g4, g5, g6, g7, w1⟩ := own_e5 (x0 := x0) (x1 := x1) (x2 := x2) (x3 := x3) (x4 := x4) z0
  obtain ⟨g8, g9, g10, g11, g12, g13, g14, g15, w2⟩ := own_e5 (x0 := x5) (x1 := x6) (x2 := x7) (x3 := x8) (x4 := x9) w1
  obtain ⟨g16, g17, g18, g19⟩ := own_e2 (x0 := own_h8 (own_crc x0 x1 x2 x3 x4 x5 x6 x7 x8 x9)) (x1 := own_lt (own_crc x0 x1 x2 x3 x4 x5 x6 x7 x8 x9)) w2
  have hc := own_crcE x0 x1 x2 x3 x4 x5 x6 x7 x8 x9
  have hl : own_N (own_crc x0 x1 x2 x3 x4 x5 x6 x7 x8 x9) < 65536 := by rw [hc]; exact own_cfL (by decide) (by intro b q; simp only [List.mem_cons, List.not_mem_nil, or_false] at q; rcases q with rfl | rfl | rfl | rfl | rfl | rfl | rfl | rfl | rfl | rfl <;> exact Nat.mod_lt _ (by decide))
  rw [own_h8N] at g16 g17; rw [own_ltN] at g17 g18 g19
  have h0 := own_l32 g0 (by omega)
  have h1 := own_l32 g1 (by omega)
  have h2 := own_l32 g2 (by omega)
  have h3 := own_l32 g3 (by omega)
  have h4 := own_l32 g4 (by omega)
  have h5 := own_l32 g5 (by omega)
  have h6 := own_l32 g6 (by omega)
  have h7 := own_l32 g7 (by omega)
  have h8 := own_l32 g8 (by omega)
  have h9 := own_l32 g9 (by omega)
  have h10 := own_l32 g10 (by omega)
  have h11 := own_l32 g11 (by omega)
  have h12 := own_l32 g12 (by omega)
  have h13 := own_l32 g13 (by omega)
  have h14 := own_l32 g14 (by omega)
  have h15 := own_l32 g15 (by omega)
  have h16 := own_l32 g16 (by omega)
  have h17 := own_l32 g17 (by omega)
  have h18 := own_l32 g18 (by omega)
  have h19 := own_l32 g19 (by omega)
  have a0 := own_aix h0
  have a1 := own_aix h1
  have a2 := own_aix h2
  have a3 := own_aix h3
  have a4 := own_aix h4
  have a5 := own_aix h5
  have a6 := own_aix h6
  have a7 := own_aix h7
  have a8 := own_aix h8
  have a9 := own_aix h9
  have a10 := own_aix h10
  have a11 := own_aix h11
  have a12 := own_aix h12
  have a13 := own_aix h13
  have a14 := own_aix h14
  have a15 := own_aix h15
  have a16 := own_aix h16
  have a17 := own_aix h17
  have a18 := own_aix h18
  have a19 := own_aix h19
  have dq : own_lc (own_lt (45 : Int32)) = (45 : Int32) := by decide +kernel
  rw [own_okI]
  refine ⟨⟨dq, dq, dq⟩, fun i hi => ?_, ?_⟩
  · have q : i = 0 ∨ i = 1 ∨ i = 2 ∨ i = 3 ∨ i = 4 ∨ i = 5 ∨ i = 6 ∨ i = 7 ∨ i = 8 ∨ i = 9 ∨ i = 10 ∨ i = 11 ∨ i = 12 ∨ i = 13 ∨ i = 14 ∨ i = 15 ∨ i = 16 ∨ i = 17 ∨ i = 18 ∨ i = 19 := by omega
    rcases q with rfl | rfl | rfl | rfl | rfl | rfl | rfl | rfl | rfl | rfl | rfl | rfl | rfl | rfl | rfl | rfl | rfl | rfl | rfl | rfl
    · show ¬ (own_ix (own_lc (own_lt (own_al _))) < _); rw [a0]; exact own_nn h0
    · show ¬ (own_ix (own_lc (own_lt (own_al _))) < _); rw [a1]; exact own_nn h1
    · show ¬ (own_ix (own_lc (own_lt (own_al _))) < _); rw [a2]; exact own_nn h2
    · show ¬ (own_ix (own_lc (own_lt (own_al _))) < _); rw [a3]; exact own_nn h3
    · show ¬ (own_ix (own_lc (own_lt (own_al _))) < _); rw [a4]; exact own_nn h4
    · show ¬ (own_ix (own_lc (own_lt (own_al _))) < _); rw [a5]; exact own_nn h5
    · show ¬ (own_ix (own_lc (own_lt (own_al _))) < _); rw [a6]; exact own_nn h6
    · show ¬ (own_ix (own_lc (own_lt (own_al _))) < _); rw [a7]; exact own_nn h7
    · show ¬ (own_ix (own_lc (own_lt (own_al _))) < _); rw [a8]; exact own_nn h8
    · show ¬ (own_ix (own_lc (own_lt (own_al _))) < _); rw [a9]; exact own_nn h9
    · show ¬ (own_ix (own_lc (own_lt (own_al _))) < _); rw [a10]; exact own_nn h10
    · show ¬ (own_ix (own_lc (own_lt (own_al _))) < _); rw [a11]; exact own_nn h11
    · show ¬ (own_ix (own_lc (own_lt (own_al _))) < _); rw [a12]; exact own_nn h12
    · show ¬ (own_ix (own_lc (own_lt (own_al _))) < _); rw [a13]; exact own_nn h13
    · show ¬ (own_ix (own_lc (own_lt (own_al _))) < _); rw [a14]; exact own_nn h14
    · show ¬ (own_ix (own_lc (own_lt (own_al _))) < _); rw [a15]; exact own_nn h15
    · show ¬ (own_ix (own_lc (own_lt (own_al _))) < _); rw [a16]; exact own_nn h16
    · show ¬ (own_ix (own_lc (own_lt (own_al _))) < _); rw [a17]; exact own_nn h17
    · show ¬ (own_ix (own_lc (own_lt (own_al _))) < _); rw [a18]; exact own_nn h18
    · show ¬ (own_ix (own_lc (own_lt (own_al _))) < _); rw [a19]; exact own_nn h19
  · show own_N (own_ix (own_lc (own_lt (own_al _)))) % 32 % 16 = 0 ∧ own_b0 (own_N (own_ix (own_lc (own_lt (own_al _)))) % 32) (own_N (own_ix (own_lc (own_lt (own_al _)))) % 32) * 256 + own_b1 (own_N (own_ix (own_lc (own_lt (own_al _)))) % 32) (own_N (own_ix (own_lc (own_lt (own_al _)))) % 32) (own_N (own_ix (own_lc (own_lt (own_al _)))) % 32) = own_cf 0 [own_b0 (own_N (own_ix (own_lc (own_lt (own_al _)))) % 32) (own_N (own_ix (own_lc (own_lt (own_al _)))) % 32), own_b1 (own_N (own_ix (own_lc (own_lt (own_al _)))) % 32) (own_N (own_ix (own_lc (own_lt (own_al _)))) % 32) (own_N (own_ix (own_lc (own_lt (own_al _)))) % 32), own_b2 (own_N (own_ix (own_lc (own_lt (own_al _)))) % 32) (own_N (own_ix (own_lc (own_lt (own_al _)))) % 32), own_b3 (own_N (own_ix (own_lc (own_lt (own_al _)))) % 32) (own_N (own_ix (own_lc (own_lt (own_al _)))) % 32) (own_N (own_ix (own_lc (own_lt (own_al _)))) % 32), own_b4 (own_N (own_ix (own_lc (own_lt (own_al _)))) % 32) (own_N (own_ix (own_lc (own_lt (own_al _)))) % 32), own_b0 (own_N (own_ix (own_lc (own_lt (own_al _)))) % 32) (own_N (own_ix (own_lc (own_lt (own_al _)))) % 32), own_b1 (own_N (own_ix (own_lc (own_lt (own_al _)))) % 32) (own_N (own_ix (own_lc (own_lt (own_al _)))) % 32) (own_N (own_ix (own_lc (own_lt (own_al _)))) % 32), own_b2 (own_N (own_ix (own_lc (own_lt (own_al _)))) % 32) (own_N (own_ix (own_lc (own_lt (own_al _)))) % 32), own_b3 (own_N (own_ix (own_lc (own_lt (own_al _)))) % 32) (own_N (own_ix (own_lc (own_lt (own_al _)))) % 32) (own_N (own_ix (own_lc (own_lt (own_al _)))) % 32), own_b4 (own_N (own_ix (own_lc (own_lt (own_al _)))) % 32) (own_N (own_ix (own_lc (own_lt (own_al _)))) % 32)]
    rw [a0, a1, a2, a3, a4, a5, a6, a7, a8, a9, a10, a11, a12, a13, a14, a15, a16, a17, a18, a19]
    rw [g0, g1, g2, g3, g4, g5, g6, g7, g8, g9, g10, g11, g12, g13, g14, g15, g16, g17, g18, g19]
    refine ⟨own_u6 _, ?_⟩
    have m : ∀ x : Int32, own_N x % 256 < 256 := fun x => Nat.mod_lt _ (by decide)
    rw [own_u0 (m x0) (m x1), own_u1 (m x0) (m x1) (m x2), own_u2 (m x1) (m x2) (m x3), own_u3 (m x2) (m x3) (m x4), own_u4 (m x3) (m x4), own_u0 (m x5) (m x6), own_u1 (m x5) (m x6) (m x7), own_u2 (m x6) (m x7) (m x8), own_u3 (m x7) (m x8) (m x9), own_u4 (m x8) (m x9), ← hc]
    exact own_u5 hl
theorem own_set23 {n : Nat} (hn : n < 23) (c k0 k1 k2 k3 k4 k5 k6 k7 k8 k9 k10 k11 k12 k13 k14 k15 k16 k17 k18 k19 k20 k21 k22 : Int32) : ([(.int k0), (.int k1), (.int k2), (.int k3), (.int k4), (.int k5), (.int k6), (.int k7), (.int k8), (.int k9), (.int k10), (.int k11), (.int k12), (.int k13), (.int k14), (.int k15), (.int k16), (.int k17), (.int k18), (.int k19), (.int k20), (.int k21), (.int k22)] : List Value).set n (.int c) = [(.int (own_tj n 0 c k0)), (.int (own_tj n 1 c k1)), (.int (own_tj n 2 c k2)), (.int (own_tj n 3 c k3)), (.int (own_tj n 4 c k4)), (.int (own_tj n 5 c k5)), (.int (own_tj n 6 c k6)), (.int (own_tj n 7 c k7)), (.int (own_tj n 8 c k8)), (.int (own_tj n 9 c k9)), (.int (own_tj n 10 c k10)), (.int (own_tj n 11 c k11)), (.int (own_tj n 12 c k12)), (.int (own_tj n 13 c k13)), (.int (own_tj n 14 c k14)), (.int (own_tj n 15 c k15)), (.int (own_tj n 16 c k16)), (.int (own_tj n 17 c k17)), (.int (own_tj n 18 c k18)), (.int (own_tj n 19 c k19)), (.int (own_tj n 20 c k20)), (.int (own_tj n 21 c k21)), (.int (own_tj n 22 c k22))] := by
  have q : n = 0 ∨ n = 1 ∨ n = 2 ∨ n = 3 ∨ n = 4 ∨ n = 5 ∨ n = 6 ∨ n = 7 ∨ n = 8 ∨ n = 9 ∨ n = 10 ∨ n = 11 ∨ n = 12 ∨ n = 13 ∨ n = 14 ∨ n = 15 ∨ n = 16 ∨ n = 17 ∨ n = 18 ∨ n = 19 ∨ n = 20 ∨ n = 21 ∨ n = 22 := by omega
  rcases q with rfl | rfl | rfl | rfl | rfl | rfl | rfl | rfl | rfl | rfl | rfl | rfl | rfl | rfl | rfl | rfl | rfl | rfl | rfl | rfl | rfl | rfl | rfl <;> rfl
theorem own_m3 {w0 w1 w2 w3 w4 w5 w6 w7 w8 w9 w10 w11 w12 w13 w14 w15 w16 w17 w18 w19 w20 w21 w22 : Int32} (e : own_okF (fun j => [w0, w1, w2, w3, w4, w5, w6, w7, w8, w9, w10, w11, w12, w13, w14, w15, w16, w17, w18, w19, w20, w21, w22].getD j 0)) : own_ok (own_lt (own_k w0)) (own_lt (own_k w1)) (own_lt (own_k w2)) (own_lt (own_k w3)) (own_lt (own_k w4)) (own_lt (own_k w5)) (own_lt (own_k w6)) (own_lt (own_k w7)) (own_lt (own_k w8)) (own_lt (own_k w9)) (own_lt (own_k w10)) (own_lt (own_k w11)) (own_lt (own_k w12)) (own_lt (own_k w13)) (own_lt (own_k w14)) (own_lt (own_k w15)) (own_lt (own_k w16)) (own_lt (own_k w17)) (own_lt (own_k w18)) (own_lt (own_k w19)) (own_lt (own_k w20)) (own_lt (own_k w21)) (own_lt (own_k w22)) := own_okc (w := fun j => own_lt (own_k ((fun j => [w0, w1, w2, w3, w4, w5, w6, w7, w8, w9, w10, w11, w12, w13, w14, w15, w16, w17, w18, w19, w20, w21, w22].getD j 0) j))) (fun i => (own_kk _).symm) e
theorem own_m0c {w0 w1 w2 w3 w4 w5 w6 w7 w8 w9 w10 w11 w12 w13 w14 w15 w16 w17 w18 w19 w20 w21 w22 pi cv og : Int32} (hn : pi.toNatClampNeg < 23) (hc : own_N cv < 256) (e : own_okF (fun j => [w0, w1, w2, w3, w4, w5, w6, w7, w8, w9, w10, w11, w12, w13, w14, w15, w16, w17, w18, w19, w20, w21, w22].getD j 0)) (ho : og = own_at [(.int (own_k w0)), (.int (own_k w1)), (.int (own_k w2)), (.int (own_k w3)), (.int (own_k w4)), (.int (own_k w5)), (.int (own_k w6)), (.int (own_k w7)), (.int (own_k w8)), (.int (own_k w9)), (.int (own_k w10)), (.int (own_k w11)), (.int (own_k w12)), (.int (own_k w13)), (.int (own_k w14)), (.int (own_k w15)), (.int (own_k w16)), (.int (own_k w17)), (.int (own_k w18)), (.int (own_k w19)), (.int (own_k w20)), (.int (own_k w21)), (.int (own_k w22))] pi) : own_ok (own_lt (own_tj pi.toNatClampNeg 0 (nar .char cv) (own_k w0))) (own_lt (own_tj pi.toNatClampNeg 1 (nar .char cv) (own_k w1))) (own_lt (own_tj pi.toNatClampNeg 2 (nar .char cv) (own_k w2))) (own_lt (own_tj pi.toNatClampNeg 3 (nar .char cv) (own_k w3))) (own_lt (own_tj pi.toNatClampNeg 4 (nar .char cv) (own_k w4))) (own_lt (own_tj pi.toNatClampNeg 5 (nar .char cv) (own_k w5))) (own_lt (own_tj pi.toNatClampNeg 6 (nar .char cv) (own_k w6))) (own_lt (own_tj pi.toNatClampNeg 7 (nar .char cv) (own_k w7))) (own_lt (own_tj pi.toNatClampNeg 8 (nar .char cv) (own_k w8))) (own_lt (own_tj pi.toNatClampNeg 9 (nar .char cv) (own_k w9))) (own_lt (own_tj pi.toNatClampNeg 10 (nar .char cv) (own_k w10))) (own_lt (own_tj pi.toNatClampNeg 11 (nar .char cv) (own_k w11))) (own_lt (own_tj pi.toNatClampNeg 12 (nar .char cv) (own_k w12))) (own_lt (own_tj pi.toNatClampNeg 13 (nar .char cv) (own_k w13))) (own_lt (own_tj pi.toNatClampNeg 14 (nar .char cv) (own_k w14))) (own_lt (own_tj pi.toNatClampNeg 15 (nar .char cv) (own_k w15))) (own_lt (own_tj pi.toNatClampNeg 16 (nar .char cv) (own_k w16))) (own_lt (own_tj pi.toNatClampNeg 17 (nar .char cv) (own_k w17))) (own_lt (own_tj pi.toNatClampNeg 18 (nar .char cv) (own_k w18))) (own_lt (own_tj pi.toNatClampNeg 19 (nar .char cv) (own_k w19))) (own_lt (own_tj pi.toNatClampNeg 20 (nar .char cv) (own_k w20))) (own_lt (own_tj pi.toNatClampNeg 21 (nar .char cv) (own_k w21))) (own_lt (own_tj pi.toNatClampNeg 22 (nar .char cv) (own_k w22))) ↔ cv = og := by
  rw [own_ncc hc, ho]
  have q : own_at [(.int (own_k w0)), (.int (own_k w1)), (.int (own_k w2)), (.int (own_k w3)), (.int (own_k w4)), (.int (own_k w5)), (.int (own_k w6)), (.int (own_k w7)), (.int (own_k w8)), (.int (own_k w9)), (.int (own_k w10)), (.int (own_k w11)), (.int (own_k w12)), (.int (own_k w13)), (.int (own_k w14)), (.int (own_k w15)), (.int (own_k w16)), (.int (own_k w17)), (.int (own_k w18)), (.int (own_k w19)), (.int (own_k w20)), (.int (own_k w21)), (.int (own_k w22))] pi = own_k ((fun j => [w0, w1, w2, w3, w4, w5, w6, w7, w8, w9, w10, w11, w12, w13, w14, w15, w16, w17, w18, w19, w20, w21, w22].getD j 0) pi.toNatClampNeg) := by
    unfold own_at
    generalize pi.toNatClampNeg = n at hn
    have q : n = 0 ∨ n = 1 ∨ n = 2 ∨ n = 3 ∨ n = 4 ∨ n = 5 ∨ n = 6 ∨ n = 7 ∨ n = 8 ∨ n = 9 ∨ n = 10 ∨ n = 11 ∨ n = 12 ∨ n = 13 ∨ n = 14 ∨ n = 15 ∨ n = 16 ∨ n = 17 ∨ n = 18 ∨ n = 19 ∨ n = 20 ∨ n = 21 ∨ n = 22 := by omega
    rcases q with rfl | rfl | rfl | rfl | rfl | rfl | rfl | rfl | rfl | rfl | rfl | rfl | rfl | rfl | rfl | rfl | rfl | rfl | rfl | rfl | rfl | rfl | rfl <;> rfl
  rw [q]; exact own_m0 (w := (fun j => [w0, w1, w2, w3, w4, w5, w6, w7, w8, w9, w10, w11, w12, w13, w14, w15, w16, w17, w18, w19, w20, w21, w22].getD j 0)) hn hc e
theorem own_m23 (x : Int32) : ¬ ((x &&& (2147483647 : Int32)) % (23 : Int32) < 0) ∧ (x &&& (2147483647 : Int32)) % (23 : Int32) < (23 : Int32) := by
  have e1 : (x &&& 2147483647).toInt = x.toInt % 2 ^ 31 := Jvm.Kit.i32_mask x 2147483647 (k := 31) (by decide) (by decide)
  have h0 : 0 ≤ (x &&& 2147483647).toInt := by omega
  have e2 : ((x &&& 2147483647) % (23 : Int32)).toInt = (x &&& 2147483647).toInt % (23 : Int32).toInt := Jvm.Kit.i32_rem_nonneg h0
  have f0 : (0 : Int32).toInt = 0 := by decide
  have f5 : (23 : Int32).toInt = 23 := by decide
  rw [Int32.lt_iff_toInt_lt, Int32.lt_iff_toInt_lt, f0, f5, e2, f5]
  omega
theorem own_pn {x : Int32} (h : ¬ (x < 0) ∧ x < (23 : Int32)) : x.toNatClampNeg < 23 := by
  have f0 : (0 : Int32).toInt = 0 := by decide
  have f5 : (23 : Int32).toInt = 23 := by decide
  obtain ⟨h1, h2⟩ := h
  rw [Int32.lt_iff_toInt_lt, f0] at h1
  rw [Int32.lt_iff_toInt_lt, f5] at h2
  unfold Int32.toNatClampNeg
  omega
theorem own_atc {vs : List Value} {n : Nat} (h : ∀ v ∈ vs, v = Value.int (own_vi v)) : vs.getD n (Value.int (0 : Int32)) = .int (own_vi (vs.getD n (Value.int (0 : Int32)))) := by
  by_cases q : n < vs.length
  · rw [List.getD_eq_getElem?_getD, List.getElem?_eq_getElem q]; exact h _ (List.getElem_mem q)
  · rw [List.getD_eq_getElem?_getD, List.getElem?_eq_none (Nat.le_of_not_lt q)]; rfl
theorem own_isr {args : Array Value} {s : State} {t : Term} (h : (Jvm.Cond.isRef t).value args s none s [] = some true) : ∃ v : Value, t.eval args s none [] s = some v ∧ (v = .null ∨ ∃ x : Addr, v = .ref x) := by
  simp only [Cond.value] at h
  cases e : t.eval args s none [] s with
  | none => rw [e] at h; simp at h
  | some v =>
    rw [e] at h
    refine ⟨v, rfl, ?_⟩
    cases v with
    | null => exact Or.inl rfl
    | ref x => exact Or.inr ⟨x, rfl⟩
    | _ => simp [Value.isRef] at h
theorem own_nc8 {c : Int32} (h : own_N c < 256) : own_N (nar .char c) < 256 := by rw [own_ncc h]; exact h
set_option maxRecDepth 65536
set_option maxHeartbeats 40000000
abbrev HW (a0 : Array Value) (Z : State) : Prop := ∀ d ∈ tables_1, d.before a0 Z = true
abbrev rom (f c s l : Nat) : Room := { frames := f, cells := c, slots := s, locals := l }
abbrev dk (b : ByteArray) (n : Nat) (i : Jvm.ClassFile.Instr) (k : Nat) : Prop := decode b n = .ok (i, k)
abbrev cd2 : ByteArray := prog_9_method_8_code
abbrev cd8 : ByteArray := jdk_42_method_154_code
abbrev cd11 : ByteArray := jdk_41_method_11_code
abbrev cd10 : ByteArray := jdk_42_method_155_code
abbrev cd9 : ByteArray := jdk_43_method_2_code
abbrev cd7 : ByteArray := jdk_42_method_56_code
abbrev cd5 : ByteArray := jdk_68_method_2_code
abbrev cd4 : ByteArray := jdk_67_method_1_code
abbrev cd31 : ByteArray := jdk_67_method_2_code
abbrev cd15 : ByteArray := jdk_68_method_68_code
abbrev cd16 : ByteArray := jdk_43_method_3_code
abbrev cd14 : ByteArray := jdk_68_method_9_code
abbrev cd13 : ByteArray := jdk_68_method_31_code
abbrev cd12 : ByteArray := jdk_67_method_14_code
abbrev cd19 : ByteArray := jdk_29_method_65_code
abbrev cd21 : ByteArray := jdk_29_method_69_code
abbrev cd18 : ByteArray := jdk_48_method_27_code
abbrev cd17 : ByteArray := jdk_68_method_10_code
abbrev cd20 : ByteArray := jdk_65_method_121_code
abbrev cd25 : ByteArray := jdk_68_method_64_code
abbrev cd27 : ByteArray := jdk_68_method_6_code
abbrev cd26 : ByteArray := jdk_67_method_93_code
abbrev cd30 : ByteArray := jdk_65_method_131_code
abbrev cd29 : ByteArray := jdk_65_method_133_code
abbrev cd28 : ByteArray := jdk_65_method_132_code
abbrev cd24 : ByteArray := jdk_42_method_150_code
abbrev cd23 : ByteArray := jdk_42_method_53_code
abbrev cd22 : ByteArray := jdk_67_method_42_code
abbrev cd35 : ByteArray := jdk_42_method_152_code
abbrev cd38 : ByteArray := jdk_42_method_153_code
abbrev cd34 : ByteArray := jdk_42_method_54_code
abbrev cd36 : ByteArray := jdk_41_method_12_code
abbrev cd37 : ByteArray := jdk_68_method_75_code
abbrev cd33 : ByteArray := jdk_68_method_27_code
abbrev cd32 : ByteArray := jdk_67_method_10_code
abbrev cd3 : ByteArray := prog_9_method_7_code
abbrev cd1 : ByteArray := prog_9_method_3_code
abbrev cd45 : ByteArray := jdk_43_method_23_code
abbrev cd44 : ByteArray := jdk_43_method_4_code
abbrev cd43 : ByteArray := jdk_43_method_22_code
abbrev cd42 : ByteArray := jdk_42_method_80_code
abbrev cd41 : ByteArray := jdk_42_method_79_code
abbrev cd40 : ByteArray := prog_9_method_4_code
abbrev cd49 : ByteArray := jdk_52_method_21_code
abbrev cd48 : ByteArray := jdk_52_method_16_code
abbrev cd50 : ByteArray := jdk_52_method_15_code
abbrev cd47 : ByteArray := jdk_42_method_149_code
abbrev cd46 : ByteArray := jdk_42_method_3_code
abbrev cd39 : ByteArray := method_3_code
abbrev cs0 : String := "java/lang/AbstractStringBuilder"
abbrev cs1 : String := "java/lang/String"
abbrev cs2 : String := "java/lang/StringBuilder"
abbrev cs3 : String := "com/example/keyclasp/keyclasp/protocol/ActivationCode"
abbrev cs4 : String := "jdk/internal/util/Preconditions"
abbrev cs5 : String := "com/example/keyclasp/keyclasp/protocol/ActivationCodeIsValidPinLaw"
abbrev cs6 : String := "java/lang/StringLatin1"
abbrev cs7 : String := "java/util/Arrays"
abbrev cs8 : String := "java/lang/StringUTF16"
abbrev cs9 : String := "java/lang/CharSequence"
abbrev mn0 : MethodName := ⟨cs0, "ensureCapacityInternal", "(I)V"⟩
abbrev mn1 : MethodName := ⟨cs0, "append", "(C)Ljava/lang/AbstractStringBuilder;"⟩
abbrev mn2 : MethodName := ⟨cs0, "appendChars", "(Ljava/lang/String;II)V"⟩
abbrev mn3 : MethodName := ⟨cs1, "length", "()I"⟩
abbrev mn4 : MethodName := ⟨cs2, "append", "(C)Ljava/lang/StringBuilder;"⟩
abbrev mn5 : MethodName := ⟨cs0, "length", "()I"⟩
abbrev mn8 : MethodName := ⟨cs3, "isValid", "(Ljava/lang/String;)Z"⟩
abbrev mn12 : MethodName := ⟨cs0, "newCapacity", "(I)I"⟩
abbrev mn16 : MethodName := ⟨cs2, "length", "()I"⟩
theorem d2_0 : dk cd2 0 (.iconst 0) 1 := by decide +kernel
theorem d2_1 : dk cd2 1 (.istore_n 1) 1 := by decide +kernel
theorem d2_2 : dk cd2 2 (.aload_n 0) 1 := by decide +kernel
theorem d2_3 : dk cd2 3 (.astore_n 2) 1 := by decide +kernel
theorem d2_4 : dk cd2 4 (.aload_n 2) 1 := by decide +kernel
theorem d2_5 : dk cd2 5 .arraylength 1 := by decide +kernel
theorem d2_6 : dk cd2 6 (.istore_n 3) 1 := by decide +kernel
theorem d2_7 : dk cd2 7 (.iconst 0) 1 := by decide +kernel
theorem d2_8 : dk cd2 8 (.istore 4) 2 := by decide +kernel
theorem d2_10 : dk cd2 10 (.iload 4) 2 := by decide +kernel
theorem d2_12 : dk cd2 12 (.iload_n 3) 1 := by decide +kernel
theorem d2_13 : dk cd2 13 (.if_icmp .ge 59) 3 := by decide +kernel
theorem d2_16 : dk cd2 16 (.aload_n 2) 1 := by decide +kernel
theorem d2_17 : dk cd2 17 (.iload 4) 2 := by decide +kernel
theorem d2_19 : dk cd2 19 .baload 1 := by decide +kernel
theorem d2_20 : dk cd2 20 (.istore 5) 2 := by decide +kernel
theorem d2_22 : dk cd2 22 (.iload_n 1) 1 := by decide +kernel
theorem d2_23 : dk cd2 23 (.iload 5) 2 := by decide +kernel
theorem d2_25 : dk cd2 25 (.sipush 255) 3 := by decide +kernel
theorem d2_28 : dk cd2 28 .iand 1 := by decide +kernel
theorem d2_29 : dk cd2 29 .ixor 1 := by decide +kernel
theorem d2_30 : dk cd2 30 (.istore_n 1) 1 := by decide +kernel
theorem d2_31 : dk cd2 31 (.iconst 0) 1 := by decide +kernel
theorem d2_32 : dk cd2 32 (.istore 6) 2 := by decide +kernel
theorem d2_34 : dk cd2 34 (.iload 6) 2 := by decide +kernel
theorem d2_36 : dk cd2 36 (.bipush 8) 2 := by decide +kernel
theorem d2_38 : dk cd2 38 (.if_icmp .ge 28) 3 := by decide +kernel
theorem d2_41 : dk cd2 41 (.iload_n 1) 1 := by decide +kernel
theorem d2_42 : dk cd2 42 (.iconst 1) 1 := by decide +kernel
theorem d2_43 : dk cd2 43 .iand 1 := by decide +kernel
theorem d2_44 : dk cd2 44 (.ifCond .eq 12) 3 := by decide +kernel
theorem d2_47 : dk cd2 47 (.iload_n 1) 1 := by decide +kernel
theorem d2_48 : dk cd2 48 (.iconst 1) 1 := by decide +kernel
theorem d2_49 : dk cd2 49 .iushr 1 := by decide +kernel
theorem d2_50 : dk cd2 50 (.ldc 92) 2 := by decide +kernel
theorem d2_52 : dk cd2 52 .ixor 1 := by decide +kernel
theorem d2_53 : dk cd2 53 (.goto 6) 3 := by decide +kernel
theorem d2_56 : dk cd2 56 (.iload_n 1) 1 := by decide +kernel
theorem d2_57 : dk cd2 57 (.iconst 1) 1 := by decide +kernel
theorem d2_58 : dk cd2 58 .iushr 1 := by decide +kernel
theorem d2_59 : dk cd2 59 (.istore_n 1) 1 := by decide +kernel
theorem d2_60 : dk cd2 60 (.iinc 6 1) 3 := by decide +kernel
theorem d2_63 : dk cd2 63 (.goto (-29)) 3 := by decide +kernel
theorem d2_66 : dk cd2 66 (.iinc 4 1) 3 := by decide +kernel
theorem d2_69 : dk cd2 69 (.goto (-59)) 3 := by decide +kernel
theorem d2_72 : dk cd2 72 (.iload_n 1) 1 := by decide +kernel
theorem d2_73 : dk cd2 73 .ireturn 1 := by decide +kernel
theorem pn_2 : plainName cs3 = true := by first | (simp [plainName, overriddenIn]; done) | decide +kernel
theorem ef_rmcrc (m : MethodId) (x0 : Addr) : entryFrame m #[(.ref x0)] 7 = mkF m 0 #[rv x0, .unset, .unset, .unset, .unset, .unset, .unset] [] := by first | (simp [entryFrame, mkF, argsToLocals, Value.category]; done) | rfl
def Qrmcrc (Z : State) (a1 : Addr) (k1 : ClassId) (x0 x1 x2 x3 x4 x5 x6 x7 x8 x9 : Int32) (h0 : Heap) (n0 : Nat) (v : Option Value) (h : Heap) (L : List Loc) : Prop := v = some (.int (own_crc x0 x1 x2 x3 x4 x5 x6 x7 x8 x9)) ∧ Fr n0 L ∧ h = h0
section
variable {p : Program} {l : Launch} {e : Env} {R : Room} {s : State} {m : MethodId} {args : Array Value} {below : List Frame} {meth : Jvm.Method} {c : Jvm.ClassFile.Code} {T : State} {locs : List Loc} {cells slots : Nat} {t : State}
theorem sg_rmcrc_0 (X : Stand p l e R s m args below meth c T locs cells slots) (hx : p.tables.exec = Jvm.exec) (hby : c.code = cd2) {v1 v3 v4 v5 v6 : Int32} {v0 v2 : Addr} (u0 : ¬ (v6 < (8 : Int32))) (u1 : (v4 + (1 : Int32)) < v3) (k : Steps p.tables e below (T.setTop (mkF m 19 #[rv v0, iv v1, rv v2, iv v3, iv (v4 + (1 : Int32)), iv v5, iv v6] [(.int (v4 + (1 : Int32))), (.ref v2)])) t) : Steps p.tables e below (T.setTop (mkF m 34 #[rv v0, iv v1, rv v2, iv v3, iv v4, iv v5, iv v6] [])) t := XS.iload X.here hx rfl (hb hby d2_34) rfl (XS.bipush X.here hx rfl (hb hby d2_36) (XS.icmpYes X.here hx rfl (pc0 := 38) (pc' := 66) rfl (hb hby d2_38) rfl (flt u0).2.1 (by decide) (by decide) (XS.iinc X.here hx rfl (hb hby d2_66) rfl (l' := #[rv v0, iv v1, rv v2, iv v3, iv (v4 + (1 : Int32)), iv v5, iv v6]) rfl (XS.goto X.here hx rfl (pc0 := 69) (pc' := 10) rfl (hb hby d2_69) (by decide) (by decide) (XS.iload X.here hx rfl (hb hby d2_10) rfl (XS.iloadN X.here hx rfl (hb hby d2_12) rfl (XS.icmpNo X.here hx rfl (hb hby d2_13) rfl (tlt u1).2.1 (XS.aloadN X.here hx rfl (hb hby d2_16) rfl rfl (XS.iload X.here hx rfl (hb hby d2_17) rfl k)))))))))
theorem sg_rmcrc_1 (X : Stand p l e R s m args below meth c T locs cells slots) (hx : p.tables.exec = Jvm.exec) (hby : c.code = cd2) {v1 v3 v4 v5 v6 v7 : Int32} {v0 v2 : Addr} (k : Steps p.tables e below (T.setTop (mkF m 34 #[rv v0, iv (v1 ^^^ (v7 &&& (255 : Int32))), rv v2, iv v3, iv v4, iv v7, iv 0] [])) t) : Steps p.tables e below (T.setTop (mkF m 20 #[rv v0, iv v1, rv v2, iv v3, iv v4, iv v5, iv v6] [(.int v7)])) t := XS.istore X.here hx rfl (hb hby d2_20) rfl (l' := #[rv v0, iv v1, rv v2, iv v3, iv v4, iv v7, iv v6]) rfl (XS.iloadN X.here hx rfl (hb hby d2_22) rfl (XS.iload X.here hx rfl (hb hby d2_23) rfl (XS.sipush X.here hx rfl (hb hby d2_25) (XS.iand X.here hx rfl (hb hby d2_28) rfl (XS.ixor X.here hx rfl (hb hby d2_29) rfl (XS.istoreN X.here hx rfl (hb hby d2_30) rfl (l' := #[rv v0, iv (v1 ^^^ (v7 &&& (255 : Int32))), rv v2, iv v3, iv v4, iv v7, iv v6]) rfl (XS.iconst X.here hx rfl (hb hby d2_31) (XS.istore X.here hx rfl (hb hby d2_32) rfl (l' := #[rv v0, iv (v1 ^^^ (v7 &&& (255 : Int32))), rv v2, iv v3, iv v4, iv v7, iv 0]) rfl k))))))))
end
theorem rmcrc (l : Launch) (Z : State) (a0 : Array Value) (hw : HW a0 Z) (ws : List Jvm.Cond) (a1 : Addr) (k1 : ClassId) (x0 x1 x2 x3 x4 x5 x6 x7 x8 x9 : Int32) (h0 : Heap) (n0 : Nat) (Z0 : n0 ≤ h0.size) (V_a1 : Arv Z h0 a1 k1 .byte (10 : Int32) [(.int x0), (.int x1), (.int x2), (.int x3), (.int x4), (.int x5), (.int x6), (.int x7), (.int x8), (.int x9)] (.int 0)) :
    own_MF l (⟨cs3, "crc16Arc", "([B)I"⟩ : MethodName) cd2 7 (some .int) ws (rom 0 0 0 0) #[(.ref a1)] Z h0 (Qrmcrc Z a1 k1 x0 x1 x2 x3 x4 x5 x6 x7 x8 x9 h0 n0) := by
 refine own_body n0 (plainFor_of_name pn_2) (fun m => ef_rmcrc m a1) (fun p e s m below meth c s₁ hx hby hml hr2 hZ hown hnm X0 e0 N0 => ?_)
 have stp : ∀ (P : State → Outcome → Prop) (c5 i5 y5 j5 : Int32), j5 < (8 : Int32) → (∃ t o, Steps p.tables e below (s₁.setTop (mkF m 34 #[rv a1, iv (own_st c5), rv a1, iv 10, iv i5, iv y5, iv (j5 + (1 : Int32))] [])) t ∧ P t o) → ∃ t o, Steps p.tables e below (s₁.setTop (mkF m 34 #[rv a1, iv c5, rv a1, iv 10, iv i5, iv y5, iv j5] [])) t ∧ P t o := by
   intro P c5 i5 y5 j5 hj5 J
   refine ogo (mkF m 44 #[rv a1, iv c5, rv a1, iv 10, iv i5, iv y5, iv j5] [(.int (c5 &&& (1 : Int32)))]) (fun _ k => XS.iload X0.here hx rfl (hb hby d2_34) rfl (XS.bipush X0.here hx rfl (hb hby d2_36) (XS.icmpNo X0.here hx rfl (hb hby d2_38) rfl (tlt hj5).2.1 (XS.iloadN X0.here hx rfl (hb hby d2_41) rfl (XS.iconst X0.here hx rfl (hb hby d2_42) (XS.iand X0.here hx rfl (hb hby d2_43) rfl k)))))) ?_
   by_cases hc44_1 : (c5 &&& (1 : Int32)) = (0 : Int32)
   · skip
     refine ogo (mkF m 34 #[rv a1, iv ((c5.toUInt32 >>> ((1 : Int32) &&& 31).toUInt32).toInt32), rv a1, iv 10, iv i5, iv y5, iv (j5 + (1 : Int32))] []) (fun _ k => XS.ifYes X0.here hx rfl (pc0 := 44) (pc' := 56) rfl (hb hby d2_44) rfl ((if0 _ _).trans (teq hc44_1).1) (by decide) (by decide) (XS.iloadN X0.here hx rfl (hb hby d2_56) rfl (XS.iconst X0.here hx rfl (hb hby d2_57) (XS.iushr X0.here hx rfl (hb hby d2_58) rfl (XS.istoreN X0.here hx rfl (hb hby d2_59) rfl (l' := #[rv a1, iv ((c5.toUInt32 >>> ((1 : Int32) &&& 31).toUInt32).toInt32), rv a1, iv 10, iv i5, iv y5, iv j5]) rfl (XS.iinc X0.here hx rfl (hb hby d2_60) rfl (l' := #[rv a1, iv ((c5.toUInt32 >>> ((1 : Int32) &&& 31).toUInt32).toInt32), rv a1, iv 10, iv i5, iv y5, iv (j5 + (1 : Int32))]) rfl (XS.goto X0.here hx rfl (pc0 := 63) (pc' := 34) rfl (hb hby d2_63) (by decide) (by decide) k))))))) ?_
     rw [own_st0 hc44_1]; exact J
   refine ogo (mkF m 34 #[rv a1, iv (((c5.toUInt32 >>> ((1 : Int32) &&& 31).toUInt32).toInt32) ^^^ (40961 : Int32)), rv a1, iv 10, iv i5, iv y5, iv (j5 + (1 : Int32))] []) (fun _ k => XS.ifNo X0.here hx rfl (hb hby d2_44) rfl ((if0 _ _).trans (feq hc44_1).1) (XS.iloadN X0.here hx rfl (hb hby d2_47) rfl (XS.iconst X0.here hx rfl (hb hby d2_48) (XS.iushr X0.here hx rfl (hb hby d2_49) rfl (X0.ldcInt hx hown (mvT hZ (ow hw 13 rfl)) (g := (mkF m 50 #[rv a1, iv c5, rv a1, iv 10, iv i5, iv y5, iv j5] [(.int ((c5.toUInt32 >>> ((1 : Int32) &&& 31).toUInt32).toInt32))])) rfl (hb hby d2_50) _ (XS.ixor X0.here hx rfl (hb hby d2_52) rfl (XS.goto X0.here hx rfl (pc0 := 53) (pc' := 59) rfl (hb hby d2_53) (by decide) (by decide) (XS.istoreN X0.here hx rfl (hb hby d2_59) rfl (l' := #[rv a1, iv (((c5.toUInt32 >>> ((1 : Int32) &&& 31).toUInt32).toInt32) ^^^ (40961 : Int32)), rv a1, iv 10, iv i5, iv y5, iv j5]) rfl (XS.iinc X0.here hx rfl (hb hby d2_60) rfl (l' := #[rv a1, iv (((c5.toUInt32 >>> ((1 : Int32) &&& 31).toUInt32).toInt32) ^^^ (40961 : Int32)), rv a1, iv 10, iv i5, iv y5, iv (j5 + (1 : Int32))]) rfl (XS.goto X0.here hx rfl (pc0 := 63) (pc' := 34) rfl (hb hby d2_63) (by decide) (by decide) k)))))))))) ?_
   rw [own_st1 hc44_1]; exact J
 refine ogo (mkF m 5 #[rv a1, iv 0, rv a1, .unset, .unset, .unset, .unset] [(.ref a1)]) (fun _ k => XS.iconst X0.here hx rfl (hb hby d2_0) (XS.istoreN X0.here hx rfl (hb hby d2_1) rfl (l' := #[rv a1, iv 0, .unset, .unset, .unset, .unset, .unset]) rfl (XS.aloadN X0.here hx rfl (hb hby d2_2) rfl rfl (XS.astoreN X0.here hx rfl (hb hby d2_3) rfl rfl (l' := #[rv a1, iv 0, rv a1, .unset, .unset, .unset, .unset]) rfl (XS.aloadN X0.here hx rfl (hb hby d2_4) rfl rfl k))))) ?_
 obtain ⟨cl2, Ar2, -, Sz2, Nn2, -, -⟩ := id V_a1
 refine own_go (b := (s₁.setTop (mkF m 19 #[rv a1, iv 0, rv a1, iv 10, iv 0, .unset, .unset] [(.int 0), (.ref a1)]))) (fun _ k => X0.arraylength hx (by rw [e0]; exact Ar2.1) (State.isArrayOf_alike hZ.alike Ar2.2.1) (g := (mkF m 5 #[rv a1, iv 0, rv a1, .unset, .unset, .unset, .unset] [(.ref a1)])) rfl rfl (hb hby d2_5) _ (by rw [len_of Sz2 Nn2]; exact (XS.istoreN X0.here hx rfl (hb hby d2_6) rfl (l' := #[rv a1, iv 0, rv a1, iv 10, .unset, .unset, .unset]) rfl (XS.iconst X0.here hx rfl (hb hby d2_7) (XS.istore X0.here hx rfl (hb hby d2_8) rfl (l' := #[rv a1, iv 0, rv a1, iv 10, iv 0, .unset, .unset]) rfl (XS.iload X0.here hx rfl (hb hby d2_10) rfl (XS.iloadN X0.here hx rfl (hb hby d2_12) rfl (XS.icmpNo X0.here hx rfl (hb hby d2_13) rfl (tlt (by decide : (0 : Int32) < (10 : Int32))).2.1 (XS.aloadN X0.here hx rfl (hb hby d2_16) rfl rfl (XS.iload X0.here hx rfl (hb hby d2_17) rfl k)))))))))) ?_
 refine own_bal (x := x0) X0 hx hZ e0 V_a1 ⟨by decide, by decide⟩ rfl rfl rfl (hb hby d2_19) ?_
 refine ogo (mkF m 34 #[rv a1, iv ((0 : Int32) ^^^ (x0 &&& (255 : Int32))), rv a1, iv 10, iv 0, iv x0, iv 0] []) (fun _ k => XS.istore X0.here hx rfl (hb hby d2_20) rfl (l' := #[rv a1, iv 0, rv a1, iv 10, iv 0, iv x0, .unset]) rfl (XS.iloadN X0.here hx rfl (hb hby d2_22) rfl (XS.iload X0.here hx rfl (hb hby d2_23) rfl (XS.sipush X0.here hx rfl (hb hby d2_25) (XS.iand X0.here hx rfl (hb hby d2_28) rfl (XS.ixor X0.here hx rfl (hb hby d2_29) rfl (XS.istoreN X0.here hx rfl (hb hby d2_30) rfl (l' := #[rv a1, iv ((0 : Int32) ^^^ (x0 &&& (255 : Int32))), rv a1, iv 10, iv 0, iv x0, .unset]) rfl (XS.iconst X0.here hx rfl (hb hby d2_31) (XS.istore X0.here hx rfl (hb hby d2_32) rfl (l' := #[rv a1, iv ((0 : Int32) ^^^ (x0 &&& (255 : Int32))), rv a1, iv 10, iv 0, iv x0, iv 0]) rfl k))))))))) ?_
 refine stp _ _ _ _ (0 : Int32) (by decide) ?_
 refine stp _ _ _ _ (1 : Int32) (by decide) ?_
 refine stp _ _ _ _ (2 : Int32) (by decide) ?_
 refine stp _ _ _ _ (3 : Int32) (by decide) ?_
 refine stp _ _ _ _ (4 : Int32) (by decide) ?_
 refine stp _ _ _ _ (5 : Int32) (by decide) ?_
 refine stp _ _ _ _ (6 : Int32) (by decide) ?_
 refine stp _ _ _ _ (7 : Int32) (by decide) ?_
 refine ogo (mkF m 19 #[rv a1, iv (own_s8 ((0 : Int32) ^^^ (x0 &&& (255 : Int32)))), rv a1, iv 10, iv 1, iv x0, iv 8] [(.int 1), (.ref a1)]) (fun _ k => sg_rmcrc_0 X0 hx hby (by decide) (by decide) k) ?_
 refine own_bal (x := x1) X0 hx hZ e0 V_a1 ⟨by decide, by decide⟩ rfl rfl rfl (hb hby d2_19) ?_
 refine ogo (mkF m 34 #[rv a1, iv ((own_s8 ((0 : Int32) ^^^ (x0 &&& (255 : Int32)))) ^^^ (x1 &&& (255 : Int32))), rv a1, iv 10, iv 1, iv x1, iv 0] []) (fun _ k => sg_rmcrc_1 X0 hx hby k) ?_
 refine stp _ _ _ _ (0 : Int32) (by decide) ?_
 refine stp _ _ _ _ (1 : Int32) (by decide) ?_
 refine stp _ _ _ _ (2 : Int32) (by decide) ?_
 refine stp _ _ _ _ (3 : Int32) (by decide) ?_
 refine stp _ _ _ _ (4 : Int32) (by decide) ?_
 refine stp _ _ _ _ (5 : Int32) (by decide) ?_
 refine stp _ _ _ _ (6 : Int32) (by decide) ?_
 refine stp _ _ _ _ (7 : Int32) (by decide) ?_
 refine ogo (mkF m 19 #[rv a1, iv (own_s8 ((own_s8 ((0 : Int32) ^^^ (x0 &&& (255 : Int32)))) ^^^ (x1 &&& (255 : Int32)))), rv a1, iv 10, iv 2, iv x1, iv 8] [(.int 2), (.ref a1)]) (fun _ k => sg_rmcrc_0 X0 hx hby (by decide) (by decide) k) ?_
 refine own_bal (x := x2) X0 hx hZ e0 V_a1 ⟨by decide, by decide⟩ rfl rfl rfl (hb hby d2_19) ?_
 refine ogo (mkF m 34 #[rv a1, iv ((own_s8 ((own_s8 ((0 : Int32) ^^^ (x0 &&& (255 : Int32)))) ^^^ (x1 &&& (255 : Int32)))) ^^^ (x2 &&& (255 : Int32))), rv a1, iv 10, iv 2, iv x2, iv 0] []) (fun _ k => sg_rmcrc_1 X0 hx hby k) ?_
 refine stp _ _ _ _ (0 : Int32) (by decide) ?_
 refine stp _ _ _ _ (1 : Int32) (by decide) ?_
 refine stp _ _ _ _ (2 : Int32) (by decide) ?_
 refine stp _ _ _ _ (3 : Int32) (by decide) ?_
 refine stp _ _ _ _ (4 : Int32) (by decide) ?_
 refine stp _ _ _ _ (5 : Int32) (by decide) ?_
 refine stp _ _ _ _ (6 : Int32) (by decide) ?_
 refine stp _ _ _ _ (7 : Int32) (by decide) ?_
 refine ogo (mkF m 19 #[rv a1, iv (own_s8 ((own_s8 ((own_s8 ((0 : Int32) ^^^ (x0 &&& (255 : Int32)))) ^^^ (x1 &&& (255 : Int32)))) ^^^ (x2 &&& (255 : Int32)))), rv a1, iv 10, iv 3, iv x2, iv 8] [(.int 3), (.ref a1)]) (fun _ k => sg_rmcrc_0 X0 hx hby (by decide) (by decide) k) ?_
 refine own_bal (x := x3) X0 hx hZ e0 V_a1 ⟨by decide, by decide⟩ rfl rfl rfl (hb hby d2_19) ?_
 refine ogo (mkF m 34 #[rv a1, iv ((own_s8 ((own_s8 ((own_s8 ((0 : Int32) ^^^ (x0 &&& (255 : Int32)))) ^^^ (x1 &&& (255 : Int32)))) ^^^ (x2 &&& (255 : Int32)))) ^^^ (x3 &&& (255 : Int32))), rv a1, iv 10, iv 3, iv x3, iv 0] []) (fun _ k => sg_rmcrc_1 X0 hx hby k) ?_
 refine stp _ _ _ _ (0 : Int32) (by decide) ?_
 refine stp _ _ _ _ (1 : Int32) (by decide) ?_
 refine stp _ _ _ _ (2 : Int32) (by decide) ?_
 refine stp _ _ _ _ (3 : Int32) (by decide) ?_
 refine stp _ _ _ _ (4 : Int32) (by decide) ?_
 refine stp _ _ _ _ (5 : Int32) (by decide) ?_
 refine stp _ _ _ _ (6 : Int32) (by decide) ?_
 refine stp _ _ _ _ (7 : Int32) (by decide) ?_
 refine ogo (mkF m 19 #[rv a1, iv (own_s8 ((own_s8 ((own_s8 ((own_s8 ((0 : Int32) ^^^ (x0 &&& (255 : Int32)))) ^^^ (x1 &&& (255 : Int32)))) ^^^ (x2 &&& (255 : Int32)))) ^^^ (x3 &&& (255 : Int32)))), rv a1, iv 10, iv 4, iv x3, iv 8] [(.int 4), (.ref a1)]) (fun _ k => sg_rmcrc_0 X0 hx hby (by decide) (by decide) k) ?_
 refine own_bal (x := x4) X0 hx hZ e0 V_a1 ⟨by decide, by decide⟩ rfl rfl rfl (hb hby d2_19) ?_
 refine ogo (mkF m 34 #[rv a1, iv ((own_s8 ((own_s8 ((own_s8 ((own_s8 ((0 : Int32) ^^^ (x0 &&& (255 : Int32)))) ^^^ (x1 &&& (255 : Int32)))) ^^^ (x2 &&& (255 : Int32)))) ^^^ (x3 &&& (255 : Int32)))) ^^^ (x4 &&& (255 : Int32))), rv a1, iv 10, iv 4, iv x4, iv 0] []) (fun _ k => sg_rmcrc_1 X0 hx hby k) ?_
 refine stp _ _ _ _ (0 : Int32) (by decide) ?_
 refine stp _ _ _ _ (1 : Int32) (by decide) ?_
 refine stp _ _ _ _ (2 : Int32) (by decide) ?_
 refine stp _ _ _ _ (3 : Int32) (by decide) ?_
 refine stp _ _ _ _ (4 : Int32) (by decide) ?_
 refine stp _ _ _ _ (5 : Int32) (by decide) ?_
 refine stp _ _ _ _ (6 : Int32) (by decide) ?_
 refine stp _ _ _ _ (7 : Int32) (by decide) ?_
 refine ogo (mkF m 19 #[rv a1, iv (own_s8 ((own_s8 ((own_s8 ((own_s8 ((own_s8 ((0 : Int32) ^^^ (x0 &&& (255 : Int32)))) ^^^ (x1 &&& (255 : Int32)))) ^^^ (x2 &&& (255 : Int32)))) ^^^ (x3 &&& (255 : Int32)))) ^^^ (x4 &&& (255 : Int32)))), rv a1, iv 10, iv 5, iv x4, iv 8] [(.int 5), (.ref a1)]) (fun _ k => sg_rmcrc_0 X0 hx hby (by decide) (by decide) k) ?_
 refine own_bal (x := x5) X0 hx hZ e0 V_a1 ⟨by decide, by decide⟩ rfl rfl rfl (hb hby d2_19) ?_
 refine ogo (mkF m 34 #[rv a1, iv ((own_s8 ((own_s8 ((own_s8 ((own_s8 ((own_s8 ((0 : Int32) ^^^ (x0 &&& (255 : Int32)))) ^^^ (x1 &&& (255 : Int32)))) ^^^ (x2 &&& (255 : Int32)))) ^^^ (x3 &&& (255 : Int32)))) ^^^ (x4 &&& (255 : Int32)))) ^^^ (x5 &&& (255 : Int32))), rv a1, iv 10, iv 5, iv x5, iv 0] []) (fun _ k => sg_rmcrc_1 X0 hx hby k) ?_
 refine stp _ _ _ _ (0 : Int32) (by decide) ?_
 refine stp _ _ _ _ (1 : Int32) (by decide) ?_
 refine stp _ _ _ _ (2 : Int32) (by decide) ?_
 refine stp _ _ _ _ (3 : Int32) (by decide) ?_
 refine stp _ _ _ _ (4 : Int32) (by decide) ?_
 refine stp _ _ _ _ (5 : Int32) (by decide) ?_
 refine stp _ _ _ _ (6 : Int32) (by decide) ?_
 refine stp _ _ _ _ (7 : Int32) (by decide) ?_
 refine ogo (mkF m 19 #[rv a1, iv (own_s8 ((own_s8 ((own_s8 ((own_s8 ((own_s8 ((own_s8 ((0 : Int32) ^^^ (x0 &&& (255 : Int32)))) ^^^ (x1 &&& (255 : Int32)))) ^^^ (x2 &&& (255 : Int32)))) ^^^ (x3 &&& (255 : Int32)))) ^^^ (x4 &&& (255 : Int32)))) ^^^ (x5 &&& (255 : Int32)))), rv a1, iv 10, iv 6, iv x5, iv 8] [(.int 6), (.ref a1)]) (fun _ k => sg_rmcrc_0 X0 hx hby (by decide) (by decide) k) ?_
 refine own_bal (x := x6) X0 hx hZ e0 V_a1 ⟨by decide, by decide⟩ rfl rfl rfl (hb hby d2_19) ?_
 refine ogo (mkF m 34 #[rv a1, iv ((own_s8 ((own_s8 ((own_s8 ((own_s8 ((own_s8 ((own_s8 ((0 : Int32) ^^^ (x0 &&& (255 : Int32)))) ^^^ (x1 &&& (255 : Int32)))) ^^^ (x2 &&& (255 : Int32)))) ^^^ (x3 &&& (255 : Int32)))) ^^^ (x4 &&& (255 : Int32)))) ^^^ (x5 &&& (255 : Int32)))) ^^^ (x6 &&& (255 : Int32))), rv a1, iv 10, iv 6, iv x6, iv 0] []) (fun _ k => sg_rmcrc_1 X0 hx hby k) ?_
 refine stp _ _ _ _ (0 : Int32) (by decide) ?_
 refine stp _ _ _ _ (1 : Int32) (by decide) ?_
 refine stp _ _ _ _ (2 : Int32) (by decide) ?_
 refine stp _ _ _ _ (3 : Int32) (by decide) ?_
 refine stp _ _ _ _ (4 : Int32) (by decide) ?_
 refine stp _ _ _ _ (5 : Int32) (by decide) ?_
 refine stp _ _ _ _ (6 : Int32) (by decide) ?_
 refine stp _ _ _ _ (7 : Int32) (by decide) ?_
 refine ogo (mkF m 19 #[rv a1, iv (own_s8 ((own_s8 ((own_s8 ((own_s8 ((own_s8 ((own_s8 ((own_s8 ((0 : Int32) ^^^ (x0 &&& (255 : Int32)))) ^^^ (x1 &&& (255 : Int32)))) ^^^ (x2 &&& (255 : Int32)))) ^^^ (x3 &&& (255 : Int32)))) ^^^ (x4 &&& (255 : Int32)))) ^^^ (x5 &&& (255 : Int32)))) ^^^ (x6 &&& (255 : Int32)))), rv a1, iv 10, iv 7, iv x6, iv 8] [(.int 7), (.ref a1)]) (fun _ k => sg_rmcrc_0 X0 hx hby (by decide) (by decide) k) ?_
 refine own_bal (x := x7) X0 hx hZ e0 V_a1 ⟨by decide, by decide⟩ rfl rfl rfl (hb hby d2_19) ?_
 refine ogo (mkF m 34 #[rv a1, iv ((own_s8 ((own_s8 ((own_s8 ((own_s8 ((own_s8 ((own_s8 ((own_s8 ((0 : Int32) ^^^ (x0 &&& (255 : Int32)))) ^^^ (x1 &&& (255 : Int32)))) ^^^ (x2 &&& (255 : Int32)))) ^^^ (x3 &&& (255 : Int32)))) ^^^ (x4 &&& (255 : Int32)))) ^^^ (x5 &&& (255 : Int32)))) ^^^ (x6 &&& (255 : Int32)))) ^^^ (x7 &&& (255 : Int32))), rv a1, iv 10, iv 7, iv x7, iv 0] []) (fun _ k => sg_rmcrc_1 X0 hx hby k) ?_
 refine stp _ _ _ _ (0 : Int32) (by decide) ?_
 refine stp _ _ _ _ (1 : Int32) (by decide) ?_
 refine stp _ _ _ _ (2 : Int32) (by decide) ?_
 refine stp _ _ _ _ (3 : Int32) (by decide) ?_
 refine stp _ _ _ _ (4 : Int32) (by decide) ?_
 refine stp _ _ _ _ (5 : Int32) (by decide) ?_
 refine stp _ _ _ _ (6 : Int32) (by decide) ?_
 refine stp _ _ _ _ (7 : Int32) (by decide) ?_
 refine ogo (mkF m 19 #[rv a1, iv (own_s8 ((own_s8 ((own_s8 ((own_s8 ((own_s8 ((own_s8 ((own_s8 ((own_s8 ((0 : Int32) ^^^ (x0 &&& (255 : Int32)))) ^^^ (x1 &&& (255 : Int32)))) ^^^ (x2 &&& (255 : Int32)))) ^^^ (x3 &&& (255 : Int32)))) ^^^ (x4 &&& (255 : Int32)))) ^^^ (x5 &&& (255 : Int32)))) ^^^ (x6 &&& (255 : Int32)))) ^^^ (x7 &&& (255 : Int32)))), rv a1, iv 10, iv 8, iv x7, iv 8] [(.int 8), (.ref a1)]) (fun _ k => sg_rmcrc_0 X0 hx hby (by decide) (by decide) k) ?_
 refine own_bal (x := x8) X0 hx hZ e0 V_a1 ⟨by decide, by decide⟩ rfl rfl rfl (hb hby d2_19) ?_
 refine ogo (mkF m 34 #[rv a1, iv ((own_s8 ((own_s8 ((own_s8 ((own_s8 ((own_s8 ((own_s8 ((own_s8 ((own_s8 ((0 : Int32) ^^^ (x0 &&& (255 : Int32)))) ^^^ (x1 &&& (255 : Int32)))) ^^^ (x2 &&& (255 : Int32)))) ^^^ (x3 &&& (255 : Int32)))) ^^^ (x4 &&& (255 : Int32)))) ^^^ (x5 &&& (255 : Int32)))) ^^^ (x6 &&& (255 : Int32)))) ^^^ (x7 &&& (255 : Int32)))) ^^^ (x8 &&& (255 : Int32))), rv a1, iv 10, iv 8, iv x8, iv 0] []) (fun _ k => sg_rmcrc_1 X0 hx hby k) ?_
 refine stp _ _ _ _ (0 : Int32) (by decide) ?_
 refine stp _ _ _ _ (1 : Int32) (by decide) ?_
 refine stp _ _ _ _ (2 : Int32) (by decide) ?_
 refine stp _ _ _ _ (3 : Int32) (by decide) ?_
 refine stp _ _ _ _ (4 : Int32) (by decide) ?_
 refine stp _ _ _ _ (5 : Int32) (by decide) ?_
 refine stp _ _ _ _ (6 : Int32) (by decide) ?_
 refine stp _ _ _ _ (7 : Int32) (by decide) ?_
 refine ogo (mkF m 19 #[rv a1, iv (own_s8 ((own_s8 ((own_s8 ((own_s8 ((own_s8 ((own_s8 ((own_s8 ((own_s8 ((own_s8 ((0 : Int32) ^^^ (x0 &&& (255 : Int32)))) ^^^ (x1 &&& (255 : Int32)))) ^^^ (x2 &&& (255 : Int32)))) ^^^ (x3 &&& (255 : Int32)))) ^^^ (x4 &&& (255 : Int32)))) ^^^ (x5 &&& (255 : Int32)))) ^^^ (x6 &&& (255 : Int32)))) ^^^ (x7 &&& (255 : Int32)))) ^^^ (x8 &&& (255 : Int32)))), rv a1, iv 10, iv 9, iv x8, iv 8] [(.int 9), (.ref a1)]) (fun _ k => sg_rmcrc_0 X0 hx hby (by decide) (by decide) k) ?_
 refine own_bal (x := x9) X0 hx hZ e0 V_a1 ⟨by decide, by decide⟩ rfl rfl rfl (hb hby d2_19) ?_
 refine ogo (mkF m 34 #[rv a1, iv ((own_s8 ((own_s8 ((own_s8 ((own_s8 ((own_s8 ((own_s8 ((own_s8 ((own_s8 ((own_s8 ((0 : Int32) ^^^ (x0 &&& (255 : Int32)))) ^^^ (x1 &&& (255 : Int32)))) ^^^ (x2 &&& (255 : Int32)))) ^^^ (x3 &&& (255 : Int32)))) ^^^ (x4 &&& (255 : Int32)))) ^^^ (x5 &&& (255 : Int32)))) ^^^ (x6 &&& (255 : Int32)))) ^^^ (x7 &&& (255 : Int32)))) ^^^ (x8 &&& (255 : Int32)))) ^^^ (x9 &&& (255 : Int32))), rv a1, iv 10, iv 9, iv x9, iv 0] []) (fun _ k => sg_rmcrc_1 X0 hx hby k) ?_
 refine stp _ _ _ _ (0 : Int32) (by decide) ?_
 refine stp _ _ _ _ (1 : Int32) (by decide) ?_
 refine stp _ _ _ _ (2 : Int32) (by decide) ?_
 refine stp _ _ _ _ (3 : Int32) (by decide) ?_
 refine stp _ _ _ _ (4 : Int32) (by decide) ?_
 refine stp _ _ _ _ (5 : Int32) (by decide) ?_
 refine stp _ _ _ _ (6 : Int32) (by decide) ?_
 refine stp _ _ _ _ (7 : Int32) (by decide) ?_
 refine ogo (mkF m 73 #[rv a1, iv (own_s8 ((own_s8 ((own_s8 ((own_s8 ((own_s8 ((own_s8 ((own_s8 ((own_s8 ((own_s8 ((own_s8 ((0 : Int32) ^^^ (x0 &&& (255 : Int32)))) ^^^ (x1 &&& (255 : Int32)))) ^^^ (x2 &&& (255 : Int32)))) ^^^ (x3 &&& (255 : Int32)))) ^^^ (x4 &&& (255 : Int32)))) ^^^ (x5 &&& (255 : Int32)))) ^^^ (x6 &&& (255 : Int32)))) ^^^ (x7 &&& (255 : Int32)))) ^^^ (x8 &&& (255 : Int32)))) ^^^ (x9 &&& (255 : Int32)))), rv a1, iv 10, iv 10, iv x9, iv 8] [(.int (own_s8 ((own_s8 ((own_s8 ((own_s8 ((own_s8 ((own_s8 ((own_s8 ((own_s8 ((own_s8 ((own_s8 ((0 : Int32) ^^^ (x0 &&& (255 : Int32)))) ^^^ (x1 &&& (255 : Int32)))) ^^^ (x2 &&& (255 : Int32)))) ^^^ (x3 &&& (255 : Int32)))) ^^^ (x4 &&& (255 : Int32)))) ^^^ (x5 &&& (255 : Int32)))) ^^^ (x6 &&& (255 : Int32)))) ^^^ (x7 &&& (255 : Int32)))) ^^^ (x8 &&& (255 : Int32)))) ^^^ (x9 &&& (255 : Int32)))))]) (fun _ k => XS.iload X0.here hx rfl (hb hby d2_34) rfl (XS.bipush X0.here hx rfl (hb hby d2_36) (XS.icmpYes X0.here hx rfl (pc0 := 38) (pc' := 66) rfl (hb hby d2_38) rfl (flt (by decide : ¬ ((8 : Int32) < (8 : Int32)))).2.1 (by decide) (by decide) (XS.iinc X0.here hx rfl (hb hby d2_66) rfl (l' := #[rv a1, iv (own_s8 ((own_s8 ((own_s8 ((own_s8 ((own_s8 ((own_s8 ((own_s8 ((own_s8 ((own_s8 ((own_s8 ((0 : Int32) ^^^ (x0 &&& (255 : Int32)))) ^^^ (x1 &&& (255 : Int32)))) ^^^ (x2 &&& (255 : Int32)))) ^^^ (x3 &&& (255 : Int32)))) ^^^ (x4 &&& (255 : Int32)))) ^^^ (x5 &&& (255 : Int32)))) ^^^ (x6 &&& (255 : Int32)))) ^^^ (x7 &&& (255 : Int32)))) ^^^ (x8 &&& (255 : Int32)))) ^^^ (x9 &&& (255 : Int32)))), rv a1, iv 10, iv 10, iv x9, iv 8]) rfl (XS.goto X0.here hx rfl (pc0 := 69) (pc' := 10) rfl (hb hby d2_69) (by decide) (by decide) (XS.iload X0.here hx rfl (hb hby d2_10) rfl (XS.iloadN X0.here hx rfl (hb hby d2_12) rfl (XS.icmpYes X0.here hx rfl (pc0 := 13) (pc' := 72) rfl (hb hby d2_13) rfl (flt (by decide : ¬ ((10 : Int32) < (10 : Int32)))).2.1 (by decide) (by decide) (XS.iloadN X0.here hx rfl (hb hby d2_72) rfl k))))))))) ?_
 exact own_endI X0 hx hr2 (hb hby d2_73) (by decide) (by decide) (by rw [e0]; exact ⟨rfl, N0, rfl⟩)
theorem d8_0 : dk cd8 0 (.getstatic 38) 3 := by decide +kernel
theorem d8_3 : dk cd8 3 (.ifCond .eq 14) 3 := by decide +kernel
theorem d8_6 : dk cd8 6 (.aload_n 0) 1 := by decide +kernel
theorem d8_7 : dk cd8 7 (.getfield 15) 3 := by decide +kernel
theorem d8_10 : dk cd8 10 (.ifCond .ne 7) 3 := by decide +kernel
theorem d8_13 : dk cd8 13 (.iconst 1) 1 := by decide +kernel
theorem d8_14 : dk cd8 14 (.goto 4) 3 := by decide +kernel
theorem d8_18 : dk cd8 18 .ireturn 1 := by decide +kernel
theorem pn_8 : plainName cs1 = true := by first | (simp [plainName, overriddenIn]; done) | decide +kernel
theorem ef_rmil (m : MethodId) (x0 : Addr) : entryFrame m #[(.ref x0)] 1 = mkF m 0 #[rv x0] [] := by first | (simp [entryFrame, mkF, argsToLocals, Value.category]; done) | rfl
def Qrmil (Z : State) (a1 : Addr) (cs : Int32) (h0 : Heap) (n0 : Nat) (v : Option Value) (h : Heap) (L : List Loc) : Prop := v = some (.int 1) ∧ Fr n0 L ∧ h = h0
theorem rmil (l : Launch) (Z : State) (a0 : Array Value) (hw : HW a0 Z) (ws : List Jvm.Cond) (a1 : Addr) (cs : Int32) (h0 : Heap) (n0 : Nat) (Z0 : n0 ≤ h0.size) (O0 : Old Z n0 h0) (SC : Sta Z Z.heap cs1 "COMPACT_STRINGS" "Z" (.int cs)) (hcs : ¬ (cs = (0 : Int32))) (Fld_a1_coder : Fld Z h0 a1 cs1 "coder" "B" (.int 0)) :
    own_MF l (⟨cs1, "isLatin1", "()Z"⟩ : MethodName) cd8 1 (some .boolean) ws (rom 0 0 0 0) #[(.ref a1)] Z h0 (Qrmil Z a1 cs h0 n0) := by
 refine own_body n0 (plainFor_of_name pn_8) (fun m => ef_rmil m a1) (fun p e s m below meth c s₁ hx hby hml hr2 hZ hown hnm X0 e0 N0 => ?_)
 obtain ⟨T1, X1, e1, st1⟩ := getS2 X0 hx hZ hown (host := "") (Or.inl (ow hw 54 rfl)) Via.refl e0 (SC.ext O0.2) (g := (mkF m 0 #[rv a1] [])) rfl (hb hby d8_0)
 refine ogo (mkF m 7 #[rv a1] [(.ref a1)]) (fun _ k => st1 _ (XS.ifNo X1.here hx rfl (hb hby d8_3) rfl ((if0 _ _).trans (feq hcs).1) (XS.aloadN X1.here hx rfl (hb hby d8_6) rfl rfl k))) ?_
 refine own_getf X1 hx hZ hown (ow hw 55 rfl) Via.refl e1 Fld_a1_coder rfl rfl (hb hby d8_7) (fun T2 X2 e2 => ?_)
 refine ogo (mkF m 18 #[rv a1] [(.int 1)]) (fun _ k => XS.ifNo X2.here hx rfl (hb hby d8_10) rfl ((if0 _ _).trans (teq (rfl : (0 : Int32) = (0 : Int32))).2) (XS.iconst X2.here hx rfl (hb hby d8_13) (XS.goto X2.here hx rfl (pc0 := 14) (pc' := 18) rfl (hb hby d8_14) (by decide) (by decide) k))) ?_
 exact own_endN X2 hx hr2 (by simp) (hb hby d8_18) (by decide) (by decide) (by rw [e2]; exact ⟨rfl, N0, rfl⟩)
theorem d11_0 : dk cd11 0 (.iload_n 0) 1 := by decide +kernel
theorem d11_1 : dk cd11 1 (.ifCond .lt 8) 3 := by decide +kernel
theorem d11_4 : dk cd11 4 (.iload_n 0) 1 := by decide +kernel
theorem d11_5 : dk cd11 5 (.iload_n 1) 1 := by decide +kernel
theorem d11_6 : dk cd11 6 (.if_icmp .lt 10) 3 := by decide +kernel
theorem d11_16 : dk cd11 16 (.iload_n 0) 1 := by decide +kernel
theorem d11_17 : dk cd11 17 .ireturn 1 := by decide +kernel
theorem pn_11 : plainName cs4 = true := by first | (simp [plainName, overriddenIn]; done) | decide +kernel
theorem ef_rmpn (m : MethodId) (x0 : Int32) (x1 : Int32) : entryFrame m #[(.int x0), (.int x1), .null] 3 = mkF m 0 #[iv x0, iv x1, .val .null] [] := by first | (simp [entryFrame, mkF, argsToLocals, Value.category]; done) | rfl
def Qrmpn (Z : State) (ij nn : Int32) (h0 : Heap) (n0 : Nat) (v : Option Value) (h : Heap) (L : List Loc) : Prop := v = some (.int ij) ∧ Fr n0 L ∧ h = h0
theorem rmpn (l : Launch) (Z : State) (a0 : Array Value) (hw : HW a0 Z) (ws : List Jvm.Cond) (ij nn : Int32) (h0 : Heap) (n0 : Nat) (Z0 : n0 ≤ h0.size) (hp0 : ¬ (ij < (0 : Int32))) (hp1 : ij < nn) :
    own_MF l (⟨cs4, "checkIndex", "(IILjava/util/function/BiFunction;)I"⟩ : MethodName) cd11 3 (some .int) ws (rom 0 0 0 0) #[(.int ij), (.int nn), .null] Z h0 (Qrmpn Z ij nn h0 n0) := by
 refine own_body n0 (plainFor_of_name pn_11) (fun m => ef_rmpn m ij nn) (fun p e s m below meth c s₁ hx hby hml hr2 hZ hown hnm X0 e0 N0 => ?_)
 refine ogo (mkF m 17 #[iv ij, iv nn, .val .null] [(.int ij)]) (fun _ k => XS.iloadN X0.here hx rfl (hb hby d11_0) rfl (XS.ifNo X0.here hx rfl (hb hby d11_1) rfl ((if0 _ _).trans (flt hp0).1) (XS.iloadN X0.here hx rfl (hb hby d11_4) rfl (XS.iloadN X0.here hx rfl (hb hby d11_5) rfl (XS.icmpYes X0.here hx rfl (pc0 := 6) (pc' := 16) rfl (hb hby d11_6) rfl (tlt hp1).1 (by decide) (by decide) (XS.iloadN X0.here hx rfl (hb hby d11_16) rfl k)))))) ?_
 exact own_endI X0 hx hr2 (hb hby d11_17) (by decide) (by decide) (by rw [e0]; exact ⟨rfl, N0, rfl⟩)
theorem ef_rmpr (m : MethodId) (x0 : Int32) (x1 : Int32) (x2 : Addr) : entryFrame m #[(.int x0), (.int x1), (.ref x2)] 3 = mkF m 0 #[iv x0, iv x1, rv x2] [] := by first | (simp [entryFrame, mkF, argsToLocals, Value.category]; done) | rfl
def Qrmpr (Z : State) (ij nn : Int32) (xf : Addr) (h0 : Heap) (n0 : Nat) (v : Option Value) (h : Heap) (L : List Loc) : Prop := v = some (.int ij) ∧ Fr n0 L ∧ h = h0
theorem rmpr (l : Launch) (Z : State) (a0 : Array Value) (hw : HW a0 Z) (ws : List Jvm.Cond) (ij nn : Int32) (xf : Addr) (h0 : Heap) (n0 : Nat) (Z0 : n0 ≤ h0.size) (hp0 : ¬ (ij < (0 : Int32))) (hp1 : ij < nn) :
    own_MF l (⟨cs4, "checkIndex", "(IILjava/util/function/BiFunction;)I"⟩ : MethodName) cd11 3 (some .int) ws (rom 0 0 0 0) #[(.int ij), (.int nn), (.ref xf)] Z h0 (Qrmpr Z ij nn xf h0 n0) := by
 refine own_body n0 (plainFor_of_name pn_11) (fun m => ef_rmpr m ij nn xf) (fun p e s m below meth c s₁ hx hby hml hr2 hZ hown hnm X0 e0 N0 => ?_)
 refine ogo (mkF m 17 #[iv ij, iv nn, rv xf] [(.int ij)]) (fun _ k => XS.iloadN X0.here hx rfl (hb hby d11_0) rfl (XS.ifNo X0.here hx rfl (hb hby d11_1) rfl ((if0 _ _).trans (flt hp0).1) (XS.iloadN X0.here hx rfl (hb hby d11_4) rfl (XS.iloadN X0.here hx rfl (hb hby d11_5) rfl (XS.icmpYes X0.here hx rfl (pc0 := 6) (pc' := 16) rfl (hb hby d11_6) rfl (tlt hp1).1 (by decide) (by decide) (XS.iloadN X0.here hx rfl (hb hby d11_16) rfl k)))))) ?_
 exact own_endI X0 hx hr2 (hb hby d11_17) (by decide) (by decide) (by rw [e0]; exact ⟨rfl, N0, rfl⟩)
theorem d10_0 : dk cd10 0 (.iload_n 0) 1 := by decide +kernel
theorem d10_1 : dk cd10 1 (.iload_n 1) 1 := by decide +kernel
theorem d10_2 : dk cd10 2 (.getstatic 1053) 3 := by decide +kernel
theorem d10_5 : dk cd10 5 (.invokestatic 1059) 3 := by decide +kernel
theorem d10_8 : dk cd10 8 .pop 1 := by decide +kernel
theorem d10_9 : dk cd10 9 .return_ 1 := by decide +kernel
theorem pd__IILjava_util_function_BiFunction__I : parseMethodDescriptor "(IILjava/util/function/BiFunction;)I" = some ⟨[.int, .int, (.object "java/util/function/BiFunction")], some .int⟩ := by decide +kernel
theorem pn_10 : plainName cs1 = true := by first | (simp [plainName, overriddenIn]; done) | decide +kernel
theorem ef_rmci (m : MethodId) (x0 : Int32) (x1 : Int32) : entryFrame m #[(.int x0), (.int x1)] 2 = mkF m 0 #[iv x0, iv x1] [] := by first | (simp [entryFrame, mkF, argsToLocals, Value.category]; done) | rfl
def Qrmci (Z : State) (ij nn : Int32) (fv : Value) (h0 : Heap) (n0 : Nat) (v : Option Value) (h : Heap) (L : List Loc) : Prop := v = none ∧ Fr n0 L ∧ h = h0
theorem rmci (l : Launch) (Z : State) (a0 : Array Value) (hw : HW a0 Z) (ws : List Jvm.Cond) (ij nn : Int32) (fv : Value) (h0 : Heap) (n0 : Nat) (Z0 : n0 ≤ h0.size) (O0 : Old Z n0 h0) (SF : Sta Z Z.heap cs4 "SIOOBE_FORMATTER" "Ljava/util/function/BiFunction;" fv) (hfv : fv = .null ∨ ∃ x : Addr, fv = .ref x) (hp0 : ¬ (ij < (0 : Int32))) (hp1 : ij < nn) :
    own_MF l (⟨cs1, "checkIndex", "(II)V"⟩ : MethodName) cd10 2 none ws (rom 1 0 0 14) #[(.int ij), (.int nn)] Z h0 (Qrmci Z ij nn fv h0 n0) := by
 refine own_body n0 (plainFor_of_name pn_10) (fun m => ef_rmci m ij nn) (fun p e s m below meth c s₁ hx hby hml hr2 hZ hown hnm X0 e0 N0 => ?_)
 rcases hfv with hf | ⟨xf, hf⟩
 · rw [hf] at SF
   refine ogo (mkF m 2 #[iv ij, iv nn] [(.int nn), (.int ij)]) (fun _ k => XS.iloadN X0.here hx rfl (hb hby d10_0) rfl (XS.iloadN X0.here hx rfl (hb hby d10_1) rfl k)) ?_
   obtain ⟨T1, X1, e1, st1⟩ := getS2 X0 hx hZ hown (host := "") (Or.inl (ow hw 64 rfl)) Via.refl e0 (SF.ext O0.2) (g := (mkF m 2 #[iv ij, iv nn] [(.int nn), (.int ij)])) rfl (hb hby d10_2)
   refine ogo (mkF m 5 #[iv ij, iv nn] [.null, (.int nn), (.int ij)]) (fun _ k => st1 _ k) ?_
   refine own_stat (W := 0) X1 hx hZ hown e1 (ow hw 66 rfl) (ow hw 67 rfl) (rmpn l Z a0 hw [] ij nn h0 n0 Z0 hp0 hp1) (ow hw 68 rfl) (ow hw 65 rfl) rfl (by rw [hml]; rfl) rfl (hb hby d10_5) (lenOf pd__IILjava_util_function_BiFunction__I rfl) rfl (by decide) (fun T2 v2 Ll2 X2 hQ2 => ?_)
   obtain ⟨rfl, N2q, eh2⟩ := hQ2
   have N2 := Fr.app N0 N2q
   refine ogo (mkF m 9 #[iv ij, iv nn] []) (fun _ k => XS.pop X2.here hx rfl (hb hby d10_8) rfl rfl k) ?_
   exact own_endV X2 hx hr2 (hb hby d10_9) (by decide) (by decide) (by rw [eh2]; exact ⟨rfl, N2, rfl⟩)
 · rw [hf] at SF
   refine ogo (mkF m 2 #[iv ij, iv nn] [(.int nn), (.int ij)]) (fun _ k => XS.iloadN X0.here hx rfl (hb hby d10_0) rfl (XS.iloadN X0.here hx rfl (hb hby d10_1) rfl k)) ?_
   obtain ⟨T3, X3, e3, st3⟩ := getS2 X0 hx hZ hown (host := "") (Or.inl (ow hw 64 rfl)) Via.refl e0 (SF.ext O0.2) (g := (mkF m 2 #[iv ij, iv nn] [(.int nn), (.int ij)])) rfl (hb hby d10_2)
   refine ogo (mkF m 5 #[iv ij, iv nn] [(.ref xf), (.int nn), (.int ij)]) (fun _ k => st3 _ k) ?_
   refine own_stat (W := 0) X3 hx hZ hown e3 (ow hw 66 rfl) (ow hw 67 rfl) (rmpr l Z a0 hw [] ij nn xf h0 n0 Z0 hp0 hp1) (ow hw 68 rfl) (ow hw 65 rfl) rfl (by rw [hml]; rfl) rfl (hb hby d10_5) (lenOf pd__IILjava_util_function_BiFunction__I rfl) rfl (by decide) (fun T4 v4 Ll4 X4 hQ4 => ?_)
   obtain ⟨rfl, N4q, eh4⟩ := hQ4
   have N4 := Fr.app N0 N4q
   refine ogo (mkF m 9 #[iv ij, iv nn] []) (fun _ k => XS.pop X4.here hx rfl (hb hby d10_8) rfl rfl k) ?_
   exact own_endV X4 hx hr2 (hb hby d10_9) (by decide) (by decide) (by rw [eh4]; exact ⟨rfl, N4, rfl⟩)
theorem d9_0 : dk cd9 0 (.iload_n 1) 1 := by decide +kernel
theorem d9_1 : dk cd9 1 (.aload_n 0) 1 := by decide +kernel
theorem d9_2 : dk cd9 2 .arraylength 1 := by decide +kernel
theorem d9_3 : dk cd9 3 (.invokestatic 9) 3 := by decide +kernel
theorem d9_6 : dk cd9 6 (.aload_n 0) 1 := by decide +kernel
theorem d9_7 : dk cd9 7 (.iload_n 1) 1 := by decide +kernel
theorem d9_8 : dk cd9 8 .baload 1 := by decide +kernel
theorem d9_9 : dk cd9 9 (.sipush 255) 3 := by decide +kernel
theorem d9_12 : dk cd9 12 .iand 1 := by decide +kernel
theorem d9_13 : dk cd9 13 .i2c 1 := by decide +kernel
theorem d9_14 : dk cd9 14 .ireturn 1 := by decide +kernel
theorem pd__II_V : parseMethodDescriptor "(II)V" = some ⟨[.int, .int], none⟩ := by decide +kernel
theorem pn_9 : plainName cs6 = true := by first | (simp [plainName, overriddenIn]; done) | decide +kernel
theorem ef_rmla (m : MethodId) (x0 : Addr) (x1 : Int32) : entryFrame m #[(.ref x0), (.int x1)] 2 = mkF m 0 #[rv x0, iv x1] [] := by first | (simp [entryFrame, mkF, argsToLocals, Value.category]; done) | rfl
def Qrmla (Z : State) (u1 : Addr) (ku : ClassId) (vs : List Value) (ij nn : Int32) (fv : Value) (h0 : Heap) (n0 : Nat) (v : Option Value) (h : Heap) (L : List Loc) : Prop := v = some (.int (own_lc (own_at vs ij))) ∧ Fr n0 L ∧ h = h0
theorem rmla (l : Launch) (Z : State) (a0 : Array Value) (hw : HW a0 Z) (ws : List Jvm.Cond) (u1 : Addr) (ku : ClassId) (vs : List Value) (ij nn : Int32) (fv : Value) (h0 : Heap) (n0 : Nat) (Z0 : n0 ≤ h0.size) (O0 : Old Z n0 h0) (SF : Sta Z Z.heap cs4 "SIOOBE_FORMATTER" "Ljava/util/function/BiFunction;" fv) (hfv : fv = .null ∨ ∃ x : Addr, fv = .ref x) (V_u1 : Arv Z h0 u1 ku .byte nn vs (.int 0)) (hp0 : ¬ (ij < (0 : Int32))) (hp1 : ij < nn) :
    own_MF l (⟨cs6, "charAt", "([BI)C"⟩ : MethodName) cd9 2 (some .char) ws (rom 2 0 0 27) #[(.ref u1), (.int ij)] Z h0 (Qrmla Z u1 ku vs ij nn fv h0 n0) := by
 refine own_body n0 (plainFor_of_name pn_9) (fun m => ef_rmla m u1 ij) (fun p e s m below meth c s₁ hx hby hml hr2 hZ hown hnm X0 e0 N0 => ?_)
 refine ogo (mkF m 2 #[rv u1, iv ij] [(.ref u1), (.int ij)]) (fun _ k => XS.iloadN X0.here hx rfl (hb hby d9_0) rfl (XS.aloadN X0.here hx rfl (hb hby d9_1) rfl rfl k)) ?_
 obtain ⟨cl1, Ar1, -, Sz1, Nn1, -, -⟩ := id V_u1
 refine own_go (b := (s₁.setTop (mkF m 3 #[rv u1, iv ij] [(.int nn), (.int ij)]))) (fun _ k => X0.arraylength hx (by rw [e0]; exact Ar1.1) (State.isArrayOf_alike hZ.alike Ar1.2.1) (g := (mkF m 2 #[rv u1, iv ij] [(.ref u1), (.int ij)])) rfl rfl (hb hby d9_2) _ (by rw [len_of Sz1 Nn1]; exact k)) ?_
 refine own_stat (W := 0) X0 hx hZ hown e0 (ow hw 61 rfl) (ow hw 62 rfl) (rmci l Z a0 hw [] ij nn fv h0 n0 Z0 O0 SF hfv hp0 hp1) (ow hw 63 rfl) (ow hw 33 rfl) rfl (by rw [hml]; rfl) rfl (hb hby d9_3) (lenOf pd__II_V rfl) rfl (by decide) (fun T2 v2 Ll2 X2 hQ2 => ?_)
 obtain ⟨rfl, N2q, eh2⟩ := hQ2
 have N2 := Fr.app N0 N2q
 refine ogo (mkF m 8 #[rv u1, iv ij] [(.int ij), (.ref u1)]) (fun _ k => XS.aloadN X2.here hx rfl (hb hby d9_6) rfl rfl (XS.iloadN X2.here hx rfl (hb hby d9_7) rfl k)) ?_
 obtain ⟨cl3, Ar3, ql3, Sz3, Nn3, Hl3, Gl3⟩ := id V_u1
 have hin3 : ¬ (ij < 0 ∨ cl3.slots.size ≤ (ij).toNatClampNeg) := inb_of Sz3 ⟨hp0, hp1⟩
 refine ogo (mkF m 14 #[rv u1, iv ij] [(.int (((own_at vs ij) &&& (255 : Int32)).toUInt32.toUInt16.toUInt32.toInt32))]) (fun _ k => X2.baloadBytes hx (j := ij) (v := (.int (own_at vs ij))) (by rw [eh2]; exact Ar3.1) (State.isArrayOf_alike hZ.alike Ar3.2.1) Ar3.2.2 hin3 (Hl3.at hin3 (own_atp (Gl3 _ (Nat.lt_of_not_le fun y => hin3 (Or.inr y))))) (g := (mkF m 8 #[rv u1, iv ij] [(.int ij), (.ref u1)])) rfl rfl (hb hby d9_8) _ (XS.sipush X2.here hx rfl (hb hby d9_9) (XS.iand X2.here hx rfl (hb hby d9_12) rfl (XS.i2c X2.here hx rfl (hb hby d9_13) rfl k)))) ?_
 exact own_endN X2 hx hr2 (by simp) (hb hby d9_14) (by decide) (by decide) (by rw [eh2]; exact ⟨rfl, N2, rfl⟩)
theorem d7_0 : dk cd7 0 (.aload_n 0) 1 := by decide +kernel
theorem d7_1 : dk cd7 1 (.invokevirtual 492) 3 := by decide +kernel
theorem d7_4 : dk cd7 4 (.ifCond .eq 12) 3 := by decide +kernel
theorem d7_7 : dk cd7 7 (.aload_n 0) 1 := by decide +kernel
theorem d7_8 : dk cd7 8 (.getfield 9) 3 := by decide +kernel
theorem d7_11 : dk cd7 11 (.iload_n 1) 1 := by decide +kernel
theorem d7_12 : dk cd7 12 (.invokestatic 495) 3 := by decide +kernel
theorem d7_15 : dk cd7 15 .ireturn 1 := by decide +kernel
theorem pd___Z : parseMethodDescriptor "()Z" = some ⟨[], some .boolean⟩ := by decide +kernel
theorem pd___BI_C : parseMethodDescriptor "([BI)C" = some ⟨[(.array .byte), .int], some .char⟩ := by decide +kernel
theorem pn_7 : plainName cs1 = true := by first | (simp [plainName, overriddenIn]; done) | decide +kernel
theorem ef_rmca (m : MethodId) (x0 : Addr) (x1 : Int32) : entryFrame m #[(.ref x0), (.int x1)] 2 = mkF m 0 #[rv x0, iv x1] [] := by first | (simp [entryFrame, mkF, argsToLocals, Value.category]; done) | rfl
def Qrmca (Z : State) (a1 u1 : Addr) (ku : ClassId) (vs : List Value) (ij nn cs : Int32) (fv : Value) (h0 : Heap) (n0 : Nat) (v : Option Value) (h : Heap) (L : List Loc) : Prop := v = some (.int (own_lc (own_at vs ij))) ∧ Fr n0 L ∧ h = h0
theorem rmca (l : Launch) (Z : State) (a0 : Array Value) (hw : HW a0 Z) (ws : List Jvm.Cond) (a1 u1 : Addr) (ku : ClassId) (vs : List Value) (ij nn cs : Int32) (fv : Value) (h0 : Heap) (n0 : Nat) (Z0 : n0 ≤ h0.size) (O0 : Old Z n0 h0) (SC : Sta Z Z.heap cs1 "COMPACT_STRINGS" "Z" (.int cs)) (hcs : ¬ (cs = (0 : Int32))) (SF : Sta Z Z.heap cs4 "SIOOBE_FORMATTER" "Ljava/util/function/BiFunction;" fv) (hfv : fv = .null ∨ ∃ x : Addr, fv = .ref x) (E_a1 : Exa Z h0 a1 cs1) (Fld_a1_coder : Fld Z h0 a1 cs1 "coder" "B" (.int 0)) (Fld_a1_value : Fld Z h0 a1 cs1 "value" "[B" (.ref u1)) (V_u1 : Arv Z h0 u1 ku .byte nn vs (.int 0)) (hp0 : ¬ (ij < (0 : Int32))) (hp1 : ij < nn) :
    own_MF l (⟨cs1, "charAt", "(I)C"⟩ : MethodName) cd7 2 (some .char) ws (rom 3 0 0 40) #[(.ref a1), (.int ij)] Z h0 (Qrmca Z a1 u1 ku vs ij nn cs fv h0 n0) := by
 refine own_body n0 (plainFor_of_name pn_7) (fun m => ef_rmca m a1 ij) (fun p e s m below meth c s₁ hx hby hml hr2 hZ hown hnm X0 e0 N0 => ?_)
 refine ogo (mkF m 1 #[rv a1, iv ij] [(.ref a1)]) (fun _ k => XS.aloadN X0.here hx rfl (hb hby d7_0) rfl rfl k) ?_
 refine own_virt (W := 0) X0 hx hZ hown e0 (ow hw 49 rfl) (ow hw 50 rfl) (ow hw 52 rfl) (ow hw 51 rfl) (rmil l Z a0 hw [] a1 cs h0 n0 Z0 O0 SC hcs Fld_a1_coder) (ow hw 53 rfl) (ow hw 33 rfl) E_a1 rfl (by rw [hml]; rfl) rfl (hb hby d7_1) (lenOf pd___Z rfl) rfl (by decide) (fun T1 v1 Ll1 X1 hQ1 => ?_)
 obtain ⟨rfl, N1q, eh1⟩ := hQ1
 have N1 := Fr.app N0 N1q
 refine ogo (mkF m 8 #[rv a1, iv ij] [(.ref a1)]) (fun _ k => XS.ifNo X1.here hx rfl (hb hby d7_4) rfl ((if0 _ _).trans (feq (by decide : ¬ ((1 : Int32) = (0 : Int32)))).1) (XS.aloadN X1.here hx rfl (hb hby d7_7) rfl rfl k)) ?_
 refine own_getf X1 hx hZ hown (ow hw 56 rfl) Via.refl eh1 Fld_a1_value rfl rfl (hb hby d7_8) (fun T2 X2 e2 => ?_)
 refine ogo (mkF m 12 #[rv a1, iv ij] [(.int ij), (.ref u1)]) (fun _ k => XS.iloadN X2.here hx rfl (hb hby d7_11) rfl k) ?_
 refine own_stat (W := 0) X2 hx hZ hown e2 (ow hw 57 rfl) (ow hw 58 rfl) (rmla l Z a0 hw [] u1 ku vs ij nn fv h0 n0 Z0 O0 SF hfv V_u1 hp0 hp1) (ow hw 60 rfl) (ow hw 59 rfl) rfl (by rw [hml]; rfl) rfl (hb hby d7_12) (lenOf pd___BI_C rfl) rfl (by decide) (fun T3 v3 Ll3 X3 hQ3 => ?_)
 obtain ⟨rfl, N3q, eh3⟩ := hQ3
 have N3 := Fr.app N1 N3q
 exact own_endN X3 hx hr2 (by simp) (hb hby d7_15) (by decide) (by decide) (by rw [eh3]; exact ⟨(congrArg (fun z => some (Value.int z)) (own_nc _)), N3, rfl⟩)
theorem d5_0 : dk cd5 0 (.aload_n 0) 1 := by decide +kernel
theorem d5_1 : dk cd5 1 (.invokespecial 3) 3 := by decide +kernel
theorem d5_4 : dk cd5 4 (.getstatic 18) 3 := by decide +kernel
theorem d5_7 : dk cd5 7 (.ifCond .eq 18) 3 := by decide +kernel
theorem d5_10 : dk cd5 10 (.aload_n 0) 1 := by decide +kernel
theorem d5_11 : dk cd5 11 (.iload_n 1) 1 := by decide +kernel
theorem d5_12 : dk cd5 12 (.newarray .byte) 2 := by decide +kernel
theorem d5_14 : dk cd5 14 (.putfield 15) 3 := by decide +kernel
theorem d5_17 : dk cd5 17 (.aload_n 0) 1 := by decide +kernel
theorem d5_18 : dk cd5 18 (.iconst 0) 1 := by decide +kernel
theorem d5_19 : dk cd5 19 (.putfield 22) 3 := by decide +kernel
theorem d5_22 : dk cd5 22 (.goto 16) 3 := by decide +kernel
theorem d5_38 : dk cd5 38 .return_ 1 := by decide +kernel
theorem pn_5 : plainName cs0 = true := by first | (simp [plainName, overriddenIn]; done) | decide +kernel
theorem ef_rmai16 (m : MethodId) (x0 : Addr) (x1 : Int32) : entryFrame m #[(.ref x0), (.int x1)] 2 = mkF m 0 #[rv x0, iv x1] [] := by first | (simp [entryFrame, mkF, argsToLocals, Value.category]; done) | rfl
def Qrmai16 (Z : State) (a1 : Addr) (cs : Int32) (h0 : Heap) (n0 : Nat) (v : Option Value) (h : Heap) (L : List Loc) : Prop := ∃ (va : Addr) (kv : ClassId), v = none ∧ Fr n0 L ∧ Keep h0 h [a1] ∧ (h0.size ≤ va) ∧ (Fld Z h a1 cs0 "value" "[B" (.ref va)) ∧ (Fld Z h a1 cs0 "coder" "B" (.int 0)) ∧ (Arv Z h va kv .byte (16 : Int32) [] (.int 0)) ∧ (Fld Z h a1 cs0 "count" "I" (.int 0)) ∧ (Exa Z h va "[B")
theorem rmai16 (l : Launch) (Z : State) (a0 : Array Value) (hw : HW a0 Z) (ws : List Jvm.Cond) (a1 : Addr) (cs : Int32) (h0 : Heap) (n0 : Nat) (Z0 : n0 ≤ h0.size) (O0 : Old Z n0 h0) (SC : Sta Z Z.heap cs1 "COMPACT_STRINGS" "Z" (.int cs)) (hcs : ¬ (cs = (0 : Int32))) (E_a1 : Exa Z h0 a1 cs2) (Fld_a1_value : Fld Z h0 a1 cs0 "value" "[B" .null) (Fld_a1_coder : Fld Z h0 a1 cs0 "coder" "B" (.int 0)) (g_a1 : n0 ≤ a1) (Fld_a1_count : Fld Z h0 a1 cs0 "count" "I" (.int 0)) :
    own_MF l (⟨cs0, "<init>", "(I)V"⟩ : MethodName) cd5 2 none ws (rom 1 1 16 12) #[(.ref a1), (.int 16)] Z h0 (Qrmai16 Z a1 cs h0 n0) := by
 refine own_body n0 (plainFor_of_name pn_5) (fun m => ef_rmai16 m a1 (16 : Int32)) (fun p e s m below meth c s₁ hx hby hml hr2 hZ hown hnm X0 e0 N0 => ?_)
 refine ogo (mkF m 1 #[rv a1, iv 16] [(.ref a1)]) (fun _ k => XS.aloadN X0.here hx rfl (hb hby d5_0) rfl rfl k) ?_
 obtain ⟨T1, X1, e1, st1⟩ := initO X0 hx hZ hown (ow hw 29 rfl) (ow hw 30 rfl) (ow hw 31 rfl) e0 (g := (mkF m 1 #[rv a1, iv 16] [(.ref a1)])) rfl (by rw [hml]; rfl) rfl (hb hby d5_1) (by decide) (W := 0) (by show 2 * 0 + _ ≤ _; exact Nat.le_of_eq rfl) (by decide)
 refine ogo (mkF m 4 #[rv a1, iv 16] []) (fun _ k => st1 _ k) ?_
 obtain ⟨T2, X2, e2, st2⟩ := getS2 X1 hx hZ hown (host := "") (Or.inl (ow hw 32 rfl)) Via.refl e1 (SC.ext O0.2) (g := (mkF m 4 #[rv a1, iv 16] [])) rfl (hb hby d5_4)
 refine ogo (mkF m 12 #[rv a1, iv 16] [(.int 16), (.ref a1)]) (fun _ k => st2 _ (XS.ifNo X2.here hx rfl (hb hby d5_7) rfl ((if0 _ _).trans (feq hcs).1) (XS.aloadN X2.here hx rfl (hb hby d5_10) rfl rfl (XS.iloadN X2.here hx rfl (hb hby d5_11) rfl k)))) ?_
 obtain ⟨T3, h3, kl3, X3, e3, E3, A3, Ex3, st3⟩ := newPE X2 hx hZ (ow hw 0 rfl) e2 (g := (mkF m 12 #[rv a1, iv 16] [(.int 16), (.ref a1)])) rfl (hb hby d5_12) rfl (by decide) (cap := 16) (by decide) (by decide) (by decide) (by decide) (ad := "[B") (by decide)
 obtain ⟨b3, g3⟩ : ∃ z, z = h0.size := ⟨_, rfl⟩
 rw [← g3] at A3 Ex3 st3
 have Zs4 : n0 ≤ h3.size := Nat.le_trans Z0 E3.1
 have V3 : Arv Z h3 b3 kl3 .byte (16 : Int32) [] (.int 0) := Arv.new A3 (by decide)
 refine ogo (mkF m 14 #[rv a1, iv 16] [(.ref b3), (.ref a1)]) (fun _ k => st3 _ k) ?_
 have F5 := E_a1.ext E3
 have F6 := Fld_a1_value.ext E3
 obtain ⟨T7, h7, X7, e7, W7, st7⟩ := putF X3 hx hZ hown (host := "") (Or.inl (ow hw 34 rfl)) Via.refl e3 F6 F5 (Or.inl (ow hw 35 rfl)) (ow hw 18 rfl) (ty := (.array .byte)) (by decide) rfl rfl (g := (mkF m 14 #[rv a1, iv 16] [(.ref b3), (.ref a1)])) rfl rfl (hb hby d5_14)
 have N7 := Fr.snoc X7 N0 g_a1
 have Zs8 : n0 ≤ h7.size := Nat.le_trans Zs4 (Keep.of_wr W7).1
 have F7 : Fld Z h7 a1 cs0 "value" "[B" (.ref b3) := F6.same W7
 refine ogo (mkF m 19 #[rv a1, iv 16] [(.int 0), (.ref a1)]) (fun _ k => st7 _ (XS.aloadN X7.here hx rfl (hb hby d5_17) rfl rfl (XS.iconst X7.here hx rfl (hb hby d5_18) k))) ?_
 have F9 := F5.wr W7
 have F10 := Fld_a1_coder.ext E3
 have F11 := F10.other W7 (Or.inr (slot_ne (Or.inl (ow hw 37 rfl)) (Or.inl (ow hw 35 rfl)) (by decide) (t := .byte) (t' := (.array .byte)) (by decide) (by decide)))
 obtain ⟨T12, h12, X12, e12, W12, st12⟩ := putFN X7 hx hZ hown (ow hw 36 rfl) Via.refl e7 F11 F9 (Or.inl (ow hw 37 rfl)) (ow hw 18 rfl) (ty := .byte) (v' := (.int 0)) (by decide) rfl (by decide) (g := (mkF m 19 #[rv a1, iv 16] [(.int 0), (.ref a1)])) rfl rfl (hb hby d5_19)
 have N12 := Fr.snoc X12 N7 g_a1
 have Zs13 : n0 ≤ h12.size := Nat.le_trans Zs8 (Keep.of_wr W12).1
 have F12 : Fld Z h12 a1 cs0 "coder" "B" (.int 0) := F11.same W12
 refine ogo (mkF m 38 #[rv a1, iv 16] []) (fun _ k => st12 _ (XS.goto X12.here hx rfl (pc0 := 22) (pc' := 38) rfl (hb hby d5_22) (by decide) (by decide) k)) ?_
 have K14 := (Keep.refl h0 [a1]).ext E3
 have K15 := K14.wr W7 (Or.inl (List.mem_of_getElem? (i := 0) rfl))
 have K16 := K15.wr W12 (Or.inl (List.mem_of_getElem? (i := 0) rfl))
 have F17 := F7.other W12 (Or.inr (slot_ne (Or.inl (ow hw 35 rfl)) (Or.inl (ow hw 37 rfl)) (by decide) (t := (.array .byte)) (t' := .byte) (by decide) (by decide)))
 have nx18 : b3 ≠ a1 := (Ne.symm (own_ne E_a1.lt (Nat.le_refl _) (Nat.le_of_eq g3.symm)))
 have F19 := V3.other W7 nx18
 have F20 := F19.other W12 nx18
 have F21 := Fld_a1_count.ext E3
 have F22 := F21.other W7 (Or.inr (slot_ne (Or.inl (ow hw 80 rfl)) (Or.inl (ow hw 35 rfl)) (by decide) (t := .int) (t' := (.array .byte)) (by decide) (by decide)))
 have F23 := F22.other W12 (Or.inr (slot_ne (Or.inl (ow hw 80 rfl)) (Or.inl (ow hw 37 rfl)) (by decide) (t := .int) (t' := .byte) (by decide) (by decide)))
 have F24 := Ex3.wr W7
 have F25 := F24.wr W12
 exact own_endV X12 hx hr2 (hb hby d5_38) (by decide) (by decide) (by rw [e12]; exact ⟨b3, kl3, rfl, N12, K16, (Nat.le_trans (Nat.le_refl _) (Nat.le_of_eq g3.symm)), F17, F12, F20, F23, F25⟩)
theorem d4_0 : dk cd4 0 (.aload_n 0) 1 := by decide +kernel
theorem d4_1 : dk cd4 1 (.bipush 16) 2 := by decide +kernel
theorem d4_3 : dk cd4 3 (.invokespecial 1) 3 := by decide +kernel
theorem d4_6 : dk cd4 6 .return_ 1 := by decide +kernel
theorem pd__I_V : parseMethodDescriptor "(I)V" = some ⟨[.int], none⟩ := by decide +kernel
theorem pn_4 : plainName cs2 = true := by first | (simp [plainName, overriddenIn]; done) | decide +kernel
theorem ef_rmsi16 (m : MethodId) (x0 : Addr) : entryFrame m #[(.ref x0)] 1 = mkF m 0 #[rv x0] [] := by first | (simp [entryFrame, mkF, argsToLocals, Value.category]; done) | rfl
def Qrmsi16 (Z : State) (a1 : Addr) (cs : Int32) (h0 : Heap) (n0 : Nat) (v : Option Value) (h : Heap) (L : List Loc) : Prop := ∃ (va : Addr) (kv : ClassId), v = none ∧ Fr n0 L ∧ Keep h0 h [a1] ∧ (h0.size ≤ va) ∧ (Fld Z h a1 cs0 "value" "[B" (.ref va)) ∧ (Fld Z h a1 cs0 "coder" "B" (.int 0)) ∧ (Arv Z h va kv .byte (16 : Int32) [] (.int 0)) ∧ (Fld Z h a1 cs0 "count" "I" (.int 0)) ∧ (Exa Z h va "[B")
theorem rmsi16 (l : Launch) (Z : State) (a0 : Array Value) (hw : HW a0 Z) (ws : List Jvm.Cond) (a1 : Addr) (cs : Int32) (h0 : Heap) (n0 : Nat) (Z0 : n0 ≤ h0.size) (O0 : Old Z n0 h0) (SC : Sta Z Z.heap cs1 "COMPACT_STRINGS" "Z" (.int cs)) (hcs : ¬ (cs = (0 : Int32))) (E_a1 : Exa Z h0 a1 cs2) (Fld_a1_value : Fld Z h0 a1 cs0 "value" "[B" .null) (Fld_a1_coder : Fld Z h0 a1 cs0 "coder" "B" (.int 0)) (g_a1 : n0 ≤ a1) (Fld_a1_count : Fld Z h0 a1 cs0 "count" "I" (.int 0)) :
    own_MF l (⟨cs2, "<init>", "()V"⟩ : MethodName) cd4 1 none ws (rom 2 1 16 25) #[(.ref a1)] Z h0 (Qrmsi16 Z a1 cs h0 n0) := by
 refine own_body n0 (plainFor_of_name pn_4) (fun m => ef_rmsi16 m a1) (fun p e s m below meth c s₁ hx hby hml hr2 hZ hown hnm X0 e0 N0 => ?_)
 refine ogo (mkF m 3 #[rv a1] [(.int 16), (.ref a1)]) (fun _ k => XS.aloadN X0.here hx rfl (hb hby d4_0) rfl rfl (XS.bipush X0.here hx rfl (hb hby d4_1) k)) ?_
 refine own_spec (W := 0) X0 hx hZ hown e0 (ow hw 23 rfl) (ow hw 24 rfl) (rmai16 l Z a0 hw [] a1 cs h0 n0 Z0 O0 SC hcs E_a1 Fld_a1_value Fld_a1_coder g_a1 Fld_a1_count) (ow hw 28 rfl) (ow hw 27 rfl) rfl (by rw [hml]; rfl) rfl (hb hby d4_3) (lenOf pd__I_V rfl) rfl rfl (by decide) (fun T1 v1 Ll1 X1 hQ1 => ?_)
 obtain ⟨va_1, kv_1, rfl, N1q, K1, P1_0, P1_1, P1_2, P1_3, P1_4, P1_5⟩ := hQ1
 have N1 := Fr.app N0 N1q
 have Zs2 : n0 ≤ T1.heap.size := Nat.le_trans Z0 K1.1
 have K3 := (Keep.refl h0 [a1]).trans K1 (allS (Or.inl (List.mem_of_getElem? (i := 0) rfl)) all0)
 exact own_endV X1 hx hr2 (hb hby d4_6) (by decide) (by decide) (by exact ⟨va_1, kv_1, rfl, N1, K3, (Nat.le_trans (Nat.le_refl _) P1_0), P1_1, P1_2, P1_3, P1_4, P1_5⟩)
def Qrmai23 (Z : State) (a1 : Addr) (cs : Int32) (h0 : Heap) (n0 : Nat) (v : Option Value) (h : Heap) (L : List Loc) : Prop := ∃ (va : Addr) (kv : ClassId), v = none ∧ Fr n0 L ∧ Keep h0 h [a1] ∧ (h0.size ≤ va) ∧ (Fld Z h a1 cs0 "value" "[B" (.ref va)) ∧ (Fld Z h a1 cs0 "coder" "B" (.int 0)) ∧ (Arv Z h va kv .byte (23 : Int32) [] (.int 0)) ∧ (Fld Z h a1 cs0 "count" "I" (.int 0)) ∧ (Exa Z h va "[B")
theorem rmai23 (l : Launch) (Z : State) (a0 : Array Value) (hw : HW a0 Z) (ws : List Jvm.Cond) (a1 : Addr) (cs : Int32) (h0 : Heap) (n0 : Nat) (Z0 : n0 ≤ h0.size) (O0 : Old Z n0 h0) (SC : Sta Z Z.heap cs1 "COMPACT_STRINGS" "Z" (.int cs)) (hcs : ¬ (cs = (0 : Int32))) (E_a1 : Exa Z h0 a1 cs2) (Fld_a1_value : Fld Z h0 a1 cs0 "value" "[B" .null) (Fld_a1_coder : Fld Z h0 a1 cs0 "coder" "B" (.int 0)) (g_a1 : n0 ≤ a1) (Fld_a1_count : Fld Z h0 a1 cs0 "count" "I" (.int 0)) :
    own_MF l (⟨cs0, "<init>", "(I)V"⟩ : MethodName) cd5 2 none ws (rom 1 1 23 12) #[(.ref a1), (.int 23)] Z h0 (Qrmai23 Z a1 cs h0 n0) := by
 refine own_body n0 (plainFor_of_name pn_5) (fun m => ef_rmai16 m a1 (23 : Int32)) (fun p e s m below meth c s₁ hx hby hml hr2 hZ hown hnm X0 e0 N0 => ?_)
 refine ogo (mkF m 1 #[rv a1, iv 23] [(.ref a1)]) (fun _ k => XS.aloadN X0.here hx rfl (hb hby d5_0) rfl rfl k) ?_
 obtain ⟨T1, X1, e1, st1⟩ := initO X0 hx hZ hown (ow hw 29 rfl) (ow hw 30 rfl) (ow hw 31 rfl) e0 (g := (mkF m 1 #[rv a1, iv 23] [(.ref a1)])) rfl (by rw [hml]; rfl) rfl (hb hby d5_1) (by decide) (W := 0) (by show 2 * 0 + _ ≤ _; exact Nat.le_of_eq rfl) (by decide)
 refine ogo (mkF m 4 #[rv a1, iv 23] []) (fun _ k => st1 _ k) ?_
 obtain ⟨T2, X2, e2, st2⟩ := getS2 X1 hx hZ hown (host := "") (Or.inl (ow hw 32 rfl)) Via.refl e1 (SC.ext O0.2) (g := (mkF m 4 #[rv a1, iv 23] [])) rfl (hb hby d5_4)
 refine ogo (mkF m 12 #[rv a1, iv 23] [(.int 23), (.ref a1)]) (fun _ k => st2 _ (XS.ifNo X2.here hx rfl (hb hby d5_7) rfl ((if0 _ _).trans (feq hcs).1) (XS.aloadN X2.here hx rfl (hb hby d5_10) rfl rfl (XS.iloadN X2.here hx rfl (hb hby d5_11) rfl k)))) ?_
 obtain ⟨T3, h3, kl3, X3, e3, E3, A3, Ex3, st3⟩ := newPE X2 hx hZ (ow hw 0 rfl) e2 (g := (mkF m 12 #[rv a1, iv 23] [(.int 23), (.ref a1)])) rfl (hb hby d5_12) rfl (by decide) (cap := 23) (by decide) (by decide) (by decide) (by decide) (ad := "[B") (by decide)
 obtain ⟨b3, g3⟩ : ∃ z, z = h0.size := ⟨_, rfl⟩
 rw [← g3] at A3 Ex3 st3
 have Zs4 : n0 ≤ h3.size := Nat.le_trans Z0 E3.1
 have V3 : Arv Z h3 b3 kl3 .byte (23 : Int32) [] (.int 0) := Arv.new A3 (by decide)
 refine ogo (mkF m 14 #[rv a1, iv 23] [(.ref b3), (.ref a1)]) (fun _ k => st3 _ k) ?_
 have F5 := E_a1.ext E3
 have F6 := Fld_a1_value.ext E3
 obtain ⟨T7, h7, X7, e7, W7, st7⟩ := putF X3 hx hZ hown (host := "") (Or.inl (ow hw 34 rfl)) Via.refl e3 F6 F5 (Or.inl (ow hw 35 rfl)) (ow hw 18 rfl) (ty := (.array .byte)) (by decide) rfl rfl (g := (mkF m 14 #[rv a1, iv 23] [(.ref b3), (.ref a1)])) rfl rfl (hb hby d5_14)
 have N7 := Fr.snoc X7 N0 g_a1
 have Zs8 : n0 ≤ h7.size := Nat.le_trans Zs4 (Keep.of_wr W7).1
 have F7 : Fld Z h7 a1 cs0 "value" "[B" (.ref b3) := F6.same W7
 refine ogo (mkF m 19 #[rv a1, iv 23] [(.int 0), (.ref a1)]) (fun _ k => st7 _ (XS.aloadN X7.here hx rfl (hb hby d5_17) rfl rfl (XS.iconst X7.here hx rfl (hb hby d5_18) k))) ?_
 have F9 := F5.wr W7
 have F10 := Fld_a1_coder.ext E3
 have F11 := F10.other W7 (Or.inr (slot_ne (Or.inl (ow hw 37 rfl)) (Or.inl (ow hw 35 rfl)) (by decide) (t := .byte) (t' := (.array .byte)) (by decide) (by decide)))
 obtain ⟨T12, h12, X12, e12, W12, st12⟩ := putFN X7 hx hZ hown (ow hw 36 rfl) Via.refl e7 F11 F9 (Or.inl (ow hw 37 rfl)) (ow hw 18 rfl) (ty := .byte) (v' := (.int 0)) (by decide) rfl (by decide) (g := (mkF m 19 #[rv a1, iv 23] [(.int 0), (.ref a1)])) rfl rfl (hb hby d5_19)
 have N12 := Fr.snoc X12 N7 g_a1
 have Zs13 : n0 ≤ h12.size := Nat.le_trans Zs8 (Keep.of_wr W12).1
 have F12 : Fld Z h12 a1 cs0 "coder" "B" (.int 0) := F11.same W12
 refine ogo (mkF m 38 #[rv a1, iv 23] []) (fun _ k => st12 _ (XS.goto X12.here hx rfl (pc0 := 22) (pc' := 38) rfl (hb hby d5_22) (by decide) (by decide) k)) ?_
 have K14 := (Keep.refl h0 [a1]).ext E3
 have K15 := K14.wr W7 (Or.inl (List.mem_of_getElem? (i := 0) rfl))
 have K16 := K15.wr W12 (Or.inl (List.mem_of_getElem? (i := 0) rfl))
 have F17 := F7.other W12 (Or.inr (slot_ne (Or.inl (ow hw 35 rfl)) (Or.inl (ow hw 37 rfl)) (by decide) (t := (.array .byte)) (t' := .byte) (by decide) (by decide)))
 have nx18 : b3 ≠ a1 := (Ne.symm (own_ne E_a1.lt (Nat.le_refl _) (Nat.le_of_eq g3.symm)))
 have F19 := V3.other W7 nx18
 have F20 := F19.other W12 nx18
 have F21 := Fld_a1_count.ext E3
 have F22 := F21.other W7 (Or.inr (slot_ne (Or.inl (ow hw 80 rfl)) (Or.inl (ow hw 35 rfl)) (by decide) (t := .int) (t' := (.array .byte)) (by decide) (by decide)))
 have F23 := F22.other W12 (Or.inr (slot_ne (Or.inl (ow hw 80 rfl)) (Or.inl (ow hw 37 rfl)) (by decide) (t := .int) (t' := .byte) (by decide) (by decide)))
 have F24 := Ex3.wr W7
 have F25 := F24.wr W12
 exact own_endV X12 hx hr2 (hb hby d5_38) (by decide) (by decide) (by rw [e12]; exact ⟨b3, kl3, rfl, N12, K16, (Nat.le_trans (Nat.le_refl _) (Nat.le_of_eq g3.symm)), F17, F12, F20, F23, F25⟩)
theorem d31_0 : dk cd31 0 (.aload_n 0) 1 := by decide +kernel
theorem d31_1 : dk cd31 1 (.iload_n 1) 1 := by decide +kernel
theorem d31_2 : dk cd31 2 (.invokespecial 1) 3 := by decide +kernel
theorem d31_5 : dk cd31 5 .return_ 1 := by decide +kernel
theorem pn_31 : plainName cs2 = true := by first | (simp [plainName, overriddenIn]; done) | decide +kernel
theorem ef_rmsi23 (m : MethodId) (x0 : Addr) (x1 : Int32) : entryFrame m #[(.ref x0), (.int x1)] 2 = mkF m 0 #[rv x0, iv x1] [] := by first | (simp [entryFrame, mkF, argsToLocals, Value.category]; done) | rfl
def Qrmsi23 (Z : State) (a1 : Addr) (cs : Int32) (h0 : Heap) (n0 : Nat) (v : Option Value) (h : Heap) (L : List Loc) : Prop := ∃ (va : Addr) (kv : ClassId), v = none ∧ Fr n0 L ∧ Keep h0 h [a1] ∧ (h0.size ≤ va) ∧ (Fld Z h a1 cs0 "value" "[B" (.ref va)) ∧ (Fld Z h a1 cs0 "coder" "B" (.int 0)) ∧ (Arv Z h va kv .byte (23 : Int32) [] (.int 0)) ∧ (Fld Z h a1 cs0 "count" "I" (.int 0)) ∧ (Exa Z h va "[B")
theorem rmsi23 (l : Launch) (Z : State) (a0 : Array Value) (hw : HW a0 Z) (ws : List Jvm.Cond) (a1 : Addr) (cs : Int32) (h0 : Heap) (n0 : Nat) (Z0 : n0 ≤ h0.size) (O0 : Old Z n0 h0) (SC : Sta Z Z.heap cs1 "COMPACT_STRINGS" "Z" (.int cs)) (hcs : ¬ (cs = (0 : Int32))) (E_a1 : Exa Z h0 a1 cs2) (Fld_a1_value : Fld Z h0 a1 cs0 "value" "[B" .null) (Fld_a1_coder : Fld Z h0 a1 cs0 "coder" "B" (.int 0)) (g_a1 : n0 ≤ a1) (Fld_a1_count : Fld Z h0 a1 cs0 "count" "I" (.int 0)) :
    own_MF l (⟨cs2, "<init>", "(I)V"⟩ : MethodName) cd31 2 none ws (rom 2 1 23 25) #[(.ref a1), (.int 23)] Z h0 (Qrmsi23 Z a1 cs h0 n0) := by
 refine own_body n0 (plainFor_of_name pn_31) (fun m => ef_rmsi23 m a1 (23 : Int32)) (fun p e s m below meth c s₁ hx hby hml hr2 hZ hown hnm X0 e0 N0 => ?_)
 refine ogo (mkF m 2 #[rv a1, iv 23] [(.int 23), (.ref a1)]) (fun _ k => XS.aloadN X0.here hx rfl (hb hby d31_0) rfl rfl (XS.iloadN X0.here hx rfl (hb hby d31_1) rfl k)) ?_
 refine own_spec (W := 0) X0 hx hZ hown e0 (ow hw 23 rfl) (ow hw 24 rfl) (rmai23 l Z a0 hw [] a1 cs h0 n0 Z0 O0 SC hcs E_a1 Fld_a1_value Fld_a1_coder g_a1 Fld_a1_count) (ow hw 28 rfl) (ow hw 27 rfl) rfl (by rw [hml]; rfl) rfl (hb hby d31_2) (lenOf pd__I_V rfl) rfl rfl (by decide) (fun T1 v1 Ll1 X1 hQ1 => ?_)
 obtain ⟨va_1, kv_1, rfl, N1q, K1, P1_0, P1_1, P1_2, P1_3, P1_4, P1_5⟩ := hQ1
 have N1 := Fr.app N0 N1q
 have Zs2 : n0 ≤ T1.heap.size := Nat.le_trans Z0 K1.1
 have K3 := (Keep.refl h0 [a1]).trans K1 (allS (Or.inl (List.mem_of_getElem? (i := 0) rfl)) all0)
 exact own_endV X1 hx hr2 (hb hby d31_5) (by decide) (by decide) (by exact ⟨va_1, kv_1, rfl, N1, K3, (Nat.le_trans (Nat.le_refl _) P1_0), P1_1, P1_2, P1_3, P1_4, P1_5⟩)
theorem d15_0 : dk cd15 0 (.getstatic 18) 3 := by decide +kernel
theorem d15_3 : dk cd15 3 (.ifCond .eq 14) 3 := by decide +kernel
theorem d15_6 : dk cd15 6 (.aload_n 0) 1 := by decide +kernel
theorem d15_7 : dk cd15 7 (.getfield 22) 3 := by decide +kernel
theorem d15_10 : dk cd15 10 (.ifCond .ne 7) 3 := by decide +kernel
theorem d15_13 : dk cd15 13 (.iconst 1) 1 := by decide +kernel
theorem d15_14 : dk cd15 14 (.goto 4) 3 := by decide +kernel
theorem d15_18 : dk cd15 18 .ireturn 1 := by decide +kernel
theorem pn_15 : plainName cs0 = true := by first | (simp [plainName, overriddenIn]; done) | decide +kernel
theorem ef_rmbl (m : MethodId) (x0 : Addr) : entryFrame m #[(.ref x0)] 1 = mkF m 0 #[rv x0] [] := by first | (simp [entryFrame, mkF, argsToLocals, Value.category]; done) | rfl
def Qrmbl (Z : State) (a1 : Addr) (cs : Int32) (h0 : Heap) (n0 : Nat) (v : Option Value) (h : Heap) (L : List Loc) : Prop := v = some (.int 1) ∧ Fr n0 L ∧ h = h0
theorem rmbl (l : Launch) (Z : State) (a0 : Array Value) (hw : HW a0 Z) (ws : List Jvm.Cond) (a1 : Addr) (cs : Int32) (h0 : Heap) (n0 : Nat) (Z0 : n0 ≤ h0.size) (O0 : Old Z n0 h0) (SC : Sta Z Z.heap cs1 "COMPACT_STRINGS" "Z" (.int cs)) (hcs : ¬ (cs = (0 : Int32))) (Fld_a1_coder : Fld Z h0 a1 cs0 "coder" "B" (.int 0)) :
    own_MF l (⟨cs0, "isLatin1", "()Z"⟩ : MethodName) cd15 1 (some .boolean) ws (rom 0 0 0 0) #[(.ref a1)] Z h0 (Qrmbl Z a1 cs h0 n0) := by
 refine own_body n0 (plainFor_of_name pn_15) (fun m => ef_rmbl m a1) (fun p e s m below meth c s₁ hx hby hml hr2 hZ hown hnm X0 e0 N0 => ?_)
 obtain ⟨T1, X1, e1, st1⟩ := getS2 X0 hx hZ hown (host := "") (Or.inl (ow hw 32 rfl)) Via.refl e0 (SC.ext O0.2) (g := (mkF m 0 #[rv a1] [])) rfl (hb hby d15_0)
 refine ogo (mkF m 7 #[rv a1] [(.ref a1)]) (fun _ k => st1 _ (XS.ifNo X1.here hx rfl (hb hby d15_3) rfl ((if0 _ _).trans (feq hcs).1) (XS.aloadN X1.here hx rfl (hb hby d15_6) rfl rfl k))) ?_
 refine own_getf X1 hx hZ hown (ow hw 36 rfl) Via.refl e1 Fld_a1_coder rfl rfl (hb hby d15_7) (fun T2 X2 e2 => ?_)
 refine ogo (mkF m 18 #[rv a1] [(.int 1)]) (fun _ k => XS.ifNo X2.here hx rfl (hb hby d15_10) rfl ((if0 _ _).trans (teq (rfl : (0 : Int32) = (0 : Int32))).2) (XS.iconst X2.here hx rfl (hb hby d15_13) (XS.goto X2.here hx rfl (pc0 := 14) (pc' := 18) rfl (hb hby d15_14) (by decide) (by decide) k))) ?_
 exact own_endN X2 hx hr2 (by simp) (hb hby d15_18) (by decide) (by decide) (by rw [e2]; exact ⟨rfl, N0, rfl⟩)
theorem d16_0 : dk cd16 0 (.iload_n 0) 1 := by decide +kernel
theorem d16_1 : dk cd16 1 (.sipush 255) 3 := by decide +kernel
theorem d16_4 : dk cd16 4 (.if_icmp .gt 7) 3 := by decide +kernel
theorem d16_7 : dk cd16 7 (.iconst 1) 1 := by decide +kernel
theorem d16_8 : dk cd16 8 (.goto 4) 3 := by decide +kernel
theorem d16_12 : dk cd16 12 .ireturn 1 := by decide +kernel
theorem pn_16 : plainName cs6 = true := by first | (simp [plainName, overriddenIn]; done) | decide +kernel
theorem ef_rmce (m : MethodId) (x0 : Int32) : entryFrame m #[(.int x0)] 1 = mkF m 0 #[iv x0] [] := by first | (simp [entryFrame, mkF, argsToLocals, Value.category]; done) | rfl
def Qrmce (Z : State) (cv : Int32) (h0 : Heap) (n0 : Nat) (v : Option Value) (h : Heap) (L : List Loc) : Prop := v = some (.int 1) ∧ Fr n0 L ∧ h = h0
theorem rmce (l : Launch) (Z : State) (a0 : Array Value) (hw : HW a0 Z) (ws : List Jvm.Cond) (cv : Int32) (h0 : Heap) (n0 : Nat) (Z0 : n0 ≤ h0.size) (h8 : ¬ ((255 : Int32) < cv)) :
    own_MF l (⟨cs6, "canEncode", "(C)Z"⟩ : MethodName) cd16 1 (some .boolean) ws (rom 0 0 0 0) #[(.int cv)] Z h0 (Qrmce Z cv h0 n0) := by
 refine own_body n0 (plainFor_of_name pn_16) (fun m => ef_rmce m cv) (fun p e s m below meth c s₁ hx hby hml hr2 hZ hown hnm X0 e0 N0 => ?_)
 refine ogo (mkF m 12 #[iv cv] [(.int 1)]) (fun _ k => XS.iloadN X0.here hx rfl (hb hby d16_0) rfl (XS.sipush X0.here hx rfl (hb hby d16_1) (XS.icmpNo X0.here hx rfl (hb hby d16_4) rfl (flt h8).2.2.1 (XS.iconst X0.here hx rfl (hb hby d16_7) (XS.goto X0.here hx rfl (pc0 := 8) (pc' := 12) rfl (hb hby d16_8) (by decide) (by decide) k))))) ?_
 exact own_endN X0 hx hr2 (by simp) (hb hby d16_12) (by decide) (by decide) (by rw [e0]; exact ⟨rfl, N0, rfl⟩)
theorem d14_0 : dk cd14 0 (.aload_n 0) 1 := by decide +kernel
theorem d14_1 : dk cd14 1 (.getfield 15) 3 := by decide +kernel
theorem d14_4 : dk cd14 4 .arraylength 1 := by decide +kernel
theorem d14_5 : dk cd14 5 (.aload_n 0) 1 := by decide +kernel
theorem d14_6 : dk cd14 6 (.getfield 22) 3 := by decide +kernel
theorem d14_9 : dk cd14 9 .ishr 1 := by decide +kernel
theorem d14_10 : dk cd14 10 (.istore_n 2) 1 := by decide +kernel
theorem d14_11 : dk cd14 11 (.iload_n 1) 1 := by decide +kernel
theorem d14_12 : dk cd14 12 (.iload_n 2) 1 := by decide +kernel
theorem d14_13 : dk cd14 13 .isub 1 := by decide +kernel
theorem d14_14 : dk cd14 14 (.ifCond .le 24) 3 := by decide +kernel
theorem d14_17 : dk cd14 17 (.aload_n 0) 1 := by decide +kernel
theorem d14_18 : dk cd14 18 (.aload_n 0) 1 := by decide +kernel
theorem d14_19 : dk cd14 19 (.getfield 15) 3 := by decide +kernel
theorem d14_22 : dk cd14 22 (.aload_n 0) 1 := by decide +kernel
theorem d14_23 : dk cd14 23 (.iload_n 1) 1 := by decide +kernel
theorem d14_24 : dk cd14 24 (.invokevirtual 104) 3 := by decide +kernel
theorem d14_27 : dk cd14 27 (.aload_n 0) 1 := by decide +kernel
theorem d14_28 : dk cd14 28 (.getfield 22) 3 := by decide +kernel
theorem d14_31 : dk cd14 31 .ishl 1 := by decide +kernel
theorem d14_32 : dk cd14 32 (.invokestatic 108) 3 := by decide +kernel
theorem d14_35 : dk cd14 35 (.putfield 15) 3 := by decide +kernel
theorem d14_38 : dk cd14 38 .return_ 1 := by decide +kernel
theorem pn_14 : plainName cs0 = true := by first | (simp [plainName, overriddenIn]; done) | decide +kernel
theorem ef_rmec16 (m : MethodId) (x0 : Addr) (x1 : Int32) : entryFrame m #[(.ref x0), (.int x1)] 3 = mkF m 0 #[rv x0, iv x1, .unset] [] := by first | (simp [entryFrame, mkF, argsToLocals, Value.category]; done) | rfl
def Qrmec16 (Z : State) (a1 va : Addr) (kv : ClassId) (vs : List Value) (qv : Int32) (h0 : Heap) (n0 : Nat) (v : Option Value) (h : Heap) (L : List Loc) : Prop := v = none ∧ Fr n0 L ∧ h = h0
theorem rmec16 (l : Launch) (Z : State) (a0 : Array Value) (hw : HW a0 Z) (ws : List Jvm.Cond) (a1 va : Addr) (kv : ClassId) (vs : List Value) (qv : Int32) (h0 : Heap) (n0 : Nat) (Z0 : n0 ≤ h0.size) (Fld_a1_value : Fld Z h0 a1 cs0 "value" "[B" (.ref va)) (Fld_a1_coder : Fld Z h0 a1 cs0 "coder" "B" (.int 0)) (V_va : Arv Z h0 va kv .byte (16 : Int32) vs (.int 0)) (hq : ¬ ((0 : Int32) < (qv - (16 : Int32)))) :
    own_MF l mn0 cd14 3 none ws (rom 0 0 0 0) #[(.ref a1), (.int qv)] Z h0 (Qrmec16 Z a1 va kv vs qv h0 n0) := by
 refine own_body n0 (plainFor_of_name pn_14) (fun m => ef_rmec16 m a1 qv) (fun p e s m below meth c s₁ hx hby hml hr2 hZ hown hnm X0 e0 N0 => ?_)
 refine ogo (mkF m 1 #[rv a1, iv qv, .unset] [(.ref a1)]) (fun _ k => XS.aloadN X0.here hx rfl (hb hby d14_0) rfl rfl k) ?_
 refine own_getf X0 hx hZ hown (ow hw 34 rfl) Via.refl e0 Fld_a1_value rfl rfl (hb hby d14_1) (fun T1 X1 e1 => ?_)
 obtain ⟨cl2, Ar2, -, Sz2, Nn2, -, -⟩ := id V_va
 refine own_go (b := (T1.setTop (mkF m 6 #[rv a1, iv qv, .unset] [(.ref a1), (.int 16)]))) (fun _ k => X1.arraylength hx (by rw [e1]; exact Ar2.1) (State.isArrayOf_alike hZ.alike Ar2.2.1) (g := (mkF m 4 #[rv a1, iv qv, .unset] [(.ref va)])) rfl rfl (hb hby d14_4) _ (by rw [len_of Sz2 Nn2]; exact (XS.aloadN X1.here hx rfl (hb hby d14_5) rfl rfl k))) ?_
 refine own_getf X1 hx hZ hown (ow hw 36 rfl) Via.refl e1 Fld_a1_coder rfl rfl (hb hby d14_6) (fun T3 X3 e3 => ?_)
 refine ogo (mkF m 38 #[rv a1, iv qv, iv 16] []) (fun _ k => XS.ishr X3.here hx rfl (hb hby d14_9) rfl (XS.istoreN X3.here hx rfl (hb hby d14_10) rfl (l' := #[rv a1, iv qv, iv 16]) rfl (XS.iloadN X3.here hx rfl (hb hby d14_11) rfl (XS.iloadN X3.here hx rfl (hb hby d14_12) rfl (XS.isub X3.here hx rfl (hb hby d14_13) rfl (XS.ifYes X3.here hx rfl (pc0 := 14) (pc' := 38) rfl (hb hby d14_14) rfl ((if0 _ _).trans (flt hq).2.2.2) (by decide) (by decide) k)))))) ?_
 exact own_endV X3 hx hr2 (hb hby d14_38) (by decide) (by decide) (by rw [e3]; exact ⟨rfl, N0, rfl⟩)
theorem d13_0 : dk cd13 0 (.aload_n 0) 1 := by decide +kernel
theorem d13_1 : dk cd13 1 (.aload_n 0) 1 := by decide +kernel
theorem d13_2 : dk cd13 2 (.getfield 79) 3 := by decide +kernel
theorem d13_5 : dk cd13 5 (.iconst 1) 1 := by decide +kernel
theorem d13_6 : dk cd13 6 .iadd 1 := by decide +kernel
theorem d13_7 : dk cd13 7 (.invokevirtual 100) 3 := by decide +kernel
theorem d13_10 : dk cd13 10 (.aload_n 0) 1 := by decide +kernel
theorem d13_11 : dk cd13 11 (.invokevirtual 83) 3 := by decide +kernel
theorem d13_14 : dk cd13 14 (.ifCond .eq 31) 3 := by decide +kernel
theorem d13_17 : dk cd13 17 (.iload_n 1) 1 := by decide +kernel
theorem d13_18 : dk cd13 18 (.invokestatic 191) 3 := by decide +kernel
theorem d13_21 : dk cd13 21 (.ifCond .eq 24) 3 := by decide +kernel
theorem d13_24 : dk cd13 24 (.aload_n 0) 1 := by decide +kernel
theorem d13_25 : dk cd13 25 (.getfield 15) 3 := by decide +kernel
theorem d13_28 : dk cd13 28 (.aload_n 0) 1 := by decide +kernel
theorem d13_29 : dk cd13 29 .dup 1 := by decide +kernel
theorem d13_30 : dk cd13 30 (.getfield 79) 3 := by decide +kernel
theorem d13_33 : dk cd13 33 .dup_x1 1 := by decide +kernel
theorem d13_34 : dk cd13 34 (.iconst 1) 1 := by decide +kernel
theorem d13_35 : dk cd13 35 .iadd 1 := by decide +kernel
theorem d13_36 : dk cd13 36 (.putfield 79) 3 := by decide +kernel
theorem d13_39 : dk cd13 39 (.iload_n 1) 1 := by decide +kernel
theorem d13_40 : dk cd13 40 .i2b 1 := by decide +kernel
theorem d13_41 : dk cd13 41 .bastore 1 := by decide +kernel
theorem d13_42 : dk cd13 42 (.goto 33) 3 := by decide +kernel
theorem d13_75 : dk cd13 75 (.aload_n 0) 1 := by decide +kernel
theorem d13_76 : dk cd13 76 .areturn 1 := by decide +kernel
theorem pd__C_Z : parseMethodDescriptor "(C)Z" = some ⟨[.char], some .boolean⟩ := by decide +kernel
theorem pn_13 : plainName cs0 = true := by first | (simp [plainName, overriddenIn]; done) | decide +kernel
theorem ef_rmaa16 (m : MethodId) (x0 : Addr) (x1 : Int32) : entryFrame m #[(.ref x0), (.int x1)] 2 = mkF m 0 #[rv x0, iv x1] [] := by first | (simp [entryFrame, mkF, argsToLocals, Value.category]; done) | rfl
def Qrmaa16 (Z : State) (a1 va : Addr) (kv : ClassId) (vs : List Value) (nv cv cs : Int32) (h0 : Heap) (n0 : Nat) (v : Option Value) (h : Heap) (L : List Loc) : Prop := v = some (.ref a1) ∧ Fr n0 L ∧ Keep h0 h [a1, va] ∧ (Fld Z h a1 cs0 "value" "[B" (.ref va)) ∧ (Fld Z h a1 cs0 "coder" "B" (.int 0)) ∧ (Fld Z h a1 cs0 "count" "I" (.int (nv + (1 : Int32)))) ∧ (Arv Z h va kv .byte (16 : Int32) (vs ++ [(.int (own_lt cv))]) (.int 0))
theorem rmaa16 (l : Launch) (Z : State) (a0 : Array Value) (hw : HW a0 Z) (ws : List Jvm.Cond) (a1 va : Addr) (kv : ClassId) (vs : List Value) (nv cv cs : Int32) (h0 : Heap) (n0 : Nat) (Z0 : n0 ≤ h0.size) (O0 : Old Z n0 h0) (SC : Sta Z Z.heap cs1 "COMPACT_STRINGS" "Z" (.int cs)) (hcs : ¬ (cs = (0 : Int32))) (E_a1 : Exa Z h0 a1 cs2) (g_a1 : n0 ≤ a1) (Fld_a1_value : Fld Z h0 a1 cs0 "value" "[B" (.ref va)) (Fld_a1_coder : Fld Z h0 a1 cs0 "coder" "B" (.int 0)) (Fld_a1_count : Fld Z h0 a1 cs0 "count" "I" (.int nv)) (V_va : Arv Z h0 va kv .byte (16 : Int32) vs (.int 0)) (g_va : n0 ≤ va) (hn : ¬ nv < 0 ∧ nv < (16 : Int32)) (hl : vs.length = nv.toNatClampNeg) (h8 : ¬ ((255 : Int32) < cv)) :
    own_MF l mn1 cd13 2 (some (.object cs0)) ws (rom 1 0 0 14) #[(.ref a1), (.int cv)] Z h0 (Qrmaa16 Z a1 va kv vs nv cv cs h0 n0) := by
 refine own_body n0 (plainFor_of_name pn_13) (fun m => ef_rmaa16 m a1 cv) (fun p e s m below meth c s₁ hx hby hml hr2 hZ hown hnm X0 e0 N0 => ?_)
 refine ogo (mkF m 2 #[rv a1, iv cv] [(.ref a1), (.ref a1)]) (fun _ k => XS.aloadN X0.here hx rfl (hb hby d13_0) rfl rfl (XS.aloadN X0.here hx rfl (hb hby d13_1) rfl rfl k)) ?_
 refine own_getf X0 hx hZ hown (ow hw 79 rfl) Via.refl e0 Fld_a1_count rfl rfl (hb hby d13_2) (fun T1 X1 e1 => ?_)
 refine ogo (mkF m 7 #[rv a1, iv cv] [(.int (nv + (1 : Int32))), (.ref a1)]) (fun _ k => XS.iconst X1.here hx rfl (hb hby d13_5) (XS.iadd X1.here hx rfl (hb hby d13_6) rfl k)) ?_
 obtain ⟨cq2, qc2, qc2'⟩ := E_a1.cell
 obtain ⟨_, _, ⟨T2, Ll2, kz2, nz2⟩, -, X2, ⟨Lc2, hQ2, lz2, yz2, zz2⟩, st2⟩ := X1.privateBack hx (y := mn0) hown (mvT hZ (ow hw 81 rfl)) (mvT hZ (ow hw 82 rfl)) (own_selpV (y := mn0) (mvT hZ (ow hw 84 rfl)) (mvP hZ (ow hw 83 rfl)) (mvT hZ (ow hw 82 rfl)) (by decide)) (Cond.privateMethod_at (mvP hZ (ow hw 83 rfl) (args := #[]))) (mvT hZ (ow hw 85 rfl)) (by decide) (backOf (W := 0) (rmec16 l Z a0 hw [] a1 va kv vs (nv + (1 : Int32)) h0 n0 Z0 Fld_a1_value Fld_a1_coder V_va (own_gap nv _ hn (by decide))) hZ (ow hw 85 rfl) (ow hw 27 rfl) (by decide) (by decide)) (g := (mkF m 7 #[rv a1, iv cv] [(.int (nv + (1 : Int32))), (.ref a1)])) rfl (by rw [hml]; rfl) (Steps.refl _) (a := a1) (by rw [e1]; exact qc2) qc2' (argsL := [(.int (nv + (1 : Int32)))]) (rest := []) (lenOf pd__I_V rfl) rfl (by show 2 * 0 + _ ≤ _; exact Nat.le_of_eq rfl) (hb hby d13_7) (fun _ _ => ⟨rfl, e1, (by decide : 0 + 0 ≤ _), (by decide : 0 + 0 ≤ _)⟩)
 dsimp only [Pt.U, Pt.locs, Pt.cells, Pt.slots] at X2 lz2 yz2 zz2 st2 hQ2
 subst lz2 yz2 zz2
 obtain ⟨rfl, N2q, eh2⟩ := hQ2
 have N2 := Fr.app N0 N2q
 refine ogo (mkF m 11 #[rv a1, iv cv] [(.ref a1)]) (fun _ k => st2.trans (XS.aloadN X2.here hx rfl (hb hby d13_10) rfl rfl k)) ?_
 refine own_virt (W := 0) X2 hx hZ hown eh2 (ow hw 86 rfl) (ow hw 87 rfl) (ow hw 89 rfl) (ow hw 88 rfl) (rmbl l Z a0 hw [] a1 cs h0 n0 Z0 O0 SC hcs Fld_a1_coder) (ow hw 90 rfl) (ow hw 27 rfl) E_a1 rfl (by rw [hml]; rfl) rfl (hb hby d13_11) (lenOf pd___Z rfl) rfl (by decide) (fun T3 v3 Ll3 X3 hQ3 => ?_)
 obtain ⟨rfl, N3q, eh3⟩ := hQ3
 have N3 := Fr.app N2 N3q
 refine ogo (mkF m 18 #[rv a1, iv cv] [(.int cv)]) (fun _ k => XS.ifNo X3.here hx rfl (hb hby d13_14) rfl ((if0 _ _).trans (feq (by decide : ¬ ((1 : Int32) = (0 : Int32)))).1) (XS.iloadN X3.here hx rfl (hb hby d13_17) rfl k)) ?_
 refine own_stat (W := 0) X3 hx hZ hown eh3 (ow hw 91 rfl) (ow hw 92 rfl) (rmce l Z a0 hw [] cv h0 n0 Z0 h8) (ow hw 93 rfl) (ow hw 59 rfl) rfl (by rw [hml]; rfl) rfl (hb hby d13_18) (lenOf pd__C_Z rfl) rfl (by decide) (fun T4 v4 Ll4 X4 hQ4 => ?_)
 obtain ⟨rfl, N4q, eh4⟩ := hQ4
 have N4 := Fr.app N3 N4q
 refine ogo (mkF m 25 #[rv a1, iv cv] [(.ref a1)]) (fun _ k => XS.ifNo X4.here hx rfl (hb hby d13_21) rfl ((if0 _ _).trans (feq (by decide : ¬ ((1 : Int32) = (0 : Int32)))).1) (XS.aloadN X4.here hx rfl (hb hby d13_24) rfl rfl k)) ?_
 refine own_getf X4 hx hZ hown (ow hw 34 rfl) Via.refl eh4 Fld_a1_value rfl rfl (hb hby d13_25) (fun T5 X5 e5 => ?_)
 refine ogo (mkF m 30 #[rv a1, iv cv] [(.ref a1), (.ref a1), (.ref va)]) (fun _ k => XS.aloadN X5.here hx rfl (hb hby d13_28) rfl rfl (XS.dup X5.here hx rfl (hb hby d13_29) rfl rfl k)) ?_
 refine own_getf X5 hx hZ hown (ow hw 79 rfl) Via.refl e5 Fld_a1_count rfl rfl (hb hby d13_30) (fun T6 X6 e6 => ?_)
 refine ogo (mkF m 36 #[rv a1, iv cv] [(.int (nv + (1 : Int32))), (.ref a1), (.int nv), (.ref va)]) (fun _ k => XS.dupX1 X6.here hx rfl (hb hby d13_33) rfl rfl rfl (XS.iconst X6.here hx rfl (hb hby d13_34) (XS.iadd X6.here hx rfl (hb hby d13_35) rfl k))) ?_
 obtain ⟨T7, h7, X7, e7, W7, st7⟩ := putF X6 hx hZ hown (host := "") (Or.inl (ow hw 79 rfl)) Via.refl e6 Fld_a1_count E_a1 (Or.inl (ow hw 80 rfl)) (ow hw 18 rfl) (ty := .int) (by decide) rfl rfl (g := (mkF m 36 #[rv a1, iv cv] [(.int (nv + (1 : Int32))), (.ref a1), (.int nv), (.ref va)])) rfl rfl (hb hby d13_36)
 have N7 := Fr.snoc X7 N4 g_a1
 have Zs8 : n0 ≤ h7.size := Nat.le_trans Z0 (Keep.of_wr W7).1
 have F7 : Fld Z h7 a1 cs0 "count" "I" (.int (nv + (1 : Int32))) := Fld_a1_count.same W7
 refine ogo (mkF m 41 #[rv a1, iv cv] [(.int (cv.toInt8.toInt32)), (.int nv), (.ref va)]) (fun _ k => st7 _ (XS.iloadN X7.here hx rfl (hb hby d13_39) rfl (XS.i2b X7.here hx rfl (hb hby d13_40) rfl k))) ?_
 obtain ⟨cn10, An10, -⟩ := id V_va
 have nx11 : va ≠ a1 := (Ne.symm (ne_arr E_a1 (ow hw 18 rfl) An10))
 have F12 := V_va.other W7 nx11
 obtain ⟨cl9, Ar9, ql9, Sz9, Nn9, Hl9, Gl9⟩ := id F12
 have hin9 : ¬ (nv < 0 ∨ cl9.slots.size ≤ (nv).toNatClampNeg) := inb_of Sz9 hn
 obtain ⟨T9, h9, X9, e9, W9, st9⟩ := stB X7 hx hZ e7 Ar9 (j := nv) hin9 (g := (mkF m 41 #[rv a1, iv cv] [(.int (cv.toInt8.toInt32)), (.int nv), (.ref va)])) rfl rfl (hb hby d13_41)
 have N9 := Fr.snoc X9 N7 g_va
 have Zs13 : n0 ≤ h9.size := Nat.le_trans Zs8 (Keep.of_wr W9).1
 have V9 : Arv Z h9 va kv .byte (16 : Int32) (vs ++ [(.int (own_lt cv))]) (.int 0) := own_push Ar9 ql9 Sz9 Nn9 Hl9 Gl9 (fits_nar_byte _) W9 hl
 refine ogo (mkF m 76 #[rv a1, iv cv] [(.ref a1)]) (fun _ k => st9 _ (XS.goto X9.here hx rfl (pc0 := 42) (pc' := 75) rfl (hb hby d13_42) (by decide) (by decide) (XS.aloadN X9.here hx rfl (hb hby d13_75) rfl rfl k))) ?_
 have K14 := (Keep.refl h0 [a1, va]).wr W7 (Or.inl (List.mem_of_getElem? (i := 0) rfl))
 have K15 := K14.wr W9 (Or.inl (List.mem_of_getElem? (i := 1) rfl))
 have F16 := Fld_a1_value.other W7 (Or.inr (slot_ne (Or.inl (ow hw 35 rfl)) (Or.inl (ow hw 80 rfl)) (by decide) (t := (.array .byte)) (t' := .int) (by decide) (by decide)))
 have F17 := F16.other W9 (Or.inl (Ne.symm nx11))
 have F18 := Fld_a1_coder.other W7 (Or.inr (slot_ne (Or.inl (ow hw 37 rfl)) (Or.inl (ow hw 80 rfl)) (by decide) (t := .byte) (t' := .int) (by decide) (by decide)))
 have F19 := F18.other W9 (Or.inl (Ne.symm nx11))
 have F20 := F7.other W9 (Or.inl (Ne.symm nx11))
 exact own_endR X9 hx hr2 rfl rfl (hb hby d13_76) (by decide) (by decide) (by rw [e9]; exact ⟨rfl, N9, K15, F17, F19, F20, V9⟩)
theorem d12_0 : dk cd12 0 (.aload_n 0) 1 := by decide +kernel
theorem d12_1 : dk cd12 1 (.iload_n 1) 1 := by decide +kernel
theorem d12_2 : dk cd12 2 (.invokespecial 50) 3 := by decide +kernel
theorem d12_5 : dk cd12 5 .pop 1 := by decide +kernel
theorem d12_6 : dk cd12 6 (.aload_n 0) 1 := by decide +kernel
theorem d12_7 : dk cd12 7 .areturn 1 := by decide +kernel
theorem pd__C_Ljava_lang_AbstractStringBuilder_ : parseMethodDescriptor "(C)Ljava/lang/AbstractStringBuilder;" = some ⟨[.char], some (.object cs0)⟩ := by decide +kernel
theorem pn_12 : plainName cs2 = true := by first | (simp [plainName, overriddenIn]; done) | decide +kernel
theorem ef_rmap16 (m : MethodId) (x0 : Addr) (x1 : Int32) : entryFrame m #[(.ref x0), (.int x1)] 2 = mkF m 0 #[rv x0, iv x1] [] := by first | (simp [entryFrame, mkF, argsToLocals, Value.category]; done) | rfl
def Qrmap16 (Z : State) (a1 va : Addr) (kv : ClassId) (vs : List Value) (nv cv cs : Int32) (h0 : Heap) (n0 : Nat) (v : Option Value) (h : Heap) (L : List Loc) : Prop := v = some (.ref a1) ∧ Fr n0 L ∧ Keep h0 h [a1, va] ∧ (Fld Z h a1 cs0 "value" "[B" (.ref va)) ∧ (Fld Z h a1 cs0 "coder" "B" (.int 0)) ∧ (Fld Z h a1 cs0 "count" "I" (.int (nv + (1 : Int32)))) ∧ (Arv Z h va kv .byte (16 : Int32) (vs ++ [(.int (own_lt cv))]) (.int 0))
theorem rmap16 (l : Launch) (Z : State) (a0 : Array Value) (hw : HW a0 Z) (ws : List Jvm.Cond) (a1 va : Addr) (kv : ClassId) (vs : List Value) (nv cv cs : Int32) (h0 : Heap) (n0 : Nat) (Z0 : n0 ≤ h0.size) (O0 : Old Z n0 h0) (SC : Sta Z Z.heap cs1 "COMPACT_STRINGS" "Z" (.int cs)) (hcs : ¬ (cs = (0 : Int32))) (E_a1 : Exa Z h0 a1 cs2) (g_a1 : n0 ≤ a1) (Fld_a1_value : Fld Z h0 a1 cs0 "value" "[B" (.ref va)) (Fld_a1_coder : Fld Z h0 a1 cs0 "coder" "B" (.int 0)) (Fld_a1_count : Fld Z h0 a1 cs0 "count" "I" (.int nv)) (V_va : Arv Z h0 va kv .byte (16 : Int32) vs (.int 0)) (g_va : n0 ≤ va) (hn : ¬ nv < 0 ∧ nv < (16 : Int32)) (hl : vs.length = nv.toNatClampNeg) (h8 : ¬ ((255 : Int32) < cv)) :
    own_MF l mn4 cd12 2 (some (.object cs2)) ws (rom 2 0 0 27) #[(.ref a1), (.int cv)] Z h0 (Qrmap16 Z a1 va kv vs nv cv cs h0 n0) := by
 refine own_body n0 (plainFor_of_name pn_12) (fun m => ef_rmap16 m a1 cv) (fun p e s m below meth c s₁ hx hby hml hr2 hZ hown hnm X0 e0 N0 => ?_)
 refine ogo (mkF m 2 #[rv a1, iv cv] [(.int cv), (.ref a1)]) (fun _ k => XS.aloadN X0.here hx rfl (hb hby d12_0) rfl rfl (XS.iloadN X0.here hx rfl (hb hby d12_1) rfl k)) ?_
 refine own_super (W := 0) X0 hx hZ hown e0 (ow hw 74 rfl) (own_same (y := mn1) (z := mn0) (ow hw 84 rfl) rfl (ow hw 75 rfl) (by decide)) (ow hw 75 rfl) (ow hw 76 rfl) (rmaa16 l Z a0 hw [] a1 va kv vs nv cv cs h0 n0 Z0 O0 SC hcs E_a1 g_a1 Fld_a1_value Fld_a1_coder Fld_a1_count V_va g_va hn hl h8) (ow hw 78 rfl) (ow hw 27 rfl) (Ins.self E_a1) rfl (by rw [hml]; rfl) rfl (hb hby d12_2) (lenOf pd__C_Ljava_lang_AbstractStringBuilder_ rfl) rfl (by decide) (by decide) (fun T1 v1 Ll1 X1 hQ1 => ?_)
 obtain ⟨rfl, N1q, K1, P1_0, P1_1, P1_2, P1_3⟩ := hQ1
 have N1 := Fr.app N0 N1q
 have Zs2 : n0 ≤ T1.heap.size := Nat.le_trans Z0 K1.1
 refine ogo (mkF m 7 #[rv a1, iv cv] [(.ref a1)]) (fun _ k => XS.pop X1.here hx rfl (hb hby d12_5) rfl rfl (XS.aloadN X1.here hx rfl (hb hby d12_6) rfl rfl k)) ?_
 have K3 := (Keep.refl h0 [a1, va]).trans K1 (allS (Or.inl (List.mem_of_getElem? (i := 0) rfl)) (allS (Or.inl (List.mem_of_getElem? (i := 1) rfl)) all0))
 exact own_endR X1 hx hr2 rfl rfl (hb hby d12_7) (by decide) (by decide) (by exact ⟨rfl, N1, K3, P1_0, P1_1, P1_2, P1_3⟩)
def Qrmec34 (Z : State) (a1 va : Addr) (kv : ClassId) (vs : List Value) (qv : Int32) (h0 : Heap) (n0 : Nat) (v : Option Value) (h : Heap) (L : List Loc) : Prop := v = none ∧ Fr n0 L ∧ h = h0
theorem rmec34 (l : Launch) (Z : State) (a0 : Array Value) (hw : HW a0 Z) (ws : List Jvm.Cond) (a1 va : Addr) (kv : ClassId) (vs : List Value) (qv : Int32) (h0 : Heap) (n0 : Nat) (Z0 : n0 ≤ h0.size) (Fld_a1_value : Fld Z h0 a1 cs0 "value" "[B" (.ref va)) (Fld_a1_coder : Fld Z h0 a1 cs0 "coder" "B" (.int 0)) (V_va : Arv Z h0 va kv .byte (34 : Int32) vs (.int 0)) (hq : ¬ ((0 : Int32) < (qv - (34 : Int32)))) :
    own_MF l mn0 cd14 3 none ws (rom 0 0 0 0) #[(.ref a1), (.int qv)] Z h0 (Qrmec34 Z a1 va kv vs qv h0 n0) := by
 refine own_body n0 (plainFor_of_name pn_14) (fun m => ef_rmec16 m a1 qv) (fun p e s m below meth c s₁ hx hby hml hr2 hZ hown hnm X0 e0 N0 => ?_)
 refine ogo (mkF m 1 #[rv a1, iv qv, .unset] [(.ref a1)]) (fun _ k => XS.aloadN X0.here hx rfl (hb hby d14_0) rfl rfl k) ?_
 refine own_getf X0 hx hZ hown (ow hw 34 rfl) Via.refl e0 Fld_a1_value rfl rfl (hb hby d14_1) (fun T1 X1 e1 => ?_)
 obtain ⟨cl2, Ar2, -, Sz2, Nn2, -, -⟩ := id V_va
 refine own_go (b := (T1.setTop (mkF m 6 #[rv a1, iv qv, .unset] [(.ref a1), (.int 34)]))) (fun _ k => X1.arraylength hx (by rw [e1]; exact Ar2.1) (State.isArrayOf_alike hZ.alike Ar2.2.1) (g := (mkF m 4 #[rv a1, iv qv, .unset] [(.ref va)])) rfl rfl (hb hby d14_4) _ (by rw [len_of Sz2 Nn2]; exact (XS.aloadN X1.here hx rfl (hb hby d14_5) rfl rfl k))) ?_
 refine own_getf X1 hx hZ hown (ow hw 36 rfl) Via.refl e1 Fld_a1_coder rfl rfl (hb hby d14_6) (fun T3 X3 e3 => ?_)
 refine ogo (mkF m 38 #[rv a1, iv qv, iv 34] []) (fun _ k => XS.ishr X3.here hx rfl (hb hby d14_9) rfl (XS.istoreN X3.here hx rfl (hb hby d14_10) rfl (l' := #[rv a1, iv qv, iv 34]) rfl (XS.iloadN X3.here hx rfl (hb hby d14_11) rfl (XS.iloadN X3.here hx rfl (hb hby d14_12) rfl (XS.isub X3.here hx rfl (hb hby d14_13) rfl (XS.ifYes X3.here hx rfl (pc0 := 14) (pc' := 38) rfl (hb hby d14_14) rfl ((if0 _ _).trans (flt hq).2.2.2) (by decide) (by decide) k)))))) ?_
 exact own_endV X3 hx hr2 (hb hby d14_38) (by decide) (by decide) (by rw [e3]; exact ⟨rfl, N0, rfl⟩)
def Qrmaa34 (Z : State) (a1 va : Addr) (kv : ClassId) (vs : List Value) (nv cv cs : Int32) (h0 : Heap) (n0 : Nat) (v : Option Value) (h : Heap) (L : List Loc) : Prop := v = some (.ref a1) ∧ Fr n0 L ∧ Keep h0 h [a1, va] ∧ (Fld Z h a1 cs0 "value" "[B" (.ref va)) ∧ (Fld Z h a1 cs0 "coder" "B" (.int 0)) ∧ (Fld Z h a1 cs0 "count" "I" (.int (nv + (1 : Int32)))) ∧ (Arv Z h va kv .byte (34 : Int32) (vs ++ [(.int (own_lt cv))]) (.int 0))
theorem rmaa34 (l : Launch) (Z : State) (a0 : Array Value) (hw : HW a0 Z) (ws : List Jvm.Cond) (a1 va : Addr) (kv : ClassId) (vs : List Value) (nv cv cs : Int32) (h0 : Heap) (n0 : Nat) (Z0 : n0 ≤ h0.size) (O0 : Old Z n0 h0) (SC : Sta Z Z.heap cs1 "COMPACT_STRINGS" "Z" (.int cs)) (hcs : ¬ (cs = (0 : Int32))) (E_a1 : Exa Z h0 a1 cs2) (g_a1 : n0 ≤ a1) (Fld_a1_value : Fld Z h0 a1 cs0 "value" "[B" (.ref va)) (Fld_a1_coder : Fld Z h0 a1 cs0 "coder" "B" (.int 0)) (Fld_a1_count : Fld Z h0 a1 cs0 "count" "I" (.int nv)) (V_va : Arv Z h0 va kv .byte (34 : Int32) vs (.int 0)) (g_va : n0 ≤ va) (hn : ¬ nv < 0 ∧ nv < (34 : Int32)) (hl : vs.length = nv.toNatClampNeg) (h8 : ¬ ((255 : Int32) < cv)) :
    own_MF l mn1 cd13 2 (some (.object cs0)) ws (rom 1 0 0 14) #[(.ref a1), (.int cv)] Z h0 (Qrmaa34 Z a1 va kv vs nv cv cs h0 n0) := by
 refine own_body n0 (plainFor_of_name pn_13) (fun m => ef_rmaa16 m a1 cv) (fun p e s m below meth c s₁ hx hby hml hr2 hZ hown hnm X0 e0 N0 => ?_)
 refine ogo (mkF m 2 #[rv a1, iv cv] [(.ref a1), (.ref a1)]) (fun _ k => XS.aloadN X0.here hx rfl (hb hby d13_0) rfl rfl (XS.aloadN X0.here hx rfl (hb hby d13_1) rfl rfl k)) ?_
 refine own_getf X0 hx hZ hown (ow hw 79 rfl) Via.refl e0 Fld_a1_count rfl rfl (hb hby d13_2) (fun T1 X1 e1 => ?_)
 refine ogo (mkF m 7 #[rv a1, iv cv] [(.int (nv + (1 : Int32))), (.ref a1)]) (fun _ k => XS.iconst X1.here hx rfl (hb hby d13_5) (XS.iadd X1.here hx rfl (hb hby d13_6) rfl k)) ?_
 obtain ⟨cq2, qc2, qc2'⟩ := E_a1.cell
 obtain ⟨_, _, ⟨T2, Ll2, kz2, nz2⟩, -, X2, ⟨Lc2, hQ2, lz2, yz2, zz2⟩, st2⟩ := X1.privateBack hx (y := mn0) hown (mvT hZ (ow hw 81 rfl)) (mvT hZ (ow hw 82 rfl)) (own_selpV (y := mn0) (mvT hZ (ow hw 84 rfl)) (mvP hZ (ow hw 83 rfl)) (mvT hZ (ow hw 82 rfl)) (by decide)) (Cond.privateMethod_at (mvP hZ (ow hw 83 rfl) (args := #[]))) (mvT hZ (ow hw 85 rfl)) (by decide) (backOf (W := 0) (rmec34 l Z a0 hw [] a1 va kv vs (nv + (1 : Int32)) h0 n0 Z0 Fld_a1_value Fld_a1_coder V_va (own_gap nv _ hn (by decide))) hZ (ow hw 85 rfl) (ow hw 27 rfl) (by decide) (by decide)) (g := (mkF m 7 #[rv a1, iv cv] [(.int (nv + (1 : Int32))), (.ref a1)])) rfl (by rw [hml]; rfl) (Steps.refl _) (a := a1) (by rw [e1]; exact qc2) qc2' (argsL := [(.int (nv + (1 : Int32)))]) (rest := []) (lenOf pd__I_V rfl) rfl (by show 2 * 0 + _ ≤ _; exact Nat.le_of_eq rfl) (hb hby d13_7) (fun _ _ => ⟨rfl, e1, (by decide : 0 + 0 ≤ _), (by decide : 0 + 0 ≤ _)⟩)
 dsimp only [Pt.U, Pt.locs, Pt.cells, Pt.slots] at X2 lz2 yz2 zz2 st2 hQ2
 subst lz2 yz2 zz2
 obtain ⟨rfl, N2q, eh2⟩ := hQ2
 have N2 := Fr.app N0 N2q
 refine ogo (mkF m 11 #[rv a1, iv cv] [(.ref a1)]) (fun _ k => st2.trans (XS.aloadN X2.here hx rfl (hb hby d13_10) rfl rfl k)) ?_
 refine own_virt (W := 0) X2 hx hZ hown eh2 (ow hw 86 rfl) (ow hw 87 rfl) (ow hw 89 rfl) (ow hw 88 rfl) (rmbl l Z a0 hw [] a1 cs h0 n0 Z0 O0 SC hcs Fld_a1_coder) (ow hw 90 rfl) (ow hw 27 rfl) E_a1 rfl (by rw [hml]; rfl) rfl (hb hby d13_11) (lenOf pd___Z rfl) rfl (by decide) (fun T3 v3 Ll3 X3 hQ3 => ?_)
 obtain ⟨rfl, N3q, eh3⟩ := hQ3
 have N3 := Fr.app N2 N3q
 refine ogo (mkF m 18 #[rv a1, iv cv] [(.int cv)]) (fun _ k => XS.ifNo X3.here hx rfl (hb hby d13_14) rfl ((if0 _ _).trans (feq (by decide : ¬ ((1 : Int32) = (0 : Int32)))).1) (XS.iloadN X3.here hx rfl (hb hby d13_17) rfl k)) ?_
 refine own_stat (W := 0) X3 hx hZ hown eh3 (ow hw 91 rfl) (ow hw 92 rfl) (rmce l Z a0 hw [] cv h0 n0 Z0 h8) (ow hw 93 rfl) (ow hw 59 rfl) rfl (by rw [hml]; rfl) rfl (hb hby d13_18) (lenOf pd__C_Z rfl) rfl (by decide) (fun T4 v4 Ll4 X4 hQ4 => ?_)
 obtain ⟨rfl, N4q, eh4⟩ := hQ4
 have N4 := Fr.app N3 N4q
 refine ogo (mkF m 25 #[rv a1, iv cv] [(.ref a1)]) (fun _ k => XS.ifNo X4.here hx rfl (hb hby d13_21) rfl ((if0 _ _).trans (feq (by decide : ¬ ((1 : Int32) = (0 : Int32)))).1) (XS.aloadN X4.here hx rfl (hb hby d13_24) rfl rfl k)) ?_
 refine own_getf X4 hx hZ hown (ow hw 34 rfl) Via.refl eh4 Fld_a1_value rfl rfl (hb hby d13_25) (fun T5 X5 e5 => ?_)
 refine ogo (mkF m 30 #[rv a1, iv cv] [(.ref a1), (.ref a1), (.ref va)]) (fun _ k => XS.aloadN X5.here hx rfl (hb hby d13_28) rfl rfl (XS.dup X5.here hx rfl (hb hby d13_29) rfl rfl k)) ?_
 refine own_getf X5 hx hZ hown (ow hw 79 rfl) Via.refl e5 Fld_a1_count rfl rfl (hb hby d13_30) (fun T6 X6 e6 => ?_)
 refine ogo (mkF m 36 #[rv a1, iv cv] [(.int (nv + (1 : Int32))), (.ref a1), (.int nv), (.ref va)]) (fun _ k => XS.dupX1 X6.here hx rfl (hb hby d13_33) rfl rfl rfl (XS.iconst X6.here hx rfl (hb hby d13_34) (XS.iadd X6.here hx rfl (hb hby d13_35) rfl k))) ?_
 obtain ⟨T7, h7, X7, e7, W7, st7⟩ := putF X6 hx hZ hown (host := "") (Or.inl (ow hw 79 rfl)) Via.refl e6 Fld_a1_count E_a1 (Or.inl (ow hw 80 rfl)) (ow hw 18 rfl) (ty := .int) (by decide) rfl rfl (g := (mkF m 36 #[rv a1, iv cv] [(.int (nv + (1 : Int32))), (.ref a1), (.int nv), (.ref va)])) rfl rfl (hb hby d13_36)
 have N7 := Fr.snoc X7 N4 g_a1
 have Zs8 : n0 ≤ h7.size := Nat.le_trans Z0 (Keep.of_wr W7).1
 have F7 : Fld Z h7 a1 cs0 "count" "I" (.int (nv + (1 : Int32))) := Fld_a1_count.same W7
 refine ogo (mkF m 41 #[rv a1, iv cv] [(.int (cv.toInt8.toInt32)), (.int nv), (.ref va)]) (fun _ k => st7 _ (XS.iloadN X7.here hx rfl (hb hby d13_39) rfl (XS.i2b X7.here hx rfl (hb hby d13_40) rfl k))) ?_
 obtain ⟨cn10, An10, -⟩ := id V_va
 have nx11 : va ≠ a1 := (Ne.symm (ne_arr E_a1 (ow hw 18 rfl) An10))
 have F12 := V_va.other W7 nx11
 obtain ⟨cl9, Ar9, ql9, Sz9, Nn9, Hl9, Gl9⟩ := id F12
 have hin9 : ¬ (nv < 0 ∨ cl9.slots.size ≤ (nv).toNatClampNeg) := inb_of Sz9 hn
 obtain ⟨T9, h9, X9, e9, W9, st9⟩ := stB X7 hx hZ e7 Ar9 (j := nv) hin9 (g := (mkF m 41 #[rv a1, iv cv] [(.int (cv.toInt8.toInt32)), (.int nv), (.ref va)])) rfl rfl (hb hby d13_41)
 have N9 := Fr.snoc X9 N7 g_va
 have Zs13 : n0 ≤ h9.size := Nat.le_trans Zs8 (Keep.of_wr W9).1
 have V9 : Arv Z h9 va kv .byte (34 : Int32) (vs ++ [(.int (own_lt cv))]) (.int 0) := own_push Ar9 ql9 Sz9 Nn9 Hl9 Gl9 (fits_nar_byte _) W9 hl
 refine ogo (mkF m 76 #[rv a1, iv cv] [(.ref a1)]) (fun _ k => st9 _ (XS.goto X9.here hx rfl (pc0 := 42) (pc' := 75) rfl (hb hby d13_42) (by decide) (by decide) (XS.aloadN X9.here hx rfl (hb hby d13_75) rfl rfl k))) ?_
 have K14 := (Keep.refl h0 [a1, va]).wr W7 (Or.inl (List.mem_of_getElem? (i := 0) rfl))
 have K15 := K14.wr W9 (Or.inl (List.mem_of_getElem? (i := 1) rfl))
 have F16 := Fld_a1_value.other W7 (Or.inr (slot_ne (Or.inl (ow hw 35 rfl)) (Or.inl (ow hw 80 rfl)) (by decide) (t := (.array .byte)) (t' := .int) (by decide) (by decide)))
 have F17 := F16.other W9 (Or.inl (Ne.symm nx11))
 have F18 := Fld_a1_coder.other W7 (Or.inr (slot_ne (Or.inl (ow hw 37 rfl)) (Or.inl (ow hw 80 rfl)) (by decide) (t := .byte) (t' := .int) (by decide) (by decide)))
 have F19 := F18.other W9 (Or.inl (Ne.symm nx11))
 have F20 := F7.other W9 (Or.inl (Ne.symm nx11))
 exact own_endR X9 hx hr2 rfl rfl (hb hby d13_76) (by decide) (by decide) (by rw [e9]; exact ⟨rfl, N9, K15, F17, F19, F20, V9⟩)
def Qrmap34 (Z : State) (a1 va : Addr) (kv : ClassId) (vs : List Value) (nv cv cs : Int32) (h0 : Heap) (n0 : Nat) (v : Option Value) (h : Heap) (L : List Loc) : Prop := v = some (.ref a1) ∧ Fr n0 L ∧ Keep h0 h [a1, va] ∧ (Fld Z h a1 cs0 "value" "[B" (.ref va)) ∧ (Fld Z h a1 cs0 "coder" "B" (.int 0)) ∧ (Fld Z h a1 cs0 "count" "I" (.int (nv + (1 : Int32)))) ∧ (Arv Z h va kv .byte (34 : Int32) (vs ++ [(.int (own_lt cv))]) (.int 0))
theorem rmap34 (l : Launch) (Z : State) (a0 : Array Value) (hw : HW a0 Z) (ws : List Jvm.Cond) (a1 va : Addr) (kv : ClassId) (vs : List Value) (nv cv cs : Int32) (h0 : Heap) (n0 : Nat) (Z0 : n0 ≤ h0.size) (O0 : Old Z n0 h0) (SC : Sta Z Z.heap cs1 "COMPACT_STRINGS" "Z" (.int cs)) (hcs : ¬ (cs = (0 : Int32))) (E_a1 : Exa Z h0 a1 cs2) (g_a1 : n0 ≤ a1) (Fld_a1_value : Fld Z h0 a1 cs0 "value" "[B" (.ref va)) (Fld_a1_coder : Fld Z h0 a1 cs0 "coder" "B" (.int 0)) (Fld_a1_count : Fld Z h0 a1 cs0 "count" "I" (.int nv)) (V_va : Arv Z h0 va kv .byte (34 : Int32) vs (.int 0)) (g_va : n0 ≤ va) (hn : ¬ nv < 0 ∧ nv < (34 : Int32)) (hl : vs.length = nv.toNatClampNeg) (h8 : ¬ ((255 : Int32) < cv)) :
    own_MF l mn4 cd12 2 (some (.object cs2)) ws (rom 2 0 0 27) #[(.ref a1), (.int cv)] Z h0 (Qrmap34 Z a1 va kv vs nv cv cs h0 n0) := by
 refine own_body n0 (plainFor_of_name pn_12) (fun m => ef_rmap16 m a1 cv) (fun p e s m below meth c s₁ hx hby hml hr2 hZ hown hnm X0 e0 N0 => ?_)
 refine ogo (mkF m 2 #[rv a1, iv cv] [(.int cv), (.ref a1)]) (fun _ k => XS.aloadN X0.here hx rfl (hb hby d12_0) rfl rfl (XS.iloadN X0.here hx rfl (hb hby d12_1) rfl k)) ?_
 refine own_super (W := 0) X0 hx hZ hown e0 (ow hw 74 rfl) (own_same (y := mn1) (z := mn0) (ow hw 84 rfl) rfl (ow hw 75 rfl) (by decide)) (ow hw 75 rfl) (ow hw 76 rfl) (rmaa34 l Z a0 hw [] a1 va kv vs nv cv cs h0 n0 Z0 O0 SC hcs E_a1 g_a1 Fld_a1_value Fld_a1_coder Fld_a1_count V_va g_va hn hl h8) (ow hw 78 rfl) (ow hw 27 rfl) (Ins.self E_a1) rfl (by rw [hml]; rfl) rfl (hb hby d12_2) (lenOf pd__C_Ljava_lang_AbstractStringBuilder_ rfl) rfl (by decide) (by decide) (fun T1 v1 Ll1 X1 hQ1 => ?_)
 obtain ⟨rfl, N1q, K1, P1_0, P1_1, P1_2, P1_3⟩ := hQ1
 have N1 := Fr.app N0 N1q
 have Zs2 : n0 ≤ T1.heap.size := Nat.le_trans Z0 K1.1
 refine ogo (mkF m 7 #[rv a1, iv cv] [(.ref a1)]) (fun _ k => XS.pop X1.here hx rfl (hb hby d12_5) rfl rfl (XS.aloadN X1.here hx rfl (hb hby d12_6) rfl rfl k)) ?_
 have K3 := (Keep.refl h0 [a1, va]).trans K1 (allS (Or.inl (List.mem_of_getElem? (i := 0) rfl)) (allS (Or.inl (List.mem_of_getElem? (i := 1) rfl)) all0))
 exact own_endR X1 hx hr2 rfl rfl (hb hby d12_7) (by decide) (by decide) (by exact ⟨rfl, N1, K3, P1_0, P1_1, P1_2, P1_3⟩)
def Qrmec23 (Z : State) (a1 va : Addr) (kv : ClassId) (vs : List Value) (qv : Int32) (h0 : Heap) (n0 : Nat) (v : Option Value) (h : Heap) (L : List Loc) : Prop := v = none ∧ Fr n0 L ∧ h = h0
theorem rmec23 (l : Launch) (Z : State) (a0 : Array Value) (hw : HW a0 Z) (ws : List Jvm.Cond) (a1 va : Addr) (kv : ClassId) (vs : List Value) (qv : Int32) (h0 : Heap) (n0 : Nat) (Z0 : n0 ≤ h0.size) (Fld_a1_value : Fld Z h0 a1 cs0 "value" "[B" (.ref va)) (Fld_a1_coder : Fld Z h0 a1 cs0 "coder" "B" (.int 0)) (V_va : Arv Z h0 va kv .byte (23 : Int32) vs (.int 0)) (hq : ¬ ((0 : Int32) < (qv - (23 : Int32)))) :
    own_MF l mn0 cd14 3 none ws (rom 0 0 0 0) #[(.ref a1), (.int qv)] Z h0 (Qrmec23 Z a1 va kv vs qv h0 n0) := by
 refine own_body n0 (plainFor_of_name pn_14) (fun m => ef_rmec16 m a1 qv) (fun p e s m below meth c s₁ hx hby hml hr2 hZ hown hnm X0 e0 N0 => ?_)
 refine ogo (mkF m 1 #[rv a1, iv qv, .unset] [(.ref a1)]) (fun _ k => XS.aloadN X0.here hx rfl (hb hby d14_0) rfl rfl k) ?_
 refine own_getf X0 hx hZ hown (ow hw 34 rfl) Via.refl e0 Fld_a1_value rfl rfl (hb hby d14_1) (fun T1 X1 e1 => ?_)
 obtain ⟨cl2, Ar2, -, Sz2, Nn2, -, -⟩ := id V_va
 refine own_go (b := (T1.setTop (mkF m 6 #[rv a1, iv qv, .unset] [(.ref a1), (.int 23)]))) (fun _ k => X1.arraylength hx (by rw [e1]; exact Ar2.1) (State.isArrayOf_alike hZ.alike Ar2.2.1) (g := (mkF m 4 #[rv a1, iv qv, .unset] [(.ref va)])) rfl rfl (hb hby d14_4) _ (by rw [len_of Sz2 Nn2]; exact (XS.aloadN X1.here hx rfl (hb hby d14_5) rfl rfl k))) ?_
 refine own_getf X1 hx hZ hown (ow hw 36 rfl) Via.refl e1 Fld_a1_coder rfl rfl (hb hby d14_6) (fun T3 X3 e3 => ?_)
 refine ogo (mkF m 38 #[rv a1, iv qv, iv 23] []) (fun _ k => XS.ishr X3.here hx rfl (hb hby d14_9) rfl (XS.istoreN X3.here hx rfl (hb hby d14_10) rfl (l' := #[rv a1, iv qv, iv 23]) rfl (XS.iloadN X3.here hx rfl (hb hby d14_11) rfl (XS.iloadN X3.here hx rfl (hb hby d14_12) rfl (XS.isub X3.here hx rfl (hb hby d14_13) rfl (XS.ifYes X3.here hx rfl (pc0 := 14) (pc' := 38) rfl (hb hby d14_14) rfl ((if0 _ _).trans (flt hq).2.2.2) (by decide) (by decide) k)))))) ?_
 exact own_endV X3 hx hr2 (hb hby d14_38) (by decide) (by decide) (by rw [e3]; exact ⟨rfl, N0, rfl⟩)
def Qrmaa23 (Z : State) (a1 va : Addr) (kv : ClassId) (vs : List Value) (nv cv cs : Int32) (h0 : Heap) (n0 : Nat) (v : Option Value) (h : Heap) (L : List Loc) : Prop := v = some (.ref a1) ∧ Fr n0 L ∧ Keep h0 h [a1, va] ∧ (Fld Z h a1 cs0 "value" "[B" (.ref va)) ∧ (Fld Z h a1 cs0 "coder" "B" (.int 0)) ∧ (Fld Z h a1 cs0 "count" "I" (.int (nv + (1 : Int32)))) ∧ (Arv Z h va kv .byte (23 : Int32) (vs ++ [(.int (own_lt cv))]) (.int 0))
theorem rmaa23 (l : Launch) (Z : State) (a0 : Array Value) (hw : HW a0 Z) (ws : List Jvm.Cond) (a1 va : Addr) (kv : ClassId) (vs : List Value) (nv cv cs : Int32) (h0 : Heap) (n0 : Nat) (Z0 : n0 ≤ h0.size) (O0 : Old Z n0 h0) (SC : Sta Z Z.heap cs1 "COMPACT_STRINGS" "Z" (.int cs)) (hcs : ¬ (cs = (0 : Int32))) (E_a1 : Exa Z h0 a1 cs2) (g_a1 : n0 ≤ a1) (Fld_a1_value : Fld Z h0 a1 cs0 "value" "[B" (.ref va)) (Fld_a1_coder : Fld Z h0 a1 cs0 "coder" "B" (.int 0)) (Fld_a1_count : Fld Z h0 a1 cs0 "count" "I" (.int nv)) (V_va : Arv Z h0 va kv .byte (23 : Int32) vs (.int 0)) (g_va : n0 ≤ va) (hn : ¬ nv < 0 ∧ nv < (23 : Int32)) (hl : vs.length = nv.toNatClampNeg) (h8 : ¬ ((255 : Int32) < cv)) :
    own_MF l mn1 cd13 2 (some (.object cs0)) ws (rom 1 0 0 14) #[(.ref a1), (.int cv)] Z h0 (Qrmaa23 Z a1 va kv vs nv cv cs h0 n0) := by
 refine own_body n0 (plainFor_of_name pn_13) (fun m => ef_rmaa16 m a1 cv) (fun p e s m below meth c s₁ hx hby hml hr2 hZ hown hnm X0 e0 N0 => ?_)
 refine ogo (mkF m 2 #[rv a1, iv cv] [(.ref a1), (.ref a1)]) (fun _ k => XS.aloadN X0.here hx rfl (hb hby d13_0) rfl rfl (XS.aloadN X0.here hx rfl (hb hby d13_1) rfl rfl k)) ?_
 refine own_getf X0 hx hZ hown (ow hw 79 rfl) Via.refl e0 Fld_a1_count rfl rfl (hb hby d13_2) (fun T1 X1 e1 => ?_)
 refine ogo (mkF m 7 #[rv a1, iv cv] [(.int (nv + (1 : Int32))), (.ref a1)]) (fun _ k => XS.iconst X1.here hx rfl (hb hby d13_5) (XS.iadd X1.here hx rfl (hb hby d13_6) rfl k)) ?_
 obtain ⟨cq2, qc2, qc2'⟩ := E_a1.cell
 obtain ⟨_, _, ⟨T2, Ll2, kz2, nz2⟩, -, X2, ⟨Lc2, hQ2, lz2, yz2, zz2⟩, st2⟩ := X1.privateBack hx (y := mn0) hown (mvT hZ (ow hw 81 rfl)) (mvT hZ (ow hw 82 rfl)) (own_selpV (y := mn0) (mvT hZ (ow hw 84 rfl)) (mvP hZ (ow hw 83 rfl)) (mvT hZ (ow hw 82 rfl)) (by decide)) (Cond.privateMethod_at (mvP hZ (ow hw 83 rfl) (args := #[]))) (mvT hZ (ow hw 85 rfl)) (by decide) (backOf (W := 0) (rmec23 l Z a0 hw [] a1 va kv vs (nv + (1 : Int32)) h0 n0 Z0 Fld_a1_value Fld_a1_coder V_va (own_gap nv _ hn (by decide))) hZ (ow hw 85 rfl) (ow hw 27 rfl) (by decide) (by decide)) (g := (mkF m 7 #[rv a1, iv cv] [(.int (nv + (1 : Int32))), (.ref a1)])) rfl (by rw [hml]; rfl) (Steps.refl _) (a := a1) (by rw [e1]; exact qc2) qc2' (argsL := [(.int (nv + (1 : Int32)))]) (rest := []) (lenOf pd__I_V rfl) rfl (by show 2 * 0 + _ ≤ _; exact Nat.le_of_eq rfl) (hb hby d13_7) (fun _ _ => ⟨rfl, e1, (by decide : 0 + 0 ≤ _), (by decide : 0 + 0 ≤ _)⟩)
 dsimp only [Pt.U, Pt.locs, Pt.cells, Pt.slots] at X2 lz2 yz2 zz2 st2 hQ2
 subst lz2 yz2 zz2
 obtain ⟨rfl, N2q, eh2⟩ := hQ2
 have N2 := Fr.app N0 N2q
 refine ogo (mkF m 11 #[rv a1, iv cv] [(.ref a1)]) (fun _ k => st2.trans (XS.aloadN X2.here hx rfl (hb hby d13_10) rfl rfl k)) ?_
 refine own_virt (W := 0) X2 hx hZ hown eh2 (ow hw 86 rfl) (ow hw 87 rfl) (ow hw 89 rfl) (ow hw 88 rfl) (rmbl l Z a0 hw [] a1 cs h0 n0 Z0 O0 SC hcs Fld_a1_coder) (ow hw 90 rfl) (ow hw 27 rfl) E_a1 rfl (by rw [hml]; rfl) rfl (hb hby d13_11) (lenOf pd___Z rfl) rfl (by decide) (fun T3 v3 Ll3 X3 hQ3 => ?_)
 obtain ⟨rfl, N3q, eh3⟩ := hQ3
 have N3 := Fr.app N2 N3q
 refine ogo (mkF m 18 #[rv a1, iv cv] [(.int cv)]) (fun _ k => XS.ifNo X3.here hx rfl (hb hby d13_14) rfl ((if0 _ _).trans (feq (by decide : ¬ ((1 : Int32) = (0 : Int32)))).1) (XS.iloadN X3.here hx rfl (hb hby d13_17) rfl k)) ?_
 refine own_stat (W := 0) X3 hx hZ hown eh3 (ow hw 91 rfl) (ow hw 92 rfl) (rmce l Z a0 hw [] cv h0 n0 Z0 h8) (ow hw 93 rfl) (ow hw 59 rfl) rfl (by rw [hml]; rfl) rfl (hb hby d13_18) (lenOf pd__C_Z rfl) rfl (by decide) (fun T4 v4 Ll4 X4 hQ4 => ?_)
 obtain ⟨rfl, N4q, eh4⟩ := hQ4
 have N4 := Fr.app N3 N4q
 refine ogo (mkF m 25 #[rv a1, iv cv] [(.ref a1)]) (fun _ k => XS.ifNo X4.here hx rfl (hb hby d13_21) rfl ((if0 _ _).trans (feq (by decide : ¬ ((1 : Int32) = (0 : Int32)))).1) (XS.aloadN X4.here hx rfl (hb hby d13_24) rfl rfl k)) ?_
 refine own_getf X4 hx hZ hown (ow hw 34 rfl) Via.refl eh4 Fld_a1_value rfl rfl (hb hby d13_25) (fun T5 X5 e5 => ?_)
 refine ogo (mkF m 30 #[rv a1, iv cv] [(.ref a1), (.ref a1), (.ref va)]) (fun _ k => XS.aloadN X5.here hx rfl (hb hby d13_28) rfl rfl (XS.dup X5.here hx rfl (hb hby d13_29) rfl rfl k)) ?_
 refine own_getf X5 hx hZ hown (ow hw 79 rfl) Via.refl e5 Fld_a1_count rfl rfl (hb hby d13_30) (fun T6 X6 e6 => ?_)
 refine ogo (mkF m 36 #[rv a1, iv cv] [(.int (nv + (1 : Int32))), (.ref a1), (.int nv), (.ref va)]) (fun _ k => XS.dupX1 X6.here hx rfl (hb hby d13_33) rfl rfl rfl (XS.iconst X6.here hx rfl (hb hby d13_34) (XS.iadd X6.here hx rfl (hb hby d13_35) rfl k))) ?_
 obtain ⟨T7, h7, X7, e7, W7, st7⟩ := putF X6 hx hZ hown (host := "") (Or.inl (ow hw 79 rfl)) Via.refl e6 Fld_a1_count E_a1 (Or.inl (ow hw 80 rfl)) (ow hw 18 rfl) (ty := .int) (by decide) rfl rfl (g := (mkF m 36 #[rv a1, iv cv] [(.int (nv + (1 : Int32))), (.ref a1), (.int nv), (.ref va)])) rfl rfl (hb hby d13_36)
 have N7 := Fr.snoc X7 N4 g_a1
 have Zs8 : n0 ≤ h7.size := Nat.le_trans Z0 (Keep.of_wr W7).1
 have F7 : Fld Z h7 a1 cs0 "count" "I" (.int (nv + (1 : Int32))) := Fld_a1_count.same W7
 refine ogo (mkF m 41 #[rv a1, iv cv] [(.int (cv.toInt8.toInt32)), (.int nv), (.ref va)]) (fun _ k => st7 _ (XS.iloadN X7.here hx rfl (hb hby d13_39) rfl (XS.i2b X7.here hx rfl (hb hby d13_40) rfl k))) ?_
 obtain ⟨cn10, An10, -⟩ := id V_va
 have nx11 : va ≠ a1 := (Ne.symm (ne_arr E_a1 (ow hw 18 rfl) An10))
 have F12 := V_va.other W7 nx11
 obtain ⟨cl9, Ar9, ql9, Sz9, Nn9, Hl9, Gl9⟩ := id F12
 have hin9 : ¬ (nv < 0 ∨ cl9.slots.size ≤ (nv).toNatClampNeg) := inb_of Sz9 hn
 obtain ⟨T9, h9, X9, e9, W9, st9⟩ := stB X7 hx hZ e7 Ar9 (j := nv) hin9 (g := (mkF m 41 #[rv a1, iv cv] [(.int (cv.toInt8.toInt32)), (.int nv), (.ref va)])) rfl rfl (hb hby d13_41)
 have N9 := Fr.snoc X9 N7 g_va
 have Zs13 : n0 ≤ h9.size := Nat.le_trans Zs8 (Keep.of_wr W9).1
 have V9 : Arv Z h9 va kv .byte (23 : Int32) (vs ++ [(.int (own_lt cv))]) (.int 0) := own_push Ar9 ql9 Sz9 Nn9 Hl9 Gl9 (fits_nar_byte _) W9 hl
 refine ogo (mkF m 76 #[rv a1, iv cv] [(.ref a1)]) (fun _ k => st9 _ (XS.goto X9.here hx rfl (pc0 := 42) (pc' := 75) rfl (hb hby d13_42) (by decide) (by decide) (XS.aloadN X9.here hx rfl (hb hby d13_75) rfl rfl k))) ?_
 have K14 := (Keep.refl h0 [a1, va]).wr W7 (Or.inl (List.mem_of_getElem? (i := 0) rfl))
 have K15 := K14.wr W9 (Or.inl (List.mem_of_getElem? (i := 1) rfl))
 have F16 := Fld_a1_value.other W7 (Or.inr (slot_ne (Or.inl (ow hw 35 rfl)) (Or.inl (ow hw 80 rfl)) (by decide) (t := (.array .byte)) (t' := .int) (by decide) (by decide)))
 have F17 := F16.other W9 (Or.inl (Ne.symm nx11))
 have F18 := Fld_a1_coder.other W7 (Or.inr (slot_ne (Or.inl (ow hw 37 rfl)) (Or.inl (ow hw 80 rfl)) (by decide) (t := .byte) (t' := .int) (by decide) (by decide)))
 have F19 := F18.other W9 (Or.inl (Ne.symm nx11))
 have F20 := F7.other W9 (Or.inl (Ne.symm nx11))
 exact own_endR X9 hx hr2 rfl rfl (hb hby d13_76) (by decide) (by decide) (by rw [e9]; exact ⟨rfl, N9, K15, F17, F19, F20, V9⟩)
def Qrmap23 (Z : State) (a1 va : Addr) (kv : ClassId) (vs : List Value) (nv cv cs : Int32) (h0 : Heap) (n0 : Nat) (v : Option Value) (h : Heap) (L : List Loc) : Prop := v = some (.ref a1) ∧ Fr n0 L ∧ Keep h0 h [a1, va] ∧ (Fld Z h a1 cs0 "value" "[B" (.ref va)) ∧ (Fld Z h a1 cs0 "coder" "B" (.int 0)) ∧ (Fld Z h a1 cs0 "count" "I" (.int (nv + (1 : Int32)))) ∧ (Arv Z h va kv .byte (23 : Int32) (vs ++ [(.int (own_lt cv))]) (.int 0))
theorem rmap23 (l : Launch) (Z : State) (a0 : Array Value) (hw : HW a0 Z) (ws : List Jvm.Cond) (a1 va : Addr) (kv : ClassId) (vs : List Value) (nv cv cs : Int32) (h0 : Heap) (n0 : Nat) (Z0 : n0 ≤ h0.size) (O0 : Old Z n0 h0) (SC : Sta Z Z.heap cs1 "COMPACT_STRINGS" "Z" (.int cs)) (hcs : ¬ (cs = (0 : Int32))) (E_a1 : Exa Z h0 a1 cs2) (g_a1 : n0 ≤ a1) (Fld_a1_value : Fld Z h0 a1 cs0 "value" "[B" (.ref va)) (Fld_a1_coder : Fld Z h0 a1 cs0 "coder" "B" (.int 0)) (Fld_a1_count : Fld Z h0 a1 cs0 "count" "I" (.int nv)) (V_va : Arv Z h0 va kv .byte (23 : Int32) vs (.int 0)) (g_va : n0 ≤ va) (hn : ¬ nv < 0 ∧ nv < (23 : Int32)) (hl : vs.length = nv.toNatClampNeg) (h8 : ¬ ((255 : Int32) < cv)) :
    own_MF l mn4 cd12 2 (some (.object cs2)) ws (rom 2 0 0 27) #[(.ref a1), (.int cv)] Z h0 (Qrmap23 Z a1 va kv vs nv cv cs h0 n0) := by
 refine own_body n0 (plainFor_of_name pn_12) (fun m => ef_rmap16 m a1 cv) (fun p e s m below meth c s₁ hx hby hml hr2 hZ hown hnm X0 e0 N0 => ?_)
 refine ogo (mkF m 2 #[rv a1, iv cv] [(.int cv), (.ref a1)]) (fun _ k => XS.aloadN X0.here hx rfl (hb hby d12_0) rfl rfl (XS.iloadN X0.here hx rfl (hb hby d12_1) rfl k)) ?_
 refine own_super (W := 0) X0 hx hZ hown e0 (ow hw 74 rfl) (own_same (y := mn1) (z := mn0) (ow hw 84 rfl) rfl (ow hw 75 rfl) (by decide)) (ow hw 75 rfl) (ow hw 76 rfl) (rmaa23 l Z a0 hw [] a1 va kv vs nv cv cs h0 n0 Z0 O0 SC hcs E_a1 g_a1 Fld_a1_value Fld_a1_coder Fld_a1_count V_va g_va hn hl h8) (ow hw 78 rfl) (ow hw 27 rfl) (Ins.self E_a1) rfl (by rw [hml]; rfl) rfl (hb hby d12_2) (lenOf pd__C_Ljava_lang_AbstractStringBuilder_ rfl) rfl (by decide) (by decide) (fun T1 v1 Ll1 X1 hQ1 => ?_)
 obtain ⟨rfl, N1q, K1, P1_0, P1_1, P1_2, P1_3⟩ := hQ1
 have N1 := Fr.app N0 N1q
 have Zs2 : n0 ≤ T1.heap.size := Nat.le_trans Z0 K1.1
 refine ogo (mkF m 7 #[rv a1, iv cv] [(.ref a1)]) (fun _ k => XS.pop X1.here hx rfl (hb hby d12_5) rfl rfl (XS.aloadN X1.here hx rfl (hb hby d12_6) rfl rfl k)) ?_
 have K3 := (Keep.refl h0 [a1, va]).trans K1 (allS (Or.inl (List.mem_of_getElem? (i := 0) rfl)) (allS (Or.inl (List.mem_of_getElem? (i := 1) rfl)) all0))
 exact own_endR X1 hx hr2 rfl rfl (hb hby d12_7) (by decide) (by decide) (by exact ⟨rfl, N1, K3, P1_0, P1_1, P1_2, P1_3⟩)
theorem d19_0 : dk cd19 0 (.iload_n 0) 1 := by decide +kernel
theorem d19_1 : dk cd19 1 (.iload_n 1) 1 := by decide +kernel
theorem d19_2 : dk cd19 2 (.if_icmp .lt 7) 3 := by decide +kernel
theorem d19_5 : dk cd19 5 (.iload_n 0) 1 := by decide +kernel
theorem d19_6 : dk cd19 6 (.goto 4) 3 := by decide +kernel
theorem d19_9 : dk cd19 9 (.iload_n 1) 1 := by decide +kernel
theorem d19_10 : dk cd19 10 .ireturn 1 := by decide +kernel
theorem ef_rmmaxB (m : MethodId) (x0 : Int32) (x1 : Int32) : entryFrame m #[(.int x0), (.int x1)] 2 = mkF m 0 #[iv x0, iv x1] [] := by first | (simp [entryFrame, mkF, argsToLocals, Value.category]; done) | rfl
def QrmmaxB (Z : State) (p1 p2 : Int32) (h0 : Heap) (n0 : Nat) (v : Option Value) (h : Heap) (L : List Loc) : Prop := v = some (.int p2) ∧ Fr n0 L ∧ h = h0
theorem rmmaxB (l : Launch) (Z : State) (a0 : Array Value) (hw : HW a0 Z) (ws : List Jvm.Cond) (p1 p2 : Int32) (h0 : Heap) (n0 : Nat) (Z0 : n0 ≤ h0.size) (hm : p1 < p2) :
    own_MF l (⟨"java/lang/Math", "max", "(II)I"⟩ : MethodName) cd19 2 (some .int) ws (rom 0 0 0 0) #[(.int p1), (.int p2)] Z h0 (QrmmaxB Z p1 p2 h0 n0) := by
 refine own_body n0 (Jvm.Free.JP.mathPlain rfl (by decide +kernel)) (fun m => ef_rmmaxB m p1 p2) (fun p e s m below meth c s₁ hx hby hml hr2 hZ hown hnm X0 e0 N0 => ?_)
 refine ogo (mkF m 10 #[iv p1, iv p2] [(.int p2)]) (fun _ k => XS.iloadN X0.here hx rfl (hb hby d19_0) rfl (XS.iloadN X0.here hx rfl (hb hby d19_1) rfl (XS.icmpYes X0.here hx rfl (pc0 := 2) (pc' := 9) rfl (hb hby d19_2) rfl (tlt hm).1 (by decide) (by decide) (XS.iloadN X0.here hx rfl (hb hby d19_9) rfl k)))) ?_
 exact own_endI X0 hx hr2 (hb hby d19_10) (by decide) (by decide) (by rw [e0]; exact ⟨rfl, N0, rfl⟩)
def QrmmaxA (Z : State) (p1 p2 : Int32) (h0 : Heap) (n0 : Nat) (v : Option Value) (h : Heap) (L : List Loc) : Prop := v = some (.int p1) ∧ Fr n0 L ∧ h = h0
theorem rmmaxA (l : Launch) (Z : State) (a0 : Array Value) (hw : HW a0 Z) (ws : List Jvm.Cond) (p1 p2 : Int32) (h0 : Heap) (n0 : Nat) (Z0 : n0 ≤ h0.size) (hm : ¬ (p1 < p2)) :
    own_MF l (⟨"java/lang/Math", "max", "(II)I"⟩ : MethodName) cd19 2 (some .int) ws (rom 0 0 0 0) #[(.int p1), (.int p2)] Z h0 (QrmmaxA Z p1 p2 h0 n0) := by
 refine own_body n0 (Jvm.Free.JP.mathPlain rfl (by decide +kernel)) (fun m => ef_rmmaxB m p1 p2) (fun p e s m below meth c s₁ hx hby hml hr2 hZ hown hnm X0 e0 N0 => ?_)
 refine ogo (mkF m 10 #[iv p1, iv p2] [(.int p1)]) (fun _ k => XS.iloadN X0.here hx rfl (hb hby d19_0) rfl (XS.iloadN X0.here hx rfl (hb hby d19_1) rfl (XS.icmpNo X0.here hx rfl (hb hby d19_2) rfl (flt hm).1 (XS.iloadN X0.here hx rfl (hb hby d19_5) rfl (XS.goto X0.here hx rfl (pc0 := 6) (pc' := 10) rfl (hb hby d19_6) (by decide) (by decide) k))))) ?_
 exact own_endI X0 hx hr2 (hb hby d19_10) (by decide) (by decide) (by rw [e0]; exact ⟨rfl, N0, rfl⟩)
theorem d21_0 : dk cd21 0 (.iload_n 0) 1 := by decide +kernel
theorem d21_1 : dk cd21 1 (.iload_n 1) 1 := by decide +kernel
theorem d21_2 : dk cd21 2 (.if_icmp .gt 7) 3 := by decide +kernel
theorem d21_5 : dk cd21 5 (.iload_n 0) 1 := by decide +kernel
theorem d21_6 : dk cd21 6 (.goto 4) 3 := by decide +kernel
theorem d21_9 : dk cd21 9 (.iload_n 1) 1 := by decide +kernel
theorem d21_10 : dk cd21 10 .ireturn 1 := by decide +kernel
theorem ef_rmminA (m : MethodId) (x0 : Int32) (x1 : Int32) : entryFrame m #[(.int x0), (.int x1)] 2 = mkF m 0 #[iv x0, iv x1] [] := by first | (simp [entryFrame, mkF, argsToLocals, Value.category]; done) | rfl
def QrmminA (Z : State) (p1 p2 : Int32) (h0 : Heap) (n0 : Nat) (v : Option Value) (h : Heap) (L : List Loc) : Prop := v = some (.int p1) ∧ Fr n0 L ∧ h = h0
theorem rmminA (l : Launch) (Z : State) (a0 : Array Value) (hw : HW a0 Z) (ws : List Jvm.Cond) (p1 p2 : Int32) (h0 : Heap) (n0 : Nat) (Z0 : n0 ≤ h0.size) (hm : ¬ (p2 < p1)) :
    own_MF l (⟨"java/lang/Math", "min", "(II)I"⟩ : MethodName) cd21 2 (some .int) ws (rom 0 0 0 0) #[(.int p1), (.int p2)] Z h0 (QrmminA Z p1 p2 h0 n0) := by
 refine own_body n0 (Jvm.Free.JP.mathPlain rfl (by decide +kernel)) (fun m => ef_rmminA m p1 p2) (fun p e s m below meth c s₁ hx hby hml hr2 hZ hown hnm X0 e0 N0 => ?_)
 refine ogo (mkF m 10 #[iv p1, iv p2] [(.int p1)]) (fun _ k => XS.iloadN X0.here hx rfl (hb hby d21_0) rfl (XS.iloadN X0.here hx rfl (hb hby d21_1) rfl (XS.icmpNo X0.here hx rfl (hb hby d21_2) rfl (flt hm).2.2.1 (XS.iloadN X0.here hx rfl (hb hby d21_5) rfl (XS.goto X0.here hx rfl (pc0 := 6) (pc' := 10) rfl (hb hby d21_6) (by decide) (by decide) k))))) ?_
 exact own_endI X0 hx hr2 (hb hby d21_10) (by decide) (by decide) (by rw [e0]; exact ⟨rfl, N0, rfl⟩)
def QrmminB (Z : State) (p1 p2 : Int32) (h0 : Heap) (n0 : Nat) (v : Option Value) (h : Heap) (L : List Loc) : Prop := v = some (.int p2) ∧ Fr n0 L ∧ h = h0
theorem rmminB (l : Launch) (Z : State) (a0 : Array Value) (hw : HW a0 Z) (ws : List Jvm.Cond) (p1 p2 : Int32) (h0 : Heap) (n0 : Nat) (Z0 : n0 ≤ h0.size) (hm : p2 < p1) :
    own_MF l (⟨"java/lang/Math", "min", "(II)I"⟩ : MethodName) cd21 2 (some .int) ws (rom 0 0 0 0) #[(.int p1), (.int p2)] Z h0 (QrmminB Z p1 p2 h0 n0) := by
 refine own_body n0 (Jvm.Free.JP.mathPlain rfl (by decide +kernel)) (fun m => ef_rmminA m p1 p2) (fun p e s m below meth c s₁ hx hby hml hr2 hZ hown hnm X0 e0 N0 => ?_)
 refine ogo (mkF m 10 #[iv p1, iv p2] [(.int p2)]) (fun _ k => XS.iloadN X0.here hx rfl (hb hby d21_0) rfl (XS.iloadN X0.here hx rfl (hb hby d21_1) rfl (XS.icmpYes X0.here hx rfl (pc0 := 2) (pc' := 9) rfl (hb hby d21_2) rfl (tlt hm).2.2.1 (by decide) (by decide) (XS.iloadN X0.here hx rfl (hb hby d21_9) rfl k)))) ?_
 exact own_endI X0 hx hr2 (hb hby d21_10) (by decide) (by decide) (by rw [e0]; exact ⟨rfl, N0, rfl⟩)
theorem d18_0 : dk cd18 0 (.iload_n 0) 1 := by decide +kernel
theorem d18_1 : dk cd18 1 (.iload_n 1) 1 := by decide +kernel
theorem d18_2 : dk cd18 2 (.iload_n 2) 1 := by decide +kernel
theorem d18_3 : dk cd18 3 (.invokestatic 194) 3 := by decide +kernel
theorem d18_6 : dk cd18 6 .iadd 1 := by decide +kernel
theorem d18_7 : dk cd18 7 (.istore_n 3) 1 := by decide +kernel
theorem d18_8 : dk cd18 8 (.iconst 0) 1 := by decide +kernel
theorem d18_9 : dk cd18 9 (.iload_n 3) 1 := by decide +kernel
theorem d18_10 : dk cd18 10 (.if_icmp .ge 11) 3 := by decide +kernel
theorem d18_13 : dk cd18 13 (.iload_n 3) 1 := by decide +kernel
theorem d18_14 : dk cd18 14 (.ldc 200) 2 := by decide +kernel
theorem d18_16 : dk cd18 16 (.if_icmp .gt 5) 3 := by decide +kernel
theorem d18_19 : dk cd18 19 (.iload_n 3) 1 := by decide +kernel
theorem d18_20 : dk cd18 20 .ireturn 1 := by decide +kernel
theorem pd__II_I : parseMethodDescriptor "(II)I" = some ⟨[.int, .int], some .int⟩ := by decide +kernel
theorem pn_18 : plainName "jdk/internal/util/ArraysSupport" = true := by first | (simp [plainName, overriddenIn]; done) | decide +kernel
theorem ef_rmnlen (m : MethodId) (x0 : Int32) (x1 : Int32) (x2 : Int32) : entryFrame m #[(.int x0), (.int x1), (.int x2)] 4 = mkF m 0 #[iv x0, iv x1, iv x2, .unset] [] := by first | (simp [entryFrame, mkF, argsToLocals, Value.category]; done) | rfl
def Qrmnlen (Z : State)  (h0 : Heap) (n0 : Nat) (v : Option Value) (h : Heap) (L : List Loc) : Prop := v = some (.int 34) ∧ Fr n0 L ∧ h = h0
theorem rmnlen (l : Launch) (Z : State) (a0 : Array Value) (hw : HW a0 Z) (ws : List Jvm.Cond)  (h0 : Heap) (n0 : Nat) (Z0 : n0 ≤ h0.size) :
    own_MF l (⟨"jdk/internal/util/ArraysSupport", "newLength", "(III)I"⟩ : MethodName) cd18 4 (some .int) ws (rom 1 0 0 14) #[(.int 16), (.int 1), (.int 18)] Z h0 (Qrmnlen Z  h0 n0) := by
 refine own_body n0 (plainFor_of_name pn_18) (fun m => ef_rmnlen m (16 : Int32) (1 : Int32) (18 : Int32)) (fun p e s m below meth c s₁ hx hby hml hr2 hZ hown hnm X0 e0 N0 => ?_)
 refine ogo (mkF m 3 #[iv 16, iv 1, iv 18, .unset] [(.int 18), (.int 1), (.int 16)]) (fun _ k => XS.iloadN X0.here hx rfl (hb hby d18_0) rfl (XS.iloadN X0.here hx rfl (hb hby d18_1) rfl (XS.iloadN X0.here hx rfl (hb hby d18_2) rfl k))) ?_
 refine own_stat (W := 1) X0 hx hZ hown e0 (ow hw 103 rfl) (ow hw 104 rfl) (rmmaxB l Z a0 hw [] (1 : Int32) (18 : Int32) h0 n0 Z0 (by decide)) (ow hw 106 rfl) (ow hw 105 rfl) rfl (by rw [hml]; rfl) rfl (hb hby d18_3) (lenOf pd__II_I rfl) rfl (by decide) (fun T1 v1 Ll1 X1 hQ1 => ?_)
 obtain ⟨rfl, N1q, eh1⟩ := hQ1
 have N1 := Fr.app N0 N1q
 refine ogo (mkF m 20 #[iv 16, iv 1, iv 18, iv 34] [(.int 34)]) (fun _ k => XS.iadd X1.here hx rfl (hb hby d18_6) rfl (XS.istoreN X1.here hx rfl (hb hby d18_7) rfl (l' := #[iv 16, iv 1, iv 18, iv 34]) rfl (XS.iconst X1.here hx rfl (hb hby d18_8) (XS.iloadN X1.here hx rfl (hb hby d18_9) rfl (XS.icmpNo X1.here hx rfl (hb hby d18_10) rfl (tlt (by decide : (0 : Int32) < (34 : Int32))).2.1 (XS.iloadN X1.here hx rfl (hb hby d18_13) rfl (X1.ldcInt hx hown (mvT hZ (ow hw 107 rfl)) (g := (mkF m 14 #[iv 16, iv 1, iv 18, iv 34] [(.int 34)])) rfl (hb hby d18_14) _ (XS.icmpNo X1.here hx rfl (hb hby d18_16) rfl (flt (by decide : ¬ ((2147483639 : Int32) < (34 : Int32)))).2.2.1 (XS.iloadN X1.here hx rfl (hb hby d18_19) rfl k))))))))) ?_
 exact own_endI X1 hx hr2 (hb hby d18_20) (by decide) (by decide) (by rw [eh1]; exact ⟨rfl, N1, rfl⟩)
theorem d17_0 : dk cd17 0 (.aload_n 0) 1 := by decide +kernel
theorem d17_1 : dk cd17 1 (.getfield 15) 3 := by decide +kernel
theorem d17_4 : dk cd17 4 .arraylength 1 := by decide +kernel
theorem d17_5 : dk cd17 5 (.istore_n 2) 1 := by decide +kernel
theorem d17_6 : dk cd17 6 (.iload_n 1) 1 := by decide +kernel
theorem d17_7 : dk cd17 7 (.aload_n 0) 1 := by decide +kernel
theorem d17_8 : dk cd17 8 (.getfield 22) 3 := by decide +kernel
theorem d17_11 : dk cd17 11 .ishl 1 := by decide +kernel
theorem d17_12 : dk cd17 12 (.istore_n 3) 1 := by decide +kernel
theorem d17_13 : dk cd17 13 (.iload_n 3) 1 := by decide +kernel
theorem d17_14 : dk cd17 14 (.iload_n 2) 1 := by decide +kernel
theorem d17_15 : dk cd17 15 .isub 1 := by decide +kernel
theorem d17_16 : dk cd17 16 (.istore 4) 2 := by decide +kernel
theorem d17_18 : dk cd17 18 (.iload_n 2) 1 := by decide +kernel
theorem d17_19 : dk cd17 19 (.iload 4) 2 := by decide +kernel
theorem d17_21 : dk cd17 21 (.iload_n 2) 1 := by decide +kernel
theorem d17_22 : dk cd17 22 (.iconst 2) 1 := by decide +kernel
theorem d17_23 : dk cd17 23 (.aload_n 0) 1 := by decide +kernel
theorem d17_24 : dk cd17 24 (.getfield 22) 3 := by decide +kernel
theorem d17_27 : dk cd17 27 .ishl 1 := by decide +kernel
theorem d17_28 : dk cd17 28 .iadd 1 := by decide +kernel
theorem d17_29 : dk cd17 29 (.invokestatic 114) 3 := by decide +kernel
theorem d17_32 : dk cd17 32 (.istore 5) 2 := by decide +kernel
theorem d17_34 : dk cd17 34 (.iload 5) 2 := by decide +kernel
theorem d17_36 : dk cd17 36 (.ldc 39) 2 := by decide +kernel
theorem d17_38 : dk cd17 38 (.if_icmp .ne 13) 3 := by decide +kernel
theorem d17_51 : dk cd17 51 (.iload 5) 2 := by decide +kernel
theorem d17_53 : dk cd17 53 (.aload_n 0) 1 := by decide +kernel
theorem d17_54 : dk cd17 54 (.getfield 22) 3 := by decide +kernel
theorem d17_57 : dk cd17 57 .ishr 1 := by decide +kernel
theorem d17_58 : dk cd17 58 .ireturn 1 := by decide +kernel
theorem pd__III_I : parseMethodDescriptor "(III)I" = some ⟨[.int, .int, .int], some .int⟩ := by decide +kernel
theorem pn_17 : plainName cs0 = true := by first | (simp [plainName, overriddenIn]; done) | decide +kernel
theorem ef_rmncap (m : MethodId) (x0 : Addr) (x1 : Int32) : entryFrame m #[(.ref x0), (.int x1)] 6 = mkF m 0 #[rv x0, iv x1, .unset, .unset, .unset, .unset] [] := by first | (simp [entryFrame, mkF, argsToLocals, Value.category]; done) | rfl
def Qrmncap (Z : State) (a1 va : Addr) (kv : ClassId) (vs : List Value) (h0 : Heap) (n0 : Nat) (v : Option Value) (h : Heap) (L : List Loc) : Prop := v = some (.int 34) ∧ Fr n0 L ∧ h = h0
theorem rmncap (l : Launch) (Z : State) (a0 : Array Value) (hw : HW a0 Z) (ws : List Jvm.Cond) (a1 va : Addr) (kv : ClassId) (vs : List Value) (h0 : Heap) (n0 : Nat) (Z0 : n0 ≤ h0.size) (Fld_a1_value : Fld Z h0 a1 cs0 "value" "[B" (.ref va)) (Fld_a1_coder : Fld Z h0 a1 cs0 "coder" "B" (.int 0)) (V_va : Arv Z h0 va kv .byte (16 : Int32) vs (.int 0)) :
    own_MF l mn12 cd17 6 (some .int) ws (rom 2 0 0 29) #[(.ref a1), (.int 17)] Z h0 (Qrmncap Z a1 va kv vs h0 n0) := by
 refine own_body n0 (plainFor_of_name pn_17) (fun m => ef_rmncap m a1 (17 : Int32)) (fun p e s m below meth c s₁ hx hby hml hr2 hZ hown hnm X0 e0 N0 => ?_)
 refine ogo (mkF m 1 #[rv a1, iv 17, .unset, .unset, .unset, .unset] [(.ref a1)]) (fun _ k => XS.aloadN X0.here hx rfl (hb hby d17_0) rfl rfl k) ?_
 refine own_getf X0 hx hZ hown (ow hw 34 rfl) Via.refl e0 Fld_a1_value rfl rfl (hb hby d17_1) (fun T1 X1 e1 => ?_)
 obtain ⟨cl2, Ar2, -, Sz2, Nn2, -, -⟩ := id V_va
 refine own_go (b := (T1.setTop (mkF m 8 #[rv a1, iv 17, iv 16, .unset, .unset, .unset] [(.ref a1), (.int 17)]))) (fun _ k => X1.arraylength hx (by rw [e1]; exact Ar2.1) (State.isArrayOf_alike hZ.alike Ar2.2.1) (g := (mkF m 4 #[rv a1, iv 17, .unset, .unset, .unset, .unset] [(.ref va)])) rfl rfl (hb hby d17_4) _ (by rw [len_of Sz2 Nn2]; exact (XS.istoreN X1.here hx rfl (hb hby d17_5) rfl (l' := #[rv a1, iv 17, iv 16, .unset, .unset, .unset]) rfl (XS.iloadN X1.here hx rfl (hb hby d17_6) rfl (XS.aloadN X1.here hx rfl (hb hby d17_7) rfl rfl k))))) ?_
 refine own_getf X1 hx hZ hown (ow hw 36 rfl) Via.refl e1 Fld_a1_coder rfl rfl (hb hby d17_8) (fun T3 X3 e3 => ?_)
 refine ogo (mkF m 24 #[rv a1, iv 17, iv 16, iv 17, iv 1, .unset] [(.ref a1), (.int 2), (.int 16), (.int 1), (.int 16)]) (fun _ k => XS.ishl X3.here hx rfl (hb hby d17_11) rfl (XS.istoreN X3.here hx rfl (hb hby d17_12) rfl (l' := #[rv a1, iv 17, iv 16, iv 17, .unset, .unset]) rfl (XS.iloadN X3.here hx rfl (hb hby d17_13) rfl (XS.iloadN X3.here hx rfl (hb hby d17_14) rfl (XS.isub X3.here hx rfl (hb hby d17_15) rfl (XS.istore X3.here hx rfl (hb hby d17_16) rfl (l' := #[rv a1, iv 17, iv 16, iv 17, iv 1, .unset]) rfl (XS.iloadN X3.here hx rfl (hb hby d17_18) rfl (XS.iload X3.here hx rfl (hb hby d17_19) rfl (XS.iloadN X3.here hx rfl (hb hby d17_21) rfl (XS.iconst X3.here hx rfl (hb hby d17_22) (XS.aloadN X3.here hx rfl (hb hby d17_23) rfl rfl k))))))))))) ?_
 refine own_getf X3 hx hZ hown (ow hw 36 rfl) Via.refl e3 Fld_a1_coder rfl rfl (hb hby d17_24) (fun T4 X4 e4 => ?_)
 refine ogo (mkF m 29 #[rv a1, iv 17, iv 16, iv 17, iv 1, .unset] [(.int 18), (.int 1), (.int 16)]) (fun _ k => XS.ishl X4.here hx rfl (hb hby d17_27) rfl (XS.iadd X4.here hx rfl (hb hby d17_28) rfl k)) ?_
 refine own_stat (W := 0) X4 hx hZ hown e4 (ow hw 99 rfl) (ow hw 100 rfl) (rmnlen l Z a0 hw []  h0 n0 Z0) (ow hw 102 rfl) (ow hw 101 rfl) rfl (by rw [hml]; rfl) rfl (hb hby d17_29) (lenOf pd__III_I rfl) rfl (by decide) (fun T5 v5 Ll5 X5 hQ5 => ?_)
 obtain ⟨rfl, N5q, eh5⟩ := hQ5
 have N5 := Fr.app N0 N5q
 refine ogo (mkF m 54 #[rv a1, iv 17, iv 16, iv 17, iv 1, iv 34] [(.ref a1), (.int 34)]) (fun _ k => XS.istore X5.here hx rfl (hb hby d17_32) rfl (l' := #[rv a1, iv 17, iv 16, iv 17, iv 1, iv 34]) rfl (XS.iload X5.here hx rfl (hb hby d17_34) rfl (X5.ldcInt hx hown (mvT hZ (ow hw 108 rfl)) (g := (mkF m 36 #[rv a1, iv 17, iv 16, iv 17, iv 1, iv 34] [(.int 34)])) rfl (hb hby d17_36) _ (XS.icmpYes X5.here hx rfl (pc0 := 38) (pc' := 51) rfl (hb hby d17_38) rfl (feq (by decide : ¬ ((34 : Int32) = (2147483647 : Int32)))).2 (by decide) (by decide) (XS.iload X5.here hx rfl (hb hby d17_51) rfl (XS.aloadN X5.here hx rfl (hb hby d17_53) rfl rfl k)))))) ?_
 refine own_getf X5 hx hZ hown (ow hw 36 rfl) Via.refl eh5 Fld_a1_coder rfl rfl (hb hby d17_54) (fun T6 X6 e6 => ?_)
 refine ogo (mkF m 58 #[rv a1, iv 17, iv 16, iv 17, iv 1, iv 34] [(.int 34)]) (fun _ k => XS.ishr X6.here hx rfl (hb hby d17_57) rfl k) ?_
 exact own_endI X6 hx hr2 (hb hby d17_58) (by decide) (by decide) (by rw [e6]; exact ⟨rfl, N5, rfl⟩)
theorem d20_0 : dk cd20 0 (.iload_n 1) 1 := by decide +kernel
theorem d20_1 : dk cd20 1 (.aload_n 0) 1 := by decide +kernel
theorem d20_2 : dk cd20 2 .arraylength 1 := by decide +kernel
theorem d20_3 : dk cd20 3 (.if_icmp .ne 11) 3 := by decide +kernel
theorem d20_14 : dk cd20 14 (.iload_n 1) 1 := by decide +kernel
theorem d20_15 : dk cd20 15 (.newarray .byte) 2 := by decide +kernel
theorem d20_17 : dk cd20 17 (.astore_n 2) 1 := by decide +kernel
theorem d20_18 : dk cd20 18 (.aload_n 0) 1 := by decide +kernel
theorem d20_19 : dk cd20 19 (.iconst 0) 1 := by decide +kernel
theorem d20_20 : dk cd20 20 (.aload_n 2) 1 := by decide +kernel
theorem d20_21 : dk cd20 21 (.iconst 0) 1 := by decide +kernel
theorem d20_22 : dk cd20 22 (.aload_n 0) 1 := by decide +kernel
theorem d20_23 : dk cd20 23 .arraylength 1 := by decide +kernel
theorem d20_24 : dk cd20 24 (.iload_n 1) 1 := by decide +kernel
theorem d20_25 : dk cd20 25 (.invokestatic 304) 3 := by decide +kernel
theorem d20_28 : dk cd20 28 (.invokestatic 150) 3 := by decide +kernel
theorem d20_31 : dk cd20 31 (.aload_n 2) 1 := by decide +kernel
theorem d20_32 : dk cd20 32 .areturn 1 := by decide +kernel
theorem pn_20 : plainName cs7 = true := by first | (simp [plainName, overriddenIn]; done) | decide +kernel
theorem ef_rmcpo (m : MethodId) (x0 : Addr) (x1 : Int32) : entryFrame m #[(.ref x0), (.int x1)] 3 = mkF m 0 #[rv x0, iv x1, .unset] [] := by first | (simp [entryFrame, mkF, argsToLocals, Value.category]; done) | rfl
def Qrmcpo (Z : State) (va : Addr) (kv : ClassId) (vs : List Value) (h0 : Heap) (n0 : Nat) (v : Option Value) (h : Heap) (L : List Loc) : Prop := ∃ (b : Addr) (kb : ClassId), v = some (.ref b) ∧ Fr n0 L ∧ Keep h0 h [] ∧ (h0.size ≤ b) ∧ (Arv Z h b kb .byte (34 : Int32) vs (.int 0))
theorem rmcpo (l : Launch) (Z : State) (a0 : Array Value) (hw : HW a0 Z) (ws : List Jvm.Cond) (va : Addr) (kv : ClassId) (vs : List Value) (h0 : Heap) (n0 : Nat) (Z0 : n0 ≤ h0.size) (V_va : Arv Z h0 va kv .byte (16 : Int32) vs (.int 0)) (hl : vs.length = 16) :
    own_MF l (⟨cs7, "copyOf", "([BI)[B"⟩ : MethodName) cd20 3 (some (.array .byte)) ws (rom 1 1 34 40) #[(.ref va), (.int 34)] Z h0 (Qrmcpo Z va kv vs h0 n0) := by
 refine own_body n0 (plainFor_of_name pn_20) (fun m => ef_rmcpo m va (34 : Int32)) (fun p e s m below meth c s₁ hx hby hml hr2 hZ hown hnm X0 e0 N0 => ?_)
 refine ogo (mkF m 2 #[rv va, iv 34, .unset] [(.ref va), (.int 34)]) (fun _ k => XS.iloadN X0.here hx rfl (hb hby d20_0) rfl (XS.aloadN X0.here hx rfl (hb hby d20_1) rfl rfl k)) ?_
 obtain ⟨cl1, Ar1, -, Sz1, Nn1, -, -⟩ := id V_va
 refine own_go (b := (s₁.setTop (mkF m 15 #[rv va, iv 34, .unset] [(.int 34)]))) (fun _ k => X0.arraylength hx (by rw [e0]; exact Ar1.1) (State.isArrayOf_alike hZ.alike Ar1.2.1) (g := (mkF m 2 #[rv va, iv 34, .unset] [(.ref va), (.int 34)])) rfl rfl (hb hby d20_2) _ (by rw [len_of Sz1 Nn1]; exact (XS.icmpYes X0.here hx rfl (pc0 := 3) (pc' := 14) rfl (hb hby d20_3) rfl (feq (by decide : ¬ ((34 : Int32) = (16 : Int32)))).2 (by decide) (by decide) (XS.iloadN X0.here hx rfl (hb hby d20_14) rfl k)))) ?_
 obtain ⟨T2, h2, kl2, X2, e2, E2, A2, st2⟩ := newP X0 hx hZ (ow hw 0 rfl) e0 (g := (mkF m 15 #[rv va, iv 34, .unset] [(.int 34)])) rfl (hb hby d20_15) rfl (by decide) (cap := 34) (by decide) (by decide) (by decide) (by decide)
 obtain ⟨b2, g2⟩ : ∃ z, z = h0.size := ⟨_, rfl⟩
 rw [← g2] at A2 st2
 have Zs3 : n0 ≤ h2.size := Nat.le_trans Z0 E2.1
 have V2 : Arv Z h2 b2 kl2 .byte (34 : Int32) [] (.int 0) := Arv.new A2 (by decide)
 refine ogo (mkF m 23 #[rv va, iv 34, rv b2] [(.ref va), (.int 0), (.ref b2), (.int 0), (.ref va)]) (fun _ k => st2 _ (XS.astoreN X2.here hx rfl (hb hby d20_17) rfl rfl (l' := #[rv va, iv 34, rv b2]) rfl (XS.aloadN X2.here hx rfl (hb hby d20_18) rfl rfl (XS.iconst X2.here hx rfl (hb hby d20_19) (XS.aloadN X2.here hx rfl (hb hby d20_20) rfl rfl (XS.iconst X2.here hx rfl (hb hby d20_21) (XS.aloadN X2.here hx rfl (hb hby d20_22) rfl rfl k))))))) ?_
 have F5 := V_va.ext E2
 obtain ⟨cl4, Ar4, -, Sz4, Nn4, -, -⟩ := id F5
 refine own_go (b := (T2.setTop (mkF m 25 #[rv va, iv 34, rv b2] [(.int 34), (.int 16), (.int 0), (.ref b2), (.int 0), (.ref va)]))) (fun _ k => X2.arraylength hx (by rw [e2]; exact Ar4.1) (State.isArrayOf_alike hZ.alike Ar4.2.1) (g := (mkF m 23 #[rv va, iv 34, rv b2] [(.ref va), (.int 0), (.ref b2), (.int 0), (.ref va)])) rfl rfl (hb hby d20_23) _ (by rw [len_of Sz4 Nn4]; exact (XS.iloadN X2.here hx rfl (hb hby d20_24) rfl k))) ?_
 refine own_stat (W := 4) X2 hx hZ hown e2 (ow hw 113 rfl) (ow hw 114 rfl) (rmminA l Z a0 hw [] (16 : Int32) (34 : Int32) h2 n0 Zs3 (by decide)) (ow hw 115 rfl) (ow hw 105 rfl) rfl (by rw [hml]; rfl) rfl (hb hby d20_25) (lenOf pd__II_I rfl) rfl (by decide) (fun T6 v6 Ll6 X6 hQ6 => ?_)
 obtain ⟨rfl, N6q, eh6⟩ := hQ6
 have N6 := Fr.app N0 N6q
 have gx8 : n0 ≤ b2 := Nat.le_trans Z0 (Nat.le_of_eq g2.symm)
 obtain ⟨T7, h7, L7, X7, e7, N7, K7, V7, st7⟩ := cpA X6 hx hZ hown (ow hw 116 rfl) (ow hw 9 rfl) (ow hw 7 rfl) (ow hw 8 rfl) eh6 (us := vs) F5 (V2.pad (pad_rep [] (.int 0) 34)) (Or.inl ⟨rfl, rfl⟩) (by decide) (by decide) (by decide) (by decide) (by decide) (by exact own_rng hl rfl) (by rw [List.nil_append, List.length_replicate]; decide) N6 gx8 (g := (mkF m 28 #[rv va, iv 34, rv b2] [(.int 16), (.int 0), (.ref b2), (.int 0), (.ref va)])) rfl (by rw [hml]; rfl) rfl (hb hby d20_28) (by decide) (W := 0) (by show 2 * 0 + _ ≤ _; exact Nat.le_of_eq rfl) (by decide)
 have Zs9 : n0 ≤ h7.size := Nat.le_trans Zs3 K7.1
 have V7c : Arv Z h7 b2 kl2 .byte (34 : Int32) vs (.int 0) := own_cpg (v0 := []) V7 rfl
 refine ogo (mkF m 32 #[rv va, iv 34, rv b2] [(.ref b2)]) (fun _ k => st7 _ (XS.aloadN X7.here hx rfl (hb hby d20_31) rfl rfl k)) ?_
 have K10 := (Keep.refl h0 []).ext E2
 have K11 := K10.trans K7 (allS (Or.inr (Nat.le_trans (Nat.le_refl _) (Nat.le_of_eq g2.symm))) all0)
 exact own_endR X7 hx hr2 rfl rfl (hb hby d20_32) (by decide) (by decide) (by rw [e7]; exact ⟨b2, kl2, rfl, N7, K11, (Nat.le_trans (Nat.le_refl _) (Nat.le_of_eq g2.symm)), V7c⟩)
theorem pd__I_I : parseMethodDescriptor "(I)I" = some ⟨[.int], some .int⟩ := by decide +kernel
theorem pd___BI__B : parseMethodDescriptor "([BI)[B" = some ⟨[(.array .byte), .int], some (.array .byte)⟩ := by decide +kernel
def QrmecG (Z : State) (a1 va : Addr) (kv : ClassId) (vs : List Value) (h0 : Heap) (n0 : Nat) (v : Option Value) (h : Heap) (L : List Loc) : Prop := ∃ (vb : Addr) (kvb : ClassId), v = none ∧ Fr n0 L ∧ Keep h0 h [a1] ∧ (h0.size ≤ vb) ∧ (Fld Z h a1 cs0 "value" "[B" (.ref vb)) ∧ (Fld Z h a1 cs0 "coder" "B" (.int 0)) ∧ (Fld Z h a1 cs0 "count" "I" (.int 16)) ∧ (Arv Z h vb kvb .byte (34 : Int32) vs (.int 0))
theorem rmecG (l : Launch) (Z : State) (a0 : Array Value) (hw : HW a0 Z) (ws : List Jvm.Cond) (a1 va : Addr) (kv : ClassId) (vs : List Value) (h0 : Heap) (n0 : Nat) (Z0 : n0 ≤ h0.size) (E_a1 : Exa Z h0 a1 cs2) (g_a1 : n0 ≤ a1) (Fld_a1_value : Fld Z h0 a1 cs0 "value" "[B" (.ref va)) (Fld_a1_coder : Fld Z h0 a1 cs0 "coder" "B" (.int 0)) (V_va : Arv Z h0 va kv .byte (16 : Int32) vs (.int 0)) (Fld_a1_count : Fld Z h0 a1 cs0 "count" "I" (.int 16)) (hl : vs.length = 16) :
    own_MF l mn0 cd14 3 none ws (rom 3 1 34 55) #[(.ref a1), (.int 17)] Z h0 (QrmecG Z a1 va kv vs h0 n0) := by
 refine own_body n0 (plainFor_of_name pn_14) (fun m => ef_rmec16 m a1 (17 : Int32)) (fun p e s m below meth c s₁ hx hby hml hr2 hZ hown hnm X0 e0 N0 => ?_)
 refine ogo (mkF m 1 #[rv a1, iv 17, .unset] [(.ref a1)]) (fun _ k => XS.aloadN X0.here hx rfl (hb hby d14_0) rfl rfl k) ?_
 refine own_getf X0 hx hZ hown (ow hw 34 rfl) Via.refl e0 Fld_a1_value rfl rfl (hb hby d14_1) (fun T1 X1 e1 => ?_)
 obtain ⟨cl2, Ar2, -, Sz2, Nn2, -, -⟩ := id V_va
 refine own_go (b := (T1.setTop (mkF m 6 #[rv a1, iv 17, .unset] [(.ref a1), (.int 16)]))) (fun _ k => X1.arraylength hx (by rw [e1]; exact Ar2.1) (State.isArrayOf_alike hZ.alike Ar2.2.1) (g := (mkF m 4 #[rv a1, iv 17, .unset] [(.ref va)])) rfl rfl (hb hby d14_4) _ (by rw [len_of Sz2 Nn2]; exact (XS.aloadN X1.here hx rfl (hb hby d14_5) rfl rfl k))) ?_
 refine own_getf X1 hx hZ hown (ow hw 36 rfl) Via.refl e1 Fld_a1_coder rfl rfl (hb hby d14_6) (fun T3 X3 e3 => ?_)
 refine ogo (mkF m 19 #[rv a1, iv 17, iv 16] [(.ref a1), (.ref a1)]) (fun _ k => XS.ishr X3.here hx rfl (hb hby d14_9) rfl (XS.istoreN X3.here hx rfl (hb hby d14_10) rfl (l' := #[rv a1, iv 17, iv 16]) rfl (XS.iloadN X3.here hx rfl (hb hby d14_11) rfl (XS.iloadN X3.here hx rfl (hb hby d14_12) rfl (XS.isub X3.here hx rfl (hb hby d14_13) rfl (XS.ifNo X3.here hx rfl (hb hby d14_14) rfl ((if0 _ _).trans (tlt (by decide : (0 : Int32) < (1 : Int32))).2.2.2) (XS.aloadN X3.here hx rfl (hb hby d14_17) rfl rfl (XS.aloadN X3.here hx rfl (hb hby d14_18) rfl rfl k)))))))) ?_
 refine own_getf X3 hx hZ hown (ow hw 34 rfl) Via.refl e3 Fld_a1_value rfl rfl (hb hby d14_19) (fun T4 X4 e4 => ?_)
 refine ogo (mkF m 24 #[rv a1, iv 17, iv 16] [(.int 17), (.ref a1), (.ref va), (.ref a1)]) (fun _ k => XS.aloadN X4.here hx rfl (hb hby d14_22) rfl rfl (XS.iloadN X4.here hx rfl (hb hby d14_23) rfl k)) ?_
 obtain ⟨cq5, qc5, qc5'⟩ := E_a1.cell
 obtain ⟨_, _, ⟨T5, Ll5, kz5, nz5⟩, -, X5, ⟨Lc5, hQ5, lz5, yz5, zz5⟩, st5⟩ := X4.privateBack hx (y := mn12) hown (mvT hZ (ow hw 94 rfl)) (mvT hZ (ow hw 95 rfl)) (own_selpV (y := mn12) (mvT hZ (ow hw 97 rfl)) (mvP hZ (ow hw 96 rfl)) (mvT hZ (ow hw 95 rfl)) (by decide)) (Cond.privateMethod_at (mvP hZ (ow hw 96 rfl) (args := #[]))) (mvT hZ (ow hw 98 rfl)) (by decide) (backOf (W := 2) (rmncap l Z a0 hw [] a1 va kv vs h0 n0 Z0 Fld_a1_value Fld_a1_coder V_va) hZ (ow hw 98 rfl) (ow hw 27 rfl) (by decide) (by decide)) (g := (mkF m 24 #[rv a1, iv 17, iv 16] [(.int 17), (.ref a1), (.ref va), (.ref a1)])) rfl (by rw [hml]; rfl) (Steps.refl _) (a := a1) (by rw [e4]; exact qc5) qc5' (argsL := [(.int 17)]) (rest := [(.ref va), (.ref a1)]) (lenOf pd__I_I rfl) rfl (by show 2 * 0 + _ ≤ _; exact Nat.le_of_eq rfl) (hb hby d14_24) (fun _ _ => ⟨rfl, e4, (by decide : 0 + 0 ≤ _), (by decide : 0 + 0 ≤ _)⟩)
 dsimp only [Pt.U, Pt.locs, Pt.cells, Pt.slots] at X5 lz5 yz5 zz5 st5 hQ5
 subst lz5 yz5 zz5
 obtain ⟨rfl, N5q, eh5⟩ := hQ5
 have N5 := Fr.app N0 N5q
 refine ogo (mkF m 28 #[rv a1, iv 17, iv 16] [(.ref a1), (.int 34), (.ref va), (.ref a1)]) (fun _ k => st5.trans (XS.aloadN X5.here hx rfl (hb hby d14_27) rfl rfl k)) ?_
 refine own_getf X5 hx hZ hown (ow hw 36 rfl) Via.refl eh5 Fld_a1_coder rfl rfl (hb hby d14_28) (fun T6 X6 e6 => ?_)
 refine ogo (mkF m 32 #[rv a1, iv 17, iv 16] [(.int 34), (.ref va), (.ref a1)]) (fun _ k => XS.ishl X6.here hx rfl (hb hby d14_31) rfl k) ?_
 refine own_stat (W := 1) X6 hx hZ hown e6 (ow hw 109 rfl) (ow hw 110 rfl) (rmcpo l Z a0 hw [] va kv vs h0 n0 Z0 V_va hl) (ow hw 112 rfl) (ow hw 111 rfl) rfl (by rw [hml]; rfl) rfl (hb hby d14_32) (lenOf pd___BI__B rfl) rfl (by decide) (fun T7 v7 Ll7 X7 hQ7 => ?_)
 obtain ⟨b_7, kb_7, rfl, N7q, K7, P7_0, P7_1⟩ := hQ7
 have N7 := Fr.app N5 N7q
 have Zs8 : n0 ≤ T7.heap.size := Nat.le_trans Z0 K7.1
 have F9 := E_a1.keep K7
 have F10 := Fld_a1_value.keep K7 nin0
 obtain ⟨T11, h11, X11, e11, W11, st11⟩ := putF X7 hx hZ hown (host := "") (Or.inl (ow hw 34 rfl)) Via.refl rfl F10 F9 (Or.inl (ow hw 35 rfl)) (ow hw 18 rfl) (ty := (.array .byte)) (by decide) rfl rfl (g := (mkF m 35 #[rv a1, iv 17, iv 16] [(.ref b_7), (.ref a1)])) rfl rfl (hb hby d14_35)
 have N11 := Fr.snoc X11 N7 g_a1
 have Zs12 : n0 ≤ h11.size := Nat.le_trans Zs8 (Keep.of_wr W11).1
 have F11 : Fld Z h11 a1 cs0 "value" "[B" (.ref b_7) := F10.same W11
 refine ogo (mkF m 38 #[rv a1, iv 17, iv 16] []) (fun _ k => st11 _ k) ?_
 have K13 := (Keep.refl h0 [a1]).trans K7 all0
 have K14 := K13.wr W11 (Or.inl (List.mem_of_getElem? (i := 0) rfl))
 have F15 := Fld_a1_coder.keep K7 nin0
 have F16 := F15.other W11 (Or.inr (slot_ne (Or.inl (ow hw 37 rfl)) (Or.inl (ow hw 35 rfl)) (by decide) (t := .byte) (t' := (.array .byte)) (by decide) (by decide)))
 have F17 := Fld_a1_count.keep K7 nin0
 have F18 := F17.other W11 (Or.inr (slot_ne (Or.inl (ow hw 80 rfl)) (Or.inl (ow hw 35 rfl)) (by decide) (t := .int) (t' := (.array .byte)) (by decide) (by decide)))
 have nx19 : b_7 ≠ a1 := (Ne.symm (own_ne E_a1.lt (Nat.le_refl _) P7_0))
 have F20 := P7_1.other W11 nx19
 exact own_endV X11 hx hr2 (hb hby d14_38) (by decide) (by decide) (by rw [e11]; exact ⟨b_7, kb_7, rfl, N11, K14, (Nat.le_trans (Nat.le_refl _) P7_0), F11, F16, F18, F20⟩)
def QrmaaG (Z : State) (a1 va : Addr) (kv : ClassId) (vs : List Value) (cv cs : Int32) (h0 : Heap) (n0 : Nat) (v : Option Value) (h : Heap) (L : List Loc) : Prop := ∃ (vb : Addr) (kvb : ClassId), v = some (.ref a1) ∧ Fr n0 L ∧ Keep h0 h [a1] ∧ (h0.size ≤ vb) ∧ (Fld Z h a1 cs0 "value" "[B" (.ref vb)) ∧ (Fld Z h a1 cs0 "coder" "B" (.int 0)) ∧ (Fld Z h a1 cs0 "count" "I" (.int 17)) ∧ (Arv Z h vb kvb .byte (34 : Int32) (vs ++ [(.int (own_lt cv))]) (.int 0))
theorem rmaaG (l : Launch) (Z : State) (a0 : Array Value) (hw : HW a0 Z) (ws : List Jvm.Cond) (a1 va : Addr) (kv : ClassId) (vs : List Value) (cv cs : Int32) (h0 : Heap) (n0 : Nat) (Z0 : n0 ≤ h0.size) (O0 : Old Z n0 h0) (SC : Sta Z Z.heap cs1 "COMPACT_STRINGS" "Z" (.int cs)) (hcs : ¬ (cs = (0 : Int32))) (E_a1 : Exa Z h0 a1 cs2) (g_a1 : n0 ≤ a1) (Fld_a1_value : Fld Z h0 a1 cs0 "value" "[B" (.ref va)) (Fld_a1_coder : Fld Z h0 a1 cs0 "coder" "B" (.int 0)) (Fld_a1_count : Fld Z h0 a1 cs0 "count" "I" (.int 16)) (V_va : Arv Z h0 va kv .byte (16 : Int32) vs (.int 0)) (hl : vs.length = 16) (h8 : ¬ ((255 : Int32) < cv)) :
    own_MF l mn1 cd13 2 (some (.object cs0)) ws (rom 4 1 34 69) #[(.ref a1), (.int cv)] Z h0 (QrmaaG Z a1 va kv vs cv cs h0 n0) := by
 refine own_body n0 (plainFor_of_name pn_13) (fun m => ef_rmaa16 m a1 cv) (fun p e s m below meth c s₁ hx hby hml hr2 hZ hown hnm X0 e0 N0 => ?_)
 refine ogo (mkF m 2 #[rv a1, iv cv] [(.ref a1), (.ref a1)]) (fun _ k => XS.aloadN X0.here hx rfl (hb hby d13_0) rfl rfl (XS.aloadN X0.here hx rfl (hb hby d13_1) rfl rfl k)) ?_
 refine own_getf X0 hx hZ hown (ow hw 79 rfl) Via.refl e0 Fld_a1_count rfl rfl (hb hby d13_2) (fun T1 X1 e1 => ?_)
 refine ogo (mkF m 7 #[rv a1, iv cv] [(.int 17), (.ref a1)]) (fun _ k => XS.iconst X1.here hx rfl (hb hby d13_5) (XS.iadd X1.here hx rfl (hb hby d13_6) rfl k)) ?_
 obtain ⟨cq2, qc2, qc2'⟩ := E_a1.cell
 obtain ⟨_, _, ⟨T2, Ll2, kz2, nz2⟩, -, X2, ⟨Lc2, hQ2, lz2, yz2, zz2⟩, st2⟩ := X1.privateBack hx (y := mn0) hown (mvT hZ (ow hw 81 rfl)) (mvT hZ (ow hw 82 rfl)) (own_selpV (y := mn0) (mvT hZ (ow hw 84 rfl)) (mvP hZ (ow hw 83 rfl)) (mvT hZ (ow hw 82 rfl)) (by decide)) (Cond.privateMethod_at (mvP hZ (ow hw 83 rfl) (args := #[]))) (mvT hZ (ow hw 85 rfl)) (by decide) (backOf (W := 0) (rmecG l Z a0 hw [] a1 va kv vs h0 n0 Z0 E_a1 g_a1 Fld_a1_value Fld_a1_coder V_va Fld_a1_count hl) hZ (ow hw 85 rfl) (ow hw 27 rfl) (by decide) (by decide)) (g := (mkF m 7 #[rv a1, iv cv] [(.int 17), (.ref a1)])) rfl (by rw [hml]; rfl) (Steps.refl _) (a := a1) (by rw [e1]; exact qc2) qc2' (argsL := [(.int 17)]) (rest := []) (lenOf pd__I_V rfl) rfl (by show 2 * 0 + _ ≤ _; exact Nat.le_of_eq rfl) (hb hby d13_7) (fun _ _ => ⟨rfl, e1, (by decide : 0 + 1 ≤ _), (by decide : 0 + 34 ≤ _)⟩)
 dsimp only [Pt.U, Pt.locs, Pt.cells, Pt.slots] at X2 lz2 yz2 zz2 st2 hQ2
 subst lz2 yz2 zz2
 obtain ⟨vb_2, kvb_2, rfl, N2q, K2, P2_0, P2_1, P2_2, P2_3, P2_4⟩ := hQ2
 have N2 := Fr.app N0 N2q
 have Zs3 : n0 ≤ T2.heap.size := Nat.le_trans Z0 K2.1
 refine ogo (mkF m 11 #[rv a1, iv cv] [(.ref a1)]) (fun _ k => st2.trans (XS.aloadN X2.here hx rfl (hb hby d13_10) rfl rfl k)) ?_
 have O5 := O0.keep K2 (allS g_a1 all0)
 have F6 := E_a1.keep K2
 refine own_virt (W := 0) X2 hx hZ hown rfl (ow hw 86 rfl) (ow hw 87 rfl) (ow hw 89 rfl) (ow hw 88 rfl) (rmbl l Z a0 hw [] a1 cs T2.heap n0 Zs3 O5 SC hcs P2_2) (ow hw 90 rfl) (ow hw 27 rfl) F6 rfl (by rw [hml]; rfl) rfl (hb hby d13_11) (lenOf pd___Z rfl) rfl (by decide) (fun T4 v4 Ll4 X4 hQ4 => ?_)
 obtain ⟨rfl, N4q, eh4⟩ := hQ4
 have N4 := Fr.app N2 N4q
 refine ogo (mkF m 18 #[rv a1, iv cv] [(.int cv)]) (fun _ k => XS.ifNo X4.here hx rfl (hb hby d13_14) rfl ((if0 _ _).trans (feq (by decide : ¬ ((1 : Int32) = (0 : Int32)))).1) (XS.iloadN X4.here hx rfl (hb hby d13_17) rfl k)) ?_
 refine own_stat (W := 0) X4 hx hZ hown eh4 (ow hw 91 rfl) (ow hw 92 rfl) (rmce l Z a0 hw [] cv T2.heap n0 Zs3 h8) (ow hw 93 rfl) (ow hw 59 rfl) rfl (by rw [hml]; rfl) rfl (hb hby d13_18) (lenOf pd__C_Z rfl) rfl (by decide) (fun T7 v7 Ll7 X7 hQ7 => ?_)
 obtain ⟨rfl, N7q, eh7⟩ := hQ7
 have N7 := Fr.app N4 N7q
 refine ogo (mkF m 25 #[rv a1, iv cv] [(.ref a1)]) (fun _ k => XS.ifNo X7.here hx rfl (hb hby d13_21) rfl ((if0 _ _).trans (feq (by decide : ¬ ((1 : Int32) = (0 : Int32)))).1) (XS.aloadN X7.here hx rfl (hb hby d13_24) rfl rfl k)) ?_
 refine own_getf X7 hx hZ hown (ow hw 34 rfl) Via.refl eh7 P2_1 rfl rfl (hb hby d13_25) (fun T8 X8 e8 => ?_)
 refine ogo (mkF m 30 #[rv a1, iv cv] [(.ref a1), (.ref a1), (.ref vb_2)]) (fun _ k => XS.aloadN X8.here hx rfl (hb hby d13_28) rfl rfl (XS.dup X8.here hx rfl (hb hby d13_29) rfl rfl k)) ?_
 refine own_getf X8 hx hZ hown (ow hw 79 rfl) Via.refl e8 P2_3 rfl rfl (hb hby d13_30) (fun T9 X9 e9 => ?_)
 refine ogo (mkF m 36 #[rv a1, iv cv] [(.int 17), (.ref a1), (.int 16), (.ref vb_2)]) (fun _ k => XS.dupX1 X9.here hx rfl (hb hby d13_33) rfl rfl rfl (XS.iconst X9.here hx rfl (hb hby d13_34) (XS.iadd X9.here hx rfl (hb hby d13_35) rfl k))) ?_
 obtain ⟨T10, h10, X10, e10, W10, st10⟩ := putF X9 hx hZ hown (host := "") (Or.inl (ow hw 79 rfl)) Via.refl e9 P2_3 F6 (Or.inl (ow hw 80 rfl)) (ow hw 18 rfl) (ty := .int) (by decide) rfl rfl (g := (mkF m 36 #[rv a1, iv cv] [(.int 17), (.ref a1), (.int 16), (.ref vb_2)])) rfl rfl (hb hby d13_36)
 have N10 := Fr.snoc X10 N7 g_a1
 have Zs11 : n0 ≤ h10.size := Nat.le_trans Zs3 (Keep.of_wr W10).1
 have F10 : Fld Z h10 a1 cs0 "count" "I" (.int 17) := P2_3.same W10
 refine ogo (mkF m 41 #[rv a1, iv cv] [(.int (cv.toInt8.toInt32)), (.int 16), (.ref vb_2)]) (fun _ k => st10 _ (XS.iloadN X10.here hx rfl (hb hby d13_39) rfl (XS.i2b X10.here hx rfl (hb hby d13_40) rfl k))) ?_
 have nx13 : vb_2 ≠ a1 := (Ne.symm (own_ne E_a1.lt (Nat.le_refl _) P2_0))
 have F14 := P2_4.other W10 nx13
 obtain ⟨cl12, Ar12, ql12, Sz12, Nn12, Hl12, Gl12⟩ := id F14
 have hin12 : ¬ ((16 : Int32) < 0 ∨ cl12.slots.size ≤ ((16 : Int32)).toNatClampNeg) := inb_of Sz12 ⟨by decide, by decide⟩
 obtain ⟨T12, h12, X12, e12, W12, st12⟩ := stB X10 hx hZ e10 Ar12 (j := (16 : Int32)) hin12 (g := (mkF m 41 #[rv a1, iv cv] [(.int (cv.toInt8.toInt32)), (.int 16), (.ref vb_2)])) rfl rfl (hb hby d13_41)
 have gx15 : n0 ≤ vb_2 := Nat.le_trans Z0 P2_0
 have N12 := Fr.snoc X12 N10 gx15
 have Zs16 : n0 ≤ h12.size := Nat.le_trans Zs11 (Keep.of_wr W12).1
 have V12 : Arv Z h12 vb_2 kvb_2 .byte (34 : Int32) (vs ++ [(.int (own_lt cv))]) (.int 0) := own_push Ar12 ql12 Sz12 Nn12 Hl12 Gl12 (fits_nar_byte _) W12 hl
 refine ogo (mkF m 76 #[rv a1, iv cv] [(.ref a1)]) (fun _ k => st12 _ (XS.goto X12.here hx rfl (pc0 := 42) (pc' := 75) rfl (hb hby d13_42) (by decide) (by decide) (XS.aloadN X12.here hx rfl (hb hby d13_75) rfl rfl k))) ?_
 have K17 := (Keep.refl h0 [a1]).trans K2 (allS (Or.inl (List.mem_of_getElem? (i := 0) rfl)) all0)
 have K18 := K17.wr W10 (Or.inl (List.mem_of_getElem? (i := 0) rfl))
 have K19 := K18.wr W12 (Or.inr (Nat.le_trans (Nat.le_refl _) P2_0))
 have F20 := P2_1.other W10 (Or.inr (slot_ne (Or.inl (ow hw 35 rfl)) (Or.inl (ow hw 80 rfl)) (by decide) (t := (.array .byte)) (t' := .int) (by decide) (by decide)))
 have F21 := F20.other W12 (Or.inl (Ne.symm nx13))
 have F22 := P2_2.other W10 (Or.inr (slot_ne (Or.inl (ow hw 37 rfl)) (Or.inl (ow hw 80 rfl)) (by decide) (t := .byte) (t' := .int) (by decide) (by decide)))
 have F23 := F22.other W12 (Or.inl (Ne.symm nx13))
 have F24 := F10.other W12 (Or.inl (Ne.symm nx13))
 exact own_endR X12 hx hr2 rfl rfl (hb hby d13_76) (by decide) (by decide) (by rw [e12]; exact ⟨vb_2, kvb_2, rfl, N12, K19, (Nat.le_trans (Nat.le_refl _) P2_0), F21, F23, F24, V12⟩)
def QrmapG (Z : State) (a1 va : Addr) (kv : ClassId) (vs : List Value) (cv cs : Int32) (h0 : Heap) (n0 : Nat) (v : Option Value) (h : Heap) (L : List Loc) : Prop := ∃ (vb : Addr) (kvb : ClassId), v = some (.ref a1) ∧ Fr n0 L ∧ Keep h0 h [a1] ∧ (h0.size ≤ vb) ∧ (Fld Z h a1 cs0 "value" "[B" (.ref vb)) ∧ (Fld Z h a1 cs0 "coder" "B" (.int 0)) ∧ (Fld Z h a1 cs0 "count" "I" (.int 17)) ∧ (Arv Z h vb kvb .byte (34 : Int32) (vs ++ [(.int (own_lt cv))]) (.int 0))
theorem rmapG (l : Launch) (Z : State) (a0 : Array Value) (hw : HW a0 Z) (ws : List Jvm.Cond) (a1 va : Addr) (kv : ClassId) (vs : List Value) (cv cs : Int32) (h0 : Heap) (n0 : Nat) (Z0 : n0 ≤ h0.size) (O0 : Old Z n0 h0) (SC : Sta Z Z.heap cs1 "COMPACT_STRINGS" "Z" (.int cs)) (hcs : ¬ (cs = (0 : Int32))) (E_a1 : Exa Z h0 a1 cs2) (g_a1 : n0 ≤ a1) (Fld_a1_value : Fld Z h0 a1 cs0 "value" "[B" (.ref va)) (Fld_a1_coder : Fld Z h0 a1 cs0 "coder" "B" (.int 0)) (Fld_a1_count : Fld Z h0 a1 cs0 "count" "I" (.int 16)) (V_va : Arv Z h0 va kv .byte (16 : Int32) vs (.int 0)) (hl : vs.length = 16) (h8 : ¬ ((255 : Int32) < cv)) :
    own_MF l mn4 cd12 2 (some (.object cs2)) ws (rom 5 1 34 82) #[(.ref a1), (.int cv)] Z h0 (QrmapG Z a1 va kv vs cv cs h0 n0) := by
 refine own_body n0 (plainFor_of_name pn_12) (fun m => ef_rmap16 m a1 cv) (fun p e s m below meth c s₁ hx hby hml hr2 hZ hown hnm X0 e0 N0 => ?_)
 refine ogo (mkF m 2 #[rv a1, iv cv] [(.int cv), (.ref a1)]) (fun _ k => XS.aloadN X0.here hx rfl (hb hby d12_0) rfl rfl (XS.iloadN X0.here hx rfl (hb hby d12_1) rfl k)) ?_
 refine own_super (W := 0) X0 hx hZ hown e0 (ow hw 74 rfl) (own_same (y := mn1) (z := mn0) (ow hw 84 rfl) rfl (ow hw 75 rfl) (by decide)) (ow hw 75 rfl) (ow hw 76 rfl) (rmaaG l Z a0 hw [] a1 va kv vs cv cs h0 n0 Z0 O0 SC hcs E_a1 g_a1 Fld_a1_value Fld_a1_coder Fld_a1_count V_va hl h8) (ow hw 78 rfl) (ow hw 27 rfl) (Ins.self E_a1) rfl (by rw [hml]; rfl) rfl (hb hby d12_2) (lenOf pd__C_Ljava_lang_AbstractStringBuilder_ rfl) rfl (by decide) (by decide) (fun T1 v1 Ll1 X1 hQ1 => ?_)
 obtain ⟨vb_1, kvb_1, rfl, N1q, K1, P1_0, P1_1, P1_2, P1_3, P1_4⟩ := hQ1
 have N1 := Fr.app N0 N1q
 have Zs2 : n0 ≤ T1.heap.size := Nat.le_trans Z0 K1.1
 refine ogo (mkF m 7 #[rv a1, iv cv] [(.ref a1)]) (fun _ k => XS.pop X1.here hx rfl (hb hby d12_5) rfl rfl (XS.aloadN X1.here hx rfl (hb hby d12_6) rfl rfl k)) ?_
 have K3 := (Keep.refl h0 [a1]).trans K1 (allS (Or.inl (List.mem_of_getElem? (i := 0) rfl)) all0)
 exact own_endR X1 hx hr2 rfl rfl (hb hby d12_7) (by decide) (by decide) (by exact ⟨vb_1, kvb_1, rfl, N1, K3, (Nat.le_trans (Nat.le_refl _) P1_0), P1_1, P1_2, P1_3, P1_4⟩)
theorem d25_0 : dk cd25 0 (.aload_n 0) 1 := by decide +kernel
theorem d25_1 : dk cd25 1 (.getfield 15) 3 := by decide +kernel
theorem d25_4 : dk cd25 4 .areturn 1 := by decide +kernel
theorem pn_25 : plainName cs0 = true := by first | (simp [plainName, overriddenIn]; done) | decide +kernel
theorem ef_rmgv (m : MethodId) (x0 : Addr) : entryFrame m #[(.ref x0)] 1 = mkF m 0 #[rv x0] [] := by first | (simp [entryFrame, mkF, argsToLocals, Value.category]; done) | rfl
def Qrmgv (Z : State) (a1 va : Addr) (h0 : Heap) (n0 : Nat) (v : Option Value) (h : Heap) (L : List Loc) : Prop := v = some (.ref va) ∧ Fr n0 L ∧ h = h0
theorem rmgv (l : Launch) (Z : State) (a0 : Array Value) (hw : HW a0 Z) (ws : List Jvm.Cond) (a1 va : Addr) (h0 : Heap) (n0 : Nat) (Z0 : n0 ≤ h0.size) (Fld_a1_value : Fld Z h0 a1 cs0 "value" "[B" (.ref va)) :
    own_MF l (⟨cs0, "getValue", "()[B"⟩ : MethodName) cd25 1 (some (.array .byte)) ws (rom 0 0 0 0) #[(.ref a1)] Z h0 (Qrmgv Z a1 va h0 n0) := by
 refine own_body n0 (plainFor_of_name pn_25) (fun m => ef_rmgv m a1) (fun p e s m below meth c s₁ hx hby hml hr2 hZ hown hnm X0 e0 N0 => ?_)
 refine ogo (mkF m 1 #[rv a1] [(.ref a1)]) (fun _ k => XS.aloadN X0.here hx rfl (hb hby d25_0) rfl rfl k) ?_
 refine own_getf X0 hx hZ hown (ow hw 34 rfl) Via.refl e0 Fld_a1_value rfl rfl (hb hby d25_1) (fun T1 X1 e1 => ?_)
 exact own_endR X1 hx hr2 rfl rfl (hb hby d25_4) (by decide) (by decide) (by rw [e1]; exact ⟨rfl, N0, rfl⟩)
theorem d27_0 : dk cd27 0 (.aload_n 0) 1 := by decide +kernel
theorem d27_1 : dk cd27 1 (.getfield 79) 3 := by decide +kernel
theorem d27_4 : dk cd27 4 .ireturn 1 := by decide +kernel
theorem pn_27 : plainName cs0 = true := by first | (simp [plainName, overriddenIn]; done) | decide +kernel
theorem ef_rmaln (m : MethodId) (x0 : Addr) : entryFrame m #[(.ref x0)] 1 = mkF m 0 #[rv x0] [] := by first | (simp [entryFrame, mkF, argsToLocals, Value.category]; done) | rfl
def Qrmaln (Z : State) (a1 : Addr) (nv : Int32) (h0 : Heap) (n0 : Nat) (v : Option Value) (h : Heap) (L : List Loc) : Prop := v = some (.int nv) ∧ Fr n0 L ∧ h = h0
theorem rmaln (l : Launch) (Z : State) (a0 : Array Value) (hw : HW a0 Z) (ws : List Jvm.Cond) (a1 : Addr) (nv : Int32) (h0 : Heap) (n0 : Nat) (Z0 : n0 ≤ h0.size) (Fld_a1_count : Fld Z h0 a1 cs0 "count" "I" (.int nv)) :
    own_MF l mn5 cd27 1 (some .int) ws (rom 0 0 0 0) #[(.ref a1)] Z h0 (Qrmaln Z a1 nv h0 n0) := by
 refine own_body n0 (plainFor_of_name pn_27) (fun m => ef_rmaln m a1) (fun p e s m below meth c s₁ hx hby hml hr2 hZ hown hnm X0 e0 N0 => ?_)
 refine ogo (mkF m 1 #[rv a1] [(.ref a1)]) (fun _ k => XS.aloadN X0.here hx rfl (hb hby d27_0) rfl rfl k) ?_
 refine own_getf X0 hx hZ hown (ow hw 79 rfl) Via.refl e0 Fld_a1_count rfl rfl (hb hby d27_1) (fun T1 X1 e1 => ?_)
 exact own_endI X1 hx hr2 (hb hby d27_4) (by decide) (by decide) (by rw [e1]; exact ⟨rfl, N0, rfl⟩)
theorem d26_0 : dk cd26 0 (.aload_n 0) 1 := by decide +kernel
theorem d26_1 : dk cd26 1 (.invokespecial 343) 3 := by decide +kernel
theorem d26_4 : dk cd26 4 .ireturn 1 := by decide +kernel
theorem pd___I : parseMethodDescriptor "()I" = some ⟨[], some .int⟩ := by decide +kernel
theorem pn_26 : plainName cs2 = true := by first | (simp [plainName, overriddenIn]; done) | decide +kernel
theorem ef_rmsln (m : MethodId) (x0 : Addr) : entryFrame m #[(.ref x0)] 1 = mkF m 0 #[rv x0] [] := by first | (simp [entryFrame, mkF, argsToLocals, Value.category]; done) | rfl
def Qrmsln (Z : State) (a1 : Addr) (nv : Int32) (h0 : Heap) (n0 : Nat) (v : Option Value) (h : Heap) (L : List Loc) : Prop := v = some (.int nv) ∧ Fr n0 L ∧ h = h0
theorem rmsln (l : Launch) (Z : State) (a0 : Array Value) (hw : HW a0 Z) (ws : List Jvm.Cond) (a1 : Addr) (nv : Int32) (h0 : Heap) (n0 : Nat) (Z0 : n0 ≤ h0.size) (E_a1 : Exa Z h0 a1 cs2) (Fld_a1_count : Fld Z h0 a1 cs0 "count" "I" (.int nv)) :
    own_MF l mn16 cd26 1 (some .int) ws (rom 1 0 0 12) #[(.ref a1)] Z h0 (Qrmsln Z a1 nv h0 n0) := by
 refine own_body n0 (plainFor_of_name pn_26) (fun m => ef_rmsln m a1) (fun p e s m below meth c s₁ hx hby hml hr2 hZ hown hnm X0 e0 N0 => ?_)
 refine ogo (mkF m 1 #[rv a1] [(.ref a1)]) (fun _ k => XS.aloadN X0.here hx rfl (hb hby d26_0) rfl rfl k) ?_
 refine own_super (W := 0) X0 hx hZ hown e0 (ow hw 142 rfl) (own_same (y := mn5) (z := mn0) (ow hw 84 rfl) rfl (ow hw 138 rfl) (by decide)) (ow hw 138 rfl) (ow hw 76 rfl) (rmaln l Z a0 hw [] a1 nv h0 n0 Z0 Fld_a1_count) (ow hw 143 rfl) (ow hw 27 rfl) (Ins.self E_a1) rfl (by rw [hml]; rfl) rfl (hb hby d26_1) (lenOf pd___I rfl) rfl (by decide) (by decide) (fun T1 v1 Ll1 X1 hQ1 => ?_)
 obtain ⟨rfl, N1q, eh1⟩ := hQ1
 have N1 := Fr.app N0 N1q
 exact own_endI X1 hx hr2 (hb hby d26_4) (by decide) (by decide) (by rw [eh1]; exact ⟨rfl, N1, rfl⟩)
theorem d30_0 : dk cd30 0 (.iload_n 1) 1 := by decide +kernel
theorem d30_1 : dk cd30 1 (.iload_n 0) 1 := by decide +kernel
theorem d30_2 : dk cd30 2 (.if_icmp .ge 35) 3 := by decide +kernel
theorem d30_37 : dk cd30 37 .return_ 1 := by decide +kernel
theorem pn_30 : plainName cs7 = true := by first | (simp [plainName, overriddenIn]; done) | decide +kernel
theorem ef_rmckl (m : MethodId) (x0 : Int32) (x1 : Int32) : entryFrame m #[(.int x0), (.int x1)] 2 = mkF m 0 #[iv x0, iv x1] [] := by first | (simp [entryFrame, mkF, argsToLocals, Value.category]; done) | rfl
def Qrmckl (Z : State)  (h0 : Heap) (n0 : Nat) (v : Option Value) (h : Heap) (L : List Loc) : Prop := v = none ∧ Fr n0 L ∧ h = h0
theorem rmckl (l : Launch) (Z : State) (a0 : Array Value) (hw : HW a0 Z) (ws : List Jvm.Cond)  (h0 : Heap) (n0 : Nat) (Z0 : n0 ≤ h0.size) :
    own_MF l (⟨cs7, "checkLength", "(II)V"⟩ : MethodName) cd30 2 none ws (rom 0 0 0 0) #[(.int 0), (.int 20)] Z h0 (Qrmckl Z  h0 n0) := by
 refine own_body n0 (plainFor_of_name pn_30) (fun m => ef_rmckl m (0 : Int32) (20 : Int32)) (fun p e s m below meth c s₁ hx hby hml hr2 hZ hown hnm X0 e0 N0 => ?_)
 refine ogo (mkF m 37 #[iv 0, iv 20] []) (fun _ k => XS.iloadN X0.here hx rfl (hb hby d30_0) rfl (XS.iloadN X0.here hx rfl (hb hby d30_1) rfl (XS.icmpYes X0.here hx rfl (pc0 := 2) (pc' := 37) rfl (hb hby d30_2) rfl (flt (by decide : ¬ ((20 : Int32) < (0 : Int32)))).2.1 (by decide) (by decide) k))) ?_
 exact own_endV X0 hx hr2 (hb hby d30_37) (by decide) (by decide) (by rw [e0]; exact ⟨rfl, N0, rfl⟩)
theorem d29_0 : dk cd29 0 (.iload_n 1) 1 := by decide +kernel
theorem d29_1 : dk cd29 1 (.iload_n 2) 1 := by decide +kernel
theorem d29_2 : dk cd29 2 (.invokestatic 343) 3 := by decide +kernel
theorem d29_5 : dk cd29 5 (.iload_n 2) 1 := by decide +kernel
theorem d29_6 : dk cd29 6 (.iload_n 1) 1 := by decide +kernel
theorem d29_7 : dk cd29 7 .isub 1 := by decide +kernel
theorem d29_8 : dk cd29 8 (.istore_n 3) 1 := by decide +kernel
theorem d29_9 : dk cd29 9 (.iload_n 3) 1 := by decide +kernel
theorem d29_10 : dk cd29 10 (.newarray .byte) 2 := by decide +kernel
theorem d29_12 : dk cd29 12 (.astore 4) 2 := by decide +kernel
theorem d29_14 : dk cd29 14 (.aload_n 0) 1 := by decide +kernel
theorem d29_15 : dk cd29 15 (.iload_n 1) 1 := by decide +kernel
theorem d29_16 : dk cd29 16 (.aload 4) 2 := by decide +kernel
theorem d29_18 : dk cd29 18 (.iconst 0) 1 := by decide +kernel
theorem d29_19 : dk cd29 19 (.aload_n 0) 1 := by decide +kernel
theorem d29_20 : dk cd29 20 .arraylength 1 := by decide +kernel
theorem d29_21 : dk cd29 21 (.iload_n 1) 1 := by decide +kernel
theorem d29_22 : dk cd29 22 .isub 1 := by decide +kernel
theorem d29_23 : dk cd29 23 (.iload_n 3) 1 := by decide +kernel
theorem d29_24 : dk cd29 24 (.invokestatic 304) 3 := by decide +kernel
theorem d29_27 : dk cd29 27 (.invokestatic 150) 3 := by decide +kernel
theorem d29_30 : dk cd29 30 (.aload 4) 2 := by decide +kernel
theorem d29_32 : dk cd29 32 .areturn 1 := by decide +kernel
theorem pn_29 : plainName cs7 = true := by first | (simp [plainName, overriddenIn]; done) | decide +kernel
theorem ef_rmcrb (m : MethodId) (x0 : Addr) (x1 : Int32) (x2 : Int32) : entryFrame m #[(.ref x0), (.int x1), (.int x2)] 5 = mkF m 0 #[rv x0, iv x1, iv x2, .unset, .unset] [] := by first | (simp [entryFrame, mkF, argsToLocals, Value.category]; done) | rfl
def Qrmcrb (Z : State) (va : Addr) (kv : ClassId) (vs : List Value) (h0 : Heap) (n0 : Nat) (v : Option Value) (h : Heap) (L : List Loc) : Prop := ∃ (b : Addr) (kb : ClassId), v = some (.ref b) ∧ Fr n0 L ∧ Keep h0 h [] ∧ (h0.size ≤ b) ∧ (Arv Z h b kb .byte (20 : Int32) vs (.int 0))
theorem rmcrb (l : Launch) (Z : State) (a0 : Array Value) (hw : HW a0 Z) (ws : List Jvm.Cond) (va : Addr) (kv : ClassId) (vs : List Value) (h0 : Heap) (n0 : Nat) (Z0 : n0 ≤ h0.size) (V_va : Arv Z h0 va kv .byte (34 : Int32) vs (.int 0)) (hl : vs.length = 20) :
    own_MF l (⟨cs7, "copyOfRangeByte", "([BII)[B"⟩ : MethodName) cd29 5 (some (.array .byte)) ws (rom 1 1 20 40) #[(.ref va), (.int 0), (.int 20)] Z h0 (Qrmcrb Z va kv vs h0 n0) := by
 refine own_body n0 (plainFor_of_name pn_29) (fun m => ef_rmcrb m va (0 : Int32) (20 : Int32)) (fun p e s m below meth c s₁ hx hby hml hr2 hZ hown hnm X0 e0 N0 => ?_)
 refine ogo (mkF m 2 #[rv va, iv 0, iv 20, .unset, .unset] [(.int 20), (.int 0)]) (fun _ k => XS.iloadN X0.here hx rfl (hb hby d29_0) rfl (XS.iloadN X0.here hx rfl (hb hby d29_1) rfl k)) ?_
 refine own_stat (W := 0) X0 hx hZ hown e0 (ow hw 151 rfl) (ow hw 152 rfl) (rmckl l Z a0 hw []  h0 n0 Z0) (ow hw 153 rfl) (ow hw 111 rfl) rfl (by rw [hml]; rfl) rfl (hb hby d29_2) (lenOf pd__II_V rfl) rfl (by decide) (fun T1 v1 Ll1 X1 hQ1 => ?_)
 obtain ⟨rfl, N1q, eh1⟩ := hQ1
 have N1 := Fr.app N0 N1q
 refine ogo (mkF m 10 #[rv va, iv 0, iv 20, iv 20, .unset] [(.int 20)]) (fun _ k => XS.iloadN X1.here hx rfl (hb hby d29_5) rfl (XS.iloadN X1.here hx rfl (hb hby d29_6) rfl (XS.isub X1.here hx rfl (hb hby d29_7) rfl (XS.istoreN X1.here hx rfl (hb hby d29_8) rfl (l' := #[rv va, iv 0, iv 20, iv 20, .unset]) rfl (XS.iloadN X1.here hx rfl (hb hby d29_9) rfl k))))) ?_
 obtain ⟨T2, h2, kl2, X2, e2, E2, A2, st2⟩ := newP X1 hx hZ (ow hw 0 rfl) eh1 (g := (mkF m 10 #[rv va, iv 0, iv 20, iv 20, .unset] [(.int 20)])) rfl (hb hby d29_10) rfl (by decide) (cap := 20) (by decide) (by decide) (by decide) (by decide)
 obtain ⟨b2, g2⟩ : ∃ z, z = h0.size := ⟨_, rfl⟩
 rw [← g2] at A2 st2
 have Zs3 : n0 ≤ h2.size := Nat.le_trans Z0 E2.1
 have V2 : Arv Z h2 b2 kl2 .byte (20 : Int32) [] (.int 0) := Arv.new A2 (by decide)
 refine ogo (mkF m 20 #[rv va, iv 0, iv 20, iv 20, rv b2] [(.ref va), (.int 0), (.ref b2), (.int 0), (.ref va)]) (fun _ k => st2 _ (XS.astore X2.here hx rfl (hb hby d29_12) rfl rfl (l' := #[rv va, iv 0, iv 20, iv 20, rv b2]) rfl (XS.aloadN X2.here hx rfl (hb hby d29_14) rfl rfl (XS.iloadN X2.here hx rfl (hb hby d29_15) rfl (XS.aload X2.here hx rfl (hb hby d29_16) rfl rfl (XS.iconst X2.here hx rfl (hb hby d29_18) (XS.aloadN X2.here hx rfl (hb hby d29_19) rfl rfl k))))))) ?_
 have F5 := V_va.ext E2
 obtain ⟨cl4, Ar4, -, Sz4, Nn4, -, -⟩ := id F5
 refine own_go (b := (T2.setTop (mkF m 24 #[rv va, iv 0, iv 20, iv 20, rv b2] [(.int 20), (.int 34), (.int 0), (.ref b2), (.int 0), (.ref va)]))) (fun _ k => X2.arraylength hx (by rw [e2]; exact Ar4.1) (State.isArrayOf_alike hZ.alike Ar4.2.1) (g := (mkF m 20 #[rv va, iv 0, iv 20, iv 20, rv b2] [(.ref va), (.int 0), (.ref b2), (.int 0), (.ref va)])) rfl rfl (hb hby d29_20) _ (by rw [len_of Sz4 Nn4]; exact (XS.iloadN X2.here hx rfl (hb hby d29_21) rfl (XS.isub X2.here hx rfl (hb hby d29_22) rfl (XS.iloadN X2.here hx rfl (hb hby d29_23) rfl k))))) ?_
 refine own_stat (W := 4) X2 hx hZ hown e2 (ow hw 113 rfl) (ow hw 114 rfl) (rmminB l Z a0 hw [] (34 : Int32) (20 : Int32) h2 n0 Zs3 (by decide)) (ow hw 115 rfl) (ow hw 105 rfl) rfl (by rw [hml]; rfl) rfl (hb hby d29_24) (lenOf pd__II_I rfl) rfl (by decide) (fun T6 v6 Ll6 X6 hQ6 => ?_)
 obtain ⟨rfl, N6q, eh6⟩ := hQ6
 have N6 := Fr.app N1 N6q
 have gx8 : n0 ≤ b2 := Nat.le_trans Z0 (Nat.le_of_eq g2.symm)
 obtain ⟨T7, h7, L7, X7, e7, N7, K7, V7, st7⟩ := cpA X6 hx hZ hown (ow hw 116 rfl) (ow hw 9 rfl) (ow hw 7 rfl) (ow hw 8 rfl) eh6 (us := vs) F5 (V2.pad (pad_rep [] (.int 0) 20)) (Or.inl ⟨rfl, rfl⟩) (by decide) (by decide) (by decide) (by decide) (by decide) (by exact own_rng hl rfl) (by rw [List.nil_append, List.length_replicate]; decide) N6 gx8 (g := (mkF m 27 #[rv va, iv 0, iv 20, iv 20, rv b2] [(.int 20), (.int 0), (.ref b2), (.int 0), (.ref va)])) rfl (by rw [hml]; rfl) rfl (hb hby d29_27) (by decide) (W := 0) (by show 2 * 0 + _ ≤ _; exact Nat.le_of_eq rfl) (by decide)
 have Zs9 : n0 ≤ h7.size := Nat.le_trans Zs3 K7.1
 have V7c : Arv Z h7 b2 kl2 .byte (20 : Int32) vs (.int 0) := own_cpg (v0 := []) V7 rfl
 refine ogo (mkF m 32 #[rv va, iv 0, iv 20, iv 20, rv b2] [(.ref b2)]) (fun _ k => st7 _ (XS.aload X7.here hx rfl (hb hby d29_30) rfl rfl k)) ?_
 have K10 := (Keep.refl h0 []).ext E2
 have K11 := K10.trans K7 (allS (Or.inr (Nat.le_trans (Nat.le_refl _) (Nat.le_of_eq g2.symm))) all0)
 exact own_endR X7 hx hr2 rfl rfl (hb hby d29_32) (by decide) (by decide) (by rw [e7]; exact ⟨b2, kl2, rfl, N7, K11, (Nat.le_trans (Nat.le_refl _) (Nat.le_of_eq g2.symm)), V7c⟩)
theorem d28_0 : dk cd28 0 (.iload_n 1) 1 := by decide +kernel
theorem d28_1 : dk cd28 1 (.ifCond .ne 9) 3 := by decide +kernel
theorem d28_4 : dk cd28 4 (.iload_n 2) 1 := by decide +kernel
theorem d28_5 : dk cd28 5 (.aload_n 0) 1 := by decide +kernel
theorem d28_6 : dk cd28 6 .arraylength 1 := by decide +kernel
theorem d28_7 : dk cd28 7 (.if_icmp .eq 10) 3 := by decide +kernel
theorem d28_10 : dk cd28 10 (.aload_n 0) 1 := by decide +kernel
theorem d28_11 : dk cd28 11 (.iload_n 1) 1 := by decide +kernel
theorem d28_12 : dk cd28 12 (.iload_n 2) 1 := by decide +kernel
theorem d28_13 : dk cd28 13 (.invokestatic 339) 3 := by decide +kernel
theorem d28_16 : dk cd28 16 .areturn 1 := by decide +kernel
theorem d28_17 : dk cd28 17 (.aload_n 0) 1 := by decide +kernel
theorem d28_18 : dk cd28 18 (.invokevirtual 310) 3 := by decide +kernel
theorem d28_21 : dk cd28 21 (.checkcast 311) 3 := by decide +kernel
theorem d28_24 : dk cd28 24 .areturn 1 := by decide +kernel
theorem pd___BII__B : parseMethodDescriptor "([BII)[B" = some ⟨[(.array .byte), .int, .int], some (.array .byte)⟩ := by decide +kernel
theorem pn_28 : plainName cs7 = true := by first | (simp [plainName, overriddenIn]; done) | decide +kernel
theorem ef_rmcor34 (m : MethodId) (x0 : Addr) (x1 : Int32) (x2 : Int32) : entryFrame m #[(.ref x0), (.int x1), (.int x2)] 3 = mkF m 0 #[rv x0, iv x1, iv x2] [] := by first | (simp [entryFrame, mkF, argsToLocals, Value.category]; done) | rfl
def Qrmcor34 (Z : State) (va : Addr) (kv : ClassId) (vs : List Value) (h0 : Heap) (n0 : Nat) (v : Option Value) (h : Heap) (L : List Loc) : Prop := ∃ (b : Addr) (kb : ClassId), v = some (.ref b) ∧ Fr n0 L ∧ Keep h0 h [] ∧ (h0.size ≤ b) ∧ (Arv Z h b kb .byte (20 : Int32) vs (.int 0))
theorem rmcor34 (l : Launch) (Z : State) (a0 : Array Value) (hw : HW a0 Z) (ws : List Jvm.Cond) (va : Addr) (kv : ClassId) (vs : List Value) (h0 : Heap) (n0 : Nat) (Z0 : n0 ≤ h0.size) (V_va : Arv Z h0 va kv .byte (34 : Int32) vs (.int 0)) (hl : vs.length = 20) :
    own_MF l (⟨cs7, "copyOfRange", "([BII)[B"⟩ : MethodName) cd28 3 (some (.array .byte)) ws (rom 2 1 20 56) #[(.ref va), (.int 0), (.int 20)] Z h0 (Qrmcor34 Z va kv vs h0 n0) := by
 refine own_body n0 (plainFor_of_name pn_28) (fun m => ef_rmcor34 m va (0 : Int32) (20 : Int32)) (fun p e s m below meth c s₁ hx hby hml hr2 hZ hown hnm X0 e0 N0 => ?_)
 refine ogo (mkF m 6 #[rv va, iv 0, iv 20] [(.ref va), (.int 20)]) (fun _ k => XS.iloadN X0.here hx rfl (hb hby d28_0) rfl (XS.ifNo X0.here hx rfl (hb hby d28_1) rfl ((if0 _ _).trans (teq (rfl : (0 : Int32) = (0 : Int32))).2) (XS.iloadN X0.here hx rfl (hb hby d28_4) rfl (XS.aloadN X0.here hx rfl (hb hby d28_5) rfl rfl k)))) ?_
 obtain ⟨cl1, Ar1, -, Sz1, Nn1, -, -⟩ := id V_va
 refine own_go (b := (s₁.setTop (mkF m 13 #[rv va, iv 0, iv 20] [(.int 20), (.int 0), (.ref va)]))) (fun _ k => X0.arraylength hx (by rw [e0]; exact Ar1.1) (State.isArrayOf_alike hZ.alike Ar1.2.1) (g := (mkF m 6 #[rv va, iv 0, iv 20] [(.ref va), (.int 20)])) rfl rfl (hb hby d28_6) _ (by rw [len_of Sz1 Nn1]; exact (XS.icmpNo X0.here hx rfl (hb hby d28_7) rfl (feq (by decide : ¬ ((20 : Int32) = (34 : Int32)))).1 (XS.aloadN X0.here hx rfl (hb hby d28_10) rfl rfl (XS.iloadN X0.here hx rfl (hb hby d28_11) rfl (XS.iloadN X0.here hx rfl (hb hby d28_12) rfl k)))))) ?_
 refine own_stat (W := 0) X0 hx hZ hown e0 (ow hw 148 rfl) (ow hw 149 rfl) (rmcrb l Z a0 hw [] va kv vs h0 n0 Z0 V_va hl) (ow hw 150 rfl) (ow hw 111 rfl) rfl (by rw [hml]; rfl) rfl (hb hby d28_13) (lenOf pd___BII__B rfl) rfl (by decide) (fun T2 v2 Ll2 X2 hQ2 => ?_)
 obtain ⟨b_2, kb_2, rfl, N2q, K2, P2_0, P2_1⟩ := hQ2
 have N2 := Fr.app N0 N2q
 have Zs3 : n0 ≤ T2.heap.size := Nat.le_trans Z0 K2.1
 have K4 := (Keep.refl h0 []).trans K2 all0
 exact own_endR X2 hx hr2 rfl rfl (hb hby d28_16) (by decide) (by decide) (by exact ⟨b_2, kb_2, rfl, N2, K4, (Nat.le_trans (Nat.le_refl _) P2_0), P2_1⟩)
theorem d24_0 : dk cd24 0 (.aload_n 0) 1 := by decide +kernel
theorem d24_1 : dk cd24 1 (.invokespecial 1) 3 := by decide +kernel
theorem d24_4 : dk cd24 4 (.aload_n 1) 1 := by decide +kernel
theorem d24_5 : dk cd24 5 (.invokevirtual 552) 3 := by decide +kernel
theorem d24_8 : dk cd24 8 (.astore_n 3) 1 := by decide +kernel
theorem d24_9 : dk cd24 9 (.aload_n 1) 1 := by decide +kernel
theorem d24_10 : dk cd24 10 (.invokevirtual 549) 3 := by decide +kernel
theorem d24_13 : dk cd24 13 (.istore 4) 2 := by decide +kernel
theorem d24_15 : dk cd24 15 (.aload_n 1) 1 := by decide +kernel
theorem d24_16 : dk cd24 16 (.invokevirtual 1047) 3 := by decide +kernel
theorem d24_19 : dk cd24 19 (.ifCond .eq 22) 3 := by decide +kernel
theorem d24_22 : dk cd24 22 (.aload_n 0) 1 := by decide +kernel
theorem d24_23 : dk cd24 23 (.iconst 0) 1 := by decide +kernel
theorem d24_24 : dk cd24 24 (.putfield 15) 3 := by decide +kernel
theorem d24_27 : dk cd24 27 (.aload_n 0) 1 := by decide +kernel
theorem d24_28 : dk cd24 28 (.aload_n 3) 1 := by decide +kernel
theorem d24_29 : dk cd24 29 (.iconst 0) 1 := by decide +kernel
theorem d24_30 : dk cd24 30 (.iload 4) 2 := by decide +kernel
theorem d24_32 : dk cd24 32 (.invokestatic 54) 3 := by decide +kernel
theorem d24_35 : dk cd24 35 (.putfield 9) 3 := by decide +kernel
theorem d24_38 : dk cd24 38 (.goto 59) 3 := by decide +kernel
theorem d24_97 : dk cd24 97 .return_ 1 := by decide +kernel
theorem pd____B : parseMethodDescriptor "()[B" = some ⟨[], some (.array .byte)⟩ := by decide +kernel
theorem pn_24 : plainName cs1 = true := by first | (simp [plainName, overriddenIn]; done) | decide +kernel
theorem ef_rmsn34 (m : MethodId) (x0 : Addr) (x1 : Addr) : entryFrame m #[(.ref x0), (.ref x1), .null] 5 = mkF m 0 #[rv x0, rv x1, .val .null, .unset, .unset] [] := by first | (simp [entryFrame, mkF, argsToLocals, Value.category]; done) | rfl
def Qrmsn34 (Z : State) (a1 a2 va : Addr) (kv : ClassId) (vs : List Value) (cs : Int32) (h0 : Heap) (n0 : Nat) (v : Option Value) (h : Heap) (L : List Loc) : Prop := ∃ (b : Addr) (kb : ClassId), v = none ∧ Fr n0 L ∧ Keep h0 h [a1] ∧ (h0.size ≤ b) ∧ (Fld Z h a1 cs1 "value" "[B" (.ref b)) ∧ (Fld Z h a1 cs1 "coder" "B" (.int 0)) ∧ (Arv Z h b kb .byte (20 : Int32) vs (.int 0))
theorem rmsn34 (l : Launch) (Z : State) (a0 : Array Value) (hw : HW a0 Z) (ws : List Jvm.Cond) (a1 a2 va : Addr) (kv : ClassId) (vs : List Value) (cs : Int32) (h0 : Heap) (n0 : Nat) (Z0 : n0 ≤ h0.size) (O0 : Old Z n0 h0) (SC : Sta Z Z.heap cs1 "COMPACT_STRINGS" "Z" (.int cs)) (hcs : ¬ (cs = (0 : Int32))) (E_a1 : Exa Z h0 a1 cs1) (Fld_a1_value : Fld Z h0 a1 cs1 "value" "[B" .null) (Fld_a1_coder : Fld Z h0 a1 cs1 "coder" "B" (.int 0)) (g_a1 : n0 ≤ a1) (E_a2 : Exa Z h0 a2 cs2) (Fld_a2_value : Fld Z h0 a2 cs0 "value" "[B" (.ref va)) (Fld_a2_coder : Fld Z h0 a2 cs0 "coder" "B" (.int 0)) (Fld_a2_count : Fld Z h0 a2 cs0 "count" "I" (.int 20)) (V_va : Arv Z h0 va kv .byte (34 : Int32) vs (.int 0)) (hl : vs.length = 20) :
    own_MF l (⟨cs1, "<init>", "(Ljava/lang/AbstractStringBuilder;Ljava/lang/Void;)V"⟩ : MethodName) cd24 5 none ws (rom 3 1 20 71) #[(.ref a1), (.ref a2), .null] Z h0 (Qrmsn34 Z a1 a2 va kv vs cs h0 n0) := by
 refine own_body n0 (plainFor_of_name pn_24) (fun m => ef_rmsn34 m a1 a2) (fun p e s m below meth c s₁ hx hby hml hr2 hZ hown hnm X0 e0 N0 => ?_)
 refine ogo (mkF m 1 #[rv a1, rv a2, .val .null, .unset, .unset] [(.ref a1)]) (fun _ k => XS.aloadN X0.here hx rfl (hb hby d24_0) rfl rfl k) ?_
 obtain ⟨T1, X1, e1, st1⟩ := initO X0 hx hZ hown (ow hw 130 rfl) (ow hw 30 rfl) (ow hw 31 rfl) e0 (g := (mkF m 1 #[rv a1, rv a2, .val .null, .unset, .unset] [(.ref a1)])) rfl (by rw [hml]; rfl) rfl (hb hby d24_1) (by decide) (W := 0) (by show 2 * 0 + _ ≤ _; exact Nat.le_of_eq rfl) (by decide)
 refine ogo (mkF m 5 #[rv a1, rv a2, .val .null, .unset, .unset] [(.ref a2)]) (fun _ k => st1 _ (XS.aloadN X1.here hx rfl (hb hby d24_4) rfl rfl k)) ?_
 refine own_virt (W := 0) X1 hx hZ hown e1 (ow hw 131 rfl) (ow hw 132 rfl) (ow hw 134 rfl) (ow hw 133 rfl) (rmgv l Z a0 hw [] a2 va h0 n0 Z0 Fld_a2_value) (ow hw 135 rfl) (ow hw 27 rfl) E_a2 rfl (by rw [hml]; rfl) rfl (hb hby d24_5) (lenOf pd____B rfl) rfl (by decide) (fun T2 v2 Ll2 X2 hQ2 => ?_)
 obtain ⟨rfl, N2q, eh2⟩ := hQ2
 have N2 := Fr.app N0 N2q
 refine ogo (mkF m 10 #[rv a1, rv a2, .val .null, rv va, .unset] [(.ref a2)]) (fun _ k => XS.astoreN X2.here hx rfl (hb hby d24_8) rfl rfl (l' := #[rv a1, rv a2, .val .null, rv va, .unset]) rfl (XS.aloadN X2.here hx rfl (hb hby d24_9) rfl rfl k)) ?_
 obtain ⟨cq3, kq3, q3a, q3b, q3c⟩ := isOf hZ eh2 E_a2
 obtain ⟨_, _, ⟨T3, Ll3, kz3, nz3⟩, -, X3, ⟨Lc3, hQ3, lz3, yz3, zz3⟩, st3⟩ := X2.virtualBack hx (y := mn5) (z := mn16) hown (mvT hZ (ow hw 136 rfl)) (mvT hZ (ow hw 137 rfl)) (own_nf (y := mn5) (z := mn0) (args := #[]) (mvT hZ (ow hw 84 rfl)) rfl) (mvT hZ (ow hw 139 rfl)) (mvT hZ (ow hw 140 rfl)) (by decide) (backOf (W := 0) (rmsln l Z a0 hw [] a2 (20 : Int32) h0 n0 Z0 E_a2 Fld_a2_count) hZ (ow hw 141 rfl) (ow hw 19 rfl) (by decide) (by decide)) q3a q3c (g := (mkF m 10 #[rv a1, rv a2, .val .null, rv va, .unset] [(.ref a2)])) rfl (by rw [hml]; rfl) (Steps.refl _) (argsL := []) (rest := []) (lenOf pd___I rfl) rfl (by show 2 * 0 + _ ≤ _; exact Nat.le_of_eq rfl) (hb hby d24_10) (fun _ _ => ⟨rfl, eh2, (by decide : 0 + 0 ≤ _), (by decide : 0 + 0 ≤ _)⟩)
 dsimp only [Pt.U, Pt.locs, Pt.cells, Pt.slots] at X3 lz3 yz3 zz3 st3 hQ3
 subst lz3 yz3 zz3
 obtain ⟨rfl, N3q, eh3⟩ := hQ3
 have N3 := Fr.app N2 N3q
 refine ogo (mkF m 16 #[rv a1, rv a2, .val .null, rv va, iv 20] [(.ref a2)]) (fun _ k => st3.trans (XS.istore X3.here hx rfl (hb hby d24_13) rfl (l' := #[rv a1, rv a2, .val .null, rv va, iv 20]) rfl (XS.aloadN X3.here hx rfl (hb hby d24_15) rfl rfl k))) ?_
 refine own_virt (W := 0) X3 hx hZ hown eh3 (ow hw 144 rfl) (ow hw 87 rfl) (ow hw 89 rfl) (ow hw 88 rfl) (rmbl l Z a0 hw [] a2 cs h0 n0 Z0 O0 SC hcs Fld_a2_coder) (ow hw 90 rfl) (ow hw 27 rfl) E_a2 rfl (by rw [hml]; rfl) rfl (hb hby d24_16) (lenOf pd___Z rfl) rfl (by decide) (fun T4 v4 Ll4 X4 hQ4 => ?_)
 obtain ⟨rfl, N4q, eh4⟩ := hQ4
 have N4 := Fr.app N3 N4q
 refine ogo (mkF m 24 #[rv a1, rv a2, .val .null, rv va, iv 20] [(.int 0), (.ref a1)]) (fun _ k => XS.ifNo X4.here hx rfl (hb hby d24_19) rfl ((if0 _ _).trans (feq (by decide : ¬ ((1 : Int32) = (0 : Int32)))).1) (XS.aloadN X4.here hx rfl (hb hby d24_22) rfl rfl (XS.iconst X4.here hx rfl (hb hby d24_23) k))) ?_
 obtain ⟨T5, h5, X5, e5, W5, st5⟩ := putFN X4 hx hZ hown (ow hw 55 rfl) Via.refl eh4 Fld_a1_coder E_a1 (Or.inr ⟨(ow hw 41 rfl), rfl, hnm⟩) (ow hw 39 rfl) (ty := .byte) (v' := (.int 0)) (by decide) rfl (by decide) (g := (mkF m 24 #[rv a1, rv a2, .val .null, rv va, iv 20] [(.int 0), (.ref a1)])) rfl rfl (hb hby d24_24)
 have N5 := Fr.snoc X5 N4 g_a1
 have Zs6 : n0 ≤ h5.size := Nat.le_trans Z0 (Keep.of_wr W5).1
 have F5 : Fld Z h5 a1 cs1 "coder" "B" (.int 0) := Fld_a1_coder.same W5
 refine ogo (mkF m 32 #[rv a1, rv a2, .val .null, rv va, iv 20] [(.int 20), (.int 0), (.ref va), (.ref a1)]) (fun _ k => st5 _ (XS.aloadN X5.here hx rfl (hb hby d24_27) rfl rfl (XS.aloadN X5.here hx rfl (hb hby d24_28) rfl rfl (XS.iconst X5.here hx rfl (hb hby d24_29) (XS.iload X5.here hx rfl (hb hby d24_30) rfl k))))) ?_
 obtain ⟨cn8, An8, -⟩ := id V_va
 have nx9 : va ≠ a1 := (Ne.symm (ne_arr E_a1 (ow hw 39 rfl) An8))
 have F10 := V_va.other W5 nx9
 refine own_stat (W := 1) X5 hx hZ hown e5 (ow hw 145 rfl) (ow hw 146 rfl) (rmcor34 l Z a0 hw [] va kv vs h5 n0 Zs6 F10 hl) (ow hw 147 rfl) (ow hw 111 rfl) rfl (by rw [hml]; rfl) rfl (hb hby d24_32) (lenOf pd___BII__B rfl) rfl (by decide) (fun T7 v7 Ll7 X7 hQ7 => ?_)
 obtain ⟨b_7, kb_7, rfl, N7q, K7, P7_0, P7_1⟩ := hQ7
 have N7 := Fr.app N5 N7q
 have Zs11 : n0 ≤ T7.heap.size := Nat.le_trans Zs6 K7.1
 have F12 := E_a1.wr W5
 have F13 := F12.keep K7
 have F14 := Fld_a1_value.other W5 (Or.inr (slot_ne (Or.inr (ow hw 40 rfl)) (Or.inr (ow hw 41 rfl)) (by decide) (t := (.array .byte)) (t' := .byte) (by decide) (by decide)))
 have F15 := F14.keep K7 nin0
 obtain ⟨T16, h16, X16, e16, W16, st16⟩ := putF X7 hx hZ hown (host := "") (Or.inl (ow hw 56 rfl)) Via.refl rfl F15 F13 (Or.inr ⟨(ow hw 40 rfl), rfl, hnm⟩) (ow hw 39 rfl) (ty := (.array .byte)) (by decide) rfl rfl (g := (mkF m 35 #[rv a1, rv a2, .val .null, rv va, iv 20] [(.ref b_7), (.ref a1)])) rfl rfl (hb hby d24_35)
 have N16 := Fr.snoc X16 N7 g_a1
 have Zs17 : n0 ≤ h16.size := Nat.le_trans Zs11 (Keep.of_wr W16).1
 have F16 : Fld Z h16 a1 cs1 "value" "[B" (.ref b_7) := F15.same W16
 refine ogo (mkF m 97 #[rv a1, rv a2, .val .null, rv va, iv 20] []) (fun _ k => st16 _ (XS.goto X16.here hx rfl (pc0 := 38) (pc' := 97) rfl (hb hby d24_38) (by decide) (by decide) k)) ?_
 have K18 := (Keep.refl h0 [a1]).wr W5 (Or.inl (List.mem_of_getElem? (i := 0) rfl))
 have K19 := K18.trans K7 all0
 have K20 := K19.wr W16 (Or.inl (List.mem_of_getElem? (i := 0) rfl))
 have F21 := F5.keep K7 nin0
 have F22 := F21.other W16 (Or.inr (slot_ne (Or.inr (ow hw 41 rfl)) (Or.inr (ow hw 40 rfl)) (by decide) (t := .byte) (t' := (.array .byte)) (by decide) (by decide)))
 have nx23 : b_7 ≠ a1 := (Ne.symm (own_ne E_a1.lt (Keep.of_wr W5).1 P7_0))
 have F24 := P7_1.other W16 nx23
 exact own_endV X16 hx hr2 (hb hby d24_97) (by decide) (by decide) (by rw [e16]; exact ⟨b_7, kb_7, rfl, N16, K20, (Nat.le_trans (Keep.of_wr W5).1 P7_0), F16, F22, F24⟩)
theorem d23_0 : dk cd23 0 (.aload_n 0) 1 := by decide +kernel
theorem d23_1 : dk cd23 1 (.aload_n 1) 1 := by decide +kernel
theorem d23_2 : dk cd23 2 .aconst_null 1 := by decide +kernel
theorem d23_3 : dk cd23 3 (.invokespecial 489) 3 := by decide +kernel
theorem d23_6 : dk cd23 6 .return_ 1 := by decide +kernel
theorem pd__Ljava_lang_AbstractStringBuilder_Ljava_lang_Void__V : parseMethodDescriptor "(Ljava/lang/AbstractStringBuilder;Ljava/lang/Void;)V" = some ⟨[(.object cs0), (.object "java/lang/Void")], none⟩ := by decide +kernel
theorem pn_23 : plainName cs1 = true := by first | (simp [plainName, overriddenIn]; done) | decide +kernel
theorem ef_rmsm34 (m : MethodId) (x0 : Addr) (x1 : Addr) : entryFrame m #[(.ref x0), (.ref x1)] 2 = mkF m 0 #[rv x0, rv x1] [] := by first | (simp [entryFrame, mkF, argsToLocals, Value.category]; done) | rfl
def Qrmsm34 (Z : State) (a1 a2 va : Addr) (kv : ClassId) (vs : List Value) (cs : Int32) (h0 : Heap) (n0 : Nat) (v : Option Value) (h : Heap) (L : List Loc) : Prop := ∃ (b : Addr) (kb : ClassId), v = none ∧ Fr n0 L ∧ Keep h0 h [a1] ∧ (h0.size ≤ b) ∧ (Fld Z h a1 cs1 "value" "[B" (.ref b)) ∧ (Fld Z h a1 cs1 "coder" "B" (.int 0)) ∧ (Arv Z h b kb .byte (20 : Int32) vs (.int 0))
theorem rmsm34 (l : Launch) (Z : State) (a0 : Array Value) (hw : HW a0 Z) (ws : List Jvm.Cond) (a1 a2 va : Addr) (kv : ClassId) (vs : List Value) (cs : Int32) (h0 : Heap) (n0 : Nat) (Z0 : n0 ≤ h0.size) (O0 : Old Z n0 h0) (SC : Sta Z Z.heap cs1 "COMPACT_STRINGS" "Z" (.int cs)) (hcs : ¬ (cs = (0 : Int32))) (E_a1 : Exa Z h0 a1 cs1) (Fld_a1_value : Fld Z h0 a1 cs1 "value" "[B" .null) (Fld_a1_coder : Fld Z h0 a1 cs1 "coder" "B" (.int 0)) (g_a1 : n0 ≤ a1) (E_a2 : Exa Z h0 a2 cs2) (Fld_a2_value : Fld Z h0 a2 cs0 "value" "[B" (.ref va)) (Fld_a2_coder : Fld Z h0 a2 cs0 "coder" "B" (.int 0)) (Fld_a2_count : Fld Z h0 a2 cs0 "count" "I" (.int 20)) (V_va : Arv Z h0 va kv .byte (34 : Int32) vs (.int 0)) (hl : vs.length = 20) :
    own_MF l (⟨cs1, "<init>", "(Ljava/lang/StringBuilder;)V"⟩ : MethodName) cd23 2 none ws (rom 4 1 20 87) #[(.ref a1), (.ref a2)] Z h0 (Qrmsm34 Z a1 a2 va kv vs cs h0 n0) := by
 refine own_body n0 (plainFor_of_name pn_23) (fun m => ef_rmsm34 m a1 a2) (fun p e s m below meth c s₁ hx hby hml hr2 hZ hown hnm X0 e0 N0 => ?_)
 refine ogo (mkF m 3 #[rv a1, rv a2] [.null, (.ref a2), (.ref a1)]) (fun _ k => XS.aloadN X0.here hx rfl (hb hby d23_0) rfl rfl (XS.aloadN X0.here hx rfl (hb hby d23_1) rfl rfl (XS.aconstNull X0.here hx rfl (hb hby d23_2) k))) ?_
 refine own_spec (W := 0) X0 hx hZ hown e0 (ow hw 127 rfl) (ow hw 128 rfl) (rmsn34 l Z a0 hw [] a1 a2 va kv vs cs h0 n0 Z0 O0 SC hcs E_a1 Fld_a1_value Fld_a1_coder g_a1 E_a2 Fld_a2_value Fld_a2_coder Fld_a2_count V_va hl) (ow hw 129 rfl) (ow hw 33 rfl) rfl (by rw [hml]; rfl) rfl (hb hby d23_3) (lenOf pd__Ljava_lang_AbstractStringBuilder_Ljava_lang_Void__V rfl) rfl rfl (by decide) (fun T1 v1 Ll1 X1 hQ1 => ?_)
 obtain ⟨b_1, kb_1, rfl, N1q, K1, P1_0, P1_1, P1_2, P1_3⟩ := hQ1
 have N1 := Fr.app N0 N1q
 have Zs2 : n0 ≤ T1.heap.size := Nat.le_trans Z0 K1.1
 have K3 := (Keep.refl h0 [a1]).trans K1 (allS (Or.inl (List.mem_of_getElem? (i := 0) rfl)) all0)
 exact own_endV X1 hx hr2 (hb hby d23_6) (by decide) (by decide) (by exact ⟨b_1, kb_1, rfl, N1, K3, (Nat.le_trans (Nat.le_refl _) P1_0), P1_1, P1_2, P1_3⟩)
theorem d22_0 : dk cd22 0 (.new 18) 3 := by decide +kernel
theorem d22_3 : dk cd22 3 .dup 1 := by decide +kernel
theorem d22_4 : dk cd22 4 (.aload_n 0) 1 := by decide +kernel
theorem d22_5 : dk cd22 5 (.invokespecial 137) 3 := by decide +kernel
theorem d22_8 : dk cd22 8 .areturn 1 := by decide +kernel
theorem pd__Ljava_lang_StringBuilder__V : parseMethodDescriptor "(Ljava/lang/StringBuilder;)V" = some ⟨[(.object cs2)], none⟩ := by decide +kernel
theorem pn_22 : plainName cs2 = true := by first | (simp [plainName, overriddenIn]; done) | decide +kernel
theorem ef_rmts34 (m : MethodId) (x0 : Addr) : entryFrame m #[(.ref x0)] 1 = mkF m 0 #[rv x0] [] := by first | (simp [entryFrame, mkF, argsToLocals, Value.category]; done) | rfl
def Qrmts34 (Z : State) (a2 va : Addr) (kv : ClassId) (vs : List Value) (cs : Int32) (h0 : Heap) (n0 : Nat) (v : Option Value) (h : Heap) (L : List Loc) : Prop := ∃ (a : Addr) (b : Addr) (kb : ClassId), v = some (.ref a) ∧ Fr n0 L ∧ Keep h0 h [] ∧ (h0.size ≤ a) ∧ (Exa Z h a cs1) ∧ (h0.size ≤ b) ∧ (Fld Z h a cs1 "value" "[B" (.ref b)) ∧ (Fld Z h a cs1 "coder" "B" (.int 0)) ∧ (Arv Z h b kb .byte (20 : Int32) vs (.int 0))
theorem rmts34 (l : Launch) (Z : State) (a0 : Array Value) (hw : HW a0 Z) (ws : List Jvm.Cond) (a2 va : Addr) (kv : ClassId) (vs : List Value) (cs : Int32) (h0 : Heap) (n0 : Nat) (Z0 : n0 ≤ h0.size) (O0 : Old Z n0 h0) (SC : Sta Z Z.heap cs1 "COMPACT_STRINGS" "Z" (.int cs)) (hcs : ¬ (cs = (0 : Int32))) (E_a2 : Exa Z h0 a2 cs2) (Fld_a2_value : Fld Z h0 a2 cs0 "value" "[B" (.ref va)) (Fld_a2_coder : Fld Z h0 a2 cs0 "coder" "B" (.int 0)) (Fld_a2_count : Fld Z h0 a2 cs0 "count" "I" (.int 20)) (V_va : Arv Z h0 va kv .byte (34 : Int32) vs (.int 0)) (hl : vs.length = 20) :
    own_MF l (⟨cs2, "toString", "()Ljava/lang/String;"⟩ : MethodName) cd22 1 (some (.object cs1)) ws (rom 5 2 24 101) #[(.ref a2)] Z h0 (Qrmts34 Z a2 va kv vs cs h0 n0) := by
 refine own_body n0 (plainFor_of_name pn_22) (fun m => ef_rmts34 m a2) (fun p e s m below meth c s₁ hx hby hml hr2 hZ hown hnm X0 e0 N0 => ?_)
 obtain ⟨T1, h1, X1, e1, E1, A1, D1, Un1, st1⟩ := newO X0 hx hZ hown (ow hw 122 rfl) (ow hw 39 rfl) (ow hw 33 rfl) e0 (g := (mkF m 0 #[rv a2] [])) rfl (hb hby d22_0) (by decide) (by decide)
 obtain ⟨b1, g1⟩ : ∃ z, z = h0.size := ⟨_, rfl⟩
 rw [← g1] at A1 D1 Un1 st1
 have Zs2 : n0 ≤ h1.size := Nat.le_trans Z0 E1.1
 have F1_value : Fld Z h1 b1 cs1 "value" "[B" .null := D1 (Or.inr (ow hw 40 rfl)) (ty := (.array .byte)) (by decide)
 have F1_coder : Fld Z h1 b1 cs1 "coder" "B" (.int 0) := D1 (Or.inr (ow hw 41 rfl)) (ty := .byte) (by decide)
 refine ogo (mkF m 5 #[rv a2] [(.ref a2), (.ref b1), (.ref b1)]) (fun _ k => st1 _ (XS.dup X1.here hx rfl (hb hby d22_3) rfl rfl (XS.aloadN X1.here hx rfl (hb hby d22_4) rfl rfl k))) ?_
 have O4 := O0.ext E1
 have gx5 : n0 ≤ b1 := Nat.le_trans Z0 (Nat.le_of_eq g1.symm)
 have F6 := E_a2.ext E1
 have F7 := Fld_a2_value.ext E1
 have F8 := Fld_a2_coder.ext E1
 have F9 := Fld_a2_count.ext E1
 have F10 := V_va.ext E1
 refine own_spec (W := 1) X1 hx hZ hown e1 (ow hw 123 rfl) (ow hw 124 rfl) (rmsm34 l Z a0 hw [] b1 a2 va kv vs cs h1 n0 Zs2 O4 SC hcs A1 F1_value F1_coder gx5 F6 F7 F8 F9 F10 hl) (ow hw 126 rfl) (ow hw 33 rfl) rfl (by rw [hml]; rfl) rfl (hb hby d22_5) (lenOf pd__Ljava_lang_StringBuilder__V rfl) rfl rfl (by decide) (fun T3 v3 Ll3 X3 hQ3 => ?_)
 obtain ⟨b_3, kb_3, rfl, N3q, K3, P3_0, P3_1, P3_2, P3_3⟩ := hQ3
 have N3 := Fr.app N0 N3q
 have Zs11 : n0 ≤ T3.heap.size := Nat.le_trans Zs2 K3.1
 have K12 := (Keep.refl h0 []).ext E1
 have K13 := K12.trans K3 (allS (Or.inr (Nat.le_trans (Nat.le_refl _) (Nat.le_of_eq g1.symm))) all0)
 have F14 := A1.keep K3
 exact own_endR X3 hx hr2 rfl rfl (hb hby d22_8) (by decide) (by decide) (by exact ⟨b1, b_3, kb_3, rfl, N3, K13, (Nat.le_trans (Nat.le_refl _) (Nat.le_of_eq g1.symm)), F14, (Nat.le_trans E1.1 P3_0), P3_1, P3_2, P3_3⟩)
def Qrmcor23 (Z : State) (va : Addr) (kv : ClassId) (vs : List Value) (h0 : Heap) (n0 : Nat) (v : Option Value) (h : Heap) (L : List Loc) : Prop := ∃ (b : Addr) (kb : ClassId), v = some (.ref b) ∧ Fr n0 L ∧ Keep h0 h [] ∧ (h0.size ≤ b) ∧ (Arv Z h b kb .byte (23 : Int32) vs (.int 0))
theorem rmcor23 (l : Launch) (Z : State) (a0 : Array Value) (hw : HW a0 Z) (ws : List Jvm.Cond) (va : Addr) (kv : ClassId) (vs : List Value) (h0 : Heap) (n0 : Nat) (Z0 : n0 ≤ h0.size) (V_va : Arv Z h0 va kv .byte (23 : Int32) vs (.int 0)) (E_va : Exa Z h0 va "[B") :
    own_MF l (⟨cs7, "copyOfRange", "([BII)[B"⟩ : MethodName) cd28 3 (some (.array .byte)) ws (rom 1 1 23 14) #[(.ref va), (.int 0), (.int 23)] Z h0 (Qrmcor23 Z va kv vs h0 n0) := by
 refine own_body n0 (plainFor_of_name pn_28) (fun m => ef_rmcor34 m va (0 : Int32) (23 : Int32)) (fun p e s m below meth c s₁ hx hby hml hr2 hZ hown hnm X0 e0 N0 => ?_)
 refine ogo (mkF m 6 #[rv va, iv 0, iv 23] [(.ref va), (.int 23)]) (fun _ k => XS.iloadN X0.here hx rfl (hb hby d28_0) rfl (XS.ifNo X0.here hx rfl (hb hby d28_1) rfl ((if0 _ _).trans (teq (rfl : (0 : Int32) = (0 : Int32))).2) (XS.iloadN X0.here hx rfl (hb hby d28_4) rfl (XS.aloadN X0.here hx rfl (hb hby d28_5) rfl rfl k)))) ?_
 obtain ⟨cl1, Ar1, -, Sz1, Nn1, -, -⟩ := id V_va
 refine own_go (b := (s₁.setTop (mkF m 18 #[rv va, iv 0, iv 23] [(.ref va)]))) (fun _ k => X0.arraylength hx (by rw [e0]; exact Ar1.1) (State.isArrayOf_alike hZ.alike Ar1.2.1) (g := (mkF m 6 #[rv va, iv 0, iv 23] [(.ref va), (.int 23)])) rfl rfl (hb hby d28_6) _ (by rw [len_of Sz1 Nn1]; exact (XS.icmpYes X0.here hx rfl (pc0 := 7) (pc' := 17) rfl (hb hby d28_7) rfl (teq (rfl : (23 : Int32) = (23 : Int32))).1 (by decide) (by decide) (XS.aloadN X0.here hx rfl (hb hby d28_17) rfl rfl k)))) ?_
 obtain ⟨T2, h2, X2, e2, E2, V2, Ex2, st2⟩ := own_cloneV X0 hx hZ hown (ow hw 198 rfl) (ow hw 199 rfl) (ow hw 203 rfl) (ow hw 201 rfl) (ow hw 202 rfl) (ow hw 204 rfl) e0 V_va E_va (g := (mkF m 18 #[rv va, iv 0, iv 23] [(.ref va)])) rfl (by rw [hml]; rfl) rfl (hb hby d28_18) (by decide) (cap := 23) (W := 0) (by show 2 * 0 + _ ≤ _; exact Nat.le_of_eq rfl) (by decide) (by decide) (by decide) (by decide)
 obtain ⟨b2, g2⟩ : ∃ z, z = h0.size := ⟨_, rfl⟩
 rw [← g2] at V2 Ex2 st2
 have Zs3 : n0 ≤ h2.size := Nat.le_trans Z0 E2.1
 refine ogo (mkF m 21 #[rv va, iv 0, iv 23] [(.ref b2)]) (fun _ k => st2 _ k) ?_
 obtain ⟨T4, X4, e4, st4⟩ := castY X2 hx hZ hown (ow hw 205 rfl) e2 (Ins.self Ex2) (g := (mkF m 21 #[rv va, iv 0, iv 23] [(.ref b2)])) rfl rfl (hb hby d28_21)
 refine ogo (mkF m 24 #[rv va, iv 0, iv 23] [(.ref b2)]) (fun _ k => st4 _ k) ?_
 have K5 := (Keep.refl h0 []).ext E2
 exact own_endR X4 hx hr2 rfl rfl (hb hby d28_24) (by decide) (by decide) (by rw [e4]; exact ⟨b2, kv, rfl, N0, K5, (Nat.le_trans (Nat.le_refl _) (Nat.le_of_eq g2.symm)), V2⟩)
def Qrmsn23 (Z : State) (a1 a2 va : Addr) (kv : ClassId) (vs : List Value) (cs : Int32) (h0 : Heap) (n0 : Nat) (v : Option Value) (h : Heap) (L : List Loc) : Prop := ∃ (b : Addr) (kb : ClassId), v = none ∧ Fr n0 L ∧ Keep h0 h [a1] ∧ (h0.size ≤ b) ∧ (Fld Z h a1 cs1 "value" "[B" (.ref b)) ∧ (Fld Z h a1 cs1 "coder" "B" (.int 0)) ∧ (Arv Z h b kb .byte (23 : Int32) vs (.int 0))
theorem rmsn23 (l : Launch) (Z : State) (a0 : Array Value) (hw : HW a0 Z) (ws : List Jvm.Cond) (a1 a2 va : Addr) (kv : ClassId) (vs : List Value) (cs : Int32) (h0 : Heap) (n0 : Nat) (Z0 : n0 ≤ h0.size) (O0 : Old Z n0 h0) (SC : Sta Z Z.heap cs1 "COMPACT_STRINGS" "Z" (.int cs)) (hcs : ¬ (cs = (0 : Int32))) (E_a1 : Exa Z h0 a1 cs1) (Fld_a1_value : Fld Z h0 a1 cs1 "value" "[B" .null) (Fld_a1_coder : Fld Z h0 a1 cs1 "coder" "B" (.int 0)) (g_a1 : n0 ≤ a1) (E_a2 : Exa Z h0 a2 cs2) (Fld_a2_value : Fld Z h0 a2 cs0 "value" "[B" (.ref va)) (Fld_a2_coder : Fld Z h0 a2 cs0 "coder" "B" (.int 0)) (Fld_a2_count : Fld Z h0 a2 cs0 "count" "I" (.int 23)) (V_va : Arv Z h0 va kv .byte (23 : Int32) vs (.int 0)) (E_va : Exa Z h0 va "[B") :
    own_MF l (⟨cs1, "<init>", "(Ljava/lang/AbstractStringBuilder;Ljava/lang/Void;)V"⟩ : MethodName) cd24 5 none ws (rom 2 1 23 29) #[(.ref a1), (.ref a2), .null] Z h0 (Qrmsn23 Z a1 a2 va kv vs cs h0 n0) := by
 refine own_body n0 (plainFor_of_name pn_24) (fun m => ef_rmsn34 m a1 a2) (fun p e s m below meth c s₁ hx hby hml hr2 hZ hown hnm X0 e0 N0 => ?_)
 refine ogo (mkF m 1 #[rv a1, rv a2, .val .null, .unset, .unset] [(.ref a1)]) (fun _ k => XS.aloadN X0.here hx rfl (hb hby d24_0) rfl rfl k) ?_
 obtain ⟨T1, X1, e1, st1⟩ := initO X0 hx hZ hown (ow hw 130 rfl) (ow hw 30 rfl) (ow hw 31 rfl) e0 (g := (mkF m 1 #[rv a1, rv a2, .val .null, .unset, .unset] [(.ref a1)])) rfl (by rw [hml]; rfl) rfl (hb hby d24_1) (by decide) (W := 0) (by show 2 * 0 + _ ≤ _; exact Nat.le_of_eq rfl) (by decide)
 refine ogo (mkF m 5 #[rv a1, rv a2, .val .null, .unset, .unset] [(.ref a2)]) (fun _ k => st1 _ (XS.aloadN X1.here hx rfl (hb hby d24_4) rfl rfl k)) ?_
 refine own_virt (W := 0) X1 hx hZ hown e1 (ow hw 131 rfl) (ow hw 132 rfl) (ow hw 134 rfl) (ow hw 133 rfl) (rmgv l Z a0 hw [] a2 va h0 n0 Z0 Fld_a2_value) (ow hw 135 rfl) (ow hw 27 rfl) E_a2 rfl (by rw [hml]; rfl) rfl (hb hby d24_5) (lenOf pd____B rfl) rfl (by decide) (fun T2 v2 Ll2 X2 hQ2 => ?_)
 obtain ⟨rfl, N2q, eh2⟩ := hQ2
 have N2 := Fr.app N0 N2q
 refine ogo (mkF m 10 #[rv a1, rv a2, .val .null, rv va, .unset] [(.ref a2)]) (fun _ k => XS.astoreN X2.here hx rfl (hb hby d24_8) rfl rfl (l' := #[rv a1, rv a2, .val .null, rv va, .unset]) rfl (XS.aloadN X2.here hx rfl (hb hby d24_9) rfl rfl k)) ?_
 obtain ⟨cq3, kq3, q3a, q3b, q3c⟩ := isOf hZ eh2 E_a2
 obtain ⟨_, _, ⟨T3, Ll3, kz3, nz3⟩, -, X3, ⟨Lc3, hQ3, lz3, yz3, zz3⟩, st3⟩ := X2.virtualBack hx (y := mn5) (z := mn16) hown (mvT hZ (ow hw 136 rfl)) (mvT hZ (ow hw 137 rfl)) (own_nf (y := mn5) (z := mn0) (args := #[]) (mvT hZ (ow hw 84 rfl)) rfl) (mvT hZ (ow hw 139 rfl)) (mvT hZ (ow hw 140 rfl)) (by decide) (backOf (W := 0) (rmsln l Z a0 hw [] a2 (23 : Int32) h0 n0 Z0 E_a2 Fld_a2_count) hZ (ow hw 141 rfl) (ow hw 19 rfl) (by decide) (by decide)) q3a q3c (g := (mkF m 10 #[rv a1, rv a2, .val .null, rv va, .unset] [(.ref a2)])) rfl (by rw [hml]; rfl) (Steps.refl _) (argsL := []) (rest := []) (lenOf pd___I rfl) rfl (by show 2 * 0 + _ ≤ _; exact Nat.le_of_eq rfl) (hb hby d24_10) (fun _ _ => ⟨rfl, eh2, (by decide : 0 + 0 ≤ _), (by decide : 0 + 0 ≤ _)⟩)
 dsimp only [Pt.U, Pt.locs, Pt.cells, Pt.slots] at X3 lz3 yz3 zz3 st3 hQ3
 subst lz3 yz3 zz3
 obtain ⟨rfl, N3q, eh3⟩ := hQ3
 have N3 := Fr.app N2 N3q
 refine ogo (mkF m 16 #[rv a1, rv a2, .val .null, rv va, iv 23] [(.ref a2)]) (fun _ k => st3.trans (XS.istore X3.here hx rfl (hb hby d24_13) rfl (l' := #[rv a1, rv a2, .val .null, rv va, iv 23]) rfl (XS.aloadN X3.here hx rfl (hb hby d24_15) rfl rfl k))) ?_
 refine own_virt (W := 0) X3 hx hZ hown eh3 (ow hw 144 rfl) (ow hw 87 rfl) (ow hw 89 rfl) (ow hw 88 rfl) (rmbl l Z a0 hw [] a2 cs h0 n0 Z0 O0 SC hcs Fld_a2_coder) (ow hw 90 rfl) (ow hw 27 rfl) E_a2 rfl (by rw [hml]; rfl) rfl (hb hby d24_16) (lenOf pd___Z rfl) rfl (by decide) (fun T4 v4 Ll4 X4 hQ4 => ?_)
 obtain ⟨rfl, N4q, eh4⟩ := hQ4
 have N4 := Fr.app N3 N4q
 refine ogo (mkF m 24 #[rv a1, rv a2, .val .null, rv va, iv 23] [(.int 0), (.ref a1)]) (fun _ k => XS.ifNo X4.here hx rfl (hb hby d24_19) rfl ((if0 _ _).trans (feq (by decide : ¬ ((1 : Int32) = (0 : Int32)))).1) (XS.aloadN X4.here hx rfl (hb hby d24_22) rfl rfl (XS.iconst X4.here hx rfl (hb hby d24_23) k))) ?_
 obtain ⟨T5, h5, X5, e5, W5, st5⟩ := putFN X4 hx hZ hown (ow hw 55 rfl) Via.refl eh4 Fld_a1_coder E_a1 (Or.inr ⟨(ow hw 41 rfl), rfl, hnm⟩) (ow hw 39 rfl) (ty := .byte) (v' := (.int 0)) (by decide) rfl (by decide) (g := (mkF m 24 #[rv a1, rv a2, .val .null, rv va, iv 23] [(.int 0), (.ref a1)])) rfl rfl (hb hby d24_24)
 have N5 := Fr.snoc X5 N4 g_a1
 have Zs6 : n0 ≤ h5.size := Nat.le_trans Z0 (Keep.of_wr W5).1
 have F5 : Fld Z h5 a1 cs1 "coder" "B" (.int 0) := Fld_a1_coder.same W5
 refine ogo (mkF m 32 #[rv a1, rv a2, .val .null, rv va, iv 23] [(.int 23), (.int 0), (.ref va), (.ref a1)]) (fun _ k => st5 _ (XS.aloadN X5.here hx rfl (hb hby d24_27) rfl rfl (XS.aloadN X5.here hx rfl (hb hby d24_28) rfl rfl (XS.iconst X5.here hx rfl (hb hby d24_29) (XS.iload X5.here hx rfl (hb hby d24_30) rfl k))))) ?_
 have nx8 : va ≠ a1 := (ne_exa E_va E_a1 (by decide))
 have F9 := V_va.other W5 nx8
 have F10 := E_va.wr W5
 refine own_stat (W := 1) X5 hx hZ hown e5 (ow hw 145 rfl) (ow hw 146 rfl) (rmcor23 l Z a0 hw [] va kv vs h5 n0 Zs6 F9 F10) (ow hw 147 rfl) (ow hw 111 rfl) rfl (by rw [hml]; rfl) rfl (hb hby d24_32) (lenOf pd___BII__B rfl) rfl (by decide) (fun T7 v7 Ll7 X7 hQ7 => ?_)
 obtain ⟨b_7, kb_7, rfl, N7q, K7, P7_0, P7_1⟩ := hQ7
 have N7 := Fr.app N5 N7q
 have Zs11 : n0 ≤ T7.heap.size := Nat.le_trans Zs6 K7.1
 have F12 := E_a1.wr W5
 have F13 := F12.keep K7
 have F14 := Fld_a1_value.other W5 (Or.inr (slot_ne (Or.inr (ow hw 40 rfl)) (Or.inr (ow hw 41 rfl)) (by decide) (t := (.array .byte)) (t' := .byte) (by decide) (by decide)))
 have F15 := F14.keep K7 nin0
 obtain ⟨T16, h16, X16, e16, W16, st16⟩ := putF X7 hx hZ hown (host := "") (Or.inl (ow hw 56 rfl)) Via.refl rfl F15 F13 (Or.inr ⟨(ow hw 40 rfl), rfl, hnm⟩) (ow hw 39 rfl) (ty := (.array .byte)) (by decide) rfl rfl (g := (mkF m 35 #[rv a1, rv a2, .val .null, rv va, iv 23] [(.ref b_7), (.ref a1)])) rfl rfl (hb hby d24_35)
 have N16 := Fr.snoc X16 N7 g_a1
 have Zs17 : n0 ≤ h16.size := Nat.le_trans Zs11 (Keep.of_wr W16).1
 have F16 : Fld Z h16 a1 cs1 "value" "[B" (.ref b_7) := F15.same W16
 refine ogo (mkF m 97 #[rv a1, rv a2, .val .null, rv va, iv 23] []) (fun _ k => st16 _ (XS.goto X16.here hx rfl (pc0 := 38) (pc' := 97) rfl (hb hby d24_38) (by decide) (by decide) k)) ?_
 have K18 := (Keep.refl h0 [a1]).wr W5 (Or.inl (List.mem_of_getElem? (i := 0) rfl))
 have K19 := K18.trans K7 all0
 have K20 := K19.wr W16 (Or.inl (List.mem_of_getElem? (i := 0) rfl))
 have F21 := F5.keep K7 nin0
 have F22 := F21.other W16 (Or.inr (slot_ne (Or.inr (ow hw 41 rfl)) (Or.inr (ow hw 40 rfl)) (by decide) (t := .byte) (t' := (.array .byte)) (by decide) (by decide)))
 have nx23 : b_7 ≠ a1 := (Ne.symm (own_ne E_a1.lt (Keep.of_wr W5).1 P7_0))
 have F24 := P7_1.other W16 nx23
 exact own_endV X16 hx hr2 (hb hby d24_97) (by decide) (by decide) (by rw [e16]; exact ⟨b_7, kb_7, rfl, N16, K20, (Nat.le_trans (Keep.of_wr W5).1 P7_0), F16, F22, F24⟩)
def Qrmsm23 (Z : State) (a1 a2 va : Addr) (kv : ClassId) (vs : List Value) (cs : Int32) (h0 : Heap) (n0 : Nat) (v : Option Value) (h : Heap) (L : List Loc) : Prop := ∃ (b : Addr) (kb : ClassId), v = none ∧ Fr n0 L ∧ Keep h0 h [a1] ∧ (h0.size ≤ b) ∧ (Fld Z h a1 cs1 "value" "[B" (.ref b)) ∧ (Fld Z h a1 cs1 "coder" "B" (.int 0)) ∧ (Arv Z h b kb .byte (23 : Int32) vs (.int 0))
theorem rmsm23 (l : Launch) (Z : State) (a0 : Array Value) (hw : HW a0 Z) (ws : List Jvm.Cond) (a1 a2 va : Addr) (kv : ClassId) (vs : List Value) (cs : Int32) (h0 : Heap) (n0 : Nat) (Z0 : n0 ≤ h0.size) (O0 : Old Z n0 h0) (SC : Sta Z Z.heap cs1 "COMPACT_STRINGS" "Z" (.int cs)) (hcs : ¬ (cs = (0 : Int32))) (E_a1 : Exa Z h0 a1 cs1) (Fld_a1_value : Fld Z h0 a1 cs1 "value" "[B" .null) (Fld_a1_coder : Fld Z h0 a1 cs1 "coder" "B" (.int 0)) (g_a1 : n0 ≤ a1) (E_a2 : Exa Z h0 a2 cs2) (Fld_a2_value : Fld Z h0 a2 cs0 "value" "[B" (.ref va)) (Fld_a2_coder : Fld Z h0 a2 cs0 "coder" "B" (.int 0)) (Fld_a2_count : Fld Z h0 a2 cs0 "count" "I" (.int 23)) (V_va : Arv Z h0 va kv .byte (23 : Int32) vs (.int 0)) (E_va : Exa Z h0 va "[B") :
    own_MF l (⟨cs1, "<init>", "(Ljava/lang/StringBuilder;)V"⟩ : MethodName) cd23 2 none ws (rom 3 1 23 45) #[(.ref a1), (.ref a2)] Z h0 (Qrmsm23 Z a1 a2 va kv vs cs h0 n0) := by
 refine own_body n0 (plainFor_of_name pn_23) (fun m => ef_rmsm34 m a1 a2) (fun p e s m below meth c s₁ hx hby hml hr2 hZ hown hnm X0 e0 N0 => ?_)
 refine ogo (mkF m 3 #[rv a1, rv a2] [.null, (.ref a2), (.ref a1)]) (fun _ k => XS.aloadN X0.here hx rfl (hb hby d23_0) rfl rfl (XS.aloadN X0.here hx rfl (hb hby d23_1) rfl rfl (XS.aconstNull X0.here hx rfl (hb hby d23_2) k))) ?_
 refine own_spec (W := 0) X0 hx hZ hown e0 (ow hw 127 rfl) (ow hw 128 rfl) (rmsn23 l Z a0 hw [] a1 a2 va kv vs cs h0 n0 Z0 O0 SC hcs E_a1 Fld_a1_value Fld_a1_coder g_a1 E_a2 Fld_a2_value Fld_a2_coder Fld_a2_count V_va E_va) (ow hw 129 rfl) (ow hw 33 rfl) rfl (by rw [hml]; rfl) rfl (hb hby d23_3) (lenOf pd__Ljava_lang_AbstractStringBuilder_Ljava_lang_Void__V rfl) rfl rfl (by decide) (fun T1 v1 Ll1 X1 hQ1 => ?_)
 obtain ⟨b_1, kb_1, rfl, N1q, K1, P1_0, P1_1, P1_2, P1_3⟩ := hQ1
 have N1 := Fr.app N0 N1q
 have Zs2 : n0 ≤ T1.heap.size := Nat.le_trans Z0 K1.1
 have K3 := (Keep.refl h0 [a1]).trans K1 (allS (Or.inl (List.mem_of_getElem? (i := 0) rfl)) all0)
 exact own_endV X1 hx hr2 (hb hby d23_6) (by decide) (by decide) (by exact ⟨b_1, kb_1, rfl, N1, K3, (Nat.le_trans (Nat.le_refl _) P1_0), P1_1, P1_2, P1_3⟩)
def Qrmts23 (Z : State) (a2 va : Addr) (kv : ClassId) (vs : List Value) (cs : Int32) (h0 : Heap) (n0 : Nat) (v : Option Value) (h : Heap) (L : List Loc) : Prop := ∃ (a : Addr) (b : Addr) (kb : ClassId), v = some (.ref a) ∧ Fr n0 L ∧ Keep h0 h [] ∧ (h0.size ≤ a) ∧ (Exa Z h a cs1) ∧ (h0.size ≤ b) ∧ (Fld Z h a cs1 "value" "[B" (.ref b)) ∧ (Fld Z h a cs1 "coder" "B" (.int 0)) ∧ (Arv Z h b kb .byte (23 : Int32) vs (.int 0))
theorem rmts23 (l : Launch) (Z : State) (a0 : Array Value) (hw : HW a0 Z) (ws : List Jvm.Cond) (a2 va : Addr) (kv : ClassId) (vs : List Value) (cs : Int32) (h0 : Heap) (n0 : Nat) (Z0 : n0 ≤ h0.size) (O0 : Old Z n0 h0) (SC : Sta Z Z.heap cs1 "COMPACT_STRINGS" "Z" (.int cs)) (hcs : ¬ (cs = (0 : Int32))) (E_a2 : Exa Z h0 a2 cs2) (Fld_a2_value : Fld Z h0 a2 cs0 "value" "[B" (.ref va)) (Fld_a2_coder : Fld Z h0 a2 cs0 "coder" "B" (.int 0)) (Fld_a2_count : Fld Z h0 a2 cs0 "count" "I" (.int 23)) (V_va : Arv Z h0 va kv .byte (23 : Int32) vs (.int 0)) (E_va : Exa Z h0 va "[B") :
    own_MF l (⟨cs2, "toString", "()Ljava/lang/String;"⟩ : MethodName) cd22 1 (some (.object cs1)) ws (rom 4 2 27 59) #[(.ref a2)] Z h0 (Qrmts23 Z a2 va kv vs cs h0 n0) := by
 refine own_body n0 (plainFor_of_name pn_22) (fun m => ef_rmts34 m a2) (fun p e s m below meth c s₁ hx hby hml hr2 hZ hown hnm X0 e0 N0 => ?_)
 obtain ⟨T1, h1, X1, e1, E1, A1, D1, Un1, st1⟩ := newO X0 hx hZ hown (ow hw 122 rfl) (ow hw 39 rfl) (ow hw 33 rfl) e0 (g := (mkF m 0 #[rv a2] [])) rfl (hb hby d22_0) (by decide) (by decide)
 obtain ⟨b1, g1⟩ : ∃ z, z = h0.size := ⟨_, rfl⟩
 rw [← g1] at A1 D1 Un1 st1
 have Zs2 : n0 ≤ h1.size := Nat.le_trans Z0 E1.1
 have F1_value : Fld Z h1 b1 cs1 "value" "[B" .null := D1 (Or.inr (ow hw 40 rfl)) (ty := (.array .byte)) (by decide)
 have F1_coder : Fld Z h1 b1 cs1 "coder" "B" (.int 0) := D1 (Or.inr (ow hw 41 rfl)) (ty := .byte) (by decide)
 refine ogo (mkF m 5 #[rv a2] [(.ref a2), (.ref b1), (.ref b1)]) (fun _ k => st1 _ (XS.dup X1.here hx rfl (hb hby d22_3) rfl rfl (XS.aloadN X1.here hx rfl (hb hby d22_4) rfl rfl k))) ?_
 have O4 := O0.ext E1
 have gx5 : n0 ≤ b1 := Nat.le_trans Z0 (Nat.le_of_eq g1.symm)
 have F6 := E_a2.ext E1
 have F7 := Fld_a2_value.ext E1
 have F8 := Fld_a2_coder.ext E1
 have F9 := Fld_a2_count.ext E1
 have F10 := V_va.ext E1
 have F11 := E_va.ext E1
 refine own_spec (W := 1) X1 hx hZ hown e1 (ow hw 123 rfl) (ow hw 124 rfl) (rmsm23 l Z a0 hw [] b1 a2 va kv vs cs h1 n0 Zs2 O4 SC hcs A1 F1_value F1_coder gx5 F6 F7 F8 F9 F10 F11) (ow hw 126 rfl) (ow hw 33 rfl) rfl (by rw [hml]; rfl) rfl (hb hby d22_5) (lenOf pd__Ljava_lang_StringBuilder__V rfl) rfl rfl (by decide) (fun T3 v3 Ll3 X3 hQ3 => ?_)
 obtain ⟨b_3, kb_3, rfl, N3q, K3, P3_0, P3_1, P3_2, P3_3⟩ := hQ3
 have N3 := Fr.app N0 N3q
 have Zs12 : n0 ≤ T3.heap.size := Nat.le_trans Zs2 K3.1
 have K13 := (Keep.refl h0 []).ext E1
 have K14 := K13.trans K3 (allS (Or.inr (Nat.le_trans (Nat.le_refl _) (Nat.le_of_eq g1.symm))) all0)
 have F15 := A1.keep K3
 exact own_endR X3 hx hr2 rfl rfl (hb hby d22_8) (by decide) (by decide) (by exact ⟨b1, b_3, kb_3, rfl, N3, K14, (Nat.le_trans (Nat.le_refl _) (Nat.le_of_eq g1.symm)), F15, (Nat.le_trans E1.1 P3_0), P3_1, P3_2, P3_3⟩)
theorem d35_0 : dk cd35 0 (.getstatic 38) 3 := by decide +kernel
theorem d35_3 : dk cd35 3 (.ifCond .eq 10) 3 := by decide +kernel
theorem d35_6 : dk cd35 6 (.aload_n 0) 1 := by decide +kernel
theorem d35_7 : dk cd35 7 (.getfield 15) 3 := by decide +kernel
theorem d35_10 : dk cd35 10 (.goto 4) 3 := by decide +kernel
theorem d35_14 : dk cd35 14 .ireturn 1 := by decide +kernel
theorem pn_35 : plainName cs1 = true := by first | (simp [plainName, overriddenIn]; done) | decide +kernel
theorem ef_rmscd (m : MethodId) (x0 : Addr) : entryFrame m #[(.ref x0)] 1 = mkF m 0 #[rv x0] [] := by first | (simp [entryFrame, mkF, argsToLocals, Value.category]; done) | rfl
def Qrmscd (Z : State) (a1 : Addr) (cs : Int32) (h0 : Heap) (n0 : Nat) (v : Option Value) (h : Heap) (L : List Loc) : Prop := v = some (.int 0) ∧ Fr n0 L ∧ h = h0
theorem rmscd (l : Launch) (Z : State) (a0 : Array Value) (hw : HW a0 Z) (ws : List Jvm.Cond) (a1 : Addr) (cs : Int32) (h0 : Heap) (n0 : Nat) (Z0 : n0 ≤ h0.size) (O0 : Old Z n0 h0) (SC : Sta Z Z.heap cs1 "COMPACT_STRINGS" "Z" (.int cs)) (hcs : ¬ (cs = (0 : Int32))) (Fld_a1_coder : Fld Z h0 a1 cs1 "coder" "B" (.int 0)) :
    own_MF l (⟨cs1, "coder", "()B"⟩ : MethodName) cd35 1 (some .byte) ws (rom 0 0 0 0) #[(.ref a1)] Z h0 (Qrmscd Z a1 cs h0 n0) := by
 refine own_body n0 (plainFor_of_name pn_35) (fun m => ef_rmscd m a1) (fun p e s m below meth c s₁ hx hby hml hr2 hZ hown hnm X0 e0 N0 => ?_)
 obtain ⟨T1, X1, e1, st1⟩ := getS2 X0 hx hZ hown (host := "") (Or.inl (ow hw 54 rfl)) Via.refl e0 (SC.ext O0.2) (g := (mkF m 0 #[rv a1] [])) rfl (hb hby d35_0)
 refine ogo (mkF m 7 #[rv a1] [(.ref a1)]) (fun _ k => st1 _ (XS.ifNo X1.here hx rfl (hb hby d35_3) rfl ((if0 _ _).trans (feq hcs).1) (XS.aloadN X1.here hx rfl (hb hby d35_6) rfl rfl k))) ?_
 refine own_getf X1 hx hZ hown (ow hw 55 rfl) Via.refl e1 Fld_a1_coder rfl rfl (hb hby d35_7) (fun T2 X2 e2 => ?_)
 refine ogo (mkF m 14 #[rv a1] [(.int 0)]) (fun _ k => XS.goto X2.here hx rfl (pc0 := 10) (pc' := 14) rfl (hb hby d35_10) (by decide) (by decide) k) ?_
 exact own_endN X2 hx hr2 (by simp) (hb hby d35_14) (by decide) (by decide) (by rw [e2]; exact ⟨rfl, N0, rfl⟩)
theorem d38_0 : dk cd38 0 (.aload_n 0) 1 := by decide +kernel
theorem d38_1 : dk cd38 1 (.getfield 9) 3 := by decide +kernel
theorem d38_4 : dk cd38 4 .areturn 1 := by decide +kernel
theorem pn_38 : plainName cs1 = true := by first | (simp [plainName, overriddenIn]; done) | decide +kernel
theorem ef_rmsval (m : MethodId) (x0 : Addr) : entryFrame m #[(.ref x0)] 1 = mkF m 0 #[rv x0] [] := by first | (simp [entryFrame, mkF, argsToLocals, Value.category]; done) | rfl
def Qrmsval (Z : State) (a1 u1 : Addr) (h0 : Heap) (n0 : Nat) (v : Option Value) (h : Heap) (L : List Loc) : Prop := v = some (.ref u1) ∧ Fr n0 L ∧ h = h0
theorem rmsval (l : Launch) (Z : State) (a0 : Array Value) (hw : HW a0 Z) (ws : List Jvm.Cond) (a1 u1 : Addr) (h0 : Heap) (n0 : Nat) (Z0 : n0 ≤ h0.size) (Fld_a1_value : Fld Z h0 a1 cs1 "value" "[B" (.ref u1)) :
    own_MF l (⟨cs1, "value", "()[B"⟩ : MethodName) cd38 1 (some (.array .byte)) ws (rom 0 0 0 0) #[(.ref a1)] Z h0 (Qrmsval Z a1 u1 h0 n0) := by
 refine own_body n0 (plainFor_of_name pn_38) (fun m => ef_rmsval m a1) (fun p e s m below meth c s₁ hx hby hml hr2 hZ hown hnm X0 e0 N0 => ?_)
 refine ogo (mkF m 1 #[rv a1] [(.ref a1)]) (fun _ k => XS.aloadN X0.here hx rfl (hb hby d38_0) rfl rfl k) ?_
 refine own_getf X0 hx hZ hown (ow hw 56 rfl) Via.refl e0 Fld_a1_value rfl rfl (hb hby d38_1) (fun T1 X1 e1 => ?_)
 exact own_endR X1 hx hr2 rfl rfl (hb hby d38_4) (by decide) (by decide) (by rw [e1]; exact ⟨rfl, N0, rfl⟩)
theorem d34_0 : dk cd34 0 (.aload_n 0) 1 := by decide +kernel
theorem d34_1 : dk cd34 1 (.getfield 9) 3 := by decide +kernel
theorem d34_4 : dk cd34 4 .arraylength 1 := by decide +kernel
theorem d34_5 : dk cd34 5 (.aload_n 0) 1 := by decide +kernel
theorem d34_6 : dk cd34 6 (.invokevirtual 335) 3 := by decide +kernel
theorem d34_9 : dk cd34 9 .ishr 1 := by decide +kernel
theorem d34_10 : dk cd34 10 .ireturn 1 := by decide +kernel
theorem pd___B : parseMethodDescriptor "()B" = some ⟨[], some .byte⟩ := by decide +kernel
theorem pn_34 : plainName cs1 = true := by first | (simp [plainName, overriddenIn]; done) | decide +kernel
theorem ef_rmlen20 (m : MethodId) (x0 : Addr) : entryFrame m #[(.ref x0)] 1 = mkF m 0 #[rv x0] [] := by first | (simp [entryFrame, mkF, argsToLocals, Value.category]; done) | rfl
def Qrmlen20 (Z : State) (a1 u1 : Addr) (ku : ClassId) (vs : List Value) (cs : Int32) (h0 : Heap) (n0 : Nat) (v : Option Value) (h : Heap) (L : List Loc) : Prop := v = some (.int 20) ∧ Fr n0 L ∧ h = h0
theorem rmlen20 (l : Launch) (Z : State) (a0 : Array Value) (hw : HW a0 Z) (ws : List Jvm.Cond) (a1 u1 : Addr) (ku : ClassId) (vs : List Value) (cs : Int32) (h0 : Heap) (n0 : Nat) (Z0 : n0 ≤ h0.size) (O0 : Old Z n0 h0) (SC : Sta Z Z.heap cs1 "COMPACT_STRINGS" "Z" (.int cs)) (hcs : ¬ (cs = (0 : Int32))) (E_a1 : Exa Z h0 a1 cs1) (Fld_a1_coder : Fld Z h0 a1 cs1 "coder" "B" (.int 0)) (Fld_a1_value : Fld Z h0 a1 cs1 "value" "[B" (.ref u1)) (V_u1 : Arv Z h0 u1 ku .byte (20 : Int32) vs (.int 0)) :
    own_MF l mn3 cd34 1 (some .int) ws (rom 1 0 0 13) #[(.ref a1)] Z h0 (Qrmlen20 Z a1 u1 ku vs cs h0 n0) := by
 refine own_body n0 (plainFor_of_name pn_34) (fun m => ef_rmlen20 m a1) (fun p e s m below meth c s₁ hx hby hml hr2 hZ hown hnm X0 e0 N0 => ?_)
 refine ogo (mkF m 1 #[rv a1] [(.ref a1)]) (fun _ k => XS.aloadN X0.here hx rfl (hb hby d34_0) rfl rfl k) ?_
 refine own_getf X0 hx hZ hown (ow hw 56 rfl) Via.refl e0 Fld_a1_value rfl rfl (hb hby d34_1) (fun T1 X1 e1 => ?_)
 obtain ⟨cl2, Ar2, -, Sz2, Nn2, -, -⟩ := id V_u1
 refine own_go (b := (T1.setTop (mkF m 6 #[rv a1] [(.ref a1), (.int 20)]))) (fun _ k => X1.arraylength hx (by rw [e1]; exact Ar2.1) (State.isArrayOf_alike hZ.alike Ar2.2.1) (g := (mkF m 4 #[rv a1] [(.ref u1)])) rfl rfl (hb hby d34_4) _ (by rw [len_of Sz2 Nn2]; exact (XS.aloadN X1.here hx rfl (hb hby d34_5) rfl rfl k))) ?_
 refine own_virt (W := 1) X1 hx hZ hown e1 (ow hw 175 rfl) (ow hw 176 rfl) (ow hw 178 rfl) (ow hw 177 rfl) (rmscd l Z a0 hw [] a1 cs h0 n0 Z0 O0 SC hcs Fld_a1_coder) (ow hw 179 rfl) (ow hw 33 rfl) E_a1 rfl (by rw [hml]; rfl) rfl (hb hby d34_6) (lenOf pd___B rfl) rfl (by decide) (fun T3 v3 Ll3 X3 hQ3 => ?_)
 obtain ⟨rfl, N3q, eh3⟩ := hQ3
 have N3 := Fr.app N0 N3q
 refine ogo (mkF m 10 #[rv a1] [(.int 20)]) (fun _ k => XS.ishr X3.here hx rfl (hb hby d34_9) rfl k) ?_
 exact own_endI X3 hx hr2 (hb hby d34_10) (by decide) (by decide) (by rw [eh3]; exact ⟨rfl, N3, rfl⟩)
def Qrmlen22 (Z : State) (a1 u1 : Addr) (ku : ClassId) (vs : List Value) (cs : Int32) (h0 : Heap) (n0 : Nat) (v : Option Value) (h : Heap) (L : List Loc) : Prop := v = some (.int 22) ∧ Fr n0 L ∧ h = h0
theorem rmlen22 (l : Launch) (Z : State) (a0 : Array Value) (hw : HW a0 Z) (ws : List Jvm.Cond) (a1 u1 : Addr) (ku : ClassId) (vs : List Value) (cs : Int32) (h0 : Heap) (n0 : Nat) (Z0 : n0 ≤ h0.size) (O0 : Old Z n0 h0) (SC : Sta Z Z.heap cs1 "COMPACT_STRINGS" "Z" (.int cs)) (hcs : ¬ (cs = (0 : Int32))) (E_a1 : Exa Z h0 a1 cs1) (Fld_a1_coder : Fld Z h0 a1 cs1 "coder" "B" (.int 0)) (Fld_a1_value : Fld Z h0 a1 cs1 "value" "[B" (.ref u1)) (V_u1 : Arv Z h0 u1 ku .byte (22 : Int32) vs (.int 0)) :
    own_MF l mn3 cd34 1 (some .int) ws (rom 1 0 0 13) #[(.ref a1)] Z h0 (Qrmlen22 Z a1 u1 ku vs cs h0 n0) := by
 refine own_body n0 (plainFor_of_name pn_34) (fun m => ef_rmlen20 m a1) (fun p e s m below meth c s₁ hx hby hml hr2 hZ hown hnm X0 e0 N0 => ?_)
 refine ogo (mkF m 1 #[rv a1] [(.ref a1)]) (fun _ k => XS.aloadN X0.here hx rfl (hb hby d34_0) rfl rfl k) ?_
 refine own_getf X0 hx hZ hown (ow hw 56 rfl) Via.refl e0 Fld_a1_value rfl rfl (hb hby d34_1) (fun T1 X1 e1 => ?_)
 obtain ⟨cl2, Ar2, -, Sz2, Nn2, -, -⟩ := id V_u1
 refine own_go (b := (T1.setTop (mkF m 6 #[rv a1] [(.ref a1), (.int 22)]))) (fun _ k => X1.arraylength hx (by rw [e1]; exact Ar2.1) (State.isArrayOf_alike hZ.alike Ar2.2.1) (g := (mkF m 4 #[rv a1] [(.ref u1)])) rfl rfl (hb hby d34_4) _ (by rw [len_of Sz2 Nn2]; exact (XS.aloadN X1.here hx rfl (hb hby d34_5) rfl rfl k))) ?_
 refine own_virt (W := 1) X1 hx hZ hown e1 (ow hw 175 rfl) (ow hw 176 rfl) (ow hw 178 rfl) (ow hw 177 rfl) (rmscd l Z a0 hw [] a1 cs h0 n0 Z0 O0 SC hcs Fld_a1_coder) (ow hw 179 rfl) (ow hw 33 rfl) E_a1 rfl (by rw [hml]; rfl) rfl (hb hby d34_6) (lenOf pd___B rfl) rfl (by decide) (fun T3 v3 Ll3 X3 hQ3 => ?_)
 obtain ⟨rfl, N3q, eh3⟩ := hQ3
 have N3 := Fr.app N0 N3q
 refine ogo (mkF m 10 #[rv a1] [(.int 22)]) (fun _ k => XS.ishr X3.here hx rfl (hb hby d34_9) rfl k) ?_
 exact own_endI X3 hx hr2 (hb hby d34_10) (by decide) (by decide) (by rw [eh3]; exact ⟨rfl, N3, rfl⟩)
def Qrmlen23 (Z : State) (a1 u1 : Addr) (ku : ClassId) (vs : List Value) (cs : Int32) (h0 : Heap) (n0 : Nat) (v : Option Value) (h : Heap) (L : List Loc) : Prop := v = some (.int 23) ∧ Fr n0 L ∧ h = h0
theorem rmlen23 (l : Launch) (Z : State) (a0 : Array Value) (hw : HW a0 Z) (ws : List Jvm.Cond) (a1 u1 : Addr) (ku : ClassId) (vs : List Value) (cs : Int32) (h0 : Heap) (n0 : Nat) (Z0 : n0 ≤ h0.size) (O0 : Old Z n0 h0) (SC : Sta Z Z.heap cs1 "COMPACT_STRINGS" "Z" (.int cs)) (hcs : ¬ (cs = (0 : Int32))) (E_a1 : Exa Z h0 a1 cs1) (Fld_a1_coder : Fld Z h0 a1 cs1 "coder" "B" (.int 0)) (Fld_a1_value : Fld Z h0 a1 cs1 "value" "[B" (.ref u1)) (V_u1 : Arv Z h0 u1 ku .byte (23 : Int32) vs (.int 0)) :
    own_MF l mn3 cd34 1 (some .int) ws (rom 1 0 0 13) #[(.ref a1)] Z h0 (Qrmlen23 Z a1 u1 ku vs cs h0 n0) := by
 refine own_body n0 (plainFor_of_name pn_34) (fun m => ef_rmlen20 m a1) (fun p e s m below meth c s₁ hx hby hml hr2 hZ hown hnm X0 e0 N0 => ?_)
 refine ogo (mkF m 1 #[rv a1] [(.ref a1)]) (fun _ k => XS.aloadN X0.here hx rfl (hb hby d34_0) rfl rfl k) ?_
 refine own_getf X0 hx hZ hown (ow hw 56 rfl) Via.refl e0 Fld_a1_value rfl rfl (hb hby d34_1) (fun T1 X1 e1 => ?_)
 obtain ⟨cl2, Ar2, -, Sz2, Nn2, -, -⟩ := id V_u1
 refine own_go (b := (T1.setTop (mkF m 6 #[rv a1] [(.ref a1), (.int 23)]))) (fun _ k => X1.arraylength hx (by rw [e1]; exact Ar2.1) (State.isArrayOf_alike hZ.alike Ar2.2.1) (g := (mkF m 4 #[rv a1] [(.ref u1)])) rfl rfl (hb hby d34_4) _ (by rw [len_of Sz2 Nn2]; exact (XS.aloadN X1.here hx rfl (hb hby d34_5) rfl rfl k))) ?_
 refine own_virt (W := 1) X1 hx hZ hown e1 (ow hw 175 rfl) (ow hw 176 rfl) (ow hw 178 rfl) (ow hw 177 rfl) (rmscd l Z a0 hw [] a1 cs h0 n0 Z0 O0 SC hcs Fld_a1_coder) (ow hw 179 rfl) (ow hw 33 rfl) E_a1 rfl (by rw [hml]; rfl) rfl (hb hby d34_6) (lenOf pd___B rfl) rfl (by decide) (fun T3 v3 Ll3 X3 hQ3 => ?_)
 obtain ⟨rfl, N3q, eh3⟩ := hQ3
 have N3 := Fr.app N0 N3q
 refine ogo (mkF m 10 #[rv a1] [(.int 23)]) (fun _ k => XS.ishr X3.here hx rfl (hb hby d34_9) rfl k) ?_
 exact own_endI X3 hx hr2 (hb hby d34_10) (by decide) (by decide) (by rw [eh3]; exact ⟨rfl, N3, rfl⟩)
def Qrmlen24 (Z : State) (a1 u1 : Addr) (ku : ClassId) (vs : List Value) (cs : Int32) (h0 : Heap) (n0 : Nat) (v : Option Value) (h : Heap) (L : List Loc) : Prop := v = some (.int 24) ∧ Fr n0 L ∧ h = h0
theorem rmlen24 (l : Launch) (Z : State) (a0 : Array Value) (hw : HW a0 Z) (ws : List Jvm.Cond) (a1 u1 : Addr) (ku : ClassId) (vs : List Value) (cs : Int32) (h0 : Heap) (n0 : Nat) (Z0 : n0 ≤ h0.size) (O0 : Old Z n0 h0) (SC : Sta Z Z.heap cs1 "COMPACT_STRINGS" "Z" (.int cs)) (hcs : ¬ (cs = (0 : Int32))) (E_a1 : Exa Z h0 a1 cs1) (Fld_a1_coder : Fld Z h0 a1 cs1 "coder" "B" (.int 0)) (Fld_a1_value : Fld Z h0 a1 cs1 "value" "[B" (.ref u1)) (V_u1 : Arv Z h0 u1 ku .byte (24 : Int32) vs (.int 0)) :
    own_MF l mn3 cd34 1 (some .int) ws (rom 1 0 0 13) #[(.ref a1)] Z h0 (Qrmlen24 Z a1 u1 ku vs cs h0 n0) := by
 refine own_body n0 (plainFor_of_name pn_34) (fun m => ef_rmlen20 m a1) (fun p e s m below meth c s₁ hx hby hml hr2 hZ hown hnm X0 e0 N0 => ?_)
 refine ogo (mkF m 1 #[rv a1] [(.ref a1)]) (fun _ k => XS.aloadN X0.here hx rfl (hb hby d34_0) rfl rfl k) ?_
 refine own_getf X0 hx hZ hown (ow hw 56 rfl) Via.refl e0 Fld_a1_value rfl rfl (hb hby d34_1) (fun T1 X1 e1 => ?_)
 obtain ⟨cl2, Ar2, -, Sz2, Nn2, -, -⟩ := id V_u1
 refine own_go (b := (T1.setTop (mkF m 6 #[rv a1] [(.ref a1), (.int 24)]))) (fun _ k => X1.arraylength hx (by rw [e1]; exact Ar2.1) (State.isArrayOf_alike hZ.alike Ar2.2.1) (g := (mkF m 4 #[rv a1] [(.ref u1)])) rfl rfl (hb hby d34_4) _ (by rw [len_of Sz2 Nn2]; exact (XS.aloadN X1.here hx rfl (hb hby d34_5) rfl rfl k))) ?_
 refine own_virt (W := 1) X1 hx hZ hown e1 (ow hw 175 rfl) (ow hw 176 rfl) (ow hw 178 rfl) (ow hw 177 rfl) (rmscd l Z a0 hw [] a1 cs h0 n0 Z0 O0 SC hcs Fld_a1_coder) (ow hw 179 rfl) (ow hw 33 rfl) E_a1 rfl (by rw [hml]; rfl) rfl (hb hby d34_6) (lenOf pd___B rfl) rfl (by decide) (fun T3 v3 Ll3 X3 hQ3 => ?_)
 obtain ⟨rfl, N3q, eh3⟩ := hQ3
 have N3 := Fr.app N0 N3q
 refine ogo (mkF m 10 #[rv a1] [(.int 24)]) (fun _ k => XS.ishr X3.here hx rfl (hb hby d34_9) rfl k) ?_
 exact own_endI X3 hx hr2 (hb hby d34_10) (by decide) (by decide) (by rw [eh3]; exact ⟨rfl, N3, rfl⟩)
def Qrmlen32 (Z : State) (a1 u1 : Addr) (ku : ClassId) (vs : List Value) (cs : Int32) (h0 : Heap) (n0 : Nat) (v : Option Value) (h : Heap) (L : List Loc) : Prop := v = some (.int 32) ∧ Fr n0 L ∧ h = h0
theorem rmlen32 (l : Launch) (Z : State) (a0 : Array Value) (hw : HW a0 Z) (ws : List Jvm.Cond) (a1 u1 : Addr) (ku : ClassId) (vs : List Value) (cs : Int32) (h0 : Heap) (n0 : Nat) (Z0 : n0 ≤ h0.size) (O0 : Old Z n0 h0) (SC : Sta Z Z.heap cs1 "COMPACT_STRINGS" "Z" (.int cs)) (hcs : ¬ (cs = (0 : Int32))) (E_a1 : Exa Z h0 a1 cs1) (Fld_a1_coder : Fld Z h0 a1 cs1 "coder" "B" (.int 0)) (Fld_a1_value : Fld Z h0 a1 cs1 "value" "[B" (.ref u1)) (V_u1 : Arv Z h0 u1 ku .byte (32 : Int32) vs (.int 0)) :
    own_MF l mn3 cd34 1 (some .int) ws (rom 1 0 0 13) #[(.ref a1)] Z h0 (Qrmlen32 Z a1 u1 ku vs cs h0 n0) := by
 refine own_body n0 (plainFor_of_name pn_34) (fun m => ef_rmlen20 m a1) (fun p e s m below meth c s₁ hx hby hml hr2 hZ hown hnm X0 e0 N0 => ?_)
 refine ogo (mkF m 1 #[rv a1] [(.ref a1)]) (fun _ k => XS.aloadN X0.here hx rfl (hb hby d34_0) rfl rfl k) ?_
 refine own_getf X0 hx hZ hown (ow hw 56 rfl) Via.refl e0 Fld_a1_value rfl rfl (hb hby d34_1) (fun T1 X1 e1 => ?_)
 obtain ⟨cl2, Ar2, -, Sz2, Nn2, -, -⟩ := id V_u1
 refine own_go (b := (T1.setTop (mkF m 6 #[rv a1] [(.ref a1), (.int 32)]))) (fun _ k => X1.arraylength hx (by rw [e1]; exact Ar2.1) (State.isArrayOf_alike hZ.alike Ar2.2.1) (g := (mkF m 4 #[rv a1] [(.ref u1)])) rfl rfl (hb hby d34_4) _ (by rw [len_of Sz2 Nn2]; exact (XS.aloadN X1.here hx rfl (hb hby d34_5) rfl rfl k))) ?_
 refine own_virt (W := 1) X1 hx hZ hown e1 (ow hw 175 rfl) (ow hw 176 rfl) (ow hw 178 rfl) (ow hw 177 rfl) (rmscd l Z a0 hw [] a1 cs h0 n0 Z0 O0 SC hcs Fld_a1_coder) (ow hw 179 rfl) (ow hw 33 rfl) E_a1 rfl (by rw [hml]; rfl) rfl (hb hby d34_6) (lenOf pd___B rfl) rfl (by decide) (fun T3 v3 Ll3 X3 hQ3 => ?_)
 obtain ⟨rfl, N3q, eh3⟩ := hQ3
 have N3 := Fr.app N0 N3q
 refine ogo (mkF m 10 #[rv a1] [(.int 32)]) (fun _ k => XS.ishr X3.here hx rfl (hb hby d34_9) rfl k) ?_
 exact own_endI X3 hx hr2 (hb hby d34_10) (by decide) (by decide) (by rw [eh3]; exact ⟨rfl, N3, rfl⟩)
theorem d36_0 : dk cd36 0 (.iload_n 0) 1 := by decide +kernel
theorem d36_1 : dk cd36 1 (.ifCond .lt 13) 3 := by decide +kernel
theorem d36_4 : dk cd36 4 (.iload_n 0) 1 := by decide +kernel
theorem d36_5 : dk cd36 5 (.iload_n 1) 1 := by decide +kernel
theorem d36_6 : dk cd36 6 (.if_icmp .gt 8) 3 := by decide +kernel
theorem d36_9 : dk cd36 9 (.iload_n 1) 1 := by decide +kernel
theorem d36_10 : dk cd36 10 (.iload_n 2) 1 := by decide +kernel
theorem d36_11 : dk cd36 11 (.if_icmp .le 11) 3 := by decide +kernel
theorem d36_22 : dk cd36 22 (.iload_n 0) 1 := by decide +kernel
theorem d36_23 : dk cd36 23 .ireturn 1 := by decide +kernel
theorem pn_36 : plainName cs4 = true := by first | (simp [plainName, overriddenIn]; done) | decide +kernel
theorem ef_rmftn (m : MethodId) (x0 : Int32) (x1 : Int32) (x2 : Int32) : entryFrame m #[(.int x0), (.int x1), (.int x2), .null] 4 = mkF m 0 #[iv x0, iv x1, iv x2, .val .null] [] := by first | (simp [entryFrame, mkF, argsToLocals, Value.category]; done) | rfl
def Qrmftn (Z : State) (fr to nn : Int32) (h0 : Heap) (n0 : Nat) (v : Option Value) (h : Heap) (L : List Loc) : Prop := v = some (.int fr) ∧ Fr n0 L ∧ h = h0
theorem rmftn (l : Launch) (Z : State) (a0 : Array Value) (hw : HW a0 Z) (ws : List Jvm.Cond) (fr to nn : Int32) (h0 : Heap) (n0 : Nat) (Z0 : n0 ≤ h0.size) (hp0 : ¬ (fr < (0 : Int32))) (hp1 : ¬ (to < fr)) (hp2 : ¬ (nn < to)) :
    own_MF l (⟨cs4, "checkFromToIndex", "(IIILjava/util/function/BiFunction;)I"⟩ : MethodName) cd36 4 (some .int) ws (rom 0 0 0 0) #[(.int fr), (.int to), (.int nn), .null] Z h0 (Qrmftn Z fr to nn h0 n0) := by
 refine own_body n0 (plainFor_of_name pn_36) (fun m => ef_rmftn m fr to nn) (fun p e s m below meth c s₁ hx hby hml hr2 hZ hown hnm X0 e0 N0 => ?_)
 refine ogo (mkF m 23 #[iv fr, iv to, iv nn, .val .null] [(.int fr)]) (fun _ k => XS.iloadN X0.here hx rfl (hb hby d36_0) rfl (XS.ifNo X0.here hx rfl (hb hby d36_1) rfl ((if0 _ _).trans (flt hp0).1) (XS.iloadN X0.here hx rfl (hb hby d36_4) rfl (XS.iloadN X0.here hx rfl (hb hby d36_5) rfl (XS.icmpNo X0.here hx rfl (hb hby d36_6) rfl (flt hp1).2.2.1 (XS.iloadN X0.here hx rfl (hb hby d36_9) rfl (XS.iloadN X0.here hx rfl (hb hby d36_10) rfl (XS.icmpYes X0.here hx rfl (pc0 := 11) (pc' := 22) rfl (hb hby d36_11) rfl (flt hp2).2.2.2 (by decide) (by decide) (XS.iloadN X0.here hx rfl (hb hby d36_22) rfl k))))))))) ?_
 exact own_endI X0 hx hr2 (hb hby d36_23) (by decide) (by decide) (by rw [e0]; exact ⟨rfl, N0, rfl⟩)
theorem ef_rmftr (m : MethodId) (x0 : Int32) (x1 : Int32) (x2 : Int32) (x3 : Addr) : entryFrame m #[(.int x0), (.int x1), (.int x2), (.ref x3)] 4 = mkF m 0 #[iv x0, iv x1, iv x2, rv x3] [] := by first | (simp [entryFrame, mkF, argsToLocals, Value.category]; done) | rfl
def Qrmftr (Z : State) (fr to nn : Int32) (xf : Addr) (h0 : Heap) (n0 : Nat) (v : Option Value) (h : Heap) (L : List Loc) : Prop := v = some (.int fr) ∧ Fr n0 L ∧ h = h0
theorem rmftr (l : Launch) (Z : State) (a0 : Array Value) (hw : HW a0 Z) (ws : List Jvm.Cond) (fr to nn : Int32) (xf : Addr) (h0 : Heap) (n0 : Nat) (Z0 : n0 ≤ h0.size) (hp0 : ¬ (fr < (0 : Int32))) (hp1 : ¬ (to < fr)) (hp2 : ¬ (nn < to)) :
    own_MF l (⟨cs4, "checkFromToIndex", "(IIILjava/util/function/BiFunction;)I"⟩ : MethodName) cd36 4 (some .int) ws (rom 0 0 0 0) #[(.int fr), (.int to), (.int nn), (.ref xf)] Z h0 (Qrmftr Z fr to nn xf h0 n0) := by
 refine own_body n0 (plainFor_of_name pn_36) (fun m => ef_rmftr m fr to nn xf) (fun p e s m below meth c s₁ hx hby hml hr2 hZ hown hnm X0 e0 N0 => ?_)
 refine ogo (mkF m 23 #[iv fr, iv to, iv nn, rv xf] [(.int fr)]) (fun _ k => XS.iloadN X0.here hx rfl (hb hby d36_0) rfl (XS.ifNo X0.here hx rfl (hb hby d36_1) rfl ((if0 _ _).trans (flt hp0).1) (XS.iloadN X0.here hx rfl (hb hby d36_4) rfl (XS.iloadN X0.here hx rfl (hb hby d36_5) rfl (XS.icmpNo X0.here hx rfl (hb hby d36_6) rfl (flt hp1).2.2.1 (XS.iloadN X0.here hx rfl (hb hby d36_9) rfl (XS.iloadN X0.here hx rfl (hb hby d36_10) rfl (XS.icmpYes X0.here hx rfl (pc0 := 11) (pc' := 22) rfl (hb hby d36_11) rfl (flt hp2).2.2.2 (by decide) (by decide) (XS.iloadN X0.here hx rfl (hb hby d36_22) rfl k))))))))) ?_
 exact own_endI X0 hx hr2 (hb hby d36_23) (by decide) (by decide) (by rw [e0]; exact ⟨rfl, N0, rfl⟩)
theorem d37_0 : dk cd37 0 (.aload_n 0) 1 := by decide +kernel
theorem d37_1 : dk cd37 1 (.invokevirtual 83) 3 := by decide +kernel
theorem d37_4 : dk cd37 4 (.ifCond .eq 141) 3 := by decide +kernel
theorem d37_7 : dk cd37 7 (.aload_n 1) 1 := by decide +kernel
theorem d37_8 : dk cd37 8 (.invokevirtual 400) 3 := by decide +kernel
theorem d37_11 : dk cd37 11 (.ifCond .eq 25) 3 := by decide +kernel
theorem d37_14 : dk cd37 14 (.aload_n 1) 1 := by decide +kernel
theorem d37_15 : dk cd37 15 (.invokevirtual 401) 3 := by decide +kernel
theorem d37_18 : dk cd37 18 (.iload_n 2) 1 := by decide +kernel
theorem d37_19 : dk cd37 19 (.aload_n 0) 1 := by decide +kernel
theorem d37_20 : dk cd37 20 (.getfield 15) 3 := by decide +kernel
theorem d37_23 : dk cd37 23 (.aload_n 0) 1 := by decide +kernel
theorem d37_24 : dk cd37 24 (.getfield 79) 3 := by decide +kernel
theorem d37_27 : dk cd37 27 (.iload_n 3) 1 := by decide +kernel
theorem d37_28 : dk cd37 28 (.iload_n 2) 1 := by decide +kernel
theorem d37_29 : dk cd37 29 .isub 1 := by decide +kernel
theorem d37_30 : dk cd37 30 (.invokestatic 309) 3 := by decide +kernel
theorem d37_33 : dk cd37 33 (.goto 161) 3 := by decide +kernel
theorem d37_194 : dk cd37 194 (.aload_n 0) 1 := by decide +kernel
theorem d37_195 : dk cd37 195 .dup 1 := by decide +kernel
theorem d37_196 : dk cd37 196 (.getfield 79) 3 := by decide +kernel
theorem d37_199 : dk cd37 199 (.iload_n 3) 1 := by decide +kernel
theorem d37_200 : dk cd37 200 (.iload_n 2) 1 := by decide +kernel
theorem d37_201 : dk cd37 201 .isub 1 := by decide +kernel
theorem d37_202 : dk cd37 202 .iadd 1 := by decide +kernel
theorem d37_203 : dk cd37 203 (.putfield 79) 3 := by decide +kernel
theorem d37_206 : dk cd37 206 .return_ 1 := by decide +kernel
theorem pn_37 : plainName cs0 = true := by first | (simp [plainName, overriddenIn]; done) | decide +kernel
theorem ef_rmac (m : MethodId) (x0 : Addr) (x1 : Addr) (x2 : Int32) (x3 : Int32) : entryFrame m #[(.ref x0), (.ref x1), (.int x2), (.int x3)] 8 = mkF m 0 #[rv x0, rv x1, iv x2, iv x3, .unset, .unset, .unset, .unset] [] := by first | (simp [entryFrame, mkF, argsToLocals, Value.category]; done) | rfl
def Qrmac (Z : State) (a1 va : Addr) (kv : ClassId) (vs : List Value) (nv : Int32) (a2 u2 : Addr) (ku2 : ClassId) (us : List Value) (of to cs : Int32) (h0 : Heap) (n0 : Nat) (v : Option Value) (h : Heap) (L : List Loc) : Prop := v = none ∧ Fr n0 L ∧ Keep h0 h [a1, va] ∧ (Fld Z h a1 cs0 "value" "[B" (.ref va)) ∧ (Fld Z h a1 cs0 "coder" "B" (.int 0)) ∧ (Fld Z h a1 cs0 "count" "I" (.int (nv + (to - of)))) ∧ (Arv Z h va kv .byte (23 : Int32) (vs ++ own_sl of to us) (.int 0))
theorem rmac (l : Launch) (Z : State) (a0 : Array Value) (hw : HW a0 Z) (ws : List Jvm.Cond) (a1 va : Addr) (kv : ClassId) (vs : List Value) (nv : Int32) (a2 u2 : Addr) (ku2 : ClassId) (us : List Value) (of to cs : Int32) (h0 : Heap) (n0 : Nat) (Z0 : n0 ≤ h0.size) (O0 : Old Z n0 h0) (SC : Sta Z Z.heap cs1 "COMPACT_STRINGS" "Z" (.int cs)) (hcs : ¬ (cs = (0 : Int32))) (E_a1 : Exa Z h0 a1 cs2) (g_a1 : n0 ≤ a1) (Fld_a1_value : Fld Z h0 a1 cs0 "value" "[B" (.ref va)) (Fld_a1_coder : Fld Z h0 a1 cs0 "coder" "B" (.int 0)) (Fld_a1_count : Fld Z h0 a1 cs0 "count" "I" (.int nv)) (V_va : Arv Z h0 va kv .byte (23 : Int32) vs (.int 0)) (g_va : n0 ≤ va) (E_a2 : Exa Z h0 a2 cs1) (Fld_a2_coder : Fld Z h0 a2 cs1 "coder" "B" (.int 0)) (Fld_a2_value : Fld Z h0 a2 cs1 "value" "[B" (.ref u2)) (V_u2 : Arv Z h0 u2 ku2 .byte (20 : Int32) us (.int 0)) (ne_u2_va : u2 ≠ va) (hp0 : ¬ (of < (0 : Int32))) (hp1 : ¬ (to < of)) (hp2 : ¬ ((20 : Int32) < to)) (hp3 : ¬ (nv < (0 : Int32))) (hp4 : ¬ ((to - of) < (0 : Int32))) (hp5 : of.toNatClampNeg + (to - of).toNatClampNeg ≤ (20 : Int32).toNatClampNeg) (hp6 : nv.toNatClampNeg + (to - of).toNatClampNeg ≤ (23 : Int32).toNatClampNeg) (hp7 : ¬ ((0 : Int32) < ((nv + (to - of)) - (23 : Int32)))) (hl : vs.length = nv.toNatClampNeg) :
    own_MF l mn2 cd37 8 none ws (rom 1 0 0 40) #[(.ref a1), (.ref a2), (.int of), (.int to)] Z h0 (Qrmac Z a1 va kv vs nv a2 u2 ku2 us of to cs h0 n0) := by
 refine own_body n0 (plainFor_of_name pn_37) (fun m => ef_rmac m a1 a2 of to) (fun p e s m below meth c s₁ hx hby hml hr2 hZ hown hnm X0 e0 N0 => ?_)
 refine ogo (mkF m 1 #[rv a1, rv a2, iv of, iv to, .unset, .unset, .unset, .unset] [(.ref a1)]) (fun _ k => XS.aloadN X0.here hx rfl (hb hby d37_0) rfl rfl k) ?_
 refine own_virt (W := 0) X0 hx hZ hown e0 (ow hw 86 rfl) (ow hw 87 rfl) (ow hw 89 rfl) (ow hw 88 rfl) (rmbl l Z a0 hw [] a1 cs h0 n0 Z0 O0 SC hcs Fld_a1_coder) (ow hw 90 rfl) (ow hw 27 rfl) E_a1 rfl (by rw [hml]; rfl) rfl (hb hby d37_1) (lenOf pd___Z rfl) rfl (by decide) (fun T1 v1 Ll1 X1 hQ1 => ?_)
 obtain ⟨rfl, N1q, eh1⟩ := hQ1
 have N1 := Fr.app N0 N1q
 refine ogo (mkF m 8 #[rv a1, rv a2, iv of, iv to, .unset, .unset, .unset, .unset] [(.ref a2)]) (fun _ k => XS.ifNo X1.here hx rfl (hb hby d37_4) rfl ((if0 _ _).trans (feq (by decide : ¬ ((1 : Int32) = (0 : Int32)))).1) (XS.aloadN X1.here hx rfl (hb hby d37_7) rfl rfl k)) ?_
 refine own_virt (W := 0) X1 hx hZ hown eh1 (ow hw 191 rfl) (ow hw 50 rfl) (ow hw 52 rfl) (ow hw 51 rfl) (rmil l Z a0 hw [] a2 cs h0 n0 Z0 O0 SC hcs Fld_a2_coder) (ow hw 53 rfl) (ow hw 33 rfl) E_a2 rfl (by rw [hml]; rfl) rfl (hb hby d37_8) (lenOf pd___Z rfl) rfl (by decide) (fun T2 v2 Ll2 X2 hQ2 => ?_)
 obtain ⟨rfl, N2q, eh2⟩ := hQ2
 have N2 := Fr.app N1 N2q
 refine ogo (mkF m 15 #[rv a1, rv a2, iv of, iv to, .unset, .unset, .unset, .unset] [(.ref a2)]) (fun _ k => XS.ifNo X2.here hx rfl (hb hby d37_11) rfl ((if0 _ _).trans (feq (by decide : ¬ ((1 : Int32) = (0 : Int32)))).1) (XS.aloadN X2.here hx rfl (hb hby d37_14) rfl rfl k)) ?_
 refine own_virt (W := 0) X2 hx hZ hown eh2 (ow hw 192 rfl) (ow hw 193 rfl) (ow hw 195 rfl) (ow hw 194 rfl) (rmsval l Z a0 hw [] a2 u2 h0 n0 Z0 Fld_a2_value) (ow hw 196 rfl) (ow hw 33 rfl) E_a2 rfl (by rw [hml]; rfl) rfl (hb hby d37_15) (lenOf pd____B rfl) rfl (by decide) (fun T3 v3 Ll3 X3 hQ3 => ?_)
 obtain ⟨rfl, N3q, eh3⟩ := hQ3
 have N3 := Fr.app N2 N3q
 refine ogo (mkF m 20 #[rv a1, rv a2, iv of, iv to, .unset, .unset, .unset, .unset] [(.ref a1), (.int of), (.ref u2)]) (fun _ k => XS.iloadN X3.here hx rfl (hb hby d37_18) rfl (XS.aloadN X3.here hx rfl (hb hby d37_19) rfl rfl k)) ?_
 refine own_getf X3 hx hZ hown (ow hw 34 rfl) Via.refl eh3 Fld_a1_value rfl rfl (hb hby d37_20) (fun T4 X4 e4 => ?_)
 refine ogo (mkF m 24 #[rv a1, rv a2, iv of, iv to, .unset, .unset, .unset, .unset] [(.ref a1), (.ref va), (.int of), (.ref u2)]) (fun _ k => XS.aloadN X4.here hx rfl (hb hby d37_23) rfl rfl k) ?_
 refine own_getf X4 hx hZ hown (ow hw 79 rfl) Via.refl e4 Fld_a1_count rfl rfl (hb hby d37_24) (fun T5 X5 e5 => ?_)
 refine ogo (mkF m 30 #[rv a1, rv a2, iv of, iv to, .unset, .unset, .unset, .unset] [(.int (to - of)), (.int nv), (.ref va), (.int of), (.ref u2)]) (fun _ k => XS.iloadN X5.here hx rfl (hb hby d37_27) rfl (XS.iloadN X5.here hx rfl (hb hby d37_28) rfl (XS.isub X5.here hx rfl (hb hby d37_29) rfl k))) ?_
 obtain ⟨T6, h6, L6, X6, e6, N6, K6, V6, st6⟩ := cpA X5 hx hZ hown (ow hw 197 rfl) (ow hw 9 rfl) (ow hw 7 rfl) (ow hw 8 rfl) e5 (us := (own_sl of to us)) V_u2 (V_va.pad (pad_rep vs (.int 0) 23)) (Or.inl ⟨rfl, rfl⟩) hp0 hp3 hp4 hp5 hp6 rfl (own_hl23 hp6) N3 g_va (g := (mkF m 30 #[rv a1, rv a2, iv of, iv to, .unset, .unset, .unset, .unset] [(.int (to - of)), (.int nv), (.ref va), (.int of), (.ref u2)])) rfl (by rw [hml]; rfl) rfl (hb hby d37_30) (by decide) (W := 0) (by show 2 * 0 + _ ≤ _; exact Nat.le_of_eq rfl) (by decide)
 have Zs7 : n0 ≤ h6.size := Nat.le_trans Z0 K6.1
 have V6c : Arv Z h6 va kv .byte (23 : Int32) (vs ++ own_sl of to us) (.int 0) := own_cpg V6 hl
 refine ogo (mkF m 196 #[rv a1, rv a2, iv of, iv to, .unset, .unset, .unset, .unset] [(.ref a1), (.ref a1)]) (fun _ k => st6 _ (XS.goto X6.here hx rfl (pc0 := 33) (pc' := 194) rfl (hb hby d37_33) (by decide) (by decide) (XS.aloadN X6.here hx rfl (hb hby d37_194) rfl rfl (XS.dup X6.here hx rfl (hb hby d37_195) rfl rfl k)))) ?_
 obtain ⟨cn8, An8, -⟩ := id V_va
 have nx9 : a1 ≠ va := (ne_arr E_a1 (ow hw 18 rfl) An8)
 have F10 := Fld_a1_count.keep K6 (ninS nx9 nin0)
 refine own_getf X6 hx hZ hown (ow hw 79 rfl) Via.refl e6 F10 rfl rfl (hb hby d37_196) (fun T11 X11 e11 => ?_)
 refine ogo (mkF m 203 #[rv a1, rv a2, iv of, iv to, .unset, .unset, .unset, .unset] [(.int (nv + (to - of))), (.ref a1)]) (fun _ k => XS.iloadN X11.here hx rfl (hb hby d37_199) rfl (XS.iloadN X11.here hx rfl (hb hby d37_200) rfl (XS.isub X11.here hx rfl (hb hby d37_201) rfl (XS.iadd X11.here hx rfl (hb hby d37_202) rfl k)))) ?_
 have F12 := E_a1.keep K6
 obtain ⟨T13, h13, X13, e13, W13, st13⟩ := putF X11 hx hZ hown (host := "") (Or.inl (ow hw 79 rfl)) Via.refl e11 F10 F12 (Or.inl (ow hw 80 rfl)) (ow hw 18 rfl) (ty := .int) (by decide) rfl rfl (g := (mkF m 203 #[rv a1, rv a2, iv of, iv to, .unset, .unset, .unset, .unset] [(.int (nv + (to - of))), (.ref a1)])) rfl rfl (hb hby d37_203)
 have N13 := Fr.snoc X13 N6 g_a1
 have Zs14 : n0 ≤ h13.size := Nat.le_trans Zs7 (Keep.of_wr W13).1
 have F13 : Fld Z h13 a1 cs0 "count" "I" (.int (nv + (to - of))) := F10.same W13
 refine ogo (mkF m 206 #[rv a1, rv a2, iv of, iv to, .unset, .unset, .unset, .unset] []) (fun _ k => st13 _ k) ?_
 have K15 := (Keep.refl h0 [a1, va]).trans K6 (allS (Or.inl (List.mem_of_getElem? (i := 1) rfl)) all0)
 have K16 := K15.wr W13 (Or.inl (List.mem_of_getElem? (i := 0) rfl))
 have F17 := Fld_a1_value.keep K6 (ninS nx9 nin0)
 have F18 := F17.other W13 (Or.inr (slot_ne (Or.inl (ow hw 35 rfl)) (Or.inl (ow hw 80 rfl)) (by decide) (t := (.array .byte)) (t' := .int) (by decide) (by decide)))
 have F19 := Fld_a1_coder.keep K6 (ninS nx9 nin0)
 have F20 := F19.other W13 (Or.inr (slot_ne (Or.inl (ow hw 37 rfl)) (Or.inl (ow hw 80 rfl)) (by decide) (t := .byte) (t' := .int) (by decide) (by decide)))
 have F21 := V6c.other W13 (Ne.symm nx9)
 exact own_endV X13 hx hr2 (hb hby d37_206) (by decide) (by decide) (by rw [e13]; exact ⟨rfl, N13, K16, F18, F20, F13, F21⟩)
theorem d33_0 : dk cd33 0 (.aload_n 1) 1 := by decide +kernel
theorem d33_1 : dk cd33 1 (.ifnonnull 6) 3 := by decide +kernel
theorem d33_7 : dk cd33 7 (.iload_n 2) 1 := by decide +kernel
theorem d33_8 : dk cd33 8 (.iload_n 3) 1 := by decide +kernel
theorem d33_9 : dk cd33 9 (.aload_n 1) 1 := by decide +kernel
theorem d33_10 : dk cd33 10 (.invokeinterface 47 1) 5 := by decide +kernel
theorem d33_15 : dk cd33 15 (.getstatic 183) 3 := by decide +kernel
theorem d33_18 : dk cd33 18 (.invokestatic 161) 3 := by decide +kernel
theorem d33_21 : dk cd33 21 .pop 1 := by decide +kernel
theorem d33_22 : dk cd33 22 (.iload_n 3) 1 := by decide +kernel
theorem d33_23 : dk cd33 23 (.iload_n 2) 1 := by decide +kernel
theorem d33_24 : dk cd33 24 .isub 1 := by decide +kernel
theorem d33_25 : dk cd33 25 (.istore 4) 2 := by decide +kernel
theorem d33_27 : dk cd33 27 (.aload_n 0) 1 := by decide +kernel
theorem d33_28 : dk cd33 28 (.aload_n 0) 1 := by decide +kernel
theorem d33_29 : dk cd33 29 (.getfield 79) 3 := by decide +kernel
theorem d33_32 : dk cd33 32 (.iload 4) 2 := by decide +kernel
theorem d33_34 : dk cd33 34 .iadd 1 := by decide +kernel
theorem d33_35 : dk cd33 35 (.invokevirtual 100) 3 := by decide +kernel
theorem d33_38 : dk cd33 38 (.aload_n 1) 1 := by decide +kernel
theorem d33_39 : dk cd33 39 (.instanceof 1) 3 := by decide +kernel
theorem d33_42 : dk cd33 42 (.ifCond .eq 16) 3 := by decide +kernel
theorem d33_45 : dk cd33 45 (.aload_n 0) 1 := by decide +kernel
theorem d33_46 : dk cd33 46 (.aload_n 1) 1 := by decide +kernel
theorem d33_47 : dk cd33 47 (.checkcast 1) 3 := by decide +kernel
theorem d33_50 : dk cd33 50 (.iload_n 2) 1 := by decide +kernel
theorem d33_51 : dk cd33 51 (.iload_n 3) 1 := by decide +kernel
theorem d33_52 : dk cd33 52 (.invokevirtual 232) 3 := by decide +kernel
theorem d33_55 : dk cd33 55 (.goto 10) 3 := by decide +kernel
theorem d33_65 : dk cd33 65 (.aload_n 0) 1 := by decide +kernel
theorem d33_66 : dk cd33 66 .areturn 1 := by decide +kernel
theorem pd__IIILjava_util_function_BiFunction__I : parseMethodDescriptor "(IIILjava/util/function/BiFunction;)I" = some ⟨[.int, .int, .int, (.object "java/util/function/BiFunction")], some .int⟩ := by decide +kernel
theorem pd__Ljava_lang_String_II_V : parseMethodDescriptor "(Ljava/lang/String;II)V" = some ⟨[(.object cs1), .int, .int], none⟩ := by decide +kernel
theorem pn_33 : plainName cs0 = true := by first | (simp [plainName, overriddenIn]; done) | decide +kernel
theorem ef_rmad (m : MethodId) (x0 : Addr) (x1 : Addr) (x2 : Int32) (x3 : Int32) : entryFrame m #[(.ref x0), (.ref x1), (.int x2), (.int x3)] 5 = mkF m 0 #[rv x0, rv x1, iv x2, iv x3, .unset] [] := by first | (simp [entryFrame, mkF, argsToLocals, Value.category]; done) | rfl
def Qrmad (Z : State) (a1 va : Addr) (kv : ClassId) (vs : List Value) (nv : Int32) (a2 u2 : Addr) (ku2 : ClassId) (us : List Value) (of to cs : Int32) (gv : Value) (h0 : Heap) (n0 : Nat) (v : Option Value) (h : Heap) (L : List Loc) : Prop := v = some (.ref a1) ∧ Fr n0 L ∧ Keep h0 h [a1, va] ∧ (Fld Z h a1 cs0 "value" "[B" (.ref va)) ∧ (Fld Z h a1 cs0 "coder" "B" (.int 0)) ∧ (Fld Z h a1 cs0 "count" "I" (.int (nv + (to - of)))) ∧ (Arv Z h va kv .byte (23 : Int32) (vs ++ own_sl of to us) (.int 0))
theorem rmad (l : Launch) (Z : State) (a0 : Array Value) (hw : HW a0 Z) (ws : List Jvm.Cond) (a1 va : Addr) (kv : ClassId) (vs : List Value) (nv : Int32) (a2 u2 : Addr) (ku2 : ClassId) (us : List Value) (of to cs : Int32) (gv : Value) (h0 : Heap) (n0 : Nat) (Z0 : n0 ≤ h0.size) (O0 : Old Z n0 h0) (SC : Sta Z Z.heap cs1 "COMPACT_STRINGS" "Z" (.int cs)) (hcs : ¬ (cs = (0 : Int32))) (E_a1 : Exa Z h0 a1 cs2) (g_a1 : n0 ≤ a1) (Fld_a1_value : Fld Z h0 a1 cs0 "value" "[B" (.ref va)) (Fld_a1_coder : Fld Z h0 a1 cs0 "coder" "B" (.int 0)) (Fld_a1_count : Fld Z h0 a1 cs0 "count" "I" (.int nv)) (V_va : Arv Z h0 va kv .byte (23 : Int32) vs (.int 0)) (g_va : n0 ≤ va) (E_a2 : Exa Z h0 a2 cs1) (Fld_a2_coder : Fld Z h0 a2 cs1 "coder" "B" (.int 0)) (Fld_a2_value : Fld Z h0 a2 cs1 "value" "[B" (.ref u2)) (V_u2 : Arv Z h0 u2 ku2 .byte (20 : Int32) us (.int 0)) (ne_u2_va : u2 ≠ va) (hp0 : ¬ (of < (0 : Int32))) (hp1 : ¬ (to < of)) (hp2 : ¬ ((20 : Int32) < to)) (hp3 : ¬ (nv < (0 : Int32))) (hp4 : ¬ ((to - of) < (0 : Int32))) (hp5 : of.toNatClampNeg + (to - of).toNatClampNeg ≤ (20 : Int32).toNatClampNeg) (hp6 : nv.toNatClampNeg + (to - of).toNatClampNeg ≤ (23 : Int32).toNatClampNeg) (hp7 : ¬ ((0 : Int32) < ((nv + (to - of)) - (23 : Int32)))) (hl : vs.length = nv.toNatClampNeg) (SI : Sta Z Z.heap cs4 "IOOBE_FORMATTER" "Ljava/util/function/BiFunction;" gv) (hgv : gv = .null ∨ ∃ x : Addr, gv = .ref x) :
    own_MF l (⟨cs0, "append", "(Ljava/lang/CharSequence;II)Ljava/lang/AbstractStringBuilder;"⟩ : MethodName) cd33 5 (some (.object cs0)) ws (rom 2 0 0 59) #[(.ref a1), (.ref a2), (.int of), (.int to)] Z h0 (Qrmad Z a1 va kv vs nv a2 u2 ku2 us of to cs gv h0 n0) := by
 refine own_body n0 (plainFor_of_name pn_33) (fun m => ef_rmad m a1 a2 of to) (fun p e s m below meth c s₁ hx hby hml hr2 hZ hown hnm X0 e0 N0 => ?_)
 rcases hgv with hf | ⟨xf, hf⟩
 · rw [hf] at SI
   refine ogo (mkF m 10 #[rv a1, rv a2, iv of, iv to, .unset] [(.ref a2), (.int to), (.int of)]) (fun _ k => XS.aloadN X0.here hx rfl (hb hby d33_0) rfl rfl (XS.ifnonnullYes X0.here hx rfl (pc0 := 1) (pc' := 7) rfl (hb hby d33_1) rfl (by decide) (by decide) (XS.iloadN X0.here hx rfl (hb hby d33_7) rfl (XS.iloadN X0.here hx rfl (hb hby d33_8) rfl (XS.aloadN X0.here hx rfl (hb hby d33_9) rfl rfl k))))) ?_
   obtain ⟨cq1, kq1, q1a, q1b, q1c⟩ := isOf hZ e0 E_a2
   obtain ⟨_, _, ⟨T1, Ll1, kz1, nz1⟩, -, X1, ⟨Lc1, hQ1, lz1, yz1, zz1⟩, st1⟩ := X0.interfaceBack hx (xi := (⟨cs9, "length", "()I"⟩ : MethodName)) (y := mn3) hown (mvT hZ (ow hw 166 rfl)) (mvT hZ (ow hw 167 rfl)) (mvT hZ (ow hw 168 rfl)) (mvT hZ (ow hw 169 rfl)) (mvT hZ (ow hw 170 rfl)) (mvT hZ (ow hw 171 rfl)) (mvT hZ (ow hw 172 rfl)) (mvT hZ (ow hw 173 rfl)) (by decide) (backOf (W := 2) (rmlen20 l Z a0 hw [] a2 u2 ku2 us cs h0 n0 Z0 O0 SC hcs E_a2 Fld_a2_coder Fld_a2_value V_u2) hZ (ow hw 174 rfl) (ow hw 33 rfl) (by decide) (by decide)) q1a q1b q1c (g := (mkF m 10 #[rv a1, rv a2, iv of, iv to, .unset] [(.ref a2), (.int to), (.int of)])) rfl (by rw [hml]; rfl) (Steps.refl _) (argsL := []) (rest := [(.int to), (.int of)]) (lenOf pd___I rfl) rfl (by show 2 * 0 + _ ≤ _; exact Nat.le_of_eq rfl) (hb hby d33_10) (fun _ _ => ⟨rfl, e0, (by decide : 0 + 0 ≤ _), (by decide : 0 + 0 ≤ _)⟩)
   dsimp only [Pt.U, Pt.locs, Pt.cells, Pt.slots] at X1 lz1 yz1 zz1 st1 hQ1
   subst lz1 yz1 zz1
   obtain ⟨rfl, N1q, eh1⟩ := hQ1
   have N1 := Fr.app N0 N1q
   refine ogo (mkF m 15 #[rv a1, rv a2, iv of, iv to, .unset] [(.int 20), (.int to), (.int of)]) (fun _ k => st1.trans k) ?_
   obtain ⟨T2, X2, e2, st2⟩ := getS2 X1 hx hZ hown (host := "") (Or.inl (ow hw 180 rfl)) Via.refl eh1 (SI.ext O0.2) (g := (mkF m 15 #[rv a1, rv a2, iv of, iv to, .unset] [(.int 20), (.int to), (.int of)])) rfl (hb hby d33_15)
   refine ogo (mkF m 18 #[rv a1, rv a2, iv of, iv to, .unset] [.null, (.int 20), (.int to), (.int of)]) (fun _ k => st2 _ k) ?_
   refine own_stat (W := 0) X2 hx hZ hown e2 (ow hw 182 rfl) (ow hw 183 rfl) (rmftn l Z a0 hw [] of to (20 : Int32) h0 n0 Z0 hp0 hp1 hp2) (ow hw 184 rfl) (ow hw 65 rfl) rfl (by rw [hml]; rfl) rfl (hb hby d33_18) (lenOf pd__IIILjava_util_function_BiFunction__I rfl) rfl (by decide) (fun T3 v3 Ll3 X3 hQ3 => ?_)
   obtain ⟨rfl, N3q, eh3⟩ := hQ3
   have N3 := Fr.app N1 N3q
   refine ogo (mkF m 29 #[rv a1, rv a2, iv of, iv to, iv (to - of)] [(.ref a1), (.ref a1)]) (fun _ k => XS.pop X3.here hx rfl (hb hby d33_21) rfl rfl (XS.iloadN X3.here hx rfl (hb hby d33_22) rfl (XS.iloadN X3.here hx rfl (hb hby d33_23) rfl (XS.isub X3.here hx rfl (hb hby d33_24) rfl (XS.istore X3.here hx rfl (hb hby d33_25) rfl (l' := #[rv a1, rv a2, iv of, iv to, iv (to - of)]) rfl (XS.aloadN X3.here hx rfl (hb hby d33_27) rfl rfl (XS.aloadN X3.here hx rfl (hb hby d33_28) rfl rfl k))))))) ?_
   refine own_getf X3 hx hZ hown (ow hw 79 rfl) Via.refl eh3 Fld_a1_count rfl rfl (hb hby d33_29) (fun T4 X4 e4 => ?_)
   refine ogo (mkF m 35 #[rv a1, rv a2, iv of, iv to, iv (to - of)] [(.int (nv + (to - of))), (.ref a1)]) (fun _ k => XS.iload X4.here hx rfl (hb hby d33_32) rfl (XS.iadd X4.here hx rfl (hb hby d33_34) rfl k)) ?_
   obtain ⟨cq5, qc5, qc5'⟩ := E_a1.cell
   obtain ⟨_, _, ⟨T5, Ll5, kz5, nz5⟩, -, X5, ⟨Lc5, hQ5, lz5, yz5, zz5⟩, st5⟩ := X4.privateBack hx (y := mn0) hown (mvT hZ (ow hw 81 rfl)) (mvT hZ (ow hw 82 rfl)) (own_selpV (y := mn0) (mvT hZ (ow hw 84 rfl)) (mvP hZ (ow hw 83 rfl)) (mvT hZ (ow hw 82 rfl)) (by decide)) (Cond.privateMethod_at (mvP hZ (ow hw 83 rfl) (args := #[]))) (mvT hZ (ow hw 85 rfl)) (by decide) (backOf (W := 0) (rmec23 l Z a0 hw [] a1 va kv vs (nv + (to - of)) h0 n0 Z0 Fld_a1_value Fld_a1_coder V_va hp7) hZ (ow hw 85 rfl) (ow hw 27 rfl) (by decide) (by decide)) (g := (mkF m 35 #[rv a1, rv a2, iv of, iv to, iv (to - of)] [(.int (nv + (to - of))), (.ref a1)])) rfl (by rw [hml]; rfl) (Steps.refl _) (a := a1) (by rw [e4]; exact qc5) qc5' (argsL := [(.int (nv + (to - of)))]) (rest := []) (lenOf pd__I_V rfl) rfl (by show 2 * 0 + _ ≤ _; exact Nat.le_of_eq rfl) (hb hby d33_35) (fun _ _ => ⟨rfl, e4, (by decide : 0 + 0 ≤ _), (by decide : 0 + 0 ≤ _)⟩)
   dsimp only [Pt.U, Pt.locs, Pt.cells, Pt.slots] at X5 lz5 yz5 zz5 st5 hQ5
   subst lz5 yz5 zz5
   obtain ⟨rfl, N5q, eh5⟩ := hQ5
   have N5 := Fr.app N3 N5q
   refine ogo (mkF m 39 #[rv a1, rv a2, iv of, iv to, iv (to - of)] [(.ref a2)]) (fun _ k => st5.trans (XS.aloadN X5.here hx rfl (hb hby d33_38) rfl rfl k)) ?_
   obtain ⟨T6, X6, e6, st6⟩ := instY X5 hx hZ hown (ow hw 185 rfl) eh5 (Ins.self E_a2) (g := (mkF m 39 #[rv a1, rv a2, iv of, iv to, iv (to - of)] [(.ref a2)])) rfl rfl (hb hby d33_39)
   refine ogo (mkF m 47 #[rv a1, rv a2, iv of, iv to, iv (to - of)] [(.ref a2), (.ref a1)]) (fun _ k => st6 _ (XS.ifNo X6.here hx rfl (hb hby d33_42) rfl ((if0 _ _).trans (feq (by decide : ¬ ((1 : Int32) = (0 : Int32)))).1) (XS.aloadN X6.here hx rfl (hb hby d33_45) rfl rfl (XS.aloadN X6.here hx rfl (hb hby d33_46) rfl rfl k)))) ?_
   obtain ⟨T7, X7, e7, st7⟩ := castY X6 hx hZ hown (ow hw 185 rfl) e6 (Ins.self E_a2) (g := (mkF m 47 #[rv a1, rv a2, iv of, iv to, iv (to - of)] [(.ref a2), (.ref a1)])) rfl rfl (hb hby d33_47)
   refine ogo (mkF m 52 #[rv a1, rv a2, iv of, iv to, iv (to - of)] [(.int to), (.int of), (.ref a2), (.ref a1)]) (fun _ k => st7 _ (XS.iloadN X7.here hx rfl (hb hby d33_50) rfl (XS.iloadN X7.here hx rfl (hb hby d33_51) rfl k))) ?_
   obtain ⟨cq8, qc8, qc8'⟩ := E_a1.cell
   obtain ⟨_, _, ⟨T8, Ll8, kz8, nz8⟩, -, X8, ⟨Lc8, hQ8, lz8, yz8, zz8⟩, st8⟩ := X7.privateBack hx (y := mn2) hown (mvT hZ (ow hw 186 rfl)) (mvT hZ (ow hw 187 rfl)) (own_selpV (y := mn2) (mvT hZ (ow hw 189 rfl)) (mvP hZ (ow hw 188 rfl)) (mvT hZ (ow hw 187 rfl)) (by decide)) (Cond.privateMethod_at (mvP hZ (ow hw 188 rfl) (args := #[]))) (mvT hZ (ow hw 190 rfl)) (by decide) (backOf (W := 0) (rmac l Z a0 hw [] a1 va kv vs nv a2 u2 ku2 us of to cs h0 n0 Z0 O0 SC hcs E_a1 g_a1 Fld_a1_value Fld_a1_coder Fld_a1_count V_va g_va E_a2 Fld_a2_coder Fld_a2_value V_u2 ne_u2_va hp0 hp1 hp2 hp3 hp4 hp5 hp6 hp7 hl) hZ (ow hw 190 rfl) (ow hw 27 rfl) (by decide) (by decide)) (g := (mkF m 52 #[rv a1, rv a2, iv of, iv to, iv (to - of)] [(.int to), (.int of), (.ref a2), (.ref a1)])) rfl (by rw [hml]; rfl) (Steps.refl _) (a := a1) (by rw [e7]; exact qc8) qc8' (argsL := [(.ref a2), (.int of), (.int to)]) (rest := []) (lenOf pd__Ljava_lang_String_II_V rfl) rfl (by show 2 * 0 + _ ≤ _; exact Nat.le_of_eq rfl) (hb hby d33_52) (fun _ _ => ⟨rfl, e7, (by decide : 0 + 0 ≤ _), (by decide : 0 + 0 ≤ _)⟩)
   dsimp only [Pt.U, Pt.locs, Pt.cells, Pt.slots] at X8 lz8 yz8 zz8 st8 hQ8
   subst lz8 yz8 zz8
   obtain ⟨rfl, N8q, K8, P8_0, P8_1, P8_2, P8_3⟩ := hQ8
   have N8 := Fr.app N5 N8q
   have Zs9 : n0 ≤ T8.heap.size := Nat.le_trans Z0 K8.1
   refine ogo (mkF m 66 #[rv a1, rv a2, iv of, iv to, iv (to - of)] [(.ref a1)]) (fun _ k => st8.trans (XS.goto X8.here hx rfl (pc0 := 55) (pc' := 65) rfl (hb hby d33_55) (by decide) (by decide) (XS.aloadN X8.here hx rfl (hb hby d33_65) rfl rfl k))) ?_
   have K10 := (Keep.refl h0 [a1, va]).trans K8 (allS (Or.inl (List.mem_of_getElem? (i := 0) rfl)) (allS (Or.inl (List.mem_of_getElem? (i := 1) rfl)) all0))
   exact own_endR X8 hx hr2 rfl rfl (hb hby d33_66) (by decide) (by decide) (by exact ⟨rfl, N8, K10, P8_0, P8_1, P8_2, P8_3⟩)
 · rw [hf] at SI
   refine ogo (mkF m 10 #[rv a1, rv a2, iv of, iv to, .unset] [(.ref a2), (.int to), (.int of)]) (fun _ k => XS.aloadN X0.here hx rfl (hb hby d33_0) rfl rfl (XS.ifnonnullYes X0.here hx rfl (pc0 := 1) (pc' := 7) rfl (hb hby d33_1) rfl (by decide) (by decide) (XS.iloadN X0.here hx rfl (hb hby d33_7) rfl (XS.iloadN X0.here hx rfl (hb hby d33_8) rfl (XS.aloadN X0.here hx rfl (hb hby d33_9) rfl rfl k))))) ?_
   obtain ⟨cq11, kq11, q11a, q11b, q11c⟩ := isOf hZ e0 E_a2
   obtain ⟨_, _, ⟨T11, Ll11, kz11, nz11⟩, -, X11, ⟨Lc11, hQ11, lz11, yz11, zz11⟩, st11⟩ := X0.interfaceBack hx (xi := (⟨cs9, "length", "()I"⟩ : MethodName)) (y := mn3) hown (mvT hZ (ow hw 166 rfl)) (mvT hZ (ow hw 167 rfl)) (mvT hZ (ow hw 168 rfl)) (mvT hZ (ow hw 169 rfl)) (mvT hZ (ow hw 170 rfl)) (mvT hZ (ow hw 171 rfl)) (mvT hZ (ow hw 172 rfl)) (mvT hZ (ow hw 173 rfl)) (by decide) (backOf (W := 2) (rmlen20 l Z a0 hw [] a2 u2 ku2 us cs h0 n0 Z0 O0 SC hcs E_a2 Fld_a2_coder Fld_a2_value V_u2) hZ (ow hw 174 rfl) (ow hw 33 rfl) (by decide) (by decide)) q11a q11b q11c (g := (mkF m 10 #[rv a1, rv a2, iv of, iv to, .unset] [(.ref a2), (.int to), (.int of)])) rfl (by rw [hml]; rfl) (Steps.refl _) (argsL := []) (rest := [(.int to), (.int of)]) (lenOf pd___I rfl) rfl (by show 2 * 0 + _ ≤ _; exact Nat.le_of_eq rfl) (hb hby d33_10) (fun _ _ => ⟨rfl, e0, (by decide : 0 + 0 ≤ _), (by decide : 0 + 0 ≤ _)⟩)
   dsimp only [Pt.U, Pt.locs, Pt.cells, Pt.slots] at X11 lz11 yz11 zz11 st11 hQ11
   subst lz11 yz11 zz11
   obtain ⟨rfl, N11q, eh11⟩ := hQ11
   have N11 := Fr.app N0 N11q
   refine ogo (mkF m 15 #[rv a1, rv a2, iv of, iv to, .unset] [(.int 20), (.int to), (.int of)]) (fun _ k => st11.trans k) ?_
   obtain ⟨T12, X12, e12, st12⟩ := getS2 X11 hx hZ hown (host := "") (Or.inl (ow hw 180 rfl)) Via.refl eh11 (SI.ext O0.2) (g := (mkF m 15 #[rv a1, rv a2, iv of, iv to, .unset] [(.int 20), (.int to), (.int of)])) rfl (hb hby d33_15)
   refine ogo (mkF m 18 #[rv a1, rv a2, iv of, iv to, .unset] [(.ref xf), (.int 20), (.int to), (.int of)]) (fun _ k => st12 _ k) ?_
   refine own_stat (W := 0) X12 hx hZ hown e12 (ow hw 182 rfl) (ow hw 183 rfl) (rmftr l Z a0 hw [] of to (20 : Int32) xf h0 n0 Z0 hp0 hp1 hp2) (ow hw 184 rfl) (ow hw 65 rfl) rfl (by rw [hml]; rfl) rfl (hb hby d33_18) (lenOf pd__IIILjava_util_function_BiFunction__I rfl) rfl (by decide) (fun T13 v13 Ll13 X13 hQ13 => ?_)
   obtain ⟨rfl, N13q, eh13⟩ := hQ13
   have N13 := Fr.app N11 N13q
   refine ogo (mkF m 29 #[rv a1, rv a2, iv of, iv to, iv (to - of)] [(.ref a1), (.ref a1)]) (fun _ k => XS.pop X13.here hx rfl (hb hby d33_21) rfl rfl (XS.iloadN X13.here hx rfl (hb hby d33_22) rfl (XS.iloadN X13.here hx rfl (hb hby d33_23) rfl (XS.isub X13.here hx rfl (hb hby d33_24) rfl (XS.istore X13.here hx rfl (hb hby d33_25) rfl (l' := #[rv a1, rv a2, iv of, iv to, iv (to - of)]) rfl (XS.aloadN X13.here hx rfl (hb hby d33_27) rfl rfl (XS.aloadN X13.here hx rfl (hb hby d33_28) rfl rfl k))))))) ?_
   refine own_getf X13 hx hZ hown (ow hw 79 rfl) Via.refl eh13 Fld_a1_count rfl rfl (hb hby d33_29) (fun T14 X14 e14 => ?_)
   refine ogo (mkF m 35 #[rv a1, rv a2, iv of, iv to, iv (to - of)] [(.int (nv + (to - of))), (.ref a1)]) (fun _ k => XS.iload X14.here hx rfl (hb hby d33_32) rfl (XS.iadd X14.here hx rfl (hb hby d33_34) rfl k)) ?_
   obtain ⟨cq15, qc15, qc15'⟩ := E_a1.cell
   obtain ⟨_, _, ⟨T15, Ll15, kz15, nz15⟩, -, X15, ⟨Lc15, hQ15, lz15, yz15, zz15⟩, st15⟩ := X14.privateBack hx (y := mn0) hown (mvT hZ (ow hw 81 rfl)) (mvT hZ (ow hw 82 rfl)) (own_selpV (y := mn0) (mvT hZ (ow hw 84 rfl)) (mvP hZ (ow hw 83 rfl)) (mvT hZ (ow hw 82 rfl)) (by decide)) (Cond.privateMethod_at (mvP hZ (ow hw 83 rfl) (args := #[]))) (mvT hZ (ow hw 85 rfl)) (by decide) (backOf (W := 0) (rmec23 l Z a0 hw [] a1 va kv vs (nv + (to - of)) h0 n0 Z0 Fld_a1_value Fld_a1_coder V_va hp7) hZ (ow hw 85 rfl) (ow hw 27 rfl) (by decide) (by decide)) (g := (mkF m 35 #[rv a1, rv a2, iv of, iv to, iv (to - of)] [(.int (nv + (to - of))), (.ref a1)])) rfl (by rw [hml]; rfl) (Steps.refl _) (a := a1) (by rw [e14]; exact qc15) qc15' (argsL := [(.int (nv + (to - of)))]) (rest := []) (lenOf pd__I_V rfl) rfl (by show 2 * 0 + _ ≤ _; exact Nat.le_of_eq rfl) (hb hby d33_35) (fun _ _ => ⟨rfl, e14, (by decide : 0 + 0 ≤ _), (by decide : 0 + 0 ≤ _)⟩)
   dsimp only [Pt.U, Pt.locs, Pt.cells, Pt.slots] at X15 lz15 yz15 zz15 st15 hQ15
   subst lz15 yz15 zz15
   obtain ⟨rfl, N15q, eh15⟩ := hQ15
   have N15 := Fr.app N13 N15q
   refine ogo (mkF m 39 #[rv a1, rv a2, iv of, iv to, iv (to - of)] [(.ref a2)]) (fun _ k => st15.trans (XS.aloadN X15.here hx rfl (hb hby d33_38) rfl rfl k)) ?_
   obtain ⟨T16, X16, e16, st16⟩ := instY X15 hx hZ hown (ow hw 185 rfl) eh15 (Ins.self E_a2) (g := (mkF m 39 #[rv a1, rv a2, iv of, iv to, iv (to - of)] [(.ref a2)])) rfl rfl (hb hby d33_39)
   refine ogo (mkF m 47 #[rv a1, rv a2, iv of, iv to, iv (to - of)] [(.ref a2), (.ref a1)]) (fun _ k => st16 _ (XS.ifNo X16.here hx rfl (hb hby d33_42) rfl ((if0 _ _).trans (feq (by decide : ¬ ((1 : Int32) = (0 : Int32)))).1) (XS.aloadN X16.here hx rfl (hb hby d33_45) rfl rfl (XS.aloadN X16.here hx rfl (hb hby d33_46) rfl rfl k)))) ?_
   obtain ⟨T17, X17, e17, st17⟩ := castY X16 hx hZ hown (ow hw 185 rfl) e16 (Ins.self E_a2) (g := (mkF m 47 #[rv a1, rv a2, iv of, iv to, iv (to - of)] [(.ref a2), (.ref a1)])) rfl rfl (hb hby d33_47)
   refine ogo (mkF m 52 #[rv a1, rv a2, iv of, iv to, iv (to - of)] [(.int to), (.int of), (.ref a2), (.ref a1)]) (fun _ k => st17 _ (XS.iloadN X17.here hx rfl (hb hby d33_50) rfl (XS.iloadN X17.here hx rfl (hb hby d33_51) rfl k))) ?_
   obtain ⟨cq18, qc18, qc18'⟩ := E_a1.cell
   obtain ⟨_, _, ⟨T18, Ll18, kz18, nz18⟩, -, X18, ⟨Lc18, hQ18, lz18, yz18, zz18⟩, st18⟩ := X17.privateBack hx (y := mn2) hown (mvT hZ (ow hw 186 rfl)) (mvT hZ (ow hw 187 rfl)) (own_selpV (y := mn2) (mvT hZ (ow hw 189 rfl)) (mvP hZ (ow hw 188 rfl)) (mvT hZ (ow hw 187 rfl)) (by decide)) (Cond.privateMethod_at (mvP hZ (ow hw 188 rfl) (args := #[]))) (mvT hZ (ow hw 190 rfl)) (by decide) (backOf (W := 0) (rmac l Z a0 hw [] a1 va kv vs nv a2 u2 ku2 us of to cs h0 n0 Z0 O0 SC hcs E_a1 g_a1 Fld_a1_value Fld_a1_coder Fld_a1_count V_va g_va E_a2 Fld_a2_coder Fld_a2_value V_u2 ne_u2_va hp0 hp1 hp2 hp3 hp4 hp5 hp6 hp7 hl) hZ (ow hw 190 rfl) (ow hw 27 rfl) (by decide) (by decide)) (g := (mkF m 52 #[rv a1, rv a2, iv of, iv to, iv (to - of)] [(.int to), (.int of), (.ref a2), (.ref a1)])) rfl (by rw [hml]; rfl) (Steps.refl _) (a := a1) (by rw [e17]; exact qc18) qc18' (argsL := [(.ref a2), (.int of), (.int to)]) (rest := []) (lenOf pd__Ljava_lang_String_II_V rfl) rfl (by show 2 * 0 + _ ≤ _; exact Nat.le_of_eq rfl) (hb hby d33_52) (fun _ _ => ⟨rfl, e17, (by decide : 0 + 0 ≤ _), (by decide : 0 + 0 ≤ _)⟩)
   dsimp only [Pt.U, Pt.locs, Pt.cells, Pt.slots] at X18 lz18 yz18 zz18 st18 hQ18
   subst lz18 yz18 zz18
   obtain ⟨rfl, N18q, K18, P18_0, P18_1, P18_2, P18_3⟩ := hQ18
   have N18 := Fr.app N15 N18q
   have Zs19 : n0 ≤ T18.heap.size := Nat.le_trans Z0 K18.1
   refine ogo (mkF m 66 #[rv a1, rv a2, iv of, iv to, iv (to - of)] [(.ref a1)]) (fun _ k => st18.trans (XS.goto X18.here hx rfl (pc0 := 55) (pc' := 65) rfl (hb hby d33_55) (by decide) (by decide) (XS.aloadN X18.here hx rfl (hb hby d33_65) rfl rfl k))) ?_
   have K20 := (Keep.refl h0 [a1, va]).trans K18 (allS (Or.inl (List.mem_of_getElem? (i := 0) rfl)) (allS (Or.inl (List.mem_of_getElem? (i := 1) rfl)) all0))
   exact own_endR X18 hx hr2 rfl rfl (hb hby d33_66) (by decide) (by decide) (by exact ⟨rfl, N18, K20, P18_0, P18_1, P18_2, P18_3⟩)
theorem d32_0 : dk cd32 0 (.aload_n 0) 1 := by decide +kernel
theorem d32_1 : dk cd32 1 (.aload_n 1) 1 := by decide +kernel
theorem d32_2 : dk cd32 2 (.iload_n 2) 1 := by decide +kernel
theorem d32_3 : dk cd32 3 (.iload_n 3) 1 := by decide +kernel
theorem d32_4 : dk cd32 4 (.invokespecial 38) 3 := by decide +kernel
theorem d32_7 : dk cd32 7 .pop 1 := by decide +kernel
theorem d32_8 : dk cd32 8 (.aload_n 0) 1 := by decide +kernel
theorem d32_9 : dk cd32 9 .areturn 1 := by decide +kernel
theorem pd__Ljava_lang_CharSequence_II_Ljava_lang_AbstractStringBuilder_ : parseMethodDescriptor "(Ljava/lang/CharSequence;II)Ljava/lang/AbstractStringBuilder;" = some ⟨[(.object cs9), .int, .int], some (.object cs0)⟩ := by decide +kernel
theorem pn_32 : plainName cs2 = true := by first | (simp [plainName, overriddenIn]; done) | decide +kernel
theorem ef_rmae (m : MethodId) (x0 : Addr) (x1 : Addr) (x2 : Int32) (x3 : Int32) : entryFrame m #[(.ref x0), (.ref x1), (.int x2), (.int x3)] 4 = mkF m 0 #[rv x0, rv x1, iv x2, iv x3] [] := by first | (simp [entryFrame, mkF, argsToLocals, Value.category]; done) | rfl
def Qrmae (Z : State) (a1 va : Addr) (kv : ClassId) (vs : List Value) (nv : Int32) (a2 u2 : Addr) (ku2 : ClassId) (us : List Value) (of to cs : Int32) (gv : Value) (h0 : Heap) (n0 : Nat) (v : Option Value) (h : Heap) (L : List Loc) : Prop := v = some (.ref a1) ∧ Fr n0 L ∧ Keep h0 h [a1, va] ∧ (Fld Z h a1 cs0 "value" "[B" (.ref va)) ∧ (Fld Z h a1 cs0 "coder" "B" (.int 0)) ∧ (Fld Z h a1 cs0 "count" "I" (.int (nv + (to - of)))) ∧ (Arv Z h va kv .byte (23 : Int32) (vs ++ own_sl of to us) (.int 0))
theorem rmae (l : Launch) (Z : State) (a0 : Array Value) (hw : HW a0 Z) (ws : List Jvm.Cond) (a1 va : Addr) (kv : ClassId) (vs : List Value) (nv : Int32) (a2 u2 : Addr) (ku2 : ClassId) (us : List Value) (of to cs : Int32) (gv : Value) (h0 : Heap) (n0 : Nat) (Z0 : n0 ≤ h0.size) (O0 : Old Z n0 h0) (SC : Sta Z Z.heap cs1 "COMPACT_STRINGS" "Z" (.int cs)) (hcs : ¬ (cs = (0 : Int32))) (E_a1 : Exa Z h0 a1 cs2) (g_a1 : n0 ≤ a1) (Fld_a1_value : Fld Z h0 a1 cs0 "value" "[B" (.ref va)) (Fld_a1_coder : Fld Z h0 a1 cs0 "coder" "B" (.int 0)) (Fld_a1_count : Fld Z h0 a1 cs0 "count" "I" (.int nv)) (V_va : Arv Z h0 va kv .byte (23 : Int32) vs (.int 0)) (g_va : n0 ≤ va) (E_a2 : Exa Z h0 a2 cs1) (Fld_a2_coder : Fld Z h0 a2 cs1 "coder" "B" (.int 0)) (Fld_a2_value : Fld Z h0 a2 cs1 "value" "[B" (.ref u2)) (V_u2 : Arv Z h0 u2 ku2 .byte (20 : Int32) us (.int 0)) (ne_u2_va : u2 ≠ va) (hp0 : ¬ (of < (0 : Int32))) (hp1 : ¬ (to < of)) (hp2 : ¬ ((20 : Int32) < to)) (hp3 : ¬ (nv < (0 : Int32))) (hp4 : ¬ ((to - of) < (0 : Int32))) (hp5 : of.toNatClampNeg + (to - of).toNatClampNeg ≤ (20 : Int32).toNatClampNeg) (hp6 : nv.toNatClampNeg + (to - of).toNatClampNeg ≤ (23 : Int32).toNatClampNeg) (hp7 : ¬ ((0 : Int32) < ((nv + (to - of)) - (23 : Int32)))) (hl : vs.length = nv.toNatClampNeg) (SI : Sta Z Z.heap cs4 "IOOBE_FORMATTER" "Ljava/util/function/BiFunction;" gv) (hgv : gv = .null ∨ ∃ x : Addr, gv = .ref x) :
    own_MF l (⟨cs2, "append", "(Ljava/lang/CharSequence;II)Ljava/lang/StringBuilder;"⟩ : MethodName) cd32 4 (some (.object cs2)) ws (rom 3 0 0 75) #[(.ref a1), (.ref a2), (.int of), (.int to)] Z h0 (Qrmae Z a1 va kv vs nv a2 u2 ku2 us of to cs gv h0 n0) := by
 refine own_body n0 (plainFor_of_name pn_32) (fun m => ef_rmae m a1 a2 of to) (fun p e s m below meth c s₁ hx hby hml hr2 hZ hown hnm X0 e0 N0 => ?_)
 refine ogo (mkF m 4 #[rv a1, rv a2, iv of, iv to] [(.int to), (.int of), (.ref a2), (.ref a1)]) (fun _ k => XS.aloadN X0.here hx rfl (hb hby d32_0) rfl rfl (XS.aloadN X0.here hx rfl (hb hby d32_1) rfl rfl (XS.iloadN X0.here hx rfl (hb hby d32_2) rfl (XS.iloadN X0.here hx rfl (hb hby d32_3) rfl k)))) ?_
 refine own_super (W := 0) X0 hx hZ hown e0 (ow hw 162 rfl) (own_same (y := (⟨cs0, "append", "(Ljava/lang/CharSequence;II)Ljava/lang/AbstractStringBuilder;"⟩ : MethodName)) (z := mn0) (ow hw 84 rfl) rfl (ow hw 163 rfl) (by decide)) (ow hw 163 rfl) (ow hw 76 rfl) (rmad l Z a0 hw [] a1 va kv vs nv a2 u2 ku2 us of to cs gv h0 n0 Z0 O0 SC hcs E_a1 g_a1 Fld_a1_value Fld_a1_coder Fld_a1_count V_va g_va E_a2 Fld_a2_coder Fld_a2_value V_u2 ne_u2_va hp0 hp1 hp2 hp3 hp4 hp5 hp6 hp7 hl SI hgv) (ow hw 165 rfl) (ow hw 27 rfl) (Ins.self E_a1) rfl (by rw [hml]; rfl) rfl (hb hby d32_4) (lenOf pd__Ljava_lang_CharSequence_II_Ljava_lang_AbstractStringBuilder_ rfl) rfl (by decide) (by decide) (fun T1 v1 Ll1 X1 hQ1 => ?_)
 obtain ⟨rfl, N1q, K1, P1_0, P1_1, P1_2, P1_3⟩ := hQ1
 have N1 := Fr.app N0 N1q
 have Zs2 : n0 ≤ T1.heap.size := Nat.le_trans Z0 K1.1
 refine ogo (mkF m 9 #[rv a1, rv a2, iv of, iv to] [(.ref a1)]) (fun _ k => XS.pop X1.here hx rfl (hb hby d32_7) rfl rfl (XS.aloadN X1.here hx rfl (hb hby d32_8) rfl rfl k)) ?_
 have K3 := (Keep.refl h0 [a1, va]).trans K1 (allS (Or.inl (List.mem_of_getElem? (i := 0) rfl)) (allS (Or.inl (List.mem_of_getElem? (i := 1) rfl)) all0))
 exact own_endR X1 hx hr2 rfl rfl (hb hby d32_9) (by decide) (by decide) (by exact ⟨rfl, N1, K3, P1_0, P1_1, P1_2, P1_3⟩)
theorem d3_0 : dk cd3 0 (.new 39) 3 := by decide +kernel
theorem d3_3 : dk cd3 3 .dup 1 := by decide +kernel
theorem d3_4 : dk cd3 4 (.invokespecial 91) 3 := by decide +kernel
theorem d3_7 : dk cd3 7 (.astore_n 1) 1 := by decide +kernel
theorem d3_8 : dk cd3 8 (.iconst 0) 1 := by decide +kernel
theorem d3_9 : dk cd3 9 (.istore_n 2) 1 := by decide +kernel
theorem d3_10 : dk cd3 10 (.iconst 0) 1 := by decide +kernel
theorem d3_11 : dk cd3 11 (.istore_n 3) 1 := by decide +kernel
theorem d3_12 : dk cd3 12 (.aload_n 0) 1 := by decide +kernel
theorem d3_13 : dk cd3 13 (.astore 4) 2 := by decide +kernel
theorem d3_15 : dk cd3 15 (.aload 4) 2 := by decide +kernel
theorem d3_17 : dk cd3 17 .arraylength 1 := by decide +kernel
theorem d3_18 : dk cd3 18 (.istore 5) 2 := by decide +kernel
theorem d3_20 : dk cd3 20 (.iconst 0) 1 := by decide +kernel
theorem d3_21 : dk cd3 21 (.istore 6) 2 := by decide +kernel
theorem d3_23 : dk cd3 23 (.iload 6) 2 := by decide +kernel
theorem d3_25 : dk cd3 25 (.iload 5) 2 := by decide +kernel
theorem d3_27 : dk cd3 27 (.if_icmp .ge 66) 3 := by decide +kernel
theorem d3_30 : dk cd3 30 (.aload 4) 2 := by decide +kernel
theorem d3_32 : dk cd3 32 (.iload 6) 2 := by decide +kernel
theorem d3_34 : dk cd3 34 .baload 1 := by decide +kernel
theorem d3_35 : dk cd3 35 (.istore 7) 2 := by decide +kernel
theorem d3_37 : dk cd3 37 (.iload_n 2) 1 := by decide +kernel
theorem d3_38 : dk cd3 38 (.bipush 8) 2 := by decide +kernel
theorem d3_40 : dk cd3 40 .ishl 1 := by decide +kernel
theorem d3_41 : dk cd3 41 (.iload 7) 2 := by decide +kernel
theorem d3_43 : dk cd3 43 (.sipush 255) 3 := by decide +kernel
theorem d3_46 : dk cd3 46 .iand 1 := by decide +kernel
theorem d3_47 : dk cd3 47 .ior 1 := by decide +kernel
theorem d3_48 : dk cd3 48 (.istore_n 2) 1 := by decide +kernel
theorem d3_49 : dk cd3 49 (.iinc 3 8) 3 := by decide +kernel
theorem d3_52 : dk cd3 52 (.iload_n 3) 1 := by decide +kernel
theorem d3_53 : dk cd3 53 (.iconst 5) 1 := by decide +kernel
theorem d3_54 : dk cd3 54 (.if_icmp .lt 25) 3 := by decide +kernel
theorem d3_57 : dk cd3 57 (.iinc 3 (-5)) 3 := by decide +kernel
theorem d3_60 : dk cd3 60 (.aload_n 1) 1 := by decide +kernel
theorem d3_61 : dk cd3 61 (.ldc 65) 2 := by decide +kernel
theorem d3_63 : dk cd3 63 (.iload_n 2) 1 := by decide +kernel
theorem d3_64 : dk cd3 64 (.iload_n 3) 1 := by decide +kernel
theorem d3_65 : dk cd3 65 .iushr 1 := by decide +kernel
theorem d3_66 : dk cd3 66 (.bipush 31) 2 := by decide +kernel
theorem d3_68 : dk cd3 68 .iand 1 := by decide +kernel
theorem d3_69 : dk cd3 69 (.invokevirtual 61) 3 := by decide +kernel
theorem d3_72 : dk cd3 72 (.invokevirtual 44) 3 := by decide +kernel
theorem d3_75 : dk cd3 75 .pop 1 := by decide +kernel
theorem d3_76 : dk cd3 76 (.goto (-24)) 3 := by decide +kernel
theorem d3_79 : dk cd3 79 (.iload_n 2) 1 := by decide +kernel
theorem d3_80 : dk cd3 80 (.iconst 1) 1 := by decide +kernel
theorem d3_81 : dk cd3 81 (.iload_n 3) 1 := by decide +kernel
theorem d3_82 : dk cd3 82 .ishl 1 := by decide +kernel
theorem d3_83 : dk cd3 83 (.iconst 1) 1 := by decide +kernel
theorem d3_84 : dk cd3 84 .isub 1 := by decide +kernel
theorem d3_85 : dk cd3 85 .iand 1 := by decide +kernel
theorem d3_86 : dk cd3 86 (.istore_n 2) 1 := by decide +kernel
theorem d3_87 : dk cd3 87 (.iinc 6 1) 3 := by decide +kernel
theorem d3_90 : dk cd3 90 (.goto (-67)) 3 := by decide +kernel
theorem d3_93 : dk cd3 93 (.iload_n 3) 1 := by decide +kernel
theorem d3_94 : dk cd3 94 (.ifCond .le 21) 3 := by decide +kernel
theorem d3_97 : dk cd3 97 (.aload_n 1) 1 := by decide +kernel
theorem d3_98 : dk cd3 98 (.ldc 65) 2 := by decide +kernel
theorem d3_100 : dk cd3 100 (.iload_n 2) 1 := by decide +kernel
theorem d3_101 : dk cd3 101 (.iconst 5) 1 := by decide +kernel
theorem d3_102 : dk cd3 102 (.iload_n 3) 1 := by decide +kernel
theorem d3_103 : dk cd3 103 .isub 1 := by decide +kernel
theorem d3_104 : dk cd3 104 .ishl 1 := by decide +kernel
theorem d3_105 : dk cd3 105 (.bipush 31) 2 := by decide +kernel
theorem d3_107 : dk cd3 107 .iand 1 := by decide +kernel
theorem d3_108 : dk cd3 108 (.invokevirtual 61) 3 := by decide +kernel
theorem d3_111 : dk cd3 111 (.invokevirtual 44) 3 := by decide +kernel
theorem d3_114 : dk cd3 114 .pop 1 := by decide +kernel
theorem d3_115 : dk cd3 115 (.aload_n 1) 1 := by decide +kernel
theorem d3_116 : dk cd3 116 (.invokevirtual 51) 3 := by decide +kernel
theorem d3_119 : dk cd3 119 .areturn 1 := by decide +kernel
theorem pd___V : parseMethodDescriptor "()V" = some ⟨[], none⟩ := by decide +kernel
theorem pd__I_C : parseMethodDescriptor "(I)C" = some ⟨[.int], some .char⟩ := by decide +kernel
theorem pd__C_Ljava_lang_StringBuilder_ : parseMethodDescriptor "(C)Ljava/lang/StringBuilder;" = some ⟨[.char], some (.object cs2)⟩ := by decide +kernel
theorem pd___Ljava_lang_String_ : parseMethodDescriptor "()Ljava/lang/String;" = some ⟨[], some (.object cs1)⟩ := by decide +kernel
theorem pn_3 : plainName cs3 = true := by first | (simp [plainName, overriddenIn]; done) | decide +kernel
theorem ef_rmb32 (m : MethodId) (x0 : Addr) : entryFrame m #[(.ref x0)] 8 = mkF m 0 #[rv x0, .unset, .unset, .unset, .unset, .unset, .unset, .unset] [] := by first | (simp [entryFrame, mkF, argsToLocals, Value.category]; done) | rfl
def Qrmb32 (Z : State) (a1 : Addr) (k1 : ClassId) (x0 x1 x2 x3 x4 x5 x6 x7 x8 x9 x10 x11 cs : Int32) (fv : Value) (h0 : Heap) (n0 : Nat) (v : Option Value) (h : Heap) (L : List Loc) (vm : Vm) : Prop := ∃ (a : Addr) (b : Addr) (kb : ClassId) (z0 : Int32) (z1 : Int32) (z2 : Int32) (z3 : Int32) (z4 : Int32) (z5 : Int32) (z6 : Int32) (z7 : Int32) (z8 : Int32) (z9 : Int32) (z10 : Int32) (z11 : Int32) (z12 : Int32) (z13 : Int32) (z14 : Int32) (z15 : Int32) (z16 : Int32) (z17 : Int32) (z18 : Int32) (z19 : Int32) (la : Addr) (lb : Addr) (lk : ClassId), v = some (.ref a) ∧ Fr n0 L ∧ Keep h0 h [] ∧ (h0.size ≤ a) ∧ (h0.size ≤ b) ∧ (Exa Z h a cs1) ∧ (Fld Z h a cs1 "coder" "B" (.int 0)) ∧ (Fld Z h a cs1 "value" "[B" (.ref b)) ∧ (Arv Z h b kb .byte (20 : Int32) [(.int z0), (.int z1), (.int z2), (.int z3), (.int z4), (.int z5), (.int z6), (.int z7), (.int z8), (.int z9), (.int z10), (.int z11), (.int z12), (.int z13), (.int z14), (.int z15), (.int z16), (.int z17), (.int z18), (.int z19)] (.int 0)) ∧ (own_enc x0 x1 x2 x3 x4 x5 x6 x7 x8 x9 x10 x11 z0 z1 z2 z3 z4 z5 z6 z7 z8 z9 z10 z11 z12 z13 z14 z15 z16 z17 z18 z19) ∧ (Exa Z h la cs1) ∧ (Fld Z h la cs1 "coder" "B" (.int 0)) ∧ (Fld Z h la cs1 "value" "[B" (.ref lb)) ∧ (Arv Z h lb lk .byte (32 : Int32) [(.int 65), (.int 66), (.int 67), (.int 68), (.int 69), (.int 70), (.int 71), (.int 72), (.int 73), (.int 74), (.int 75), (.int 76), (.int 77), (.int 78), (.int 79), (.int 80), (.int 81), (.int 82), (.int 83), (.int 84), (.int 85), (.int 86), (.int 87), (.int 88), (.int 89), (.int 90), (.int 50), (.int 51), (.int 52), (.int 53), (.int 54), (.int 55)] (.int 0)) ∧ (Lit (Z.setVm vm) own_LO own_LI la)
section
variable {p : Program} {l : Launch} {e : Env} {R : Room} {s : State} {m : MethodId} {args : Array Value} {below : List Frame} {meth : Jvm.Method} {c : Jvm.ClassFile.Code} {T : State} {locs : List Loc} {cells slots : Nat} {t : State}
theorem sg_rmb32_0 (X : Stand p l e R s m args below meth c T locs cells slots) (hx : p.tables.exec = Jvm.exec) (hby : c.code = cd3) {v2 v3 v5 v6 v7 : Int32} {v0 v1 v4 : Addr} (u0 : ¬ ((v3 + (8 : Int32)) < (5 : Int32))) (k : Steps p.tables e below (T.setTop (mkF m 61 #[rv v0, rv v1, iv v2, iv ((v3 + (8 : Int32)) + (-5 : Int32)), rv v4, iv v5, iv v6, iv v7] [(.ref v1)])) t) : Steps p.tables e below (T.setTop (mkF m 49 #[rv v0, rv v1, iv v2, iv v3, rv v4, iv v5, iv v6, iv v7] [])) t := XS.iinc X.here hx rfl (hb hby d3_49) rfl (l' := #[rv v0, rv v1, iv v2, iv (v3 + (8 : Int32)), rv v4, iv v5, iv v6, iv v7]) rfl (XS.iloadN X.here hx rfl (hb hby d3_52) rfl (XS.iconst X.here hx rfl (hb hby d3_53) (XS.icmpNo X.here hx rfl (hb hby d3_54) rfl (flt u0).1 (XS.iinc X.here hx rfl (hb hby d3_57) rfl (l' := #[rv v0, rv v1, iv v2, iv ((v3 + (8 : Int32)) + (-5 : Int32)), rv v4, iv v5, iv v6, iv v7]) rfl (XS.aloadN X.here hx rfl (hb hby d3_60) rfl rfl k)))))
theorem sg_rmb32_1 (X : Stand p l e R s m args below meth c T locs cells slots) (hx : p.tables.exec = Jvm.exec) (hby : c.code = cd3) {v2 v3 v5 v6 v7 : Int32} {v0 v1 v4 v8 v9 : Addr} (k : Steps p.tables e below (T.setTop (mkF m 69 #[rv v0, rv v1, iv v2, iv v3, rv v4, iv v5, iv v6, iv v7] [(.int (((v2.toUInt32 >>> (v3 &&& 31).toUInt32).toInt32) &&& (31 : Int32))), (.ref v8), (.ref v9)])) t) : Steps p.tables e below (T.setTop (mkF m 63 #[rv v0, rv v1, iv v2, iv v3, rv v4, iv v5, iv v6, iv v7] [(.ref v8), (.ref v9)])) t := XS.iloadN X.here hx rfl (hb hby d3_63) rfl (XS.iloadN X.here hx rfl (hb hby d3_64) rfl (XS.iushr X.here hx rfl (hb hby d3_65) rfl (XS.bipush X.here hx rfl (hb hby d3_66) (XS.iand X.here hx rfl (hb hby d3_68) rfl k))))
theorem sg_rmb32_2 (X : Stand p l e R s m args below meth c T locs cells slots) (hx : p.tables.exec = Jvm.exec) (hby : c.code = cd3) {v2 v3 v5 v6 v7 : Int32} {v0 v1 v4 v8 : Addr} (u0 : v3 < (5 : Int32)) (k : Steps p.tables e below (T.setTop (mkF m 87 #[rv v0, rv v1, iv (v2 &&& (((1 : Int32) <<< (v3 &&& 31)) - (1 : Int32))), iv v3, rv v4, iv v5, iv v6, iv v7] [])) t) : Steps p.tables e below (T.setTop (mkF m 75 #[rv v0, rv v1, iv v2, iv v3, rv v4, iv v5, iv v6, iv v7] [(.ref v8)])) t := XS.pop X.here hx rfl (hb hby d3_75) rfl rfl (XS.goto X.here hx rfl (pc0 := 76) (pc' := 52) rfl (hb hby d3_76) (by decide) (by decide) (XS.iloadN X.here hx rfl (hb hby d3_52) rfl (XS.iconst X.here hx rfl (hb hby d3_53) (XS.icmpYes X.here hx rfl (pc0 := 54) (pc' := 79) rfl (hb hby d3_54) rfl (tlt u0).1 (by decide) (by decide) (XS.iloadN X.here hx rfl (hb hby d3_79) rfl (XS.iconst X.here hx rfl (hb hby d3_80) (XS.iloadN X.here hx rfl (hb hby d3_81) rfl (XS.ishl X.here hx rfl (hb hby d3_82) rfl (XS.iconst X.here hx rfl (hb hby d3_83) (XS.isub X.here hx rfl (hb hby d3_84) rfl (XS.iand X.here hx rfl (hb hby d3_85) rfl (XS.istoreN X.here hx rfl (hb hby d3_86) rfl (l' := #[rv v0, rv v1, iv (v2 &&& (((1 : Int32) <<< (v3 &&& 31)) - (1 : Int32))), iv v3, rv v4, iv v5, iv v6, iv v7]) rfl k))))))))))))
theorem sg_rmb32_3 (X : Stand p l e R s m args below meth c T locs cells slots) (hx : p.tables.exec = Jvm.exec) (hby : c.code = cd3) {v2 v3 v5 v6 v7 : Int32} {v0 v1 v4 : Addr} (u0 : (v6 + (1 : Int32)) < v5) (k : Steps p.tables e below (T.setTop (mkF m 34 #[rv v0, rv v1, iv v2, iv v3, rv v4, iv v5, iv (v6 + (1 : Int32)), iv v7] [(.int (v6 + (1 : Int32))), (.ref v4)])) t) : Steps p.tables e below (T.setTop (mkF m 87 #[rv v0, rv v1, iv v2, iv v3, rv v4, iv v5, iv v6, iv v7] [])) t := XS.iinc X.here hx rfl (hb hby d3_87) rfl (l' := #[rv v0, rv v1, iv v2, iv v3, rv v4, iv v5, iv (v6 + (1 : Int32)), iv v7]) rfl (XS.goto X.here hx rfl (pc0 := 90) (pc' := 23) rfl (hb hby d3_90) (by decide) (by decide) (XS.iload X.here hx rfl (hb hby d3_23) rfl (XS.iload X.here hx rfl (hb hby d3_25) rfl (XS.icmpNo X.here hx rfl (hb hby d3_27) rfl (tlt u0).2.1 (XS.aload X.here hx rfl (hb hby d3_30) rfl rfl (XS.iload X.here hx rfl (hb hby d3_32) rfl k))))))
theorem sg_rmb32_4 (X : Stand p l e R s m args below meth c T locs cells slots) (hx : p.tables.exec = Jvm.exec) (hby : c.code = cd3) {v2 v3 v5 v6 v7 v8 : Int32} {v0 v1 v4 : Addr} (k : Steps p.tables e below (T.setTop (mkF m 49 #[rv v0, rv v1, iv ((v2 <<< ((8 : Int32) &&& 31)) ||| (v8 &&& (255 : Int32))), iv v3, rv v4, iv v5, iv v6, iv v8] [])) t) : Steps p.tables e below (T.setTop (mkF m 35 #[rv v0, rv v1, iv v2, iv v3, rv v4, iv v5, iv v6, iv v7] [(.int v8)])) t := XS.istore X.here hx rfl (hb hby d3_35) rfl (l' := #[rv v0, rv v1, iv v2, iv v3, rv v4, iv v5, iv v6, iv v8]) rfl (XS.iloadN X.here hx rfl (hb hby d3_37) rfl (XS.bipush X.here hx rfl (hb hby d3_38) (XS.ishl X.here hx rfl (hb hby d3_40) rfl (XS.iload X.here hx rfl (hb hby d3_41) rfl (XS.sipush X.here hx rfl (hb hby d3_43) (XS.iand X.here hx rfl (hb hby d3_46) rfl (XS.ior X.here hx rfl (hb hby d3_47) rfl (XS.istoreN X.here hx rfl (hb hby d3_48) rfl (l' := #[rv v0, rv v1, iv ((v2 <<< ((8 : Int32) &&& 31)) ||| (v8 &&& (255 : Int32))), iv v3, rv v4, iv v5, iv v6, iv v8]) rfl k))))))))
theorem sg_rmb32_5 (X : Stand p l e R s m args below meth c T locs cells slots) (hx : p.tables.exec = Jvm.exec) (hby : c.code = cd3) {v2 v3 v5 v6 v7 : Int32} {v0 v1 v4 v8 : Addr} (u0 : ¬ (v3 < (5 : Int32))) (k : Steps p.tables e below (T.setTop (mkF m 61 #[rv v0, rv v1, iv v2, iv (v3 + (-5 : Int32)), rv v4, iv v5, iv v6, iv v7] [(.ref v1)])) t) : Steps p.tables e below (T.setTop (mkF m 75 #[rv v0, rv v1, iv v2, iv v3, rv v4, iv v5, iv v6, iv v7] [(.ref v8)])) t := XS.pop X.here hx rfl (hb hby d3_75) rfl rfl (XS.goto X.here hx rfl (pc0 := 76) (pc' := 52) rfl (hb hby d3_76) (by decide) (by decide) (XS.iloadN X.here hx rfl (hb hby d3_52) rfl (XS.iconst X.here hx rfl (hb hby d3_53) (XS.icmpNo X.here hx rfl (hb hby d3_54) rfl (flt u0).1 (XS.iinc X.here hx rfl (hb hby d3_57) rfl (l' := #[rv v0, rv v1, iv v2, iv (v3 + (-5 : Int32)), rv v4, iv v5, iv v6, iv v7]) rfl (XS.aloadN X.here hx rfl (hb hby d3_60) rfl rfl k))))))
end
theorem rmb32 (l : Launch) (Z : State) (a0 : Array Value) (hw : HW a0 Z) (ws : List Jvm.Cond) (a1 : Addr) (k1 : ClassId) (x0 x1 x2 x3 x4 x5 x6 x7 x8 x9 x10 x11 cs : Int32) (fv : Value) (h0 : Heap) (n0 : Nat) (Z0 : n0 ≤ h0.size) (O0 : Old Z n0 h0) (SC : Sta Z Z.heap cs1 "COMPACT_STRINGS" "Z" (.int cs)) (hcs : ¬ (cs = (0 : Int32))) (SF : Sta Z Z.heap cs4 "SIOOBE_FORMATTER" "Ljava/util/function/BiFunction;" fv) (hfv : fv = .null ∨ ∃ x : Addr, fv = .ref x) (V_a1 : Arv Z h0 a1 k1 .byte (12 : Int32) [(.int x0), (.int x1), (.int x2), (.int x3), (.int x4), (.int x5), (.int x6), (.int x7), (.int x8), (.int x9), (.int x10), (.int x11)] (.int 0)) :
    MetFree l (⟨cs3, "base32", "([B)Ljava/lang/String;"⟩ : MethodName) (head1 (Jvm.Cond.code (⟨cs3, "base32", "([B)Ljava/lang/String;"⟩ : MethodName) cd3 8 (some (.object cs1)) :: ws) (rom 6 7 210 113)) (fun a U => a = #[(.ref a1)] ∧ Z.Warmed39 U.vm ∧ U.heap = h0 ∧ CHv Z own_EL U.vm h0) (fun _ _ _ _ _ => True) (fun _ U o U' => ∃ v L, o = .returned v ∧ Qrmb32 Z a1 k1 x0 x1 x2 x3 x4 x5 x6 x7 x8 x9 x10 x11 cs fv h0 n0 v U'.heap L U'.vm ∧ ReturnedEndW U o U' L (rom 6 7 210 113).cells (rom 6 7 210 113).slots) := by
 refine MetFree.of_bodySF (plainFor_of_name pn_3) hisR ?_
 intro p e s m args below meth c s₁ Bd hml0 hP hK
 obtain ⟨rfl, hZ, hh, hCH⟩ := hP
 have hx := Bd.exec
 have hby := Bd.bytes
 have hml : c.maxLocals = 8 := hml0
 have hown : s.vm.findClass cs3 = some m.cls := findClass_of_methodNamed Bd.named
 have hnm := (name_of_methodNamed Bd.named Bd.method).1
 have X0 : Stand p l e (rom 6 7 210 113) s m #[(.ref a1)] below meth c s₁ [] 0 0 := Stand.of_body Bd
 have e0 : s₁.heap = h0 := by rw [← hh, Bd.state]; rfl
 have N0 := Fr.nil n0
 refine own_go (b := (s₁.setTop (mkF m 0 #[rv a1, .unset, .unset, .unset, .unset, .unset, .unset, .unset] []))) (fun _ k => castTop (ef_rmb32 m a1) k) ?_
 obtain ⟨T1, h1, X1, e1, E1, A1, D1, Un1, st1⟩ := newO X0 hx hZ hown (ow hw 17 rfl) (ow hw 18 rfl) (ow hw 19 rfl) e0 (g := (mkF m 0 #[rv a1, .unset, .unset, .unset, .unset, .unset, .unset, .unset] [])) rfl (hb hby d3_0) (by decide) (by decide)
 obtain ⟨b1, g1⟩ : ∃ z, z = h0.size := ⟨_, rfl⟩
 rw [← g1] at A1 D1 Un1 st1
 have Zs2 : n0 ≤ h1.size := Nat.le_trans Z0 E1.1
 have F1_value : Fld Z h1 b1 cs0 "value" "[B" .null := D1 (Or.inl (ow hw 35 rfl)) (ty := (.array .byte)) (by decide)
 have F1_coder : Fld Z h1 b1 cs0 "coder" "B" (.int 0) := D1 (Or.inl (ow hw 37 rfl)) (ty := .byte) (by decide)
 have F1_count : Fld Z h1 b1 cs0 "count" "I" (.int 0) := D1 (Or.inl (ow hw 80 rfl)) (ty := .int) (by decide)
 refine ogo (mkF m 4 #[rv a1, .unset, .unset, .unset, .unset, .unset, .unset, .unset] [(.ref b1), (.ref b1)]) (fun _ k => st1 _ (XS.dup X1.here hx rfl (hb hby d3_3) rfl rfl k)) ?_
 have O4 := O0.ext E1
 have gx5 : n0 ≤ b1 := Nat.le_trans Z0 (Nat.le_of_eq g1.symm)
 refine own_spec (W := 1) X1 hx hZ hown e1 (ow hw 20 rfl) (ow hw 21 rfl) (rmsi16 l Z a0 hw [] b1 cs h1 n0 Zs2 O4 SC hcs A1 F1_value F1_coder gx5 F1_count) (ow hw 22 rfl) (ow hw 19 rfl) rfl (by rw [hml]; rfl) rfl (hb hby d3_4) (lenOf pd___V rfl) rfl rfl (by decide) (fun T3 v3 Ll3 X3 hQ3 => ?_)
 obtain ⟨va_3, kv_3, rfl, N3q, K3, P3_0, P3_1, P3_2, P3_3, P3_4, P3_5⟩ := hQ3
 have N3 := Fr.app N0 N3q
 have Zs6 : n0 ≤ T3.heap.size := Nat.le_trans Zs2 K3.1
 refine ogo (mkF m 17 #[rv a1, rv b1, iv 0, iv 0, rv a1, .unset, .unset, .unset] [(.ref a1)]) (fun _ k => XS.astoreN X3.here hx rfl (hb hby d3_7) rfl rfl (l' := #[rv a1, rv b1, .unset, .unset, .unset, .unset, .unset, .unset]) rfl (XS.iconst X3.here hx rfl (hb hby d3_8) (XS.istoreN X3.here hx rfl (hb hby d3_9) rfl (l' := #[rv a1, rv b1, iv 0, .unset, .unset, .unset, .unset, .unset]) rfl (XS.iconst X3.here hx rfl (hb hby d3_10) (XS.istoreN X3.here hx rfl (hb hby d3_11) rfl (l' := #[rv a1, rv b1, iv 0, iv 0, .unset, .unset, .unset, .unset]) rfl (XS.aloadN X3.here hx rfl (hb hby d3_12) rfl rfl (XS.astore X3.here hx rfl (hb hby d3_13) rfl rfl (l' := #[rv a1, rv b1, iv 0, iv 0, rv a1, .unset, .unset, .unset]) rfl (XS.aload X3.here hx rfl (hb hby d3_15) rfl rfl k)))))))) ?_
 have F8 := V_a1.ext E1
 have nx9 : a1 ≠ b1 := (own_ne V_a1.lt (Nat.le_refl _) (Nat.le_of_eq g1.symm))
 have F10 := F8.keep K3 (ninS nx9 nin0)
 obtain ⟨cl7, Ar7, -, Sz7, Nn7, -, -⟩ := id F10
 refine own_go (b := (T3.setTop (mkF m 34 #[rv a1, rv b1, iv 0, iv 0, rv a1, iv 12, iv 0, .unset] [(.int 0), (.ref a1)]))) (fun _ k => X3.arraylength hx Ar7.1 (State.isArrayOf_alike hZ.alike Ar7.2.1) (g := (mkF m 17 #[rv a1, rv b1, iv 0, iv 0, rv a1, .unset, .unset, .unset] [(.ref a1)])) rfl rfl (hb hby d3_17) _ (by rw [len_of Sz7 Nn7]; exact (XS.istore X3.here hx rfl (hb hby d3_18) rfl (l' := #[rv a1, rv b1, iv 0, iv 0, rv a1, iv 12, .unset, .unset]) rfl (XS.iconst X3.here hx rfl (hb hby d3_20) (XS.istore X3.here hx rfl (hb hby d3_21) rfl (l' := #[rv a1, rv b1, iv 0, iv 0, rv a1, iv 12, iv 0, .unset]) rfl (XS.iload X3.here hx rfl (hb hby d3_23) rfl (XS.iload X3.here hx rfl (hb hby d3_25) rfl (XS.icmpNo X3.here hx rfl (hb hby d3_27) rfl (tlt (by decide : (0 : Int32) < (12 : Int32))).2.1 (XS.aload X3.here hx rfl (hb hby d3_30) rfl rfl (XS.iload X3.here hx rfl (hb hby d3_32) rfl k)))))))))) ?_
 refine own_bal (x := x0) X3 hx hZ rfl F10 ⟨by decide, by decide⟩ rfl rfl rfl (hb hby d3_34) ?_
 refine ogo (mkF m 49 #[rv a1, rv b1, iv (own_p8 (0 : Int32) x0), iv 0, rv a1, iv 12, iv 0, iv x0] []) (fun _ k => XS.istore X3.here hx rfl (hb hby d3_35) rfl (l' := #[rv a1, rv b1, iv 0, iv 0, rv a1, iv 12, iv 0, iv x0]) rfl (XS.iloadN X3.here hx rfl (hb hby d3_37) rfl (XS.bipush X3.here hx rfl (hb hby d3_38) (XS.ishl X3.here hx rfl (hb hby d3_40) rfl (XS.iload X3.here hx rfl (hb hby d3_41) rfl (XS.sipush X3.here hx rfl (hb hby d3_43) (XS.iand X3.here hx rfl (hb hby d3_46) rfl (XS.ior X3.here hx rfl (hb hby d3_47) rfl (XS.istoreN X3.here hx rfl (hb hby d3_48) rfl (l' := #[rv a1, rv b1, iv (own_p8 (0 : Int32) x0), iv 0, rv a1, iv 12, iv 0, iv x0]) rfl k))))))))) ?_
 obtain ⟨w12, hw12⟩ : ∃ z, z = (own_p8 (0 : Int32) x0) := ⟨_, rfl⟩
 rw [← hw12]
 refine ogo (mkF m 61 #[rv a1, rv b1, iv w12, iv 3, rv a1, iv 12, iv 0, iv x0] [(.ref b1)]) (fun _ k => sg_rmb32_0 X3 hx hby (by decide) k) ?_
 have CH14 := CHv.ext E1 hCH
 have Sf15 := Safe.ext E1 hCH (Safe.new (Nat.le_of_eq g1.symm))
 have CH16 := CHv.keep K3 (allS Sf15 all0) CH14
 have Sf17 := Safe.keep K3 (allS Sf15 all0) CH14 Sf15
 have Sf18 := Safe.keep K3 (allS Sf15 all0) CH14 (Safe.new P3_0)
 obtain ⟨b13, T13, h13, kk13, bb13, kl13, X13, e13, E13, Sn13, hk13, hZ13, ho13, Ex13, Fc13, Fv13, V13, la13, lb13, CR13, Lt13, hne13, st13⟩ := ldcCH (s := s) (vm0 := s.vm) X3 hx hZ hown (ow hw 38 rfl) (own_wS hw) rfl ((State.WarmedH.refl s).since 0) (Nat.zero_le _) (own_EW hw) (List.mem_cons_self ..) CH16 (vs := [(.int 65), (.int 66), (.int 67), (.int 68), (.int 69), (.int 70), (.int 71), (.int 72), (.int 73), (.int 74), (.int 75), (.int 76), (.int 77), (.int 78), (.int 79), (.int 80), (.int 81), (.int 82), (.int 83), (.int 84), (.int 85), (.int 86), (.int 87), (.int 88), (.int 89), (.int 90), (.int 50), (.int 51), (.int 52), (.int 53), (.int 54), (.int 55)]) (z := 32) ⟨by decide, rfl⟩ (by decide) (by decide) (g := (mkF m 61 #[rv a1, rv b1, iv w12, iv 3, rv a1, iv 12, iv 0, iv x0] [(.ref b1)])) rfl (hb hby d3_61) (n := 128) (by decide) (by decide) (by decide) (by decide)
 have Zs19 : n0 ≤ h13.size := Nat.le_trans Zs6 E13.1
 have ns20 := hne13 b1 (CHr.safe CR13 (Nat.lt_of_lt_of_le A1.lt K3.1) Sf17)
 have ns21 := hne13 va_3 (CHr.safe CR13 (Nat.lt_of_lt_of_le P3_3.lt (Nat.le_refl _)) Sf18)
 have hZ := hZ13
 have hown := ho13
 refine ogo (mkF m 69 #[rv a1, rv b1, iv w12, iv 3, rv a1, iv 12, iv 0, iv x0] [(.int (own_g (3 : Int32) w12)), (.ref b13), (.ref b1)]) (fun _ k => st13 _ (sg_rmb32_1 X13 hx hby k)) ?_
 obtain ⟨q22, hq22⟩ : ∃ z, z = (own_g (3 : Int32) w12) := ⟨_, rfl⟩
 rw [← hq22]
 have O24 := O4.keep K3 (allS gx5 all0)
 have O25 := O24.ext E13
 refine own_virt (W := 1) X13 hx hZ hown e13 (ow hw 44 rfl) (ow hw 45 rfl) (ow hw 47 rfl) (ow hw 46 rfl) (rmca l Z a0 hw [] b13 bb13 kl13 _ q22 (32 : Int32) cs fv h13 n0 Zs19 O25 SC hcs SF hfv Ex13 Fc13 Fv13 V13 (own_31r hq22).1 (own_31r hq22).2) (ow hw 48 rfl) (ow hw 33 rfl) Ex13 rfl (by rw [hml]; rfl) rfl (hb hby d3_69) (lenOf pd__I_C rfl) rfl (by decide) (fun T23 v23 Ll23 X23 hQ23 => ?_)
 obtain ⟨rfl, N23q, eh23⟩ := hQ23
 have N23 := Fr.app N3 N23q
 have F27 := A1.keep K3
 have F28 := F27.ext E13
 have F29 := P3_1.ext E13
 have F30 := P3_2.ext E13
 have F31 := P3_4.ext E13
 have F32 := P3_3.ext E13
 have gx33 : n0 ≤ va_3 := Nat.le_trans Zs2 P3_0
 refine own_virt (W := 0) X23 hx hZ hown eh23 (ow hw 69 rfl) (ow hw 70 rfl) (ow hw 72 rfl) (ow hw 71 rfl) (rmap16 l Z a0 hw [] b1 va_3 kv_3 [] (0 : Int32) (own_al q22) cs h13 n0 Zs19 O25 SC hcs F28 gx5 F29 F30 F31 F32 gx33 ⟨by decide, by decide⟩ rfl (own_lc8 _)) (ow hw 73 rfl) (ow hw 19 rfl) F28 rfl (by rw [hml]; rfl) rfl (hb hby d3_72) (lenOf pd__C_Ljava_lang_StringBuilder_ rfl) rfl (by decide) (fun T26 v26 Ll26 X26 hQ26 => ?_)
 obtain ⟨rfl, N26q, K26, P26_0, P26_1, P26_2, P26_3⟩ := hQ26
 have N26 := Fr.app N23 N26q
 have Zs34 : n0 ≤ T26.heap.size := Nat.le_trans Zs19 K26.1
 refine ogo (mkF m 87 #[rv a1, rv b1, iv (own_mk (7 : Int32) w12), iv 3, rv a1, iv 12, iv 0, iv x0] []) (fun _ k => sg_rmb32_2 X26 hx hby (by decide) k) ?_
 obtain ⟨w35, hw35⟩ : ∃ z, z = (own_mk (7 : Int32) w12) := ⟨_, rfl⟩
 rw [← hw35]
 refine ogo (mkF m 34 #[rv a1, rv b1, iv w35, iv 3, rv a1, iv 12, iv 1, iv x0] [(.int 1), (.ref a1)]) (fun _ k => sg_rmb32_3 X26 hx hby (by decide) k) ?_
 have F37 := F10.ext E13
 have nx38 : a1 ≠ va_3 := (own_ne V_a1.lt E1.1 P3_0)
 have F39 := F37.keep K26 (ninS nx9 (ninS nx38 nin0))
 refine own_bal (x := x1) X26 hx hZ rfl F39 ⟨by decide, by decide⟩ rfl rfl rfl (hb hby d3_34) ?_
 refine ogo (mkF m 49 #[rv a1, rv b1, iv (own_p8 w35 x1), iv 3, rv a1, iv 12, iv 1, iv x1] []) (fun _ k => sg_rmb32_4 X26 hx hby k) ?_
 obtain ⟨w40, hw40⟩ : ∃ z, z = (own_p8 w35 x1) := ⟨_, rfl⟩
 rw [← hw40]
 refine ogo (mkF m 69 #[rv a1, rv b1, iv w40, iv 6, rv a1, iv 12, iv 1, iv x1] [(.int (own_g (6 : Int32) w40)), (.ref b13), (.ref b1)]) (fun _ k => sg_rmb32_0 X26 hx hby (by decide) (ldcAgain (s := s) X26 hx hZ hown (ow hw 38 rfl) Lt13 (g := (mkF m 61 #[rv a1, rv b1, iv w40, iv 6, rv a1, iv 12, iv 1, iv x1] [(.ref b1)])) rfl (hb hby d3_61) _ (sg_rmb32_1 X26 hx hby k))) ?_
 obtain ⟨q42, hq42⟩ : ∃ z, z = (own_g (6 : Int32) w40) := ⟨_, rfl⟩
 rw [← hq42]
 have O44 := O25.keep K26 (allS gx5 (allS gx33 all0))
 have F45 := Ex13.keep K26
 have F46 := Fc13.keep K26 (ninS (Ne.symm ns20.1) (ninS (Ne.symm ns21.1) nin0))
 have F47 := Fv13.keep K26 (ninS (Ne.symm ns20.1) (ninS (Ne.symm ns21.1) nin0))
 have F48 := V13.keep K26 (ninS (Ne.symm ns20.2) (ninS (Ne.symm ns21.2) nin0))
 refine own_virt (W := 1) X26 hx hZ hown rfl (ow hw 44 rfl) (ow hw 45 rfl) (ow hw 47 rfl) (ow hw 46 rfl) (rmca l Z a0 hw [] b13 bb13 kl13 _ q42 (32 : Int32) cs fv T26.heap n0 Zs34 O44 SC hcs SF hfv F45 F46 F47 F48 (own_31r hq42).1 (own_31r hq42).2) (ow hw 48 rfl) (ow hw 33 rfl) F45 rfl (by rw [hml]; rfl) rfl (hb hby d3_69) (lenOf pd__I_C rfl) rfl (by decide) (fun T43 v43 Ll43 X43 hQ43 => ?_)
 obtain ⟨rfl, N43q, eh43⟩ := hQ43
 have N43 := Fr.app N26 N43q
 have F50 := F28.keep K26
 refine own_virt (W := 0) X43 hx hZ hown eh43 (ow hw 69 rfl) (ow hw 70 rfl) (ow hw 72 rfl) (ow hw 71 rfl) (rmap16 l Z a0 hw [] b1 va_3 kv_3 ([(.int (own_lt (own_al q22)))]) (1 : Int32) (own_al q42) cs T26.heap n0 Zs34 O44 SC hcs F50 gx5 P26_0 P26_1 P26_2 P26_3 gx33 ⟨by decide, by decide⟩ rfl (own_lc8 _)) (ow hw 73 rfl) (ow hw 19 rfl) F50 rfl (by rw [hml]; rfl) rfl (hb hby d3_72) (lenOf pd__C_Ljava_lang_StringBuilder_ rfl) rfl (by decide) (fun T49 v49 Ll49 X49 hQ49 => ?_)
 obtain ⟨rfl, N49q, K49, P49_0, P49_1, P49_2, P49_3⟩ := hQ49
 have N49 := Fr.app N43 N49q
 have Zs51 : n0 ≤ T49.heap.size := Nat.le_trans Zs34 K49.1
 refine ogo (mkF m 69 #[rv a1, rv b1, iv w40, iv 1, rv a1, iv 12, iv 1, iv x1] [(.int (own_g (1 : Int32) w40)), (.ref b13), (.ref b1)]) (fun _ k => sg_rmb32_5 X49 hx hby (by decide) (ldcAgain (s := s) X49 hx hZ hown (ow hw 38 rfl) Lt13 (g := (mkF m 61 #[rv a1, rv b1, iv w40, iv 1, rv a1, iv 12, iv 1, iv x1] [(.ref b1)])) rfl (hb hby d3_61) _ (sg_rmb32_1 X49 hx hby k))) ?_
 obtain ⟨q53, hq53⟩ : ∃ z, z = (own_g (1 : Int32) w40) := ⟨_, rfl⟩
 rw [← hq53]
 have O55 := O44.keep K49 (allS gx5 (allS gx33 all0))
 have F56 := F45.keep K49
 have F57 := F46.keep K49 (ninS (Ne.symm ns20.1) (ninS (Ne.symm ns21.1) nin0))
 have F58 := F47.keep K49 (ninS (Ne.symm ns20.1) (ninS (Ne.symm ns21.1) nin0))
 have F59 := F48.keep K49 (ninS (Ne.symm ns20.2) (ninS (Ne.symm ns21.2) nin0))
 refine own_virt (W := 1) X49 hx hZ hown rfl (ow hw 44 rfl) (ow hw 45 rfl) (ow hw 47 rfl) (ow hw 46 rfl) (rmca l Z a0 hw [] b13 bb13 kl13 _ q53 (32 : Int32) cs fv T49.heap n0 Zs51 O55 SC hcs SF hfv F56 F57 F58 F59 (own_31r hq53).1 (own_31r hq53).2) (ow hw 48 rfl) (ow hw 33 rfl) F56 rfl (by rw [hml]; rfl) rfl (hb hby d3_69) (lenOf pd__I_C rfl) rfl (by decide) (fun T54 v54 Ll54 X54 hQ54 => ?_)
 obtain ⟨rfl, N54q, eh54⟩ := hQ54
 have N54 := Fr.app N49 N54q
 have F61 := F50.keep K49
 refine own_virt (W := 0) X54 hx hZ hown eh54 (ow hw 69 rfl) (ow hw 70 rfl) (ow hw 72 rfl) (ow hw 71 rfl) (rmap16 l Z a0 hw [] b1 va_3 kv_3 ([(.int (own_lt (own_al q22))), (.int (own_lt (own_al q42)))]) (2 : Int32) (own_al q53) cs T49.heap n0 Zs51 O55 SC hcs F61 gx5 P49_0 P49_1 P49_2 P49_3 gx33 ⟨by decide, by decide⟩ rfl (own_lc8 _)) (ow hw 73 rfl) (ow hw 19 rfl) F61 rfl (by rw [hml]; rfl) rfl (hb hby d3_72) (lenOf pd__C_Ljava_lang_StringBuilder_ rfl) rfl (by decide) (fun T60 v60 Ll60 X60 hQ60 => ?_)
 obtain ⟨rfl, N60q, K60, P60_0, P60_1, P60_2, P60_3⟩ := hQ60
 have N60 := Fr.app N54 N60q
 have Zs62 : n0 ≤ T60.heap.size := Nat.le_trans Zs51 K60.1
 refine ogo (mkF m 87 #[rv a1, rv b1, iv (own_mk (1 : Int32) w40), iv 1, rv a1, iv 12, iv 1, iv x1] []) (fun _ k => sg_rmb32_2 X60 hx hby (by decide) k) ?_
 obtain ⟨w63, hw63⟩ : ∃ z, z = (own_mk (1 : Int32) w40) := ⟨_, rfl⟩
 rw [← hw63]
 refine ogo (mkF m 34 #[rv a1, rv b1, iv w63, iv 1, rv a1, iv 12, iv 2, iv x1] [(.int 2), (.ref a1)]) (fun _ k => sg_rmb32_3 X60 hx hby (by decide) k) ?_
 have F65 := F39.keep K49 (ninS nx9 (ninS nx38 nin0))
 have F66 := F65.keep K60 (ninS nx9 (ninS nx38 nin0))
 refine own_bal (x := x2) X60 hx hZ rfl F66 ⟨by decide, by decide⟩ rfl rfl rfl (hb hby d3_34) ?_
 refine ogo (mkF m 49 #[rv a1, rv b1, iv (own_p8 w63 x2), iv 1, rv a1, iv 12, iv 2, iv x2] []) (fun _ k => sg_rmb32_4 X60 hx hby k) ?_
 obtain ⟨w67, hw67⟩ : ∃ z, z = (own_p8 w63 x2) := ⟨_, rfl⟩
 rw [← hw67]
 refine ogo (mkF m 69 #[rv a1, rv b1, iv w67, iv 4, rv a1, iv 12, iv 2, iv x2] [(.int (own_g (4 : Int32) w67)), (.ref b13), (.ref b1)]) (fun _ k => sg_rmb32_0 X60 hx hby (by decide) (ldcAgain (s := s) X60 hx hZ hown (ow hw 38 rfl) Lt13 (g := (mkF m 61 #[rv a1, rv b1, iv w67, iv 4, rv a1, iv 12, iv 2, iv x2] [(.ref b1)])) rfl (hb hby d3_61) _ (sg_rmb32_1 X60 hx hby k))) ?_
 obtain ⟨q69, hq69⟩ : ∃ z, z = (own_g (4 : Int32) w67) := ⟨_, rfl⟩
 rw [← hq69]
 have O71 := O55.keep K60 (allS gx5 (allS gx33 all0))
 have F72 := F56.keep K60
 have F73 := F57.keep K60 (ninS (Ne.symm ns20.1) (ninS (Ne.symm ns21.1) nin0))
 have F74 := F58.keep K60 (ninS (Ne.symm ns20.1) (ninS (Ne.symm ns21.1) nin0))
 have F75 := F59.keep K60 (ninS (Ne.symm ns20.2) (ninS (Ne.symm ns21.2) nin0))
 refine own_virt (W := 1) X60 hx hZ hown rfl (ow hw 44 rfl) (ow hw 45 rfl) (ow hw 47 rfl) (ow hw 46 rfl) (rmca l Z a0 hw [] b13 bb13 kl13 _ q69 (32 : Int32) cs fv T60.heap n0 Zs62 O71 SC hcs SF hfv F72 F73 F74 F75 (own_31r hq69).1 (own_31r hq69).2) (ow hw 48 rfl) (ow hw 33 rfl) F72 rfl (by rw [hml]; rfl) rfl (hb hby d3_69) (lenOf pd__I_C rfl) rfl (by decide) (fun T70 v70 Ll70 X70 hQ70 => ?_)
 obtain ⟨rfl, N70q, eh70⟩ := hQ70
 have N70 := Fr.app N60 N70q
 have F77 := F61.keep K60
 refine own_virt (W := 0) X70 hx hZ hown eh70 (ow hw 69 rfl) (ow hw 70 rfl) (ow hw 72 rfl) (ow hw 71 rfl) (rmap16 l Z a0 hw [] b1 va_3 kv_3 ([(.int (own_lt (own_al q22))), (.int (own_lt (own_al q42))), (.int (own_lt (own_al q53)))]) (3 : Int32) (own_al q69) cs T60.heap n0 Zs62 O71 SC hcs F77 gx5 P60_0 P60_1 P60_2 P60_3 gx33 ⟨by decide, by decide⟩ rfl (own_lc8 _)) (ow hw 73 rfl) (ow hw 19 rfl) F77 rfl (by rw [hml]; rfl) rfl (hb hby d3_72) (lenOf pd__C_Ljava_lang_StringBuilder_ rfl) rfl (by decide) (fun T76 v76 Ll76 X76 hQ76 => ?_)
 obtain ⟨rfl, N76q, K76, P76_0, P76_1, P76_2, P76_3⟩ := hQ76
 have N76 := Fr.app N70 N76q
 have Zs78 : n0 ≤ T76.heap.size := Nat.le_trans Zs62 K76.1
 refine ogo (mkF m 87 #[rv a1, rv b1, iv (own_mk (15 : Int32) w67), iv 4, rv a1, iv 12, iv 2, iv x2] []) (fun _ k => sg_rmb32_2 X76 hx hby (by decide) k) ?_
 obtain ⟨w79, hw79⟩ : ∃ z, z = (own_mk (15 : Int32) w67) := ⟨_, rfl⟩
 rw [← hw79]
 refine ogo (mkF m 34 #[rv a1, rv b1, iv w79, iv 4, rv a1, iv 12, iv 3, iv x2] [(.int 3), (.ref a1)]) (fun _ k => sg_rmb32_3 X76 hx hby (by decide) k) ?_
 have F81 := F66.keep K76 (ninS nx9 (ninS nx38 nin0))
 refine own_bal (x := x3) X76 hx hZ rfl F81 ⟨by decide, by decide⟩ rfl rfl rfl (hb hby d3_34) ?_
 refine ogo (mkF m 49 #[rv a1, rv b1, iv (own_p8 w79 x3), iv 4, rv a1, iv 12, iv 3, iv x3] []) (fun _ k => sg_rmb32_4 X76 hx hby k) ?_
 obtain ⟨w82, hw82⟩ : ∃ z, z = (own_p8 w79 x3) := ⟨_, rfl⟩
 rw [← hw82]
 refine ogo (mkF m 69 #[rv a1, rv b1, iv w82, iv 7, rv a1, iv 12, iv 3, iv x3] [(.int (own_g (7 : Int32) w82)), (.ref b13), (.ref b1)]) (fun _ k => sg_rmb32_0 X76 hx hby (by decide) (ldcAgain (s := s) X76 hx hZ hown (ow hw 38 rfl) Lt13 (g := (mkF m 61 #[rv a1, rv b1, iv w82, iv 7, rv a1, iv 12, iv 3, iv x3] [(.ref b1)])) rfl (hb hby d3_61) _ (sg_rmb32_1 X76 hx hby k))) ?_
 obtain ⟨q84, hq84⟩ : ∃ z, z = (own_g (7 : Int32) w82) := ⟨_, rfl⟩
 rw [← hq84]
 have O86 := O71.keep K76 (allS gx5 (allS gx33 all0))
 have F87 := F72.keep K76
 have F88 := F73.keep K76 (ninS (Ne.symm ns20.1) (ninS (Ne.symm ns21.1) nin0))
 have F89 := F74.keep K76 (ninS (Ne.symm ns20.1) (ninS (Ne.symm ns21.1) nin0))
 have F90 := F75.keep K76 (ninS (Ne.symm ns20.2) (ninS (Ne.symm ns21.2) nin0))
 refine own_virt (W := 1) X76 hx hZ hown rfl (ow hw 44 rfl) (ow hw 45 rfl) (ow hw 47 rfl) (ow hw 46 rfl) (rmca l Z a0 hw [] b13 bb13 kl13 _ q84 (32 : Int32) cs fv T76.heap n0 Zs78 O86 SC hcs SF hfv F87 F88 F89 F90 (own_31r hq84).1 (own_31r hq84).2) (ow hw 48 rfl) (ow hw 33 rfl) F87 rfl (by rw [hml]; rfl) rfl (hb hby d3_69) (lenOf pd__I_C rfl) rfl (by decide) (fun T85 v85 Ll85 X85 hQ85 => ?_)
 obtain ⟨rfl, N85q, eh85⟩ := hQ85
 have N85 := Fr.app N76 N85q
 have F92 := F77.keep K76
 refine own_virt (W := 0) X85 hx hZ hown eh85 (ow hw 69 rfl) (ow hw 70 rfl) (ow hw 72 rfl) (ow hw 71 rfl) (rmap16 l Z a0 hw [] b1 va_3 kv_3 ([(.int (own_lt (own_al q22))), (.int (own_lt (own_al q42))), (.int (own_lt (own_al q53))), (.int (own_lt (own_al q69)))]) (4 : Int32) (own_al q84) cs T76.heap n0 Zs78 O86 SC hcs F92 gx5 P76_0 P76_1 P76_2 P76_3 gx33 ⟨by decide, by decide⟩ rfl (own_lc8 _)) (ow hw 73 rfl) (ow hw 19 rfl) F92 rfl (by rw [hml]; rfl) rfl (hb hby d3_72) (lenOf pd__C_Ljava_lang_StringBuilder_ rfl) rfl (by decide) (fun T91 v91 Ll91 X91 hQ91 => ?_)
 obtain ⟨rfl, N91q, K91, P91_0, P91_1, P91_2, P91_3⟩ := hQ91
 have N91 := Fr.app N85 N91q
 have Zs93 : n0 ≤ T91.heap.size := Nat.le_trans Zs78 K91.1
 refine ogo (mkF m 69 #[rv a1, rv b1, iv w82, iv 2, rv a1, iv 12, iv 3, iv x3] [(.int (own_g (2 : Int32) w82)), (.ref b13), (.ref b1)]) (fun _ k => sg_rmb32_5 X91 hx hby (by decide) (ldcAgain (s := s) X91 hx hZ hown (ow hw 38 rfl) Lt13 (g := (mkF m 61 #[rv a1, rv b1, iv w82, iv 2, rv a1, iv 12, iv 3, iv x3] [(.ref b1)])) rfl (hb hby d3_61) _ (sg_rmb32_1 X91 hx hby k))) ?_
 obtain ⟨q95, hq95⟩ : ∃ z, z = (own_g (2 : Int32) w82) := ⟨_, rfl⟩
 rw [← hq95]
 have O97 := O86.keep K91 (allS gx5 (allS gx33 all0))
 have F98 := F87.keep K91
 have F99 := F88.keep K91 (ninS (Ne.symm ns20.1) (ninS (Ne.symm ns21.1) nin0))
 have F100 := F89.keep K91 (ninS (Ne.symm ns20.1) (ninS (Ne.symm ns21.1) nin0))
 have F101 := F90.keep K91 (ninS (Ne.symm ns20.2) (ninS (Ne.symm ns21.2) nin0))
 refine own_virt (W := 1) X91 hx hZ hown rfl (ow hw 44 rfl) (ow hw 45 rfl) (ow hw 47 rfl) (ow hw 46 rfl) (rmca l Z a0 hw [] b13 bb13 kl13 _ q95 (32 : Int32) cs fv T91.heap n0 Zs93 O97 SC hcs SF hfv F98 F99 F100 F101 (own_31r hq95).1 (own_31r hq95).2) (ow hw 48 rfl) (ow hw 33 rfl) F98 rfl (by rw [hml]; rfl) rfl (hb hby d3_69) (lenOf pd__I_C rfl) rfl (by decide) (fun T96 v96 Ll96 X96 hQ96 => ?_)
 obtain ⟨rfl, N96q, eh96⟩ := hQ96
 have N96 := Fr.app N91 N96q
 have F103 := F92.keep K91
 refine own_virt (W := 0) X96 hx hZ hown eh96 (ow hw 69 rfl) (ow hw 70 rfl) (ow hw 72 rfl) (ow hw 71 rfl) (rmap16 l Z a0 hw [] b1 va_3 kv_3 ([(.int (own_lt (own_al q22))), (.int (own_lt (own_al q42))), (.int (own_lt (own_al q53))), (.int (own_lt (own_al q69))), (.int (own_lt (own_al q84)))]) (5 : Int32) (own_al q95) cs T91.heap n0 Zs93 O97 SC hcs F103 gx5 P91_0 P91_1 P91_2 P91_3 gx33 ⟨by decide, by decide⟩ rfl (own_lc8 _)) (ow hw 73 rfl) (ow hw 19 rfl) F103 rfl (by rw [hml]; rfl) rfl (hb hby d3_72) (lenOf pd__C_Ljava_lang_StringBuilder_ rfl) rfl (by decide) (fun T102 v102 Ll102 X102 hQ102 => ?_)
 obtain ⟨rfl, N102q, K102, P102_0, P102_1, P102_2, P102_3⟩ := hQ102
 have N102 := Fr.app N96 N102q
 have Zs104 : n0 ≤ T102.heap.size := Nat.le_trans Zs93 K102.1
 refine ogo (mkF m 87 #[rv a1, rv b1, iv (own_mk (3 : Int32) w82), iv 2, rv a1, iv 12, iv 3, iv x3] []) (fun _ k => sg_rmb32_2 X102 hx hby (by decide) k) ?_
 obtain ⟨w105, hw105⟩ : ∃ z, z = (own_mk (3 : Int32) w82) := ⟨_, rfl⟩
 rw [← hw105]
 refine ogo (mkF m 34 #[rv a1, rv b1, iv w105, iv 2, rv a1, iv 12, iv 4, iv x3] [(.int 4), (.ref a1)]) (fun _ k => sg_rmb32_3 X102 hx hby (by decide) k) ?_
 have F107 := F81.keep K91 (ninS nx9 (ninS nx38 nin0))
 have F108 := F107.keep K102 (ninS nx9 (ninS nx38 nin0))
 refine own_bal (x := x4) X102 hx hZ rfl F108 ⟨by decide, by decide⟩ rfl rfl rfl (hb hby d3_34) ?_
 refine ogo (mkF m 49 #[rv a1, rv b1, iv (own_p8 w105 x4), iv 2, rv a1, iv 12, iv 4, iv x4] []) (fun _ k => sg_rmb32_4 X102 hx hby k) ?_
 obtain ⟨w109, hw109⟩ : ∃ z, z = (own_p8 w105 x4) := ⟨_, rfl⟩
 rw [← hw109]
 refine ogo (mkF m 69 #[rv a1, rv b1, iv w109, iv 5, rv a1, iv 12, iv 4, iv x4] [(.int (own_g (5 : Int32) w109)), (.ref b13), (.ref b1)]) (fun _ k => sg_rmb32_0 X102 hx hby (by decide) (ldcAgain (s := s) X102 hx hZ hown (ow hw 38 rfl) Lt13 (g := (mkF m 61 #[rv a1, rv b1, iv w109, iv 5, rv a1, iv 12, iv 4, iv x4] [(.ref b1)])) rfl (hb hby d3_61) _ (sg_rmb32_1 X102 hx hby k))) ?_
 obtain ⟨q111, hq111⟩ : ∃ z, z = (own_g (5 : Int32) w109) := ⟨_, rfl⟩
 rw [← hq111]
 have O113 := O97.keep K102 (allS gx5 (allS gx33 all0))
 have F114 := F98.keep K102
 have F115 := F99.keep K102 (ninS (Ne.symm ns20.1) (ninS (Ne.symm ns21.1) nin0))
 have F116 := F100.keep K102 (ninS (Ne.symm ns20.1) (ninS (Ne.symm ns21.1) nin0))
 have F117 := F101.keep K102 (ninS (Ne.symm ns20.2) (ninS (Ne.symm ns21.2) nin0))
 refine own_virt (W := 1) X102 hx hZ hown rfl (ow hw 44 rfl) (ow hw 45 rfl) (ow hw 47 rfl) (ow hw 46 rfl) (rmca l Z a0 hw [] b13 bb13 kl13 _ q111 (32 : Int32) cs fv T102.heap n0 Zs104 O113 SC hcs SF hfv F114 F115 F116 F117 (own_31r hq111).1 (own_31r hq111).2) (ow hw 48 rfl) (ow hw 33 rfl) F114 rfl (by rw [hml]; rfl) rfl (hb hby d3_69) (lenOf pd__I_C rfl) rfl (by decide) (fun T112 v112 Ll112 X112 hQ112 => ?_)
 obtain ⟨rfl, N112q, eh112⟩ := hQ112
 have N112 := Fr.app N102 N112q
 have F119 := F103.keep K102
 refine own_virt (W := 0) X112 hx hZ hown eh112 (ow hw 69 rfl) (ow hw 70 rfl) (ow hw 72 rfl) (ow hw 71 rfl) (rmap16 l Z a0 hw [] b1 va_3 kv_3 ([(.int (own_lt (own_al q22))), (.int (own_lt (own_al q42))), (.int (own_lt (own_al q53))), (.int (own_lt (own_al q69))), (.int (own_lt (own_al q84))), (.int (own_lt (own_al q95)))]) (6 : Int32) (own_al q111) cs T102.heap n0 Zs104 O113 SC hcs F119 gx5 P102_0 P102_1 P102_2 P102_3 gx33 ⟨by decide, by decide⟩ rfl (own_lc8 _)) (ow hw 73 rfl) (ow hw 19 rfl) F119 rfl (by rw [hml]; rfl) rfl (hb hby d3_72) (lenOf pd__C_Ljava_lang_StringBuilder_ rfl) rfl (by decide) (fun T118 v118 Ll118 X118 hQ118 => ?_)
 obtain ⟨rfl, N118q, K118, P118_0, P118_1, P118_2, P118_3⟩ := hQ118
 have N118 := Fr.app N112 N118q
 have Zs120 : n0 ≤ T118.heap.size := Nat.le_trans Zs104 K118.1
 refine ogo (mkF m 69 #[rv a1, rv b1, iv w109, iv 0, rv a1, iv 12, iv 4, iv x4] [(.int (own_g (0 : Int32) w109)), (.ref b13), (.ref b1)]) (fun _ k => sg_rmb32_5 X118 hx hby (by decide) (ldcAgain (s := s) X118 hx hZ hown (ow hw 38 rfl) Lt13 (g := (mkF m 61 #[rv a1, rv b1, iv w109, iv 0, rv a1, iv 12, iv 4, iv x4] [(.ref b1)])) rfl (hb hby d3_61) _ (sg_rmb32_1 X118 hx hby k))) ?_
 obtain ⟨q122, hq122⟩ : ∃ z, z = (own_g (0 : Int32) w109) := ⟨_, rfl⟩
 rw [← hq122]
 have O124 := O113.keep K118 (allS gx5 (allS gx33 all0))
 have F125 := F114.keep K118
 have F126 := F115.keep K118 (ninS (Ne.symm ns20.1) (ninS (Ne.symm ns21.1) nin0))
 have F127 := F116.keep K118 (ninS (Ne.symm ns20.1) (ninS (Ne.symm ns21.1) nin0))
 have F128 := F117.keep K118 (ninS (Ne.symm ns20.2) (ninS (Ne.symm ns21.2) nin0))
 refine own_virt (W := 1) X118 hx hZ hown rfl (ow hw 44 rfl) (ow hw 45 rfl) (ow hw 47 rfl) (ow hw 46 rfl) (rmca l Z a0 hw [] b13 bb13 kl13 _ q122 (32 : Int32) cs fv T118.heap n0 Zs120 O124 SC hcs SF hfv F125 F126 F127 F128 (own_31r hq122).1 (own_31r hq122).2) (ow hw 48 rfl) (ow hw 33 rfl) F125 rfl (by rw [hml]; rfl) rfl (hb hby d3_69) (lenOf pd__I_C rfl) rfl (by decide) (fun T123 v123 Ll123 X123 hQ123 => ?_)
 obtain ⟨rfl, N123q, eh123⟩ := hQ123
 have N123 := Fr.app N118 N123q
 have F130 := F119.keep K118
 refine own_virt (W := 0) X123 hx hZ hown eh123 (ow hw 69 rfl) (ow hw 70 rfl) (ow hw 72 rfl) (ow hw 71 rfl) (rmap16 l Z a0 hw [] b1 va_3 kv_3 ([(.int (own_lt (own_al q22))), (.int (own_lt (own_al q42))), (.int (own_lt (own_al q53))), (.int (own_lt (own_al q69))), (.int (own_lt (own_al q84))), (.int (own_lt (own_al q95))), (.int (own_lt (own_al q111)))]) (7 : Int32) (own_al q122) cs T118.heap n0 Zs120 O124 SC hcs F130 gx5 P118_0 P118_1 P118_2 P118_3 gx33 ⟨by decide, by decide⟩ rfl (own_lc8 _)) (ow hw 73 rfl) (ow hw 19 rfl) F130 rfl (by rw [hml]; rfl) rfl (hb hby d3_72) (lenOf pd__C_Ljava_lang_StringBuilder_ rfl) rfl (by decide) (fun T129 v129 Ll129 X129 hQ129 => ?_)
 obtain ⟨rfl, N129q, K129, P129_0, P129_1, P129_2, P129_3⟩ := hQ129
 have N129 := Fr.app N123 N129q
 have Zs131 : n0 ≤ T129.heap.size := Nat.le_trans Zs120 K129.1
 refine ogo (mkF m 87 #[rv a1, rv b1, iv (own_mk (0 : Int32) w109), iv 0, rv a1, iv 12, iv 4, iv x4] []) (fun _ k => sg_rmb32_2 X129 hx hby (by decide) k) ?_
 obtain ⟨w132, hw132⟩ : ∃ z, z = (own_mk (0 : Int32) w109) := ⟨_, rfl⟩
 rw [← hw132]
 refine ogo (mkF m 34 #[rv a1, rv b1, iv w132, iv 0, rv a1, iv 12, iv 5, iv x4] [(.int 5), (.ref a1)]) (fun _ k => sg_rmb32_3 X129 hx hby (by decide) k) ?_
 have F134 := F108.keep K118 (ninS nx9 (ninS nx38 nin0))
 have F135 := F134.keep K129 (ninS nx9 (ninS nx38 nin0))
 refine own_bal (x := x5) X129 hx hZ rfl F135 ⟨by decide, by decide⟩ rfl rfl rfl (hb hby d3_34) ?_
 refine ogo (mkF m 49 #[rv a1, rv b1, iv (own_p8 w132 x5), iv 0, rv a1, iv 12, iv 5, iv x5] []) (fun _ k => sg_rmb32_4 X129 hx hby k) ?_
 obtain ⟨w136, hw136⟩ : ∃ z, z = (own_p8 w132 x5) := ⟨_, rfl⟩
 rw [← hw136]
 refine ogo (mkF m 69 #[rv a1, rv b1, iv w136, iv 3, rv a1, iv 12, iv 5, iv x5] [(.int (own_g (3 : Int32) w136)), (.ref b13), (.ref b1)]) (fun _ k => sg_rmb32_0 X129 hx hby (by decide) (ldcAgain (s := s) X129 hx hZ hown (ow hw 38 rfl) Lt13 (g := (mkF m 61 #[rv a1, rv b1, iv w136, iv 3, rv a1, iv 12, iv 5, iv x5] [(.ref b1)])) rfl (hb hby d3_61) _ (sg_rmb32_1 X129 hx hby k))) ?_
 obtain ⟨q138, hq138⟩ : ∃ z, z = (own_g (3 : Int32) w136) := ⟨_, rfl⟩
 rw [← hq138]
 have O140 := O124.keep K129 (allS gx5 (allS gx33 all0))
 have F141 := F125.keep K129
 have F142 := F126.keep K129 (ninS (Ne.symm ns20.1) (ninS (Ne.symm ns21.1) nin0))
 have F143 := F127.keep K129 (ninS (Ne.symm ns20.1) (ninS (Ne.symm ns21.1) nin0))
 have F144 := F128.keep K129 (ninS (Ne.symm ns20.2) (ninS (Ne.symm ns21.2) nin0))
 refine own_virt (W := 1) X129 hx hZ hown rfl (ow hw 44 rfl) (ow hw 45 rfl) (ow hw 47 rfl) (ow hw 46 rfl) (rmca l Z a0 hw [] b13 bb13 kl13 _ q138 (32 : Int32) cs fv T129.heap n0 Zs131 O140 SC hcs SF hfv F141 F142 F143 F144 (own_31r hq138).1 (own_31r hq138).2) (ow hw 48 rfl) (ow hw 33 rfl) F141 rfl (by rw [hml]; rfl) rfl (hb hby d3_69) (lenOf pd__I_C rfl) rfl (by decide) (fun T139 v139 Ll139 X139 hQ139 => ?_)
 obtain ⟨rfl, N139q, eh139⟩ := hQ139
 have N139 := Fr.app N129 N139q
 have F146 := F130.keep K129
 refine own_virt (W := 0) X139 hx hZ hown eh139 (ow hw 69 rfl) (ow hw 70 rfl) (ow hw 72 rfl) (ow hw 71 rfl) (rmap16 l Z a0 hw [] b1 va_3 kv_3 ([(.int (own_lt (own_al q22))), (.int (own_lt (own_al q42))), (.int (own_lt (own_al q53))), (.int (own_lt (own_al q69))), (.int (own_lt (own_al q84))), (.int (own_lt (own_al q95))), (.int (own_lt (own_al q111))), (.int (own_lt (own_al q122)))]) (8 : Int32) (own_al q138) cs T129.heap n0 Zs131 O140 SC hcs F146 gx5 P129_0 P129_1 P129_2 P129_3 gx33 ⟨by decide, by decide⟩ rfl (own_lc8 _)) (ow hw 73 rfl) (ow hw 19 rfl) F146 rfl (by rw [hml]; rfl) rfl (hb hby d3_72) (lenOf pd__C_Ljava_lang_StringBuilder_ rfl) rfl (by decide) (fun T145 v145 Ll145 X145 hQ145 => ?_)
 obtain ⟨rfl, N145q, K145, P145_0, P145_1, P145_2, P145_3⟩ := hQ145
 have N145 := Fr.app N139 N145q
 have Zs147 : n0 ≤ T145.heap.size := Nat.le_trans Zs131 K145.1
 refine ogo (mkF m 87 #[rv a1, rv b1, iv (own_mk (7 : Int32) w136), iv 3, rv a1, iv 12, iv 5, iv x5] []) (fun _ k => sg_rmb32_2 X145 hx hby (by decide) k) ?_
 obtain ⟨w148, hw148⟩ : ∃ z, z = (own_mk (7 : Int32) w136) := ⟨_, rfl⟩
 rw [← hw148]
 refine ogo (mkF m 34 #[rv a1, rv b1, iv w148, iv 3, rv a1, iv 12, iv 6, iv x5] [(.int 6), (.ref a1)]) (fun _ k => sg_rmb32_3 X145 hx hby (by decide) k) ?_
 have F150 := F135.keep K145 (ninS nx9 (ninS nx38 nin0))
 refine own_bal (x := x6) X145 hx hZ rfl F150 ⟨by decide, by decide⟩ rfl rfl rfl (hb hby d3_34) ?_
 refine ogo (mkF m 49 #[rv a1, rv b1, iv (own_p8 w148 x6), iv 3, rv a1, iv 12, iv 6, iv x6] []) (fun _ k => sg_rmb32_4 X145 hx hby k) ?_
 obtain ⟨w151, hw151⟩ : ∃ z, z = (own_p8 w148 x6) := ⟨_, rfl⟩
 rw [← hw151]
 refine ogo (mkF m 69 #[rv a1, rv b1, iv w151, iv 6, rv a1, iv 12, iv 6, iv x6] [(.int (own_g (6 : Int32) w151)), (.ref b13), (.ref b1)]) (fun _ k => sg_rmb32_0 X145 hx hby (by decide) (ldcAgain (s := s) X145 hx hZ hown (ow hw 38 rfl) Lt13 (g := (mkF m 61 #[rv a1, rv b1, iv w151, iv 6, rv a1, iv 12, iv 6, iv x6] [(.ref b1)])) rfl (hb hby d3_61) _ (sg_rmb32_1 X145 hx hby k))) ?_
 obtain ⟨q153, hq153⟩ : ∃ z, z = (own_g (6 : Int32) w151) := ⟨_, rfl⟩
 rw [← hq153]
 have O155 := O140.keep K145 (allS gx5 (allS gx33 all0))
 have F156 := F141.keep K145
 have F157 := F142.keep K145 (ninS (Ne.symm ns20.1) (ninS (Ne.symm ns21.1) nin0))
 have F158 := F143.keep K145 (ninS (Ne.symm ns20.1) (ninS (Ne.symm ns21.1) nin0))
 have F159 := F144.keep K145 (ninS (Ne.symm ns20.2) (ninS (Ne.symm ns21.2) nin0))
 refine own_virt (W := 1) X145 hx hZ hown rfl (ow hw 44 rfl) (ow hw 45 rfl) (ow hw 47 rfl) (ow hw 46 rfl) (rmca l Z a0 hw [] b13 bb13 kl13 _ q153 (32 : Int32) cs fv T145.heap n0 Zs147 O155 SC hcs SF hfv F156 F157 F158 F159 (own_31r hq153).1 (own_31r hq153).2) (ow hw 48 rfl) (ow hw 33 rfl) F156 rfl (by rw [hml]; rfl) rfl (hb hby d3_69) (lenOf pd__I_C rfl) rfl (by decide) (fun T154 v154 Ll154 X154 hQ154 => ?_)
 obtain ⟨rfl, N154q, eh154⟩ := hQ154
 have N154 := Fr.app N145 N154q
 have F161 := F146.keep K145
 refine own_virt (W := 0) X154 hx hZ hown eh154 (ow hw 69 rfl) (ow hw 70 rfl) (ow hw 72 rfl) (ow hw 71 rfl) (rmap16 l Z a0 hw [] b1 va_3 kv_3 ([(.int (own_lt (own_al q22))), (.int (own_lt (own_al q42))), (.int (own_lt (own_al q53))), (.int (own_lt (own_al q69))), (.int (own_lt (own_al q84))), (.int (own_lt (own_al q95))), (.int (own_lt (own_al q111))), (.int (own_lt (own_al q122))), (.int (own_lt (own_al q138)))]) (9 : Int32) (own_al q153) cs T145.heap n0 Zs147 O155 SC hcs F161 gx5 P145_0 P145_1 P145_2 P145_3 gx33 ⟨by decide, by decide⟩ rfl (own_lc8 _)) (ow hw 73 rfl) (ow hw 19 rfl) F161 rfl (by rw [hml]; rfl) rfl (hb hby d3_72) (lenOf pd__C_Ljava_lang_StringBuilder_ rfl) rfl (by decide) (fun T160 v160 Ll160 X160 hQ160 => ?_)
 obtain ⟨rfl, N160q, K160, P160_0, P160_1, P160_2, P160_3⟩ := hQ160
 have N160 := Fr.app N154 N160q
 have Zs162 : n0 ≤ T160.heap.size := Nat.le_trans Zs147 K160.1
 refine ogo (mkF m 69 #[rv a1, rv b1, iv w151, iv 1, rv a1, iv 12, iv 6, iv x6] [(.int (own_g (1 : Int32) w151)), (.ref b13), (.ref b1)]) (fun _ k => sg_rmb32_5 X160 hx hby (by decide) (ldcAgain (s := s) X160 hx hZ hown (ow hw 38 rfl) Lt13 (g := (mkF m 61 #[rv a1, rv b1, iv w151, iv 1, rv a1, iv 12, iv 6, iv x6] [(.ref b1)])) rfl (hb hby d3_61) _ (sg_rmb32_1 X160 hx hby k))) ?_
 obtain ⟨q164, hq164⟩ : ∃ z, z = (own_g (1 : Int32) w151) := ⟨_, rfl⟩
 rw [← hq164]
 have O166 := O155.keep K160 (allS gx5 (allS gx33 all0))
 have F167 := F156.keep K160
 have F168 := F157.keep K160 (ninS (Ne.symm ns20.1) (ninS (Ne.symm ns21.1) nin0))
 have F169 := F158.keep K160 (ninS (Ne.symm ns20.1) (ninS (Ne.symm ns21.1) nin0))
 have F170 := F159.keep K160 (ninS (Ne.symm ns20.2) (ninS (Ne.symm ns21.2) nin0))
 refine own_virt (W := 1) X160 hx hZ hown rfl (ow hw 44 rfl) (ow hw 45 rfl) (ow hw 47 rfl) (ow hw 46 rfl) (rmca l Z a0 hw [] b13 bb13 kl13 _ q164 (32 : Int32) cs fv T160.heap n0 Zs162 O166 SC hcs SF hfv F167 F168 F169 F170 (own_31r hq164).1 (own_31r hq164).2) (ow hw 48 rfl) (ow hw 33 rfl) F167 rfl (by rw [hml]; rfl) rfl (hb hby d3_69) (lenOf pd__I_C rfl) rfl (by decide) (fun T165 v165 Ll165 X165 hQ165 => ?_)
 obtain ⟨rfl, N165q, eh165⟩ := hQ165
 have N165 := Fr.app N160 N165q
 have F172 := F161.keep K160
 refine own_virt (W := 0) X165 hx hZ hown eh165 (ow hw 69 rfl) (ow hw 70 rfl) (ow hw 72 rfl) (ow hw 71 rfl) (rmap16 l Z a0 hw [] b1 va_3 kv_3 ([(.int (own_lt (own_al q22))), (.int (own_lt (own_al q42))), (.int (own_lt (own_al q53))), (.int (own_lt (own_al q69))), (.int (own_lt (own_al q84))), (.int (own_lt (own_al q95))), (.int (own_lt (own_al q111))), (.int (own_lt (own_al q122))), (.int (own_lt (own_al q138))), (.int (own_lt (own_al q153)))]) (10 : Int32) (own_al q164) cs T160.heap n0 Zs162 O166 SC hcs F172 gx5 P160_0 P160_1 P160_2 P160_3 gx33 ⟨by decide, by decide⟩ rfl (own_lc8 _)) (ow hw 73 rfl) (ow hw 19 rfl) F172 rfl (by rw [hml]; rfl) rfl (hb hby d3_72) (lenOf pd__C_Ljava_lang_StringBuilder_ rfl) rfl (by decide) (fun T171 v171 Ll171 X171 hQ171 => ?_)
 obtain ⟨rfl, N171q, K171, P171_0, P171_1, P171_2, P171_3⟩ := hQ171
 have N171 := Fr.app N165 N171q
 have Zs173 : n0 ≤ T171.heap.size := Nat.le_trans Zs162 K171.1
 refine ogo (mkF m 87 #[rv a1, rv b1, iv (own_mk (1 : Int32) w151), iv 1, rv a1, iv 12, iv 6, iv x6] []) (fun _ k => sg_rmb32_2 X171 hx hby (by decide) k) ?_
 obtain ⟨w174, hw174⟩ : ∃ z, z = (own_mk (1 : Int32) w151) := ⟨_, rfl⟩
 rw [← hw174]
 refine ogo (mkF m 34 #[rv a1, rv b1, iv w174, iv 1, rv a1, iv 12, iv 7, iv x6] [(.int 7), (.ref a1)]) (fun _ k => sg_rmb32_3 X171 hx hby (by decide) k) ?_
 have F176 := F150.keep K160 (ninS nx9 (ninS nx38 nin0))
 have F177 := F176.keep K171 (ninS nx9 (ninS nx38 nin0))
 refine own_bal (x := x7) X171 hx hZ rfl F177 ⟨by decide, by decide⟩ rfl rfl rfl (hb hby d3_34) ?_
 refine ogo (mkF m 49 #[rv a1, rv b1, iv (own_p8 w174 x7), iv 1, rv a1, iv 12, iv 7, iv x7] []) (fun _ k => sg_rmb32_4 X171 hx hby k) ?_
 obtain ⟨w178, hw178⟩ : ∃ z, z = (own_p8 w174 x7) := ⟨_, rfl⟩
 rw [← hw178]
 refine ogo (mkF m 69 #[rv a1, rv b1, iv w178, iv 4, rv a1, iv 12, iv 7, iv x7] [(.int (own_g (4 : Int32) w178)), (.ref b13), (.ref b1)]) (fun _ k => sg_rmb32_0 X171 hx hby (by decide) (ldcAgain (s := s) X171 hx hZ hown (ow hw 38 rfl) Lt13 (g := (mkF m 61 #[rv a1, rv b1, iv w178, iv 4, rv a1, iv 12, iv 7, iv x7] [(.ref b1)])) rfl (hb hby d3_61) _ (sg_rmb32_1 X171 hx hby k))) ?_
 obtain ⟨q180, hq180⟩ : ∃ z, z = (own_g (4 : Int32) w178) := ⟨_, rfl⟩
 rw [← hq180]
 have O182 := O166.keep K171 (allS gx5 (allS gx33 all0))
 have F183 := F167.keep K171
 have F184 := F168.keep K171 (ninS (Ne.symm ns20.1) (ninS (Ne.symm ns21.1) nin0))
 have F185 := F169.keep K171 (ninS (Ne.symm ns20.1) (ninS (Ne.symm ns21.1) nin0))
 have F186 := F170.keep K171 (ninS (Ne.symm ns20.2) (ninS (Ne.symm ns21.2) nin0))
 refine own_virt (W := 1) X171 hx hZ hown rfl (ow hw 44 rfl) (ow hw 45 rfl) (ow hw 47 rfl) (ow hw 46 rfl) (rmca l Z a0 hw [] b13 bb13 kl13 _ q180 (32 : Int32) cs fv T171.heap n0 Zs173 O182 SC hcs SF hfv F183 F184 F185 F186 (own_31r hq180).1 (own_31r hq180).2) (ow hw 48 rfl) (ow hw 33 rfl) F183 rfl (by rw [hml]; rfl) rfl (hb hby d3_69) (lenOf pd__I_C rfl) rfl (by decide) (fun T181 v181 Ll181 X181 hQ181 => ?_)
 obtain ⟨rfl, N181q, eh181⟩ := hQ181
 have N181 := Fr.app N171 N181q
 have F188 := F172.keep K171
 refine own_virt (W := 0) X181 hx hZ hown eh181 (ow hw 69 rfl) (ow hw 70 rfl) (ow hw 72 rfl) (ow hw 71 rfl) (rmap16 l Z a0 hw [] b1 va_3 kv_3 ([(.int (own_lt (own_al q22))), (.int (own_lt (own_al q42))), (.int (own_lt (own_al q53))), (.int (own_lt (own_al q69))), (.int (own_lt (own_al q84))), (.int (own_lt (own_al q95))), (.int (own_lt (own_al q111))), (.int (own_lt (own_al q122))), (.int (own_lt (own_al q138))), (.int (own_lt (own_al q153))), (.int (own_lt (own_al q164)))]) (11 : Int32) (own_al q180) cs T171.heap n0 Zs173 O182 SC hcs F188 gx5 P171_0 P171_1 P171_2 P171_3 gx33 ⟨by decide, by decide⟩ rfl (own_lc8 _)) (ow hw 73 rfl) (ow hw 19 rfl) F188 rfl (by rw [hml]; rfl) rfl (hb hby d3_72) (lenOf pd__C_Ljava_lang_StringBuilder_ rfl) rfl (by decide) (fun T187 v187 Ll187 X187 hQ187 => ?_)
 obtain ⟨rfl, N187q, K187, P187_0, P187_1, P187_2, P187_3⟩ := hQ187
 have N187 := Fr.app N181 N187q
 have Zs189 : n0 ≤ T187.heap.size := Nat.le_trans Zs173 K187.1
 refine ogo (mkF m 87 #[rv a1, rv b1, iv (own_mk (15 : Int32) w178), iv 4, rv a1, iv 12, iv 7, iv x7] []) (fun _ k => sg_rmb32_2 X187 hx hby (by decide) k) ?_
 obtain ⟨w190, hw190⟩ : ∃ z, z = (own_mk (15 : Int32) w178) := ⟨_, rfl⟩
 rw [← hw190]
 refine ogo (mkF m 34 #[rv a1, rv b1, iv w190, iv 4, rv a1, iv 12, iv 8, iv x7] [(.int 8), (.ref a1)]) (fun _ k => sg_rmb32_3 X187 hx hby (by decide) k) ?_
 have F192 := F177.keep K187 (ninS nx9 (ninS nx38 nin0))
 refine own_bal (x := x8) X187 hx hZ rfl F192 ⟨by decide, by decide⟩ rfl rfl rfl (hb hby d3_34) ?_
 refine ogo (mkF m 49 #[rv a1, rv b1, iv (own_p8 w190 x8), iv 4, rv a1, iv 12, iv 8, iv x8] []) (fun _ k => sg_rmb32_4 X187 hx hby k) ?_
 obtain ⟨w193, hw193⟩ : ∃ z, z = (own_p8 w190 x8) := ⟨_, rfl⟩
 rw [← hw193]
 refine ogo (mkF m 69 #[rv a1, rv b1, iv w193, iv 7, rv a1, iv 12, iv 8, iv x8] [(.int (own_g (7 : Int32) w193)), (.ref b13), (.ref b1)]) (fun _ k => sg_rmb32_0 X187 hx hby (by decide) (ldcAgain (s := s) X187 hx hZ hown (ow hw 38 rfl) Lt13 (g := (mkF m 61 #[rv a1, rv b1, iv w193, iv 7, rv a1, iv 12, iv 8, iv x8] [(.ref b1)])) rfl (hb hby d3_61) _ (sg_rmb32_1 X187 hx hby k))) ?_
 obtain ⟨q195, hq195⟩ : ∃ z, z = (own_g (7 : Int32) w193) := ⟨_, rfl⟩
 rw [← hq195]
 have O197 := O182.keep K187 (allS gx5 (allS gx33 all0))
 have F198 := F183.keep K187
 have F199 := F184.keep K187 (ninS (Ne.symm ns20.1) (ninS (Ne.symm ns21.1) nin0))
 have F200 := F185.keep K187 (ninS (Ne.symm ns20.1) (ninS (Ne.symm ns21.1) nin0))
 have F201 := F186.keep K187 (ninS (Ne.symm ns20.2) (ninS (Ne.symm ns21.2) nin0))
 refine own_virt (W := 1) X187 hx hZ hown rfl (ow hw 44 rfl) (ow hw 45 rfl) (ow hw 47 rfl) (ow hw 46 rfl) (rmca l Z a0 hw [] b13 bb13 kl13 _ q195 (32 : Int32) cs fv T187.heap n0 Zs189 O197 SC hcs SF hfv F198 F199 F200 F201 (own_31r hq195).1 (own_31r hq195).2) (ow hw 48 rfl) (ow hw 33 rfl) F198 rfl (by rw [hml]; rfl) rfl (hb hby d3_69) (lenOf pd__I_C rfl) rfl (by decide) (fun T196 v196 Ll196 X196 hQ196 => ?_)
 obtain ⟨rfl, N196q, eh196⟩ := hQ196
 have N196 := Fr.app N187 N196q
 have F203 := F188.keep K187
 refine own_virt (W := 0) X196 hx hZ hown eh196 (ow hw 69 rfl) (ow hw 70 rfl) (ow hw 72 rfl) (ow hw 71 rfl) (rmap16 l Z a0 hw [] b1 va_3 kv_3 ([(.int (own_lt (own_al q22))), (.int (own_lt (own_al q42))), (.int (own_lt (own_al q53))), (.int (own_lt (own_al q69))), (.int (own_lt (own_al q84))), (.int (own_lt (own_al q95))), (.int (own_lt (own_al q111))), (.int (own_lt (own_al q122))), (.int (own_lt (own_al q138))), (.int (own_lt (own_al q153))), (.int (own_lt (own_al q164))), (.int (own_lt (own_al q180)))]) (12 : Int32) (own_al q195) cs T187.heap n0 Zs189 O197 SC hcs F203 gx5 P187_0 P187_1 P187_2 P187_3 gx33 ⟨by decide, by decide⟩ rfl (own_lc8 _)) (ow hw 73 rfl) (ow hw 19 rfl) F203 rfl (by rw [hml]; rfl) rfl (hb hby d3_72) (lenOf pd__C_Ljava_lang_StringBuilder_ rfl) rfl (by decide) (fun T202 v202 Ll202 X202 hQ202 => ?_)
 obtain ⟨rfl, N202q, K202, P202_0, P202_1, P202_2, P202_3⟩ := hQ202
 have N202 := Fr.app N196 N202q
 have Zs204 : n0 ≤ T202.heap.size := Nat.le_trans Zs189 K202.1
 refine ogo (mkF m 69 #[rv a1, rv b1, iv w193, iv 2, rv a1, iv 12, iv 8, iv x8] [(.int (own_g (2 : Int32) w193)), (.ref b13), (.ref b1)]) (fun _ k => sg_rmb32_5 X202 hx hby (by decide) (ldcAgain (s := s) X202 hx hZ hown (ow hw 38 rfl) Lt13 (g := (mkF m 61 #[rv a1, rv b1, iv w193, iv 2, rv a1, iv 12, iv 8, iv x8] [(.ref b1)])) rfl (hb hby d3_61) _ (sg_rmb32_1 X202 hx hby k))) ?_
 obtain ⟨q206, hq206⟩ : ∃ z, z = (own_g (2 : Int32) w193) := ⟨_, rfl⟩
 rw [← hq206]
 have O208 := O197.keep K202 (allS gx5 (allS gx33 all0))
 have F209 := F198.keep K202
 have F210 := F199.keep K202 (ninS (Ne.symm ns20.1) (ninS (Ne.symm ns21.1) nin0))
 have F211 := F200.keep K202 (ninS (Ne.symm ns20.1) (ninS (Ne.symm ns21.1) nin0))
 have F212 := F201.keep K202 (ninS (Ne.symm ns20.2) (ninS (Ne.symm ns21.2) nin0))
 refine own_virt (W := 1) X202 hx hZ hown rfl (ow hw 44 rfl) (ow hw 45 rfl) (ow hw 47 rfl) (ow hw 46 rfl) (rmca l Z a0 hw [] b13 bb13 kl13 _ q206 (32 : Int32) cs fv T202.heap n0 Zs204 O208 SC hcs SF hfv F209 F210 F211 F212 (own_31r hq206).1 (own_31r hq206).2) (ow hw 48 rfl) (ow hw 33 rfl) F209 rfl (by rw [hml]; rfl) rfl (hb hby d3_69) (lenOf pd__I_C rfl) rfl (by decide) (fun T207 v207 Ll207 X207 hQ207 => ?_)
 obtain ⟨rfl, N207q, eh207⟩ := hQ207
 have N207 := Fr.app N202 N207q
 have F214 := F203.keep K202
 refine own_virt (W := 0) X207 hx hZ hown eh207 (ow hw 69 rfl) (ow hw 70 rfl) (ow hw 72 rfl) (ow hw 71 rfl) (rmap16 l Z a0 hw [] b1 va_3 kv_3 ([(.int (own_lt (own_al q22))), (.int (own_lt (own_al q42))), (.int (own_lt (own_al q53))), (.int (own_lt (own_al q69))), (.int (own_lt (own_al q84))), (.int (own_lt (own_al q95))), (.int (own_lt (own_al q111))), (.int (own_lt (own_al q122))), (.int (own_lt (own_al q138))), (.int (own_lt (own_al q153))), (.int (own_lt (own_al q164))), (.int (own_lt (own_al q180))), (.int (own_lt (own_al q195)))]) (13 : Int32) (own_al q206) cs T202.heap n0 Zs204 O208 SC hcs F214 gx5 P202_0 P202_1 P202_2 P202_3 gx33 ⟨by decide, by decide⟩ rfl (own_lc8 _)) (ow hw 73 rfl) (ow hw 19 rfl) F214 rfl (by rw [hml]; rfl) rfl (hb hby d3_72) (lenOf pd__C_Ljava_lang_StringBuilder_ rfl) rfl (by decide) (fun T213 v213 Ll213 X213 hQ213 => ?_)
 obtain ⟨rfl, N213q, K213, P213_0, P213_1, P213_2, P213_3⟩ := hQ213
 have N213 := Fr.app N207 N213q
 have Zs215 : n0 ≤ T213.heap.size := Nat.le_trans Zs204 K213.1
 refine ogo (mkF m 87 #[rv a1, rv b1, iv (own_mk (3 : Int32) w193), iv 2, rv a1, iv 12, iv 8, iv x8] []) (fun _ k => sg_rmb32_2 X213 hx hby (by decide) k) ?_
 obtain ⟨w216, hw216⟩ : ∃ z, z = (own_mk (3 : Int32) w193) := ⟨_, rfl⟩
 rw [← hw216]
 refine ogo (mkF m 34 #[rv a1, rv b1, iv w216, iv 2, rv a1, iv 12, iv 9, iv x8] [(.int 9), (.ref a1)]) (fun _ k => sg_rmb32_3 X213 hx hby (by decide) k) ?_
 have F218 := F192.keep K202 (ninS nx9 (ninS nx38 nin0))
 have F219 := F218.keep K213 (ninS nx9 (ninS nx38 nin0))
 refine own_bal (x := x9) X213 hx hZ rfl F219 ⟨by decide, by decide⟩ rfl rfl rfl (hb hby d3_34) ?_
 refine ogo (mkF m 49 #[rv a1, rv b1, iv (own_p8 w216 x9), iv 2, rv a1, iv 12, iv 9, iv x9] []) (fun _ k => sg_rmb32_4 X213 hx hby k) ?_
 obtain ⟨w220, hw220⟩ : ∃ z, z = (own_p8 w216 x9) := ⟨_, rfl⟩
 rw [← hw220]
 refine ogo (mkF m 69 #[rv a1, rv b1, iv w220, iv 5, rv a1, iv 12, iv 9, iv x9] [(.int (own_g (5 : Int32) w220)), (.ref b13), (.ref b1)]) (fun _ k => sg_rmb32_0 X213 hx hby (by decide) (ldcAgain (s := s) X213 hx hZ hown (ow hw 38 rfl) Lt13 (g := (mkF m 61 #[rv a1, rv b1, iv w220, iv 5, rv a1, iv 12, iv 9, iv x9] [(.ref b1)])) rfl (hb hby d3_61) _ (sg_rmb32_1 X213 hx hby k))) ?_
 obtain ⟨q222, hq222⟩ : ∃ z, z = (own_g (5 : Int32) w220) := ⟨_, rfl⟩
 rw [← hq222]
 have O224 := O208.keep K213 (allS gx5 (allS gx33 all0))
 have F225 := F209.keep K213
 have F226 := F210.keep K213 (ninS (Ne.symm ns20.1) (ninS (Ne.symm ns21.1) nin0))
 have F227 := F211.keep K213 (ninS (Ne.symm ns20.1) (ninS (Ne.symm ns21.1) nin0))
 have F228 := F212.keep K213 (ninS (Ne.symm ns20.2) (ninS (Ne.symm ns21.2) nin0))
 refine own_virt (W := 1) X213 hx hZ hown rfl (ow hw 44 rfl) (ow hw 45 rfl) (ow hw 47 rfl) (ow hw 46 rfl) (rmca l Z a0 hw [] b13 bb13 kl13 _ q222 (32 : Int32) cs fv T213.heap n0 Zs215 O224 SC hcs SF hfv F225 F226 F227 F228 (own_31r hq222).1 (own_31r hq222).2) (ow hw 48 rfl) (ow hw 33 rfl) F225 rfl (by rw [hml]; rfl) rfl (hb hby d3_69) (lenOf pd__I_C rfl) rfl (by decide) (fun T223 v223 Ll223 X223 hQ223 => ?_)
 obtain ⟨rfl, N223q, eh223⟩ := hQ223
 have N223 := Fr.app N213 N223q
 have F230 := F214.keep K213
 refine own_virt (W := 0) X223 hx hZ hown eh223 (ow hw 69 rfl) (ow hw 70 rfl) (ow hw 72 rfl) (ow hw 71 rfl) (rmap16 l Z a0 hw [] b1 va_3 kv_3 ([(.int (own_lt (own_al q22))), (.int (own_lt (own_al q42))), (.int (own_lt (own_al q53))), (.int (own_lt (own_al q69))), (.int (own_lt (own_al q84))), (.int (own_lt (own_al q95))), (.int (own_lt (own_al q111))), (.int (own_lt (own_al q122))), (.int (own_lt (own_al q138))), (.int (own_lt (own_al q153))), (.int (own_lt (own_al q164))), (.int (own_lt (own_al q180))), (.int (own_lt (own_al q195))), (.int (own_lt (own_al q206)))]) (14 : Int32) (own_al q222) cs T213.heap n0 Zs215 O224 SC hcs F230 gx5 P213_0 P213_1 P213_2 P213_3 gx33 ⟨by decide, by decide⟩ rfl (own_lc8 _)) (ow hw 73 rfl) (ow hw 19 rfl) F230 rfl (by rw [hml]; rfl) rfl (hb hby d3_72) (lenOf pd__C_Ljava_lang_StringBuilder_ rfl) rfl (by decide) (fun T229 v229 Ll229 X229 hQ229 => ?_)
 obtain ⟨rfl, N229q, K229, P229_0, P229_1, P229_2, P229_3⟩ := hQ229
 have N229 := Fr.app N223 N229q
 have Zs231 : n0 ≤ T229.heap.size := Nat.le_trans Zs215 K229.1
 refine ogo (mkF m 69 #[rv a1, rv b1, iv w220, iv 0, rv a1, iv 12, iv 9, iv x9] [(.int (own_g (0 : Int32) w220)), (.ref b13), (.ref b1)]) (fun _ k => sg_rmb32_5 X229 hx hby (by decide) (ldcAgain (s := s) X229 hx hZ hown (ow hw 38 rfl) Lt13 (g := (mkF m 61 #[rv a1, rv b1, iv w220, iv 0, rv a1, iv 12, iv 9, iv x9] [(.ref b1)])) rfl (hb hby d3_61) _ (sg_rmb32_1 X229 hx hby k))) ?_
 obtain ⟨q233, hq233⟩ : ∃ z, z = (own_g (0 : Int32) w220) := ⟨_, rfl⟩
 rw [← hq233]
 have O235 := O224.keep K229 (allS gx5 (allS gx33 all0))
 have F236 := F225.keep K229
 have F237 := F226.keep K229 (ninS (Ne.symm ns20.1) (ninS (Ne.symm ns21.1) nin0))
 have F238 := F227.keep K229 (ninS (Ne.symm ns20.1) (ninS (Ne.symm ns21.1) nin0))
 have F239 := F228.keep K229 (ninS (Ne.symm ns20.2) (ninS (Ne.symm ns21.2) nin0))
 refine own_virt (W := 1) X229 hx hZ hown rfl (ow hw 44 rfl) (ow hw 45 rfl) (ow hw 47 rfl) (ow hw 46 rfl) (rmca l Z a0 hw [] b13 bb13 kl13 _ q233 (32 : Int32) cs fv T229.heap n0 Zs231 O235 SC hcs SF hfv F236 F237 F238 F239 (own_31r hq233).1 (own_31r hq233).2) (ow hw 48 rfl) (ow hw 33 rfl) F236 rfl (by rw [hml]; rfl) rfl (hb hby d3_69) (lenOf pd__I_C rfl) rfl (by decide) (fun T234 v234 Ll234 X234 hQ234 => ?_)
 obtain ⟨rfl, N234q, eh234⟩ := hQ234
 have N234 := Fr.app N229 N234q
 have F241 := F230.keep K229
 refine own_virt (W := 0) X234 hx hZ hown eh234 (ow hw 69 rfl) (ow hw 70 rfl) (ow hw 72 rfl) (ow hw 71 rfl) (rmap16 l Z a0 hw [] b1 va_3 kv_3 ([(.int (own_lt (own_al q22))), (.int (own_lt (own_al q42))), (.int (own_lt (own_al q53))), (.int (own_lt (own_al q69))), (.int (own_lt (own_al q84))), (.int (own_lt (own_al q95))), (.int (own_lt (own_al q111))), (.int (own_lt (own_al q122))), (.int (own_lt (own_al q138))), (.int (own_lt (own_al q153))), (.int (own_lt (own_al q164))), (.int (own_lt (own_al q180))), (.int (own_lt (own_al q195))), (.int (own_lt (own_al q206))), (.int (own_lt (own_al q222)))]) (15 : Int32) (own_al q233) cs T229.heap n0 Zs231 O235 SC hcs F241 gx5 P229_0 P229_1 P229_2 P229_3 gx33 ⟨by decide, by decide⟩ rfl (own_lc8 _)) (ow hw 73 rfl) (ow hw 19 rfl) F241 rfl (by rw [hml]; rfl) rfl (hb hby d3_72) (lenOf pd__C_Ljava_lang_StringBuilder_ rfl) rfl (by decide) (fun T240 v240 Ll240 X240 hQ240 => ?_)
 obtain ⟨rfl, N240q, K240, P240_0, P240_1, P240_2, P240_3⟩ := hQ240
 have N240 := Fr.app N234 N240q
 have Zs242 : n0 ≤ T240.heap.size := Nat.le_trans Zs231 K240.1
 refine ogo (mkF m 87 #[rv a1, rv b1, iv (own_mk (0 : Int32) w220), iv 0, rv a1, iv 12, iv 9, iv x9] []) (fun _ k => sg_rmb32_2 X240 hx hby (by decide) k) ?_
 obtain ⟨w243, hw243⟩ : ∃ z, z = (own_mk (0 : Int32) w220) := ⟨_, rfl⟩
 rw [← hw243]
 refine ogo (mkF m 34 #[rv a1, rv b1, iv w243, iv 0, rv a1, iv 12, iv 10, iv x9] [(.int 10), (.ref a1)]) (fun _ k => sg_rmb32_3 X240 hx hby (by decide) k) ?_
 have F245 := F219.keep K229 (ninS nx9 (ninS nx38 nin0))
 have F246 := F245.keep K240 (ninS nx9 (ninS nx38 nin0))
 refine own_bal (x := x10) X240 hx hZ rfl F246 ⟨by decide, by decide⟩ rfl rfl rfl (hb hby d3_34) ?_
 refine ogo (mkF m 49 #[rv a1, rv b1, iv (own_p8 w243 x10), iv 0, rv a1, iv 12, iv 10, iv x10] []) (fun _ k => sg_rmb32_4 X240 hx hby k) ?_
 obtain ⟨w247, hw247⟩ : ∃ z, z = (own_p8 w243 x10) := ⟨_, rfl⟩
 rw [← hw247]
 refine ogo (mkF m 69 #[rv a1, rv b1, iv w247, iv 3, rv a1, iv 12, iv 10, iv x10] [(.int (own_g (3 : Int32) w247)), (.ref b13), (.ref b1)]) (fun _ k => sg_rmb32_0 X240 hx hby (by decide) (ldcAgain (s := s) X240 hx hZ hown (ow hw 38 rfl) Lt13 (g := (mkF m 61 #[rv a1, rv b1, iv w247, iv 3, rv a1, iv 12, iv 10, iv x10] [(.ref b1)])) rfl (hb hby d3_61) _ (sg_rmb32_1 X240 hx hby k))) ?_
 obtain ⟨q249, hq249⟩ : ∃ z, z = (own_g (3 : Int32) w247) := ⟨_, rfl⟩
 rw [← hq249]
 have O251 := O235.keep K240 (allS gx5 (allS gx33 all0))
 have F252 := F236.keep K240
 have F253 := F237.keep K240 (ninS (Ne.symm ns20.1) (ninS (Ne.symm ns21.1) nin0))
 have F254 := F238.keep K240 (ninS (Ne.symm ns20.1) (ninS (Ne.symm ns21.1) nin0))
 have F255 := F239.keep K240 (ninS (Ne.symm ns20.2) (ninS (Ne.symm ns21.2) nin0))
 refine own_virt (W := 1) X240 hx hZ hown rfl (ow hw 44 rfl) (ow hw 45 rfl) (ow hw 47 rfl) (ow hw 46 rfl) (rmca l Z a0 hw [] b13 bb13 kl13 _ q249 (32 : Int32) cs fv T240.heap n0 Zs242 O251 SC hcs SF hfv F252 F253 F254 F255 (own_31r hq249).1 (own_31r hq249).2) (ow hw 48 rfl) (ow hw 33 rfl) F252 rfl (by rw [hml]; rfl) rfl (hb hby d3_69) (lenOf pd__I_C rfl) rfl (by decide) (fun T250 v250 Ll250 X250 hQ250 => ?_)
 obtain ⟨rfl, N250q, eh250⟩ := hQ250
 have N250 := Fr.app N240 N250q
 have F257 := F241.keep K240
 refine own_virt (W := 0) X250 hx hZ hown eh250 (ow hw 69 rfl) (ow hw 70 rfl) (ow hw 72 rfl) (ow hw 71 rfl) (rmapG l Z a0 hw [] b1 va_3 kv_3 ([(.int (own_lt (own_al q22))), (.int (own_lt (own_al q42))), (.int (own_lt (own_al q53))), (.int (own_lt (own_al q69))), (.int (own_lt (own_al q84))), (.int (own_lt (own_al q95))), (.int (own_lt (own_al q111))), (.int (own_lt (own_al q122))), (.int (own_lt (own_al q138))), (.int (own_lt (own_al q153))), (.int (own_lt (own_al q164))), (.int (own_lt (own_al q180))), (.int (own_lt (own_al q195))), (.int (own_lt (own_al q206))), (.int (own_lt (own_al q222))), (.int (own_lt (own_al q233)))]) (own_al q249) cs T240.heap n0 Zs242 O251 SC hcs F257 gx5 P240_0 P240_1 P240_2 P240_3 rfl (own_lc8 _)) (ow hw 73 rfl) (ow hw 19 rfl) F257 rfl (by rw [hml]; rfl) rfl (hb hby d3_72) (lenOf pd__C_Ljava_lang_StringBuilder_ rfl) rfl (by decide) (fun T256 v256 Ll256 X256 hQ256 => ?_)
 obtain ⟨vb_256, kvb_256, rfl, N256q, K256, P256_0, P256_1, P256_2, P256_3, P256_4⟩ := hQ256
 have N256 := Fr.app N250 N256q
 have Zs258 : n0 ≤ T256.heap.size := Nat.le_trans Zs242 K256.1
 refine ogo (mkF m 87 #[rv a1, rv b1, iv (own_mk (7 : Int32) w247), iv 3, rv a1, iv 12, iv 10, iv x10] []) (fun _ k => sg_rmb32_2 X256 hx hby (by decide) k) ?_
 obtain ⟨w259, hw259⟩ : ∃ z, z = (own_mk (7 : Int32) w247) := ⟨_, rfl⟩
 rw [← hw259]
 refine ogo (mkF m 34 #[rv a1, rv b1, iv w259, iv 3, rv a1, iv 12, iv 11, iv x10] [(.int 11), (.ref a1)]) (fun _ k => sg_rmb32_3 X256 hx hby (by decide) k) ?_
 have F261 := F246.keep K256 (ninS nx9 nin0)
 refine own_bal (x := x11) X256 hx hZ rfl F261 ⟨by decide, by decide⟩ rfl rfl rfl (hb hby d3_34) ?_
 refine ogo (mkF m 49 #[rv a1, rv b1, iv (own_p8 w259 x11), iv 3, rv a1, iv 12, iv 11, iv x11] []) (fun _ k => sg_rmb32_4 X256 hx hby k) ?_
 obtain ⟨w262, hw262⟩ : ∃ z, z = (own_p8 w259 x11) := ⟨_, rfl⟩
 rw [← hw262]
 refine ogo (mkF m 69 #[rv a1, rv b1, iv w262, iv 6, rv a1, iv 12, iv 11, iv x11] [(.int (own_g (6 : Int32) w262)), (.ref b13), (.ref b1)]) (fun _ k => sg_rmb32_0 X256 hx hby (by decide) (ldcAgain (s := s) X256 hx hZ hown (ow hw 38 rfl) Lt13 (g := (mkF m 61 #[rv a1, rv b1, iv w262, iv 6, rv a1, iv 12, iv 11, iv x11] [(.ref b1)])) rfl (hb hby d3_61) _ (sg_rmb32_1 X256 hx hby k))) ?_
 obtain ⟨q264, hq264⟩ : ∃ z, z = (own_g (6 : Int32) w262) := ⟨_, rfl⟩
 rw [← hq264]
 have O266 := O251.keep K256 (allS gx5 all0)
 have F267 := F252.keep K256
 have F268 := F253.keep K256 (ninS (Ne.symm ns20.1) nin0)
 have F269 := F254.keep K256 (ninS (Ne.symm ns20.1) nin0)
 have F270 := F255.keep K256 (ninS (Ne.symm ns20.2) nin0)
 refine own_virt (W := 1) X256 hx hZ hown rfl (ow hw 44 rfl) (ow hw 45 rfl) (ow hw 47 rfl) (ow hw 46 rfl) (rmca l Z a0 hw [] b13 bb13 kl13 _ q264 (32 : Int32) cs fv T256.heap n0 Zs258 O266 SC hcs SF hfv F267 F268 F269 F270 (own_31r hq264).1 (own_31r hq264).2) (ow hw 48 rfl) (ow hw 33 rfl) F267 rfl (by rw [hml]; rfl) rfl (hb hby d3_69) (lenOf pd__I_C rfl) rfl (by decide) (fun T265 v265 Ll265 X265 hQ265 => ?_)
 obtain ⟨rfl, N265q, eh265⟩ := hQ265
 have N265 := Fr.app N256 N265q
 have F272 := F257.keep K256
 have gx273 : n0 ≤ vb_256 := Nat.le_trans Zs242 P256_0
 refine own_virt (W := 0) X265 hx hZ hown eh265 (ow hw 69 rfl) (ow hw 70 rfl) (ow hw 72 rfl) (ow hw 71 rfl) (rmap34 l Z a0 hw [] b1 vb_256 kvb_256 ([(.int (own_lt (own_al q22))), (.int (own_lt (own_al q42))), (.int (own_lt (own_al q53))), (.int (own_lt (own_al q69))), (.int (own_lt (own_al q84))), (.int (own_lt (own_al q95))), (.int (own_lt (own_al q111))), (.int (own_lt (own_al q122))), (.int (own_lt (own_al q138))), (.int (own_lt (own_al q153))), (.int (own_lt (own_al q164))), (.int (own_lt (own_al q180))), (.int (own_lt (own_al q195))), (.int (own_lt (own_al q206))), (.int (own_lt (own_al q222))), (.int (own_lt (own_al q233))), (.int (own_lt (own_al q249)))]) (17 : Int32) (own_al q264) cs T256.heap n0 Zs258 O266 SC hcs F272 gx5 P256_1 P256_2 P256_3 P256_4 gx273 ⟨by decide, by decide⟩ rfl (own_lc8 _)) (ow hw 73 rfl) (ow hw 19 rfl) F272 rfl (by rw [hml]; rfl) rfl (hb hby d3_72) (lenOf pd__C_Ljava_lang_StringBuilder_ rfl) rfl (by decide) (fun T271 v271 Ll271 X271 hQ271 => ?_)
 obtain ⟨rfl, N271q, K271, P271_0, P271_1, P271_2, P271_3⟩ := hQ271
 have N271 := Fr.app N265 N271q
 have Zs274 : n0 ≤ T271.heap.size := Nat.le_trans Zs258 K271.1
 refine ogo (mkF m 69 #[rv a1, rv b1, iv w262, iv 1, rv a1, iv 12, iv 11, iv x11] [(.int (own_g (1 : Int32) w262)), (.ref b13), (.ref b1)]) (fun _ k => sg_rmb32_5 X271 hx hby (by decide) (ldcAgain (s := s) X271 hx hZ hown (ow hw 38 rfl) Lt13 (g := (mkF m 61 #[rv a1, rv b1, iv w262, iv 1, rv a1, iv 12, iv 11, iv x11] [(.ref b1)])) rfl (hb hby d3_61) _ (sg_rmb32_1 X271 hx hby k))) ?_
 obtain ⟨q276, hq276⟩ : ∃ z, z = (own_g (1 : Int32) w262) := ⟨_, rfl⟩
 rw [← hq276]
 have O278 := O266.keep K271 (allS gx5 (allS gx273 all0))
 have F279 := F267.keep K271
 have nx280 : b13 ≠ vb_256 := (own_ne Ex13.lt (own_tr (own_tr (own_tr (own_tr (own_tr (own_tr (own_tr (own_tr (own_tr (own_tr (own_tr (own_tr (own_tr (own_tr (own_tr K26.1 K49.1) K60.1) K76.1) K91.1) K102.1) K118.1) K129.1) K145.1) K160.1) K171.1) K187.1) K202.1) K213.1) K229.1) K240.1) P256_0)
 have F281 := F268.keep K271 (ninS (Ne.symm ns20.1) (ninS nx280 nin0))
 have F282 := F269.keep K271 (ninS (Ne.symm ns20.1) (ninS nx280 nin0))
 have nx283 : bb13 ≠ vb_256 := (own_ne V13.lt (own_tr (own_tr (own_tr (own_tr (own_tr (own_tr (own_tr (own_tr (own_tr (own_tr (own_tr (own_tr (own_tr (own_tr (own_tr K26.1 K49.1) K60.1) K76.1) K91.1) K102.1) K118.1) K129.1) K145.1) K160.1) K171.1) K187.1) K202.1) K213.1) K229.1) K240.1) P256_0)
 have F284 := F270.keep K271 (ninS (Ne.symm ns20.2) (ninS nx283 nin0))
 refine own_virt (W := 1) X271 hx hZ hown rfl (ow hw 44 rfl) (ow hw 45 rfl) (ow hw 47 rfl) (ow hw 46 rfl) (rmca l Z a0 hw [] b13 bb13 kl13 _ q276 (32 : Int32) cs fv T271.heap n0 Zs274 O278 SC hcs SF hfv F279 F281 F282 F284 (own_31r hq276).1 (own_31r hq276).2) (ow hw 48 rfl) (ow hw 33 rfl) F279 rfl (by rw [hml]; rfl) rfl (hb hby d3_69) (lenOf pd__I_C rfl) rfl (by decide) (fun T277 v277 Ll277 X277 hQ277 => ?_)
 obtain ⟨rfl, N277q, eh277⟩ := hQ277
 have N277 := Fr.app N271 N277q
 have F286 := F272.keep K271
 refine own_virt (W := 0) X277 hx hZ hown eh277 (ow hw 69 rfl) (ow hw 70 rfl) (ow hw 72 rfl) (ow hw 71 rfl) (rmap34 l Z a0 hw [] b1 vb_256 kvb_256 ([(.int (own_lt (own_al q22))), (.int (own_lt (own_al q42))), (.int (own_lt (own_al q53))), (.int (own_lt (own_al q69))), (.int (own_lt (own_al q84))), (.int (own_lt (own_al q95))), (.int (own_lt (own_al q111))), (.int (own_lt (own_al q122))), (.int (own_lt (own_al q138))), (.int (own_lt (own_al q153))), (.int (own_lt (own_al q164))), (.int (own_lt (own_al q180))), (.int (own_lt (own_al q195))), (.int (own_lt (own_al q206))), (.int (own_lt (own_al q222))), (.int (own_lt (own_al q233))), (.int (own_lt (own_al q249))), (.int (own_lt (own_al q264)))]) (18 : Int32) (own_al q276) cs T271.heap n0 Zs274 O278 SC hcs F286 gx5 P271_0 P271_1 P271_2 P271_3 gx273 ⟨by decide, by decide⟩ rfl (own_lc8 _)) (ow hw 73 rfl) (ow hw 19 rfl) F286 rfl (by rw [hml]; rfl) rfl (hb hby d3_72) (lenOf pd__C_Ljava_lang_StringBuilder_ rfl) rfl (by decide) (fun T285 v285 Ll285 X285 hQ285 => ?_)
 obtain ⟨rfl, N285q, K285, P285_0, P285_1, P285_2, P285_3⟩ := hQ285
 have N285 := Fr.app N277 N285q
 have Zs287 : n0 ≤ T285.heap.size := Nat.le_trans Zs274 K285.1
 refine ogo (mkF m 87 #[rv a1, rv b1, iv (own_mk (1 : Int32) w262), iv 1, rv a1, iv 12, iv 11, iv x11] []) (fun _ k => sg_rmb32_2 X285 hx hby (by decide) k) ?_
 obtain ⟨w288, hw288⟩ : ∃ z, z = (own_mk (1 : Int32) w262) := ⟨_, rfl⟩
 rw [← hw288]
 refine ogo (mkF m 108 #[rv a1, rv b1, iv w288, iv 1, rv a1, iv 12, iv 12, iv x11] [(.int (own_g4 w288)), (.ref b13), (.ref b1)]) (fun _ k => XS.iinc X285.here hx rfl (hb hby d3_87) rfl (l' := #[rv a1, rv b1, iv w288, iv 1, rv a1, iv 12, iv 12, iv x11]) rfl (XS.goto X285.here hx rfl (pc0 := 90) (pc' := 23) rfl (hb hby d3_90) (by decide) (by decide) (XS.iload X285.here hx rfl (hb hby d3_23) rfl (XS.iload X285.here hx rfl (hb hby d3_25) rfl (XS.icmpYes X285.here hx rfl (pc0 := 27) (pc' := 93) rfl (hb hby d3_27) rfl (flt (by decide : ¬ ((12 : Int32) < (12 : Int32)))).2.1 (by decide) (by decide) (XS.iloadN X285.here hx rfl (hb hby d3_93) rfl (XS.ifNo X285.here hx rfl (hb hby d3_94) rfl ((if0 _ _).trans (tlt (by decide : (0 : Int32) < (1 : Int32))).2.2.2) (XS.aloadN X285.here hx rfl (hb hby d3_97) rfl rfl (ldcAgain (s := s) X285 hx hZ hown (ow hw 38 rfl) Lt13 (g := (mkF m 98 #[rv a1, rv b1, iv w288, iv 1, rv a1, iv 12, iv 12, iv x11] [(.ref b1)])) rfl (hb hby d3_98) _ (XS.iloadN X285.here hx rfl (hb hby d3_100) rfl (XS.iconst X285.here hx rfl (hb hby d3_101) (XS.iloadN X285.here hx rfl (hb hby d3_102) rfl (XS.isub X285.here hx rfl (hb hby d3_103) rfl (XS.ishl X285.here hx rfl (hb hby d3_104) rfl (XS.bipush X285.here hx rfl (hb hby d3_105) (XS.iand X285.here hx rfl (hb hby d3_107) rfl k)))))))))))))))) ?_
 obtain ⟨q290, hq290⟩ : ∃ z, z = (own_g4 w288) := ⟨_, rfl⟩
 rw [← hq290]
 have O292 := O278.keep K285 (allS gx5 (allS gx273 all0))
 have F293 := F279.keep K285
 have F294 := F281.keep K285 (ninS (Ne.symm ns20.1) (ninS nx280 nin0))
 have F295 := F282.keep K285 (ninS (Ne.symm ns20.1) (ninS nx280 nin0))
 have F296 := F284.keep K285 (ninS (Ne.symm ns20.2) (ninS nx283 nin0))
 refine own_virt (W := 1) X285 hx hZ hown rfl (ow hw 44 rfl) (ow hw 45 rfl) (ow hw 47 rfl) (ow hw 46 rfl) (rmca l Z a0 hw [] b13 bb13 kl13 _ q290 (32 : Int32) cs fv T285.heap n0 Zs287 O292 SC hcs SF hfv F293 F294 F295 F296 (own_31r hq290).1 (own_31r hq290).2) (ow hw 48 rfl) (ow hw 33 rfl) F293 rfl (by rw [hml]; rfl) rfl (hb hby d3_108) (lenOf pd__I_C rfl) rfl (by decide) (fun T291 v291 Ll291 X291 hQ291 => ?_)
 obtain ⟨rfl, N291q, eh291⟩ := hQ291
 have N291 := Fr.app N285 N291q
 have F298 := F286.keep K285
 refine own_virt (W := 0) X291 hx hZ hown eh291 (ow hw 69 rfl) (ow hw 70 rfl) (ow hw 72 rfl) (ow hw 71 rfl) (rmap34 l Z a0 hw [] b1 vb_256 kvb_256 ([(.int (own_lt (own_al q22))), (.int (own_lt (own_al q42))), (.int (own_lt (own_al q53))), (.int (own_lt (own_al q69))), (.int (own_lt (own_al q84))), (.int (own_lt (own_al q95))), (.int (own_lt (own_al q111))), (.int (own_lt (own_al q122))), (.int (own_lt (own_al q138))), (.int (own_lt (own_al q153))), (.int (own_lt (own_al q164))), (.int (own_lt (own_al q180))), (.int (own_lt (own_al q195))), (.int (own_lt (own_al q206))), (.int (own_lt (own_al q222))), (.int (own_lt (own_al q233))), (.int (own_lt (own_al q249))), (.int (own_lt (own_al q264))), (.int (own_lt (own_al q276)))]) (19 : Int32) (own_al q290) cs T285.heap n0 Zs287 O292 SC hcs F298 gx5 P285_0 P285_1 P285_2 P285_3 gx273 ⟨by decide, by decide⟩ rfl (own_lc8 _)) (ow hw 73 rfl) (ow hw 19 rfl) F298 rfl (by rw [hml]; rfl) rfl (hb hby d3_111) (lenOf pd__C_Ljava_lang_StringBuilder_ rfl) rfl (by decide) (fun T297 v297 Ll297 X297 hQ297 => ?_)
 obtain ⟨rfl, N297q, K297, P297_0, P297_1, P297_2, P297_3⟩ := hQ297
 have N297 := Fr.app N291 N297q
 have Zs299 : n0 ≤ T297.heap.size := Nat.le_trans Zs287 K297.1
 refine ogo (mkF m 116 #[rv a1, rv b1, iv w288, iv 1, rv a1, iv 12, iv 12, iv x11] [(.ref b1)]) (fun _ k => XS.pop X297.here hx rfl (hb hby d3_114) rfl rfl (XS.aloadN X297.here hx rfl (hb hby d3_115) rfl rfl k)) ?_
 have O301 := O292.keep K297 (allS gx5 (allS gx273 all0))
 have F302 := F298.keep K297
 refine own_virt (W := 0) X297 hx hZ hown rfl (ow hw 117 rfl) (ow hw 118 rfl) (ow hw 120 rfl) (ow hw 119 rfl) (rmts34 l Z a0 hw [] b1 vb_256 kvb_256 ([(.int (own_lt (own_al q22))), (.int (own_lt (own_al q42))), (.int (own_lt (own_al q53))), (.int (own_lt (own_al q69))), (.int (own_lt (own_al q84))), (.int (own_lt (own_al q95))), (.int (own_lt (own_al q111))), (.int (own_lt (own_al q122))), (.int (own_lt (own_al q138))), (.int (own_lt (own_al q153))), (.int (own_lt (own_al q164))), (.int (own_lt (own_al q180))), (.int (own_lt (own_al q195))), (.int (own_lt (own_al q206))), (.int (own_lt (own_al q222))), (.int (own_lt (own_al q233))), (.int (own_lt (own_al q249))), (.int (own_lt (own_al q264))), (.int (own_lt (own_al q276))), (.int (own_lt (own_al q290)))]) cs T297.heap n0 Zs299 O301 SC hcs F302 P297_0 P297_1 P297_2 P297_3 rfl) (ow hw 121 rfl) (ow hw 19 rfl) F302 rfl (by rw [hml]; rfl) rfl (hb hby d3_116) (lenOf pd___Ljava_lang_String_ rfl) rfl (by decide) (fun T300 v300 Ll300 X300 hQ300 => ?_)
 obtain ⟨a_300, b_300, kb_300, rfl, N300q, K300, P300_0, P300_1, P300_2, P300_3, P300_4, P300_5⟩ := hQ300
 have N300 := Fr.app N297 N300q
 have Zs303 : n0 ≤ T300.heap.size := Nat.le_trans Zs299 K300.1
 have nx304 : a1 ≠ vb_256 := (own_ne V_a1.lt (own_tr (own_tr (own_tr (own_tr (own_tr (own_tr (own_tr (own_tr (own_tr (own_tr (own_tr (own_tr (own_tr (own_tr (own_tr (own_tr (own_tr (own_tr E1.1 K3.1) E13.1) K26.1) K49.1) K60.1) K76.1) K91.1) K102.1) K118.1) K129.1) K145.1) K160.1) K171.1) K187.1) K202.1) K213.1) K229.1) K240.1) P256_0)
 have F305 := F261.keep K271 (ninS nx9 (ninS nx304 nin0))
 have F306 := F305.keep K285 (ninS nx9 (ninS nx304 nin0))
 have F307 := F306.keep K297 (ninS nx9 (ninS nx304 nin0))
 have F308 := F307.keep K300 nin0
 have F309 := F296.keep K297 (ninS (Ne.symm ns20.2) (ninS nx283 nin0))
 have F310 := F309.keep K300 nin0
 have nx311 : va_3 ≠ b1 := (Ne.symm (own_ne A1.lt (Nat.le_refl _) P3_0))
 have F312 := P240_3.keep K256 (ninS nx311 nin0)
 have nx313 : va_3 ≠ vb_256 := (own_ne P3_3.lt (own_tr (own_tr (own_tr (own_tr (own_tr (own_tr (own_tr (own_tr (own_tr (own_tr (own_tr (own_tr (own_tr (own_tr (own_tr (own_tr E13.1 K26.1) K49.1) K60.1) K76.1) K91.1) K102.1) K118.1) K129.1) K145.1) K160.1) K171.1) K187.1) K202.1) K213.1) K229.1) K240.1) P256_0)
 have F314 := F312.keep K271 (ninS nx311 (ninS nx313 nin0))
 have F315 := F314.keep K285 (ninS nx311 (ninS nx313 nin0))
 have F316 := F315.keep K297 (ninS nx311 (ninS nx313 nin0))
 have F317 := F316.keep K300 nin0
 have F318 := P297_3.keep K300 nin0
 subst hq290; subst hw288; subst hq276; subst hq264; subst hw262; subst hw259; subst hq249; subst hw247; subst hw243; subst hq233; subst hq222; subst hw220; subst hw216; subst hq206; subst hq195; subst hw193; subst hw190; subst hq180; subst hw178; subst hw174; subst hq164; subst hq153; subst hw151; subst hw148; subst hq138; subst hw136; subst hw132; subst hq122; subst hq111; subst hw109; subst hw105; subst hq95; subst hq84; subst hw82; subst hw79; subst hq69; subst hw67; subst hw63; subst hq53; subst hq42; subst hw40; subst hw35; subst hq22; subst hw12
 have K319 := (Keep.refl h0 []).ext E1
 have K320 := K319.trans K3 (allS (Or.inr (Nat.le_trans (Nat.le_refl _) (Nat.le_of_eq g1.symm))) all0)
 have K321 := K320.ext E13
 have K322 := K321.trans K26 (allS (Or.inr (Nat.le_trans (Nat.le_refl _) (Nat.le_of_eq g1.symm))) (allS (Or.inr (Nat.le_trans E1.1 P3_0)) all0))
 have K323 := K322.trans K49 (allS (Or.inr (Nat.le_trans (Nat.le_refl _) (Nat.le_of_eq g1.symm))) (allS (Or.inr (Nat.le_trans E1.1 P3_0)) all0))
 have K324 := K323.trans K60 (allS (Or.inr (Nat.le_trans (Nat.le_refl _) (Nat.le_of_eq g1.symm))) (allS (Or.inr (Nat.le_trans E1.1 P3_0)) all0))
 have K325 := K324.trans K76 (allS (Or.inr (Nat.le_trans (Nat.le_refl _) (Nat.le_of_eq g1.symm))) (allS (Or.inr (Nat.le_trans E1.1 P3_0)) all0))
 have K326 := K325.trans K91 (allS (Or.inr (Nat.le_trans (Nat.le_refl _) (Nat.le_of_eq g1.symm))) (allS (Or.inr (Nat.le_trans E1.1 P3_0)) all0))
 have K327 := K326.trans K102 (allS (Or.inr (Nat.le_trans (Nat.le_refl _) (Nat.le_of_eq g1.symm))) (allS (Or.inr (Nat.le_trans E1.1 P3_0)) all0))
 have K328 := K327.trans K118 (allS (Or.inr (Nat.le_trans (Nat.le_refl _) (Nat.le_of_eq g1.symm))) (allS (Or.inr (Nat.le_trans E1.1 P3_0)) all0))
 have K329 := K328.trans K129 (allS (Or.inr (Nat.le_trans (Nat.le_refl _) (Nat.le_of_eq g1.symm))) (allS (Or.inr (Nat.le_trans E1.1 P3_0)) all0))
 have K330 := K329.trans K145 (allS (Or.inr (Nat.le_trans (Nat.le_refl _) (Nat.le_of_eq g1.symm))) (allS (Or.inr (Nat.le_trans E1.1 P3_0)) all0))
 have K331 := K330.trans K160 (allS (Or.inr (Nat.le_trans (Nat.le_refl _) (Nat.le_of_eq g1.symm))) (allS (Or.inr (Nat.le_trans E1.1 P3_0)) all0))
 have K332 := K331.trans K171 (allS (Or.inr (Nat.le_trans (Nat.le_refl _) (Nat.le_of_eq g1.symm))) (allS (Or.inr (Nat.le_trans E1.1 P3_0)) all0))
 have K333 := K332.trans K187 (allS (Or.inr (Nat.le_trans (Nat.le_refl _) (Nat.le_of_eq g1.symm))) (allS (Or.inr (Nat.le_trans E1.1 P3_0)) all0))
 have K334 := K333.trans K202 (allS (Or.inr (Nat.le_trans (Nat.le_refl _) (Nat.le_of_eq g1.symm))) (allS (Or.inr (Nat.le_trans E1.1 P3_0)) all0))
 have K335 := K334.trans K213 (allS (Or.inr (Nat.le_trans (Nat.le_refl _) (Nat.le_of_eq g1.symm))) (allS (Or.inr (Nat.le_trans E1.1 P3_0)) all0))
 have K336 := K335.trans K229 (allS (Or.inr (Nat.le_trans (Nat.le_refl _) (Nat.le_of_eq g1.symm))) (allS (Or.inr (Nat.le_trans E1.1 P3_0)) all0))
 have K337 := K336.trans K240 (allS (Or.inr (Nat.le_trans (Nat.le_refl _) (Nat.le_of_eq g1.symm))) (allS (Or.inr (Nat.le_trans E1.1 P3_0)) all0))
 have K338 := K337.trans K256 (allS (Or.inr (Nat.le_trans (Nat.le_refl _) (Nat.le_of_eq g1.symm))) all0)
 have K339 := K338.trans K271 (allS (Or.inr (Nat.le_trans (Nat.le_refl _) (Nat.le_of_eq g1.symm))) (allS (Or.inr (Nat.le_trans (own_tr (own_tr (own_tr (own_tr (own_tr (own_tr (own_tr (own_tr (own_tr (own_tr (own_tr (own_tr (own_tr (own_tr (own_tr (own_tr (own_tr (own_tr E1.1 K3.1) E13.1) K26.1) K49.1) K60.1) K76.1) K91.1) K102.1) K118.1) K129.1) K145.1) K160.1) K171.1) K187.1) K202.1) K213.1) K229.1) K240.1) P256_0)) all0))
 have K340 := K339.trans K285 (allS (Or.inr (Nat.le_trans (Nat.le_refl _) (Nat.le_of_eq g1.symm))) (allS (Or.inr (Nat.le_trans (own_tr (own_tr (own_tr (own_tr (own_tr (own_tr (own_tr (own_tr (own_tr (own_tr (own_tr (own_tr (own_tr (own_tr (own_tr (own_tr (own_tr (own_tr E1.1 K3.1) E13.1) K26.1) K49.1) K60.1) K76.1) K91.1) K102.1) K118.1) K129.1) K145.1) K160.1) K171.1) K187.1) K202.1) K213.1) K229.1) K240.1) P256_0)) all0))
 have K341 := K340.trans K297 (allS (Or.inr (Nat.le_trans (Nat.le_refl _) (Nat.le_of_eq g1.symm))) (allS (Or.inr (Nat.le_trans (own_tr (own_tr (own_tr (own_tr (own_tr (own_tr (own_tr (own_tr (own_tr (own_tr (own_tr (own_tr (own_tr (own_tr (own_tr (own_tr (own_tr (own_tr E1.1 K3.1) E13.1) K26.1) K49.1) K60.1) K76.1) K91.1) K102.1) K118.1) K129.1) K145.1) K160.1) K171.1) K187.1) K202.1) K213.1) K229.1) K240.1) P256_0)) all0))
 have K342 := K341.trans K300 all0
 have F343 := F293.keep K297
 have F344 := F343.keep K300
 have F345 := F294.keep K297 (ninS (Ne.symm ns20.1) (ninS nx280 nin0))
 have F346 := F345.keep K300 nin0
 have F347 := F295.keep K297 (ninS (Ne.symm ns20.1) (ninS nx280 nin0))
 have F348 := F347.keep K300 nin0
 obtain ⟨fs, hr, hrun, hended, hRE⟩ := Stand.leaveW (s := s) X300 Sn13 (by exact Nat.le_trans hk13 (own_tr (own_tr (own_tr (own_tr (own_tr (own_tr (own_tr (own_tr (own_tr (own_tr (own_tr (own_tr (own_tr (own_tr (own_tr (own_tr (own_tr (own_tr (own_tr (own_tr K26.1 K49.1) K60.1) K76.1) K91.1) K102.1) K118.1) K129.1) K145.1) K160.1) K171.1) K187.1) K202.1) K213.1) K229.1) K240.1) K256.1) K271.1) K285.1) K297.1) K300.1)) (v := some (.ref a_300)) (fun h => by rw [Bd.returns] at h; cases h)
 exact ⟨_, _, retOut X300 hx Bd.returns rfl (Or.inr (Or.inr (Or.inr (Or.inr ⟨rfl, rfl, rfl⟩)))) (hb hby d3_119) hr, hrun, hended, _, _, rfl, (show Qrmb32 Z _ _ _ _ _ _ _ _ _ _ _ _ _ _ _ _ h0 n0 _ T300.heap _ T300.vm from (by exact ⟨a_300, b_300, kb_300, (own_lt (own_al (own_g (3 : Int32) (own_p8 (0 : Int32) x0)))), (own_lt (own_al (own_g (6 : Int32) (own_p8 (own_mk (7 : Int32) (own_p8 (0 : Int32) x0)) x1)))), (own_lt (own_al (own_g (1 : Int32) (own_p8 (own_mk (7 : Int32) (own_p8 (0 : Int32) x0)) x1)))), (own_lt (own_al (own_g (4 : Int32) (own_p8 (own_mk (1 : Int32) (own_p8 (own_mk (7 : Int32) (own_p8 (0 : Int32) x0)) x1)) x2)))), (own_lt (own_al (own_g (7 : Int32) (own_p8 (own_mk (15 : Int32) (own_p8 (own_mk (1 : Int32) (own_p8 (own_mk (7 : Int32) (own_p8 (0 : Int32) x0)) x1)) x2)) x3)))), (own_lt (own_al (own_g (2 : Int32) (own_p8 (own_mk (15 : Int32) (own_p8 (own_mk (1 : Int32) (own_p8 (own_mk (7 : Int32) (own_p8 (0 : Int32) x0)) x1)) x2)) x3)))), (own_lt (own_al (own_g (5 : Int32) (own_p8 (own_mk (3 : Int32) (own_p8 (own_mk (15 : Int32) (own_p8 (own_mk (1 : Int32) (own_p8 (own_mk (7 : Int32) (own_p8 (0 : Int32) x0)) x1)) x2)) x3)) x4)))), (own_lt (own_al (own_g (0 : Int32) (own_p8 (own_mk (3 : Int32) (own_p8 (own_mk (15 : Int32) (own_p8 (own_mk (1 : Int32) (own_p8 (own_mk (7 : Int32) (own_p8 (0 : Int32) x0)) x1)) x2)) x3)) x4)))), (own_lt (own_al (own_g (3 : Int32) (own_p8 (own_mk (0 : Int32) (own_p8 (own_mk (3 : Int32) (own_p8 (own_mk (15 : Int32) (own_p8 (own_mk (1 : Int32) (own_p8 (own_mk (7 : Int32) (own_p8 (0 : Int32) x0)) x1)) x2)) x3)) x4)) x5)))), (own_lt (own_al (own_g (6 : Int32) (own_p8 (own_mk (7 : Int32) (own_p8 (own_mk (0 : Int32) (own_p8 (own_mk (3 : Int32) (own_p8 (own_mk (15 : Int32) (own_p8 (own_mk (1 : Int32) (own_p8 (own_mk (7 : Int32) (own_p8 (0 : Int32) x0)) x1)) x2)) x3)) x4)) x5)) x6)))), (own_lt (own_al (own_g (1 : Int32) (own_p8 (own_mk (7 : Int32) (own_p8 (own_mk (0 : Int32) (own_p8 (own_mk (3 : Int32) (own_p8 (own_mk (15 : Int32) (own_p8 (own_mk (1 : Int32) (own_p8 (own_mk (7 : Int32) (own_p8 (0 : Int32) x0)) x1)) x2)) x3)) x4)) x5)) x6)))), (own_lt (own_al (own_g (4 : Int32) (own_p8 (own_mk (1 : Int32) (own_p8 (own_mk (7 : Int32) (own_p8 (own_mk (0 : Int32) (own_p8 (own_mk (3 : Int32) (own_p8 (own_mk (15 : Int32) (own_p8 (own_mk (1 : Int32) (own_p8 (own_mk (7 : Int32) (own_p8 (0 : Int32) x0)) x1)) x2)) x3)) x4)) x5)) x6)) x7)))), (own_lt (own_al (own_g (7 : Int32) (own_p8 (own_mk (15 : Int32) (own_p8 (own_mk (1 : Int32) (own_p8 (own_mk (7 : Int32) (own_p8 (own_mk (0 : Int32) (own_p8 (own_mk (3 : Int32) (own_p8 (own_mk (15 : Int32) (own_p8 (own_mk (1 : Int32) (own_p8 (own_mk (7 : Int32) (own_p8 (0 : Int32) x0)) x1)) x2)) x3)) x4)) x5)) x6)) x7)) x8)))), (own_lt (own_al (own_g (2 : Int32) (own_p8 (own_mk (15 : Int32) (own_p8 (own_mk (1 : Int32) (own_p8 (own_mk (7 : Int32) (own_p8 (own_mk (0 : Int32) (own_p8 (own_mk (3 : Int32) (own_p8 (own_mk (15 : Int32) (own_p8 (own_mk (1 : Int32) (own_p8 (own_mk (7 : Int32) (own_p8 (0 : Int32) x0)) x1)) x2)) x3)) x4)) x5)) x6)) x7)) x8)))), (own_lt (own_al (own_g (5 : Int32) (own_p8 (own_mk (3 : Int32) (own_p8 (own_mk (15 : Int32) (own_p8 (own_mk (1 : Int32) (own_p8 (own_mk (7 : Int32) (own_p8 (own_mk (0 : Int32) (own_p8 (own_mk (3 : Int32) (own_p8 (own_mk (15 : Int32) (own_p8 (own_mk (1 : Int32) (own_p8 (own_mk (7 : Int32) (own_p8 (0 : Int32) x0)) x1)) x2)) x3)) x4)) x5)) x6)) x7)) x8)) x9)))), (own_lt (own_al (own_g (0 : Int32) (own_p8 (own_mk (3 : Int32) (own_p8 (own_mk (15 : Int32) (own_p8 (own_mk (1 : Int32) (own_p8 (own_mk (7 : Int32) (own_p8 (own_mk (0 : Int32) (own_p8 (own_mk (3 : Int32) (own_p8 (own_mk (15 : Int32) (own_p8 (own_mk (1 : Int32) (own_p8 (own_mk (7 : Int32) (own_p8 (0 : Int32) x0)) x1)) x2)) x3)) x4)) x5)) x6)) x7)) x8)) x9)))), (own_lt (own_al (own_g (3 : Int32) (own_p8 (own_mk (0 : Int32) (own_p8 (own_mk (3 : Int32) (own_p8 (own_mk (15 : Int32) (own_p8 (own_mk (1 : Int32) (own_p8 (own_mk (7 : Int32) (own_p8 (own_mk (0 : Int32) (own_p8 (own_mk (3 : Int32) (own_p8 (own_mk (15 : Int32) (own_p8 (own_mk (1 : Int32) (own_p8 (own_mk (7 : Int32) (own_p8 (0 : Int32) x0)) x1)) x2)) x3)) x4)) x5)) x6)) x7)) x8)) x9)) x10)))), (own_lt (own_al (own_g (6 : Int32) (own_p8 (own_mk (7 : Int32) (own_p8 (own_mk (0 : Int32) (own_p8 (own_mk (3 : Int32) (own_p8 (own_mk (15 : Int32) (own_p8 (own_mk (1 : Int32) (own_p8 (own_mk (7 : Int32) (own_p8 (own_mk (0 : Int32) (own_p8 (own_mk (3 : Int32) (own_p8 (own_mk (15 : Int32) (own_p8 (own_mk (1 : Int32) (own_p8 (own_mk (7 : Int32) (own_p8 (0 : Int32) x0)) x1)) x2)) x3)) x4)) x5)) x6)) x7)) x8)) x9)) x10)) x11)))), (own_lt (own_al (own_g (1 : Int32) (own_p8 (own_mk (7 : Int32) (own_p8 (own_mk (0 : Int32) (own_p8 (own_mk (3 : Int32) (own_p8 (own_mk (15 : Int32) (own_p8 (own_mk (1 : Int32) (own_p8 (own_mk (7 : Int32) (own_p8 (own_mk (0 : Int32) (own_p8 (own_mk (3 : Int32) (own_p8 (own_mk (15 : Int32) (own_p8 (own_mk (1 : Int32) (own_p8 (own_mk (7 : Int32) (own_p8 (0 : Int32) x0)) x1)) x2)) x3)) x4)) x5)) x6)) x7)) x8)) x9)) x10)) x11)))), (own_lt (own_al (own_g4 (own_mk (1 : Int32) (own_p8 (own_mk (7 : Int32) (own_p8 (own_mk (0 : Int32) (own_p8 (own_mk (3 : Int32) (own_p8 (own_mk (15 : Int32) (own_p8 (own_mk (1 : Int32) (own_p8 (own_mk (7 : Int32) (own_p8 (own_mk (0 : Int32) (own_p8 (own_mk (3 : Int32) (own_p8 (own_mk (15 : Int32) (own_p8 (own_mk (1 : Int32) (own_p8 (own_mk (7 : Int32) (own_p8 (0 : Int32) x0)) x1)) x2)) x3)) x4)) x5)) x6)) x7)) x8)) x9)) x10)) x11))))), b13, bb13, kl13, rfl, N300, K342, (Nat.le_trans (own_tr (own_tr (own_tr (own_tr (own_tr (own_tr (own_tr (own_tr (own_tr (own_tr (own_tr (own_tr (own_tr (own_tr (own_tr (own_tr (own_tr (own_tr (own_tr (own_tr (own_tr (own_tr E1.1 K3.1) E13.1) K26.1) K49.1) K60.1) K76.1) K91.1) K102.1) K118.1) K129.1) K145.1) K160.1) K171.1) K187.1) K202.1) K213.1) K229.1) K240.1) K256.1) K271.1) K285.1) K297.1) P300_0), (Nat.le_trans (own_tr (own_tr (own_tr (own_tr (own_tr (own_tr (own_tr (own_tr (own_tr (own_tr (own_tr (own_tr (own_tr (own_tr (own_tr (own_tr (own_tr (own_tr (own_tr (own_tr (own_tr (own_tr E1.1 K3.1) E13.1) K26.1) K49.1) K60.1) K76.1) K91.1) K102.1) K118.1) K129.1) K145.1) K160.1) K171.1) K187.1) K202.1) K213.1) K229.1) K240.1) K256.1) K271.1) K285.1) K297.1) P300_2), P300_1, P300_4, P300_3, P300_5, ⟨rfl, rfl, rfl, rfl, rfl, rfl, rfl, rfl, rfl, rfl, rfl, rfl, rfl, rfl, rfl, rfl, rfl, rfl, rfl, rfl⟩, F344, F346, F348, F310, (own_litAt X300 Lt13)⟩)), ⟨hRE.1, hRE.2.1, hRE.2.2.1, hRE.2.2.2.mono (by decide) (by decide)⟩⟩
theorem d1_0 : dk cd1 0 (.aload_n 0) 1 := by decide +kernel
theorem d1_1 : dk cd1 1 .arraylength 1 := by decide +kernel
theorem d1_2 : dk cd1 2 (.bipush 10) 2 := by decide +kernel
theorem d1_4 : dk cd1 4 (.if_icmp .eq 13) 3 := by decide +kernel
theorem d1_17 : dk cd1 17 (.bipush 12) 2 := by decide +kernel
theorem d1_19 : dk cd1 19 (.newarray .byte) 2 := by decide +kernel
theorem d1_21 : dk cd1 21 (.astore_n 1) 1 := by decide +kernel
theorem d1_22 : dk cd1 22 (.aload_n 0) 1 := by decide +kernel
theorem d1_23 : dk cd1 23 (.iconst 0) 1 := by decide +kernel
theorem d1_24 : dk cd1 24 (.aload_n 1) 1 := by decide +kernel
theorem d1_25 : dk cd1 25 (.iconst 0) 1 := by decide +kernel
theorem d1_26 : dk cd1 26 (.bipush 10) 2 := by decide +kernel
theorem d1_28 : dk cd1 28 (.invokestatic 26) 3 := by decide +kernel
theorem d1_31 : dk cd1 31 (.aload_n 0) 1 := by decide +kernel
theorem d1_32 : dk cd1 32 (.invokestatic 32) 3 := by decide +kernel
theorem d1_35 : dk cd1 35 (.istore_n 2) 1 := by decide +kernel
theorem d1_36 : dk cd1 36 (.aload_n 1) 1 := by decide +kernel
theorem d1_37 : dk cd1 37 (.bipush 10) 2 := by decide +kernel
theorem d1_39 : dk cd1 39 (.iload_n 2) 1 := by decide +kernel
theorem d1_40 : dk cd1 40 (.bipush 8) 2 := by decide +kernel
theorem d1_42 : dk cd1 42 .iushr 1 := by decide +kernel
theorem d1_43 : dk cd1 43 .i2b 1 := by decide +kernel
theorem d1_44 : dk cd1 44 .bastore 1 := by decide +kernel
theorem d1_45 : dk cd1 45 (.aload_n 1) 1 := by decide +kernel
theorem d1_46 : dk cd1 46 (.bipush 11) 2 := by decide +kernel
theorem d1_48 : dk cd1 48 (.iload_n 2) 1 := by decide +kernel
theorem d1_49 : dk cd1 49 .i2b 1 := by decide +kernel
theorem d1_50 : dk cd1 50 .bastore 1 := by decide +kernel
theorem d1_51 : dk cd1 51 (.aload_n 1) 1 := by decide +kernel
theorem d1_52 : dk cd1 52 (.invokestatic 36) 3 := by decide +kernel
theorem d1_55 : dk cd1 55 (.astore_n 3) 1 := by decide +kernel
theorem d1_56 : dk cd1 56 (.new 39) 3 := by decide +kernel
theorem d1_59 : dk cd1 59 .dup 1 := by decide +kernel
theorem d1_60 : dk cd1 60 (.bipush 23) 2 := by decide +kernel
theorem d1_62 : dk cd1 62 (.invokespecial 41) 3 := by decide +kernel
theorem d1_65 : dk cd1 65 (.astore 4) 2 := by decide +kernel
theorem d1_67 : dk cd1 67 (.iconst 0) 1 := by decide +kernel
theorem d1_68 : dk cd1 68 (.istore 5) 2 := by decide +kernel
theorem d1_70 : dk cd1 70 (.iload 5) 2 := by decide +kernel
theorem d1_72 : dk cd1 72 (.bipush 20) 2 := by decide +kernel
theorem d1_74 : dk cd1 74 (.if_icmp .ge 35) 3 := by decide +kernel
theorem d1_77 : dk cd1 77 (.iload 5) 2 := by decide +kernel
theorem d1_79 : dk cd1 79 (.ifCond .le 11) 3 := by decide +kernel
theorem d1_82 : dk cd1 82 (.aload 4) 2 := by decide +kernel
theorem d1_84 : dk cd1 84 (.bipush 45) 2 := by decide +kernel
theorem d1_86 : dk cd1 86 (.invokevirtual 44) 3 := by decide +kernel
theorem d1_89 : dk cd1 89 .pop 1 := by decide +kernel
theorem d1_90 : dk cd1 90 (.aload 4) 2 := by decide +kernel
theorem d1_92 : dk cd1 92 (.aload_n 3) 1 := by decide +kernel
theorem d1_93 : dk cd1 93 (.iload 5) 2 := by decide +kernel
theorem d1_95 : dk cd1 95 (.iload 5) 2 := by decide +kernel
theorem d1_97 : dk cd1 97 (.iconst 5) 1 := by decide +kernel
theorem d1_98 : dk cd1 98 .iadd 1 := by decide +kernel
theorem d1_99 : dk cd1 99 (.invokevirtual 48) 3 := by decide +kernel
theorem d1_102 : dk cd1 102 .pop 1 := by decide +kernel
theorem d1_103 : dk cd1 103 (.iinc 5 5) 3 := by decide +kernel
theorem d1_106 : dk cd1 106 (.goto (-36)) 3 := by decide +kernel
theorem d1_109 : dk cd1 109 (.aload 4) 2 := by decide +kernel
theorem d1_111 : dk cd1 111 (.invokevirtual 51) 3 := by decide +kernel
theorem d1_114 : dk cd1 114 .areturn 1 := by decide +kernel
theorem pd___B_I : parseMethodDescriptor "([B)I" = some ⟨[(.array .byte)], some .int⟩ := by decide +kernel
theorem pd___B_Ljava_lang_String_ : parseMethodDescriptor "([B)Ljava/lang/String;" = some ⟨[(.array .byte)], some (.object cs1)⟩ := by decide +kernel
theorem pd__Ljava_lang_CharSequence_II_Ljava_lang_StringBuilder_ : parseMethodDescriptor "(Ljava/lang/CharSequence;II)Ljava/lang/StringBuilder;" = some ⟨[(.object cs9), .int, .int], some (.object cs2)⟩ := by decide +kernel
theorem pn_1 : plainName cs3 = true := by first | (simp [plainName, overriddenIn]; done) | decide +kernel
theorem ef_rmfrb (m : MethodId) (x0 : Addr) : entryFrame m #[(.ref x0)] 6 = mkF m 0 #[rv x0, .unset, .unset, .unset, .unset, .unset] [] := by first | (simp [entryFrame, mkF, argsToLocals, Value.category]; done) | rfl
def Qrmfrb (Z : State) (a1 : Addr) (k1 : ClassId) (x0 x1 x2 x3 x4 x5 x6 x7 x8 x9 cs : Int32) (fv gv : Value) (h0 : Heap) (n0 : Nat) (v : Option Value) (h : Heap) (L : List Loc) (vm : Vm) : Prop := ∃ (a : Addr) (b : Addr) (kb : ClassId) (z0 : Int32) (z1 : Int32) (z2 : Int32) (z3 : Int32) (z4 : Int32) (z5 : Int32) (z6 : Int32) (z7 : Int32) (z8 : Int32) (z9 : Int32) (z10 : Int32) (z11 : Int32) (z12 : Int32) (z13 : Int32) (z14 : Int32) (z15 : Int32) (z16 : Int32) (z17 : Int32) (z18 : Int32) (z19 : Int32) (la : Addr) (lb : Addr) (lk : ClassId), v = some (.ref a) ∧ Fr n0 L ∧ Keep h0 h [] ∧ (h0.size ≤ a) ∧ (h0.size ≤ b) ∧ (Exa Z h a cs1) ∧ (Fld Z h a cs1 "coder" "B" (.int 0)) ∧ (Fld Z h a cs1 "value" "[B" (.ref b)) ∧ (Arv Z h b kb .byte (23 : Int32) [(.int z0), (.int z1), (.int z2), (.int z3), (.int z4), (.int (own_lt (45 : Int32))), (.int z5), (.int z6), (.int z7), (.int z8), (.int z9), (.int (own_lt (45 : Int32))), (.int z10), (.int z11), (.int z12), (.int z13), (.int z14), (.int (own_lt (45 : Int32))), (.int z15), (.int z16), (.int z17), (.int z18), (.int z19)] (.int 0)) ∧ (own_enc x0 x1 x2 x3 x4 x5 x6 x7 x8 x9 (own_h8 (own_crc x0 x1 x2 x3 x4 x5 x6 x7 x8 x9)) (own_lt (own_crc x0 x1 x2 x3 x4 x5 x6 x7 x8 x9)) z0 z1 z2 z3 z4 z5 z6 z7 z8 z9 z10 z11 z12 z13 z14 z15 z16 z17 z18 z19) ∧ (Exa Z h la cs1) ∧ (Fld Z h la cs1 "coder" "B" (.int 0)) ∧ (Fld Z h la cs1 "value" "[B" (.ref lb)) ∧ (Arv Z h lb lk .byte (32 : Int32) [(.int 65), (.int 66), (.int 67), (.int 68), (.int 69), (.int 70), (.int 71), (.int 72), (.int 73), (.int 74), (.int 75), (.int 76), (.int 77), (.int 78), (.int 79), (.int 80), (.int 81), (.int 82), (.int 83), (.int 84), (.int 85), (.int 86), (.int 87), (.int 88), (.int 89), (.int 90), (.int 50), (.int 51), (.int 52), (.int 53), (.int 54), (.int 55)] (.int 0)) ∧ (Lit (Z.setVm vm) own_LO own_LI la)
section
variable {p : Program} {l : Launch} {e : Env} {R : Room} {s : State} {m : MethodId} {args : Array Value} {below : List Frame} {meth : Jvm.Method} {c : Jvm.ClassFile.Code} {T : State} {locs : List Loc} {cells slots : Nat} {t : State}
theorem sg_rmfrb_0 (X : Stand p l e R s m args below meth c T locs cells slots) (hx : p.tables.exec = Jvm.exec) (hby : c.code = cd1) {v2 v5 : Int32} {v0 v1 v3 v4 v6 : Addr} (u0 : (v5 + (5 : Int32)) < (20 : Int32)) (u1 : (0 : Int32) < (v5 + (5 : Int32))) (k : Steps p.tables e below (T.setTop (mkF m 86 #[rv v0, rv v1, iv v2, rv v3, rv v4, iv (v5 + (5 : Int32))] [(.int 45), (.ref v4)])) t) : Steps p.tables e below (T.setTop (mkF m 102 #[rv v0, rv v1, iv v2, rv v3, rv v4, iv v5] [(.ref v6)])) t := XS.pop X.here hx rfl (hb hby d1_102) rfl rfl (XS.iinc X.here hx rfl (hb hby d1_103) rfl (l' := #[rv v0, rv v1, iv v2, rv v3, rv v4, iv (v5 + (5 : Int32))]) rfl (XS.goto X.here hx rfl (pc0 := 106) (pc' := 70) rfl (hb hby d1_106) (by decide) (by decide) (XS.iload X.here hx rfl (hb hby d1_70) rfl (XS.bipush X.here hx rfl (hb hby d1_72) (XS.icmpNo X.here hx rfl (hb hby d1_74) rfl (tlt u0).2.1 (XS.iload X.here hx rfl (hb hby d1_77) rfl (XS.ifNo X.here hx rfl (hb hby d1_79) rfl ((if0 _ _).trans (tlt u1).2.2.2) (XS.aload X.here hx rfl (hb hby d1_82) rfl rfl (XS.bipush X.here hx rfl (hb hby d1_84) k)))))))))
theorem sg_rmfrb_1 (X : Stand p l e R s m args below meth c T locs cells slots) (hx : p.tables.exec = Jvm.exec) (hby : c.code = cd1) {v2 v5 : Int32} {v0 v1 v3 v4 v6 : Addr} (k : Steps p.tables e below (T.setTop (mkF m 99 #[rv v0, rv v1, iv v2, rv v3, rv v4, iv v5] [(.int (v5 + (5 : Int32))), (.int v5), (.ref v3), (.ref v4)])) t) : Steps p.tables e below (T.setTop (mkF m 89 #[rv v0, rv v1, iv v2, rv v3, rv v4, iv v5] [(.ref v6)])) t := XS.pop X.here hx rfl (hb hby d1_89) rfl rfl (XS.aload X.here hx rfl (hb hby d1_90) rfl rfl (XS.aloadN X.here hx rfl (hb hby d1_92) rfl rfl (XS.iload X.here hx rfl (hb hby d1_93) rfl (XS.iload X.here hx rfl (hb hby d1_95) rfl (XS.iconst X.here hx rfl (hb hby d1_97) (XS.iadd X.here hx rfl (hb hby d1_98) rfl k))))))
end
theorem rmfrb (l : Launch) (Z : State) (a0 : Array Value) (hw : HW a0 Z) (ws : List Jvm.Cond) (a1 : Addr) (k1 : ClassId) (x0 x1 x2 x3 x4 x5 x6 x7 x8 x9 cs : Int32) (fv gv : Value) (h0 : Heap) (n0 : Nat) (Z0 : n0 ≤ h0.size) (O0 : Old Z n0 h0) (SC : Sta Z Z.heap cs1 "COMPACT_STRINGS" "Z" (.int cs)) (hcs : ¬ (cs = (0 : Int32))) (SF : Sta Z Z.heap cs4 "SIOOBE_FORMATTER" "Ljava/util/function/BiFunction;" fv) (hfv : fv = .null ∨ ∃ x : Addr, fv = .ref x) (SI : Sta Z Z.heap cs4 "IOOBE_FORMATTER" "Ljava/util/function/BiFunction;" gv) (hgv : gv = .null ∨ ∃ x : Addr, gv = .ref x) (V_a1 : Arv Z h0 a1 k1 .byte (10 : Int32) [(.int x0), (.int x1), (.int x2), (.int x3), (.int x4), (.int x5), (.int x6), (.int x7), (.int x8), (.int x9)] (.int 0)) :
    MetFree l (⟨cs3, "fromRandomBytes", "([B)Ljava/lang/String;"⟩ : MethodName) (head1 (Jvm.Cond.code (⟨cs3, "fromRandomBytes", "([B)Ljava/lang/String;"⟩ : MethodName) cd1 6 (some (.object cs1)) :: ws) (rom 7 12 276 132)) (fun a U => a = #[(.ref a1)] ∧ Z.Warmed39 U.vm ∧ U.heap = h0 ∧ CHv Z own_EL U.vm h0) (fun _ _ _ _ _ => True) (fun _ U o U' => ∃ v L, o = .returned v ∧ Qrmfrb Z a1 k1 x0 x1 x2 x3 x4 x5 x6 x7 x8 x9 cs fv gv h0 n0 v U'.heap L U'.vm ∧ ReturnedEndW U o U' L (rom 7 12 276 132).cells (rom 7 12 276 132).slots) := by
 refine MetFree.of_bodySF (plainFor_of_name pn_1) hisR ?_
 intro p e s m args below meth c s₁ Bd hml0 hP hK
 obtain ⟨rfl, hZ, hh, hCH⟩ := hP
 have hx := Bd.exec
 have hby := Bd.bytes
 have hml : c.maxLocals = 6 := hml0
 have hown : s.vm.findClass cs3 = some m.cls := findClass_of_methodNamed Bd.named
 have hnm := (name_of_methodNamed Bd.named Bd.method).1
 have X0 : Stand p l e (rom 7 12 276 132) s m #[(.ref a1)] below meth c s₁ [] 0 0 := Stand.of_body Bd
 have e0 : s₁.heap = h0 := by rw [← hh, Bd.state]; rfl
 have N0 := Fr.nil n0
 refine own_go (b := (s₁.setTop (mkF m 0 #[rv a1, .unset, .unset, .unset, .unset, .unset] []))) (fun _ k => castTop (ef_rmfrb m a1) k) ?_
 refine ogo (mkF m 1 #[rv a1, .unset, .unset, .unset, .unset, .unset] [(.ref a1)]) (fun _ k => XS.aloadN X0.here hx rfl (hb hby d1_0) rfl rfl k) ?_
 obtain ⟨cl1, Ar1, -, Sz1, Nn1, -, -⟩ := id V_a1
 refine own_go (b := (s₁.setTop (mkF m 19 #[rv a1, .unset, .unset, .unset, .unset, .unset] [(.int 12)]))) (fun _ k => X0.arraylength hx (by rw [e0]; exact Ar1.1) (State.isArrayOf_alike hZ.alike Ar1.2.1) (g := (mkF m 1 #[rv a1, .unset, .unset, .unset, .unset, .unset] [(.ref a1)])) rfl rfl (hb hby d1_1) _ (by rw [len_of Sz1 Nn1]; exact (XS.bipush X0.here hx rfl (hb hby d1_2) (XS.icmpYes X0.here hx rfl (pc0 := 4) (pc' := 17) rfl (hb hby d1_4) rfl (teq (rfl : (10 : Int32) = (10 : Int32))).1 (by decide) (by decide) (XS.bipush X0.here hx rfl (hb hby d1_17) k))))) ?_
 obtain ⟨T2, h2, kl2, X2, e2, E2, A2, st2⟩ := newP X0 hx hZ (ow hw 0 rfl) e0 (g := (mkF m 19 #[rv a1, .unset, .unset, .unset, .unset, .unset] [(.int 12)])) rfl (hb hby d1_19) rfl (by decide) (cap := 12) (by decide) (by decide) (by decide) (by decide)
 obtain ⟨b2, g2⟩ : ∃ z, z = h0.size := ⟨_, rfl⟩
 rw [← g2] at A2 st2
 have Zs3 : n0 ≤ h2.size := Nat.le_trans Z0 E2.1
 have V2 : Arv Z h2 b2 kl2 .byte (12 : Int32) [(.int 0), (.int 0), (.int 0), (.int 0), (.int 0), (.int 0), (.int 0), (.int 0), (.int 0), (.int 0), (.int 0), (.int 0)] (.int 0) := (Arv.new A2 (by decide)).pad (pad_rep [] (.int 0) 12)
 refine ogo (mkF m 28 #[rv a1, rv b2, .unset, .unset, .unset, .unset] [(.int 10), (.int 0), (.ref b2), (.int 0), (.ref a1)]) (fun _ k => st2 _ (XS.astoreN X2.here hx rfl (hb hby d1_21) rfl rfl (l' := #[rv a1, rv b2, .unset, .unset, .unset, .unset]) rfl (XS.aloadN X2.here hx rfl (hb hby d1_22) rfl rfl (XS.iconst X2.here hx rfl (hb hby d1_23) (XS.aloadN X2.here hx rfl (hb hby d1_24) rfl rfl (XS.iconst X2.here hx rfl (hb hby d1_25) (XS.bipush X2.here hx rfl (hb hby d1_26) k))))))) ?_
 have F5 := V_a1.ext E2
 have gx6 : n0 ≤ b2 := Nat.le_trans Z0 (Nat.le_of_eq g2.symm)
 obtain ⟨T4, h4, L4, X4, e4, N4, K4, V4, st4⟩ := cpA X2 hx hZ hown (ow hw 6 rfl) (ow hw 9 rfl) (ow hw 7 rfl) (ow hw 8 rfl) e2 (us := [(.int x0), (.int x1), (.int x2), (.int x3), (.int x4), (.int x5), (.int x6), (.int x7), (.int x8), (.int x9)]) F5 V2 (Or.inl ⟨rfl, rfl⟩) (by decide) (by decide) (by decide) (by decide) (by decide) rfl (by decide) N0 gx6 (g := (mkF m 28 #[rv a1, rv b2, .unset, .unset, .unset, .unset] [(.int 10), (.int 0), (.ref b2), (.int 0), (.ref a1)])) rfl (by rw [hml]; rfl) rfl (hb hby d1_28) (by decide) (W := 0) (by show 2 * 0 + _ ≤ _; exact Nat.le_of_eq rfl) (by decide)
 have Zs7 : n0 ≤ h4.size := Nat.le_trans Zs3 K4.1
 have V4c : Arv Z h4 b2 kl2 .byte (12 : Int32) [(.int x0), (.int x1), (.int x2), (.int x3), (.int x4), (.int x5), (.int x6), (.int x7), (.int x8), (.int x9), (.int 0), (.int 0)] (.int 0) := V4
 refine ogo (mkF m 32 #[rv a1, rv b2, .unset, .unset, .unset, .unset] [(.ref a1)]) (fun _ k => st4 _ (XS.aloadN X4.here hx rfl (hb hby d1_31) rfl rfl k)) ?_
 have nx9 : a1 ≠ b2 := (own_ne V_a1.lt (Nat.le_refl _) (Nat.le_of_eq g2.symm))
 have F10 := F5.keep K4 (ninS nx9 nin0)
 refine own_stat (W := 0) X4 hx hZ hown e4 (ow hw 10 rfl) (ow hw 11 rfl) (rmcrc l Z a0 hw [] a1 k1 x0 x1 x2 x3 x4 x5 x6 x7 x8 x9 h4 n0 Zs7 F10) (ow hw 12 rfl) (ow hw 4 rfl) rfl (by rw [hml]; rfl) rfl (hb hby d1_32) (lenOf pd___B_I rfl) rfl (by decide) (fun T8 v8 Ll8 X8 hQ8 => ?_)
 obtain ⟨rfl, N8q, eh8⟩ := hQ8
 have N8 := Fr.app N4 N8q
 refine ogo (mkF m 44 #[rv a1, rv b2, iv (own_crc x0 x1 x2 x3 x4 x5 x6 x7 x8 x9), .unset, .unset, .unset] [(.int ((((own_crc x0 x1 x2 x3 x4 x5 x6 x7 x8 x9).toUInt32 >>> ((8 : Int32) &&& 31).toUInt32).toInt32).toInt8.toInt32)), (.int 10), (.ref b2)]) (fun _ k => XS.istoreN X8.here hx rfl (hb hby d1_35) rfl (l' := #[rv a1, rv b2, iv (own_crc x0 x1 x2 x3 x4 x5 x6 x7 x8 x9), .unset, .unset, .unset]) rfl (XS.aloadN X8.here hx rfl (hb hby d1_36) rfl rfl (XS.bipush X8.here hx rfl (hb hby d1_37) (XS.iloadN X8.here hx rfl (hb hby d1_39) rfl (XS.bipush X8.here hx rfl (hb hby d1_40) (XS.iushr X8.here hx rfl (hb hby d1_42) rfl (XS.i2b X8.here hx rfl (hb hby d1_43) rfl k))))))) ?_
 refine own_basS X8 hx hZ eh8 N8 Zs7 gx6 V4c ⟨by decide, by decide⟩ (Nat.le_of_ble_eq_true rfl) rfl rfl (hb hby d1_44) (fun T11 h11 lo11 X11 e11 N11 W11 Zs11 V11 => ?_)
 refine ogo (mkF m 50 #[rv a1, rv b2, iv (own_crc x0 x1 x2 x3 x4 x5 x6 x7 x8 x9), .unset, .unset, .unset] [(.int ((own_crc x0 x1 x2 x3 x4 x5 x6 x7 x8 x9).toInt8.toInt32)), (.int 11), (.ref b2)]) (fun _ k => XS.aloadN X11.here hx rfl (hb hby d1_45) rfl rfl (XS.bipush X11.here hx rfl (hb hby d1_46) (XS.iloadN X11.here hx rfl (hb hby d1_48) rfl (XS.i2b X11.here hx rfl (hb hby d1_49) rfl k)))) ?_
 refine own_basS X11 hx hZ e11 N11 Zs11 gx6 V11 ⟨by decide, by decide⟩ (Nat.le_of_ble_eq_true rfl) rfl rfl (hb hby d1_50) (fun T12 h12 lo12 X12 e12 N12 W12 Zs12 V12 => ?_)
 refine ogo (mkF m 52 #[rv a1, rv b2, iv (own_crc x0 x1 x2 x3 x4 x5 x6 x7 x8 x9), .unset, .unset, .unset] [(.ref b2)]) (fun _ k => XS.aloadN X12.here hx rfl (hb hby d1_51) rfl rfl k) ?_
 have O14 := O0.ext E2
 have O15 := O14.keep K4 (allS gx6 all0)
 have O16 := O15.wr W11 gx6
 have O17 := O16.wr W12 gx6
 have CH18 := CHv.ext E2 hCH
 have Sf19 := Safe.ext E2 hCH (Safe.new (Nat.le_of_eq g2.symm))
 have CH20 := CHv.keep K4 (allS Sf19 all0) CH18
 have Sf21 := Safe.keep K4 (allS Sf19 all0) CH18 Sf19
 have CH22 := CHv.wr W11 Sf21 CH20
 have Sf23 := Safe.wr W11 Sf21 CH20 Sf21
 have CH24 := CHv.wr W12 Sf23 CH22
 have Sf25 := Safe.wr W12 Sf23 CH22 Sf23
 refine own_statV (W := 0) X12 hx hZ hown e12 (ow hw 14 rfl) (ow hw 15 rfl) (rmb32 l Z a0 hw [] b2 kl2 x0 x1 x2 x3 x4 x5 x6 x7 x8 x9 (own_h8 (own_crc x0 x1 x2 x3 x4 x5 x6 x7 x8 x9)) (own_lt (own_crc x0 x1 x2 x3 x4 x5 x6 x7 x8 x9)) cs fv h12 n0 Zs12 O17 SC hcs SF hfv V12) (ow hw 16 rfl) (ow hw 4 rfl) rfl (by rw [hml]; rfl) rfl (hb hby d1_52) (lenOf pd___B_Ljava_lang_String_ rfl) rfl (by decide) (own_EW hw) CH24 (fun T13 v13 Ll13 X13 hQ13 Sn13 hZ13 ho13 => ?_)
 obtain ⟨a_13, b_13, kb_13, z0_13, z1_13, z2_13, z3_13, z4_13, z5_13, z6_13, z7_13, z8_13, z9_13, z10_13, z11_13, z12_13, z13_13, z14_13, z15_13, z16_13, z17_13, z18_13, z19_13, la_13, lb_13, lk_13, rfl, N13q, K13, P13_0, P13_1, P13_2, P13_3, P13_4, P13_5, P13_6, P13_7, P13_8, P13_9, P13_10, P13_11⟩ := hQ13
 have N13 := Fr.app N12 N13q
 have Zs26 : n0 ≤ T13.heap.size := Nat.le_trans Zs12 K13.1
 have hZ := hZ13
 have hown := ho13
 refine ogo (mkF m 56 #[rv a1, rv b2, iv (own_crc x0 x1 x2 x3 x4 x5 x6 x7 x8 x9), rv a_13, .unset, .unset] []) (fun _ k => XS.astoreN X13.here hx rfl (hb hby d1_55) rfl rfl (l' := #[rv a1, rv b2, iv (own_crc x0 x1 x2 x3 x4 x5 x6 x7 x8 x9), rv a_13, .unset, .unset]) rfl k) ?_
 obtain ⟨T27, h27, X27, e27, E27, A27, D27, Un27, st27⟩ := newO X13 hx hZ hown (ow hw 17 rfl) (ow hw 18 rfl) (ow hw 19 rfl) rfl (g := (mkF m 56 #[rv a1, rv b2, iv (own_crc x0 x1 x2 x3 x4 x5 x6 x7 x8 x9), rv a_13, .unset, .unset] [])) rfl (hb hby d1_56) (by decide) (by decide)
 obtain ⟨b27, g27⟩ : ∃ z, z = T13.heap.size := ⟨_, rfl⟩
 rw [← g27] at A27 D27 Un27 st27
 have Zs28 : n0 ≤ h27.size := Nat.le_trans Zs26 E27.1
 have F27_value : Fld Z h27 b27 cs0 "value" "[B" .null := D27 (Or.inl (ow hw 35 rfl)) (ty := (.array .byte)) (by decide)
 have F27_coder : Fld Z h27 b27 cs0 "coder" "B" (.int 0) := D27 (Or.inl (ow hw 37 rfl)) (ty := .byte) (by decide)
 have F27_count : Fld Z h27 b27 cs0 "count" "I" (.int 0) := D27 (Or.inl (ow hw 80 rfl)) (ty := .int) (by decide)
 refine ogo (mkF m 62 #[rv a1, rv b2, iv (own_crc x0 x1 x2 x3 x4 x5 x6 x7 x8 x9), rv a_13, .unset, .unset] [(.int 23), (.ref b27), (.ref b27)]) (fun _ k => st27 _ (XS.dup X27.here hx rfl (hb hby d1_59) rfl rfl (XS.bipush X27.here hx rfl (hb hby d1_60) k))) ?_
 have O30 := O17.keep K13 all0
 have O31 := O30.ext E27
 have gx32 : n0 ≤ b27 := Nat.le_trans Zs26 (Nat.le_of_eq g27.symm)
 refine own_spec (W := 1) X27 hx hZ hown e27 (ow hw 154 rfl) (ow hw 155 rfl) (rmsi23 l Z a0 hw [] b27 cs h27 n0 Zs28 O31 SC hcs A27 F27_value F27_coder gx32 F27_count) (ow hw 156 rfl) (ow hw 19 rfl) rfl (by rw [hml]; rfl) rfl (hb hby d1_62) (lenOf pd__I_V rfl) rfl rfl (by decide) (fun T29 v29 Ll29 X29 hQ29 => ?_)
 obtain ⟨va_29, kv_29, rfl, N29q, K29, P29_0, P29_1, P29_2, P29_3, P29_4, P29_5⟩ := hQ29
 have N29 := Fr.app N13 N29q
 have Zs33 : n0 ≤ T29.heap.size := Nat.le_trans Zs28 K29.1
 refine ogo (mkF m 99 #[rv a1, rv b2, iv (own_crc x0 x1 x2 x3 x4 x5 x6 x7 x8 x9), rv a_13, rv b27, iv 0] [(.int 5), (.int 0), (.ref a_13), (.ref b27)]) (fun _ k => XS.astore X29.here hx rfl (hb hby d1_65) rfl rfl (l' := #[rv a1, rv b2, iv (own_crc x0 x1 x2 x3 x4 x5 x6 x7 x8 x9), rv a_13, rv b27, .unset]) rfl (XS.iconst X29.here hx rfl (hb hby d1_67) (XS.istore X29.here hx rfl (hb hby d1_68) rfl (l' := #[rv a1, rv b2, iv (own_crc x0 x1 x2 x3 x4 x5 x6 x7 x8 x9), rv a_13, rv b27, iv 0]) rfl (XS.iload X29.here hx rfl (hb hby d1_70) rfl (XS.bipush X29.here hx rfl (hb hby d1_72) (XS.icmpNo X29.here hx rfl (hb hby d1_74) rfl (tlt (by decide : (0 : Int32) < (20 : Int32))).2.1 (XS.iload X29.here hx rfl (hb hby d1_77) rfl (XS.ifYes X29.here hx rfl (pc0 := 79) (pc' := 90) rfl (hb hby d1_79) rfl ((if0 _ _).trans (flt (by decide : ¬ ((0 : Int32) < (0 : Int32)))).2.2.2) (by decide) (by decide) (XS.aload X29.here hx rfl (hb hby d1_90) rfl rfl (XS.aloadN X29.here hx rfl (hb hby d1_92) rfl rfl (XS.iload X29.here hx rfl (hb hby d1_93) rfl (XS.iload X29.here hx rfl (hb hby d1_95) rfl (XS.iconst X29.here hx rfl (hb hby d1_97) (XS.iadd X29.here hx rfl (hb hby d1_98) rfl k)))))))))))))) ?_
 have O35 := O31.keep K29 (allS gx32 all0)
 have F36 := A27.keep K29
 have gx37 : n0 ≤ va_29 := Nat.le_trans Zs28 P29_0
 have F38 := P13_2.ext E27
 have F39 := F38.keep K29
 have F40 := P13_3.ext E27
 have nx41 : a_13 ≠ b27 := (own_ne P13_2.lt (Nat.le_refl _) (Nat.le_of_eq g27.symm))
 have F42 := F40.keep K29 (ninS nx41 nin0)
 have F43 := P13_4.ext E27
 have F44 := F43.keep K29 (ninS nx41 nin0)
 have F45 := P13_5.ext E27
 have nx46 : b_13 ≠ b27 := (own_ne P13_5.lt (Nat.le_refl _) (Nat.le_of_eq g27.symm))
 have F47 := F45.keep K29 (ninS nx46 nin0)
 have nx48 : b_13 ≠ va_29 := (own_ne P13_5.lt E27.1 P29_0)
 refine own_virt (W := 0) X29 hx hZ hown rfl (ow hw 157 rfl) (ow hw 158 rfl) (ow hw 160 rfl) (ow hw 159 rfl) (rmae l Z a0 hw [] b27 va_29 kv_29 [] (0 : Int32) a_13 b_13 kb_13 ([(.int z0_13), (.int z1_13), (.int z2_13), (.int z3_13), (.int z4_13), (.int z5_13), (.int z6_13), (.int z7_13), (.int z8_13), (.int z9_13), (.int z10_13), (.int z11_13), (.int z12_13), (.int z13_13), (.int z14_13), (.int z15_13), (.int z16_13), (.int z17_13), (.int z18_13), (.int z19_13)]) (0 : Int32) (5 : Int32) cs gv T29.heap n0 Zs33 O35 SC hcs F36 gx32 P29_1 P29_2 P29_4 P29_3 gx37 F39 F42 F44 F47 nx48 (by decide) (by decide) (by decide) (by decide) (by decide) (by decide) (by decide) (by decide) rfl SI hgv) (ow hw 161 rfl) (ow hw 19 rfl) F36 rfl (by rw [hml]; rfl) rfl (hb hby d1_99) (lenOf pd__Ljava_lang_CharSequence_II_Ljava_lang_StringBuilder_ rfl) rfl (by decide) (fun T34 v34 Ll34 X34 hQ34 => ?_)
 obtain ⟨rfl, N34q, K34, P34_0, P34_1, P34_2, P34_3⟩ := hQ34
 have N34 := Fr.app N29 N34q
 have Zs49 : n0 ≤ T34.heap.size := Nat.le_trans Zs33 K34.1
 refine ogo (mkF m 86 #[rv a1, rv b2, iv (own_crc x0 x1 x2 x3 x4 x5 x6 x7 x8 x9), rv a_13, rv b27, iv 5] [(.int 45), (.ref b27)]) (fun _ k => sg_rmfrb_0 X34 hx hby (by decide) (by decide) k) ?_
 have O51 := O35.keep K34 (allS gx32 (allS gx37 all0))
 have F52 := F36.keep K34
 refine own_virt (W := 0) X34 hx hZ hown rfl (ow hw 69 rfl) (ow hw 70 rfl) (ow hw 72 rfl) (ow hw 71 rfl) (rmap23 l Z a0 hw [] b27 va_29 kv_29 ([(.int z0_13), (.int z1_13), (.int z2_13), (.int z3_13), (.int z4_13)]) (5 : Int32) (45 : Int32) cs T34.heap n0 Zs49 O51 SC hcs F52 gx32 P34_0 P34_1 P34_2 P34_3 gx37 ⟨by decide, by decide⟩ rfl (by decide)) (ow hw 73 rfl) (ow hw 19 rfl) F52 rfl (by rw [hml]; rfl) rfl (hb hby d1_86) (lenOf pd__C_Ljava_lang_StringBuilder_ rfl) rfl (by decide) (fun T50 v50 Ll50 X50 hQ50 => ?_)
 obtain ⟨rfl, N50q, K50, P50_0, P50_1, P50_2, P50_3⟩ := hQ50
 have N50 := Fr.app N34 N50q
 have Zs53 : n0 ≤ T50.heap.size := Nat.le_trans Zs49 K50.1
 refine ogo (mkF m 99 #[rv a1, rv b2, iv (own_crc x0 x1 x2 x3 x4 x5 x6 x7 x8 x9), rv a_13, rv b27, iv 5] [(.int 10), (.int 5), (.ref a_13), (.ref b27)]) (fun _ k => sg_rmfrb_1 X50 hx hby k) ?_
 have O55 := O51.keep K50 (allS gx32 (allS gx37 all0))
 have F56 := F52.keep K50
 have F57 := F39.keep K34
 have F58 := F57.keep K50
 have nx59 : a_13 ≠ va_29 := (own_ne P13_2.lt E27.1 P29_0)
 have F60 := F42.keep K34 (ninS nx41 (ninS nx59 nin0))
 have F61 := F60.keep K50 (ninS nx41 (ninS nx59 nin0))
 have F62 := F44.keep K34 (ninS nx41 (ninS nx59 nin0))
 have F63 := F62.keep K50 (ninS nx41 (ninS nx59 nin0))
 have F64 := F47.keep K34 (ninS nx46 (ninS nx48 nin0))
 have F65 := F64.keep K50 (ninS nx46 (ninS nx48 nin0))
 refine own_virt (W := 0) X50 hx hZ hown rfl (ow hw 157 rfl) (ow hw 158 rfl) (ow hw 160 rfl) (ow hw 159 rfl) (rmae l Z a0 hw [] b27 va_29 kv_29 ([(.int z0_13), (.int z1_13), (.int z2_13), (.int z3_13), (.int z4_13), (.int (own_lt (45 : Int32)))]) (6 : Int32) a_13 b_13 kb_13 ([(.int z0_13), (.int z1_13), (.int z2_13), (.int z3_13), (.int z4_13), (.int z5_13), (.int z6_13), (.int z7_13), (.int z8_13), (.int z9_13), (.int z10_13), (.int z11_13), (.int z12_13), (.int z13_13), (.int z14_13), (.int z15_13), (.int z16_13), (.int z17_13), (.int z18_13), (.int z19_13)]) (5 : Int32) (10 : Int32) cs gv T50.heap n0 Zs53 O55 SC hcs F56 gx32 P50_0 P50_1 P50_2 P50_3 gx37 F58 F61 F63 F65 nx48 (by decide) (by decide) (by decide) (by decide) (by decide) (by decide) (by decide) (by decide) rfl SI hgv) (ow hw 161 rfl) (ow hw 19 rfl) F56 rfl (by rw [hml]; rfl) rfl (hb hby d1_99) (lenOf pd__Ljava_lang_CharSequence_II_Ljava_lang_StringBuilder_ rfl) rfl (by decide) (fun T54 v54 Ll54 X54 hQ54 => ?_)
 obtain ⟨rfl, N54q, K54, P54_0, P54_1, P54_2, P54_3⟩ := hQ54
 have N54 := Fr.app N50 N54q
 have Zs66 : n0 ≤ T54.heap.size := Nat.le_trans Zs53 K54.1
 refine ogo (mkF m 86 #[rv a1, rv b2, iv (own_crc x0 x1 x2 x3 x4 x5 x6 x7 x8 x9), rv a_13, rv b27, iv 10] [(.int 45), (.ref b27)]) (fun _ k => sg_rmfrb_0 X54 hx hby (by decide) (by decide) k) ?_
 have O68 := O55.keep K54 (allS gx32 (allS gx37 all0))
 have F69 := F56.keep K54
 refine own_virt (W := 0) X54 hx hZ hown rfl (ow hw 69 rfl) (ow hw 70 rfl) (ow hw 72 rfl) (ow hw 71 rfl) (rmap23 l Z a0 hw [] b27 va_29 kv_29 ([(.int z0_13), (.int z1_13), (.int z2_13), (.int z3_13), (.int z4_13), (.int (own_lt (45 : Int32))), (.int z5_13), (.int z6_13), (.int z7_13), (.int z8_13), (.int z9_13)]) (11 : Int32) (45 : Int32) cs T54.heap n0 Zs66 O68 SC hcs F69 gx32 P54_0 P54_1 P54_2 P54_3 gx37 ⟨by decide, by decide⟩ rfl (by decide)) (ow hw 73 rfl) (ow hw 19 rfl) F69 rfl (by rw [hml]; rfl) rfl (hb hby d1_86) (lenOf pd__C_Ljava_lang_StringBuilder_ rfl) rfl (by decide) (fun T67 v67 Ll67 X67 hQ67 => ?_)
 obtain ⟨rfl, N67q, K67, P67_0, P67_1, P67_2, P67_3⟩ := hQ67
 have N67 := Fr.app N54 N67q
 have Zs70 : n0 ≤ T67.heap.size := Nat.le_trans Zs66 K67.1
 refine ogo (mkF m 99 #[rv a1, rv b2, iv (own_crc x0 x1 x2 x3 x4 x5 x6 x7 x8 x9), rv a_13, rv b27, iv 10] [(.int 15), (.int 10), (.ref a_13), (.ref b27)]) (fun _ k => sg_rmfrb_1 X67 hx hby k) ?_
 have O72 := O68.keep K67 (allS gx32 (allS gx37 all0))
 have F73 := F69.keep K67
 have F74 := F58.keep K54
 have F75 := F74.keep K67
 have F76 := F61.keep K54 (ninS nx41 (ninS nx59 nin0))
 have F77 := F76.keep K67 (ninS nx41 (ninS nx59 nin0))
 have F78 := F63.keep K54 (ninS nx41 (ninS nx59 nin0))
 have F79 := F78.keep K67 (ninS nx41 (ninS nx59 nin0))
 have F80 := F65.keep K54 (ninS nx46 (ninS nx48 nin0))
 have F81 := F80.keep K67 (ninS nx46 (ninS nx48 nin0))
 refine own_virt (W := 0) X67 hx hZ hown rfl (ow hw 157 rfl) (ow hw 158 rfl) (ow hw 160 rfl) (ow hw 159 rfl) (rmae l Z a0 hw [] b27 va_29 kv_29 ([(.int z0_13), (.int z1_13), (.int z2_13), (.int z3_13), (.int z4_13), (.int (own_lt (45 : Int32))), (.int z5_13), (.int z6_13), (.int z7_13), (.int z8_13), (.int z9_13), (.int (own_lt (45 : Int32)))]) (12 : Int32) a_13 b_13 kb_13 ([(.int z0_13), (.int z1_13), (.int z2_13), (.int z3_13), (.int z4_13), (.int z5_13), (.int z6_13), (.int z7_13), (.int z8_13), (.int z9_13), (.int z10_13), (.int z11_13), (.int z12_13), (.int z13_13), (.int z14_13), (.int z15_13), (.int z16_13), (.int z17_13), (.int z18_13), (.int z19_13)]) (10 : Int32) (15 : Int32) cs gv T67.heap n0 Zs70 O72 SC hcs F73 gx32 P67_0 P67_1 P67_2 P67_3 gx37 F75 F77 F79 F81 nx48 (by decide) (by decide) (by decide) (by decide) (by decide) (by decide) (by decide) (by decide) rfl SI hgv) (ow hw 161 rfl) (ow hw 19 rfl) F73 rfl (by rw [hml]; rfl) rfl (hb hby d1_99) (lenOf pd__Ljava_lang_CharSequence_II_Ljava_lang_StringBuilder_ rfl) rfl (by decide) (fun T71 v71 Ll71 X71 hQ71 => ?_)
 obtain ⟨rfl, N71q, K71, P71_0, P71_1, P71_2, P71_3⟩ := hQ71
 have N71 := Fr.app N67 N71q
 have Zs82 : n0 ≤ T71.heap.size := Nat.le_trans Zs70 K71.1
 refine ogo (mkF m 86 #[rv a1, rv b2, iv (own_crc x0 x1 x2 x3 x4 x5 x6 x7 x8 x9), rv a_13, rv b27, iv 15] [(.int 45), (.ref b27)]) (fun _ k => sg_rmfrb_0 X71 hx hby (by decide) (by decide) k) ?_
 have O84 := O72.keep K71 (allS gx32 (allS gx37 all0))
 have F85 := F73.keep K71
 refine own_virt (W := 0) X71 hx hZ hown rfl (ow hw 69 rfl) (ow hw 70 rfl) (ow hw 72 rfl) (ow hw 71 rfl) (rmap23 l Z a0 hw [] b27 va_29 kv_29 ([(.int z0_13), (.int z1_13), (.int z2_13), (.int z3_13), (.int z4_13), (.int (own_lt (45 : Int32))), (.int z5_13), (.int z6_13), (.int z7_13), (.int z8_13), (.int z9_13), (.int (own_lt (45 : Int32))), (.int z10_13), (.int z11_13), (.int z12_13), (.int z13_13), (.int z14_13)]) (17 : Int32) (45 : Int32) cs T71.heap n0 Zs82 O84 SC hcs F85 gx32 P71_0 P71_1 P71_2 P71_3 gx37 ⟨by decide, by decide⟩ rfl (by decide)) (ow hw 73 rfl) (ow hw 19 rfl) F85 rfl (by rw [hml]; rfl) rfl (hb hby d1_86) (lenOf pd__C_Ljava_lang_StringBuilder_ rfl) rfl (by decide) (fun T83 v83 Ll83 X83 hQ83 => ?_)
 obtain ⟨rfl, N83q, K83, P83_0, P83_1, P83_2, P83_3⟩ := hQ83
 have N83 := Fr.app N71 N83q
 have Zs86 : n0 ≤ T83.heap.size := Nat.le_trans Zs82 K83.1
 refine ogo (mkF m 99 #[rv a1, rv b2, iv (own_crc x0 x1 x2 x3 x4 x5 x6 x7 x8 x9), rv a_13, rv b27, iv 15] [(.int 20), (.int 15), (.ref a_13), (.ref b27)]) (fun _ k => sg_rmfrb_1 X83 hx hby k) ?_
 have O88 := O84.keep K83 (allS gx32 (allS gx37 all0))
 have F89 := F85.keep K83
 have F90 := F75.keep K71
 have F91 := F90.keep K83
 have F92 := F77.keep K71 (ninS nx41 (ninS nx59 nin0))
 have F93 := F92.keep K83 (ninS nx41 (ninS nx59 nin0))
 have F94 := F79.keep K71 (ninS nx41 (ninS nx59 nin0))
 have F95 := F94.keep K83 (ninS nx41 (ninS nx59 nin0))
 have F96 := F81.keep K71 (ninS nx46 (ninS nx48 nin0))
 have F97 := F96.keep K83 (ninS nx46 (ninS nx48 nin0))
 refine own_virt (W := 0) X83 hx hZ hown rfl (ow hw 157 rfl) (ow hw 158 rfl) (ow hw 160 rfl) (ow hw 159 rfl) (rmae l Z a0 hw [] b27 va_29 kv_29 ([(.int z0_13), (.int z1_13), (.int z2_13), (.int z3_13), (.int z4_13), (.int (own_lt (45 : Int32))), (.int z5_13), (.int z6_13), (.int z7_13), (.int z8_13), (.int z9_13), (.int (own_lt (45 : Int32))), (.int z10_13), (.int z11_13), (.int z12_13), (.int z13_13), (.int z14_13), (.int (own_lt (45 : Int32)))]) (18 : Int32) a_13 b_13 kb_13 ([(.int z0_13), (.int z1_13), (.int z2_13), (.int z3_13), (.int z4_13), (.int z5_13), (.int z6_13), (.int z7_13), (.int z8_13), (.int z9_13), (.int z10_13), (.int z11_13), (.int z12_13), (.int z13_13), (.int z14_13), (.int z15_13), (.int z16_13), (.int z17_13), (.int z18_13), (.int z19_13)]) (15 : Int32) (20 : Int32) cs gv T83.heap n0 Zs86 O88 SC hcs F89 gx32 P83_0 P83_1 P83_2 P83_3 gx37 F91 F93 F95 F97 nx48 (by decide) (by decide) (by decide) (by decide) (by decide) (by decide) (by decide) (by decide) rfl SI hgv) (ow hw 161 rfl) (ow hw 19 rfl) F89 rfl (by rw [hml]; rfl) rfl (hb hby d1_99) (lenOf pd__Ljava_lang_CharSequence_II_Ljava_lang_StringBuilder_ rfl) rfl (by decide) (fun T87 v87 Ll87 X87 hQ87 => ?_)
 obtain ⟨rfl, N87q, K87, P87_0, P87_1, P87_2, P87_3⟩ := hQ87
 have N87 := Fr.app N83 N87q
 have Zs98 : n0 ≤ T87.heap.size := Nat.le_trans Zs86 K87.1
 refine ogo (mkF m 111 #[rv a1, rv b2, iv (own_crc x0 x1 x2 x3 x4 x5 x6 x7 x8 x9), rv a_13, rv b27, iv 20] [(.ref b27)]) (fun _ k => XS.pop X87.here hx rfl (hb hby d1_102) rfl rfl (XS.iinc X87.here hx rfl (hb hby d1_103) rfl (l' := #[rv a1, rv b2, iv (own_crc x0 x1 x2 x3 x4 x5 x6 x7 x8 x9), rv a_13, rv b27, iv 20]) rfl (XS.goto X87.here hx rfl (pc0 := 106) (pc' := 70) rfl (hb hby d1_106) (by decide) (by decide) (XS.iload X87.here hx rfl (hb hby d1_70) rfl (XS.bipush X87.here hx rfl (hb hby d1_72) (XS.icmpYes X87.here hx rfl (pc0 := 74) (pc' := 109) rfl (hb hby d1_74) rfl (flt (by decide : ¬ ((20 : Int32) < (20 : Int32)))).2.1 (by decide) (by decide) (XS.aload X87.here hx rfl (hb hby d1_109) rfl rfl k))))))) ?_
 have O100 := O88.keep K87 (allS gx32 (allS gx37 all0))
 have F101 := F89.keep K87
 have F102 := P29_5.keep K34
 have F103 := F102.keep K50
 have F104 := F103.keep K54
 have F105 := F104.keep K67
 have F106 := F105.keep K71
 have F107 := F106.keep K83
 have F108 := F107.keep K87
 refine own_virt (W := 0) X87 hx hZ hown rfl (ow hw 117 rfl) (ow hw 118 rfl) (ow hw 120 rfl) (ow hw 119 rfl) (rmts23 l Z a0 hw [] b27 va_29 kv_29 ([(.int z0_13), (.int z1_13), (.int z2_13), (.int z3_13), (.int z4_13), (.int (own_lt (45 : Int32))), (.int z5_13), (.int z6_13), (.int z7_13), (.int z8_13), (.int z9_13), (.int (own_lt (45 : Int32))), (.int z10_13), (.int z11_13), (.int z12_13), (.int z13_13), (.int z14_13), (.int (own_lt (45 : Int32))), (.int z15_13), (.int z16_13), (.int z17_13), (.int z18_13), (.int z19_13)]) cs T87.heap n0 Zs98 O100 SC hcs F101 P87_0 P87_1 P87_2 P87_3 F108) (ow hw 121 rfl) (ow hw 19 rfl) F101 rfl (by rw [hml]; rfl) rfl (hb hby d1_111) (lenOf pd___Ljava_lang_String_ rfl) rfl (by decide) (fun T99 v99 Ll99 X99 hQ99 => ?_)
 obtain ⟨a_99, b_99, kb_99, rfl, N99q, K99, P99_0, P99_1, P99_2, P99_3, P99_4, P99_5⟩ := hQ99
 have N99 := Fr.app N87 N99q
 have Zs109 : n0 ≤ T99.heap.size := Nat.le_trans Zs98 K99.1
 have K110 := (Keep.refl h0 []).ext E2
 have K111 := K110.trans K4 (allS (Or.inr (Nat.le_trans (Nat.le_refl _) (Nat.le_of_eq g2.symm))) all0)
 have K112 := K111.wr W11 (Or.inr (Nat.le_trans (Nat.le_refl _) (Nat.le_of_eq g2.symm)))
 have K113 := K112.wr W12 (Or.inr (Nat.le_trans (Nat.le_refl _) (Nat.le_of_eq g2.symm)))
 have K114 := K113.trans K13 all0
 have K115 := K114.ext E27
 have K116 := K115.trans K29 (allS (Or.inr (Nat.le_trans (own_tr (own_tr (own_tr (own_tr E2.1 K4.1) (Keep.of_wr W11).1) (Keep.of_wr W12).1) K13.1) (Nat.le_of_eq g27.symm))) all0)
 have K117 := K116.trans K34 (allS (Or.inr (Nat.le_trans (own_tr (own_tr (own_tr (own_tr E2.1 K4.1) (Keep.of_wr W11).1) (Keep.of_wr W12).1) K13.1) (Nat.le_of_eq g27.symm))) (allS (Or.inr (Nat.le_trans (own_tr (own_tr (own_tr (own_tr (own_tr E2.1 K4.1) (Keep.of_wr W11).1) (Keep.of_wr W12).1) K13.1) E27.1) P29_0)) all0))
 have K118 := K117.trans K50 (allS (Or.inr (Nat.le_trans (own_tr (own_tr (own_tr (own_tr E2.1 K4.1) (Keep.of_wr W11).1) (Keep.of_wr W12).1) K13.1) (Nat.le_of_eq g27.symm))) (allS (Or.inr (Nat.le_trans (own_tr (own_tr (own_tr (own_tr (own_tr E2.1 K4.1) (Keep.of_wr W11).1) (Keep.of_wr W12).1) K13.1) E27.1) P29_0)) all0))
 have K119 := K118.trans K54 (allS (Or.inr (Nat.le_trans (own_tr (own_tr (own_tr (own_tr E2.1 K4.1) (Keep.of_wr W11).1) (Keep.of_wr W12).1) K13.1) (Nat.le_of_eq g27.symm))) (allS (Or.inr (Nat.le_trans (own_tr (own_tr (own_tr (own_tr (own_tr E2.1 K4.1) (Keep.of_wr W11).1) (Keep.of_wr W12).1) K13.1) E27.1) P29_0)) all0))
 have K120 := K119.trans K67 (allS (Or.inr (Nat.le_trans (own_tr (own_tr (own_tr (own_tr E2.1 K4.1) (Keep.of_wr W11).1) (Keep.of_wr W12).1) K13.1) (Nat.le_of_eq g27.symm))) (allS (Or.inr (Nat.le_trans (own_tr (own_tr (own_tr (own_tr (own_tr E2.1 K4.1) (Keep.of_wr W11).1) (Keep.of_wr W12).1) K13.1) E27.1) P29_0)) all0))
 have K121 := K120.trans K71 (allS (Or.inr (Nat.le_trans (own_tr (own_tr (own_tr (own_tr E2.1 K4.1) (Keep.of_wr W11).1) (Keep.of_wr W12).1) K13.1) (Nat.le_of_eq g27.symm))) (allS (Or.inr (Nat.le_trans (own_tr (own_tr (own_tr (own_tr (own_tr E2.1 K4.1) (Keep.of_wr W11).1) (Keep.of_wr W12).1) K13.1) E27.1) P29_0)) all0))
 have K122 := K121.trans K83 (allS (Or.inr (Nat.le_trans (own_tr (own_tr (own_tr (own_tr E2.1 K4.1) (Keep.of_wr W11).1) (Keep.of_wr W12).1) K13.1) (Nat.le_of_eq g27.symm))) (allS (Or.inr (Nat.le_trans (own_tr (own_tr (own_tr (own_tr (own_tr E2.1 K4.1) (Keep.of_wr W11).1) (Keep.of_wr W12).1) K13.1) E27.1) P29_0)) all0))
 have K123 := K122.trans K87 (allS (Or.inr (Nat.le_trans (own_tr (own_tr (own_tr (own_tr E2.1 K4.1) (Keep.of_wr W11).1) (Keep.of_wr W12).1) K13.1) (Nat.le_of_eq g27.symm))) (allS (Or.inr (Nat.le_trans (own_tr (own_tr (own_tr (own_tr (own_tr E2.1 K4.1) (Keep.of_wr W11).1) (Keep.of_wr W12).1) K13.1) E27.1) P29_0)) all0))
 have K124 := K123.trans K99 all0
 have F125 := P13_7.ext E27
 have F126 := F125.keep K29
 have F127 := F126.keep K34
 have F128 := F127.keep K50
 have F129 := F128.keep K54
 have F130 := F129.keep K67
 have F131 := F130.keep K71
 have F132 := F131.keep K83
 have F133 := F132.keep K87
 have F134 := F133.keep K99
 have F135 := P13_8.ext E27
 have nx136 : la_13 ≠ b27 := (own_ne P13_7.lt (Nat.le_refl _) (Nat.le_of_eq g27.symm))
 have F137 := F135.keep K29 (ninS nx136 nin0)
 have nx138 : la_13 ≠ va_29 := (own_ne P13_7.lt E27.1 P29_0)
 have F139 := F137.keep K34 (ninS nx136 (ninS nx138 nin0))
 have F140 := F139.keep K50 (ninS nx136 (ninS nx138 nin0))
 have F141 := F140.keep K54 (ninS nx136 (ninS nx138 nin0))
 have F142 := F141.keep K67 (ninS nx136 (ninS nx138 nin0))
 have F143 := F142.keep K71 (ninS nx136 (ninS nx138 nin0))
 have F144 := F143.keep K83 (ninS nx136 (ninS nx138 nin0))
 have F145 := F144.keep K87 (ninS nx136 (ninS nx138 nin0))
 have F146 := F145.keep K99 nin0
 have F147 := P13_9.ext E27
 have F148 := F147.keep K29 (ninS nx136 nin0)
 have F149 := F148.keep K34 (ninS nx136 (ninS nx138 nin0))
 have F150 := F149.keep K50 (ninS nx136 (ninS nx138 nin0))
 have F151 := F150.keep K54 (ninS nx136 (ninS nx138 nin0))
 have F152 := F151.keep K67 (ninS nx136 (ninS nx138 nin0))
 have F153 := F152.keep K71 (ninS nx136 (ninS nx138 nin0))
 have F154 := F153.keep K83 (ninS nx136 (ninS nx138 nin0))
 have F155 := F154.keep K87 (ninS nx136 (ninS nx138 nin0))
 have F156 := F155.keep K99 nin0
 have F157 := P13_10.ext E27
 have nx158 : lb_13 ≠ b27 := (own_ne P13_10.lt (Nat.le_refl _) (Nat.le_of_eq g27.symm))
 have F159 := F157.keep K29 (ninS nx158 nin0)
 have nx160 : lb_13 ≠ va_29 := (own_ne P13_10.lt E27.1 P29_0)
 have F161 := F159.keep K34 (ninS nx158 (ninS nx160 nin0))
 have F162 := F161.keep K50 (ninS nx158 (ninS nx160 nin0))
 have F163 := F162.keep K54 (ninS nx158 (ninS nx160 nin0))
 have F164 := F163.keep K67 (ninS nx158 (ninS nx160 nin0))
 have F165 := F164.keep K71 (ninS nx158 (ninS nx160 nin0))
 have F166 := F165.keep K83 (ninS nx158 (ninS nx160 nin0))
 have F167 := F166.keep K87 (ninS nx158 (ninS nx160 nin0))
 have F168 := F167.keep K99 nin0
 obtain ⟨fs, hr, hrun, hended, hRE⟩ := Stand.leaveW (s := s) X99 Sn13 (by exact Nat.le_trans (Nat.le_refl _) (own_tr (own_tr (own_tr (own_tr (own_tr (own_tr (own_tr (own_tr (own_tr E27.1 K29.1) K34.1) K50.1) K54.1) K67.1) K71.1) K83.1) K87.1) K99.1)) (v := some (.ref a_99)) (fun h => by rw [Bd.returns] at h; cases h)
 exact ⟨_, _, retOut X99 hx Bd.returns rfl (Or.inr (Or.inr (Or.inr (Or.inr ⟨rfl, rfl, rfl⟩)))) (hb hby d1_114) hr, hrun, hended, _, _, rfl, (show Qrmfrb Z _ _ _ _ _ _ _ _ _ _ _ _ _ _ _ h0 n0 _ T99.heap _ T99.vm from (by exact ⟨a_99, b_99, kb_99, z0_13, z1_13, z2_13, z3_13, z4_13, z5_13, z6_13, z7_13, z8_13, z9_13, z10_13, z11_13, z12_13, z13_13, z14_13, z15_13, z16_13, z17_13, z18_13, z19_13, la_13, lb_13, lk_13, rfl, N99, K124, (Nat.le_trans (own_tr (own_tr (own_tr (own_tr (own_tr (own_tr (own_tr (own_tr (own_tr (own_tr (own_tr (own_tr (own_tr E2.1 K4.1) (Keep.of_wr W11).1) (Keep.of_wr W12).1) K13.1) E27.1) K29.1) K34.1) K50.1) K54.1) K67.1) K71.1) K83.1) K87.1) P99_0), (Nat.le_trans (own_tr (own_tr (own_tr (own_tr (own_tr (own_tr (own_tr (own_tr (own_tr (own_tr (own_tr (own_tr (own_tr E2.1 K4.1) (Keep.of_wr W11).1) (Keep.of_wr W12).1) K13.1) E27.1) K29.1) K34.1) K50.1) K54.1) K67.1) K71.1) K83.1) K87.1) P99_2), P99_1, P99_4, P99_3, P99_5, P13_6, F134, F146, F156, F168, (own_litAt X99 P13_11)⟩)), ⟨hRE.1, hRE.2.1, hRE.2.2.1, hRE.2.2.2.mono (by decide) (by decide)⟩⟩
theorem d45_0 : dk cd45 0 (.iload_n 1) 1 := by decide +kernel
theorem d45_1 : dk cd45 1 .i2b 1 := by decide +kernel
theorem d45_2 : dk cd45 2 (.istore 4) 2 := by decide +kernel
theorem d45_4 : dk cd45 4 (.iload_n 2) 1 := by decide +kernel
theorem d45_5 : dk cd45 5 (.istore 5) 2 := by decide +kernel
theorem d45_7 : dk cd45 7 (.iload 5) 2 := by decide +kernel
theorem d45_9 : dk cd45 9 (.iload_n 3) 1 := by decide +kernel
theorem d45_10 : dk cd45 10 (.if_icmp .ge 21) 3 := by decide +kernel
theorem d45_13 : dk cd45 13 (.aload_n 0) 1 := by decide +kernel
theorem d45_14 : dk cd45 14 (.iload 5) 2 := by decide +kernel
theorem d45_16 : dk cd45 16 .baload 1 := by decide +kernel
theorem d45_17 : dk cd45 17 (.iload 4) 2 := by decide +kernel
theorem d45_19 : dk cd45 19 (.if_icmp .ne 6) 3 := by decide +kernel
theorem d45_22 : dk cd45 22 (.iload 5) 2 := by decide +kernel
theorem d45_24 : dk cd45 24 .ireturn 1 := by decide +kernel
theorem d45_25 : dk cd45 25 (.iinc 5 1) 3 := by decide +kernel
theorem d45_28 : dk cd45 28 (.goto (-21)) 3 := by decide +kernel
theorem d45_31 : dk cd45 31 (.iconst (-1)) 1 := by decide +kernel
theorem d45_32 : dk cd45 32 .ireturn 1 := by decide +kernel
theorem pn_45 : plainName cs6 = true := by first | (simp [plainName, overriddenIn]; done) | decide +kernel
theorem ef_rmixc (m : MethodId) (x0 : Addr) (x1 : Int32) (x2 : Int32) (x3 : Int32) : entryFrame m #[(.ref x0), (.int x1), (.int x2), (.int x3)] 6 = mkF m 0 #[rv x0, iv x1, iv x2, iv x3, .unset, .unset] [] := by first | (simp [entryFrame, mkF, argsToLocals, Value.category]; done) | rfl
def Qrmixc (Z : State) (lb : Addr) (lk : ClassId) (cv : Int32) (h0 : Heap) (n0 : Nat) (v : Option Value) (h : Heap) (L : List Loc) : Prop := v = some (.int (own_ix cv)) ∧ Fr n0 L ∧ h = h0
theorem rmixc (l : Launch) (Z : State) (a0 : Array Value) (hw : HW a0 Z) (ws : List Jvm.Cond) (lb : Addr) (lk : ClassId) (cv : Int32) (h0 : Heap) (n0 : Nat) (Z0 : n0 ≤ h0.size) (V_lb : Arv Z h0 lb lk .byte (32 : Int32) [(.int 65), (.int 66), (.int 67), (.int 68), (.int 69), (.int 70), (.int 71), (.int 72), (.int 73), (.int 74), (.int 75), (.int 76), (.int 77), (.int 78), (.int 79), (.int 80), (.int 81), (.int 82), (.int 83), (.int 84), (.int 85), (.int 86), (.int 87), (.int 88), (.int 89), (.int 90), (.int 50), (.int 51), (.int 52), (.int 53), (.int 54), (.int 55)] (.int 0)) :
    own_MF l (⟨cs6, "indexOfChar", "([BIII)I"⟩ : MethodName) cd45 6 (some .int) ws (rom 0 0 0 0) #[(.ref lb), (.int cv), (.int 0), (.int 32)] Z h0 (Qrmixc Z lb lk cv h0 n0) := by
 refine own_body n0 (plainFor_of_name pn_45) (fun m => ef_rmixc m lb cv (0 : Int32) (32 : Int32)) (fun p e s m below meth c s₁ hx hby hml hr2 hZ hown hnm X0 e0 N0 => ?_)
 have stp : ∀ (P : State → Outcome → Prop) (i5 : Int32), (¬ i5 < 0 ∧ i5 < (32 : Int32)) → (¬ (own_at own_AL i5 = (cv.toInt8.toInt32))) → (∃ t o, Steps p.tables e below (s₁.setTop (mkF m 7 #[rv lb, iv cv, iv 0, iv 32, iv (cv.toInt8.toInt32), iv (i5 + (1 : Int32))] [])) t ∧ P t o) → ∃ t o, Steps p.tables e below (s₁.setTop (mkF m 7 #[rv lb, iv cv, iv 0, iv 32, iv (cv.toInt8.toInt32), iv i5] [])) t ∧ P t o := by
   intro P i5 hi5 hq J
   refine ogo (mkF m 16 #[rv lb, iv cv, iv 0, iv 32, iv (cv.toInt8.toInt32), iv i5] [(.int i5), (.ref lb)]) (fun _ k => XS.iload X0.here hx rfl (hb hby d45_7) rfl (XS.iloadN X0.here hx rfl (hb hby d45_9) rfl (XS.icmpNo X0.here hx rfl (hb hby d45_10) rfl (tlt hi5.2).2.1 (XS.aloadN X0.here hx rfl (hb hby d45_13) rfl rfl (XS.iload X0.here hx rfl (hb hby d45_14) rfl k))))) ?_
   refine own_bal (x := (own_at own_AL i5)) X0 hx hZ e0 V_lb hi5 (own_atA _) rfl rfl (hb hby d45_16) ?_
   refine ogo (mkF m 7 #[rv lb, iv cv, iv 0, iv 32, iv (cv.toInt8.toInt32), iv (i5 + (1 : Int32))] []) (fun _ k => XS.iload X0.here hx rfl (hb hby d45_17) rfl (XS.icmpYes X0.here hx rfl (pc0 := 19) (pc' := 25) rfl (hb hby d45_19) rfl (feq hq).2 (by decide) (by decide) (XS.iinc X0.here hx rfl (hb hby d45_25) rfl (l' := #[rv lb, iv cv, iv 0, iv 32, iv (cv.toInt8.toInt32), iv (i5 + (1 : Int32))]) rfl (XS.goto X0.here hx rfl (pc0 := 28) (pc' := 7) rfl (hb hby d45_28) (by decide) (by decide) k)))) ?_
   exact J
 have stq : ∀ (P : State → Outcome → Prop) (i5 : Int32), (¬ i5 < 0 ∧ i5 < (32 : Int32)) → (own_at own_AL i5 = (cv.toInt8.toInt32)) → (∃ t o, Steps p.tables e below (s₁.setTop (mkF m 24 #[rv lb, iv cv, iv 0, iv 32, iv (cv.toInt8.toInt32), iv i5] [(.int i5)])) t ∧ P t o) → ∃ t o, Steps p.tables e below (s₁.setTop (mkF m 7 #[rv lb, iv cv, iv 0, iv 32, iv (cv.toInt8.toInt32), iv i5] [])) t ∧ P t o := by
   intro P i5 hi5 hq J
   refine ogo (mkF m 16 #[rv lb, iv cv, iv 0, iv 32, iv (cv.toInt8.toInt32), iv i5] [(.int i5), (.ref lb)]) (fun _ k => XS.iload X0.here hx rfl (hb hby d45_7) rfl (XS.iloadN X0.here hx rfl (hb hby d45_9) rfl (XS.icmpNo X0.here hx rfl (hb hby d45_10) rfl (tlt hi5.2).2.1 (XS.aloadN X0.here hx rfl (hb hby d45_13) rfl rfl (XS.iload X0.here hx rfl (hb hby d45_14) rfl k))))) ?_
   refine own_bal (x := (own_at own_AL i5)) X0 hx hZ e0 V_lb hi5 (own_atA _) rfl rfl (hb hby d45_16) ?_
   refine ogo (mkF m 24 #[rv lb, iv cv, iv 0, iv 32, iv (cv.toInt8.toInt32), iv i5] [(.int i5)]) (fun _ k => XS.iload X0.here hx rfl (hb hby d45_17) rfl (XS.icmpNo X0.here hx rfl (hb hby d45_19) rfl (teq hq).2 (XS.iload X0.here hx rfl (hb hby d45_22) rfl k))) ?_
   exact J
 refine ogo (mkF m 7 #[rv lb, iv cv, iv 0, iv 32, iv (cv.toInt8.toInt32), iv 0] []) (fun _ k => XS.iloadN X0.here hx rfl (hb hby d45_0) rfl (XS.i2b X0.here hx rfl (hb hby d45_1) rfl (XS.istore X0.here hx rfl (hb hby d45_2) rfl (l' := #[rv lb, iv cv, iv 0, iv 32, iv (cv.toInt8.toInt32), .unset]) rfl (XS.iloadN X0.here hx rfl (hb hby d45_4) rfl (XS.istore X0.here hx rfl (hb hby d45_5) rfl (l' := #[rv lb, iv cv, iv 0, iv 32, iv (cv.toInt8.toInt32), iv 0]) rfl k))))) ?_
 refine own_join (A := Int32) (C := fun r5 => own_ix cv = r5) (f := fun r5 => (s₁.setTop (mkF m 24 #[rv lb, iv cv, iv 0, iv 32, iv (cv.toInt8.toInt32), iv r5] [(.int r5)]))) ?_ ?_
 · intro r5 hj3
   exact own_endI X0 hx hr2 (hb hby d45_24) (by decide) (by decide) (by rw [e0]; exact ⟨(congrArg (fun z => some (Value.int z)) hj3.symm), N0, rfl⟩)
 · intro J3
   by_cases hc0 : (65 : Int32) = (cv.toInt8.toInt32)
   · exact stq _ (0 : Int32) ⟨by decide, by decide⟩ hc0 (J3 (0 : Int32) (by unfold own_ix own_ixb; rw [if_pos hc0]))
   refine stp _ (0 : Int32) ⟨by decide, by decide⟩ hc0 ?_
   by_cases hc1 : (66 : Int32) = (cv.toInt8.toInt32)
   · exact stq _ (1 : Int32) ⟨by decide, by decide⟩ hc1 (J3 (1 : Int32) (by unfold own_ix own_ixb; rw [if_neg hc0, if_pos hc1]))
   refine stp _ (1 : Int32) ⟨by decide, by decide⟩ hc1 ?_
   by_cases hc2 : (67 : Int32) = (cv.toInt8.toInt32)
   · exact stq _ (2 : Int32) ⟨by decide, by decide⟩ hc2 (J3 (2 : Int32) (by unfold own_ix own_ixb; rw [if_neg hc0, if_neg hc1, if_pos hc2]))
   refine stp _ (2 : Int32) ⟨by decide, by decide⟩ hc2 ?_
   by_cases hc3 : (68 : Int32) = (cv.toInt8.toInt32)
   · exact stq _ (3 : Int32) ⟨by decide, by decide⟩ hc3 (J3 (3 : Int32) (by unfold own_ix own_ixb; rw [if_neg hc0, if_neg hc1, if_neg hc2, if_pos hc3]))
   refine stp _ (3 : Int32) ⟨by decide, by decide⟩ hc3 ?_
   by_cases hc4 : (69 : Int32) = (cv.toInt8.toInt32)
   · exact stq _ (4 : Int32) ⟨by decide, by decide⟩ hc4 (J3 (4 : Int32) (by unfold own_ix own_ixb; rw [if_neg hc0, if_neg hc1, if_neg hc2, if_neg hc3, if_pos hc4]))
   refine stp _ (4 : Int32) ⟨by decide, by decide⟩ hc4 ?_
   by_cases hc5 : (70 : Int32) = (cv.toInt8.toInt32)
   · exact stq _ (5 : Int32) ⟨by decide, by decide⟩ hc5 (J3 (5 : Int32) (by unfold own_ix own_ixb; rw [if_neg hc0, if_neg hc1, if_neg hc2, if_neg hc3, if_neg hc4, if_pos hc5]))
   refine stp _ (5 : Int32) ⟨by decide, by decide⟩ hc5 ?_
   by_cases hc6 : (71 : Int32) = (cv.toInt8.toInt32)
   · exact stq _ (6 : Int32) ⟨by decide, by decide⟩ hc6 (J3 (6 : Int32) (by unfold own_ix own_ixb; rw [if_neg hc0, if_neg hc1, if_neg hc2, if_neg hc3, if_neg hc4, if_neg hc5, if_pos hc6]))
   refine stp _ (6 : Int32) ⟨by decide, by decide⟩ hc6 ?_
   by_cases hc7 : (72 : Int32) = (cv.toInt8.toInt32)
   · exact stq _ (7 : Int32) ⟨by decide, by decide⟩ hc7 (J3 (7 : Int32) (by unfold own_ix own_ixb; rw [if_neg hc0, if_neg hc1, if_neg hc2, if_neg hc3, if_neg hc4, if_neg hc5, if_neg hc6, if_pos hc7]))
   refine stp _ (7 : Int32) ⟨by decide, by decide⟩ hc7 ?_
   by_cases hc8 : (73 : Int32) = (cv.toInt8.toInt32)
   · exact stq _ (8 : Int32) ⟨by decide, by decide⟩ hc8 (J3 (8 : Int32) (by unfold own_ix own_ixb; rw [if_neg hc0, if_neg hc1, if_neg hc2, if_neg hc3, if_neg hc4, if_neg hc5, if_neg hc6, if_neg hc7, if_pos hc8]))
   refine stp _ (8 : Int32) ⟨by decide, by decide⟩ hc8 ?_
   by_cases hc9 : (74 : Int32) = (cv.toInt8.toInt32)
   · exact stq _ (9 : Int32) ⟨by decide, by decide⟩ hc9 (J3 (9 : Int32) (by unfold own_ix own_ixb; rw [if_neg hc0, if_neg hc1, if_neg hc2, if_neg hc3, if_neg hc4, if_neg hc5, if_neg hc6, if_neg hc7, if_neg hc8, if_pos hc9]))
   refine stp _ (9 : Int32) ⟨by decide, by decide⟩ hc9 ?_
   by_cases hc10 : (75 : Int32) = (cv.toInt8.toInt32)
   · exact stq _ (10 : Int32) ⟨by decide, by decide⟩ hc10 (J3 (10 : Int32) (by unfold own_ix own_ixb; rw [if_neg hc0, if_neg hc1, if_neg hc2, if_neg hc3, if_neg hc4, if_neg hc5, if_neg hc6, if_neg hc7, if_neg hc8, if_neg hc9, if_pos hc10]))
   refine stp _ (10 : Int32) ⟨by decide, by decide⟩ hc10 ?_
   by_cases hc11 : (76 : Int32) = (cv.toInt8.toInt32)
   · exact stq _ (11 : Int32) ⟨by decide, by decide⟩ hc11 (J3 (11 : Int32) (by unfold own_ix own_ixb; rw [if_neg hc0, if_neg hc1, if_neg hc2, if_neg hc3, if_neg hc4, if_neg hc5, if_neg hc6, if_neg hc7, if_neg hc8, if_neg hc9, if_neg hc10, if_pos hc11]))
   refine stp _ (11 : Int32) ⟨by decide, by decide⟩ hc11 ?_
   by_cases hc12 : (77 : Int32) = (cv.toInt8.toInt32)
   · exact stq _ (12 : Int32) ⟨by decide, by decide⟩ hc12 (J3 (12 : Int32) (by unfold own_ix own_ixb; rw [if_neg hc0, if_neg hc1, if_neg hc2, if_neg hc3, if_neg hc4, if_neg hc5, if_neg hc6, if_neg hc7, if_neg hc8, if_neg hc9, if_neg hc10, if_neg hc11, if_pos hc12]))
   refine stp _ (12 : Int32) ⟨by decide, by decide⟩ hc12 ?_
   by_cases hc13 : (78 : Int32) = (cv.toInt8.toInt32)
   · exact stq _ (13 : Int32) ⟨by decide, by decide⟩ hc13 (J3 (13 : Int32) (by unfold own_ix own_ixb; rw [if_neg hc0, if_neg hc1, if_neg hc2, if_neg hc3, if_neg hc4, if_neg hc5, if_neg hc6, if_neg hc7, if_neg hc8, if_neg hc9, if_neg hc10, if_neg hc11, if_neg hc12, if_pos hc13]))
   refine stp _ (13 : Int32) ⟨by decide, by decide⟩ hc13 ?_
   by_cases hc14 : (79 : Int32) = (cv.toInt8.toInt32)
   · exact stq _ (14 : Int32) ⟨by decide, by decide⟩ hc14 (J3 (14 : Int32) (by unfold own_ix own_ixb; rw [if_neg hc0, if_neg hc1, if_neg hc2, if_neg hc3, if_neg hc4, if_neg hc5, if_neg hc6, if_neg hc7, if_neg hc8, if_neg hc9, if_neg hc10, if_neg hc11, if_neg hc12, if_neg hc13, if_pos hc14]))
   refine stp _ (14 : Int32) ⟨by decide, by decide⟩ hc14 ?_
   by_cases hc15 : (80 : Int32) = (cv.toInt8.toInt32)
   · exact stq _ (15 : Int32) ⟨by decide, by decide⟩ hc15 (J3 (15 : Int32) (by unfold own_ix own_ixb; rw [if_neg hc0, if_neg hc1, if_neg hc2, if_neg hc3, if_neg hc4, if_neg hc5, if_neg hc6, if_neg hc7, if_neg hc8, if_neg hc9, if_neg hc10, if_neg hc11, if_neg hc12, if_neg hc13, if_neg hc14, if_pos hc15]))
   refine stp _ (15 : Int32) ⟨by decide, by decide⟩ hc15 ?_
   by_cases hc16 : (81 : Int32) = (cv.toInt8.toInt32)
   · exact stq _ (16 : Int32) ⟨by decide, by decide⟩ hc16 (J3 (16 : Int32) (by unfold own_ix own_ixb; rw [if_neg hc0, if_neg hc1, if_neg hc2, if_neg hc3, if_neg hc4, if_neg hc5, if_neg hc6, if_neg hc7, if_neg hc8, if_neg hc9, if_neg hc10, if_neg hc11, if_neg hc12, if_neg hc13, if_neg hc14, if_neg hc15, if_pos hc16]))
   refine stp _ (16 : Int32) ⟨by decide, by decide⟩ hc16 ?_
   by_cases hc17 : (82 : Int32) = (cv.toInt8.toInt32)
   · exact stq _ (17 : Int32) ⟨by decide, by decide⟩ hc17 (J3 (17 : Int32) (by unfold own_ix own_ixb; rw [if_neg hc0, if_neg hc1, if_neg hc2, if_neg hc3, if_neg hc4, if_neg hc5, if_neg hc6, if_neg hc7, if_neg hc8, if_neg hc9, if_neg hc10, if_neg hc11, if_neg hc12, if_neg hc13, if_neg hc14, if_neg hc15, if_neg hc16, if_pos hc17]))
   refine stp _ (17 : Int32) ⟨by decide, by decide⟩ hc17 ?_
   by_cases hc18 : (83 : Int32) = (cv.toInt8.toInt32)
   · exact stq _ (18 : Int32) ⟨by decide, by decide⟩ hc18 (J3 (18 : Int32) (by unfold own_ix own_ixb; rw [if_neg hc0, if_neg hc1, if_neg hc2, if_neg hc3, if_neg hc4, if_neg hc5, if_neg hc6, if_neg hc7, if_neg hc8, if_neg hc9, if_neg hc10, if_neg hc11, if_neg hc12, if_neg hc13, if_neg hc14, if_neg hc15, if_neg hc16, if_neg hc17, if_pos hc18]))
   refine stp _ (18 : Int32) ⟨by decide, by decide⟩ hc18 ?_
   by_cases hc19 : (84 : Int32) = (cv.toInt8.toInt32)
   · exact stq _ (19 : Int32) ⟨by decide, by decide⟩ hc19 (J3 (19 : Int32) (by unfold own_ix own_ixb; rw [if_neg hc0, if_neg hc1, if_neg hc2, if_neg hc3, if_neg hc4, if_neg hc5, if_neg hc6, if_neg hc7, if_neg hc8, if_neg hc9, if_neg hc10, if_neg hc11, if_neg hc12, if_neg hc13, if_neg hc14, if_neg hc15, if_neg hc16, if_neg hc17, if_neg hc18, if_pos hc19]))
   refine stp _ (19 : Int32) ⟨by decide, by decide⟩ hc19 ?_
   by_cases hc20 : (85 : Int32) = (cv.toInt8.toInt32)
   · exact stq _ (20 : Int32) ⟨by decide, by decide⟩ hc20 (J3 (20 : Int32) (by unfold own_ix own_ixb; rw [if_neg hc0, if_neg hc1, if_neg hc2, if_neg hc3, if_neg hc4, if_neg hc5, if_neg hc6, if_neg hc7, if_neg hc8, if_neg hc9, if_neg hc10, if_neg hc11, if_neg hc12, if_neg hc13, if_neg hc14, if_neg hc15, if_neg hc16, if_neg hc17, if_neg hc18, if_neg hc19, if_pos hc20]))
   refine stp _ (20 : Int32) ⟨by decide, by decide⟩ hc20 ?_
   by_cases hc21 : (86 : Int32) = (cv.toInt8.toInt32)
   · exact stq _ (21 : Int32) ⟨by decide, by decide⟩ hc21 (J3 (21 : Int32) (by unfold own_ix own_ixb; rw [if_neg hc0, if_neg hc1, if_neg hc2, if_neg hc3, if_neg hc4, if_neg hc5, if_neg hc6, if_neg hc7, if_neg hc8, if_neg hc9, if_neg hc10, if_neg hc11, if_neg hc12, if_neg hc13, if_neg hc14, if_neg hc15, if_neg hc16, if_neg hc17, if_neg hc18, if_neg hc19, if_neg hc20, if_pos hc21]))
   refine stp _ (21 : Int32) ⟨by decide, by decide⟩ hc21 ?_
   by_cases hc22 : (87 : Int32) = (cv.toInt8.toInt32)
   · exact stq _ (22 : Int32) ⟨by decide, by decide⟩ hc22 (J3 (22 : Int32) (by unfold own_ix own_ixb; rw [if_neg hc0, if_neg hc1, if_neg hc2, if_neg hc3, if_neg hc4, if_neg hc5, if_neg hc6, if_neg hc7, if_neg hc8, if_neg hc9, if_neg hc10, if_neg hc11, if_neg hc12, if_neg hc13, if_neg hc14, if_neg hc15, if_neg hc16, if_neg hc17, if_neg hc18, if_neg hc19, if_neg hc20, if_neg hc21, if_pos hc22]))
   refine stp _ (22 : Int32) ⟨by decide, by decide⟩ hc22 ?_
   by_cases hc23 : (88 : Int32) = (cv.toInt8.toInt32)
   · exact stq _ (23 : Int32) ⟨by decide, by decide⟩ hc23 (J3 (23 : Int32) (by unfold own_ix own_ixb; rw [if_neg hc0, if_neg hc1, if_neg hc2, if_neg hc3, if_neg hc4, if_neg hc5, if_neg hc6, if_neg hc7, if_neg hc8, if_neg hc9, if_neg hc10, if_neg hc11, if_neg hc12, if_neg hc13, if_neg hc14, if_neg hc15, if_neg hc16, if_neg hc17, if_neg hc18, if_neg hc19, if_neg hc20, if_neg hc21, if_neg hc22, if_pos hc23]))
   refine stp _ (23 : Int32) ⟨by decide, by decide⟩ hc23 ?_
   by_cases hc24 : (89 : Int32) = (cv.toInt8.toInt32)
   · exact stq _ (24 : Int32) ⟨by decide, by decide⟩ hc24 (J3 (24 : Int32) (by unfold own_ix own_ixb; rw [if_neg hc0, if_neg hc1, if_neg hc2, if_neg hc3, if_neg hc4, if_neg hc5, if_neg hc6, if_neg hc7, if_neg hc8, if_neg hc9, if_neg hc10, if_neg hc11, if_neg hc12, if_neg hc13, if_neg hc14, if_neg hc15, if_neg hc16, if_neg hc17, if_neg hc18, if_neg hc19, if_neg hc20, if_neg hc21, if_neg hc22, if_neg hc23, if_pos hc24]))
   refine stp _ (24 : Int32) ⟨by decide, by decide⟩ hc24 ?_
   by_cases hc25 : (90 : Int32) = (cv.toInt8.toInt32)
   · exact stq _ (25 : Int32) ⟨by decide, by decide⟩ hc25 (J3 (25 : Int32) (by unfold own_ix own_ixb; rw [if_neg hc0, if_neg hc1, if_neg hc2, if_neg hc3, if_neg hc4, if_neg hc5, if_neg hc6, if_neg hc7, if_neg hc8, if_neg hc9, if_neg hc10, if_neg hc11, if_neg hc12, if_neg hc13, if_neg hc14, if_neg hc15, if_neg hc16, if_neg hc17, if_neg hc18, if_neg hc19, if_neg hc20, if_neg hc21, if_neg hc22, if_neg hc23, if_neg hc24, if_pos hc25]))
   refine stp _ (25 : Int32) ⟨by decide, by decide⟩ hc25 ?_
   by_cases hc26 : (50 : Int32) = (cv.toInt8.toInt32)
   · exact stq _ (26 : Int32) ⟨by decide, by decide⟩ hc26 (J3 (26 : Int32) (by unfold own_ix own_ixb; rw [if_neg hc0, if_neg hc1, if_neg hc2, if_neg hc3, if_neg hc4, if_neg hc5, if_neg hc6, if_neg hc7, if_neg hc8, if_neg hc9, if_neg hc10, if_neg hc11, if_neg hc12, if_neg hc13, if_neg hc14, if_neg hc15, if_neg hc16, if_neg hc17, if_neg hc18, if_neg hc19, if_neg hc20, if_neg hc21, if_neg hc22, if_neg hc23, if_neg hc24, if_neg hc25, if_pos hc26]))
   refine stp _ (26 : Int32) ⟨by decide, by decide⟩ hc26 ?_
   by_cases hc27 : (51 : Int32) = (cv.toInt8.toInt32)
   · exact stq _ (27 : Int32) ⟨by decide, by decide⟩ hc27 (J3 (27 : Int32) (by unfold own_ix own_ixb; rw [if_neg hc0, if_neg hc1, if_neg hc2, if_neg hc3, if_neg hc4, if_neg hc5, if_neg hc6, if_neg hc7, if_neg hc8, if_neg hc9, if_neg hc10, if_neg hc11, if_neg hc12, if_neg hc13, if_neg hc14, if_neg hc15, if_neg hc16, if_neg hc17, if_neg hc18, if_neg hc19, if_neg hc20, if_neg hc21, if_neg hc22, if_neg hc23, if_neg hc24, if_neg hc25, if_neg hc26, if_pos hc27]))
   refine stp _ (27 : Int32) ⟨by decide, by decide⟩ hc27 ?_
   by_cases hc28 : (52 : Int32) = (cv.toInt8.toInt32)
   · exact stq _ (28 : Int32) ⟨by decide, by decide⟩ hc28 (J3 (28 : Int32) (by unfold own_ix own_ixb; rw [if_neg hc0, if_neg hc1, if_neg hc2, if_neg hc3, if_neg hc4, if_neg hc5, if_neg hc6, if_neg hc7, if_neg hc8, if_neg hc9, if_neg hc10, if_neg hc11, if_neg hc12, if_neg hc13, if_neg hc14, if_neg hc15, if_neg hc16, if_neg hc17, if_neg hc18, if_neg hc19, if_neg hc20, if_neg hc21, if_neg hc22, if_neg hc23, if_neg hc24, if_neg hc25, if_neg hc26, if_neg hc27, if_pos hc28]))
   refine stp _ (28 : Int32) ⟨by decide, by decide⟩ hc28 ?_
   by_cases hc29 : (53 : Int32) = (cv.toInt8.toInt32)
   · exact stq _ (29 : Int32) ⟨by decide, by decide⟩ hc29 (J3 (29 : Int32) (by unfold own_ix own_ixb; rw [if_neg hc0, if_neg hc1, if_neg hc2, if_neg hc3, if_neg hc4, if_neg hc5, if_neg hc6, if_neg hc7, if_neg hc8, if_neg hc9, if_neg hc10, if_neg hc11, if_neg hc12, if_neg hc13, if_neg hc14, if_neg hc15, if_neg hc16, if_neg hc17, if_neg hc18, if_neg hc19, if_neg hc20, if_neg hc21, if_neg hc22, if_neg hc23, if_neg hc24, if_neg hc25, if_neg hc26, if_neg hc27, if_neg hc28, if_pos hc29]))
   refine stp _ (29 : Int32) ⟨by decide, by decide⟩ hc29 ?_
   by_cases hc30 : (54 : Int32) = (cv.toInt8.toInt32)
   · exact stq _ (30 : Int32) ⟨by decide, by decide⟩ hc30 (J3 (30 : Int32) (by unfold own_ix own_ixb; rw [if_neg hc0, if_neg hc1, if_neg hc2, if_neg hc3, if_neg hc4, if_neg hc5, if_neg hc6, if_neg hc7, if_neg hc8, if_neg hc9, if_neg hc10, if_neg hc11, if_neg hc12, if_neg hc13, if_neg hc14, if_neg hc15, if_neg hc16, if_neg hc17, if_neg hc18, if_neg hc19, if_neg hc20, if_neg hc21, if_neg hc22, if_neg hc23, if_neg hc24, if_neg hc25, if_neg hc26, if_neg hc27, if_neg hc28, if_neg hc29, if_pos hc30]))
   refine stp _ (30 : Int32) ⟨by decide, by decide⟩ hc30 ?_
   by_cases hc31 : (55 : Int32) = (cv.toInt8.toInt32)
   · exact stq _ (31 : Int32) ⟨by decide, by decide⟩ hc31 (J3 (31 : Int32) (by unfold own_ix own_ixb; rw [if_neg hc0, if_neg hc1, if_neg hc2, if_neg hc3, if_neg hc4, if_neg hc5, if_neg hc6, if_neg hc7, if_neg hc8, if_neg hc9, if_neg hc10, if_neg hc11, if_neg hc12, if_neg hc13, if_neg hc14, if_neg hc15, if_neg hc16, if_neg hc17, if_neg hc18, if_neg hc19, if_neg hc20, if_neg hc21, if_neg hc22, if_neg hc23, if_neg hc24, if_neg hc25, if_neg hc26, if_neg hc27, if_neg hc28, if_neg hc29, if_neg hc30, if_pos hc31]))
   refine stp _ (31 : Int32) ⟨by decide, by decide⟩ hc31 ?_
   refine ogo (mkF m 32 #[rv lb, iv cv, iv 0, iv 32, iv (cv.toInt8.toInt32), iv 32] [(.int (-1 : Int32))]) (fun _ k => XS.iload X0.here hx rfl (hb hby d45_7) rfl (XS.iloadN X0.here hx rfl (hb hby d45_9) rfl (XS.icmpYes X0.here hx rfl (pc0 := 10) (pc' := 31) rfl (hb hby d45_10) rfl (flt (by decide : ¬ ((32 : Int32) < (32 : Int32)))).2.1 (by decide) (by decide) (XS.iconst X0.here hx rfl (hb hby d45_31) k)))) ?_
   exact own_endI X0 hx hr2 (hb hby d45_32) (by decide) (by decide) (by rw [e0]; exact ⟨(congrArg (fun z => some (Value.int z)) (by unfold own_ix own_ixb; rw [if_neg hc0, if_neg hc1, if_neg hc2, if_neg hc3, if_neg hc4, if_neg hc5, if_neg hc6, if_neg hc7, if_neg hc8, if_neg hc9, if_neg hc10, if_neg hc11, if_neg hc12, if_neg hc13, if_neg hc14, if_neg hc15, if_neg hc16, if_neg hc17, if_neg hc18, if_neg hc19, if_neg hc20, if_neg hc21, if_neg hc22, if_neg hc23, if_neg hc24, if_neg hc25, if_neg hc26, if_neg hc27, if_neg hc28, if_neg hc29, if_neg hc30, if_neg hc31])), N0, rfl⟩)
theorem d44_0 : dk cd44 0 (.iload_n 0) 1 := by decide +kernel
theorem d44_1 : dk cd44 1 (.ifCond .lt 14) 3 := by decide +kernel
theorem d44_4 : dk cd44 4 (.iload_n 0) 1 := by decide +kernel
theorem d44_5 : dk cd44 5 (.sipush 255) 3 := by decide +kernel
theorem d44_8 : dk cd44 8 (.if_icmp .gt 7) 3 := by decide +kernel
theorem d44_11 : dk cd44 11 (.iconst 1) 1 := by decide +kernel
theorem d44_12 : dk cd44 12 (.goto 4) 3 := by decide +kernel
theorem d44_16 : dk cd44 16 .ireturn 1 := by decide +kernel
theorem pn_44 : plainName cs6 = true := by first | (simp [plainName, overriddenIn]; done) | decide +kernel
theorem ef_rmcei (m : MethodId) (x0 : Int32) : entryFrame m #[(.int x0)] 1 = mkF m 0 #[iv x0] [] := by first | (simp [entryFrame, mkF, argsToLocals, Value.category]; done) | rfl
def Qrmcei (Z : State) (cv : Int32) (h0 : Heap) (n0 : Nat) (v : Option Value) (h : Heap) (L : List Loc) : Prop := v = some (.int 1) ∧ Fr n0 L ∧ h = h0
theorem rmcei (l : Launch) (Z : State) (a0 : Array Value) (hw : HW a0 Z) (ws : List Jvm.Cond) (cv : Int32) (h0 : Heap) (n0 : Nat) (Z0 : n0 ≤ h0.size) (hl0 : ¬ (cv < (0 : Int32))) (h8 : ¬ ((255 : Int32) < cv)) :
    own_MF l (⟨cs6, "canEncode", "(I)Z"⟩ : MethodName) cd44 1 (some .boolean) ws (rom 0 0 0 0) #[(.int cv)] Z h0 (Qrmcei Z cv h0 n0) := by
 refine own_body n0 (plainFor_of_name pn_44) (fun m => ef_rmcei m cv) (fun p e s m below meth c s₁ hx hby hml hr2 hZ hown hnm X0 e0 N0 => ?_)
 refine ogo (mkF m 16 #[iv cv] [(.int 1)]) (fun _ k => XS.iloadN X0.here hx rfl (hb hby d44_0) rfl (XS.ifNo X0.here hx rfl (hb hby d44_1) rfl ((if0 _ _).trans (flt hl0).1) (XS.iloadN X0.here hx rfl (hb hby d44_4) rfl (XS.sipush X0.here hx rfl (hb hby d44_5) (XS.icmpNo X0.here hx rfl (hb hby d44_8) rfl (flt h8).2.2.1 (XS.iconst X0.here hx rfl (hb hby d44_11) (XS.goto X0.here hx rfl (pc0 := 12) (pc' := 16) rfl (hb hby d44_12) (by decide) (by decide) k))))))) ?_
 exact own_endN X0 hx hr2 (by simp) (hb hby d44_16) (by decide) (by decide) (by rw [e0]; exact ⟨rfl, N0, rfl⟩)
theorem d43_0 : dk cd43 0 (.iload_n 1) 1 := by decide +kernel
theorem d43_1 : dk cd43 1 (.invokestatic 88) 3 := by decide +kernel
theorem d43_4 : dk cd43 4 (.ifCond .ne 5) 3 := by decide +kernel
theorem d43_9 : dk cd43 9 (.iload_n 2) 1 := by decide +kernel
theorem d43_10 : dk cd43 10 (.iconst 0) 1 := by decide +kernel
theorem d43_11 : dk cd43 11 (.invokestatic 92) 3 := by decide +kernel
theorem d43_14 : dk cd43 14 (.istore_n 2) 1 := by decide +kernel
theorem d43_15 : dk cd43 15 (.iload_n 3) 1 := by decide +kernel
theorem d43_16 : dk cd43 16 (.aload_n 0) 1 := by decide +kernel
theorem d43_17 : dk cd43 17 .arraylength 1 := by decide +kernel
theorem d43_18 : dk cd43 18 (.invokestatic 38) 3 := by decide +kernel
theorem d43_21 : dk cd43 21 (.istore_n 3) 1 := by decide +kernel
theorem d43_22 : dk cd43 22 (.iload_n 2) 1 := by decide +kernel
theorem d43_23 : dk cd43 23 (.iload_n 3) 1 := by decide +kernel
theorem d43_24 : dk cd43 24 (.if_icmp .lt 5) 3 := by decide +kernel
theorem d43_29 : dk cd43 29 (.aload_n 0) 1 := by decide +kernel
theorem d43_30 : dk cd43 30 (.iload_n 1) 1 := by decide +kernel
theorem d43_31 : dk cd43 31 (.iload_n 2) 1 := by decide +kernel
theorem d43_32 : dk cd43 32 (.iload_n 3) 1 := by decide +kernel
theorem d43_33 : dk cd43 33 (.invokestatic 95) 3 := by decide +kernel
theorem d43_36 : dk cd43 36 .ireturn 1 := by decide +kernel
theorem pd__I_Z : parseMethodDescriptor "(I)Z" = some ⟨[.int], some .boolean⟩ := by decide +kernel
theorem pd___BIII_I : parseMethodDescriptor "([BIII)I" = some ⟨[(.array .byte), .int, .int, .int], some .int⟩ := by decide +kernel
theorem pn_43 : plainName cs6 = true := by first | (simp [plainName, overriddenIn]; done) | decide +kernel
theorem ef_rmixl (m : MethodId) (x0 : Addr) (x1 : Int32) (x2 : Int32) (x3 : Int32) : entryFrame m #[(.ref x0), (.int x1), (.int x2), (.int x3)] 4 = mkF m 0 #[rv x0, iv x1, iv x2, iv x3] [] := by first | (simp [entryFrame, mkF, argsToLocals, Value.category]; done) | rfl
def Qrmixl (Z : State) (lb : Addr) (lk : ClassId) (cv : Int32) (h0 : Heap) (n0 : Nat) (v : Option Value) (h : Heap) (L : List Loc) : Prop := v = some (.int (own_ix cv)) ∧ Fr n0 L ∧ h = h0
theorem rmixl (l : Launch) (Z : State) (a0 : Array Value) (hw : HW a0 Z) (ws : List Jvm.Cond) (lb : Addr) (lk : ClassId) (cv : Int32) (h0 : Heap) (n0 : Nat) (Z0 : n0 ≤ h0.size) (V_lb : Arv Z h0 lb lk .byte (32 : Int32) [(.int 65), (.int 66), (.int 67), (.int 68), (.int 69), (.int 70), (.int 71), (.int 72), (.int 73), (.int 74), (.int 75), (.int 76), (.int 77), (.int 78), (.int 79), (.int 80), (.int 81), (.int 82), (.int 83), (.int 84), (.int 85), (.int 86), (.int 87), (.int 88), (.int 89), (.int 90), (.int 50), (.int 51), (.int 52), (.int 53), (.int 54), (.int 55)] (.int 0)) (hl0 : ¬ (cv < (0 : Int32))) (h8 : ¬ ((255 : Int32) < cv)) :
    own_MF l (⟨cs6, "indexOf", "([BIII)I"⟩ : MethodName) cd43 4 (some .int) ws (rom 1 0 0 17) #[(.ref lb), (.int cv), (.int 0), (.int 32)] Z h0 (Qrmixl Z lb lk cv h0 n0) := by
 refine own_body n0 (plainFor_of_name pn_43) (fun m => ef_rmixl m lb cv (0 : Int32) (32 : Int32)) (fun p e s m below meth c s₁ hx hby hml hr2 hZ hown hnm X0 e0 N0 => ?_)
 refine ogo (mkF m 1 #[rv lb, iv cv, iv 0, iv 32] [(.int cv)]) (fun _ k => XS.iloadN X0.here hx rfl (hb hby d43_0) rfl k) ?_
 refine own_stat (W := 0) X0 hx hZ hown e0 (ow hw 233 rfl) (ow hw 234 rfl) (rmcei l Z a0 hw [] cv h0 n0 Z0 hl0 h8) (ow hw 235 rfl) (ow hw 59 rfl) rfl (by rw [hml]; rfl) rfl (hb hby d43_1) (lenOf pd__I_Z rfl) rfl (by decide) (fun T1 v1 Ll1 X1 hQ1 => ?_)
 obtain ⟨rfl, N1q, eh1⟩ := hQ1
 have N1 := Fr.app N0 N1q
 refine ogo (mkF m 11 #[rv lb, iv cv, iv 0, iv 32] [(.int 0), (.int 0)]) (fun _ k => XS.ifYes X1.here hx rfl (pc0 := 4) (pc' := 9) rfl (hb hby d43_4) rfl ((if0 _ _).trans (feq (by decide : ¬ ((1 : Int32) = (0 : Int32)))).2) (by decide) (by decide) (XS.iloadN X1.here hx rfl (hb hby d43_9) rfl (XS.iconst X1.here hx rfl (hb hby d43_10) k))) ?_
 refine own_stat (W := 0) X1 hx hZ hown eh1 (ow hw 236 rfl) (ow hw 104 rfl) (rmmaxA l Z a0 hw [] (0 : Int32) (0 : Int32) h0 n0 Z0 (by decide)) (ow hw 106 rfl) (ow hw 105 rfl) rfl (by rw [hml]; rfl) rfl (hb hby d43_11) (lenOf pd__II_I rfl) rfl (by decide) (fun T2 v2 Ll2 X2 hQ2 => ?_)
 obtain ⟨rfl, N2q, eh2⟩ := hQ2
 have N2 := Fr.app N1 N2q
 refine ogo (mkF m 17 #[rv lb, iv cv, iv 0, iv 32] [(.ref lb), (.int 32)]) (fun _ k => XS.istoreN X2.here hx rfl (hb hby d43_14) rfl (l' := #[rv lb, iv cv, iv 0, iv 32]) rfl (XS.iloadN X2.here hx rfl (hb hby d43_15) rfl (XS.aloadN X2.here hx rfl (hb hby d43_16) rfl rfl k))) ?_
 obtain ⟨cl3, Ar3, -, Sz3, Nn3, -, -⟩ := id V_lb
 refine own_go (b := (T2.setTop (mkF m 18 #[rv lb, iv cv, iv 0, iv 32] [(.int 32), (.int 32)]))) (fun _ k => X2.arraylength hx (by rw [eh2]; exact Ar3.1) (State.isArrayOf_alike hZ.alike Ar3.2.1) (g := (mkF m 17 #[rv lb, iv cv, iv 0, iv 32] [(.ref lb), (.int 32)])) rfl rfl (hb hby d43_17) _ (by rw [len_of Sz3 Nn3]; exact k)) ?_
 refine own_stat (W := 0) X2 hx hZ hown eh2 (ow hw 237 rfl) (ow hw 114 rfl) (rmminA l Z a0 hw [] (32 : Int32) (32 : Int32) h0 n0 Z0 (by decide)) (ow hw 115 rfl) (ow hw 105 rfl) rfl (by rw [hml]; rfl) rfl (hb hby d43_18) (lenOf pd__II_I rfl) rfl (by decide) (fun T4 v4 Ll4 X4 hQ4 => ?_)
 obtain ⟨rfl, N4q, eh4⟩ := hQ4
 have N4 := Fr.app N2 N4q
 refine ogo (mkF m 33 #[rv lb, iv cv, iv 0, iv 32] [(.int 32), (.int 0), (.int cv), (.ref lb)]) (fun _ k => XS.istoreN X4.here hx rfl (hb hby d43_21) rfl (l' := #[rv lb, iv cv, iv 0, iv 32]) rfl (XS.iloadN X4.here hx rfl (hb hby d43_22) rfl (XS.iloadN X4.here hx rfl (hb hby d43_23) rfl (XS.icmpYes X4.here hx rfl (pc0 := 24) (pc' := 29) rfl (hb hby d43_24) rfl (tlt (by decide : (0 : Int32) < (32 : Int32))).1 (by decide) (by decide) (XS.aloadN X4.here hx rfl (hb hby d43_29) rfl rfl (XS.iloadN X4.here hx rfl (hb hby d43_30) rfl (XS.iloadN X4.here hx rfl (hb hby d43_31) rfl (XS.iloadN X4.here hx rfl (hb hby d43_32) rfl k)))))))) ?_
 refine own_stat (W := 0) X4 hx hZ hown eh4 (ow hw 238 rfl) (ow hw 239 rfl) (rmixc l Z a0 hw [] lb lk cv h0 n0 Z0 V_lb) (ow hw 240 rfl) (ow hw 59 rfl) rfl (by rw [hml]; rfl) rfl (hb hby d43_33) (lenOf pd___BIII_I rfl) rfl (by decide) (fun T5 v5 Ll5 X5 hQ5 => ?_)
 obtain ⟨rfl, N5q, eh5⟩ := hQ5
 have N5 := Fr.app N4 N5q
 exact own_endI X5 hx hr2 (hb hby d43_36) (by decide) (by decide) (by rw [eh5]; exact ⟨rfl, N5, rfl⟩)
theorem d42_0 : dk cd42 0 (.aload_n 0) 1 := by decide +kernel
theorem d42_1 : dk cd42 1 (.invokevirtual 492) 3 := by decide +kernel
theorem d42_4 : dk cd42 4 (.ifCond .eq 19) 3 := by decide +kernel
theorem d42_7 : dk cd42 7 (.aload_n 0) 1 := by decide +kernel
theorem d42_8 : dk cd42 8 (.getfield 9) 3 := by decide +kernel
theorem d42_11 : dk cd42 11 (.iload_n 1) 1 := by decide +kernel
theorem d42_12 : dk cd42 12 (.iload_n 2) 1 := by decide +kernel
theorem d42_13 : dk cd42 13 (.aload_n 0) 1 := by decide +kernel
theorem d42_14 : dk cd42 14 (.invokevirtual 505) 3 := by decide +kernel
theorem d42_17 : dk cd42 17 (.invokestatic 637) 3 := by decide +kernel
theorem d42_20 : dk cd42 20 (.goto 16) 3 := by decide +kernel
theorem d42_36 : dk cd42 36 .ireturn 1 := by decide +kernel
theorem pn_42 : plainName cs1 = true := by first | (simp [plainName, overriddenIn]; done) | decide +kernel
theorem ef_rmix2 (m : MethodId) (x0 : Addr) (x1 : Int32) (x2 : Int32) : entryFrame m #[(.ref x0), (.int x1), (.int x2)] 3 = mkF m 0 #[rv x0, iv x1, iv x2] [] := by first | (simp [entryFrame, mkF, argsToLocals, Value.category]; done) | rfl
def Qrmix2 (Z : State) (la lb : Addr) (lk : ClassId) (cv cs : Int32) (h0 : Heap) (n0 : Nat) (v : Option Value) (h : Heap) (L : List Loc) : Prop := v = some (.int (own_ix cv)) ∧ Fr n0 L ∧ h = h0
theorem rmix2 (l : Launch) (Z : State) (a0 : Array Value) (hw : HW a0 Z) (ws : List Jvm.Cond) (la lb : Addr) (lk : ClassId) (cv cs : Int32) (h0 : Heap) (n0 : Nat) (Z0 : n0 ≤ h0.size) (O0 : Old Z n0 h0) (SC : Sta Z Z.heap cs1 "COMPACT_STRINGS" "Z" (.int cs)) (hcs : ¬ (cs = (0 : Int32))) (E_la : Exa Z h0 la cs1) (Fld_la_coder : Fld Z h0 la cs1 "coder" "B" (.int 0)) (Fld_la_value : Fld Z h0 la cs1 "value" "[B" (.ref lb)) (V_lb : Arv Z h0 lb lk .byte (32 : Int32) [(.int 65), (.int 66), (.int 67), (.int 68), (.int 69), (.int 70), (.int 71), (.int 72), (.int 73), (.int 74), (.int 75), (.int 76), (.int 77), (.int 78), (.int 79), (.int 80), (.int 81), (.int 82), (.int 83), (.int 84), (.int 85), (.int 86), (.int 87), (.int 88), (.int 89), (.int 90), (.int 50), (.int 51), (.int 52), (.int 53), (.int 54), (.int 55)] (.int 0)) (hl0 : ¬ (cv < (0 : Int32))) (h8 : ¬ ((255 : Int32) < cv)) :
    own_MF l (⟨cs1, "indexOf", "(II)I"⟩ : MethodName) cd42 3 (some .int) ws (rom 2 0 0 32) #[(.ref la), (.int cv), (.int 0)] Z h0 (Qrmix2 Z la lb lk cv cs h0 n0) := by
 refine own_body n0 (plainFor_of_name pn_42) (fun m => ef_rmix2 m la cv (0 : Int32)) (fun p e s m below meth c s₁ hx hby hml hr2 hZ hown hnm X0 e0 N0 => ?_)
 refine ogo (mkF m 1 #[rv la, iv cv, iv 0] [(.ref la)]) (fun _ k => XS.aloadN X0.here hx rfl (hb hby d42_0) rfl rfl k) ?_
 refine own_virt (W := 0) X0 hx hZ hown e0 (ow hw 49 rfl) (ow hw 50 rfl) (ow hw 52 rfl) (ow hw 51 rfl) (rmil l Z a0 hw [] la cs h0 n0 Z0 O0 SC hcs Fld_la_coder) (ow hw 53 rfl) (ow hw 33 rfl) E_la rfl (by rw [hml]; rfl) rfl (hb hby d42_1) (lenOf pd___Z rfl) rfl (by decide) (fun T1 v1 Ll1 X1 hQ1 => ?_)
 obtain ⟨rfl, N1q, eh1⟩ := hQ1
 have N1 := Fr.app N0 N1q
 refine ogo (mkF m 8 #[rv la, iv cv, iv 0] [(.ref la)]) (fun _ k => XS.ifNo X1.here hx rfl (hb hby d42_4) rfl ((if0 _ _).trans (feq (by decide : ¬ ((1 : Int32) = (0 : Int32)))).1) (XS.aloadN X1.here hx rfl (hb hby d42_7) rfl rfl k)) ?_
 refine own_getf X1 hx hZ hown (ow hw 56 rfl) Via.refl eh1 Fld_la_value rfl rfl (hb hby d42_8) (fun T2 X2 e2 => ?_)
 refine ogo (mkF m 14 #[rv la, iv cv, iv 0] [(.ref la), (.int 0), (.int cv), (.ref lb)]) (fun _ k => XS.iloadN X2.here hx rfl (hb hby d42_11) rfl (XS.iloadN X2.here hx rfl (hb hby d42_12) rfl (XS.aloadN X2.here hx rfl (hb hby d42_13) rfl rfl k))) ?_
 refine own_virt (W := 3) X2 hx hZ hown e2 (ow hw 229 rfl) (ow hw 217 rfl) (ow hw 218 rfl) (ow hw 170 rfl) (rmlen32 l Z a0 hw [] la lb lk _ cs h0 n0 Z0 O0 SC hcs E_la Fld_la_coder Fld_la_value V_lb) (ow hw 174 rfl) (ow hw 33 rfl) E_la rfl (by rw [hml]; rfl) rfl (hb hby d42_14) (lenOf pd___I rfl) rfl (by decide) (fun T3 v3 Ll3 X3 hQ3 => ?_)
 obtain ⟨rfl, N3q, eh3⟩ := hQ3
 have N3 := Fr.app N1 N3q
 refine own_stat (W := 0) X3 hx hZ hown eh3 (ow hw 230 rfl) (ow hw 231 rfl) (rmixl l Z a0 hw [] lb lk cv h0 n0 Z0 V_lb hl0 h8) (ow hw 232 rfl) (ow hw 59 rfl) rfl (by rw [hml]; rfl) rfl (hb hby d42_17) (lenOf pd___BIII_I rfl) rfl (by decide) (fun T4 v4 Ll4 X4 hQ4 => ?_)
 obtain ⟨rfl, N4q, eh4⟩ := hQ4
 have N4 := Fr.app N3 N4q
 refine ogo (mkF m 36 #[rv la, iv cv, iv 0] [(.int (own_ix cv))]) (fun _ k => XS.goto X4.here hx rfl (pc0 := 20) (pc' := 36) rfl (hb hby d42_20) (by decide) (by decide) k) ?_
 exact own_endI X4 hx hr2 (hb hby d42_36) (by decide) (by decide) (by rw [eh4]; exact ⟨rfl, N4, rfl⟩)
theorem d41_0 : dk cd41 0 (.aload_n 0) 1 := by decide +kernel
theorem d41_1 : dk cd41 1 (.iload_n 1) 1 := by decide +kernel
theorem d41_2 : dk cd41 2 (.iconst 0) 1 := by decide +kernel
theorem d41_3 : dk cd41 3 (.invokevirtual 633) 3 := by decide +kernel
theorem d41_6 : dk cd41 6 .ireturn 1 := by decide +kernel
theorem pn_41 : plainName cs1 = true := by first | (simp [plainName, overriddenIn]; done) | decide +kernel
theorem ef_rmix (m : MethodId) (x0 : Addr) (x1 : Int32) : entryFrame m #[(.ref x0), (.int x1)] 2 = mkF m 0 #[rv x0, iv x1] [] := by first | (simp [entryFrame, mkF, argsToLocals, Value.category]; done) | rfl
def Qrmix (Z : State) (la lb : Addr) (lk : ClassId) (cv cs : Int32) (h0 : Heap) (n0 : Nat) (v : Option Value) (h : Heap) (L : List Loc) : Prop := v = some (.int (own_ix cv)) ∧ Fr n0 L ∧ h = h0
theorem rmix (l : Launch) (Z : State) (a0 : Array Value) (hw : HW a0 Z) (ws : List Jvm.Cond) (la lb : Addr) (lk : ClassId) (cv cs : Int32) (h0 : Heap) (n0 : Nat) (Z0 : n0 ≤ h0.size) (O0 : Old Z n0 h0) (SC : Sta Z Z.heap cs1 "COMPACT_STRINGS" "Z" (.int cs)) (hcs : ¬ (cs = (0 : Int32))) (E_la : Exa Z h0 la cs1) (Fld_la_coder : Fld Z h0 la cs1 "coder" "B" (.int 0)) (Fld_la_value : Fld Z h0 la cs1 "value" "[B" (.ref lb)) (V_lb : Arv Z h0 lb lk .byte (32 : Int32) [(.int 65), (.int 66), (.int 67), (.int 68), (.int 69), (.int 70), (.int 71), (.int 72), (.int 73), (.int 74), (.int 75), (.int 76), (.int 77), (.int 78), (.int 79), (.int 80), (.int 81), (.int 82), (.int 83), (.int 84), (.int 85), (.int 86), (.int 87), (.int 88), (.int 89), (.int 90), (.int 50), (.int 51), (.int 52), (.int 53), (.int 54), (.int 55)] (.int 0)) (hl0 : ¬ (cv < (0 : Int32))) (h8 : ¬ ((255 : Int32) < cv)) :
    own_MF l (⟨cs1, "indexOf", "(I)I"⟩ : MethodName) cd41 2 (some .int) ws (rom 3 0 0 46) #[(.ref la), (.int cv)] Z h0 (Qrmix Z la lb lk cv cs h0 n0) := by
 refine own_body n0 (plainFor_of_name pn_41) (fun m => ef_rmix m la cv) (fun p e s m below meth c s₁ hx hby hml hr2 hZ hown hnm X0 e0 N0 => ?_)
 refine ogo (mkF m 3 #[rv la, iv cv] [(.int 0), (.int cv), (.ref la)]) (fun _ k => XS.aloadN X0.here hx rfl (hb hby d41_0) rfl rfl (XS.iloadN X0.here hx rfl (hb hby d41_1) rfl (XS.iconst X0.here hx rfl (hb hby d41_2) k))) ?_
 refine own_virt (W := 0) X0 hx hZ hown e0 (ow hw 224 rfl) (ow hw 225 rfl) (ow hw 227 rfl) (ow hw 226 rfl) (rmix2 l Z a0 hw [] la lb lk cv cs h0 n0 Z0 O0 SC hcs E_la Fld_la_coder Fld_la_value V_lb hl0 h8) (ow hw 228 rfl) (ow hw 33 rfl) E_la rfl (by rw [hml]; rfl) rfl (hb hby d41_3) (lenOf pd__II_I rfl) rfl (by decide) (fun T1 v1 Ll1 X1 hQ1 => ?_)
 obtain ⟨rfl, N1q, eh1⟩ := hQ1
 have N1 := Fr.app N0 N1q
 exact own_endI X1 hx hr2 (hb hby d41_6) (by decide) (by decide) (by rw [eh1]; exact ⟨rfl, N1, rfl⟩)
theorem d40_0 : dk cd40 0 (.aload_n 0) 1 := by decide +kernel
theorem d40_1 : dk cd40 1 (.invokevirtual 55) 3 := by decide +kernel
theorem d40_4 : dk cd40 4 (.bipush 23) 2 := by decide +kernel
theorem d40_6 : dk cd40 6 (.if_icmp .eq 5) 3 := by decide +kernel
theorem d40_9 : dk cd40 9 (.iconst 0) 1 := by decide +kernel
theorem d40_10 : dk cd40 10 .ireturn 1 := by decide +kernel
theorem d40_11 : dk cd40 11 (.bipush 12) 2 := by decide +kernel
theorem d40_13 : dk cd40 13 (.newarray .byte) 2 := by decide +kernel
theorem d40_15 : dk cd40 15 (.astore_n 1) 1 := by decide +kernel
theorem d40_16 : dk cd40 16 (.iconst 0) 1 := by decide +kernel
theorem d40_17 : dk cd40 17 (.istore_n 2) 1 := by decide +kernel
theorem d40_18 : dk cd40 18 (.iconst 0) 1 := by decide +kernel
theorem d40_19 : dk cd40 19 (.istore_n 3) 1 := by decide +kernel
theorem d40_20 : dk cd40 20 (.iconst 0) 1 := by decide +kernel
theorem d40_21 : dk cd40 21 (.istore 4) 2 := by decide +kernel
theorem d40_23 : dk cd40 23 (.iconst 0) 1 := by decide +kernel
theorem d40_24 : dk cd40 24 (.istore 5) 2 := by decide +kernel
theorem d40_26 : dk cd40 26 (.iload 5) 2 := by decide +kernel
theorem d40_28 : dk cd40 28 (.bipush 23) 2 := by decide +kernel
theorem d40_30 : dk cd40 30 (.if_icmp .ge 91) 3 := by decide +kernel
theorem d40_33 : dk cd40 33 (.aload_n 0) 1 := by decide +kernel
theorem d40_34 : dk cd40 34 (.iload 5) 2 := by decide +kernel
theorem d40_36 : dk cd40 36 (.invokevirtual 61) 3 := by decide +kernel
theorem d40_39 : dk cd40 39 (.istore 6) 2 := by decide +kernel
theorem d40_41 : dk cd40 41 (.iload 5) 2 := by decide +kernel
theorem d40_43 : dk cd40 43 (.bipush 6) 2 := by decide +kernel
theorem d40_45 : dk cd40 45 .irem 1 := by decide +kernel
theorem d40_46 : dk cd40 46 (.iconst 5) 1 := by decide +kernel
theorem d40_47 : dk cd40 47 (.if_icmp .ne 12) 3 := by decide +kernel
theorem d40_50 : dk cd40 50 (.iload 6) 2 := by decide +kernel
theorem d40_52 : dk cd40 52 (.bipush 45) 2 := by decide +kernel
theorem d40_54 : dk cd40 54 (.if_icmp .eq 61) 3 := by decide +kernel
theorem d40_57 : dk cd40 57 (.iconst 0) 1 := by decide +kernel
theorem d40_58 : dk cd40 58 .ireturn 1 := by decide +kernel
theorem d40_59 : dk cd40 59 (.ldc 65) 2 := by decide +kernel
theorem d40_61 : dk cd40 61 (.iload 6) 2 := by decide +kernel
theorem d40_63 : dk cd40 63 (.invokevirtual 67) 3 := by decide +kernel
theorem d40_66 : dk cd40 66 (.istore 7) 2 := by decide +kernel
theorem d40_68 : dk cd40 68 (.iload 7) 2 := by decide +kernel
theorem d40_70 : dk cd40 70 (.ifCond .ge 5) 3 := by decide +kernel
theorem d40_73 : dk cd40 73 (.iconst 0) 1 := by decide +kernel
theorem d40_74 : dk cd40 74 .ireturn 1 := by decide +kernel
theorem d40_75 : dk cd40 75 (.iload_n 3) 1 := by decide +kernel
theorem d40_76 : dk cd40 76 (.iconst 5) 1 := by decide +kernel
theorem d40_77 : dk cd40 77 .ishl 1 := by decide +kernel
theorem d40_78 : dk cd40 78 (.iload 7) 2 := by decide +kernel
theorem d40_80 : dk cd40 80 .ior 1 := by decide +kernel
theorem d40_81 : dk cd40 81 (.istore_n 3) 1 := by decide +kernel
theorem d40_82 : dk cd40 82 (.iinc 4 5) 3 := by decide +kernel
theorem d40_85 : dk cd40 85 (.iload 4) 2 := by decide +kernel
theorem d40_87 : dk cd40 87 (.bipush 8) 2 := by decide +kernel
theorem d40_89 : dk cd40 89 (.if_icmp .lt 26) 3 := by decide +kernel
theorem d40_92 : dk cd40 92 (.iinc 4 (-8)) 3 := by decide +kernel
theorem d40_95 : dk cd40 95 (.aload_n 1) 1 := by decide +kernel
theorem d40_96 : dk cd40 96 (.iload_n 2) 1 := by decide +kernel
theorem d40_97 : dk cd40 97 (.iinc 2 1) 3 := by decide +kernel
theorem d40_100 : dk cd40 100 (.iload_n 3) 1 := by decide +kernel
theorem d40_101 : dk cd40 101 (.iload 4) 2 := by decide +kernel
theorem d40_103 : dk cd40 103 .iushr 1 := by decide +kernel
theorem d40_104 : dk cd40 104 .i2b 1 := by decide +kernel
theorem d40_105 : dk cd40 105 .bastore 1 := by decide +kernel
theorem d40_106 : dk cd40 106 (.iload_n 3) 1 := by decide +kernel
theorem d40_107 : dk cd40 107 (.iconst 1) 1 := by decide +kernel
theorem d40_108 : dk cd40 108 (.iload 4) 2 := by decide +kernel
theorem d40_110 : dk cd40 110 .ishl 1 := by decide +kernel
theorem d40_111 : dk cd40 111 (.iconst 1) 1 := by decide +kernel
theorem d40_112 : dk cd40 112 .isub 1 := by decide +kernel
theorem d40_113 : dk cd40 113 .iand 1 := by decide +kernel
theorem d40_114 : dk cd40 114 (.istore_n 3) 1 := by decide +kernel
theorem d40_115 : dk cd40 115 (.iinc 5 1) 3 := by decide +kernel
theorem d40_118 : dk cd40 118 (.goto (-92)) 3 := by decide +kernel
theorem d40_121 : dk cd40 121 (.iload_n 3) 1 := by decide +kernel
theorem d40_122 : dk cd40 122 (.ifCond .eq 5) 3 := by decide +kernel
theorem d40_125 : dk cd40 125 (.iconst 0) 1 := by decide +kernel
theorem d40_126 : dk cd40 126 .ireturn 1 := by decide +kernel
theorem d40_127 : dk cd40 127 (.bipush 10) 2 := by decide +kernel
theorem d40_129 : dk cd40 129 (.newarray .byte) 2 := by decide +kernel
theorem d40_131 : dk cd40 131 (.astore 5) 2 := by decide +kernel
theorem d40_133 : dk cd40 133 (.aload_n 1) 1 := by decide +kernel
theorem d40_134 : dk cd40 134 (.iconst 0) 1 := by decide +kernel
theorem d40_135 : dk cd40 135 (.aload 5) 2 := by decide +kernel
theorem d40_137 : dk cd40 137 (.iconst 0) 1 := by decide +kernel
theorem d40_138 : dk cd40 138 (.bipush 10) 2 := by decide +kernel
theorem d40_140 : dk cd40 140 (.invokestatic 26) 3 := by decide +kernel
theorem d40_143 : dk cd40 143 (.aload_n 1) 1 := by decide +kernel
theorem d40_144 : dk cd40 144 (.bipush 10) 2 := by decide +kernel
theorem d40_146 : dk cd40 146 .baload 1 := by decide +kernel
theorem d40_147 : dk cd40 147 (.sipush 255) 3 := by decide +kernel
theorem d40_150 : dk cd40 150 .iand 1 := by decide +kernel
theorem d40_151 : dk cd40 151 (.bipush 8) 2 := by decide +kernel
theorem d40_153 : dk cd40 153 .ishl 1 := by decide +kernel
theorem d40_154 : dk cd40 154 (.aload_n 1) 1 := by decide +kernel
theorem d40_155 : dk cd40 155 (.bipush 11) 2 := by decide +kernel
theorem d40_157 : dk cd40 157 .baload 1 := by decide +kernel
theorem d40_158 : dk cd40 158 (.sipush 255) 3 := by decide +kernel
theorem d40_161 : dk cd40 161 .iand 1 := by decide +kernel
theorem d40_162 : dk cd40 162 .ior 1 := by decide +kernel
theorem d40_163 : dk cd40 163 (.istore 6) 2 := by decide +kernel
theorem d40_165 : dk cd40 165 (.iload 6) 2 := by decide +kernel
theorem d40_167 : dk cd40 167 (.aload 5) 2 := by decide +kernel
theorem d40_169 : dk cd40 169 (.invokestatic 32) 3 := by decide +kernel
theorem d40_172 : dk cd40 172 (.if_icmp .ne 7) 3 := by decide +kernel
theorem d40_175 : dk cd40 175 (.iconst 1) 1 := by decide +kernel
theorem d40_176 : dk cd40 176 (.goto 4) 3 := by decide +kernel
theorem d40_179 : dk cd40 179 (.iconst 0) 1 := by decide +kernel
theorem d40_180 : dk cd40 180 .ireturn 1 := by decide +kernel
theorem pn_40 : plainName cs3 = true := by first | (simp [plainName, overriddenIn]; done) | decide +kernel
theorem ef_rmiv (m : MethodId) (x0 : Addr) : entryFrame m #[(.ref x0)] 8 = mkF m 0 #[rv x0, .unset, .unset, .unset, .unset, .unset, .unset, .unset] [] := by first | (simp [entryFrame, mkF, argsToLocals, Value.category]; done) | rfl
def Qrmiv (Z : State) (a1 u1 : Addr) (ku : ClassId) (y0 y1 y2 y3 y4 y5 y6 y7 y8 y9 y10 y11 y12 y13 y14 y15 y16 y17 y18 y19 y20 y21 y22 : Int32) (la lb : Addr) (lk : ClassId) (cs : Int32) (fv : Value) (h0 : Heap) (n0 : Nat) (v : Option Value) (h : Heap) (L : List Loc) : Prop := ∃ (r : Int32), v = some (.int r) ∧ Fr n0 L ∧ Keep h0 h [] ∧ ((r = (1 : Int32) ∧ own_ok y0 y1 y2 y3 y4 y5 y6 y7 y8 y9 y10 y11 y12 y13 y14 y15 y16 y17 y18 y19 y20 y21 y22) ∨ (r = (0 : Int32) ∧ ¬ own_ok y0 y1 y2 y3 y4 y5 y6 y7 y8 y9 y10 y11 y12 y13 y14 y15 y16 y17 y18 y19 y20 y21 y22))
section
variable {p : Program} {l : Launch} {e : Env} {R : Room} {s : State} {m : MethodId} {args : Array Value} {below : List Frame} {meth : Jvm.Method} {c : Jvm.ClassFile.Code} {T : State} {locs : List Loc} {cells slots : Nat} {t : State}
theorem sg_rmiv_0 (X : Stand p l e R s m args below meth c T locs cells slots) (hx : p.tables.exec = Jvm.exec) (hby : c.code = cd40) {v2 v3 v4 v5 v6 v7 v8 : Int32} {v0 v1 : Addr} (u0 : v8 < (0 : Int32)) (k : Steps p.tables e below (T.setTop (mkF m 74 #[rv v0, rv v1, iv v2, iv v3, iv v4, iv v5, iv v6, iv v7] [(.int 0)])) t) : Steps p.tables e below (T.setTop (mkF m 70 #[rv v0, rv v1, iv v2, iv v3, iv v4, iv v5, iv v6, iv v7] [(.int v8)])) t := XS.ifNo X.here hx rfl (hb hby d40_70) rfl ((if0 _ _).trans (tlt u0).2.1) (XS.iconst X.here hx rfl (hb hby d40_73) k)
theorem sg_rmiv_1 (X : Stand p l e R s m args below meth c T locs cells slots) (hx : p.tables.exec = Jvm.exec) (hby : c.code = cd40) {v2 v3 v4 v5 v6 v7 v8 : Int32} {v0 v1 : Addr} (u0 : ¬ (v8 < (0 : Int32))) (k : Steps p.tables e below (T.setTop (mkF m 82 #[rv v0, rv v1, iv v2, iv ((v3 <<< ((5 : Int32) &&& 31)) ||| v7), iv v4, iv v5, iv v6, iv v7] [])) t) : Steps p.tables e below (T.setTop (mkF m 70 #[rv v0, rv v1, iv v2, iv v3, iv v4, iv v5, iv v6, iv v7] [(.int v8)])) t := XS.ifYes X.here hx rfl (pc0 := 70) (pc' := 75) rfl (hb hby d40_70) rfl ((if0 _ _).trans (flt u0).2.1) (by decide) (by decide) (XS.iloadN X.here hx rfl (hb hby d40_75) rfl (XS.iconst X.here hx rfl (hb hby d40_76) (XS.ishl X.here hx rfl (hb hby d40_77) rfl (XS.iload X.here hx rfl (hb hby d40_78) rfl (XS.ior X.here hx rfl (hb hby d40_80) rfl (XS.istoreN X.here hx rfl (hb hby d40_81) rfl (l' := #[rv v0, rv v1, iv v2, iv ((v3 <<< ((5 : Int32) &&& 31)) ||| v7), iv v4, iv v5, iv v6, iv v7]) rfl k))))))
theorem sg_rmiv_2 (X : Stand p l e R s m args below meth c T locs cells slots) (hx : p.tables.exec = Jvm.exec) (hby : c.code = cd40) {v2 v3 v4 v5 v6 v7 : Int32} {v0 v1 : Addr} (u0 : (v4 + (5 : Int32)) < (8 : Int32)) (u1 : (v5 + (1 : Int32)) < (23 : Int32)) (k : Steps p.tables e below (T.setTop (mkF m 36 #[rv v0, rv v1, iv v2, iv v3, iv (v4 + (5 : Int32)), iv (v5 + (1 : Int32)), iv v6, iv v7] [(.int (v5 + (1 : Int32))), (.ref v0)])) t) : Steps p.tables e below (T.setTop (mkF m 82 #[rv v0, rv v1, iv v2, iv v3, iv v4, iv v5, iv v6, iv v7] [])) t := XS.iinc X.here hx rfl (hb hby d40_82) rfl (l' := #[rv v0, rv v1, iv v2, iv v3, iv (v4 + (5 : Int32)), iv v5, iv v6, iv v7]) rfl (XS.iload X.here hx rfl (hb hby d40_85) rfl (XS.bipush X.here hx rfl (hb hby d40_87) (XS.icmpYes X.here hx rfl (pc0 := 89) (pc' := 115) rfl (hb hby d40_89) rfl (tlt u0).1 (by decide) (by decide) (XS.iinc X.here hx rfl (hb hby d40_115) rfl (l' := #[rv v0, rv v1, iv v2, iv v3, iv (v4 + (5 : Int32)), iv (v5 + (1 : Int32)), iv v6, iv v7]) rfl (XS.goto X.here hx rfl (pc0 := 118) (pc' := 26) rfl (hb hby d40_118) (by decide) (by decide) (XS.iload X.here hx rfl (hb hby d40_26) rfl (XS.bipush X.here hx rfl (hb hby d40_28) (XS.icmpNo X.here hx rfl (hb hby d40_30) rfl (tlt u1).2.1 (XS.aloadN X.here hx rfl (hb hby d40_33) rfl rfl (XS.iload X.here hx rfl (hb hby d40_34) rfl k))))))))))
theorem sg_rmiv_3 (X : Stand p l e R s m args below meth c T locs cells slots) (hx : p.tables.exec = Jvm.exec) (hby : c.code = cd40) {v2 v3 v4 v5 v6 v7 v8 : Int32} {v0 v1 : Addr} (u0 : ¬ ((v5 % (6 : Int32)) = (5 : Int32))) (k : Steps p.tables e below (T.setTop (mkF m 59 #[rv v0, rv v1, iv v2, iv v3, iv v4, iv v5, iv v8, iv v7] [])) t) : Steps p.tables e below (T.setTop (mkF m 39 #[rv v0, rv v1, iv v2, iv v3, iv v4, iv v5, iv v6, iv v7] [(.int v8)])) t := XS.istore X.here hx rfl (hb hby d40_39) rfl (l' := #[rv v0, rv v1, iv v2, iv v3, iv v4, iv v5, iv v8, iv v7]) rfl (XS.iload X.here hx rfl (hb hby d40_41) rfl (XS.bipush X.here hx rfl (hb hby d40_43) (iremM (g := (mkF m 45 #[rv v0, rv v1, iv v2, iv v3, iv v4, iv v5, iv v8, iv v7] [(.int 6), (.int v5)])) X hx rfl (hb hby d40_45) rfl (by decide) (XS.iconst X.here hx rfl (hb hby d40_46) (XS.icmpYes X.here hx rfl (pc0 := 47) (pc' := 59) rfl (hb hby d40_47) rfl (feq u0).2 (by decide) (by decide) k)))))
theorem sg_rmiv_4 (X : Stand p l e R s m args below meth c T locs cells slots) (hx : p.tables.exec = Jvm.exec) (hby : c.code = cd40) {v2 v3 v4 v5 v6 v7 v8 : Int32} {v0 v1 : Addr} (k : Steps p.tables e below (T.setTop (mkF m 70 #[rv v0, rv v1, iv v2, iv v3, iv v4, iv v5, iv v6, iv v8] [(.int v8)])) t) : Steps p.tables e below (T.setTop (mkF m 66 #[rv v0, rv v1, iv v2, iv v3, iv v4, iv v5, iv v6, iv v7] [(.int v8)])) t := XS.istore X.here hx rfl (hb hby d40_66) rfl (l' := #[rv v0, rv v1, iv v2, iv v3, iv v4, iv v5, iv v6, iv v8]) rfl (XS.iload X.here hx rfl (hb hby d40_68) rfl k)
theorem sg_rmiv_5 (X : Stand p l e R s m args below meth c T locs cells slots) (hx : p.tables.exec = Jvm.exec) (hby : c.code = cd40) {v2 v3 v4 v5 v6 v7 : Int32} {v0 v1 : Addr} (u0 : ¬ ((v4 + (5 : Int32)) < (8 : Int32))) (k : Steps p.tables e below (T.setTop (mkF m 105 #[rv v0, rv v1, iv (v2 + (1 : Int32)), iv v3, iv ((v4 + (5 : Int32)) + (-8 : Int32)), iv v5, iv v6, iv v7] [(.int (((v3.toUInt32 >>> (((v4 + (5 : Int32)) + (-8 : Int32)) &&& 31).toUInt32).toInt32).toInt8.toInt32)), (.int v2), (.ref v1)])) t) : Steps p.tables e below (T.setTop (mkF m 82 #[rv v0, rv v1, iv v2, iv v3, iv v4, iv v5, iv v6, iv v7] [])) t := XS.iinc X.here hx rfl (hb hby d40_82) rfl (l' := #[rv v0, rv v1, iv v2, iv v3, iv (v4 + (5 : Int32)), iv v5, iv v6, iv v7]) rfl (XS.iload X.here hx rfl (hb hby d40_85) rfl (XS.bipush X.here hx rfl (hb hby d40_87) (XS.icmpNo X.here hx rfl (hb hby d40_89) rfl (flt u0).1 (XS.iinc X.here hx rfl (hb hby d40_92) rfl (l' := #[rv v0, rv v1, iv v2, iv v3, iv ((v4 + (5 : Int32)) + (-8 : Int32)), iv v5, iv v6, iv v7]) rfl (XS.aloadN X.here hx rfl (hb hby d40_95) rfl rfl (XS.iloadN X.here hx rfl (hb hby d40_96) rfl (XS.iinc X.here hx rfl (hb hby d40_97) rfl (l' := #[rv v0, rv v1, iv (v2 + (1 : Int32)), iv v3, iv ((v4 + (5 : Int32)) + (-8 : Int32)), iv v5, iv v6, iv v7]) rfl (XS.iloadN X.here hx rfl (hb hby d40_100) rfl (XS.iload X.here hx rfl (hb hby d40_101) rfl (XS.iushr X.here hx rfl (hb hby d40_103) rfl (XS.i2b X.here hx rfl (hb hby d40_104) rfl k)))))))))))
theorem sg_rmiv_6 (X : Stand p l e R s m args below meth c T locs cells slots) (hx : p.tables.exec = Jvm.exec) (hby : c.code = cd40) {v2 v3 v4 v5 v6 v7 : Int32} {v0 v1 : Addr} (k : Steps p.tables e below (T.setTop (mkF m 115 #[rv v0, rv v1, iv v2, iv (v3 &&& (((1 : Int32) <<< (v4 &&& 31)) - (1 : Int32))), iv v4, iv v5, iv v6, iv v7] [])) t) : Steps p.tables e below (T.setTop (mkF m 106 #[rv v0, rv v1, iv v2, iv v3, iv v4, iv v5, iv v6, iv v7] [])) t := XS.iloadN X.here hx rfl (hb hby d40_106) rfl (XS.iconst X.here hx rfl (hb hby d40_107) (XS.iload X.here hx rfl (hb hby d40_108) rfl (XS.ishl X.here hx rfl (hb hby d40_110) rfl (XS.iconst X.here hx rfl (hb hby d40_111) (XS.isub X.here hx rfl (hb hby d40_112) rfl (XS.iand X.here hx rfl (hb hby d40_113) rfl (XS.istoreN X.here hx rfl (hb hby d40_114) rfl (l' := #[rv v0, rv v1, iv v2, iv (v3 &&& (((1 : Int32) <<< (v4 &&& 31)) - (1 : Int32))), iv v4, iv v5, iv v6, iv v7]) rfl k)))))))
theorem sg_rmiv_7 (X : Stand p l e R s m args below meth c T locs cells slots) (hx : p.tables.exec = Jvm.exec) (hby : c.code = cd40) {v2 v3 v4 v5 v6 v7 : Int32} {v0 v1 : Addr} (u0 : (v5 + (1 : Int32)) < (23 : Int32)) (k : Steps p.tables e below (T.setTop (mkF m 36 #[rv v0, rv v1, iv v2, iv v3, iv v4, iv (v5 + (1 : Int32)), iv v6, iv v7] [(.int (v5 + (1 : Int32))), (.ref v0)])) t) : Steps p.tables e below (T.setTop (mkF m 115 #[rv v0, rv v1, iv v2, iv v3, iv v4, iv v5, iv v6, iv v7] [])) t := XS.iinc X.here hx rfl (hb hby d40_115) rfl (l' := #[rv v0, rv v1, iv v2, iv v3, iv v4, iv (v5 + (1 : Int32)), iv v6, iv v7]) rfl (XS.goto X.here hx rfl (pc0 := 118) (pc' := 26) rfl (hb hby d40_118) (by decide) (by decide) (XS.iload X.here hx rfl (hb hby d40_26) rfl (XS.bipush X.here hx rfl (hb hby d40_28) (XS.icmpNo X.here hx rfl (hb hby d40_30) rfl (tlt u0).2.1 (XS.aloadN X.here hx rfl (hb hby d40_33) rfl rfl (XS.iload X.here hx rfl (hb hby d40_34) rfl k))))))
theorem sg_rmiv_8 (X : Stand p l e R s m args below meth c T locs cells slots) (hx : p.tables.exec = Jvm.exec) (hby : c.code = cd40) {v2 v3 v4 v5 v6 v7 v8 : Int32} {v0 v1 : Addr} (u0 : (v5 % (6 : Int32)) = (5 : Int32)) (k : Steps p.tables e below (T.setTop (mkF m 54 #[rv v0, rv v1, iv v2, iv v3, iv v4, iv v5, iv v8, iv v7] [(.int 45), (.int v8)])) t) : Steps p.tables e below (T.setTop (mkF m 39 #[rv v0, rv v1, iv v2, iv v3, iv v4, iv v5, iv v6, iv v7] [(.int v8)])) t := XS.istore X.here hx rfl (hb hby d40_39) rfl (l' := #[rv v0, rv v1, iv v2, iv v3, iv v4, iv v5, iv v8, iv v7]) rfl (XS.iload X.here hx rfl (hb hby d40_41) rfl (XS.bipush X.here hx rfl (hb hby d40_43) (iremM (g := (mkF m 45 #[rv v0, rv v1, iv v2, iv v3, iv v4, iv v5, iv v8, iv v7] [(.int 6), (.int v5)])) X hx rfl (hb hby d40_45) rfl (by decide) (XS.iconst X.here hx rfl (hb hby d40_46) (XS.icmpNo X.here hx rfl (hb hby d40_47) rfl (teq u0).2 (XS.iload X.here hx rfl (hb hby d40_50) rfl (XS.bipush X.here hx rfl (hb hby d40_52) k)))))))
theorem sg_rmiv_9 (X : Stand p l e R s m args below meth c T locs cells slots) (hx : p.tables.exec = Jvm.exec) (hby : c.code = cd40) {v2 v3 v4 v5 v6 v7 v8 v9 : Int32} {v0 v1 : Addr} (u0 : v9 = v8) (u1 : (v5 + (1 : Int32)) < (23 : Int32)) (k : Steps p.tables e below (T.setTop (mkF m 36 #[rv v0, rv v1, iv v2, iv v3, iv v4, iv (v5 + (1 : Int32)), iv v6, iv v7] [(.int (v5 + (1 : Int32))), (.ref v0)])) t) : Steps p.tables e below (T.setTop (mkF m 54 #[rv v0, rv v1, iv v2, iv v3, iv v4, iv v5, iv v6, iv v7] [(.int v8), (.int v9)])) t := XS.icmpYes X.here hx rfl (pc0 := 54) (pc' := 115) rfl (hb hby d40_54) rfl (teq u0).1 (by decide) (by decide) (XS.iinc X.here hx rfl (hb hby d40_115) rfl (l' := #[rv v0, rv v1, iv v2, iv v3, iv v4, iv (v5 + (1 : Int32)), iv v6, iv v7]) rfl (XS.goto X.here hx rfl (pc0 := 118) (pc' := 26) rfl (hb hby d40_118) (by decide) (by decide) (XS.iload X.here hx rfl (hb hby d40_26) rfl (XS.bipush X.here hx rfl (hb hby d40_28) (XS.icmpNo X.here hx rfl (hb hby d40_30) rfl (tlt u1).2.1 (XS.aloadN X.here hx rfl (hb hby d40_33) rfl rfl (XS.iload X.here hx rfl (hb hby d40_34) rfl k)))))))
end
theorem rmiv (l : Launch) (Z : State) (a0 : Array Value) (hw : HW a0 Z) (ws : List Jvm.Cond) (a1 u1 : Addr) (ku : ClassId) (y0 y1 y2 y3 y4 y5 y6 y7 y8 y9 y10 y11 y12 y13 y14 y15 y16 y17 y18 y19 y20 y21 y22 : Int32) (la lb : Addr) (lk : ClassId) (cs : Int32) (fv : Value) (h0 : Heap) (n0 : Nat) (Z0 : n0 ≤ h0.size) (O0 : Old Z n0 h0) (SC : Sta Z Z.heap cs1 "COMPACT_STRINGS" "Z" (.int cs)) (hcs : ¬ (cs = (0 : Int32))) (SF : Sta Z Z.heap cs4 "SIOOBE_FORMATTER" "Ljava/util/function/BiFunction;" fv) (hfv : fv = .null ∨ ∃ x : Addr, fv = .ref x) (E_a1 : Exa Z h0 a1 cs1) (Fld_a1_coder : Fld Z h0 a1 cs1 "coder" "B" (.int 0)) (Fld_a1_value : Fld Z h0 a1 cs1 "value" "[B" (.ref u1)) (V_u1 : Arv Z h0 u1 ku .byte (23 : Int32) [(.int y0), (.int y1), (.int y2), (.int y3), (.int y4), (.int y5), (.int y6), (.int y7), (.int y8), (.int y9), (.int y10), (.int y11), (.int y12), (.int y13), (.int y14), (.int y15), (.int y16), (.int y17), (.int y18), (.int y19), (.int y20), (.int y21), (.int y22)] (.int 0)) (E_la : Exa Z h0 la cs1) (Fld_la_coder : Fld Z h0 la cs1 "coder" "B" (.int 0)) (Fld_la_value : Fld Z h0 la cs1 "value" "[B" (.ref lb)) (V_lb : Arv Z h0 lb lk .byte (32 : Int32) [(.int 65), (.int 66), (.int 67), (.int 68), (.int 69), (.int 70), (.int 71), (.int 72), (.int 73), (.int 74), (.int 75), (.int 76), (.int 77), (.int 78), (.int 79), (.int 80), (.int 81), (.int 82), (.int 83), (.int 84), (.int 85), (.int 86), (.int 87), (.int 88), (.int 89), (.int 90), (.int 50), (.int 51), (.int 52), (.int 53), (.int 54), (.int 55)] (.int 0)) :
    own_MFL l mn8 cd40 8 (some .boolean) ws (rom 4 2 22 59) #[(.ref a1)] Z h0 (Qrmiv Z a1 u1 ku y0 y1 y2 y3 y4 y5 y6 y7 y8 y9 y10 y11 y12 y13 y14 y15 y16 y17 y18 y19 y20 y21 y22 la lb lk cs fv h0 n0) own_LO own_LI la := by
 refine own_bodyL n0 (plainFor_of_name pn_40) (fun m => ef_rmiv m a1) (fun p e s m below meth c s₁ hx hby hml hr2 hZ hown hnm X0 e0 N0 hLit => ?_)
 refine ogo (mkF m 1 #[rv a1, .unset, .unset, .unset, .unset, .unset, .unset, .unset] [(.ref a1)]) (fun _ k => XS.aloadN X0.here hx rfl (hb hby d40_0) rfl rfl k) ?_
 refine own_virt (W := 0) X0 hx hZ hown e0 (ow hw 216 rfl) (ow hw 217 rfl) (ow hw 218 rfl) (ow hw 170 rfl) (rmlen23 l Z a0 hw [] a1 u1 ku _ cs h0 n0 Z0 O0 SC hcs E_a1 Fld_a1_coder Fld_a1_value V_u1) (ow hw 174 rfl) (ow hw 33 rfl) E_a1 rfl (by rw [hml]; rfl) rfl (hb hby d40_1) (lenOf pd___I rfl) rfl (by decide) (fun T1 v1 Ll1 X1 hQ1 => ?_)
 obtain ⟨rfl, N1q, eh1⟩ := hQ1
 have N1 := Fr.app N0 N1q
 refine ogo (mkF m 13 #[rv a1, .unset, .unset, .unset, .unset, .unset, .unset, .unset] [(.int 12)]) (fun _ k => XS.bipush X1.here hx rfl (hb hby d40_4) (XS.icmpYes X1.here hx rfl (pc0 := 6) (pc' := 11) rfl (hb hby d40_6) rfl (teq (rfl : (23 : Int32) = (23 : Int32))).1 (by decide) (by decide) (XS.bipush X1.here hx rfl (hb hby d40_11) k))) ?_
 obtain ⟨T2, h2, kl2, X2, e2, E2, A2, st2⟩ := newP X1 hx hZ (ow hw 0 rfl) eh1 (g := (mkF m 13 #[rv a1, .unset, .unset, .unset, .unset, .unset, .unset, .unset] [(.int 12)])) rfl (hb hby d40_13) rfl (by decide) (cap := 12) (by decide) (by decide) (by decide) (by decide)
 obtain ⟨b2, g2⟩ : ∃ z, z = h0.size := ⟨_, rfl⟩
 rw [← g2] at A2 st2
 have Zs3 : n0 ≤ h2.size := Nat.le_trans Z0 E2.1
 have V2 : Arv Z h2 b2 kl2 .byte (12 : Int32) [(.int 0), (.int 0), (.int 0), (.int 0), (.int 0), (.int 0), (.int 0), (.int 0), (.int 0), (.int 0), (.int 0), (.int 0)] (.int 0) := (Arv.new A2 (by decide)).pad (pad_rep [] (.int 0) 12)
 refine ogo (mkF m 36 #[rv a1, rv b2, iv 0, iv 0, iv 0, iv 0, .unset, .unset] [(.int 0), (.ref a1)]) (fun _ k => st2 _ (XS.astoreN X2.here hx rfl (hb hby d40_15) rfl rfl (l' := #[rv a1, rv b2, .unset, .unset, .unset, .unset, .unset, .unset]) rfl (XS.iconst X2.here hx rfl (hb hby d40_16) (XS.istoreN X2.here hx rfl (hb hby d40_17) rfl (l' := #[rv a1, rv b2, iv 0, .unset, .unset, .unset, .unset, .unset]) rfl (XS.iconst X2.here hx rfl (hb hby d40_18) (XS.istoreN X2.here hx rfl (hb hby d40_19) rfl (l' := #[rv a1, rv b2, iv 0, iv 0, .unset, .unset, .unset, .unset]) rfl (XS.iconst X2.here hx rfl (hb hby d40_20) (XS.istore X2.here hx rfl (hb hby d40_21) rfl (l' := #[rv a1, rv b2, iv 0, iv 0, iv 0, .unset, .unset, .unset]) rfl (XS.iconst X2.here hx rfl (hb hby d40_23) (XS.istore X2.here hx rfl (hb hby d40_24) rfl (l' := #[rv a1, rv b2, iv 0, iv 0, iv 0, iv 0, .unset, .unset]) rfl (XS.iload X2.here hx rfl (hb hby d40_26) rfl (XS.bipush X2.here hx rfl (hb hby d40_28) (XS.icmpNo X2.here hx rfl (hb hby d40_30) rfl (tlt (by decide : (0 : Int32) < (23 : Int32))).2.1 (XS.aloadN X2.here hx rfl (hb hby d40_33) rfl rfl (XS.iload X2.here hx rfl (hb hby d40_34) rfl k))))))))))))))) ?_
 have O5 := O0.ext E2
 have F6 := E_a1.ext E2
 have F7 := Fld_a1_coder.ext E2
 have F8 := Fld_a1_value.ext E2
 have F9 := V_u1.ext E2
 refine own_virt (W := 0) X2 hx hZ hown e2 (ow hw 44 rfl) (ow hw 45 rfl) (ow hw 47 rfl) (ow hw 46 rfl) (rmca l Z a0 hw [] a1 u1 ku _ (0 : Int32) (23 : Int32) cs fv h2 n0 Zs3 O5 SC hcs SF hfv F6 F7 F8 F9 (by decide) (by decide)) (ow hw 48 rfl) (ow hw 33 rfl) F6 rfl (by rw [hml]; rfl) rfl (hb hby d40_36) (lenOf pd__I_C rfl) rfl (by decide) (fun T4 v4 Ll4 X4 hQ4 => ?_)
 obtain ⟨rfl, N4q, eh4⟩ := hQ4
 have N4 := Fr.app N1 N4q
 refine ogo (mkF m 63 #[rv a1, rv b2, iv 0, iv 0, iv 0, iv 0, iv (own_lc y0), .unset] [(.int (own_lc y0)), (.ref la)]) (fun _ k => XS.istore X4.here hx rfl (hb hby d40_39) rfl (l' := #[rv a1, rv b2, iv 0, iv 0, iv 0, iv 0, iv (own_lc y0), .unset]) rfl (XS.iload X4.here hx rfl (hb hby d40_41) rfl (XS.bipush X4.here hx rfl (hb hby d40_43) (iremM (g := (mkF m 45 #[rv a1, rv b2, iv 0, iv 0, iv 0, iv 0, iv (own_lc y0), .unset] [(.int 6), (.int 0)])) X4 hx rfl (hb hby d40_45) rfl (by decide) (XS.iconst X4.here hx rfl (hb hby d40_46) (XS.icmpYes X4.here hx rfl (pc0 := 47) (pc' := 59) rfl (hb hby d40_47) rfl (feq (by decide : ¬ ((0 : Int32) = (5 : Int32)))).2 (by decide) (by decide) (ldcAgain (s := s) X4 hx hZ hown (ow hw 38 rfl) hLit (g := (mkF m 59 #[rv a1, rv b2, iv 0, iv 0, iv 0, iv 0, iv (own_lc y0), .unset] [])) rfl (hb hby d40_59) _ (XS.iload X4.here hx rfl (hb hby d40_61) rfl k)))))))) ?_
 have F12 := E_la.ext E2
 have F13 := Fld_la_coder.ext E2
 have F14 := Fld_la_value.ext E2
 have F15 := V_lb.ext E2
 refine own_virt (W := 0) X4 hx hZ hown eh4 (ow hw 219 rfl) (ow hw 220 rfl) (ow hw 222 rfl) (ow hw 221 rfl) (rmix l Z a0 hw [] la lb lk (own_lc y0) cs h2 n0 Zs3 O5 SC hcs F12 F13 F14 F15 (own_lcn _) (own_lc8 _)) (ow hw 223 rfl) (ow hw 33 rfl) F12 rfl (by rw [hml]; rfl) rfl (hb hby d40_63) (lenOf pd__I_I rfl) rfl (by decide) (fun T11 v11 Ll11 X11 hQ11 => ?_)
 obtain ⟨rfl, N11q, eh11⟩ := hQ11
 have N11 := Fr.app N4 N11q
 refine ogo (mkF m 70 #[rv a1, rv b2, iv 0, iv 0, iv 0, iv 0, iv (own_lc y0), iv (own_ix (own_lc y0))] [(.int (own_ix (own_lc y0)))]) (fun _ k => XS.istore X11.here hx rfl (hb hby d40_66) rfl (l' := #[rv a1, rv b2, iv 0, iv 0, iv 0, iv 0, iv (own_lc y0), iv (own_ix (own_lc y0))]) rfl (XS.iload X11.here hx rfl (hb hby d40_68) rfl k)) ?_
 have K16 := (Keep.refl h0 []).ext E2
 by_cases hc70_17 : (own_ix (own_lc y0)) < (0 : Int32)
 · skip
   refine ogo (mkF m 74 #[rv a1, rv b2, iv 0, iv 0, iv 0, iv 0, iv (own_lc y0), iv (own_ix (own_lc y0))] [(.int 0)]) (fun _ k => sg_rmiv_0 X11 hx hby hc70_17 k) ?_
   skip
   exact own_endN X11 hx hr2 (by simp) (hb hby d40_74) (by decide) (by decide) (by rw [eh11]; exact ⟨(0 : Int32), rfl, N11, K16, (Or.inr ⟨rfl, fun h => h.1 hc70_17⟩)⟩)
 refine ogo (mkF m 82 #[rv a1, rv b2, iv 0, iv (own_q5 (0 : Int32) (own_ix (own_lc y0))), iv 0, iv 0, iv (own_lc y0), iv (own_ix (own_lc y0))] []) (fun _ k => sg_rmiv_1 X11 hx hby hc70_17 k) ?_
 obtain ⟨w18, hw18⟩ : ∃ z, z = (own_q5 (0 : Int32) (own_ix (own_lc y0))) := ⟨_, rfl⟩
 rw [← hw18]
 refine ogo (mkF m 36 #[rv a1, rv b2, iv 0, iv w18, iv 5, iv 1, iv (own_lc y0), iv (own_ix (own_lc y0))] [(.int 1), (.ref a1)]) (fun _ k => sg_rmiv_2 X11 hx hby (by decide) (by decide) k) ?_
 refine own_virt (W := 0) X11 hx hZ hown eh11 (ow hw 44 rfl) (ow hw 45 rfl) (ow hw 47 rfl) (ow hw 46 rfl) (rmca l Z a0 hw [] a1 u1 ku _ (1 : Int32) (23 : Int32) cs fv h2 n0 Zs3 O5 SC hcs SF hfv F6 F7 F8 F9 (by decide) (by decide)) (ow hw 48 rfl) (ow hw 33 rfl) F6 rfl (by rw [hml]; rfl) rfl (hb hby d40_36) (lenOf pd__I_C rfl) rfl (by decide) (fun T19 v19 Ll19 X19 hQ19 => ?_)
 obtain ⟨rfl, N19q, eh19⟩ := hQ19
 have N19 := Fr.app N11 N19q
 refine ogo (mkF m 63 #[rv a1, rv b2, iv 0, iv w18, iv 5, iv 1, iv (own_lc y1), iv (own_ix (own_lc y0))] [(.int (own_lc y1)), (.ref la)]) (fun _ k => sg_rmiv_3 X19 hx hby (by decide) (ldcAgain (s := s) X19 hx hZ hown (ow hw 38 rfl) hLit (g := (mkF m 59 #[rv a1, rv b2, iv 0, iv w18, iv 5, iv 1, iv (own_lc y1), iv (own_ix (own_lc y0))] [])) rfl (hb hby d40_59) _ (XS.iload X19.here hx rfl (hb hby d40_61) rfl k))) ?_
 refine own_virt (W := 0) X19 hx hZ hown eh19 (ow hw 219 rfl) (ow hw 220 rfl) (ow hw 222 rfl) (ow hw 221 rfl) (rmix l Z a0 hw [] la lb lk (own_lc y1) cs h2 n0 Zs3 O5 SC hcs F12 F13 F14 F15 (own_lcn _) (own_lc8 _)) (ow hw 223 rfl) (ow hw 33 rfl) F12 rfl (by rw [hml]; rfl) rfl (hb hby d40_63) (lenOf pd__I_I rfl) rfl (by decide) (fun T21 v21 Ll21 X21 hQ21 => ?_)
 obtain ⟨rfl, N21q, eh21⟩ := hQ21
 have N21 := Fr.app N19 N21q
 refine ogo (mkF m 70 #[rv a1, rv b2, iv 0, iv w18, iv 5, iv 1, iv (own_lc y1), iv (own_ix (own_lc y1))] [(.int (own_ix (own_lc y1)))]) (fun _ k => sg_rmiv_4 X21 hx hby k) ?_
 by_cases hc70_22 : (own_ix (own_lc y1)) < (0 : Int32)
 · skip
   refine ogo (mkF m 74 #[rv a1, rv b2, iv 0, iv w18, iv 5, iv 1, iv (own_lc y1), iv (own_ix (own_lc y1))] [(.int 0)]) (fun _ k => sg_rmiv_0 X21 hx hby hc70_22 k) ?_
   subst hw18
   exact own_endN X21 hx hr2 (by simp) (hb hby d40_74) (by decide) (by decide) (by rw [eh21]; exact ⟨(0 : Int32), rfl, N21, K16, (Or.inr ⟨rfl, fun h => h.2.1 hc70_22⟩)⟩)
 refine ogo (mkF m 82 #[rv a1, rv b2, iv 0, iv (own_q5 w18 (own_ix (own_lc y1))), iv 5, iv 1, iv (own_lc y1), iv (own_ix (own_lc y1))] []) (fun _ k => sg_rmiv_1 X21 hx hby hc70_22 k) ?_
 obtain ⟨w23, hw23⟩ : ∃ z, z = (own_q5 w18 (own_ix (own_lc y1))) := ⟨_, rfl⟩
 rw [← hw23]
 refine ogo (mkF m 105 #[rv a1, rv b2, iv 1, iv w23, iv 2, iv 1, iv (own_lc y1), iv (own_ix (own_lc y1))] [(.int (((w23.toUInt32 >>> ((2 : Int32) &&& 31).toUInt32).toInt32).toInt8.toInt32)), (.int 0), (.ref b2)]) (fun _ k => sg_rmiv_5 X21 hx hby (by decide) k) ?_
 have gx25 : n0 ≤ b2 := Nat.le_trans Z0 (Nat.le_of_eq g2.symm)
 refine own_basS X21 hx hZ eh21 N21 Zs3 gx25 V2 ⟨by decide, by decide⟩ (Nat.le_of_ble_eq_true rfl) rfl rfl (hb hby d40_105) (fun T24 h24 lo24 X24 e24 N24 W24 Zs24 V24 => ?_)
 refine ogo (mkF m 115 #[rv a1, rv b2, iv 1, iv (own_mk (3 : Int32) w23), iv 2, iv 1, iv (own_lc y1), iv (own_ix (own_lc y1))] []) (fun _ k => sg_rmiv_6 X24 hx hby k) ?_
 obtain ⟨w26, hw26⟩ : ∃ z, z = (own_mk (3 : Int32) w23) := ⟨_, rfl⟩
 rw [← hw26]
 refine ogo (mkF m 36 #[rv a1, rv b2, iv 1, iv w26, iv 2, iv 2, iv (own_lc y1), iv (own_ix (own_lc y1))] [(.int 2), (.ref a1)]) (fun _ k => sg_rmiv_7 X24 hx hby (by decide) k) ?_
 have O28 := O5.wr W24 gx25
 have F29 := F6.wr W24
 have nx30 : a1 ≠ b2 := (own_ne E_a1.lt (Nat.le_refl _) (Nat.le_of_eq g2.symm))
 have F31 := F7.other W24 (Or.inl nx30)
 have F32 := F8.other W24 (Or.inl nx30)
 have nx33 : u1 ≠ b2 := (own_ne V_u1.lt (Nat.le_refl _) (Nat.le_of_eq g2.symm))
 have F34 := F9.other W24 nx33
 refine own_virt (W := 0) X24 hx hZ hown e24 (ow hw 44 rfl) (ow hw 45 rfl) (ow hw 47 rfl) (ow hw 46 rfl) (rmca l Z a0 hw [] a1 u1 ku _ (2 : Int32) (23 : Int32) cs fv h24 n0 Zs24 O28 SC hcs SF hfv F29 F31 F32 F34 (by decide) (by decide)) (ow hw 48 rfl) (ow hw 33 rfl) F29 rfl (by rw [hml]; rfl) rfl (hb hby d40_36) (lenOf pd__I_C rfl) rfl (by decide) (fun T27 v27 Ll27 X27 hQ27 => ?_)
 obtain ⟨rfl, N27q, eh27⟩ := hQ27
 have N27 := Fr.app N24 N27q
 refine ogo (mkF m 63 #[rv a1, rv b2, iv 1, iv w26, iv 2, iv 2, iv (own_lc y2), iv (own_ix (own_lc y1))] [(.int (own_lc y2)), (.ref la)]) (fun _ k => sg_rmiv_3 X27 hx hby (by decide) (ldcAgain (s := s) X27 hx hZ hown (ow hw 38 rfl) hLit (g := (mkF m 59 #[rv a1, rv b2, iv 1, iv w26, iv 2, iv 2, iv (own_lc y2), iv (own_ix (own_lc y1))] [])) rfl (hb hby d40_59) _ (XS.iload X27.here hx rfl (hb hby d40_61) rfl k))) ?_
 have F37 := F12.wr W24
 have nx38 : la ≠ b2 := (own_ne E_la.lt (Nat.le_refl _) (Nat.le_of_eq g2.symm))
 have F39 := F13.other W24 (Or.inl nx38)
 have F40 := F14.other W24 (Or.inl nx38)
 have nx41 : lb ≠ b2 := (own_ne V_lb.lt (Nat.le_refl _) (Nat.le_of_eq g2.symm))
 have F42 := F15.other W24 nx41
 refine own_virt (W := 0) X27 hx hZ hown eh27 (ow hw 219 rfl) (ow hw 220 rfl) (ow hw 222 rfl) (ow hw 221 rfl) (rmix l Z a0 hw [] la lb lk (own_lc y2) cs h24 n0 Zs24 O28 SC hcs F37 F39 F40 F42 (own_lcn _) (own_lc8 _)) (ow hw 223 rfl) (ow hw 33 rfl) F37 rfl (by rw [hml]; rfl) rfl (hb hby d40_63) (lenOf pd__I_I rfl) rfl (by decide) (fun T36 v36 Ll36 X36 hQ36 => ?_)
 obtain ⟨rfl, N36q, eh36⟩ := hQ36
 have N36 := Fr.app N27 N36q
 refine ogo (mkF m 70 #[rv a1, rv b2, iv 1, iv w26, iv 2, iv 2, iv (own_lc y2), iv (own_ix (own_lc y2))] [(.int (own_ix (own_lc y2)))]) (fun _ k => sg_rmiv_4 X36 hx hby k) ?_
 have K43 := K16.wr W24 (Or.inr (Nat.le_trans (Nat.le_refl _) (Nat.le_of_eq g2.symm)))
 by_cases hc70_44 : (own_ix (own_lc y2)) < (0 : Int32)
 · skip
   refine ogo (mkF m 74 #[rv a1, rv b2, iv 1, iv w26, iv 2, iv 2, iv (own_lc y2), iv (own_ix (own_lc y2))] [(.int 0)]) (fun _ k => sg_rmiv_0 X36 hx hby hc70_44 k) ?_
   subst hw26; subst hw23; subst hw18
   exact own_endN X36 hx hr2 (by simp) (hb hby d40_74) (by decide) (by decide) (by rw [eh36]; exact ⟨(0 : Int32), rfl, N36, K43, (Or.inr ⟨rfl, fun h => h.2.2.1 hc70_44⟩)⟩)
 refine ogo (mkF m 82 #[rv a1, rv b2, iv 1, iv (own_q5 w26 (own_ix (own_lc y2))), iv 2, iv 2, iv (own_lc y2), iv (own_ix (own_lc y2))] []) (fun _ k => sg_rmiv_1 X36 hx hby hc70_44 k) ?_
 obtain ⟨w45, hw45⟩ : ∃ z, z = (own_q5 w26 (own_ix (own_lc y2))) := ⟨_, rfl⟩
 rw [← hw45]
 refine ogo (mkF m 36 #[rv a1, rv b2, iv 1, iv w45, iv 7, iv 3, iv (own_lc y2), iv (own_ix (own_lc y2))] [(.int 3), (.ref a1)]) (fun _ k => sg_rmiv_2 X36 hx hby (by decide) (by decide) k) ?_
 refine own_virt (W := 0) X36 hx hZ hown eh36 (ow hw 44 rfl) (ow hw 45 rfl) (ow hw 47 rfl) (ow hw 46 rfl) (rmca l Z a0 hw [] a1 u1 ku _ (3 : Int32) (23 : Int32) cs fv h24 n0 Zs24 O28 SC hcs SF hfv F29 F31 F32 F34 (by decide) (by decide)) (ow hw 48 rfl) (ow hw 33 rfl) F29 rfl (by rw [hml]; rfl) rfl (hb hby d40_36) (lenOf pd__I_C rfl) rfl (by decide) (fun T46 v46 Ll46 X46 hQ46 => ?_)
 obtain ⟨rfl, N46q, eh46⟩ := hQ46
 have N46 := Fr.app N36 N46q
 refine ogo (mkF m 63 #[rv a1, rv b2, iv 1, iv w45, iv 7, iv 3, iv (own_lc y3), iv (own_ix (own_lc y2))] [(.int (own_lc y3)), (.ref la)]) (fun _ k => sg_rmiv_3 X46 hx hby (by decide) (ldcAgain (s := s) X46 hx hZ hown (ow hw 38 rfl) hLit (g := (mkF m 59 #[rv a1, rv b2, iv 1, iv w45, iv 7, iv 3, iv (own_lc y3), iv (own_ix (own_lc y2))] [])) rfl (hb hby d40_59) _ (XS.iload X46.here hx rfl (hb hby d40_61) rfl k))) ?_
 refine own_virt (W := 0) X46 hx hZ hown eh46 (ow hw 219 rfl) (ow hw 220 rfl) (ow hw 222 rfl) (ow hw 221 rfl) (rmix l Z a0 hw [] la lb lk (own_lc y3) cs h24 n0 Zs24 O28 SC hcs F37 F39 F40 F42 (own_lcn _) (own_lc8 _)) (ow hw 223 rfl) (ow hw 33 rfl) F37 rfl (by rw [hml]; rfl) rfl (hb hby d40_63) (lenOf pd__I_I rfl) rfl (by decide) (fun T48 v48 Ll48 X48 hQ48 => ?_)
 obtain ⟨rfl, N48q, eh48⟩ := hQ48
 have N48 := Fr.app N46 N48q
 refine ogo (mkF m 70 #[rv a1, rv b2, iv 1, iv w45, iv 7, iv 3, iv (own_lc y3), iv (own_ix (own_lc y3))] [(.int (own_ix (own_lc y3)))]) (fun _ k => sg_rmiv_4 X48 hx hby k) ?_
 by_cases hc70_49 : (own_ix (own_lc y3)) < (0 : Int32)
 · skip
   refine ogo (mkF m 74 #[rv a1, rv b2, iv 1, iv w45, iv 7, iv 3, iv (own_lc y3), iv (own_ix (own_lc y3))] [(.int 0)]) (fun _ k => sg_rmiv_0 X48 hx hby hc70_49 k) ?_
   subst hw45; subst hw26; subst hw23; subst hw18
   exact own_endN X48 hx hr2 (by simp) (hb hby d40_74) (by decide) (by decide) (by rw [eh48]; exact ⟨(0 : Int32), rfl, N48, K43, (Or.inr ⟨rfl, fun h => h.2.2.2.1 hc70_49⟩)⟩)
 refine ogo (mkF m 82 #[rv a1, rv b2, iv 1, iv (own_q5 w45 (own_ix (own_lc y3))), iv 7, iv 3, iv (own_lc y3), iv (own_ix (own_lc y3))] []) (fun _ k => sg_rmiv_1 X48 hx hby hc70_49 k) ?_
 obtain ⟨w50, hw50⟩ : ∃ z, z = (own_q5 w45 (own_ix (own_lc y3))) := ⟨_, rfl⟩
 rw [← hw50]
 refine ogo (mkF m 105 #[rv a1, rv b2, iv 2, iv w50, iv 4, iv 3, iv (own_lc y3), iv (own_ix (own_lc y3))] [(.int (((w50.toUInt32 >>> ((4 : Int32) &&& 31).toUInt32).toInt32).toInt8.toInt32)), (.int 1), (.ref b2)]) (fun _ k => sg_rmiv_5 X48 hx hby (by decide) k) ?_
 refine own_basS X48 hx hZ eh48 N48 Zs24 gx25 V24 ⟨by decide, by decide⟩ (Nat.le_of_ble_eq_true rfl) rfl rfl (hb hby d40_105) (fun T51 h51 lo51 X51 e51 N51 W51 Zs51 V51 => ?_)
 refine ogo (mkF m 115 #[rv a1, rv b2, iv 2, iv (own_mk (15 : Int32) w50), iv 4, iv 3, iv (own_lc y3), iv (own_ix (own_lc y3))] []) (fun _ k => sg_rmiv_6 X51 hx hby k) ?_
 obtain ⟨w52, hw52⟩ : ∃ z, z = (own_mk (15 : Int32) w50) := ⟨_, rfl⟩
 rw [← hw52]
 refine ogo (mkF m 36 #[rv a1, rv b2, iv 2, iv w52, iv 4, iv 4, iv (own_lc y3), iv (own_ix (own_lc y3))] [(.int 4), (.ref a1)]) (fun _ k => sg_rmiv_7 X51 hx hby (by decide) k) ?_
 have O54 := O28.wr W51 gx25
 have F55 := F29.wr W51
 have F56 := F31.other W51 (Or.inl nx30)
 have F57 := F32.other W51 (Or.inl nx30)
 have F58 := F34.other W51 nx33
 refine own_virt (W := 0) X51 hx hZ hown e51 (ow hw 44 rfl) (ow hw 45 rfl) (ow hw 47 rfl) (ow hw 46 rfl) (rmca l Z a0 hw [] a1 u1 ku _ (4 : Int32) (23 : Int32) cs fv h51 n0 Zs51 O54 SC hcs SF hfv F55 F56 F57 F58 (by decide) (by decide)) (ow hw 48 rfl) (ow hw 33 rfl) F55 rfl (by rw [hml]; rfl) rfl (hb hby d40_36) (lenOf pd__I_C rfl) rfl (by decide) (fun T53 v53 Ll53 X53 hQ53 => ?_)
 obtain ⟨rfl, N53q, eh53⟩ := hQ53
 have N53 := Fr.app N51 N53q
 refine ogo (mkF m 63 #[rv a1, rv b2, iv 2, iv w52, iv 4, iv 4, iv (own_lc y4), iv (own_ix (own_lc y3))] [(.int (own_lc y4)), (.ref la)]) (fun _ k => sg_rmiv_3 X53 hx hby (by decide) (ldcAgain (s := s) X53 hx hZ hown (ow hw 38 rfl) hLit (g := (mkF m 59 #[rv a1, rv b2, iv 2, iv w52, iv 4, iv 4, iv (own_lc y4), iv (own_ix (own_lc y3))] [])) rfl (hb hby d40_59) _ (XS.iload X53.here hx rfl (hb hby d40_61) rfl k))) ?_
 have F61 := F37.wr W51
 have F62 := F39.other W51 (Or.inl nx38)
 have F63 := F40.other W51 (Or.inl nx38)
 have F64 := F42.other W51 nx41
 refine own_virt (W := 0) X53 hx hZ hown eh53 (ow hw 219 rfl) (ow hw 220 rfl) (ow hw 222 rfl) (ow hw 221 rfl) (rmix l Z a0 hw [] la lb lk (own_lc y4) cs h51 n0 Zs51 O54 SC hcs F61 F62 F63 F64 (own_lcn _) (own_lc8 _)) (ow hw 223 rfl) (ow hw 33 rfl) F61 rfl (by rw [hml]; rfl) rfl (hb hby d40_63) (lenOf pd__I_I rfl) rfl (by decide) (fun T60 v60 Ll60 X60 hQ60 => ?_)
 obtain ⟨rfl, N60q, eh60⟩ := hQ60
 have N60 := Fr.app N53 N60q
 refine ogo (mkF m 70 #[rv a1, rv b2, iv 2, iv w52, iv 4, iv 4, iv (own_lc y4), iv (own_ix (own_lc y4))] [(.int (own_ix (own_lc y4)))]) (fun _ k => sg_rmiv_4 X60 hx hby k) ?_
 have K65 := K43.wr W51 (Or.inr (Nat.le_trans (Nat.le_refl _) (Nat.le_of_eq g2.symm)))
 by_cases hc70_66 : (own_ix (own_lc y4)) < (0 : Int32)
 · skip
   refine ogo (mkF m 74 #[rv a1, rv b2, iv 2, iv w52, iv 4, iv 4, iv (own_lc y4), iv (own_ix (own_lc y4))] [(.int 0)]) (fun _ k => sg_rmiv_0 X60 hx hby hc70_66 k) ?_
   subst hw52; subst hw50; subst hw45; subst hw26; subst hw23; subst hw18
   exact own_endN X60 hx hr2 (by simp) (hb hby d40_74) (by decide) (by decide) (by rw [eh60]; exact ⟨(0 : Int32), rfl, N60, K65, (Or.inr ⟨rfl, fun h => h.2.2.2.2.1 hc70_66⟩)⟩)
 refine ogo (mkF m 82 #[rv a1, rv b2, iv 2, iv (own_q5 w52 (own_ix (own_lc y4))), iv 4, iv 4, iv (own_lc y4), iv (own_ix (own_lc y4))] []) (fun _ k => sg_rmiv_1 X60 hx hby hc70_66 k) ?_
 obtain ⟨w67, hw67⟩ : ∃ z, z = (own_q5 w52 (own_ix (own_lc y4))) := ⟨_, rfl⟩
 rw [← hw67]
 refine ogo (mkF m 105 #[rv a1, rv b2, iv 3, iv w67, iv 1, iv 4, iv (own_lc y4), iv (own_ix (own_lc y4))] [(.int (((w67.toUInt32 >>> ((1 : Int32) &&& 31).toUInt32).toInt32).toInt8.toInt32)), (.int 2), (.ref b2)]) (fun _ k => sg_rmiv_5 X60 hx hby (by decide) k) ?_
 refine own_basS X60 hx hZ eh60 N60 Zs51 gx25 V51 ⟨by decide, by decide⟩ (Nat.le_of_ble_eq_true rfl) rfl rfl (hb hby d40_105) (fun T68 h68 lo68 X68 e68 N68 W68 Zs68 V68 => ?_)
 refine ogo (mkF m 115 #[rv a1, rv b2, iv 3, iv (own_mk (1 : Int32) w67), iv 1, iv 4, iv (own_lc y4), iv (own_ix (own_lc y4))] []) (fun _ k => sg_rmiv_6 X68 hx hby k) ?_
 obtain ⟨w69, hw69⟩ : ∃ z, z = (own_mk (1 : Int32) w67) := ⟨_, rfl⟩
 rw [← hw69]
 refine ogo (mkF m 36 #[rv a1, rv b2, iv 3, iv w69, iv 1, iv 5, iv (own_lc y4), iv (own_ix (own_lc y4))] [(.int 5), (.ref a1)]) (fun _ k => sg_rmiv_7 X68 hx hby (by decide) k) ?_
 have O71 := O54.wr W68 gx25
 have F72 := F55.wr W68
 have F73 := F56.other W68 (Or.inl nx30)
 have F74 := F57.other W68 (Or.inl nx30)
 have F75 := F58.other W68 nx33
 refine own_virt (W := 0) X68 hx hZ hown e68 (ow hw 44 rfl) (ow hw 45 rfl) (ow hw 47 rfl) (ow hw 46 rfl) (rmca l Z a0 hw [] a1 u1 ku _ (5 : Int32) (23 : Int32) cs fv h68 n0 Zs68 O71 SC hcs SF hfv F72 F73 F74 F75 (by decide) (by decide)) (ow hw 48 rfl) (ow hw 33 rfl) F72 rfl (by rw [hml]; rfl) rfl (hb hby d40_36) (lenOf pd__I_C rfl) rfl (by decide) (fun T70 v70 Ll70 X70 hQ70 => ?_)
 obtain ⟨rfl, N70q, eh70⟩ := hQ70
 have N70 := Fr.app N68 N70q
 refine ogo (mkF m 54 #[rv a1, rv b2, iv 3, iv w69, iv 1, iv 5, iv (own_lc y5), iv (own_ix (own_lc y4))] [(.int 45), (.int (own_lc y5))]) (fun _ k => sg_rmiv_8 X70 hx hby (rfl : (5 : Int32) = (5 : Int32)) k) ?_
 have K76 := K65.wr W68 (Or.inr (Nat.le_trans (Nat.le_refl _) (Nat.le_of_eq g2.symm)))
 by_cases hc54_77 : (own_lc y5) = (45 : Int32)
 · skip
   refine ogo (mkF m 36 #[rv a1, rv b2, iv 3, iv w69, iv 1, iv 6, iv (own_lc y5), iv (own_ix (own_lc y4))] [(.int 6), (.ref a1)]) (fun _ k => sg_rmiv_9 X70 hx hby hc54_77 (by decide) k) ?_
   refine own_virt (W := 0) X70 hx hZ hown eh70 (ow hw 44 rfl) (ow hw 45 rfl) (ow hw 47 rfl) (ow hw 46 rfl) (rmca l Z a0 hw [] a1 u1 ku _ (6 : Int32) (23 : Int32) cs fv h68 n0 Zs68 O71 SC hcs SF hfv F72 F73 F74 F75 (by decide) (by decide)) (ow hw 48 rfl) (ow hw 33 rfl) F72 rfl (by rw [hml]; rfl) rfl (hb hby d40_36) (lenOf pd__I_C rfl) rfl (by decide) (fun T78 v78 Ll78 X78 hQ78 => ?_)
   obtain ⟨rfl, N78q, eh78⟩ := hQ78
   have N78 := Fr.app N70 N78q
   refine ogo (mkF m 63 #[rv a1, rv b2, iv 3, iv w69, iv 1, iv 6, iv (own_lc y6), iv (own_ix (own_lc y4))] [(.int (own_lc y6)), (.ref la)]) (fun _ k => sg_rmiv_3 X78 hx hby (by decide) (ldcAgain (s := s) X78 hx hZ hown (ow hw 38 rfl) hLit (g := (mkF m 59 #[rv a1, rv b2, iv 3, iv w69, iv 1, iv 6, iv (own_lc y6), iv (own_ix (own_lc y4))] [])) rfl (hb hby d40_59) _ (XS.iload X78.here hx rfl (hb hby d40_61) rfl k))) ?_
   have F81 := F61.wr W68
   have F82 := F62.other W68 (Or.inl nx38)
   have F83 := F63.other W68 (Or.inl nx38)
   have F84 := F64.other W68 nx41
   refine own_virt (W := 0) X78 hx hZ hown eh78 (ow hw 219 rfl) (ow hw 220 rfl) (ow hw 222 rfl) (ow hw 221 rfl) (rmix l Z a0 hw [] la lb lk (own_lc y6) cs h68 n0 Zs68 O71 SC hcs F81 F82 F83 F84 (own_lcn _) (own_lc8 _)) (ow hw 223 rfl) (ow hw 33 rfl) F81 rfl (by rw [hml]; rfl) rfl (hb hby d40_63) (lenOf pd__I_I rfl) rfl (by decide) (fun T80 v80 Ll80 X80 hQ80 => ?_)
   obtain ⟨rfl, N80q, eh80⟩ := hQ80
   have N80 := Fr.app N78 N80q
   refine ogo (mkF m 70 #[rv a1, rv b2, iv 3, iv w69, iv 1, iv 6, iv (own_lc y6), iv (own_ix (own_lc y6))] [(.int (own_ix (own_lc y6)))]) (fun _ k => sg_rmiv_4 X80 hx hby k) ?_
   by_cases hc70_85 : (own_ix (own_lc y6)) < (0 : Int32)
   · skip
     refine ogo (mkF m 74 #[rv a1, rv b2, iv 3, iv w69, iv 1, iv 6, iv (own_lc y6), iv (own_ix (own_lc y6))] [(.int 0)]) (fun _ k => sg_rmiv_0 X80 hx hby hc70_85 k) ?_
     subst hw69; subst hw67; subst hw52; subst hw50; subst hw45; subst hw26; subst hw23; subst hw18
     exact own_endN X80 hx hr2 (by simp) (hb hby d40_74) (by decide) (by decide) (by rw [eh80]; exact ⟨(0 : Int32), rfl, N80, K76, (Or.inr ⟨rfl, fun h => h.2.2.2.2.2.2.1 hc70_85⟩)⟩)
   refine ogo (mkF m 82 #[rv a1, rv b2, iv 3, iv (own_q5 w69 (own_ix (own_lc y6))), iv 1, iv 6, iv (own_lc y6), iv (own_ix (own_lc y6))] []) (fun _ k => sg_rmiv_1 X80 hx hby hc70_85 k) ?_
   obtain ⟨w86, hw86⟩ : ∃ z, z = (own_q5 w69 (own_ix (own_lc y6))) := ⟨_, rfl⟩
   rw [← hw86]
   refine ogo (mkF m 36 #[rv a1, rv b2, iv 3, iv w86, iv 6, iv 7, iv (own_lc y6), iv (own_ix (own_lc y6))] [(.int 7), (.ref a1)]) (fun _ k => sg_rmiv_2 X80 hx hby (by decide) (by decide) k) ?_
   refine own_virt (W := 0) X80 hx hZ hown eh80 (ow hw 44 rfl) (ow hw 45 rfl) (ow hw 47 rfl) (ow hw 46 rfl) (rmca l Z a0 hw [] a1 u1 ku _ (7 : Int32) (23 : Int32) cs fv h68 n0 Zs68 O71 SC hcs SF hfv F72 F73 F74 F75 (by decide) (by decide)) (ow hw 48 rfl) (ow hw 33 rfl) F72 rfl (by rw [hml]; rfl) rfl (hb hby d40_36) (lenOf pd__I_C rfl) rfl (by decide) (fun T87 v87 Ll87 X87 hQ87 => ?_)
   obtain ⟨rfl, N87q, eh87⟩ := hQ87
   have N87 := Fr.app N80 N87q
   refine ogo (mkF m 63 #[rv a1, rv b2, iv 3, iv w86, iv 6, iv 7, iv (own_lc y7), iv (own_ix (own_lc y6))] [(.int (own_lc y7)), (.ref la)]) (fun _ k => sg_rmiv_3 X87 hx hby (by decide) (ldcAgain (s := s) X87 hx hZ hown (ow hw 38 rfl) hLit (g := (mkF m 59 #[rv a1, rv b2, iv 3, iv w86, iv 6, iv 7, iv (own_lc y7), iv (own_ix (own_lc y6))] [])) rfl (hb hby d40_59) _ (XS.iload X87.here hx rfl (hb hby d40_61) rfl k))) ?_
   refine own_virt (W := 0) X87 hx hZ hown eh87 (ow hw 219 rfl) (ow hw 220 rfl) (ow hw 222 rfl) (ow hw 221 rfl) (rmix l Z a0 hw [] la lb lk (own_lc y7) cs h68 n0 Zs68 O71 SC hcs F81 F82 F83 F84 (own_lcn _) (own_lc8 _)) (ow hw 223 rfl) (ow hw 33 rfl) F81 rfl (by rw [hml]; rfl) rfl (hb hby d40_63) (lenOf pd__I_I rfl) rfl (by decide) (fun T89 v89 Ll89 X89 hQ89 => ?_)
   obtain ⟨rfl, N89q, eh89⟩ := hQ89
   have N89 := Fr.app N87 N89q
   refine ogo (mkF m 70 #[rv a1, rv b2, iv 3, iv w86, iv 6, iv 7, iv (own_lc y7), iv (own_ix (own_lc y7))] [(.int (own_ix (own_lc y7)))]) (fun _ k => sg_rmiv_4 X89 hx hby k) ?_
   by_cases hc70_90 : (own_ix (own_lc y7)) < (0 : Int32)
   · skip
     refine ogo (mkF m 74 #[rv a1, rv b2, iv 3, iv w86, iv 6, iv 7, iv (own_lc y7), iv (own_ix (own_lc y7))] [(.int 0)]) (fun _ k => sg_rmiv_0 X89 hx hby hc70_90 k) ?_
     subst hw86; subst hw69; subst hw67; subst hw52; subst hw50; subst hw45; subst hw26; subst hw23; subst hw18
     exact own_endN X89 hx hr2 (by simp) (hb hby d40_74) (by decide) (by decide) (by rw [eh89]; exact ⟨(0 : Int32), rfl, N89, K76, (Or.inr ⟨rfl, fun h => h.2.2.2.2.2.2.2.1 hc70_90⟩)⟩)
   refine ogo (mkF m 82 #[rv a1, rv b2, iv 3, iv (own_q5 w86 (own_ix (own_lc y7))), iv 6, iv 7, iv (own_lc y7), iv (own_ix (own_lc y7))] []) (fun _ k => sg_rmiv_1 X89 hx hby hc70_90 k) ?_
   obtain ⟨w91, hw91⟩ : ∃ z, z = (own_q5 w86 (own_ix (own_lc y7))) := ⟨_, rfl⟩
   rw [← hw91]
   refine ogo (mkF m 105 #[rv a1, rv b2, iv 4, iv w91, iv 3, iv 7, iv (own_lc y7), iv (own_ix (own_lc y7))] [(.int (((w91.toUInt32 >>> ((3 : Int32) &&& 31).toUInt32).toInt32).toInt8.toInt32)), (.int 3), (.ref b2)]) (fun _ k => sg_rmiv_5 X89 hx hby (by decide) k) ?_
   refine own_basS X89 hx hZ eh89 N89 Zs68 gx25 V68 ⟨by decide, by decide⟩ (Nat.le_of_ble_eq_true rfl) rfl rfl (hb hby d40_105) (fun T92 h92 lo92 X92 e92 N92 W92 Zs92 V92 => ?_)
   refine ogo (mkF m 115 #[rv a1, rv b2, iv 4, iv (own_mk (7 : Int32) w91), iv 3, iv 7, iv (own_lc y7), iv (own_ix (own_lc y7))] []) (fun _ k => sg_rmiv_6 X92 hx hby k) ?_
   obtain ⟨w93, hw93⟩ : ∃ z, z = (own_mk (7 : Int32) w91) := ⟨_, rfl⟩
   rw [← hw93]
   refine ogo (mkF m 36 #[rv a1, rv b2, iv 4, iv w93, iv 3, iv 8, iv (own_lc y7), iv (own_ix (own_lc y7))] [(.int 8), (.ref a1)]) (fun _ k => sg_rmiv_7 X92 hx hby (by decide) k) ?_
   have O95 := O71.wr W92 gx25
   have F96 := F72.wr W92
   have F97 := F73.other W92 (Or.inl nx30)
   have F98 := F74.other W92 (Or.inl nx30)
   have F99 := F75.other W92 nx33
   refine own_virt (W := 0) X92 hx hZ hown e92 (ow hw 44 rfl) (ow hw 45 rfl) (ow hw 47 rfl) (ow hw 46 rfl) (rmca l Z a0 hw [] a1 u1 ku _ (8 : Int32) (23 : Int32) cs fv h92 n0 Zs92 O95 SC hcs SF hfv F96 F97 F98 F99 (by decide) (by decide)) (ow hw 48 rfl) (ow hw 33 rfl) F96 rfl (by rw [hml]; rfl) rfl (hb hby d40_36) (lenOf pd__I_C rfl) rfl (by decide) (fun T94 v94 Ll94 X94 hQ94 => ?_)
   obtain ⟨rfl, N94q, eh94⟩ := hQ94
   have N94 := Fr.app N92 N94q
   refine ogo (mkF m 63 #[rv a1, rv b2, iv 4, iv w93, iv 3, iv 8, iv (own_lc y8), iv (own_ix (own_lc y7))] [(.int (own_lc y8)), (.ref la)]) (fun _ k => sg_rmiv_3 X94 hx hby (by decide) (ldcAgain (s := s) X94 hx hZ hown (ow hw 38 rfl) hLit (g := (mkF m 59 #[rv a1, rv b2, iv 4, iv w93, iv 3, iv 8, iv (own_lc y8), iv (own_ix (own_lc y7))] [])) rfl (hb hby d40_59) _ (XS.iload X94.here hx rfl (hb hby d40_61) rfl k))) ?_
   have F102 := F81.wr W92
   have F103 := F82.other W92 (Or.inl nx38)
   have F104 := F83.other W92 (Or.inl nx38)
   have F105 := F84.other W92 nx41
   refine own_virt (W := 0) X94 hx hZ hown eh94 (ow hw 219 rfl) (ow hw 220 rfl) (ow hw 222 rfl) (ow hw 221 rfl) (rmix l Z a0 hw [] la lb lk (own_lc y8) cs h92 n0 Zs92 O95 SC hcs F102 F103 F104 F105 (own_lcn _) (own_lc8 _)) (ow hw 223 rfl) (ow hw 33 rfl) F102 rfl (by rw [hml]; rfl) rfl (hb hby d40_63) (lenOf pd__I_I rfl) rfl (by decide) (fun T101 v101 Ll101 X101 hQ101 => ?_)
   obtain ⟨rfl, N101q, eh101⟩ := hQ101
   have N101 := Fr.app N94 N101q
   refine ogo (mkF m 70 #[rv a1, rv b2, iv 4, iv w93, iv 3, iv 8, iv (own_lc y8), iv (own_ix (own_lc y8))] [(.int (own_ix (own_lc y8)))]) (fun _ k => sg_rmiv_4 X101 hx hby k) ?_
   have K106 := K76.wr W92 (Or.inr (Nat.le_trans (Nat.le_refl _) (Nat.le_of_eq g2.symm)))
   by_cases hc70_107 : (own_ix (own_lc y8)) < (0 : Int32)
   · skip
     refine ogo (mkF m 74 #[rv a1, rv b2, iv 4, iv w93, iv 3, iv 8, iv (own_lc y8), iv (own_ix (own_lc y8))] [(.int 0)]) (fun _ k => sg_rmiv_0 X101 hx hby hc70_107 k) ?_
     subst hw93; subst hw91; subst hw86; subst hw69; subst hw67; subst hw52; subst hw50; subst hw45; subst hw26; subst hw23; subst hw18
     exact own_endN X101 hx hr2 (by simp) (hb hby d40_74) (by decide) (by decide) (by rw [eh101]; exact ⟨(0 : Int32), rfl, N101, K106, (Or.inr ⟨rfl, fun h => h.2.2.2.2.2.2.2.2.1 hc70_107⟩)⟩)
   refine ogo (mkF m 82 #[rv a1, rv b2, iv 4, iv (own_q5 w93 (own_ix (own_lc y8))), iv 3, iv 8, iv (own_lc y8), iv (own_ix (own_lc y8))] []) (fun _ k => sg_rmiv_1 X101 hx hby hc70_107 k) ?_
   obtain ⟨w108, hw108⟩ : ∃ z, z = (own_q5 w93 (own_ix (own_lc y8))) := ⟨_, rfl⟩
   rw [← hw108]
   refine ogo (mkF m 105 #[rv a1, rv b2, iv 5, iv w108, iv 0, iv 8, iv (own_lc y8), iv (own_ix (own_lc y8))] [(.int (((w108.toUInt32 >>> ((0 : Int32) &&& 31).toUInt32).toInt32).toInt8.toInt32)), (.int 4), (.ref b2)]) (fun _ k => sg_rmiv_5 X101 hx hby (by decide) k) ?_
   refine own_basS X101 hx hZ eh101 N101 Zs92 gx25 V92 ⟨by decide, by decide⟩ (Nat.le_of_ble_eq_true rfl) rfl rfl (hb hby d40_105) (fun T109 h109 lo109 X109 e109 N109 W109 Zs109 V109 => ?_)
   refine ogo (mkF m 115 #[rv a1, rv b2, iv 5, iv (own_mk (0 : Int32) w108), iv 0, iv 8, iv (own_lc y8), iv (own_ix (own_lc y8))] []) (fun _ k => sg_rmiv_6 X109 hx hby k) ?_
   obtain ⟨w110, hw110⟩ : ∃ z, z = (own_mk (0 : Int32) w108) := ⟨_, rfl⟩
   rw [← hw110]
   refine ogo (mkF m 36 #[rv a1, rv b2, iv 5, iv w110, iv 0, iv 9, iv (own_lc y8), iv (own_ix (own_lc y8))] [(.int 9), (.ref a1)]) (fun _ k => sg_rmiv_7 X109 hx hby (by decide) k) ?_
   have O112 := O95.wr W109 gx25
   have F113 := F96.wr W109
   have F114 := F97.other W109 (Or.inl nx30)
   have F115 := F98.other W109 (Or.inl nx30)
   have F116 := F99.other W109 nx33
   refine own_virt (W := 0) X109 hx hZ hown e109 (ow hw 44 rfl) (ow hw 45 rfl) (ow hw 47 rfl) (ow hw 46 rfl) (rmca l Z a0 hw [] a1 u1 ku _ (9 : Int32) (23 : Int32) cs fv h109 n0 Zs109 O112 SC hcs SF hfv F113 F114 F115 F116 (by decide) (by decide)) (ow hw 48 rfl) (ow hw 33 rfl) F113 rfl (by rw [hml]; rfl) rfl (hb hby d40_36) (lenOf pd__I_C rfl) rfl (by decide) (fun T111 v111 Ll111 X111 hQ111 => ?_)
   obtain ⟨rfl, N111q, eh111⟩ := hQ111
   have N111 := Fr.app N109 N111q
   refine ogo (mkF m 63 #[rv a1, rv b2, iv 5, iv w110, iv 0, iv 9, iv (own_lc y9), iv (own_ix (own_lc y8))] [(.int (own_lc y9)), (.ref la)]) (fun _ k => sg_rmiv_3 X111 hx hby (by decide) (ldcAgain (s := s) X111 hx hZ hown (ow hw 38 rfl) hLit (g := (mkF m 59 #[rv a1, rv b2, iv 5, iv w110, iv 0, iv 9, iv (own_lc y9), iv (own_ix (own_lc y8))] [])) rfl (hb hby d40_59) _ (XS.iload X111.here hx rfl (hb hby d40_61) rfl k))) ?_
   have F119 := F102.wr W109
   have F120 := F103.other W109 (Or.inl nx38)
   have F121 := F104.other W109 (Or.inl nx38)
   have F122 := F105.other W109 nx41
   refine own_virt (W := 0) X111 hx hZ hown eh111 (ow hw 219 rfl) (ow hw 220 rfl) (ow hw 222 rfl) (ow hw 221 rfl) (rmix l Z a0 hw [] la lb lk (own_lc y9) cs h109 n0 Zs109 O112 SC hcs F119 F120 F121 F122 (own_lcn _) (own_lc8 _)) (ow hw 223 rfl) (ow hw 33 rfl) F119 rfl (by rw [hml]; rfl) rfl (hb hby d40_63) (lenOf pd__I_I rfl) rfl (by decide) (fun T118 v118 Ll118 X118 hQ118 => ?_)
   obtain ⟨rfl, N118q, eh118⟩ := hQ118
   have N118 := Fr.app N111 N118q
   refine ogo (mkF m 70 #[rv a1, rv b2, iv 5, iv w110, iv 0, iv 9, iv (own_lc y9), iv (own_ix (own_lc y9))] [(.int (own_ix (own_lc y9)))]) (fun _ k => sg_rmiv_4 X118 hx hby k) ?_
   have K123 := K106.wr W109 (Or.inr (Nat.le_trans (Nat.le_refl _) (Nat.le_of_eq g2.symm)))
   by_cases hc70_124 : (own_ix (own_lc y9)) < (0 : Int32)
   · skip
     refine ogo (mkF m 74 #[rv a1, rv b2, iv 5, iv w110, iv 0, iv 9, iv (own_lc y9), iv (own_ix (own_lc y9))] [(.int 0)]) (fun _ k => sg_rmiv_0 X118 hx hby hc70_124 k) ?_
     subst hw110; subst hw108; subst hw93; subst hw91; subst hw86; subst hw69; subst hw67; subst hw52; subst hw50; subst hw45; subst hw26; subst hw23; subst hw18
     exact own_endN X118 hx hr2 (by simp) (hb hby d40_74) (by decide) (by decide) (by rw [eh118]; exact ⟨(0 : Int32), rfl, N118, K123, (Or.inr ⟨rfl, fun h => h.2.2.2.2.2.2.2.2.2.1 hc70_124⟩)⟩)
   refine ogo (mkF m 82 #[rv a1, rv b2, iv 5, iv (own_q5 w110 (own_ix (own_lc y9))), iv 0, iv 9, iv (own_lc y9), iv (own_ix (own_lc y9))] []) (fun _ k => sg_rmiv_1 X118 hx hby hc70_124 k) ?_
   obtain ⟨w125, hw125⟩ : ∃ z, z = (own_q5 w110 (own_ix (own_lc y9))) := ⟨_, rfl⟩
   rw [← hw125]
   refine ogo (mkF m 36 #[rv a1, rv b2, iv 5, iv w125, iv 5, iv 10, iv (own_lc y9), iv (own_ix (own_lc y9))] [(.int 10), (.ref a1)]) (fun _ k => sg_rmiv_2 X118 hx hby (by decide) (by decide) k) ?_
   refine own_virt (W := 0) X118 hx hZ hown eh118 (ow hw 44 rfl) (ow hw 45 rfl) (ow hw 47 rfl) (ow hw 46 rfl) (rmca l Z a0 hw [] a1 u1 ku _ (10 : Int32) (23 : Int32) cs fv h109 n0 Zs109 O112 SC hcs SF hfv F113 F114 F115 F116 (by decide) (by decide)) (ow hw 48 rfl) (ow hw 33 rfl) F113 rfl (by rw [hml]; rfl) rfl (hb hby d40_36) (lenOf pd__I_C rfl) rfl (by decide) (fun T126 v126 Ll126 X126 hQ126 => ?_)
   obtain ⟨rfl, N126q, eh126⟩ := hQ126
   have N126 := Fr.app N118 N126q
   refine ogo (mkF m 63 #[rv a1, rv b2, iv 5, iv w125, iv 5, iv 10, iv (own_lc y10), iv (own_ix (own_lc y9))] [(.int (own_lc y10)), (.ref la)]) (fun _ k => sg_rmiv_3 X126 hx hby (by decide) (ldcAgain (s := s) X126 hx hZ hown (ow hw 38 rfl) hLit (g := (mkF m 59 #[rv a1, rv b2, iv 5, iv w125, iv 5, iv 10, iv (own_lc y10), iv (own_ix (own_lc y9))] [])) rfl (hb hby d40_59) _ (XS.iload X126.here hx rfl (hb hby d40_61) rfl k))) ?_
   refine own_virt (W := 0) X126 hx hZ hown eh126 (ow hw 219 rfl) (ow hw 220 rfl) (ow hw 222 rfl) (ow hw 221 rfl) (rmix l Z a0 hw [] la lb lk (own_lc y10) cs h109 n0 Zs109 O112 SC hcs F119 F120 F121 F122 (own_lcn _) (own_lc8 _)) (ow hw 223 rfl) (ow hw 33 rfl) F119 rfl (by rw [hml]; rfl) rfl (hb hby d40_63) (lenOf pd__I_I rfl) rfl (by decide) (fun T128 v128 Ll128 X128 hQ128 => ?_)
   obtain ⟨rfl, N128q, eh128⟩ := hQ128
   have N128 := Fr.app N126 N128q
   refine ogo (mkF m 70 #[rv a1, rv b2, iv 5, iv w125, iv 5, iv 10, iv (own_lc y10), iv (own_ix (own_lc y10))] [(.int (own_ix (own_lc y10)))]) (fun _ k => sg_rmiv_4 X128 hx hby k) ?_
   by_cases hc70_129 : (own_ix (own_lc y10)) < (0 : Int32)
   · skip
     refine ogo (mkF m 74 #[rv a1, rv b2, iv 5, iv w125, iv 5, iv 10, iv (own_lc y10), iv (own_ix (own_lc y10))] [(.int 0)]) (fun _ k => sg_rmiv_0 X128 hx hby hc70_129 k) ?_
     subst hw125; subst hw110; subst hw108; subst hw93; subst hw91; subst hw86; subst hw69; subst hw67; subst hw52; subst hw50; subst hw45; subst hw26; subst hw23; subst hw18
     exact own_endN X128 hx hr2 (by simp) (hb hby d40_74) (by decide) (by decide) (by rw [eh128]; exact ⟨(0 : Int32), rfl, N128, K123, (Or.inr ⟨rfl, fun h => h.2.2.2.2.2.2.2.2.2.2.1 hc70_129⟩)⟩)
   refine ogo (mkF m 82 #[rv a1, rv b2, iv 5, iv (own_q5 w125 (own_ix (own_lc y10))), iv 5, iv 10, iv (own_lc y10), iv (own_ix (own_lc y10))] []) (fun _ k => sg_rmiv_1 X128 hx hby hc70_129 k) ?_
   obtain ⟨w130, hw130⟩ : ∃ z, z = (own_q5 w125 (own_ix (own_lc y10))) := ⟨_, rfl⟩
   rw [← hw130]
   refine ogo (mkF m 105 #[rv a1, rv b2, iv 6, iv w130, iv 2, iv 10, iv (own_lc y10), iv (own_ix (own_lc y10))] [(.int (((w130.toUInt32 >>> ((2 : Int32) &&& 31).toUInt32).toInt32).toInt8.toInt32)), (.int 5), (.ref b2)]) (fun _ k => sg_rmiv_5 X128 hx hby (by decide) k) ?_
   refine own_basS X128 hx hZ eh128 N128 Zs109 gx25 V109 ⟨by decide, by decide⟩ (Nat.le_of_ble_eq_true rfl) rfl rfl (hb hby d40_105) (fun T131 h131 lo131 X131 e131 N131 W131 Zs131 V131 => ?_)
   refine ogo (mkF m 115 #[rv a1, rv b2, iv 6, iv (own_mk (3 : Int32) w130), iv 2, iv 10, iv (own_lc y10), iv (own_ix (own_lc y10))] []) (fun _ k => sg_rmiv_6 X131 hx hby k) ?_
   obtain ⟨w132, hw132⟩ : ∃ z, z = (own_mk (3 : Int32) w130) := ⟨_, rfl⟩
   rw [← hw132]
   refine ogo (mkF m 36 #[rv a1, rv b2, iv 6, iv w132, iv 2, iv 11, iv (own_lc y10), iv (own_ix (own_lc y10))] [(.int 11), (.ref a1)]) (fun _ k => sg_rmiv_7 X131 hx hby (by decide) k) ?_
   have O134 := O112.wr W131 gx25
   have F135 := F113.wr W131
   have F136 := F114.other W131 (Or.inl nx30)
   have F137 := F115.other W131 (Or.inl nx30)
   have F138 := F116.other W131 nx33
   refine own_virt (W := 0) X131 hx hZ hown e131 (ow hw 44 rfl) (ow hw 45 rfl) (ow hw 47 rfl) (ow hw 46 rfl) (rmca l Z a0 hw [] a1 u1 ku _ (11 : Int32) (23 : Int32) cs fv h131 n0 Zs131 O134 SC hcs SF hfv F135 F136 F137 F138 (by decide) (by decide)) (ow hw 48 rfl) (ow hw 33 rfl) F135 rfl (by rw [hml]; rfl) rfl (hb hby d40_36) (lenOf pd__I_C rfl) rfl (by decide) (fun T133 v133 Ll133 X133 hQ133 => ?_)
   obtain ⟨rfl, N133q, eh133⟩ := hQ133
   have N133 := Fr.app N131 N133q
   refine ogo (mkF m 54 #[rv a1, rv b2, iv 6, iv w132, iv 2, iv 11, iv (own_lc y11), iv (own_ix (own_lc y10))] [(.int 45), (.int (own_lc y11))]) (fun _ k => sg_rmiv_8 X133 hx hby (rfl : (5 : Int32) = (5 : Int32)) k) ?_
   have K139 := K123.wr W131 (Or.inr (Nat.le_trans (Nat.le_refl _) (Nat.le_of_eq g2.symm)))
   by_cases hc54_140 : (own_lc y11) = (45 : Int32)
   · skip
     refine ogo (mkF m 36 #[rv a1, rv b2, iv 6, iv w132, iv 2, iv 12, iv (own_lc y11), iv (own_ix (own_lc y10))] [(.int 12), (.ref a1)]) (fun _ k => sg_rmiv_9 X133 hx hby hc54_140 (by decide) k) ?_
     refine own_virt (W := 0) X133 hx hZ hown eh133 (ow hw 44 rfl) (ow hw 45 rfl) (ow hw 47 rfl) (ow hw 46 rfl) (rmca l Z a0 hw [] a1 u1 ku _ (12 : Int32) (23 : Int32) cs fv h131 n0 Zs131 O134 SC hcs SF hfv F135 F136 F137 F138 (by decide) (by decide)) (ow hw 48 rfl) (ow hw 33 rfl) F135 rfl (by rw [hml]; rfl) rfl (hb hby d40_36) (lenOf pd__I_C rfl) rfl (by decide) (fun T141 v141 Ll141 X141 hQ141 => ?_)
     obtain ⟨rfl, N141q, eh141⟩ := hQ141
     have N141 := Fr.app N133 N141q
     refine ogo (mkF m 63 #[rv a1, rv b2, iv 6, iv w132, iv 2, iv 12, iv (own_lc y12), iv (own_ix (own_lc y10))] [(.int (own_lc y12)), (.ref la)]) (fun _ k => sg_rmiv_3 X141 hx hby (by decide) (ldcAgain (s := s) X141 hx hZ hown (ow hw 38 rfl) hLit (g := (mkF m 59 #[rv a1, rv b2, iv 6, iv w132, iv 2, iv 12, iv (own_lc y12), iv (own_ix (own_lc y10))] [])) rfl (hb hby d40_59) _ (XS.iload X141.here hx rfl (hb hby d40_61) rfl k))) ?_
     have F144 := F119.wr W131
     have F145 := F120.other W131 (Or.inl nx38)
     have F146 := F121.other W131 (Or.inl nx38)
     have F147 := F122.other W131 nx41
     refine own_virt (W := 0) X141 hx hZ hown eh141 (ow hw 219 rfl) (ow hw 220 rfl) (ow hw 222 rfl) (ow hw 221 rfl) (rmix l Z a0 hw [] la lb lk (own_lc y12) cs h131 n0 Zs131 O134 SC hcs F144 F145 F146 F147 (own_lcn _) (own_lc8 _)) (ow hw 223 rfl) (ow hw 33 rfl) F144 rfl (by rw [hml]; rfl) rfl (hb hby d40_63) (lenOf pd__I_I rfl) rfl (by decide) (fun T143 v143 Ll143 X143 hQ143 => ?_)
     obtain ⟨rfl, N143q, eh143⟩ := hQ143
     have N143 := Fr.app N141 N143q
     refine ogo (mkF m 70 #[rv a1, rv b2, iv 6, iv w132, iv 2, iv 12, iv (own_lc y12), iv (own_ix (own_lc y12))] [(.int (own_ix (own_lc y12)))]) (fun _ k => sg_rmiv_4 X143 hx hby k) ?_
     by_cases hc70_148 : (own_ix (own_lc y12)) < (0 : Int32)
     · skip
       refine ogo (mkF m 74 #[rv a1, rv b2, iv 6, iv w132, iv 2, iv 12, iv (own_lc y12), iv (own_ix (own_lc y12))] [(.int 0)]) (fun _ k => sg_rmiv_0 X143 hx hby hc70_148 k) ?_
       subst hw132; subst hw130; subst hw125; subst hw110; subst hw108; subst hw93; subst hw91; subst hw86; subst hw69; subst hw67; subst hw52; subst hw50; subst hw45; subst hw26; subst hw23; subst hw18
       exact own_endN X143 hx hr2 (by simp) (hb hby d40_74) (by decide) (by decide) (by rw [eh143]; exact ⟨(0 : Int32), rfl, N143, K139, (Or.inr ⟨rfl, fun h => h.2.2.2.2.2.2.2.2.2.2.2.2.1 hc70_148⟩)⟩)
     refine ogo (mkF m 82 #[rv a1, rv b2, iv 6, iv (own_q5 w132 (own_ix (own_lc y12))), iv 2, iv 12, iv (own_lc y12), iv (own_ix (own_lc y12))] []) (fun _ k => sg_rmiv_1 X143 hx hby hc70_148 k) ?_
     obtain ⟨w149, hw149⟩ : ∃ z, z = (own_q5 w132 (own_ix (own_lc y12))) := ⟨_, rfl⟩
     rw [← hw149]
     refine ogo (mkF m 36 #[rv a1, rv b2, iv 6, iv w149, iv 7, iv 13, iv (own_lc y12), iv (own_ix (own_lc y12))] [(.int 13), (.ref a1)]) (fun _ k => sg_rmiv_2 X143 hx hby (by decide) (by decide) k) ?_
     refine own_virt (W := 0) X143 hx hZ hown eh143 (ow hw 44 rfl) (ow hw 45 rfl) (ow hw 47 rfl) (ow hw 46 rfl) (rmca l Z a0 hw [] a1 u1 ku _ (13 : Int32) (23 : Int32) cs fv h131 n0 Zs131 O134 SC hcs SF hfv F135 F136 F137 F138 (by decide) (by decide)) (ow hw 48 rfl) (ow hw 33 rfl) F135 rfl (by rw [hml]; rfl) rfl (hb hby d40_36) (lenOf pd__I_C rfl) rfl (by decide) (fun T150 v150 Ll150 X150 hQ150 => ?_)
     obtain ⟨rfl, N150q, eh150⟩ := hQ150
     have N150 := Fr.app N143 N150q
     refine ogo (mkF m 63 #[rv a1, rv b2, iv 6, iv w149, iv 7, iv 13, iv (own_lc y13), iv (own_ix (own_lc y12))] [(.int (own_lc y13)), (.ref la)]) (fun _ k => sg_rmiv_3 X150 hx hby (by decide) (ldcAgain (s := s) X150 hx hZ hown (ow hw 38 rfl) hLit (g := (mkF m 59 #[rv a1, rv b2, iv 6, iv w149, iv 7, iv 13, iv (own_lc y13), iv (own_ix (own_lc y12))] [])) rfl (hb hby d40_59) _ (XS.iload X150.here hx rfl (hb hby d40_61) rfl k))) ?_
     refine own_virt (W := 0) X150 hx hZ hown eh150 (ow hw 219 rfl) (ow hw 220 rfl) (ow hw 222 rfl) (ow hw 221 rfl) (rmix l Z a0 hw [] la lb lk (own_lc y13) cs h131 n0 Zs131 O134 SC hcs F144 F145 F146 F147 (own_lcn _) (own_lc8 _)) (ow hw 223 rfl) (ow hw 33 rfl) F144 rfl (by rw [hml]; rfl) rfl (hb hby d40_63) (lenOf pd__I_I rfl) rfl (by decide) (fun T152 v152 Ll152 X152 hQ152 => ?_)
     obtain ⟨rfl, N152q, eh152⟩ := hQ152
     have N152 := Fr.app N150 N152q
     refine ogo (mkF m 70 #[rv a1, rv b2, iv 6, iv w149, iv 7, iv 13, iv (own_lc y13), iv (own_ix (own_lc y13))] [(.int (own_ix (own_lc y13)))]) (fun _ k => sg_rmiv_4 X152 hx hby k) ?_
     by_cases hc70_153 : (own_ix (own_lc y13)) < (0 : Int32)
     · skip
       refine ogo (mkF m 74 #[rv a1, rv b2, iv 6, iv w149, iv 7, iv 13, iv (own_lc y13), iv (own_ix (own_lc y13))] [(.int 0)]) (fun _ k => sg_rmiv_0 X152 hx hby hc70_153 k) ?_
       subst hw149; subst hw132; subst hw130; subst hw125; subst hw110; subst hw108; subst hw93; subst hw91; subst hw86; subst hw69; subst hw67; subst hw52; subst hw50; subst hw45; subst hw26; subst hw23; subst hw18
       exact own_endN X152 hx hr2 (by simp) (hb hby d40_74) (by decide) (by decide) (by rw [eh152]; exact ⟨(0 : Int32), rfl, N152, K139, (Or.inr ⟨rfl, fun h => h.2.2.2.2.2.2.2.2.2.2.2.2.2.1 hc70_153⟩)⟩)
     refine ogo (mkF m 82 #[rv a1, rv b2, iv 6, iv (own_q5 w149 (own_ix (own_lc y13))), iv 7, iv 13, iv (own_lc y13), iv (own_ix (own_lc y13))] []) (fun _ k => sg_rmiv_1 X152 hx hby hc70_153 k) ?_
     obtain ⟨w154, hw154⟩ : ∃ z, z = (own_q5 w149 (own_ix (own_lc y13))) := ⟨_, rfl⟩
     rw [← hw154]
     refine ogo (mkF m 105 #[rv a1, rv b2, iv 7, iv w154, iv 4, iv 13, iv (own_lc y13), iv (own_ix (own_lc y13))] [(.int (((w154.toUInt32 >>> ((4 : Int32) &&& 31).toUInt32).toInt32).toInt8.toInt32)), (.int 6), (.ref b2)]) (fun _ k => sg_rmiv_5 X152 hx hby (by decide) k) ?_
     refine own_basS X152 hx hZ eh152 N152 Zs131 gx25 V131 ⟨by decide, by decide⟩ (Nat.le_of_ble_eq_true rfl) rfl rfl (hb hby d40_105) (fun T155 h155 lo155 X155 e155 N155 W155 Zs155 V155 => ?_)
     refine ogo (mkF m 115 #[rv a1, rv b2, iv 7, iv (own_mk (15 : Int32) w154), iv 4, iv 13, iv (own_lc y13), iv (own_ix (own_lc y13))] []) (fun _ k => sg_rmiv_6 X155 hx hby k) ?_
     obtain ⟨w156, hw156⟩ : ∃ z, z = (own_mk (15 : Int32) w154) := ⟨_, rfl⟩
     rw [← hw156]
     refine ogo (mkF m 36 #[rv a1, rv b2, iv 7, iv w156, iv 4, iv 14, iv (own_lc y13), iv (own_ix (own_lc y13))] [(.int 14), (.ref a1)]) (fun _ k => sg_rmiv_7 X155 hx hby (by decide) k) ?_
     have O158 := O134.wr W155 gx25
     have F159 := F135.wr W155
     have F160 := F136.other W155 (Or.inl nx30)
     have F161 := F137.other W155 (Or.inl nx30)
     have F162 := F138.other W155 nx33
     refine own_virt (W := 0) X155 hx hZ hown e155 (ow hw 44 rfl) (ow hw 45 rfl) (ow hw 47 rfl) (ow hw 46 rfl) (rmca l Z a0 hw [] a1 u1 ku _ (14 : Int32) (23 : Int32) cs fv h155 n0 Zs155 O158 SC hcs SF hfv F159 F160 F161 F162 (by decide) (by decide)) (ow hw 48 rfl) (ow hw 33 rfl) F159 rfl (by rw [hml]; rfl) rfl (hb hby d40_36) (lenOf pd__I_C rfl) rfl (by decide) (fun T157 v157 Ll157 X157 hQ157 => ?_)
     obtain ⟨rfl, N157q, eh157⟩ := hQ157
     have N157 := Fr.app N155 N157q
     refine ogo (mkF m 63 #[rv a1, rv b2, iv 7, iv w156, iv 4, iv 14, iv (own_lc y14), iv (own_ix (own_lc y13))] [(.int (own_lc y14)), (.ref la)]) (fun _ k => sg_rmiv_3 X157 hx hby (by decide) (ldcAgain (s := s) X157 hx hZ hown (ow hw 38 rfl) hLit (g := (mkF m 59 #[rv a1, rv b2, iv 7, iv w156, iv 4, iv 14, iv (own_lc y14), iv (own_ix (own_lc y13))] [])) rfl (hb hby d40_59) _ (XS.iload X157.here hx rfl (hb hby d40_61) rfl k))) ?_
     have F165 := F144.wr W155
     have F166 := F145.other W155 (Or.inl nx38)
     have F167 := F146.other W155 (Or.inl nx38)
     have F168 := F147.other W155 nx41
     refine own_virt (W := 0) X157 hx hZ hown eh157 (ow hw 219 rfl) (ow hw 220 rfl) (ow hw 222 rfl) (ow hw 221 rfl) (rmix l Z a0 hw [] la lb lk (own_lc y14) cs h155 n0 Zs155 O158 SC hcs F165 F166 F167 F168 (own_lcn _) (own_lc8 _)) (ow hw 223 rfl) (ow hw 33 rfl) F165 rfl (by rw [hml]; rfl) rfl (hb hby d40_63) (lenOf pd__I_I rfl) rfl (by decide) (fun T164 v164 Ll164 X164 hQ164 => ?_)
     obtain ⟨rfl, N164q, eh164⟩ := hQ164
     have N164 := Fr.app N157 N164q
     refine ogo (mkF m 70 #[rv a1, rv b2, iv 7, iv w156, iv 4, iv 14, iv (own_lc y14), iv (own_ix (own_lc y14))] [(.int (own_ix (own_lc y14)))]) (fun _ k => sg_rmiv_4 X164 hx hby k) ?_
     have K169 := K139.wr W155 (Or.inr (Nat.le_trans (Nat.le_refl _) (Nat.le_of_eq g2.symm)))
     by_cases hc70_170 : (own_ix (own_lc y14)) < (0 : Int32)
     · skip
       refine ogo (mkF m 74 #[rv a1, rv b2, iv 7, iv w156, iv 4, iv 14, iv (own_lc y14), iv (own_ix (own_lc y14))] [(.int 0)]) (fun _ k => sg_rmiv_0 X164 hx hby hc70_170 k) ?_
       subst hw156; subst hw154; subst hw149; subst hw132; subst hw130; subst hw125; subst hw110; subst hw108; subst hw93; subst hw91; subst hw86; subst hw69; subst hw67; subst hw52; subst hw50; subst hw45; subst hw26; subst hw23; subst hw18
       exact own_endN X164 hx hr2 (by simp) (hb hby d40_74) (by decide) (by decide) (by rw [eh164]; exact ⟨(0 : Int32), rfl, N164, K169, (Or.inr ⟨rfl, fun h => h.2.2.2.2.2.2.2.2.2.2.2.2.2.2.1 hc70_170⟩)⟩)
     refine ogo (mkF m 82 #[rv a1, rv b2, iv 7, iv (own_q5 w156 (own_ix (own_lc y14))), iv 4, iv 14, iv (own_lc y14), iv (own_ix (own_lc y14))] []) (fun _ k => sg_rmiv_1 X164 hx hby hc70_170 k) ?_
     obtain ⟨w171, hw171⟩ : ∃ z, z = (own_q5 w156 (own_ix (own_lc y14))) := ⟨_, rfl⟩
     rw [← hw171]
     refine ogo (mkF m 105 #[rv a1, rv b2, iv 8, iv w171, iv 1, iv 14, iv (own_lc y14), iv (own_ix (own_lc y14))] [(.int (((w171.toUInt32 >>> ((1 : Int32) &&& 31).toUInt32).toInt32).toInt8.toInt32)), (.int 7), (.ref b2)]) (fun _ k => sg_rmiv_5 X164 hx hby (by decide) k) ?_
     refine own_basS X164 hx hZ eh164 N164 Zs155 gx25 V155 ⟨by decide, by decide⟩ (Nat.le_of_ble_eq_true rfl) rfl rfl (hb hby d40_105) (fun T172 h172 lo172 X172 e172 N172 W172 Zs172 V172 => ?_)
     refine ogo (mkF m 115 #[rv a1, rv b2, iv 8, iv (own_mk (1 : Int32) w171), iv 1, iv 14, iv (own_lc y14), iv (own_ix (own_lc y14))] []) (fun _ k => sg_rmiv_6 X172 hx hby k) ?_
     obtain ⟨w173, hw173⟩ : ∃ z, z = (own_mk (1 : Int32) w171) := ⟨_, rfl⟩
     rw [← hw173]
     refine ogo (mkF m 36 #[rv a1, rv b2, iv 8, iv w173, iv 1, iv 15, iv (own_lc y14), iv (own_ix (own_lc y14))] [(.int 15), (.ref a1)]) (fun _ k => sg_rmiv_7 X172 hx hby (by decide) k) ?_
     have O175 := O158.wr W172 gx25
     have F176 := F159.wr W172
     have F177 := F160.other W172 (Or.inl nx30)
     have F178 := F161.other W172 (Or.inl nx30)
     have F179 := F162.other W172 nx33
     refine own_virt (W := 0) X172 hx hZ hown e172 (ow hw 44 rfl) (ow hw 45 rfl) (ow hw 47 rfl) (ow hw 46 rfl) (rmca l Z a0 hw [] a1 u1 ku _ (15 : Int32) (23 : Int32) cs fv h172 n0 Zs172 O175 SC hcs SF hfv F176 F177 F178 F179 (by decide) (by decide)) (ow hw 48 rfl) (ow hw 33 rfl) F176 rfl (by rw [hml]; rfl) rfl (hb hby d40_36) (lenOf pd__I_C rfl) rfl (by decide) (fun T174 v174 Ll174 X174 hQ174 => ?_)
     obtain ⟨rfl, N174q, eh174⟩ := hQ174
     have N174 := Fr.app N172 N174q
     refine ogo (mkF m 63 #[rv a1, rv b2, iv 8, iv w173, iv 1, iv 15, iv (own_lc y15), iv (own_ix (own_lc y14))] [(.int (own_lc y15)), (.ref la)]) (fun _ k => sg_rmiv_3 X174 hx hby (by decide) (ldcAgain (s := s) X174 hx hZ hown (ow hw 38 rfl) hLit (g := (mkF m 59 #[rv a1, rv b2, iv 8, iv w173, iv 1, iv 15, iv (own_lc y15), iv (own_ix (own_lc y14))] [])) rfl (hb hby d40_59) _ (XS.iload X174.here hx rfl (hb hby d40_61) rfl k))) ?_
     have F182 := F165.wr W172
     have F183 := F166.other W172 (Or.inl nx38)
     have F184 := F167.other W172 (Or.inl nx38)
     have F185 := F168.other W172 nx41
     refine own_virt (W := 0) X174 hx hZ hown eh174 (ow hw 219 rfl) (ow hw 220 rfl) (ow hw 222 rfl) (ow hw 221 rfl) (rmix l Z a0 hw [] la lb lk (own_lc y15) cs h172 n0 Zs172 O175 SC hcs F182 F183 F184 F185 (own_lcn _) (own_lc8 _)) (ow hw 223 rfl) (ow hw 33 rfl) F182 rfl (by rw [hml]; rfl) rfl (hb hby d40_63) (lenOf pd__I_I rfl) rfl (by decide) (fun T181 v181 Ll181 X181 hQ181 => ?_)
     obtain ⟨rfl, N181q, eh181⟩ := hQ181
     have N181 := Fr.app N174 N181q
     refine ogo (mkF m 70 #[rv a1, rv b2, iv 8, iv w173, iv 1, iv 15, iv (own_lc y15), iv (own_ix (own_lc y15))] [(.int (own_ix (own_lc y15)))]) (fun _ k => sg_rmiv_4 X181 hx hby k) ?_
     have K186 := K169.wr W172 (Or.inr (Nat.le_trans (Nat.le_refl _) (Nat.le_of_eq g2.symm)))
     by_cases hc70_187 : (own_ix (own_lc y15)) < (0 : Int32)
     · skip
       refine ogo (mkF m 74 #[rv a1, rv b2, iv 8, iv w173, iv 1, iv 15, iv (own_lc y15), iv (own_ix (own_lc y15))] [(.int 0)]) (fun _ k => sg_rmiv_0 X181 hx hby hc70_187 k) ?_
       subst hw173; subst hw171; subst hw156; subst hw154; subst hw149; subst hw132; subst hw130; subst hw125; subst hw110; subst hw108; subst hw93; subst hw91; subst hw86; subst hw69; subst hw67; subst hw52; subst hw50; subst hw45; subst hw26; subst hw23; subst hw18
       exact own_endN X181 hx hr2 (by simp) (hb hby d40_74) (by decide) (by decide) (by rw [eh181]; exact ⟨(0 : Int32), rfl, N181, K186, (Or.inr ⟨rfl, fun h => h.2.2.2.2.2.2.2.2.2.2.2.2.2.2.2.1 hc70_187⟩)⟩)
     refine ogo (mkF m 82 #[rv a1, rv b2, iv 8, iv (own_q5 w173 (own_ix (own_lc y15))), iv 1, iv 15, iv (own_lc y15), iv (own_ix (own_lc y15))] []) (fun _ k => sg_rmiv_1 X181 hx hby hc70_187 k) ?_
     obtain ⟨w188, hw188⟩ : ∃ z, z = (own_q5 w173 (own_ix (own_lc y15))) := ⟨_, rfl⟩
     rw [← hw188]
     refine ogo (mkF m 36 #[rv a1, rv b2, iv 8, iv w188, iv 6, iv 16, iv (own_lc y15), iv (own_ix (own_lc y15))] [(.int 16), (.ref a1)]) (fun _ k => sg_rmiv_2 X181 hx hby (by decide) (by decide) k) ?_
     refine own_virt (W := 0) X181 hx hZ hown eh181 (ow hw 44 rfl) (ow hw 45 rfl) (ow hw 47 rfl) (ow hw 46 rfl) (rmca l Z a0 hw [] a1 u1 ku _ (16 : Int32) (23 : Int32) cs fv h172 n0 Zs172 O175 SC hcs SF hfv F176 F177 F178 F179 (by decide) (by decide)) (ow hw 48 rfl) (ow hw 33 rfl) F176 rfl (by rw [hml]; rfl) rfl (hb hby d40_36) (lenOf pd__I_C rfl) rfl (by decide) (fun T189 v189 Ll189 X189 hQ189 => ?_)
     obtain ⟨rfl, N189q, eh189⟩ := hQ189
     have N189 := Fr.app N181 N189q
     refine ogo (mkF m 63 #[rv a1, rv b2, iv 8, iv w188, iv 6, iv 16, iv (own_lc y16), iv (own_ix (own_lc y15))] [(.int (own_lc y16)), (.ref la)]) (fun _ k => sg_rmiv_3 X189 hx hby (by decide) (ldcAgain (s := s) X189 hx hZ hown (ow hw 38 rfl) hLit (g := (mkF m 59 #[rv a1, rv b2, iv 8, iv w188, iv 6, iv 16, iv (own_lc y16), iv (own_ix (own_lc y15))] [])) rfl (hb hby d40_59) _ (XS.iload X189.here hx rfl (hb hby d40_61) rfl k))) ?_
     refine own_virt (W := 0) X189 hx hZ hown eh189 (ow hw 219 rfl) (ow hw 220 rfl) (ow hw 222 rfl) (ow hw 221 rfl) (rmix l Z a0 hw [] la lb lk (own_lc y16) cs h172 n0 Zs172 O175 SC hcs F182 F183 F184 F185 (own_lcn _) (own_lc8 _)) (ow hw 223 rfl) (ow hw 33 rfl) F182 rfl (by rw [hml]; rfl) rfl (hb hby d40_63) (lenOf pd__I_I rfl) rfl (by decide) (fun T191 v191 Ll191 X191 hQ191 => ?_)
     obtain ⟨rfl, N191q, eh191⟩ := hQ191
     have N191 := Fr.app N189 N191q
     refine ogo (mkF m 70 #[rv a1, rv b2, iv 8, iv w188, iv 6, iv 16, iv (own_lc y16), iv (own_ix (own_lc y16))] [(.int (own_ix (own_lc y16)))]) (fun _ k => sg_rmiv_4 X191 hx hby k) ?_
     by_cases hc70_192 : (own_ix (own_lc y16)) < (0 : Int32)
     · skip
       refine ogo (mkF m 74 #[rv a1, rv b2, iv 8, iv w188, iv 6, iv 16, iv (own_lc y16), iv (own_ix (own_lc y16))] [(.int 0)]) (fun _ k => sg_rmiv_0 X191 hx hby hc70_192 k) ?_
       subst hw188; subst hw173; subst hw171; subst hw156; subst hw154; subst hw149; subst hw132; subst hw130; subst hw125; subst hw110; subst hw108; subst hw93; subst hw91; subst hw86; subst hw69; subst hw67; subst hw52; subst hw50; subst hw45; subst hw26; subst hw23; subst hw18
       exact own_endN X191 hx hr2 (by simp) (hb hby d40_74) (by decide) (by decide) (by rw [eh191]; exact ⟨(0 : Int32), rfl, N191, K186, (Or.inr ⟨rfl, fun h => h.2.2.2.2.2.2.2.2.2.2.2.2.2.2.2.2.1 hc70_192⟩)⟩)
     refine ogo (mkF m 82 #[rv a1, rv b2, iv 8, iv (own_q5 w188 (own_ix (own_lc y16))), iv 6, iv 16, iv (own_lc y16), iv (own_ix (own_lc y16))] []) (fun _ k => sg_rmiv_1 X191 hx hby hc70_192 k) ?_
     obtain ⟨w193, hw193⟩ : ∃ z, z = (own_q5 w188 (own_ix (own_lc y16))) := ⟨_, rfl⟩
     rw [← hw193]
     refine ogo (mkF m 105 #[rv a1, rv b2, iv 9, iv w193, iv 3, iv 16, iv (own_lc y16), iv (own_ix (own_lc y16))] [(.int (((w193.toUInt32 >>> ((3 : Int32) &&& 31).toUInt32).toInt32).toInt8.toInt32)), (.int 8), (.ref b2)]) (fun _ k => sg_rmiv_5 X191 hx hby (by decide) k) ?_
     refine own_basS X191 hx hZ eh191 N191 Zs172 gx25 V172 ⟨by decide, by decide⟩ (Nat.le_of_ble_eq_true rfl) rfl rfl (hb hby d40_105) (fun T194 h194 lo194 X194 e194 N194 W194 Zs194 V194 => ?_)
     refine ogo (mkF m 115 #[rv a1, rv b2, iv 9, iv (own_mk (7 : Int32) w193), iv 3, iv 16, iv (own_lc y16), iv (own_ix (own_lc y16))] []) (fun _ k => sg_rmiv_6 X194 hx hby k) ?_
     obtain ⟨w195, hw195⟩ : ∃ z, z = (own_mk (7 : Int32) w193) := ⟨_, rfl⟩
     rw [← hw195]
     refine ogo (mkF m 36 #[rv a1, rv b2, iv 9, iv w195, iv 3, iv 17, iv (own_lc y16), iv (own_ix (own_lc y16))] [(.int 17), (.ref a1)]) (fun _ k => sg_rmiv_7 X194 hx hby (by decide) k) ?_
     have O197 := O175.wr W194 gx25
     have F198 := F176.wr W194
     have F199 := F177.other W194 (Or.inl nx30)
     have F200 := F178.other W194 (Or.inl nx30)
     have F201 := F179.other W194 nx33
     refine own_virt (W := 0) X194 hx hZ hown e194 (ow hw 44 rfl) (ow hw 45 rfl) (ow hw 47 rfl) (ow hw 46 rfl) (rmca l Z a0 hw [] a1 u1 ku _ (17 : Int32) (23 : Int32) cs fv h194 n0 Zs194 O197 SC hcs SF hfv F198 F199 F200 F201 (by decide) (by decide)) (ow hw 48 rfl) (ow hw 33 rfl) F198 rfl (by rw [hml]; rfl) rfl (hb hby d40_36) (lenOf pd__I_C rfl) rfl (by decide) (fun T196 v196 Ll196 X196 hQ196 => ?_)
     obtain ⟨rfl, N196q, eh196⟩ := hQ196
     have N196 := Fr.app N194 N196q
     refine ogo (mkF m 54 #[rv a1, rv b2, iv 9, iv w195, iv 3, iv 17, iv (own_lc y17), iv (own_ix (own_lc y16))] [(.int 45), (.int (own_lc y17))]) (fun _ k => sg_rmiv_8 X196 hx hby (rfl : (5 : Int32) = (5 : Int32)) k) ?_
     have K202 := K186.wr W194 (Or.inr (Nat.le_trans (Nat.le_refl _) (Nat.le_of_eq g2.symm)))
     by_cases hc54_203 : (own_lc y17) = (45 : Int32)
     · skip
       refine ogo (mkF m 36 #[rv a1, rv b2, iv 9, iv w195, iv 3, iv 18, iv (own_lc y17), iv (own_ix (own_lc y16))] [(.int 18), (.ref a1)]) (fun _ k => sg_rmiv_9 X196 hx hby hc54_203 (by decide) k) ?_
       refine own_virt (W := 0) X196 hx hZ hown eh196 (ow hw 44 rfl) (ow hw 45 rfl) (ow hw 47 rfl) (ow hw 46 rfl) (rmca l Z a0 hw [] a1 u1 ku _ (18 : Int32) (23 : Int32) cs fv h194 n0 Zs194 O197 SC hcs SF hfv F198 F199 F200 F201 (by decide) (by decide)) (ow hw 48 rfl) (ow hw 33 rfl) F198 rfl (by rw [hml]; rfl) rfl (hb hby d40_36) (lenOf pd__I_C rfl) rfl (by decide) (fun T204 v204 Ll204 X204 hQ204 => ?_)
       obtain ⟨rfl, N204q, eh204⟩ := hQ204
       have N204 := Fr.app N196 N204q
       refine ogo (mkF m 63 #[rv a1, rv b2, iv 9, iv w195, iv 3, iv 18, iv (own_lc y18), iv (own_ix (own_lc y16))] [(.int (own_lc y18)), (.ref la)]) (fun _ k => sg_rmiv_3 X204 hx hby (by decide) (ldcAgain (s := s) X204 hx hZ hown (ow hw 38 rfl) hLit (g := (mkF m 59 #[rv a1, rv b2, iv 9, iv w195, iv 3, iv 18, iv (own_lc y18), iv (own_ix (own_lc y16))] [])) rfl (hb hby d40_59) _ (XS.iload X204.here hx rfl (hb hby d40_61) rfl k))) ?_
       have F207 := F182.wr W194
       have F208 := F183.other W194 (Or.inl nx38)
       have F209 := F184.other W194 (Or.inl nx38)
       have F210 := F185.other W194 nx41
       refine own_virt (W := 0) X204 hx hZ hown eh204 (ow hw 219 rfl) (ow hw 220 rfl) (ow hw 222 rfl) (ow hw 221 rfl) (rmix l Z a0 hw [] la lb lk (own_lc y18) cs h194 n0 Zs194 O197 SC hcs F207 F208 F209 F210 (own_lcn _) (own_lc8 _)) (ow hw 223 rfl) (ow hw 33 rfl) F207 rfl (by rw [hml]; rfl) rfl (hb hby d40_63) (lenOf pd__I_I rfl) rfl (by decide) (fun T206 v206 Ll206 X206 hQ206 => ?_)
       obtain ⟨rfl, N206q, eh206⟩ := hQ206
       have N206 := Fr.app N204 N206q
       refine ogo (mkF m 70 #[rv a1, rv b2, iv 9, iv w195, iv 3, iv 18, iv (own_lc y18), iv (own_ix (own_lc y18))] [(.int (own_ix (own_lc y18)))]) (fun _ k => sg_rmiv_4 X206 hx hby k) ?_
       by_cases hc70_211 : (own_ix (own_lc y18)) < (0 : Int32)
       · skip
         refine ogo (mkF m 74 #[rv a1, rv b2, iv 9, iv w195, iv 3, iv 18, iv (own_lc y18), iv (own_ix (own_lc y18))] [(.int 0)]) (fun _ k => sg_rmiv_0 X206 hx hby hc70_211 k) ?_
         subst hw195; subst hw193; subst hw188; subst hw173; subst hw171; subst hw156; subst hw154; subst hw149; subst hw132; subst hw130; subst hw125; subst hw110; subst hw108; subst hw93; subst hw91; subst hw86; subst hw69; subst hw67; subst hw52; subst hw50; subst hw45; subst hw26; subst hw23; subst hw18
         exact own_endN X206 hx hr2 (by simp) (hb hby d40_74) (by decide) (by decide) (by rw [eh206]; exact ⟨(0 : Int32), rfl, N206, K202, (Or.inr ⟨rfl, fun h => h.2.2.2.2.2.2.2.2.2.2.2.2.2.2.2.2.2.2.1 hc70_211⟩)⟩)
       refine ogo (mkF m 82 #[rv a1, rv b2, iv 9, iv (own_q5 w195 (own_ix (own_lc y18))), iv 3, iv 18, iv (own_lc y18), iv (own_ix (own_lc y18))] []) (fun _ k => sg_rmiv_1 X206 hx hby hc70_211 k) ?_
       obtain ⟨w212, hw212⟩ : ∃ z, z = (own_q5 w195 (own_ix (own_lc y18))) := ⟨_, rfl⟩
       rw [← hw212]
       refine ogo (mkF m 105 #[rv a1, rv b2, iv 10, iv w212, iv 0, iv 18, iv (own_lc y18), iv (own_ix (own_lc y18))] [(.int (((w212.toUInt32 >>> ((0 : Int32) &&& 31).toUInt32).toInt32).toInt8.toInt32)), (.int 9), (.ref b2)]) (fun _ k => sg_rmiv_5 X206 hx hby (by decide) k) ?_
       refine own_basS X206 hx hZ eh206 N206 Zs194 gx25 V194 ⟨by decide, by decide⟩ (Nat.le_of_ble_eq_true rfl) rfl rfl (hb hby d40_105) (fun T213 h213 lo213 X213 e213 N213 W213 Zs213 V213 => ?_)
       refine ogo (mkF m 115 #[rv a1, rv b2, iv 10, iv (own_mk (0 : Int32) w212), iv 0, iv 18, iv (own_lc y18), iv (own_ix (own_lc y18))] []) (fun _ k => sg_rmiv_6 X213 hx hby k) ?_
       obtain ⟨w214, hw214⟩ : ∃ z, z = (own_mk (0 : Int32) w212) := ⟨_, rfl⟩
       rw [← hw214]
       refine ogo (mkF m 36 #[rv a1, rv b2, iv 10, iv w214, iv 0, iv 19, iv (own_lc y18), iv (own_ix (own_lc y18))] [(.int 19), (.ref a1)]) (fun _ k => sg_rmiv_7 X213 hx hby (by decide) k) ?_
       have O216 := O197.wr W213 gx25
       have F217 := F198.wr W213
       have F218 := F199.other W213 (Or.inl nx30)
       have F219 := F200.other W213 (Or.inl nx30)
       have F220 := F201.other W213 nx33
       refine own_virt (W := 0) X213 hx hZ hown e213 (ow hw 44 rfl) (ow hw 45 rfl) (ow hw 47 rfl) (ow hw 46 rfl) (rmca l Z a0 hw [] a1 u1 ku _ (19 : Int32) (23 : Int32) cs fv h213 n0 Zs213 O216 SC hcs SF hfv F217 F218 F219 F220 (by decide) (by decide)) (ow hw 48 rfl) (ow hw 33 rfl) F217 rfl (by rw [hml]; rfl) rfl (hb hby d40_36) (lenOf pd__I_C rfl) rfl (by decide) (fun T215 v215 Ll215 X215 hQ215 => ?_)
       obtain ⟨rfl, N215q, eh215⟩ := hQ215
       have N215 := Fr.app N213 N215q
       refine ogo (mkF m 63 #[rv a1, rv b2, iv 10, iv w214, iv 0, iv 19, iv (own_lc y19), iv (own_ix (own_lc y18))] [(.int (own_lc y19)), (.ref la)]) (fun _ k => sg_rmiv_3 X215 hx hby (by decide) (ldcAgain (s := s) X215 hx hZ hown (ow hw 38 rfl) hLit (g := (mkF m 59 #[rv a1, rv b2, iv 10, iv w214, iv 0, iv 19, iv (own_lc y19), iv (own_ix (own_lc y18))] [])) rfl (hb hby d40_59) _ (XS.iload X215.here hx rfl (hb hby d40_61) rfl k))) ?_
       have F223 := F207.wr W213
       have F224 := F208.other W213 (Or.inl nx38)
       have F225 := F209.other W213 (Or.inl nx38)
       have F226 := F210.other W213 nx41
       refine own_virt (W := 0) X215 hx hZ hown eh215 (ow hw 219 rfl) (ow hw 220 rfl) (ow hw 222 rfl) (ow hw 221 rfl) (rmix l Z a0 hw [] la lb lk (own_lc y19) cs h213 n0 Zs213 O216 SC hcs F223 F224 F225 F226 (own_lcn _) (own_lc8 _)) (ow hw 223 rfl) (ow hw 33 rfl) F223 rfl (by rw [hml]; rfl) rfl (hb hby d40_63) (lenOf pd__I_I rfl) rfl (by decide) (fun T222 v222 Ll222 X222 hQ222 => ?_)
       obtain ⟨rfl, N222q, eh222⟩ := hQ222
       have N222 := Fr.app N215 N222q
       refine ogo (mkF m 70 #[rv a1, rv b2, iv 10, iv w214, iv 0, iv 19, iv (own_lc y19), iv (own_ix (own_lc y19))] [(.int (own_ix (own_lc y19)))]) (fun _ k => sg_rmiv_4 X222 hx hby k) ?_
       have K227 := K202.wr W213 (Or.inr (Nat.le_trans (Nat.le_refl _) (Nat.le_of_eq g2.symm)))
       by_cases hc70_228 : (own_ix (own_lc y19)) < (0 : Int32)
       · skip
         refine ogo (mkF m 74 #[rv a1, rv b2, iv 10, iv w214, iv 0, iv 19, iv (own_lc y19), iv (own_ix (own_lc y19))] [(.int 0)]) (fun _ k => sg_rmiv_0 X222 hx hby hc70_228 k) ?_
         subst hw214; subst hw212; subst hw195; subst hw193; subst hw188; subst hw173; subst hw171; subst hw156; subst hw154; subst hw149; subst hw132; subst hw130; subst hw125; subst hw110; subst hw108; subst hw93; subst hw91; subst hw86; subst hw69; subst hw67; subst hw52; subst hw50; subst hw45; subst hw26; subst hw23; subst hw18
         exact own_endN X222 hx hr2 (by simp) (hb hby d40_74) (by decide) (by decide) (by rw [eh222]; exact ⟨(0 : Int32), rfl, N222, K227, (Or.inr ⟨rfl, fun h => h.2.2.2.2.2.2.2.2.2.2.2.2.2.2.2.2.2.2.2.1 hc70_228⟩)⟩)
       refine ogo (mkF m 82 #[rv a1, rv b2, iv 10, iv (own_q5 w214 (own_ix (own_lc y19))), iv 0, iv 19, iv (own_lc y19), iv (own_ix (own_lc y19))] []) (fun _ k => sg_rmiv_1 X222 hx hby hc70_228 k) ?_
       obtain ⟨w229, hw229⟩ : ∃ z, z = (own_q5 w214 (own_ix (own_lc y19))) := ⟨_, rfl⟩
       rw [← hw229]
       refine ogo (mkF m 36 #[rv a1, rv b2, iv 10, iv w229, iv 5, iv 20, iv (own_lc y19), iv (own_ix (own_lc y19))] [(.int 20), (.ref a1)]) (fun _ k => sg_rmiv_2 X222 hx hby (by decide) (by decide) k) ?_
       refine own_virt (W := 0) X222 hx hZ hown eh222 (ow hw 44 rfl) (ow hw 45 rfl) (ow hw 47 rfl) (ow hw 46 rfl) (rmca l Z a0 hw [] a1 u1 ku _ (20 : Int32) (23 : Int32) cs fv h213 n0 Zs213 O216 SC hcs SF hfv F217 F218 F219 F220 (by decide) (by decide)) (ow hw 48 rfl) (ow hw 33 rfl) F217 rfl (by rw [hml]; rfl) rfl (hb hby d40_36) (lenOf pd__I_C rfl) rfl (by decide) (fun T230 v230 Ll230 X230 hQ230 => ?_)
       obtain ⟨rfl, N230q, eh230⟩ := hQ230
       have N230 := Fr.app N222 N230q
       refine ogo (mkF m 63 #[rv a1, rv b2, iv 10, iv w229, iv 5, iv 20, iv (own_lc y20), iv (own_ix (own_lc y19))] [(.int (own_lc y20)), (.ref la)]) (fun _ k => sg_rmiv_3 X230 hx hby (by decide) (ldcAgain (s := s) X230 hx hZ hown (ow hw 38 rfl) hLit (g := (mkF m 59 #[rv a1, rv b2, iv 10, iv w229, iv 5, iv 20, iv (own_lc y20), iv (own_ix (own_lc y19))] [])) rfl (hb hby d40_59) _ (XS.iload X230.here hx rfl (hb hby d40_61) rfl k))) ?_
       refine own_virt (W := 0) X230 hx hZ hown eh230 (ow hw 219 rfl) (ow hw 220 rfl) (ow hw 222 rfl) (ow hw 221 rfl) (rmix l Z a0 hw [] la lb lk (own_lc y20) cs h213 n0 Zs213 O216 SC hcs F223 F224 F225 F226 (own_lcn _) (own_lc8 _)) (ow hw 223 rfl) (ow hw 33 rfl) F223 rfl (by rw [hml]; rfl) rfl (hb hby d40_63) (lenOf pd__I_I rfl) rfl (by decide) (fun T232 v232 Ll232 X232 hQ232 => ?_)
       obtain ⟨rfl, N232q, eh232⟩ := hQ232
       have N232 := Fr.app N230 N232q
       refine ogo (mkF m 70 #[rv a1, rv b2, iv 10, iv w229, iv 5, iv 20, iv (own_lc y20), iv (own_ix (own_lc y20))] [(.int (own_ix (own_lc y20)))]) (fun _ k => sg_rmiv_4 X232 hx hby k) ?_
       by_cases hc70_233 : (own_ix (own_lc y20)) < (0 : Int32)
       · skip
         refine ogo (mkF m 74 #[rv a1, rv b2, iv 10, iv w229, iv 5, iv 20, iv (own_lc y20), iv (own_ix (own_lc y20))] [(.int 0)]) (fun _ k => sg_rmiv_0 X232 hx hby hc70_233 k) ?_
         subst hw229; subst hw214; subst hw212; subst hw195; subst hw193; subst hw188; subst hw173; subst hw171; subst hw156; subst hw154; subst hw149; subst hw132; subst hw130; subst hw125; subst hw110; subst hw108; subst hw93; subst hw91; subst hw86; subst hw69; subst hw67; subst hw52; subst hw50; subst hw45; subst hw26; subst hw23; subst hw18
         exact own_endN X232 hx hr2 (by simp) (hb hby d40_74) (by decide) (by decide) (by rw [eh232]; exact ⟨(0 : Int32), rfl, N232, K227, (Or.inr ⟨rfl, fun h => h.2.2.2.2.2.2.2.2.2.2.2.2.2.2.2.2.2.2.2.2.1 hc70_233⟩)⟩)
       refine ogo (mkF m 82 #[rv a1, rv b2, iv 10, iv (own_q5 w229 (own_ix (own_lc y20))), iv 5, iv 20, iv (own_lc y20), iv (own_ix (own_lc y20))] []) (fun _ k => sg_rmiv_1 X232 hx hby hc70_233 k) ?_
       obtain ⟨w234, hw234⟩ : ∃ z, z = (own_q5 w229 (own_ix (own_lc y20))) := ⟨_, rfl⟩
       rw [← hw234]
       refine ogo (mkF m 105 #[rv a1, rv b2, iv 11, iv w234, iv 2, iv 20, iv (own_lc y20), iv (own_ix (own_lc y20))] [(.int (((w234.toUInt32 >>> ((2 : Int32) &&& 31).toUInt32).toInt32).toInt8.toInt32)), (.int 10), (.ref b2)]) (fun _ k => sg_rmiv_5 X232 hx hby (by decide) k) ?_
       refine own_basS X232 hx hZ eh232 N232 Zs213 gx25 V213 ⟨by decide, by decide⟩ (Nat.le_of_ble_eq_true rfl) rfl rfl (hb hby d40_105) (fun T235 h235 lo235 X235 e235 N235 W235 Zs235 V235 => ?_)
       refine ogo (mkF m 115 #[rv a1, rv b2, iv 11, iv (own_mk (3 : Int32) w234), iv 2, iv 20, iv (own_lc y20), iv (own_ix (own_lc y20))] []) (fun _ k => sg_rmiv_6 X235 hx hby k) ?_
       obtain ⟨w236, hw236⟩ : ∃ z, z = (own_mk (3 : Int32) w234) := ⟨_, rfl⟩
       rw [← hw236]
       refine ogo (mkF m 36 #[rv a1, rv b2, iv 11, iv w236, iv 2, iv 21, iv (own_lc y20), iv (own_ix (own_lc y20))] [(.int 21), (.ref a1)]) (fun _ k => sg_rmiv_7 X235 hx hby (by decide) k) ?_
       have O238 := O216.wr W235 gx25
       have F239 := F217.wr W235
       have F240 := F218.other W235 (Or.inl nx30)
       have F241 := F219.other W235 (Or.inl nx30)
       have F242 := F220.other W235 nx33
       refine own_virt (W := 0) X235 hx hZ hown e235 (ow hw 44 rfl) (ow hw 45 rfl) (ow hw 47 rfl) (ow hw 46 rfl) (rmca l Z a0 hw [] a1 u1 ku _ (21 : Int32) (23 : Int32) cs fv h235 n0 Zs235 O238 SC hcs SF hfv F239 F240 F241 F242 (by decide) (by decide)) (ow hw 48 rfl) (ow hw 33 rfl) F239 rfl (by rw [hml]; rfl) rfl (hb hby d40_36) (lenOf pd__I_C rfl) rfl (by decide) (fun T237 v237 Ll237 X237 hQ237 => ?_)
       obtain ⟨rfl, N237q, eh237⟩ := hQ237
       have N237 := Fr.app N235 N237q
       refine ogo (mkF m 63 #[rv a1, rv b2, iv 11, iv w236, iv 2, iv 21, iv (own_lc y21), iv (own_ix (own_lc y20))] [(.int (own_lc y21)), (.ref la)]) (fun _ k => sg_rmiv_3 X237 hx hby (by decide) (ldcAgain (s := s) X237 hx hZ hown (ow hw 38 rfl) hLit (g := (mkF m 59 #[rv a1, rv b2, iv 11, iv w236, iv 2, iv 21, iv (own_lc y21), iv (own_ix (own_lc y20))] [])) rfl (hb hby d40_59) _ (XS.iload X237.here hx rfl (hb hby d40_61) rfl k))) ?_
       have F245 := F223.wr W235
       have F246 := F224.other W235 (Or.inl nx38)
       have F247 := F225.other W235 (Or.inl nx38)
       have F248 := F226.other W235 nx41
       refine own_virt (W := 0) X237 hx hZ hown eh237 (ow hw 219 rfl) (ow hw 220 rfl) (ow hw 222 rfl) (ow hw 221 rfl) (rmix l Z a0 hw [] la lb lk (own_lc y21) cs h235 n0 Zs235 O238 SC hcs F245 F246 F247 F248 (own_lcn _) (own_lc8 _)) (ow hw 223 rfl) (ow hw 33 rfl) F245 rfl (by rw [hml]; rfl) rfl (hb hby d40_63) (lenOf pd__I_I rfl) rfl (by decide) (fun T244 v244 Ll244 X244 hQ244 => ?_)
       obtain ⟨rfl, N244q, eh244⟩ := hQ244
       have N244 := Fr.app N237 N244q
       refine ogo (mkF m 70 #[rv a1, rv b2, iv 11, iv w236, iv 2, iv 21, iv (own_lc y21), iv (own_ix (own_lc y21))] [(.int (own_ix (own_lc y21)))]) (fun _ k => sg_rmiv_4 X244 hx hby k) ?_
       have K249 := K227.wr W235 (Or.inr (Nat.le_trans (Nat.le_refl _) (Nat.le_of_eq g2.symm)))
       by_cases hc70_250 : (own_ix (own_lc y21)) < (0 : Int32)
       · skip
         refine ogo (mkF m 74 #[rv a1, rv b2, iv 11, iv w236, iv 2, iv 21, iv (own_lc y21), iv (own_ix (own_lc y21))] [(.int 0)]) (fun _ k => sg_rmiv_0 X244 hx hby hc70_250 k) ?_
         subst hw236; subst hw234; subst hw229; subst hw214; subst hw212; subst hw195; subst hw193; subst hw188; subst hw173; subst hw171; subst hw156; subst hw154; subst hw149; subst hw132; subst hw130; subst hw125; subst hw110; subst hw108; subst hw93; subst hw91; subst hw86; subst hw69; subst hw67; subst hw52; subst hw50; subst hw45; subst hw26; subst hw23; subst hw18
         exact own_endN X244 hx hr2 (by simp) (hb hby d40_74) (by decide) (by decide) (by rw [eh244]; exact ⟨(0 : Int32), rfl, N244, K249, (Or.inr ⟨rfl, fun h => h.2.2.2.2.2.2.2.2.2.2.2.2.2.2.2.2.2.2.2.2.2.1 hc70_250⟩)⟩)
       refine ogo (mkF m 82 #[rv a1, rv b2, iv 11, iv (own_q5 w236 (own_ix (own_lc y21))), iv 2, iv 21, iv (own_lc y21), iv (own_ix (own_lc y21))] []) (fun _ k => sg_rmiv_1 X244 hx hby hc70_250 k) ?_
       obtain ⟨w251, hw251⟩ : ∃ z, z = (own_q5 w236 (own_ix (own_lc y21))) := ⟨_, rfl⟩
       rw [← hw251]
       refine ogo (mkF m 36 #[rv a1, rv b2, iv 11, iv w251, iv 7, iv 22, iv (own_lc y21), iv (own_ix (own_lc y21))] [(.int 22), (.ref a1)]) (fun _ k => sg_rmiv_2 X244 hx hby (by decide) (by decide) k) ?_
       refine own_virt (W := 0) X244 hx hZ hown eh244 (ow hw 44 rfl) (ow hw 45 rfl) (ow hw 47 rfl) (ow hw 46 rfl) (rmca l Z a0 hw [] a1 u1 ku _ (22 : Int32) (23 : Int32) cs fv h235 n0 Zs235 O238 SC hcs SF hfv F239 F240 F241 F242 (by decide) (by decide)) (ow hw 48 rfl) (ow hw 33 rfl) F239 rfl (by rw [hml]; rfl) rfl (hb hby d40_36) (lenOf pd__I_C rfl) rfl (by decide) (fun T252 v252 Ll252 X252 hQ252 => ?_)
       obtain ⟨rfl, N252q, eh252⟩ := hQ252
       have N252 := Fr.app N244 N252q
       refine ogo (mkF m 63 #[rv a1, rv b2, iv 11, iv w251, iv 7, iv 22, iv (own_lc y22), iv (own_ix (own_lc y21))] [(.int (own_lc y22)), (.ref la)]) (fun _ k => sg_rmiv_3 X252 hx hby (by decide) (ldcAgain (s := s) X252 hx hZ hown (ow hw 38 rfl) hLit (g := (mkF m 59 #[rv a1, rv b2, iv 11, iv w251, iv 7, iv 22, iv (own_lc y22), iv (own_ix (own_lc y21))] [])) rfl (hb hby d40_59) _ (XS.iload X252.here hx rfl (hb hby d40_61) rfl k))) ?_
       refine own_virt (W := 0) X252 hx hZ hown eh252 (ow hw 219 rfl) (ow hw 220 rfl) (ow hw 222 rfl) (ow hw 221 rfl) (rmix l Z a0 hw [] la lb lk (own_lc y22) cs h235 n0 Zs235 O238 SC hcs F245 F246 F247 F248 (own_lcn _) (own_lc8 _)) (ow hw 223 rfl) (ow hw 33 rfl) F245 rfl (by rw [hml]; rfl) rfl (hb hby d40_63) (lenOf pd__I_I rfl) rfl (by decide) (fun T254 v254 Ll254 X254 hQ254 => ?_)
       obtain ⟨rfl, N254q, eh254⟩ := hQ254
       have N254 := Fr.app N252 N254q
       refine ogo (mkF m 70 #[rv a1, rv b2, iv 11, iv w251, iv 7, iv 22, iv (own_lc y22), iv (own_ix (own_lc y22))] [(.int (own_ix (own_lc y22)))]) (fun _ k => sg_rmiv_4 X254 hx hby k) ?_
       by_cases hc70_255 : (own_ix (own_lc y22)) < (0 : Int32)
       · skip
         refine ogo (mkF m 74 #[rv a1, rv b2, iv 11, iv w251, iv 7, iv 22, iv (own_lc y22), iv (own_ix (own_lc y22))] [(.int 0)]) (fun _ k => sg_rmiv_0 X254 hx hby hc70_255 k) ?_
         subst hw251; subst hw236; subst hw234; subst hw229; subst hw214; subst hw212; subst hw195; subst hw193; subst hw188; subst hw173; subst hw171; subst hw156; subst hw154; subst hw149; subst hw132; subst hw130; subst hw125; subst hw110; subst hw108; subst hw93; subst hw91; subst hw86; subst hw69; subst hw67; subst hw52; subst hw50; subst hw45; subst hw26; subst hw23; subst hw18
         exact own_endN X254 hx hr2 (by simp) (hb hby d40_74) (by decide) (by decide) (by rw [eh254]; exact ⟨(0 : Int32), rfl, N254, K249, (Or.inr ⟨rfl, fun h => h.2.2.2.2.2.2.2.2.2.2.2.2.2.2.2.2.2.2.2.2.2.2.1 hc70_255⟩)⟩)
       refine ogo (mkF m 82 #[rv a1, rv b2, iv 11, iv (own_q5 w251 (own_ix (own_lc y22))), iv 7, iv 22, iv (own_lc y22), iv (own_ix (own_lc y22))] []) (fun _ k => sg_rmiv_1 X254 hx hby hc70_255 k) ?_
       obtain ⟨w256, hw256⟩ : ∃ z, z = (own_q5 w251 (own_ix (own_lc y22))) := ⟨_, rfl⟩
       rw [← hw256]
       refine ogo (mkF m 105 #[rv a1, rv b2, iv 12, iv w256, iv 4, iv 22, iv (own_lc y22), iv (own_ix (own_lc y22))] [(.int (((w256.toUInt32 >>> ((4 : Int32) &&& 31).toUInt32).toInt32).toInt8.toInt32)), (.int 11), (.ref b2)]) (fun _ k => sg_rmiv_5 X254 hx hby (by decide) k) ?_
       refine own_basS X254 hx hZ eh254 N254 Zs235 gx25 V235 ⟨by decide, by decide⟩ (Nat.le_of_ble_eq_true rfl) rfl rfl (hb hby d40_105) (fun T257 h257 lo257 X257 e257 N257 W257 Zs257 V257 => ?_)
       refine ogo (mkF m 115 #[rv a1, rv b2, iv 12, iv (own_mk (15 : Int32) w256), iv 4, iv 22, iv (own_lc y22), iv (own_ix (own_lc y22))] []) (fun _ k => sg_rmiv_6 X257 hx hby k) ?_
       obtain ⟨w258, hw258⟩ : ∃ z, z = (own_mk (15 : Int32) w256) := ⟨_, rfl⟩
       rw [← hw258]
       refine ogo (mkF m 122 #[rv a1, rv b2, iv 12, iv w258, iv 4, iv 23, iv (own_lc y22), iv (own_ix (own_lc y22))] [(.int w258)]) (fun _ k => XS.iinc X257.here hx rfl (hb hby d40_115) rfl (l' := #[rv a1, rv b2, iv 12, iv w258, iv 4, iv 23, iv (own_lc y22), iv (own_ix (own_lc y22))]) rfl (XS.goto X257.here hx rfl (pc0 := 118) (pc' := 26) rfl (hb hby d40_118) (by decide) (by decide) (XS.iload X257.here hx rfl (hb hby d40_26) rfl (XS.bipush X257.here hx rfl (hb hby d40_28) (XS.icmpYes X257.here hx rfl (pc0 := 30) (pc' := 121) rfl (hb hby d40_30) rfl (flt (by decide : ¬ ((23 : Int32) < (23 : Int32)))).2.1 (by decide) (by decide) (XS.iloadN X257.here hx rfl (hb hby d40_121) rfl k)))))) ?_
       have K259 := K249.wr W257 (Or.inr (Nat.le_trans (Nat.le_refl _) (Nat.le_of_eq g2.symm)))
       by_cases hc122_260 : w258 = (0 : Int32)
       · skip
         refine ogo (mkF m 129 #[rv a1, rv b2, iv 12, iv w258, iv 4, iv 23, iv (own_lc y22), iv (own_ix (own_lc y22))] [(.int 10)]) (fun _ k => XS.ifYes X257.here hx rfl (pc0 := 122) (pc' := 127) rfl (hb hby d40_122) rfl ((if0 _ _).trans (teq hc122_260).1) (by decide) (by decide) (XS.bipush X257.here hx rfl (hb hby d40_127) k)) ?_
         obtain ⟨T261, h261, kl261, X261, e261, E261, A261, st261⟩ := newP X257 hx hZ (ow hw 0 rfl) e257 (g := (mkF m 129 #[rv a1, rv b2, iv 12, iv w258, iv 4, iv 23, iv (own_lc y22), iv (own_ix (own_lc y22))] [(.int 10)])) rfl (hb hby d40_129) rfl (by decide) (cap := 10) (by decide) (by decide) (by decide) (by decide)
         obtain ⟨b261, g261⟩ : ∃ z, z = h257.size := ⟨_, rfl⟩
         rw [← g261] at A261 st261
         have Zs262 : n0 ≤ h261.size := Nat.le_trans Zs257 E261.1
         have V261 : Arv Z h261 b261 kl261 .byte (10 : Int32) [(.int 0), (.int 0), (.int 0), (.int 0), (.int 0), (.int 0), (.int 0), (.int 0), (.int 0), (.int 0)] (.int 0) := (Arv.new A261 (by decide)).pad (pad_rep [] (.int 0) 10)
         refine ogo (mkF m 140 #[rv a1, rv b2, iv 12, iv w258, iv 4, rv b261, iv (own_lc y22), iv (own_ix (own_lc y22))] [(.int 10), (.int 0), (.ref b261), (.int 0), (.ref b2)]) (fun _ k => st261 _ (XS.astore X261.here hx rfl (hb hby d40_131) rfl rfl (l' := #[rv a1, rv b2, iv 12, iv w258, iv 4, rv b261, iv (own_lc y22), iv (own_ix (own_lc y22))]) rfl (XS.aloadN X261.here hx rfl (hb hby d40_133) rfl rfl (XS.iconst X261.here hx rfl (hb hby d40_134) (XS.aload X261.here hx rfl (hb hby d40_135) rfl rfl (XS.iconst X261.here hx rfl (hb hby d40_137) (XS.bipush X261.here hx rfl (hb hby d40_138) k))))))) ?_
         have F264 := V257.ext E261
         have gx265 : n0 ≤ b261 := Nat.le_trans Zs257 (Nat.le_of_eq g261.symm)
         obtain ⟨T263, h263, L263, X263, e263, N263, K263, V263, st263⟩ := cpA X261 hx hZ hown (ow hw 6 rfl) (ow hw 9 rfl) (ow hw 7 rfl) (ow hw 8 rfl) e261 (us := [(.int (own_y (2 : Int32) w23)), (.int (own_y (4 : Int32) w50)), (.int (own_y (1 : Int32) w67)), (.int (own_y (3 : Int32) w91)), (.int (own_y (0 : Int32) w108)), (.int (own_y (2 : Int32) w130)), (.int (own_y (4 : Int32) w154)), (.int (own_y (1 : Int32) w171)), (.int (own_y (3 : Int32) w193)), (.int (own_y (0 : Int32) w212))]) F264 V261 (Or.inl ⟨rfl, rfl⟩) (by decide) (by decide) (by decide) (by decide) (by decide) rfl (by decide) N257 gx265 (g := (mkF m 140 #[rv a1, rv b2, iv 12, iv w258, iv 4, rv b261, iv (own_lc y22), iv (own_ix (own_lc y22))] [(.int 10), (.int 0), (.ref b261), (.int 0), (.ref b2)])) rfl (by rw [hml]; rfl) rfl (hb hby d40_140) (by decide) (W := 0) (by show 2 * 0 + _ ≤ _; exact Nat.le_of_eq rfl) (by decide)
         have Zs266 : n0 ≤ h263.size := Nat.le_trans Zs262 K263.1
         have V263c : Arv Z h263 b261 kl261 .byte (10 : Int32) [(.int (own_y (2 : Int32) w23)), (.int (own_y (4 : Int32) w50)), (.int (own_y (1 : Int32) w67)), (.int (own_y (3 : Int32) w91)), (.int (own_y (0 : Int32) w108)), (.int (own_y (2 : Int32) w130)), (.int (own_y (4 : Int32) w154)), (.int (own_y (1 : Int32) w171)), (.int (own_y (3 : Int32) w193)), (.int (own_y (0 : Int32) w212))] (.int 0) := V263
         refine ogo (mkF m 146 #[rv a1, rv b2, iv 12, iv w258, iv 4, rv b261, iv (own_lc y22), iv (own_ix (own_lc y22))] [(.int 10), (.ref b2)]) (fun _ k => st263 _ (XS.aloadN X263.here hx rfl (hb hby d40_143) rfl rfl (XS.bipush X263.here hx rfl (hb hby d40_144) k))) ?_
         have nx268 : b2 ≠ b261 := (own_ne V2.lt (own_tr (own_tr (own_tr (own_tr (own_tr (own_tr (own_tr (own_tr (own_tr (own_tr (own_tr (Keep.of_wr W24).1 (Keep.of_wr W51).1) (Keep.of_wr W68).1) (Keep.of_wr W92).1) (Keep.of_wr W109).1) (Keep.of_wr W131).1) (Keep.of_wr W155).1) (Keep.of_wr W172).1) (Keep.of_wr W194).1) (Keep.of_wr W213).1) (Keep.of_wr W235).1) (Keep.of_wr W257).1) (Nat.le_of_eq g261.symm))
         have F269 := F264.keep K263 (ninS nx268 nin0)
         refine own_bal (x := (own_y (2 : Int32) w234)) X263 hx hZ e263 F269 ⟨by decide, by decide⟩ rfl rfl rfl (hb hby d40_146) ?_
         refine ogo (mkF m 157 #[rv a1, rv b2, iv 12, iv w258, iv 4, rv b261, iv (own_lc y22), iv (own_ix (own_lc y22))] [(.int 11), (.ref b2), (.int (((own_y (2 : Int32) w234) &&& (255 : Int32)) <<< ((8 : Int32) &&& 31)))]) (fun _ k => XS.sipush X263.here hx rfl (hb hby d40_147) (XS.iand X263.here hx rfl (hb hby d40_150) rfl (XS.bipush X263.here hx rfl (hb hby d40_151) (XS.ishl X263.here hx rfl (hb hby d40_153) rfl (XS.aloadN X263.here hx rfl (hb hby d40_154) rfl rfl (XS.bipush X263.here hx rfl (hb hby d40_155) k)))))) ?_
         refine own_bal (x := (own_y (4 : Int32) w256)) X263 hx hZ e263 F269 ⟨by decide, by decide⟩ rfl rfl rfl (hb hby d40_157) ?_
         refine ogo (mkF m 169 #[rv a1, rv b2, iv 12, iv w258, iv 4, rv b261, iv (own_fd (own_y (2 : Int32) w234) (own_y (4 : Int32) w256)), iv (own_ix (own_lc y22))] [(.ref b261), (.int (own_fd (own_y (2 : Int32) w234) (own_y (4 : Int32) w256)))]) (fun _ k => XS.sipush X263.here hx rfl (hb hby d40_158) (XS.iand X263.here hx rfl (hb hby d40_161) rfl (XS.ior X263.here hx rfl (hb hby d40_162) rfl (XS.istore X263.here hx rfl (hb hby d40_163) rfl (l' := #[rv a1, rv b2, iv 12, iv w258, iv 4, rv b261, iv (own_fd (own_y (2 : Int32) w234) (own_y (4 : Int32) w256)), iv (own_ix (own_lc y22))]) rfl (XS.iload X263.here hx rfl (hb hby d40_165) rfl (XS.aload X263.here hx rfl (hb hby d40_167) rfl rfl k)))))) ?_
         refine own_stat (W := 1) X263 hx hZ hown e263 (ow hw 10 rfl) (ow hw 11 rfl) (rmcrc l Z a0 hw [] b261 kl261 (own_y (2 : Int32) w23) (own_y (4 : Int32) w50) (own_y (1 : Int32) w67) (own_y (3 : Int32) w91) (own_y (0 : Int32) w108) (own_y (2 : Int32) w130) (own_y (4 : Int32) w154) (own_y (1 : Int32) w171) (own_y (3 : Int32) w193) (own_y (0 : Int32) w212) h263 n0 Zs266 V263c) (ow hw 12 rfl) (ow hw 4 rfl) rfl (by rw [hml]; rfl) rfl (hb hby d40_169) (lenOf pd___B_I rfl) rfl (by decide) (fun T271 v271 Ll271 X271 hQ271 => ?_)
         obtain ⟨rfl, N271q, eh271⟩ := hQ271
         have N271 := Fr.app N263 N271q
         have K272 := K259.ext E261
         have K273 := K272.trans K263 (allS (Or.inr (Nat.le_trans (own_tr (own_tr (own_tr (own_tr (own_tr (own_tr (own_tr (own_tr (own_tr (own_tr (own_tr (own_tr E2.1 (Keep.of_wr W24).1) (Keep.of_wr W51).1) (Keep.of_wr W68).1) (Keep.of_wr W92).1) (Keep.of_wr W109).1) (Keep.of_wr W131).1) (Keep.of_wr W155).1) (Keep.of_wr W172).1) (Keep.of_wr W194).1) (Keep.of_wr W213).1) (Keep.of_wr W235).1) (Keep.of_wr W257).1) (Nat.le_of_eq g261.symm))) all0)
         by_cases hc172_274 : (own_fd (own_y (2 : Int32) w234) (own_y (4 : Int32) w256)) = (own_crc (own_y (2 : Int32) w23) (own_y (4 : Int32) w50) (own_y (1 : Int32) w67) (own_y (3 : Int32) w91) (own_y (0 : Int32) w108) (own_y (2 : Int32) w130) (own_y (4 : Int32) w154) (own_y (1 : Int32) w171) (own_y (3 : Int32) w193) (own_y (0 : Int32) w212))
         · skip
           refine ogo (mkF m 180 #[rv a1, rv b2, iv 12, iv w258, iv 4, rv b261, iv (own_fd (own_y (2 : Int32) w234) (own_y (4 : Int32) w256)), iv (own_ix (own_lc y22))] [(.int 1)]) (fun _ k => XS.icmpNo X271.here hx rfl (hb hby d40_172) rfl (teq hc172_274).2 (XS.iconst X271.here hx rfl (hb hby d40_175) (XS.goto X271.here hx rfl (pc0 := 176) (pc' := 180) rfl (hb hby d40_176) (by decide) (by decide) k))) ?_
           subst hw258; subst hw256; subst hw251; subst hw236; subst hw234; subst hw229; subst hw214; subst hw212; subst hw195; subst hw193; subst hw188; subst hw173; subst hw171; subst hw156; subst hw154; subst hw149; subst hw132; subst hw130; subst hw125; subst hw110; subst hw108; subst hw93; subst hw91; subst hw86; subst hw69; subst hw67; subst hw52; subst hw50; subst hw45; subst hw26; subst hw23; subst hw18
           exact own_endN X271 hx hr2 (by simp) (hb hby d40_180) (by decide) (by decide) (by rw [eh271]; exact ⟨(1 : Int32), rfl, N271, K273, (Or.inl ⟨rfl, hc70_17, hc70_22, hc70_44, hc70_49, hc70_66, hc54_77, hc70_85, hc70_90, hc70_107, hc70_124, hc70_129, hc54_140, hc70_148, hc70_153, hc70_170, hc70_187, hc70_192, hc54_203, hc70_211, hc70_228, hc70_233, hc70_250, hc70_255, hc122_260, hc172_274⟩)⟩)
         refine ogo (mkF m 180 #[rv a1, rv b2, iv 12, iv w258, iv 4, rv b261, iv (own_fd (own_y (2 : Int32) w234) (own_y (4 : Int32) w256)), iv (own_ix (own_lc y22))] [(.int 0)]) (fun _ k => XS.icmpYes X271.here hx rfl (pc0 := 172) (pc' := 179) rfl (hb hby d40_172) rfl (feq hc172_274).2 (by decide) (by decide) (XS.iconst X271.here hx rfl (hb hby d40_179) k)) ?_
         subst hw258; subst hw256; subst hw251; subst hw236; subst hw234; subst hw229; subst hw214; subst hw212; subst hw195; subst hw193; subst hw188; subst hw173; subst hw171; subst hw156; subst hw154; subst hw149; subst hw132; subst hw130; subst hw125; subst hw110; subst hw108; subst hw93; subst hw91; subst hw86; subst hw69; subst hw67; subst hw52; subst hw50; subst hw45; subst hw26; subst hw23; subst hw18
         exact own_endN X271 hx hr2 (by simp) (hb hby d40_180) (by decide) (by decide) (by rw [eh271]; exact ⟨(0 : Int32), rfl, N271, K273, (Or.inr ⟨rfl, fun h => hc172_274 (h.2.2.2.2.2.2.2.2.2.2.2.2.2.2.2.2.2.2.2.2.2.2.2.2)⟩)⟩)
       refine ogo (mkF m 126 #[rv a1, rv b2, iv 12, iv w258, iv 4, iv 23, iv (own_lc y22), iv (own_ix (own_lc y22))] [(.int 0)]) (fun _ k => XS.ifNo X257.here hx rfl (hb hby d40_122) rfl ((if0 _ _).trans (feq hc122_260).1) (XS.iconst X257.here hx rfl (hb hby d40_125) k)) ?_
       subst hw258; subst hw256; subst hw251; subst hw236; subst hw234; subst hw229; subst hw214; subst hw212; subst hw195; subst hw193; subst hw188; subst hw173; subst hw171; subst hw156; subst hw154; subst hw149; subst hw132; subst hw130; subst hw125; subst hw110; subst hw108; subst hw93; subst hw91; subst hw86; subst hw69; subst hw67; subst hw52; subst hw50; subst hw45; subst hw26; subst hw23; subst hw18
       exact own_endN X257 hx hr2 (by simp) (hb hby d40_126) (by decide) (by decide) (by rw [e257]; exact ⟨(0 : Int32), rfl, N257, K259, (Or.inr ⟨rfl, fun h => hc122_260 (h.2.2.2.2.2.2.2.2.2.2.2.2.2.2.2.2.2.2.2.2.2.2.2.1)⟩)⟩)
     refine ogo (mkF m 58 #[rv a1, rv b2, iv 9, iv w195, iv 3, iv 17, iv (own_lc y17), iv (own_ix (own_lc y16))] [(.int 0)]) (fun _ k => XS.icmpNo X196.here hx rfl (hb hby d40_54) rfl (feq hc54_203).1 (XS.iconst X196.here hx rfl (hb hby d40_57) k)) ?_
     subst hw195; subst hw193; subst hw188; subst hw173; subst hw171; subst hw156; subst hw154; subst hw149; subst hw132; subst hw130; subst hw125; subst hw110; subst hw108; subst hw93; subst hw91; subst hw86; subst hw69; subst hw67; subst hw52; subst hw50; subst hw45; subst hw26; subst hw23; subst hw18
     exact own_endN X196 hx hr2 (by simp) (hb hby d40_58) (by decide) (by decide) (by rw [eh196]; exact ⟨(0 : Int32), rfl, N196, K202, (Or.inr ⟨rfl, fun h => hc54_203 (h.2.2.2.2.2.2.2.2.2.2.2.2.2.2.2.2.2.1)⟩)⟩)
   refine ogo (mkF m 58 #[rv a1, rv b2, iv 6, iv w132, iv 2, iv 11, iv (own_lc y11), iv (own_ix (own_lc y10))] [(.int 0)]) (fun _ k => XS.icmpNo X133.here hx rfl (hb hby d40_54) rfl (feq hc54_140).1 (XS.iconst X133.here hx rfl (hb hby d40_57) k)) ?_
   subst hw132; subst hw130; subst hw125; subst hw110; subst hw108; subst hw93; subst hw91; subst hw86; subst hw69; subst hw67; subst hw52; subst hw50; subst hw45; subst hw26; subst hw23; subst hw18
   exact own_endN X133 hx hr2 (by simp) (hb hby d40_58) (by decide) (by decide) (by rw [eh133]; exact ⟨(0 : Int32), rfl, N133, K139, (Or.inr ⟨rfl, fun h => hc54_140 (h.2.2.2.2.2.2.2.2.2.2.2.1)⟩)⟩)
 refine ogo (mkF m 58 #[rv a1, rv b2, iv 3, iv w69, iv 1, iv 5, iv (own_lc y5), iv (own_ix (own_lc y4))] [(.int 0)]) (fun _ k => XS.icmpNo X70.here hx rfl (hb hby d40_54) rfl (feq hc54_77).1 (XS.iconst X70.here hx rfl (hb hby d40_57) k)) ?_
 subst hw69; subst hw67; subst hw52; subst hw50; subst hw45; subst hw26; subst hw23; subst hw18
 exact own_endN X70 hx hr2 (by simp) (hb hby d40_58) (by decide) (by decide) (by rw [eh70]; exact ⟨(0 : Int32), rfl, N70, K76, (Or.inr ⟨rfl, fun h => hc54_77 (h.2.2.2.2.2.1)⟩)⟩)
def Qrmiv22 (Z : State) (a1 u1 : Addr) (ku : ClassId) (vs : List Value) (cs : Int32) (h0 : Heap) (n0 : Nat) (v : Option Value) (h : Heap) (L : List Loc) : Prop := v = some (.int 0) ∧ Fr n0 L ∧ h = h0
theorem rmiv22 (l : Launch) (Z : State) (a0 : Array Value) (hw : HW a0 Z) (ws : List Jvm.Cond) (a1 u1 : Addr) (ku : ClassId) (vs : List Value) (cs : Int32) (h0 : Heap) (n0 : Nat) (Z0 : n0 ≤ h0.size) (O0 : Old Z n0 h0) (SC : Sta Z Z.heap cs1 "COMPACT_STRINGS" "Z" (.int cs)) (hcs : ¬ (cs = (0 : Int32))) (E_a1 : Exa Z h0 a1 cs1) (Fld_a1_coder : Fld Z h0 a1 cs1 "coder" "B" (.int 0)) (Fld_a1_value : Fld Z h0 a1 cs1 "value" "[B" (.ref u1)) (V_u1 : Arv Z h0 u1 ku .byte (22 : Int32) vs (.int 0)) :
    own_MF l mn8 cd40 8 (some .boolean) ws (rom 2 0 0 25) #[(.ref a1)] Z h0 (Qrmiv22 Z a1 u1 ku vs cs h0 n0) := by
 refine own_body n0 (plainFor_of_name pn_40) (fun m => ef_rmiv m a1) (fun p e s m below meth c s₁ hx hby hml hr2 hZ hown hnm X0 e0 N0 => ?_)
 refine ogo (mkF m 1 #[rv a1, .unset, .unset, .unset, .unset, .unset, .unset, .unset] [(.ref a1)]) (fun _ k => XS.aloadN X0.here hx rfl (hb hby d40_0) rfl rfl k) ?_
 refine own_virt (W := 0) X0 hx hZ hown e0 (ow hw 216 rfl) (ow hw 217 rfl) (ow hw 218 rfl) (ow hw 170 rfl) (rmlen22 l Z a0 hw [] a1 u1 ku vs cs h0 n0 Z0 O0 SC hcs E_a1 Fld_a1_coder Fld_a1_value V_u1) (ow hw 174 rfl) (ow hw 33 rfl) E_a1 rfl (by rw [hml]; rfl) rfl (hb hby d40_1) (lenOf pd___I rfl) rfl (by decide) (fun T1 v1 Ll1 X1 hQ1 => ?_)
 obtain ⟨rfl, N1q, eh1⟩ := hQ1
 have N1 := Fr.app N0 N1q
 refine ogo (mkF m 10 #[rv a1, .unset, .unset, .unset, .unset, .unset, .unset, .unset] [(.int 0)]) (fun _ k => XS.bipush X1.here hx rfl (hb hby d40_4) (XS.icmpNo X1.here hx rfl (hb hby d40_6) rfl (feq (by decide : ¬ ((22 : Int32) = (23 : Int32)))).1 (XS.iconst X1.here hx rfl (hb hby d40_9) k))) ?_
 exact own_endN X1 hx hr2 (by simp) (hb hby d40_10) (by decide) (by decide) (by rw [eh1]; exact ⟨rfl, N1, rfl⟩)
def Qrmiv24 (Z : State) (a1 u1 : Addr) (ku : ClassId) (vs : List Value) (cs : Int32) (h0 : Heap) (n0 : Nat) (v : Option Value) (h : Heap) (L : List Loc) : Prop := v = some (.int 0) ∧ Fr n0 L ∧ h = h0
theorem rmiv24 (l : Launch) (Z : State) (a0 : Array Value) (hw : HW a0 Z) (ws : List Jvm.Cond) (a1 u1 : Addr) (ku : ClassId) (vs : List Value) (cs : Int32) (h0 : Heap) (n0 : Nat) (Z0 : n0 ≤ h0.size) (O0 : Old Z n0 h0) (SC : Sta Z Z.heap cs1 "COMPACT_STRINGS" "Z" (.int cs)) (hcs : ¬ (cs = (0 : Int32))) (E_a1 : Exa Z h0 a1 cs1) (Fld_a1_coder : Fld Z h0 a1 cs1 "coder" "B" (.int 0)) (Fld_a1_value : Fld Z h0 a1 cs1 "value" "[B" (.ref u1)) (V_u1 : Arv Z h0 u1 ku .byte (24 : Int32) vs (.int 0)) :
    own_MF l mn8 cd40 8 (some .boolean) ws (rom 2 0 0 25) #[(.ref a1)] Z h0 (Qrmiv24 Z a1 u1 ku vs cs h0 n0) := by
 refine own_body n0 (plainFor_of_name pn_40) (fun m => ef_rmiv m a1) (fun p e s m below meth c s₁ hx hby hml hr2 hZ hown hnm X0 e0 N0 => ?_)
 refine ogo (mkF m 1 #[rv a1, .unset, .unset, .unset, .unset, .unset, .unset, .unset] [(.ref a1)]) (fun _ k => XS.aloadN X0.here hx rfl (hb hby d40_0) rfl rfl k) ?_
 refine own_virt (W := 0) X0 hx hZ hown e0 (ow hw 216 rfl) (ow hw 217 rfl) (ow hw 218 rfl) (ow hw 170 rfl) (rmlen24 l Z a0 hw [] a1 u1 ku vs cs h0 n0 Z0 O0 SC hcs E_a1 Fld_a1_coder Fld_a1_value V_u1) (ow hw 174 rfl) (ow hw 33 rfl) E_a1 rfl (by rw [hml]; rfl) rfl (hb hby d40_1) (lenOf pd___I rfl) rfl (by decide) (fun T1 v1 Ll1 X1 hQ1 => ?_)
 obtain ⟨rfl, N1q, eh1⟩ := hQ1
 have N1 := Fr.app N0 N1q
 refine ogo (mkF m 10 #[rv a1, .unset, .unset, .unset, .unset, .unset, .unset, .unset] [(.int 0)]) (fun _ k => XS.bipush X1.here hx rfl (hb hby d40_4) (XS.icmpNo X1.here hx rfl (hb hby d40_6) rfl (feq (by decide : ¬ ((24 : Int32) = (23 : Int32)))).1 (XS.iconst X1.here hx rfl (hb hby d40_9) k))) ?_
 exact own_endN X1 hx hr2 (by simp) (hb hby d40_10) (by decide) (by decide) (by rw [eh1]; exact ⟨rfl, N1, rfl⟩)
theorem d49_0 : dk cd49 0 (.iconst 0) 1 := by decide +kernel
theorem d49_1 : dk cd49 1 (.istore 5) 2 := by decide +kernel
theorem d49_3 : dk cd49 3 (.iload 5) 2 := by decide +kernel
theorem d49_5 : dk cd49 5 (.iload 4) 2 := by decide +kernel
theorem d49_7 : dk cd49 7 (.if_icmp .ge 37) 3 := by decide +kernel
theorem d49_10 : dk cd49 10 (.aload_n 0) 1 := by decide +kernel
theorem d49_11 : dk cd49 11 (.iload_n 1) 1 := by decide +kernel
theorem d49_12 : dk cd49 12 .caload 1 := by decide +kernel
theorem d49_13 : dk cd49 13 (.istore 6) 2 := by decide +kernel
theorem d49_15 : dk cd49 15 (.iload 6) 2 := by decide +kernel
theorem d49_17 : dk cd49 17 (.sipush 255) 3 := by decide +kernel
theorem d49_20 : dk cd49 20 (.if_icmp .le 6) 3 := by decide +kernel
theorem d49_26 : dk cd49 26 (.aload_n 2) 1 := by decide +kernel
theorem d49_27 : dk cd49 27 (.iload_n 3) 1 := by decide +kernel
theorem d49_28 : dk cd49 28 (.iload 6) 2 := by decide +kernel
theorem d49_30 : dk cd49 30 .i2b 1 := by decide +kernel
theorem d49_31 : dk cd49 31 .bastore 1 := by decide +kernel
theorem d49_32 : dk cd49 32 (.iinc 1 1) 3 := by decide +kernel
theorem d49_35 : dk cd49 35 (.iinc 3 1) 3 := by decide +kernel
theorem d49_38 : dk cd49 38 (.iinc 5 1) 3 := by decide +kernel
theorem d49_41 : dk cd49 41 (.goto (-38)) 3 := by decide +kernel
theorem d49_44 : dk cd49 44 (.iload 4) 2 := by decide +kernel
theorem d49_46 : dk cd49 46 .ireturn 1 := by decide +kernel
theorem pn_49 : plainName cs8 = true := by first | (simp [plainName, overriddenIn]; done) | decide +kernel
theorem ef_rmc6 (m : MethodId) (x0 : Addr) (x1 : Int32) (x2 : Addr) (x3 : Int32) (x4 : Int32) : entryFrame m #[(.ref x0), (.int x1), (.ref x2), (.int x3), (.int x4)] 7 = mkF m 0 #[rv x0, iv x1, rv x2, iv x3, iv x4, .unset, .unset] [] := by first | (simp [entryFrame, mkF, argsToLocals, Value.category]; done) | rfl
def Qrmc6 (Z : State) (a2 : Addr) (k2 : ClassId) (a3 : Addr) (k3 : ClassId) (nn : Int32) (cl : List Int32) (h0 : Heap) (n0 : Nat) (v : Option Value) (h : Heap) (L : List Loc) : Prop := v = some (.int nn) ∧ Fr n0 L ∧ Keep h0 h [a3] ∧ (Arv Z h a3 k3 .byte nn (cl.map own_LT) (.int 0))
section
variable {p : Program} {l : Launch} {e : Env} {R : Room} {s : State} {m : MethodId} {args : Array Value} {below : List Frame} {meth : Jvm.Method} {c : Jvm.ClassFile.Code} {T : State} {locs : List Loc} {cells slots : Nat} {t : State}
theorem sg_rmc6_0 (X : Stand p l e R s m args below meth c T locs cells slots) (hx : p.tables.exec = Jvm.exec) (hby : c.code = cd49) {v1 v3 v4 v5 v6 : Int32} {v0 v2 : Addr} (k : Steps p.tables e below (T.setTop (mkF m 3 #[rv v0, iv (v1 + (1 : Int32)), rv v2, iv (v3 + (1 : Int32)), iv v4, iv (v5 + (1 : Int32)), iv v6] [])) t) : Steps p.tables e below (T.setTop (mkF m 32 #[rv v0, iv v1, rv v2, iv v3, iv v4, iv v5, iv v6] [])) t := XS.iinc X.here hx rfl (hb hby d49_32) rfl (l' := #[rv v0, iv (v1 + (1 : Int32)), rv v2, iv v3, iv v4, iv v5, iv v6]) rfl (XS.iinc X.here hx rfl (hb hby d49_35) rfl (l' := #[rv v0, iv (v1 + (1 : Int32)), rv v2, iv (v3 + (1 : Int32)), iv v4, iv v5, iv v6]) rfl (XS.iinc X.here hx rfl (hb hby d49_38) rfl (l' := #[rv v0, iv (v1 + (1 : Int32)), rv v2, iv (v3 + (1 : Int32)), iv v4, iv (v5 + (1 : Int32)), iv v6]) rfl (XS.goto X.here hx rfl (pc0 := 41) (pc' := 3) rfl (hb hby d49_41) (by decide) (by decide) k)))
end
theorem rmc6 (l : Launch) (Z : State) (a0 : Array Value) (hw : HW a0 Z) (ws : List Jvm.Cond) (a2 : Addr) (k2 : ClassId) (a3 : Addr) (k3 : ClassId) (nn : Int32) (cl : List Int32) (h0 : Heap) (n0 : Nat) (Z0 : n0 ≤ h0.size) (V_a2 : Arv Z h0 a2 k2 .char nn (cl.map Value.int) (.int 0)) (V_a3 : Arv Z h0 a3 k3 .byte nn [] (.int 0)) (g_a3 : n0 ≤ a3) (ne_a2_a3 : a2 ≠ a3) (hl : cl.length = nn.toNatClampNeg) (hneg : ¬ (nn < (0 : Int32))) (h8 : ∀ z ∈ cl, ¬ ((255 : Int32) < z)) :
    own_MF l (⟨cs8, "compress", "([CI[BII)I"⟩ : MethodName) cd49 7 (some .int) ws (rom 0 0 0 0) #[(.ref a2), (.int 0), (.ref a3), (.int 0), (.int nn)] Z h0 (Qrmc6 Z a2 k2 a3 k3 nn cl h0 n0) := by
 refine own_body n0 (plainFor_of_name pn_49) (fun m => ef_rmc6 m a2 (0 : Int32) a3 (0 : Int32) nn) (fun p e s m below meth c s₁ hx hby hml hr2 hZ hown hnm X0 e0 N0 => ?_)
 have stp : ∀ (P : State → Outcome → Prop) (T5 : State) (h5 : Heap) (lo5 : List Loc) (sx5 : Slot) (i5 : Int32) (vs5 : List Value) (c5 : Int32), (sx5 = .unset ∨ ∃ x5 : Int32, sx5 = iv x5) → Stand p l e (rom 0 0 0 0) s m #[(.ref a2), (.int 0), (.ref a3), (.int 0), (.int nn)] below meth c T5 lo5 0 0 → T5.heap = h5 → Fr n0 lo5 → n0 ≤ h5.size → Arv Z h5 a2 k2 .char nn (cl.map Value.int) (.int 0) → Arv Z h5 a3 k3 .byte nn vs5 (.int 0) → (¬ i5 < 0 ∧ i5 < nn) → vs5.length = i5.toNatClampNeg → (cl.map Value.int).getD i5.toNatClampNeg (.int 0) = .int c5 → ¬ ((255 : Int32) < c5) → (∀ (T6 : State) (h6 : Heap) (lo6 : List Loc), Stand p l e (rom 0 0 0 0) s m #[(.ref a2), (.int 0), (.ref a3), (.int 0), (.int nn)] below meth c T6 lo6 0 0 → T6.heap = h6 → Fr n0 lo6 → Wr h5 h6 a3 i5.toNatClampNeg (.int (own_lt c5)) → n0 ≤ h6.size → Arv Z h6 a3 k3 .byte nn (vs5 ++ [(.int (own_lt c5))]) (.int 0) → ∃ t o, Steps p.tables e below (T6.setTop (mkF m 3 #[rv a2, iv (i5 + (1 : Int32)), rv a3, iv (i5 + (1 : Int32)), iv nn, iv (i5 + (1 : Int32)), iv c5] [])) t ∧ P t o) → ∃ t o, Steps p.tables e below (T5.setTop (mkF m 3 #[rv a2, iv i5, rv a3, iv i5, iv nn, iv i5, sx5] [])) t ∧ P t o := by
   intro P T5 h5 lo5 sx5 i5 vs5 c5 hx5 X5 E5 N5 Zs5 V5 U5 hi5 hl5 hv5 h85 J
   rcases hx5 with rfl | ⟨x5, rfl⟩
   · skip
     refine ogo (mkF m 12 #[rv a2, iv i5, rv a3, iv i5, iv nn, iv i5, .unset] [(.int i5), (.ref a2)]) (fun _ k => XS.iload X5.here hx rfl (hb hby d49_3) rfl (XS.iload X5.here hx rfl (hb hby d49_5) rfl (XS.icmpNo X5.here hx rfl (hb hby d49_7) rfl (tlt hi5.2).2.1 (XS.aloadN X5.here hx rfl (hb hby d49_10) rfl rfl (XS.iloadN X5.here hx rfl (hb hby d49_11) rfl k))))) ?_
     refine own_cal (x := c5) X5 hx hZ E5 V5 hi5 hv5 rfl rfl (hb hby d49_12) ?_
     refine ogo (mkF m 31 #[rv a2, iv i5, rv a3, iv i5, iv nn, iv i5, iv c5] [(.int (c5.toInt8.toInt32)), (.int i5), (.ref a3)]) (fun _ k => XS.istore X5.here hx rfl (hb hby d49_13) rfl (l' := #[rv a2, iv i5, rv a3, iv i5, iv nn, iv i5, iv c5]) rfl (XS.iload X5.here hx rfl (hb hby d49_15) rfl (XS.sipush X5.here hx rfl (hb hby d49_17) (XS.icmpYes X5.here hx rfl (pc0 := 20) (pc' := 26) rfl (hb hby d49_20) rfl (flt h85).2.2.2 (by decide) (by decide) (XS.aloadN X5.here hx rfl (hb hby d49_26) rfl rfl (XS.iloadN X5.here hx rfl (hb hby d49_27) rfl (XS.iload X5.here hx rfl (hb hby d49_28) rfl (XS.i2b X5.here hx rfl (hb hby d49_30) rfl k)))))))) ?_
     refine own_basP X5 hx hZ E5 N5 Zs5 g_a3 U5 hi5 hl5 rfl rfl (hb hby d49_31) (fun T2 h2 lo2 X2 e2 N2 W2 Zs2 V2 => ?_)
     refine ogo (mkF m 3 #[rv a2, iv (i5 + (1 : Int32)), rv a3, iv (i5 + (1 : Int32)), iv nn, iv (i5 + (1 : Int32)), iv c5] []) (fun _ k => sg_rmc6_0 X2 hx hby k) ?_
     exact J _ _ _ X2 e2 N2 W2 Zs2 V2
   · skip
     refine ogo (mkF m 12 #[rv a2, iv i5, rv a3, iv i5, iv nn, iv i5, iv x5] [(.int i5), (.ref a2)]) (fun _ k => XS.iload X5.here hx rfl (hb hby d49_3) rfl (XS.iload X5.here hx rfl (hb hby d49_5) rfl (XS.icmpNo X5.here hx rfl (hb hby d49_7) rfl (tlt hi5.2).2.1 (XS.aloadN X5.here hx rfl (hb hby d49_10) rfl rfl (XS.iloadN X5.here hx rfl (hb hby d49_11) rfl k))))) ?_
     refine own_cal (x := c5) X5 hx hZ E5 V5 hi5 hv5 rfl rfl (hb hby d49_12) ?_
     refine ogo (mkF m 31 #[rv a2, iv i5, rv a3, iv i5, iv nn, iv i5, iv c5] [(.int (c5.toInt8.toInt32)), (.int i5), (.ref a3)]) (fun _ k => XS.istore X5.here hx rfl (hb hby d49_13) rfl (l' := #[rv a2, iv i5, rv a3, iv i5, iv nn, iv i5, iv c5]) rfl (XS.iload X5.here hx rfl (hb hby d49_15) rfl (XS.sipush X5.here hx rfl (hb hby d49_17) (XS.icmpYes X5.here hx rfl (pc0 := 20) (pc' := 26) rfl (hb hby d49_20) rfl (flt h85).2.2.2 (by decide) (by decide) (XS.aloadN X5.here hx rfl (hb hby d49_26) rfl rfl (XS.iloadN X5.here hx rfl (hb hby d49_27) rfl (XS.iload X5.here hx rfl (hb hby d49_28) rfl (XS.i2b X5.here hx rfl (hb hby d49_30) rfl k)))))))) ?_
     refine own_basP X5 hx hZ E5 N5 Zs5 g_a3 U5 hi5 hl5 rfl rfl (hb hby d49_31) (fun T4 h4 lo4 X4 e4 N4 W4 Zs4 V4 => ?_)
     refine ogo (mkF m 3 #[rv a2, iv (i5 + (1 : Int32)), rv a3, iv (i5 + (1 : Int32)), iv nn, iv (i5 + (1 : Int32)), iv c5] []) (fun _ k => sg_rmc6_0 X4 hx hby k) ?_
     exact J _ _ _ X4 e4 N4 W4 Zs4 V4
 have ind : ∀ (P : State → Outcome → Prop), (∀ (T6 : State) (h6 : Heap) (lo6 : List Loc) (sx6 : Slot), Stand p l e (rom 0 0 0 0) s m #[(.ref a2), (.int 0), (.ref a3), (.int 0), (.int nn)] below meth c T6 lo6 0 0 → T6.heap = h6 → Fr n0 lo6 → n0 ≤ h6.size → Keep h0 h6 [a3] → Arv Z h6 a3 k3 .byte nn (cl.map own_LT) (.int 0) → ∃ t o, Steps p.tables e below (T6.setTop (mkF m 3 #[rv a2, iv nn, rv a3, iv nn, iv nn, iv nn, sx6] [])) t ∧ P t o) → ∀ (q5 : Nat) (T5 : State) (h5 : Heap) (lo5 : List Loc) (sx5 : Slot) (i5 : Int32), (sx5 = .unset ∨ ∃ x5 : Int32, sx5 = iv x5) → Stand p l e (rom 0 0 0 0) s m #[(.ref a2), (.int 0), (.ref a3), (.int 0), (.int nn)] below meth c T5 lo5 0 0 → T5.heap = h5 → Fr n0 lo5 → n0 ≤ h5.size → Keep h0 h5 [a3] → Arv Z h5 a3 k3 .byte nn ((cl.take i5.toNatClampNeg).map own_LT) (.int 0) → ¬ (i5 < 0) → i5.toNatClampNeg + q5 = cl.length → ∃ t o, Steps p.tables e below (T5.setTop (mkF m 3 #[rv a2, iv i5, rv a3, iv i5, iv nn, iv i5, sx5] [])) t ∧ P t o := by
   intro P K q5
   induction q5 with
   | zero =>
     intro T5 h5 lo5 sx5 i5 hx5 X5 E5 N5 Zs5 K5 V5 hi5 hq5
     have e5 : i5 = nn := own_eqn hi5 hneg (by omega)
     subst e5
     have t5 : cl.take i5.toNatClampNeg = cl := List.take_of_length_le (by omega)
     rw [t5] at V5
     exact K T5 h5 lo5 sx5 X5 E5 N5 Zs5 K5 V5
   | succ q5 ih =>
     intro T5 h5 lo5 sx5 i5 hx5 X5 E5 N5 Zs5 K5 V5 hi5 hq5
     have hj5 : i5.toNatClampNeg < cl.length := by omega
     have hlt5 : i5 < nn := own_ltn hi5 (by omega)
     have hs5 := own_suc hi5 hlt5
     refine stp P T5 h5 lo5 sx5 i5 _ (cl.getD i5.toNatClampNeg 0) hx5 X5 E5 N5 Zs5 (V_a2.keep K5 (ninS ne_a2_a3 nin0)) V5 ⟨hi5, hlt5⟩ (by rw [List.length_map, List.length_take]; omega) (own_gm hj5) (h8 _ (by rw [List.getD_eq_getElem?_getD, List.getElem?_eq_getElem hj5]; exact List.getElem_mem hj5)) (fun T6 h6 lo6 X6 E6 N6 W6 Zs6 V6 => ?_)
     rw [own_tk hj5, ← hs5.2] at V6
     exact ih T6 h6 lo6 _ _ (Or.inr ⟨_, rfl⟩) X6 E6 N6 Zs6 (K5.wr W6 (Or.inl (List.mem_of_getElem? (i := 0) rfl))) V6 hs5.1 (by rw [hs5.2]; omega)
 refine ogo (mkF m 3 #[rv a2, iv 0, rv a3, iv 0, iv nn, iv 0, .unset] []) (fun _ k => XS.iconst X0.here hx rfl (hb hby d49_0) (XS.istore X0.here hx rfl (hb hby d49_1) rfl (l' := #[rv a2, iv 0, rv a3, iv 0, iv nn, iv 0, .unset]) rfl k)) ?_
 refine ind _ (fun T5 h5 lo5 sx5 X5 E5 N5 Zs5 K5 V5 => ?_) cl.length s₁ h0 _ .unset (0 : Int32) (Or.inl rfl) X0 e0 N0 Z0 (Keep.refl h0 [a3]) V_a3 (by decide) (Nat.zero_add _)
 refine ogo (mkF m 46 #[rv a2, iv nn, rv a3, iv nn, iv nn, iv nn, sx5] [(.int nn)]) (fun _ k => XS.iload X5.here hx rfl (hb hby d49_3) rfl (XS.iload X5.here hx rfl (hb hby d49_5) rfl (XS.icmpYes X5.here hx rfl (pc0 := 7) (pc' := 44) rfl (hb hby d49_7) rfl (flt Int32.lt_irrefl).2.1 (by decide) (by decide) (XS.iload X5.here hx rfl (hb hby d49_44) rfl k)))) ?_
 exact own_endI X5 hx hr2 (hb hby d49_46) (by decide) (by decide) (by rw [E5]; exact ⟨rfl, N5, K5, V5⟩)
theorem d48_0 : dk cd48 0 (.iload_n 2) 1 := by decide +kernel
theorem d48_1 : dk cd48 1 (.newarray .byte) 2 := by decide +kernel
theorem d48_3 : dk cd48 3 (.astore_n 3) 1 := by decide +kernel
theorem d48_4 : dk cd48 4 (.aload_n 0) 1 := by decide +kernel
theorem d48_5 : dk cd48 5 (.iload_n 1) 1 := by decide +kernel
theorem d48_6 : dk cd48 6 (.aload_n 3) 1 := by decide +kernel
theorem d48_7 : dk cd48 7 (.iconst 0) 1 := by decide +kernel
theorem d48_8 : dk cd48 8 (.iload_n 2) 1 := by decide +kernel
theorem d48_9 : dk cd48 9 (.invokestatic 115) 3 := by decide +kernel
theorem d48_12 : dk cd48 12 (.istore 4) 2 := by decide +kernel
theorem d48_14 : dk cd48 14 (.iload 4) 2 := by decide +kernel
theorem d48_16 : dk cd48 16 (.iload_n 2) 1 := by decide +kernel
theorem d48_17 : dk cd48 17 (.if_icmp .eq 40) 3 := by decide +kernel
theorem d48_57 : dk cd48 57 (.aload_n 3) 1 := by decide +kernel
theorem d48_58 : dk cd48 58 .areturn 1 := by decide +kernel
theorem pd___CI_BII_I : parseMethodDescriptor "([CI[BII)I" = some ⟨[(.array .char), .int, (.array .byte), .int, .int], some .int⟩ := by decide +kernel
theorem pn_48 : plainName cs8 = true := by first | (simp [plainName, overriddenIn]; done) | decide +kernel
theorem ef_rmc5 (m : MethodId) (x0 : Addr) (x1 : Int32) (x2 : Int32) : entryFrame m #[(.ref x0), (.int x1), (.int x2)] 6 = mkF m 0 #[rv x0, iv x1, iv x2, .unset, .unset, .unset] [] := by first | (simp [entryFrame, mkF, argsToLocals, Value.category]; done) | rfl
def Qrmc5 (Z : State) (a2 : Addr) (k2 : ClassId) (nn : Int32) (cl : List Int32) (h0 : Heap) (n0 : Nat) (v : Option Value) (h : Heap) (L : List Loc) : Prop := ∃ (b : Addr) (kb : ClassId), v = some (.ref b) ∧ Fr n0 L ∧ Keep h0 h [] ∧ (h0.size ≤ b) ∧ (Arv Z h b kb .byte nn (cl.map own_LT) (.int 0))
theorem rmc5 (l : Launch) (Z : State) (a0 : Array Value) (hw : HW a0 Z) (ws : List Jvm.Cond) (a2 : Addr) (k2 : ClassId) (nn : Int32) (cl : List Int32) (h0 : Heap) (n0 : Nat) (Z0 : n0 ≤ h0.size) (V_a2 : Arv Z h0 a2 k2 .char nn (cl.map Value.int) (.int 0)) (hl : cl.length = nn.toNatClampNeg) (hneg : ¬ (nn < (0 : Int32))) (h8 : ∀ z ∈ cl, ¬ ((255 : Int32) < z)) (hcap : nn.toNatClampNeg ≤ 24) :
    own_MF l (⟨cs8, "compress", "([CII)[B"⟩ : MethodName) cd48 6 (some (.array .byte)) ws (rom 1 1 24 18) #[(.ref a2), (.int 0), (.int nn)] Z h0 (Qrmc5 Z a2 k2 nn cl h0 n0) := by
 refine own_body n0 (plainFor_of_name pn_48) (fun m => ef_rmc5 m a2 (0 : Int32) nn) (fun p e s m below meth c s₁ hx hby hml hr2 hZ hown hnm X0 e0 N0 => ?_)
 refine ogo (mkF m 1 #[rv a2, iv 0, iv nn, .unset, .unset, .unset] [(.int nn)]) (fun _ k => XS.iloadN X0.here hx rfl (hb hby d48_0) rfl k) ?_
 obtain ⟨T1, h1, kl1, X1, e1, E1, A1, st1⟩ := newP X0 hx hZ (ow hw 0 rfl) e0 (g := (mkF m 1 #[rv a2, iv 0, iv nn, .unset, .unset, .unset] [(.int nn)])) rfl (hb hby d48_1) rfl hneg (cap := 24) hcap (by decide) (by decide) (by decide)
 obtain ⟨b1, g1⟩ : ∃ z, z = h0.size := ⟨_, rfl⟩
 rw [← g1] at A1 st1
 have Zs2 : n0 ≤ h1.size := Nat.le_trans Z0 E1.1
 have V1 : Arv Z h1 b1 kl1 .byte nn [] (.int 0) := Arv.new A1 hneg
 refine ogo (mkF m 9 #[rv a2, iv 0, iv nn, rv b1, .unset, .unset] [(.int nn), (.int 0), (.ref b1), (.int 0), (.ref a2)]) (fun _ k => st1 _ (XS.astoreN X1.here hx rfl (hb hby d48_3) rfl rfl (l' := #[rv a2, iv 0, iv nn, rv b1, .unset, .unset]) rfl (XS.aloadN X1.here hx rfl (hb hby d48_4) rfl rfl (XS.iloadN X1.here hx rfl (hb hby d48_5) rfl (XS.aloadN X1.here hx rfl (hb hby d48_6) rfl rfl (XS.iconst X1.here hx rfl (hb hby d48_7) (XS.iloadN X1.here hx rfl (hb hby d48_8) rfl k))))))) ?_
 have F4 := V_a2.ext E1
 have gx5 : n0 ≤ b1 := Nat.le_trans Z0 (Nat.le_of_eq g1.symm)
 have nx6 : a2 ≠ b1 := (own_ne V_a2.lt (Nat.le_refl _) (Nat.le_of_eq g1.symm))
 refine own_stat (W := 0) X1 hx hZ hown e1 (ow hw 252 rfl) (ow hw 253 rfl) (rmc6 l Z a0 hw [] a2 k2 b1 kl1 nn cl h1 n0 Zs2 F4 V1 gx5 nx6 hl hneg h8) (ow hw 254 rfl) (ow hw 250 rfl) rfl (by rw [hml]; rfl) rfl (hb hby d48_9) (lenOf pd___CI_BII_I rfl) rfl (by decide) (fun T3 v3 Ll3 X3 hQ3 => ?_)
 obtain ⟨rfl, N3q, K3, P3_0⟩ := hQ3
 have N3 := Fr.app N0 N3q
 have Zs7 : n0 ≤ T3.heap.size := Nat.le_trans Zs2 K3.1
 refine ogo (mkF m 58 #[rv a2, iv 0, iv nn, rv b1, iv nn, .unset] [(.ref b1)]) (fun _ k => XS.istore X3.here hx rfl (hb hby d48_12) rfl (l' := #[rv a2, iv 0, iv nn, rv b1, iv nn, .unset]) rfl (XS.iload X3.here hx rfl (hb hby d48_14) rfl (XS.iloadN X3.here hx rfl (hb hby d48_16) rfl (XS.icmpYes X3.here hx rfl (pc0 := 17) (pc' := 57) rfl (hb hby d48_17) rfl (teq (rfl : nn = nn)).1 (by decide) (by decide) (XS.aloadN X3.here hx rfl (hb hby d48_57) rfl rfl k))))) ?_
 have K8 := (Keep.refl h0 []).ext E1
 have K9 := K8.trans K3 (allS (Or.inr (Nat.le_trans (Nat.le_refl _) (Nat.le_of_eq g1.symm))) all0)
 exact own_endR X3 hx hr2 rfl rfl (hb hby d48_58) (by decide) (by decide) (by exact ⟨b1, kl1, rfl, N3, K9, (Nat.le_trans (Nat.le_refl _) (Nat.le_of_eq g1.symm)), P3_0⟩)
theorem d50_0 : dk cd50 0 (.iload_n 1) 1 := by decide +kernel
theorem d50_1 : dk cd50 1 (.aload_n 0) 1 := by decide +kernel
theorem d50_2 : dk cd50 2 .arraylength 1 := by decide +kernel
theorem d50_3 : dk cd50 3 .isub 1 := by decide +kernel
theorem d50_4 : dk cd50 4 (.bipush 31) 2 := by decide +kernel
theorem d50_6 : dk cd50 6 .iushr 1 := by decide +kernel
theorem d50_7 : dk cd50 7 .i2b 1 := by decide +kernel
theorem d50_8 : dk cd50 8 .ireturn 1 := by decide +kernel
theorem pn_50 : plainName cs8 = true := by first | (simp [plainName, overriddenIn]; done) | decide +kernel
theorem ef_rmcd (m : MethodId) (x0 : Addr) (x1 : Int32) : entryFrame m #[(.ref x0), (.int x1)] 2 = mkF m 0 #[rv x0, iv x1] [] := by first | (simp [entryFrame, mkF, argsToLocals, Value.category]; done) | rfl
def Qrmcd (Z : State) (a3 : Addr) (k3 : ClassId) (vs : List Value) (nn : Int32) (h0 : Heap) (n0 : Nat) (v : Option Value) (h : Heap) (L : List Loc) : Prop := v = some (.int 0) ∧ Fr n0 L ∧ h = h0
theorem rmcd (l : Launch) (Z : State) (a0 : Array Value) (hw : HW a0 Z) (ws : List Jvm.Cond) (a3 : Addr) (k3 : ClassId) (vs : List Value) (nn : Int32) (h0 : Heap) (n0 : Nat) (Z0 : n0 ≤ h0.size) (V_a3 : Arv Z h0 a3 k3 .byte nn vs (.int 0)) :
    own_MF l (⟨cs8, "coderFromArrayLen", "([BI)B"⟩ : MethodName) cd50 2 (some .byte) ws (rom 0 0 0 0) #[(.ref a3), (.int nn)] Z h0 (Qrmcd Z a3 k3 vs nn h0 n0) := by
 refine own_body n0 (plainFor_of_name pn_50) (fun m => ef_rmcd m a3 nn) (fun p e s m below meth c s₁ hx hby hml hr2 hZ hown hnm X0 e0 N0 => ?_)
 refine ogo (mkF m 2 #[rv a3, iv nn] [(.ref a3), (.int nn)]) (fun _ k => XS.iloadN X0.here hx rfl (hb hby d50_0) rfl (XS.aloadN X0.here hx rfl (hb hby d50_1) rfl rfl k)) ?_
 obtain ⟨cl1, Ar1, -, Sz1, Nn1, -, -⟩ := id V_a3
 refine own_go (b := (s₁.setTop (mkF m 8 #[rv a3, iv nn] [(.int ((((nn - nn).toUInt32 >>> ((31 : Int32) &&& 31).toUInt32).toInt32).toInt8.toInt32))]))) (fun _ k => X0.arraylength hx (by rw [e0]; exact Ar1.1) (State.isArrayOf_alike hZ.alike Ar1.2.1) (g := (mkF m 2 #[rv a3, iv nn] [(.ref a3), (.int nn)])) rfl rfl (hb hby d50_2) _ (by rw [len_of Sz1 Nn1]; exact (XS.isub X0.here hx rfl (hb hby d50_3) rfl (XS.bipush X0.here hx rfl (hb hby d50_4) (XS.iushr X0.here hx rfl (hb hby d50_6) rfl (XS.i2b X0.here hx rfl (hb hby d50_7) rfl k)))))) ?_
 exact own_endN X0 hx hr2 (by simp) (hb hby d50_8) (by decide) (by decide) (by rw [e0]; exact ⟨(by rw [own_s0]; rfl), N0, rfl⟩)
theorem d47_0 : dk cd47 0 (.aload_n 0) 1 := by decide +kernel
theorem d47_1 : dk cd47 1 (.invokespecial 1) 3 := by decide +kernel
theorem d47_4 : dk cd47 4 (.iload_n 3) 1 := by decide +kernel
theorem d47_5 : dk cd47 5 (.ifCond .ne 22) 3 := by decide +kernel
theorem d47_27 : dk cd47 27 (.getstatic 38) 3 := by decide +kernel
theorem d47_30 : dk cd47 30 (.ifCond .eq 28) 3 := by decide +kernel
theorem d47_33 : dk cd47 33 (.aload_n 1) 1 := by decide +kernel
theorem d47_34 : dk cd47 34 (.iload_n 2) 1 := by decide +kernel
theorem d47_35 : dk cd47 35 (.iload_n 3) 1 := by decide +kernel
theorem d47_36 : dk cd47 36 (.invokestatic 177) 3 := by decide +kernel
theorem d47_39 : dk cd47 39 (.astore 5) 2 := by decide +kernel
theorem d47_41 : dk cd47 41 (.aload_n 0) 1 := by decide +kernel
theorem d47_42 : dk cd47 42 (.aload 5) 2 := by decide +kernel
theorem d47_44 : dk cd47 44 (.iload_n 3) 1 := by decide +kernel
theorem d47_45 : dk cd47 45 (.invokestatic 47) 3 := by decide +kernel
theorem d47_48 : dk cd47 48 (.putfield 15) 3 := by decide +kernel
theorem d47_51 : dk cd47 51 (.aload_n 0) 1 := by decide +kernel
theorem d47_52 : dk cd47 52 (.aload 5) 2 := by decide +kernel
theorem d47_54 : dk cd47 54 (.putfield 9) 3 := by decide +kernel
theorem d47_57 : dk cd47 57 .return_ 1 := by decide +kernel
theorem pd___CII__B : parseMethodDescriptor "([CII)[B" = some ⟨[(.array .char), .int, .int], some (.array .byte)⟩ := by decide +kernel
theorem pd___BI_B : parseMethodDescriptor "([BI)B" = some ⟨[(.array .byte), .int], some .byte⟩ := by decide +kernel
theorem pn_47 : plainName cs1 = true := by first | (simp [plainName, overriddenIn]; done) | decide +kernel
theorem ef_rms3 (m : MethodId) (x0 : Addr) (x1 : Addr) (x2 : Int32) (x3 : Int32) : entryFrame m #[(.ref x0), (.ref x1), (.int x2), (.int x3), .null] 6 = mkF m 0 #[rv x0, rv x1, iv x2, iv x3, .val .null, .unset] [] := by first | (simp [entryFrame, mkF, argsToLocals, Value.category]; done) | rfl
def Qrms3 (Z : State) (a1 a2 : Addr) (k2 : ClassId) (nn : Int32) (cl : List Int32) (cs : Int32) (h0 : Heap) (n0 : Nat) (v : Option Value) (h : Heap) (L : List Loc) : Prop := ∃ (b : Addr) (kb : ClassId), v = none ∧ Fr n0 L ∧ Keep h0 h [a1] ∧ (Fld Z h a1 cs1 "value" "[B" (.ref b)) ∧ (Fld Z h a1 cs1 "coder" "B" (.int 0)) ∧ (Arv Z h b kb .byte nn (cl.map own_LT) (.int 0))
theorem rms3 (l : Launch) (Z : State) (a0 : Array Value) (hw : HW a0 Z) (ws : List Jvm.Cond) (a1 a2 : Addr) (k2 : ClassId) (nn : Int32) (cl : List Int32) (cs : Int32) (h0 : Heap) (n0 : Nat) (Z0 : n0 ≤ h0.size) (O0 : Old Z n0 h0) (SC : Sta Z Z.heap cs1 "COMPACT_STRINGS" "Z" (.int cs)) (hcs : ¬ (cs = (0 : Int32))) (E_a1 : Exa Z h0 a1 cs1) (Fld_a1_value : Fld Z h0 a1 cs1 "value" "[B" .null) (Fld_a1_coder : Fld Z h0 a1 cs1 "coder" "B" (.int 0)) (g_a1 : n0 ≤ a1) (V_a2 : Arv Z h0 a2 k2 .char nn (cl.map Value.int) (.int 0)) (hl : cl.length = nn.toNatClampNeg) (hneg : ¬ (nn < (0 : Int32))) (h8 : ∀ z ∈ cl, ¬ ((255 : Int32) < z)) (hcap : nn.toNatClampNeg ≤ 24) (hnz : ¬ (nn = (0 : Int32))) :
    own_MF l (⟨cs1, "<init>", "([CIILjava/lang/Void;)V"⟩ : MethodName) cd47 6 none ws (rom 2 1 24 35) #[(.ref a1), (.ref a2), (.int 0), (.int nn), .null] Z h0 (Qrms3 Z a1 a2 k2 nn cl cs h0 n0) := by
 refine own_body n0 (plainFor_of_name pn_47) (fun m => ef_rms3 m a1 a2 (0 : Int32) nn) (fun p e s m below meth c s₁ hx hby hml hr2 hZ hown hnm X0 e0 N0 => ?_)
 refine ogo (mkF m 1 #[rv a1, rv a2, iv 0, iv nn, .val .null, .unset] [(.ref a1)]) (fun _ k => XS.aloadN X0.here hx rfl (hb hby d47_0) rfl rfl k) ?_
 obtain ⟨T1, X1, e1, st1⟩ := initO X0 hx hZ hown (ow hw 130 rfl) (ow hw 30 rfl) (ow hw 31 rfl) e0 (g := (mkF m 1 #[rv a1, rv a2, iv 0, iv nn, .val .null, .unset] [(.ref a1)])) rfl (by rw [hml]; rfl) rfl (hb hby d47_1) (by decide) (W := 0) (by show 2 * 0 + _ ≤ _; exact Nat.le_of_eq rfl) (by decide)
 refine ogo (mkF m 27 #[rv a1, rv a2, iv 0, iv nn, .val .null, .unset] []) (fun _ k => st1 _ (XS.iloadN X1.here hx rfl (hb hby d47_4) rfl (XS.ifYes X1.here hx rfl (pc0 := 5) (pc' := 27) rfl (hb hby d47_5) rfl ((if0 _ _).trans (feq hnz).2) (by decide) (by decide) k))) ?_
 obtain ⟨T2, X2, e2, st2⟩ := getS2 X1 hx hZ hown (host := "") (Or.inl (ow hw 54 rfl)) Via.refl e1 (SC.ext O0.2) (g := (mkF m 27 #[rv a1, rv a2, iv 0, iv nn, .val .null, .unset] [])) rfl (hb hby d47_27)
 refine ogo (mkF m 36 #[rv a1, rv a2, iv 0, iv nn, .val .null, .unset] [(.int nn), (.int 0), (.ref a2)]) (fun _ k => st2 _ (XS.ifNo X2.here hx rfl (hb hby d47_30) rfl ((if0 _ _).trans (feq hcs).1) (XS.aloadN X2.here hx rfl (hb hby d47_33) rfl rfl (XS.iloadN X2.here hx rfl (hb hby d47_34) rfl (XS.iloadN X2.here hx rfl (hb hby d47_35) rfl k))))) ?_
 refine own_stat (W := 0) X2 hx hZ hown e2 (ow hw 248 rfl) (ow hw 249 rfl) (rmc5 l Z a0 hw [] a2 k2 nn cl h0 n0 Z0 V_a2 hl hneg h8 hcap) (ow hw 251 rfl) (ow hw 250 rfl) rfl (by rw [hml]; rfl) rfl (hb hby d47_36) (lenOf pd___CII__B rfl) rfl (by decide) (fun T3 v3 Ll3 X3 hQ3 => ?_)
 obtain ⟨b_3, kb_3, rfl, N3q, K3, P3_0, P3_1⟩ := hQ3
 have N3 := Fr.app N0 N3q
 have Zs4 : n0 ≤ T3.heap.size := Nat.le_trans Z0 K3.1
 refine ogo (mkF m 45 #[rv a1, rv a2, iv 0, iv nn, .val .null, rv b_3] [(.int nn), (.ref b_3), (.ref a1)]) (fun _ k => XS.astore X3.here hx rfl (hb hby d47_39) rfl rfl (l' := #[rv a1, rv a2, iv 0, iv nn, .val .null, rv b_3]) rfl (XS.aloadN X3.here hx rfl (hb hby d47_41) rfl rfl (XS.aload X3.here hx rfl (hb hby d47_42) rfl rfl (XS.iloadN X3.here hx rfl (hb hby d47_44) rfl k)))) ?_
 refine own_stat (W := 1) X3 hx hZ hown rfl (ow hw 255 rfl) (ow hw 256 rfl) (rmcd l Z a0 hw [] b_3 kb_3 (cl.map own_LT) nn T3.heap n0 Zs4 P3_1) (ow hw 257 rfl) (ow hw 250 rfl) rfl (by rw [hml]; rfl) rfl (hb hby d47_45) (lenOf pd___BI_B rfl) rfl (by decide) (fun T5 v5 Ll5 X5 hQ5 => ?_)
 obtain ⟨rfl, N5q, eh5⟩ := hQ5
 have N5 := Fr.app N3 N5q
 have F6 := E_a1.keep K3
 have F7 := Fld_a1_coder.keep K3 nin0
 obtain ⟨T8, h8, X8, e8, W8, st8⟩ := putFN X5 hx hZ hown (ow hw 55 rfl) Via.refl eh5 F7 F6 (Or.inr ⟨(ow hw 41 rfl), rfl, hnm⟩) (ow hw 39 rfl) (ty := .byte) (v' := (.int 0)) (by decide) rfl (by decide) (g := (mkF m 48 #[rv a1, rv a2, iv 0, iv nn, .val .null, rv b_3] [(.int 0), (.ref a1)])) rfl rfl (hb hby d47_48)
 have N8 := Fr.snoc X8 N5 g_a1
 have Zs9 : n0 ≤ h8.size := Nat.le_trans Zs4 (Keep.of_wr W8).1
 have F8 : Fld Z h8 a1 cs1 "coder" "B" (.int 0) := F7.same W8
 refine ogo (mkF m 54 #[rv a1, rv a2, iv 0, iv nn, .val .null, rv b_3] [(.ref b_3), (.ref a1)]) (fun _ k => st8 _ (XS.aloadN X8.here hx rfl (hb hby d47_51) rfl rfl (XS.aload X8.here hx rfl (hb hby d47_52) rfl rfl k))) ?_
 have F10 := F6.wr W8
 have F11 := Fld_a1_value.keep K3 nin0
 have F12 := F11.other W8 (Or.inr (slot_ne (Or.inr (ow hw 40 rfl)) (Or.inr (ow hw 41 rfl)) (by decide) (t := (.array .byte)) (t' := .byte) (by decide) (by decide)))
 obtain ⟨T13, h13, X13, e13, W13, st13⟩ := putF X8 hx hZ hown (host := "") (Or.inl (ow hw 56 rfl)) Via.refl e8 F12 F10 (Or.inr ⟨(ow hw 40 rfl), rfl, hnm⟩) (ow hw 39 rfl) (ty := (.array .byte)) (by decide) rfl rfl (g := (mkF m 54 #[rv a1, rv a2, iv 0, iv nn, .val .null, rv b_3] [(.ref b_3), (.ref a1)])) rfl rfl (hb hby d47_54)
 have N13 := Fr.snoc X13 N8 g_a1
 have Zs14 : n0 ≤ h13.size := Nat.le_trans Zs9 (Keep.of_wr W13).1
 have F13 : Fld Z h13 a1 cs1 "value" "[B" (.ref b_3) := F12.same W13
 refine ogo (mkF m 57 #[rv a1, rv a2, iv 0, iv nn, .val .null, rv b_3] []) (fun _ k => st13 _ k) ?_
 have K15 := (Keep.refl h0 [a1]).trans K3 all0
 have K16 := K15.wr W8 (Or.inl (List.mem_of_getElem? (i := 0) rfl))
 have K17 := K16.wr W13 (Or.inl (List.mem_of_getElem? (i := 0) rfl))
 have F18 := F8.other W13 (Or.inr (slot_ne (Or.inr (ow hw 41 rfl)) (Or.inr (ow hw 40 rfl)) (by decide) (t := .byte) (t' := (.array .byte)) (by decide) (by decide)))
 have nx19 : b_3 ≠ a1 := (Ne.symm (own_ne E_a1.lt (Nat.le_refl _) P3_0))
 have F20 := P3_1.other W8 nx19
 have F21 := F20.other W13 nx19
 exact own_endV X13 hx hr2 (hb hby d47_57) (by decide) (by decide) (by rw [e13]; exact ⟨b_3, kb_3, rfl, N13, K17, F13, F18, F21⟩)
theorem d46_0 : dk cd46 0 (.aload_n 0) 1 := by decide +kernel
theorem d46_1 : dk cd46 1 (.aload_n 1) 1 := by decide +kernel
theorem d46_2 : dk cd46 2 (.iconst 0) 1 := by decide +kernel
theorem d46_3 : dk cd46 3 (.aload_n 1) 1 := by decide +kernel
theorem d46_4 : dk cd46 4 .arraylength 1 := by decide +kernel
theorem d46_5 : dk cd46 5 .aconst_null 1 := by decide +kernel
theorem d46_6 : dk cd46 6 (.invokespecial 27) 3 := by decide +kernel
theorem d46_9 : dk cd46 9 .return_ 1 := by decide +kernel
theorem pd___CIILjava_lang_Void__V : parseMethodDescriptor "([CIILjava/lang/Void;)V" = some ⟨[(.array .char), .int, .int, (.object "java/lang/Void")], none⟩ := by decide +kernel
theorem pn_46 : plainName cs1 = true := by first | (simp [plainName, overriddenIn]; done) | decide +kernel
theorem ef_rms2 (m : MethodId) (x0 : Addr) (x1 : Addr) : entryFrame m #[(.ref x0), (.ref x1)] 2 = mkF m 0 #[rv x0, rv x1] [] := by first | (simp [entryFrame, mkF, argsToLocals, Value.category]; done) | rfl
def Qrms2 (Z : State) (a1 a2 : Addr) (k2 : ClassId) (nn : Int32) (cl : List Int32) (cs : Int32) (h0 : Heap) (n0 : Nat) (v : Option Value) (h : Heap) (L : List Loc) : Prop := ∃ (b : Addr) (kb : ClassId), v = none ∧ Fr n0 L ∧ Keep h0 h [a1] ∧ (Fld Z h a1 cs1 "value" "[B" (.ref b)) ∧ (Fld Z h a1 cs1 "coder" "B" (.int 0)) ∧ (Arv Z h b kb .byte nn (cl.map own_LT) (.int 0))
theorem rms2 (l : Launch) (Z : State) (a0 : Array Value) (hw : HW a0 Z) (ws : List Jvm.Cond) (a1 a2 : Addr) (k2 : ClassId) (nn : Int32) (cl : List Int32) (cs : Int32) (h0 : Heap) (n0 : Nat) (Z0 : n0 ≤ h0.size) (O0 : Old Z n0 h0) (SC : Sta Z Z.heap cs1 "COMPACT_STRINGS" "Z" (.int cs)) (hcs : ¬ (cs = (0 : Int32))) (E_a1 : Exa Z h0 a1 cs1) (Fld_a1_value : Fld Z h0 a1 cs1 "value" "[B" .null) (Fld_a1_coder : Fld Z h0 a1 cs1 "coder" "B" (.int 0)) (g_a1 : n0 ≤ a1) (V_a2 : Arv Z h0 a2 k2 .char nn (cl.map Value.int) (.int 0)) (hl : cl.length = nn.toNatClampNeg) (hneg : ¬ (nn < (0 : Int32))) (h8 : ∀ z ∈ cl, ¬ ((255 : Int32) < z)) (hcap : nn.toNatClampNeg ≤ 24) (hnz : ¬ (nn = (0 : Int32))) :
    own_MF l (⟨cs1, "<init>", "([C)V"⟩ : MethodName) cd46 2 none ws (rom 3 1 24 52) #[(.ref a1), (.ref a2)] Z h0 (Qrms2 Z a1 a2 k2 nn cl cs h0 n0) := by
 refine own_body n0 (plainFor_of_name pn_46) (fun m => ef_rms2 m a1 a2) (fun p e s m below meth c s₁ hx hby hml hr2 hZ hown hnm X0 e0 N0 => ?_)
 refine ogo (mkF m 4 #[rv a1, rv a2] [(.ref a2), (.int 0), (.ref a2), (.ref a1)]) (fun _ k => XS.aloadN X0.here hx rfl (hb hby d46_0) rfl rfl (XS.aloadN X0.here hx rfl (hb hby d46_1) rfl rfl (XS.iconst X0.here hx rfl (hb hby d46_2) (XS.aloadN X0.here hx rfl (hb hby d46_3) rfl rfl k)))) ?_
 obtain ⟨cl1, Ar1, -, Sz1, Nn1, -, -⟩ := id V_a2
 refine own_go (b := (s₁.setTop (mkF m 6 #[rv a1, rv a2] [.null, (.int nn), (.int 0), (.ref a2), (.ref a1)]))) (fun _ k => X0.arraylength hx (by rw [e0]; exact Ar1.1) (State.isArrayOf_alike hZ.alike Ar1.2.1) (g := (mkF m 4 #[rv a1, rv a2] [(.ref a2), (.int 0), (.ref a2), (.ref a1)])) rfl rfl (hb hby d46_4) _ (by rw [len_of Sz1 Nn1]; exact (XS.aconstNull X0.here hx rfl (hb hby d46_5) k))) ?_
 refine own_spec (W := 0) X0 hx hZ hown e0 (ow hw 245 rfl) (ow hw 246 rfl) (rms3 l Z a0 hw [] a1 a2 k2 nn cl cs h0 n0 Z0 O0 SC hcs E_a1 Fld_a1_value Fld_a1_coder g_a1 V_a2 hl hneg h8 hcap hnz) (ow hw 247 rfl) (ow hw 33 rfl) rfl (by rw [hml]; rfl) rfl (hb hby d46_6) (lenOf pd___CIILjava_lang_Void__V rfl) rfl rfl (by decide) (fun T2 v2 Ll2 X2 hQ2 => ?_)
 obtain ⟨b_2, kb_2, rfl, N2q, K2, P2_0, P2_1, P2_2⟩ := hQ2
 have N2 := Fr.app N0 N2q
 have Zs3 : n0 ≤ T2.heap.size := Nat.le_trans Z0 K2.1
 have K4 := (Keep.refl h0 [a1]).trans K2 (allS (Or.inl (List.mem_of_getElem? (i := 0) rfl)) all0)
 exact own_endV X2 hx hr2 (hb hby d46_9) (by decide) (by decide) (by exact ⟨b_2, kb_2, rfl, N2, K4, P2_0, P2_1, P2_2⟩)
theorem d39_0 : dk cd39 0 (.aload_n 1) 1 := by decide +kernel
theorem d39_1 : dk cd39 1 (.iconst 0) 1 := by decide +kernel
theorem d39_2 : dk cd39 2 (.aload_n 0) 1 := by decide +kernel
theorem d39_3 : dk cd39 3 (.iconst 0) 1 := by decide +kernel
theorem d39_4 : dk cd39 4 (.invokevirtual 19) 3 := by decide +kernel
theorem d39_7 : dk cd39 7 .castore 1 := by decide +kernel
theorem d39_8 : dk cd39 8 (.aload_n 1) 1 := by decide +kernel
theorem d39_9 : dk cd39 9 (.iconst 1) 1 := by decide +kernel
theorem d39_10 : dk cd39 10 (.aload_n 0) 1 := by decide +kernel
theorem d39_11 : dk cd39 11 (.iconst 1) 1 := by decide +kernel
theorem d39_12 : dk cd39 12 (.invokevirtual 19) 3 := by decide +kernel
theorem d39_15 : dk cd39 15 .castore 1 := by decide +kernel
theorem d39_16 : dk cd39 16 (.aload_n 1) 1 := by decide +kernel
theorem d39_17 : dk cd39 17 (.iconst 2) 1 := by decide +kernel
theorem d39_18 : dk cd39 18 (.aload_n 0) 1 := by decide +kernel
theorem d39_19 : dk cd39 19 (.iconst 2) 1 := by decide +kernel
theorem d39_20 : dk cd39 20 (.invokevirtual 19) 3 := by decide +kernel
theorem d39_23 : dk cd39 23 .castore 1 := by decide +kernel
theorem d39_24 : dk cd39 24 (.aload_n 1) 1 := by decide +kernel
theorem d39_25 : dk cd39 25 (.iconst 3) 1 := by decide +kernel
theorem d39_26 : dk cd39 26 (.aload_n 0) 1 := by decide +kernel
theorem d39_27 : dk cd39 27 (.iconst 3) 1 := by decide +kernel
theorem d39_28 : dk cd39 28 (.invokevirtual 19) 3 := by decide +kernel
theorem d39_31 : dk cd39 31 .castore 1 := by decide +kernel
theorem d39_32 : dk cd39 32 (.aload_n 1) 1 := by decide +kernel
theorem d39_33 : dk cd39 33 (.iconst 4) 1 := by decide +kernel
theorem d39_34 : dk cd39 34 (.aload_n 0) 1 := by decide +kernel
theorem d39_35 : dk cd39 35 (.iconst 4) 1 := by decide +kernel
theorem d39_36 : dk cd39 36 (.invokevirtual 19) 3 := by decide +kernel
theorem d39_39 : dk cd39 39 .castore 1 := by decide +kernel
theorem d39_40 : dk cd39 40 (.aload_n 1) 1 := by decide +kernel
theorem d39_41 : dk cd39 41 (.iconst 5) 1 := by decide +kernel
theorem d39_42 : dk cd39 42 (.aload_n 0) 1 := by decide +kernel
theorem d39_43 : dk cd39 43 (.iconst 5) 1 := by decide +kernel
theorem d39_44 : dk cd39 44 (.invokevirtual 19) 3 := by decide +kernel
theorem d39_47 : dk cd39 47 .castore 1 := by decide +kernel
theorem d39_48 : dk cd39 48 (.aload_n 1) 1 := by decide +kernel
theorem d39_49 : dk cd39 49 (.bipush 6) 2 := by decide +kernel
theorem d39_51 : dk cd39 51 (.aload_n 0) 1 := by decide +kernel
theorem d39_52 : dk cd39 52 (.bipush 6) 2 := by decide +kernel
theorem d39_54 : dk cd39 54 (.invokevirtual 19) 3 := by decide +kernel
theorem d39_57 : dk cd39 57 .castore 1 := by decide +kernel
theorem d39_58 : dk cd39 58 (.aload_n 1) 1 := by decide +kernel
theorem d39_59 : dk cd39 59 (.bipush 7) 2 := by decide +kernel
theorem d39_61 : dk cd39 61 (.aload_n 0) 1 := by decide +kernel
theorem d39_62 : dk cd39 62 (.bipush 7) 2 := by decide +kernel
theorem d39_64 : dk cd39 64 (.invokevirtual 19) 3 := by decide +kernel
theorem d39_67 : dk cd39 67 .castore 1 := by decide +kernel
theorem d39_68 : dk cd39 68 (.aload_n 1) 1 := by decide +kernel
theorem d39_69 : dk cd39 69 (.bipush 8) 2 := by decide +kernel
theorem d39_71 : dk cd39 71 (.aload_n 0) 1 := by decide +kernel
theorem d39_72 : dk cd39 72 (.bipush 8) 2 := by decide +kernel
theorem d39_74 : dk cd39 74 (.invokevirtual 19) 3 := by decide +kernel
theorem d39_77 : dk cd39 77 .castore 1 := by decide +kernel
theorem d39_78 : dk cd39 78 (.aload_n 1) 1 := by decide +kernel
theorem d39_79 : dk cd39 79 (.bipush 9) 2 := by decide +kernel
theorem d39_81 : dk cd39 81 (.aload_n 0) 1 := by decide +kernel
theorem d39_82 : dk cd39 82 (.bipush 9) 2 := by decide +kernel
theorem d39_84 : dk cd39 84 (.invokevirtual 19) 3 := by decide +kernel
theorem d39_87 : dk cd39 87 .castore 1 := by decide +kernel
theorem d39_88 : dk cd39 88 (.aload_n 1) 1 := by decide +kernel
theorem d39_89 : dk cd39 89 (.bipush 10) 2 := by decide +kernel
theorem d39_91 : dk cd39 91 (.aload_n 0) 1 := by decide +kernel
theorem d39_92 : dk cd39 92 (.bipush 10) 2 := by decide +kernel
theorem d39_94 : dk cd39 94 (.invokevirtual 19) 3 := by decide +kernel
theorem d39_97 : dk cd39 97 .castore 1 := by decide +kernel
theorem d39_98 : dk cd39 98 (.aload_n 1) 1 := by decide +kernel
theorem d39_99 : dk cd39 99 (.bipush 11) 2 := by decide +kernel
theorem d39_101 : dk cd39 101 (.aload_n 0) 1 := by decide +kernel
theorem d39_102 : dk cd39 102 (.bipush 11) 2 := by decide +kernel
theorem d39_104 : dk cd39 104 (.invokevirtual 19) 3 := by decide +kernel
theorem d39_107 : dk cd39 107 .castore 1 := by decide +kernel
theorem d39_108 : dk cd39 108 (.aload_n 1) 1 := by decide +kernel
theorem d39_109 : dk cd39 109 (.bipush 12) 2 := by decide +kernel
theorem d39_111 : dk cd39 111 (.aload_n 0) 1 := by decide +kernel
theorem d39_112 : dk cd39 112 (.bipush 12) 2 := by decide +kernel
theorem d39_114 : dk cd39 114 (.invokevirtual 19) 3 := by decide +kernel
theorem d39_117 : dk cd39 117 .castore 1 := by decide +kernel
theorem d39_118 : dk cd39 118 (.aload_n 1) 1 := by decide +kernel
theorem d39_119 : dk cd39 119 (.bipush 13) 2 := by decide +kernel
theorem d39_121 : dk cd39 121 (.aload_n 0) 1 := by decide +kernel
theorem d39_122 : dk cd39 122 (.bipush 13) 2 := by decide +kernel
theorem d39_124 : dk cd39 124 (.invokevirtual 19) 3 := by decide +kernel
theorem d39_127 : dk cd39 127 .castore 1 := by decide +kernel
theorem d39_128 : dk cd39 128 (.aload_n 1) 1 := by decide +kernel
theorem d39_129 : dk cd39 129 (.bipush 14) 2 := by decide +kernel
theorem d39_131 : dk cd39 131 (.aload_n 0) 1 := by decide +kernel
theorem d39_132 : dk cd39 132 (.bipush 14) 2 := by decide +kernel
theorem d39_134 : dk cd39 134 (.invokevirtual 19) 3 := by decide +kernel
theorem d39_137 : dk cd39 137 .castore 1 := by decide +kernel
theorem d39_138 : dk cd39 138 (.aload_n 1) 1 := by decide +kernel
theorem d39_139 : dk cd39 139 (.bipush 15) 2 := by decide +kernel
theorem d39_141 : dk cd39 141 (.aload_n 0) 1 := by decide +kernel
theorem d39_142 : dk cd39 142 (.bipush 15) 2 := by decide +kernel
theorem d39_144 : dk cd39 144 (.invokevirtual 19) 3 := by decide +kernel
theorem d39_147 : dk cd39 147 .castore 1 := by decide +kernel
theorem d39_148 : dk cd39 148 (.aload_n 1) 1 := by decide +kernel
theorem d39_149 : dk cd39 149 (.bipush 16) 2 := by decide +kernel
theorem d39_151 : dk cd39 151 (.aload_n 0) 1 := by decide +kernel
theorem d39_152 : dk cd39 152 (.bipush 16) 2 := by decide +kernel
theorem d39_154 : dk cd39 154 (.invokevirtual 19) 3 := by decide +kernel
theorem d39_157 : dk cd39 157 .castore 1 := by decide +kernel
theorem d39_158 : dk cd39 158 (.aload_n 1) 1 := by decide +kernel
theorem d39_159 : dk cd39 159 (.bipush 17) 2 := by decide +kernel
theorem d39_161 : dk cd39 161 (.aload_n 0) 1 := by decide +kernel
theorem d39_162 : dk cd39 162 (.bipush 17) 2 := by decide +kernel
theorem d39_164 : dk cd39 164 (.invokevirtual 19) 3 := by decide +kernel
theorem d39_167 : dk cd39 167 .castore 1 := by decide +kernel
theorem d39_168 : dk cd39 168 (.aload_n 1) 1 := by decide +kernel
theorem d39_169 : dk cd39 169 (.bipush 18) 2 := by decide +kernel
theorem d39_171 : dk cd39 171 (.aload_n 0) 1 := by decide +kernel
theorem d39_172 : dk cd39 172 (.bipush 18) 2 := by decide +kernel
theorem d39_174 : dk cd39 174 (.invokevirtual 19) 3 := by decide +kernel
theorem d39_177 : dk cd39 177 .castore 1 := by decide +kernel
theorem d39_178 : dk cd39 178 (.aload_n 1) 1 := by decide +kernel
theorem d39_179 : dk cd39 179 (.bipush 19) 2 := by decide +kernel
theorem d39_181 : dk cd39 181 (.aload_n 0) 1 := by decide +kernel
theorem d39_182 : dk cd39 182 (.bipush 19) 2 := by decide +kernel
theorem d39_184 : dk cd39 184 (.invokevirtual 19) 3 := by decide +kernel
theorem d39_187 : dk cd39 187 .castore 1 := by decide +kernel
theorem d39_188 : dk cd39 188 (.aload_n 1) 1 := by decide +kernel
theorem d39_189 : dk cd39 189 (.bipush 20) 2 := by decide +kernel
theorem d39_191 : dk cd39 191 (.aload_n 0) 1 := by decide +kernel
theorem d39_192 : dk cd39 192 (.bipush 20) 2 := by decide +kernel
theorem d39_194 : dk cd39 194 (.invokevirtual 19) 3 := by decide +kernel
theorem d39_197 : dk cd39 197 .castore 1 := by decide +kernel
theorem d39_198 : dk cd39 198 (.aload_n 1) 1 := by decide +kernel
theorem d39_199 : dk cd39 199 (.bipush 21) 2 := by decide +kernel
theorem d39_201 : dk cd39 201 (.aload_n 0) 1 := by decide +kernel
theorem d39_202 : dk cd39 202 (.bipush 21) 2 := by decide +kernel
theorem d39_204 : dk cd39 204 (.invokevirtual 19) 3 := by decide +kernel
theorem d39_207 : dk cd39 207 .castore 1 := by decide +kernel
theorem d39_208 : dk cd39 208 .return_ 1 := by decide +kernel
theorem pn_39 : plainName cs5 = true := by first | (simp [plainName, overriddenIn]; done) | decide +kernel
theorem ef_rmcp (m : MethodId) (x0 : Addr) (x1 : Addr) : entryFrame m #[(.ref x0), (.ref x1)] 2 = mkF m 0 #[rv x0, rv x1] [] := by first | (simp [entryFrame, mkF, argsToLocals, Value.category]; done) | rfl
def Qrmcp (Z : State) (a1 u1 : Addr) (ku : ClassId) (y0 y1 y2 y3 y4 y5 y6 y7 y8 y9 y10 y11 y12 y13 y14 y15 y16 y17 y18 y19 y20 y21 y22 : Int32) (a2 : Addr) (k2 : ClassId) (nn cs : Int32) (fv : Value) (h0 : Heap) (n0 : Nat) (v : Option Value) (h : Heap) (L : List Loc) : Prop := v = none ∧ Fr n0 L ∧ Keep h0 h [a2] ∧ (Arv Z h a2 k2 .char nn [(.int (own_k y0)), (.int (own_k y1)), (.int (own_k y2)), (.int (own_k y3)), (.int (own_k y4)), (.int (own_k y5)), (.int (own_k y6)), (.int (own_k y7)), (.int (own_k y8)), (.int (own_k y9)), (.int (own_k y10)), (.int (own_k y11)), (.int (own_k y12)), (.int (own_k y13)), (.int (own_k y14)), (.int (own_k y15)), (.int (own_k y16)), (.int (own_k y17)), (.int (own_k y18)), (.int (own_k y19)), (.int (own_k y20)), (.int (own_k y21))] (.int 0))
theorem rmcp (l : Launch) (Z : State) (a0 : Array Value) (hw : HW a0 Z) (ws : List Jvm.Cond) (a1 u1 : Addr) (ku : ClassId) (y0 y1 y2 y3 y4 y5 y6 y7 y8 y9 y10 y11 y12 y13 y14 y15 y16 y17 y18 y19 y20 y21 y22 : Int32) (a2 : Addr) (k2 : ClassId) (nn cs : Int32) (fv : Value) (h0 : Heap) (n0 : Nat) (Z0 : n0 ≤ h0.size) (O0 : Old Z n0 h0) (SC : Sta Z Z.heap cs1 "COMPACT_STRINGS" "Z" (.int cs)) (hcs : ¬ (cs = (0 : Int32))) (SF : Sta Z Z.heap cs4 "SIOOBE_FORMATTER" "Ljava/util/function/BiFunction;" fv) (hfv : fv = .null ∨ ∃ x : Addr, fv = .ref x) (E_a1 : Exa Z h0 a1 cs1) (Fld_a1_coder : Fld Z h0 a1 cs1 "coder" "B" (.int 0)) (Fld_a1_value : Fld Z h0 a1 cs1 "value" "[B" (.ref u1)) (V_u1 : Arv Z h0 u1 ku .byte (23 : Int32) [(.int y0), (.int y1), (.int y2), (.int y3), (.int y4), (.int y5), (.int y6), (.int y7), (.int y8), (.int y9), (.int y10), (.int y11), (.int y12), (.int y13), (.int y14), (.int y15), (.int y16), (.int y17), (.int y18), (.int y19), (.int y20), (.int y21), (.int y22)] (.int 0)) (V_a2 : Arv Z h0 a2 k2 .char nn [] (.int 0)) (g_a2 : n0 ≤ a2) (ne_u1_a2 : u1 ≠ a2) (hnn : (21 : Int32) < nn) :
    own_MF l (⟨cs5, "copy22", "(Ljava/lang/String;[C)V"⟩ : MethodName) cd39 2 none ws (rom 4 0 0 55) #[(.ref a1), (.ref a2)] Z h0 (Qrmcp Z a1 u1 ku y0 y1 y2 y3 y4 y5 y6 y7 y8 y9 y10 y11 y12 y13 y14 y15 y16 y17 y18 y19 y20 y21 y22 a2 k2 nn cs fv h0 n0) := by
 refine own_body n0 (plainFor_of_name pn_39) (fun m => ef_rmcp m a1 a2) (fun p e s m below meth c s₁ hx hby hml hr2 hZ hown hnm X0 e0 N0 => ?_)
 refine ogo (mkF m 4 #[rv a1, rv a2] [(.int 0), (.ref a1), (.int 0), (.ref a2)]) (fun _ k => XS.aloadN X0.here hx rfl (hb hby d39_0) rfl rfl (XS.iconst X0.here hx rfl (hb hby d39_1) (XS.aloadN X0.here hx rfl (hb hby d39_2) rfl rfl (XS.iconst X0.here hx rfl (hb hby d39_3) k)))) ?_
 refine own_virt (W := 2) X0 hx hZ hown e0 (ow hw 211 rfl) (ow hw 45 rfl) (ow hw 47 rfl) (ow hw 46 rfl) (rmca l Z a0 hw [] a1 u1 ku _ (0 : Int32) (23 : Int32) cs fv h0 n0 Z0 O0 SC hcs SF hfv E_a1 Fld_a1_coder Fld_a1_value V_u1 (by decide) (by decide)) (ow hw 48 rfl) (ow hw 33 rfl) E_a1 rfl (by rw [hml]; rfl) rfl (hb hby d39_4) (lenOf pd__I_C rfl) rfl (by decide) (fun T1 v1 Ll1 X1 hQ1 => ?_)
 obtain ⟨rfl, N1q, eh1⟩ := hQ1
 have N1 := Fr.app N0 N1q
 refine own_casP X1 hx hZ eh1 N1 Z0 g_a2 V_a2 ⟨by decide, own_lt22 hnn (by decide)⟩ rfl rfl rfl (hb hby d39_7) (fun T2 h2 lo2 X2 e2 N2 W2 Zs2 V2 => ?_)
 refine ogo (mkF m 12 #[rv a1, rv a2] [(.int 1), (.ref a1), (.int 1), (.ref a2)]) (fun _ k => XS.aloadN X2.here hx rfl (hb hby d39_8) rfl rfl (XS.iconst X2.here hx rfl (hb hby d39_9) (XS.aloadN X2.here hx rfl (hb hby d39_10) rfl rfl (XS.iconst X2.here hx rfl (hb hby d39_11) k)))) ?_
 have O4 := O0.wr W2 g_a2
 have F5 := E_a1.wr W2
 obtain ⟨cn6, An6, -⟩ := id V_a2
 have nx7 : a1 ≠ a2 := (ne_arr E_a1 (ow hw 39 rfl) An6)
 have F8 := Fld_a1_coder.other W2 (Or.inl nx7)
 have F9 := Fld_a1_value.other W2 (Or.inl nx7)
 have F10 := V_u1.other W2 ne_u1_a2
 refine own_virt (W := 2) X2 hx hZ hown e2 (ow hw 211 rfl) (ow hw 45 rfl) (ow hw 47 rfl) (ow hw 46 rfl) (rmca l Z a0 hw [] a1 u1 ku _ (1 : Int32) (23 : Int32) cs fv h2 n0 Zs2 O4 SC hcs SF hfv F5 F8 F9 F10 (by decide) (by decide)) (ow hw 48 rfl) (ow hw 33 rfl) F5 rfl (by rw [hml]; rfl) rfl (hb hby d39_12) (lenOf pd__I_C rfl) rfl (by decide) (fun T3 v3 Ll3 X3 hQ3 => ?_)
 obtain ⟨rfl, N3q, eh3⟩ := hQ3
 have N3 := Fr.app N2 N3q
 refine own_casP X3 hx hZ eh3 N3 Zs2 g_a2 V2 ⟨by decide, own_lt22 hnn (by decide)⟩ rfl rfl rfl (hb hby d39_15) (fun T11 h11 lo11 X11 e11 N11 W11 Zs11 V11 => ?_)
 have V11 : Arv Z h11 a2 k2 .char nn [(.int (own_k y0)), (.int (own_k y1))] (.int 0) := V11
 refine ogo (mkF m 20 #[rv a1, rv a2] [(.int 2), (.ref a1), (.int 2), (.ref a2)]) (fun _ k => XS.aloadN X11.here hx rfl (hb hby d39_16) rfl rfl (XS.iconst X11.here hx rfl (hb hby d39_17) (XS.aloadN X11.here hx rfl (hb hby d39_18) rfl rfl (XS.iconst X11.here hx rfl (hb hby d39_19) k)))) ?_
 have O13 := O4.wr W11 g_a2
 have F14 := F5.wr W11
 have F15 := F8.other W11 (Or.inl nx7)
 have F16 := F9.other W11 (Or.inl nx7)
 have F17 := F10.other W11 ne_u1_a2
 refine own_virt (W := 2) X11 hx hZ hown e11 (ow hw 211 rfl) (ow hw 45 rfl) (ow hw 47 rfl) (ow hw 46 rfl) (rmca l Z a0 hw [] a1 u1 ku _ (2 : Int32) (23 : Int32) cs fv h11 n0 Zs11 O13 SC hcs SF hfv F14 F15 F16 F17 (by decide) (by decide)) (ow hw 48 rfl) (ow hw 33 rfl) F14 rfl (by rw [hml]; rfl) rfl (hb hby d39_20) (lenOf pd__I_C rfl) rfl (by decide) (fun T12 v12 Ll12 X12 hQ12 => ?_)
 obtain ⟨rfl, N12q, eh12⟩ := hQ12
 have N12 := Fr.app N11 N12q
 refine own_casP X12 hx hZ eh12 N12 Zs11 g_a2 V11 ⟨by decide, own_lt22 hnn (by decide)⟩ rfl rfl rfl (hb hby d39_23) (fun T18 h18 lo18 X18 e18 N18 W18 Zs18 V18 => ?_)
 have V18 : Arv Z h18 a2 k2 .char nn [(.int (own_k y0)), (.int (own_k y1)), (.int (own_k y2))] (.int 0) := V18
 refine ogo (mkF m 28 #[rv a1, rv a2] [(.int 3), (.ref a1), (.int 3), (.ref a2)]) (fun _ k => XS.aloadN X18.here hx rfl (hb hby d39_24) rfl rfl (XS.iconst X18.here hx rfl (hb hby d39_25) (XS.aloadN X18.here hx rfl (hb hby d39_26) rfl rfl (XS.iconst X18.here hx rfl (hb hby d39_27) k)))) ?_
 have O20 := O13.wr W18 g_a2
 have F21 := F14.wr W18
 have F22 := F15.other W18 (Or.inl nx7)
 have F23 := F16.other W18 (Or.inl nx7)
 have F24 := F17.other W18 ne_u1_a2
 refine own_virt (W := 2) X18 hx hZ hown e18 (ow hw 211 rfl) (ow hw 45 rfl) (ow hw 47 rfl) (ow hw 46 rfl) (rmca l Z a0 hw [] a1 u1 ku _ (3 : Int32) (23 : Int32) cs fv h18 n0 Zs18 O20 SC hcs SF hfv F21 F22 F23 F24 (by decide) (by decide)) (ow hw 48 rfl) (ow hw 33 rfl) F21 rfl (by rw [hml]; rfl) rfl (hb hby d39_28) (lenOf pd__I_C rfl) rfl (by decide) (fun T19 v19 Ll19 X19 hQ19 => ?_)
 obtain ⟨rfl, N19q, eh19⟩ := hQ19
 have N19 := Fr.app N18 N19q
 refine own_casP X19 hx hZ eh19 N19 Zs18 g_a2 V18 ⟨by decide, own_lt22 hnn (by decide)⟩ rfl rfl rfl (hb hby d39_31) (fun T25 h25 lo25 X25 e25 N25 W25 Zs25 V25 => ?_)
 have V25 : Arv Z h25 a2 k2 .char nn [(.int (own_k y0)), (.int (own_k y1)), (.int (own_k y2)), (.int (own_k y3))] (.int 0) := V25
 refine ogo (mkF m 36 #[rv a1, rv a2] [(.int 4), (.ref a1), (.int 4), (.ref a2)]) (fun _ k => XS.aloadN X25.here hx rfl (hb hby d39_32) rfl rfl (XS.iconst X25.here hx rfl (hb hby d39_33) (XS.aloadN X25.here hx rfl (hb hby d39_34) rfl rfl (XS.iconst X25.here hx rfl (hb hby d39_35) k)))) ?_
 have O27 := O20.wr W25 g_a2
 have F28 := F21.wr W25
 have F29 := F22.other W25 (Or.inl nx7)
 have F30 := F23.other W25 (Or.inl nx7)
 have F31 := F24.other W25 ne_u1_a2
 refine own_virt (W := 2) X25 hx hZ hown e25 (ow hw 211 rfl) (ow hw 45 rfl) (ow hw 47 rfl) (ow hw 46 rfl) (rmca l Z a0 hw [] a1 u1 ku _ (4 : Int32) (23 : Int32) cs fv h25 n0 Zs25 O27 SC hcs SF hfv F28 F29 F30 F31 (by decide) (by decide)) (ow hw 48 rfl) (ow hw 33 rfl) F28 rfl (by rw [hml]; rfl) rfl (hb hby d39_36) (lenOf pd__I_C rfl) rfl (by decide) (fun T26 v26 Ll26 X26 hQ26 => ?_)
 obtain ⟨rfl, N26q, eh26⟩ := hQ26
 have N26 := Fr.app N25 N26q
 refine own_casP X26 hx hZ eh26 N26 Zs25 g_a2 V25 ⟨by decide, own_lt22 hnn (by decide)⟩ rfl rfl rfl (hb hby d39_39) (fun T32 h32 lo32 X32 e32 N32 W32 Zs32 V32 => ?_)
 have V32 : Arv Z h32 a2 k2 .char nn [(.int (own_k y0)), (.int (own_k y1)), (.int (own_k y2)), (.int (own_k y3)), (.int (own_k y4))] (.int 0) := V32
 refine ogo (mkF m 44 #[rv a1, rv a2] [(.int 5), (.ref a1), (.int 5), (.ref a2)]) (fun _ k => XS.aloadN X32.here hx rfl (hb hby d39_40) rfl rfl (XS.iconst X32.here hx rfl (hb hby d39_41) (XS.aloadN X32.here hx rfl (hb hby d39_42) rfl rfl (XS.iconst X32.here hx rfl (hb hby d39_43) k)))) ?_
 have O34 := O27.wr W32 g_a2
 have F35 := F28.wr W32
 have F36 := F29.other W32 (Or.inl nx7)
 have F37 := F30.other W32 (Or.inl nx7)
 have F38 := F31.other W32 ne_u1_a2
 refine own_virt (W := 2) X32 hx hZ hown e32 (ow hw 211 rfl) (ow hw 45 rfl) (ow hw 47 rfl) (ow hw 46 rfl) (rmca l Z a0 hw [] a1 u1 ku _ (5 : Int32) (23 : Int32) cs fv h32 n0 Zs32 O34 SC hcs SF hfv F35 F36 F37 F38 (by decide) (by decide)) (ow hw 48 rfl) (ow hw 33 rfl) F35 rfl (by rw [hml]; rfl) rfl (hb hby d39_44) (lenOf pd__I_C rfl) rfl (by decide) (fun T33 v33 Ll33 X33 hQ33 => ?_)
 obtain ⟨rfl, N33q, eh33⟩ := hQ33
 have N33 := Fr.app N32 N33q
 refine own_casP X33 hx hZ eh33 N33 Zs32 g_a2 V32 ⟨by decide, own_lt22 hnn (by decide)⟩ rfl rfl rfl (hb hby d39_47) (fun T39 h39 lo39 X39 e39 N39 W39 Zs39 V39 => ?_)
 have V39 : Arv Z h39 a2 k2 .char nn [(.int (own_k y0)), (.int (own_k y1)), (.int (own_k y2)), (.int (own_k y3)), (.int (own_k y4)), (.int (own_k y5))] (.int 0) := V39
 refine ogo (mkF m 54 #[rv a1, rv a2] [(.int 6), (.ref a1), (.int 6), (.ref a2)]) (fun _ k => XS.aloadN X39.here hx rfl (hb hby d39_48) rfl rfl (XS.bipush X39.here hx rfl (hb hby d39_49) (XS.aloadN X39.here hx rfl (hb hby d39_51) rfl rfl (XS.bipush X39.here hx rfl (hb hby d39_52) k)))) ?_
 have O41 := O34.wr W39 g_a2
 have F42 := F35.wr W39
 have F43 := F36.other W39 (Or.inl nx7)
 have F44 := F37.other W39 (Or.inl nx7)
 have F45 := F38.other W39 ne_u1_a2
 refine own_virt (W := 2) X39 hx hZ hown e39 (ow hw 211 rfl) (ow hw 45 rfl) (ow hw 47 rfl) (ow hw 46 rfl) (rmca l Z a0 hw [] a1 u1 ku _ (6 : Int32) (23 : Int32) cs fv h39 n0 Zs39 O41 SC hcs SF hfv F42 F43 F44 F45 (by decide) (by decide)) (ow hw 48 rfl) (ow hw 33 rfl) F42 rfl (by rw [hml]; rfl) rfl (hb hby d39_54) (lenOf pd__I_C rfl) rfl (by decide) (fun T40 v40 Ll40 X40 hQ40 => ?_)
 obtain ⟨rfl, N40q, eh40⟩ := hQ40
 have N40 := Fr.app N39 N40q
 refine own_casP X40 hx hZ eh40 N40 Zs39 g_a2 V39 ⟨by decide, own_lt22 hnn (by decide)⟩ rfl rfl rfl (hb hby d39_57) (fun T46 h46 lo46 X46 e46 N46 W46 Zs46 V46 => ?_)
 have V46 : Arv Z h46 a2 k2 .char nn [(.int (own_k y0)), (.int (own_k y1)), (.int (own_k y2)), (.int (own_k y3)), (.int (own_k y4)), (.int (own_k y5)), (.int (own_k y6))] (.int 0) := V46
 refine ogo (mkF m 64 #[rv a1, rv a2] [(.int 7), (.ref a1), (.int 7), (.ref a2)]) (fun _ k => XS.aloadN X46.here hx rfl (hb hby d39_58) rfl rfl (XS.bipush X46.here hx rfl (hb hby d39_59) (XS.aloadN X46.here hx rfl (hb hby d39_61) rfl rfl (XS.bipush X46.here hx rfl (hb hby d39_62) k)))) ?_
 have O48 := O41.wr W46 g_a2
 have F49 := F42.wr W46
 have F50 := F43.other W46 (Or.inl nx7)
 have F51 := F44.other W46 (Or.inl nx7)
 have F52 := F45.other W46 ne_u1_a2
 refine own_virt (W := 2) X46 hx hZ hown e46 (ow hw 211 rfl) (ow hw 45 rfl) (ow hw 47 rfl) (ow hw 46 rfl) (rmca l Z a0 hw [] a1 u1 ku _ (7 : Int32) (23 : Int32) cs fv h46 n0 Zs46 O48 SC hcs SF hfv F49 F50 F51 F52 (by decide) (by decide)) (ow hw 48 rfl) (ow hw 33 rfl) F49 rfl (by rw [hml]; rfl) rfl (hb hby d39_64) (lenOf pd__I_C rfl) rfl (by decide) (fun T47 v47 Ll47 X47 hQ47 => ?_)
 obtain ⟨rfl, N47q, eh47⟩ := hQ47
 have N47 := Fr.app N46 N47q
 refine own_casP X47 hx hZ eh47 N47 Zs46 g_a2 V46 ⟨by decide, own_lt22 hnn (by decide)⟩ rfl rfl rfl (hb hby d39_67) (fun T53 h53 lo53 X53 e53 N53 W53 Zs53 V53 => ?_)
 have V53 : Arv Z h53 a2 k2 .char nn [(.int (own_k y0)), (.int (own_k y1)), (.int (own_k y2)), (.int (own_k y3)), (.int (own_k y4)), (.int (own_k y5)), (.int (own_k y6)), (.int (own_k y7))] (.int 0) := V53
 refine ogo (mkF m 74 #[rv a1, rv a2] [(.int 8), (.ref a1), (.int 8), (.ref a2)]) (fun _ k => XS.aloadN X53.here hx rfl (hb hby d39_68) rfl rfl (XS.bipush X53.here hx rfl (hb hby d39_69) (XS.aloadN X53.here hx rfl (hb hby d39_71) rfl rfl (XS.bipush X53.here hx rfl (hb hby d39_72) k)))) ?_
 have O55 := O48.wr W53 g_a2
 have F56 := F49.wr W53
 have F57 := F50.other W53 (Or.inl nx7)
 have F58 := F51.other W53 (Or.inl nx7)
 have F59 := F52.other W53 ne_u1_a2
 refine own_virt (W := 2) X53 hx hZ hown e53 (ow hw 211 rfl) (ow hw 45 rfl) (ow hw 47 rfl) (ow hw 46 rfl) (rmca l Z a0 hw [] a1 u1 ku _ (8 : Int32) (23 : Int32) cs fv h53 n0 Zs53 O55 SC hcs SF hfv F56 F57 F58 F59 (by decide) (by decide)) (ow hw 48 rfl) (ow hw 33 rfl) F56 rfl (by rw [hml]; rfl) rfl (hb hby d39_74) (lenOf pd__I_C rfl) rfl (by decide) (fun T54 v54 Ll54 X54 hQ54 => ?_)
 obtain ⟨rfl, N54q, eh54⟩ := hQ54
 have N54 := Fr.app N53 N54q
 refine own_casP X54 hx hZ eh54 N54 Zs53 g_a2 V53 ⟨by decide, own_lt22 hnn (by decide)⟩ rfl rfl rfl (hb hby d39_77) (fun T60 h60 lo60 X60 e60 N60 W60 Zs60 V60 => ?_)
 have V60 : Arv Z h60 a2 k2 .char nn [(.int (own_k y0)), (.int (own_k y1)), (.int (own_k y2)), (.int (own_k y3)), (.int (own_k y4)), (.int (own_k y5)), (.int (own_k y6)), (.int (own_k y7)), (.int (own_k y8))] (.int 0) := V60
 refine ogo (mkF m 84 #[rv a1, rv a2] [(.int 9), (.ref a1), (.int 9), (.ref a2)]) (fun _ k => XS.aloadN X60.here hx rfl (hb hby d39_78) rfl rfl (XS.bipush X60.here hx rfl (hb hby d39_79) (XS.aloadN X60.here hx rfl (hb hby d39_81) rfl rfl (XS.bipush X60.here hx rfl (hb hby d39_82) k)))) ?_
 have O62 := O55.wr W60 g_a2
 have F63 := F56.wr W60
 have F64 := F57.other W60 (Or.inl nx7)
 have F65 := F58.other W60 (Or.inl nx7)
 have F66 := F59.other W60 ne_u1_a2
 refine own_virt (W := 2) X60 hx hZ hown e60 (ow hw 211 rfl) (ow hw 45 rfl) (ow hw 47 rfl) (ow hw 46 rfl) (rmca l Z a0 hw [] a1 u1 ku _ (9 : Int32) (23 : Int32) cs fv h60 n0 Zs60 O62 SC hcs SF hfv F63 F64 F65 F66 (by decide) (by decide)) (ow hw 48 rfl) (ow hw 33 rfl) F63 rfl (by rw [hml]; rfl) rfl (hb hby d39_84) (lenOf pd__I_C rfl) rfl (by decide) (fun T61 v61 Ll61 X61 hQ61 => ?_)
 obtain ⟨rfl, N61q, eh61⟩ := hQ61
 have N61 := Fr.app N60 N61q
 refine own_casP X61 hx hZ eh61 N61 Zs60 g_a2 V60 ⟨by decide, own_lt22 hnn (by decide)⟩ rfl rfl rfl (hb hby d39_87) (fun T67 h67 lo67 X67 e67 N67 W67 Zs67 V67 => ?_)
 have V67 : Arv Z h67 a2 k2 .char nn [(.int (own_k y0)), (.int (own_k y1)), (.int (own_k y2)), (.int (own_k y3)), (.int (own_k y4)), (.int (own_k y5)), (.int (own_k y6)), (.int (own_k y7)), (.int (own_k y8)), (.int (own_k y9))] (.int 0) := V67
 refine ogo (mkF m 94 #[rv a1, rv a2] [(.int 10), (.ref a1), (.int 10), (.ref a2)]) (fun _ k => XS.aloadN X67.here hx rfl (hb hby d39_88) rfl rfl (XS.bipush X67.here hx rfl (hb hby d39_89) (XS.aloadN X67.here hx rfl (hb hby d39_91) rfl rfl (XS.bipush X67.here hx rfl (hb hby d39_92) k)))) ?_
 have O69 := O62.wr W67 g_a2
 have F70 := F63.wr W67
 have F71 := F64.other W67 (Or.inl nx7)
 have F72 := F65.other W67 (Or.inl nx7)
 have F73 := F66.other W67 ne_u1_a2
 refine own_virt (W := 2) X67 hx hZ hown e67 (ow hw 211 rfl) (ow hw 45 rfl) (ow hw 47 rfl) (ow hw 46 rfl) (rmca l Z a0 hw [] a1 u1 ku _ (10 : Int32) (23 : Int32) cs fv h67 n0 Zs67 O69 SC hcs SF hfv F70 F71 F72 F73 (by decide) (by decide)) (ow hw 48 rfl) (ow hw 33 rfl) F70 rfl (by rw [hml]; rfl) rfl (hb hby d39_94) (lenOf pd__I_C rfl) rfl (by decide) (fun T68 v68 Ll68 X68 hQ68 => ?_)
 obtain ⟨rfl, N68q, eh68⟩ := hQ68
 have N68 := Fr.app N67 N68q
 refine own_casP X68 hx hZ eh68 N68 Zs67 g_a2 V67 ⟨by decide, own_lt22 hnn (by decide)⟩ rfl rfl rfl (hb hby d39_97) (fun T74 h74 lo74 X74 e74 N74 W74 Zs74 V74 => ?_)
 have V74 : Arv Z h74 a2 k2 .char nn [(.int (own_k y0)), (.int (own_k y1)), (.int (own_k y2)), (.int (own_k y3)), (.int (own_k y4)), (.int (own_k y5)), (.int (own_k y6)), (.int (own_k y7)), (.int (own_k y8)), (.int (own_k y9)), (.int (own_k y10))] (.int 0) := V74
 refine ogo (mkF m 104 #[rv a1, rv a2] [(.int 11), (.ref a1), (.int 11), (.ref a2)]) (fun _ k => XS.aloadN X74.here hx rfl (hb hby d39_98) rfl rfl (XS.bipush X74.here hx rfl (hb hby d39_99) (XS.aloadN X74.here hx rfl (hb hby d39_101) rfl rfl (XS.bipush X74.here hx rfl (hb hby d39_102) k)))) ?_
 have O76 := O69.wr W74 g_a2
 have F77 := F70.wr W74
 have F78 := F71.other W74 (Or.inl nx7)
 have F79 := F72.other W74 (Or.inl nx7)
 have F80 := F73.other W74 ne_u1_a2
 refine own_virt (W := 2) X74 hx hZ hown e74 (ow hw 211 rfl) (ow hw 45 rfl) (ow hw 47 rfl) (ow hw 46 rfl) (rmca l Z a0 hw [] a1 u1 ku _ (11 : Int32) (23 : Int32) cs fv h74 n0 Zs74 O76 SC hcs SF hfv F77 F78 F79 F80 (by decide) (by decide)) (ow hw 48 rfl) (ow hw 33 rfl) F77 rfl (by rw [hml]; rfl) rfl (hb hby d39_104) (lenOf pd__I_C rfl) rfl (by decide) (fun T75 v75 Ll75 X75 hQ75 => ?_)
 obtain ⟨rfl, N75q, eh75⟩ := hQ75
 have N75 := Fr.app N74 N75q
 refine own_casP X75 hx hZ eh75 N75 Zs74 g_a2 V74 ⟨by decide, own_lt22 hnn (by decide)⟩ rfl rfl rfl (hb hby d39_107) (fun T81 h81 lo81 X81 e81 N81 W81 Zs81 V81 => ?_)
 have V81 : Arv Z h81 a2 k2 .char nn [(.int (own_k y0)), (.int (own_k y1)), (.int (own_k y2)), (.int (own_k y3)), (.int (own_k y4)), (.int (own_k y5)), (.int (own_k y6)), (.int (own_k y7)), (.int (own_k y8)), (.int (own_k y9)), (.int (own_k y10)), (.int (own_k y11))] (.int 0) := V81
 refine ogo (mkF m 114 #[rv a1, rv a2] [(.int 12), (.ref a1), (.int 12), (.ref a2)]) (fun _ k => XS.aloadN X81.here hx rfl (hb hby d39_108) rfl rfl (XS.bipush X81.here hx rfl (hb hby d39_109) (XS.aloadN X81.here hx rfl (hb hby d39_111) rfl rfl (XS.bipush X81.here hx rfl (hb hby d39_112) k)))) ?_
 have O83 := O76.wr W81 g_a2
 have F84 := F77.wr W81
 have F85 := F78.other W81 (Or.inl nx7)
 have F86 := F79.other W81 (Or.inl nx7)
 have F87 := F80.other W81 ne_u1_a2
 refine own_virt (W := 2) X81 hx hZ hown e81 (ow hw 211 rfl) (ow hw 45 rfl) (ow hw 47 rfl) (ow hw 46 rfl) (rmca l Z a0 hw [] a1 u1 ku _ (12 : Int32) (23 : Int32) cs fv h81 n0 Zs81 O83 SC hcs SF hfv F84 F85 F86 F87 (by decide) (by decide)) (ow hw 48 rfl) (ow hw 33 rfl) F84 rfl (by rw [hml]; rfl) rfl (hb hby d39_114) (lenOf pd__I_C rfl) rfl (by decide) (fun T82 v82 Ll82 X82 hQ82 => ?_)
 obtain ⟨rfl, N82q, eh82⟩ := hQ82
 have N82 := Fr.app N81 N82q
 refine own_casP X82 hx hZ eh82 N82 Zs81 g_a2 V81 ⟨by decide, own_lt22 hnn (by decide)⟩ rfl rfl rfl (hb hby d39_117) (fun T88 h88 lo88 X88 e88 N88 W88 Zs88 V88 => ?_)
 have V88 : Arv Z h88 a2 k2 .char nn [(.int (own_k y0)), (.int (own_k y1)), (.int (own_k y2)), (.int (own_k y3)), (.int (own_k y4)), (.int (own_k y5)), (.int (own_k y6)), (.int (own_k y7)), (.int (own_k y8)), (.int (own_k y9)), (.int (own_k y10)), (.int (own_k y11)), (.int (own_k y12))] (.int 0) := V88
 refine ogo (mkF m 124 #[rv a1, rv a2] [(.int 13), (.ref a1), (.int 13), (.ref a2)]) (fun _ k => XS.aloadN X88.here hx rfl (hb hby d39_118) rfl rfl (XS.bipush X88.here hx rfl (hb hby d39_119) (XS.aloadN X88.here hx rfl (hb hby d39_121) rfl rfl (XS.bipush X88.here hx rfl (hb hby d39_122) k)))) ?_
 have O90 := O83.wr W88 g_a2
 have F91 := F84.wr W88
 have F92 := F85.other W88 (Or.inl nx7)
 have F93 := F86.other W88 (Or.inl nx7)
 have F94 := F87.other W88 ne_u1_a2
 refine own_virt (W := 2) X88 hx hZ hown e88 (ow hw 211 rfl) (ow hw 45 rfl) (ow hw 47 rfl) (ow hw 46 rfl) (rmca l Z a0 hw [] a1 u1 ku _ (13 : Int32) (23 : Int32) cs fv h88 n0 Zs88 O90 SC hcs SF hfv F91 F92 F93 F94 (by decide) (by decide)) (ow hw 48 rfl) (ow hw 33 rfl) F91 rfl (by rw [hml]; rfl) rfl (hb hby d39_124) (lenOf pd__I_C rfl) rfl (by decide) (fun T89 v89 Ll89 X89 hQ89 => ?_)
 obtain ⟨rfl, N89q, eh89⟩ := hQ89
 have N89 := Fr.app N88 N89q
 refine own_casP X89 hx hZ eh89 N89 Zs88 g_a2 V88 ⟨by decide, own_lt22 hnn (by decide)⟩ rfl rfl rfl (hb hby d39_127) (fun T95 h95 lo95 X95 e95 N95 W95 Zs95 V95 => ?_)
 have V95 : Arv Z h95 a2 k2 .char nn [(.int (own_k y0)), (.int (own_k y1)), (.int (own_k y2)), (.int (own_k y3)), (.int (own_k y4)), (.int (own_k y5)), (.int (own_k y6)), (.int (own_k y7)), (.int (own_k y8)), (.int (own_k y9)), (.int (own_k y10)), (.int (own_k y11)), (.int (own_k y12)), (.int (own_k y13))] (.int 0) := V95
 refine ogo (mkF m 134 #[rv a1, rv a2] [(.int 14), (.ref a1), (.int 14), (.ref a2)]) (fun _ k => XS.aloadN X95.here hx rfl (hb hby d39_128) rfl rfl (XS.bipush X95.here hx rfl (hb hby d39_129) (XS.aloadN X95.here hx rfl (hb hby d39_131) rfl rfl (XS.bipush X95.here hx rfl (hb hby d39_132) k)))) ?_
 have O97 := O90.wr W95 g_a2
 have F98 := F91.wr W95
 have F99 := F92.other W95 (Or.inl nx7)
 have F100 := F93.other W95 (Or.inl nx7)
 have F101 := F94.other W95 ne_u1_a2
 refine own_virt (W := 2) X95 hx hZ hown e95 (ow hw 211 rfl) (ow hw 45 rfl) (ow hw 47 rfl) (ow hw 46 rfl) (rmca l Z a0 hw [] a1 u1 ku _ (14 : Int32) (23 : Int32) cs fv h95 n0 Zs95 O97 SC hcs SF hfv F98 F99 F100 F101 (by decide) (by decide)) (ow hw 48 rfl) (ow hw 33 rfl) F98 rfl (by rw [hml]; rfl) rfl (hb hby d39_134) (lenOf pd__I_C rfl) rfl (by decide) (fun T96 v96 Ll96 X96 hQ96 => ?_)
 obtain ⟨rfl, N96q, eh96⟩ := hQ96
 have N96 := Fr.app N95 N96q
 refine own_casP X96 hx hZ eh96 N96 Zs95 g_a2 V95 ⟨by decide, own_lt22 hnn (by decide)⟩ rfl rfl rfl (hb hby d39_137) (fun T102 h102 lo102 X102 e102 N102 W102 Zs102 V102 => ?_)
 have V102 : Arv Z h102 a2 k2 .char nn [(.int (own_k y0)), (.int (own_k y1)), (.int (own_k y2)), (.int (own_k y3)), (.int (own_k y4)), (.int (own_k y5)), (.int (own_k y6)), (.int (own_k y7)), (.int (own_k y8)), (.int (own_k y9)), (.int (own_k y10)), (.int (own_k y11)), (.int (own_k y12)), (.int (own_k y13)), (.int (own_k y14))] (.int 0) := V102
 refine ogo (mkF m 144 #[rv a1, rv a2] [(.int 15), (.ref a1), (.int 15), (.ref a2)]) (fun _ k => XS.aloadN X102.here hx rfl (hb hby d39_138) rfl rfl (XS.bipush X102.here hx rfl (hb hby d39_139) (XS.aloadN X102.here hx rfl (hb hby d39_141) rfl rfl (XS.bipush X102.here hx rfl (hb hby d39_142) k)))) ?_
 have O104 := O97.wr W102 g_a2
 have F105 := F98.wr W102
 have F106 := F99.other W102 (Or.inl nx7)
 have F107 := F100.other W102 (Or.inl nx7)
 have F108 := F101.other W102 ne_u1_a2
 refine own_virt (W := 2) X102 hx hZ hown e102 (ow hw 211 rfl) (ow hw 45 rfl) (ow hw 47 rfl) (ow hw 46 rfl) (rmca l Z a0 hw [] a1 u1 ku _ (15 : Int32) (23 : Int32) cs fv h102 n0 Zs102 O104 SC hcs SF hfv F105 F106 F107 F108 (by decide) (by decide)) (ow hw 48 rfl) (ow hw 33 rfl) F105 rfl (by rw [hml]; rfl) rfl (hb hby d39_144) (lenOf pd__I_C rfl) rfl (by decide) (fun T103 v103 Ll103 X103 hQ103 => ?_)
 obtain ⟨rfl, N103q, eh103⟩ := hQ103
 have N103 := Fr.app N102 N103q
 refine own_casP X103 hx hZ eh103 N103 Zs102 g_a2 V102 ⟨by decide, own_lt22 hnn (by decide)⟩ rfl rfl rfl (hb hby d39_147) (fun T109 h109 lo109 X109 e109 N109 W109 Zs109 V109 => ?_)
 have V109 : Arv Z h109 a2 k2 .char nn [(.int (own_k y0)), (.int (own_k y1)), (.int (own_k y2)), (.int (own_k y3)), (.int (own_k y4)), (.int (own_k y5)), (.int (own_k y6)), (.int (own_k y7)), (.int (own_k y8)), (.int (own_k y9)), (.int (own_k y10)), (.int (own_k y11)), (.int (own_k y12)), (.int (own_k y13)), (.int (own_k y14)), (.int (own_k y15))] (.int 0) := V109
 refine ogo (mkF m 154 #[rv a1, rv a2] [(.int 16), (.ref a1), (.int 16), (.ref a2)]) (fun _ k => XS.aloadN X109.here hx rfl (hb hby d39_148) rfl rfl (XS.bipush X109.here hx rfl (hb hby d39_149) (XS.aloadN X109.here hx rfl (hb hby d39_151) rfl rfl (XS.bipush X109.here hx rfl (hb hby d39_152) k)))) ?_
 have O111 := O104.wr W109 g_a2
 have F112 := F105.wr W109
 have F113 := F106.other W109 (Or.inl nx7)
 have F114 := F107.other W109 (Or.inl nx7)
 have F115 := F108.other W109 ne_u1_a2
 refine own_virt (W := 2) X109 hx hZ hown e109 (ow hw 211 rfl) (ow hw 45 rfl) (ow hw 47 rfl) (ow hw 46 rfl) (rmca l Z a0 hw [] a1 u1 ku _ (16 : Int32) (23 : Int32) cs fv h109 n0 Zs109 O111 SC hcs SF hfv F112 F113 F114 F115 (by decide) (by decide)) (ow hw 48 rfl) (ow hw 33 rfl) F112 rfl (by rw [hml]; rfl) rfl (hb hby d39_154) (lenOf pd__I_C rfl) rfl (by decide) (fun T110 v110 Ll110 X110 hQ110 => ?_)
 obtain ⟨rfl, N110q, eh110⟩ := hQ110
 have N110 := Fr.app N109 N110q
 refine own_casP X110 hx hZ eh110 N110 Zs109 g_a2 V109 ⟨by decide, own_lt22 hnn (by decide)⟩ rfl rfl rfl (hb hby d39_157) (fun T116 h116 lo116 X116 e116 N116 W116 Zs116 V116 => ?_)
 have V116 : Arv Z h116 a2 k2 .char nn [(.int (own_k y0)), (.int (own_k y1)), (.int (own_k y2)), (.int (own_k y3)), (.int (own_k y4)), (.int (own_k y5)), (.int (own_k y6)), (.int (own_k y7)), (.int (own_k y8)), (.int (own_k y9)), (.int (own_k y10)), (.int (own_k y11)), (.int (own_k y12)), (.int (own_k y13)), (.int (own_k y14)), (.int (own_k y15)), (.int (own_k y16))] (.int 0) := V116
 refine ogo (mkF m 164 #[rv a1, rv a2] [(.int 17), (.ref a1), (.int 17), (.ref a2)]) (fun _ k => XS.aloadN X116.here hx rfl (hb hby d39_158) rfl rfl (XS.bipush X116.here hx rfl (hb hby d39_159) (XS.aloadN X116.here hx rfl (hb hby d39_161) rfl rfl (XS.bipush X116.here hx rfl (hb hby d39_162) k)))) ?_
 have O118 := O111.wr W116 g_a2
 have F119 := F112.wr W116
 have F120 := F113.other W116 (Or.inl nx7)
 have F121 := F114.other W116 (Or.inl nx7)
 have F122 := F115.other W116 ne_u1_a2
 refine own_virt (W := 2) X116 hx hZ hown e116 (ow hw 211 rfl) (ow hw 45 rfl) (ow hw 47 rfl) (ow hw 46 rfl) (rmca l Z a0 hw [] a1 u1 ku _ (17 : Int32) (23 : Int32) cs fv h116 n0 Zs116 O118 SC hcs SF hfv F119 F120 F121 F122 (by decide) (by decide)) (ow hw 48 rfl) (ow hw 33 rfl) F119 rfl (by rw [hml]; rfl) rfl (hb hby d39_164) (lenOf pd__I_C rfl) rfl (by decide) (fun T117 v117 Ll117 X117 hQ117 => ?_)
 obtain ⟨rfl, N117q, eh117⟩ := hQ117
 have N117 := Fr.app N116 N117q
 refine own_casP X117 hx hZ eh117 N117 Zs116 g_a2 V116 ⟨by decide, own_lt22 hnn (by decide)⟩ rfl rfl rfl (hb hby d39_167) (fun T123 h123 lo123 X123 e123 N123 W123 Zs123 V123 => ?_)
 have V123 : Arv Z h123 a2 k2 .char nn [(.int (own_k y0)), (.int (own_k y1)), (.int (own_k y2)), (.int (own_k y3)), (.int (own_k y4)), (.int (own_k y5)), (.int (own_k y6)), (.int (own_k y7)), (.int (own_k y8)), (.int (own_k y9)), (.int (own_k y10)), (.int (own_k y11)), (.int (own_k y12)), (.int (own_k y13)), (.int (own_k y14)), (.int (own_k y15)), (.int (own_k y16)), (.int (own_k y17))] (.int 0) := V123
 refine ogo (mkF m 174 #[rv a1, rv a2] [(.int 18), (.ref a1), (.int 18), (.ref a2)]) (fun _ k => XS.aloadN X123.here hx rfl (hb hby d39_168) rfl rfl (XS.bipush X123.here hx rfl (hb hby d39_169) (XS.aloadN X123.here hx rfl (hb hby d39_171) rfl rfl (XS.bipush X123.here hx rfl (hb hby d39_172) k)))) ?_
 have O125 := O118.wr W123 g_a2
 have F126 := F119.wr W123
 have F127 := F120.other W123 (Or.inl nx7)
 have F128 := F121.other W123 (Or.inl nx7)
 have F129 := F122.other W123 ne_u1_a2
 refine own_virt (W := 2) X123 hx hZ hown e123 (ow hw 211 rfl) (ow hw 45 rfl) (ow hw 47 rfl) (ow hw 46 rfl) (rmca l Z a0 hw [] a1 u1 ku _ (18 : Int32) (23 : Int32) cs fv h123 n0 Zs123 O125 SC hcs SF hfv F126 F127 F128 F129 (by decide) (by decide)) (ow hw 48 rfl) (ow hw 33 rfl) F126 rfl (by rw [hml]; rfl) rfl (hb hby d39_174) (lenOf pd__I_C rfl) rfl (by decide) (fun T124 v124 Ll124 X124 hQ124 => ?_)
 obtain ⟨rfl, N124q, eh124⟩ := hQ124
 have N124 := Fr.app N123 N124q
 refine own_casP X124 hx hZ eh124 N124 Zs123 g_a2 V123 ⟨by decide, own_lt22 hnn (by decide)⟩ rfl rfl rfl (hb hby d39_177) (fun T130 h130 lo130 X130 e130 N130 W130 Zs130 V130 => ?_)
 have V130 : Arv Z h130 a2 k2 .char nn [(.int (own_k y0)), (.int (own_k y1)), (.int (own_k y2)), (.int (own_k y3)), (.int (own_k y4)), (.int (own_k y5)), (.int (own_k y6)), (.int (own_k y7)), (.int (own_k y8)), (.int (own_k y9)), (.int (own_k y10)), (.int (own_k y11)), (.int (own_k y12)), (.int (own_k y13)), (.int (own_k y14)), (.int (own_k y15)), (.int (own_k y16)), (.int (own_k y17)), (.int (own_k y18))] (.int 0) := V130
 refine ogo (mkF m 184 #[rv a1, rv a2] [(.int 19), (.ref a1), (.int 19), (.ref a2)]) (fun _ k => XS.aloadN X130.here hx rfl (hb hby d39_178) rfl rfl (XS.bipush X130.here hx rfl (hb hby d39_179) (XS.aloadN X130.here hx rfl (hb hby d39_181) rfl rfl (XS.bipush X130.here hx rfl (hb hby d39_182) k)))) ?_
 have O132 := O125.wr W130 g_a2
 have F133 := F126.wr W130
 have F134 := F127.other W130 (Or.inl nx7)
 have F135 := F128.other W130 (Or.inl nx7)
 have F136 := F129.other W130 ne_u1_a2
 refine own_virt (W := 2) X130 hx hZ hown e130 (ow hw 211 rfl) (ow hw 45 rfl) (ow hw 47 rfl) (ow hw 46 rfl) (rmca l Z a0 hw [] a1 u1 ku _ (19 : Int32) (23 : Int32) cs fv h130 n0 Zs130 O132 SC hcs SF hfv F133 F134 F135 F136 (by decide) (by decide)) (ow hw 48 rfl) (ow hw 33 rfl) F133 rfl (by rw [hml]; rfl) rfl (hb hby d39_184) (lenOf pd__I_C rfl) rfl (by decide) (fun T131 v131 Ll131 X131 hQ131 => ?_)
 obtain ⟨rfl, N131q, eh131⟩ := hQ131
 have N131 := Fr.app N130 N131q
 refine own_casP X131 hx hZ eh131 N131 Zs130 g_a2 V130 ⟨by decide, own_lt22 hnn (by decide)⟩ rfl rfl rfl (hb hby d39_187) (fun T137 h137 lo137 X137 e137 N137 W137 Zs137 V137 => ?_)
 have V137 : Arv Z h137 a2 k2 .char nn [(.int (own_k y0)), (.int (own_k y1)), (.int (own_k y2)), (.int (own_k y3)), (.int (own_k y4)), (.int (own_k y5)), (.int (own_k y6)), (.int (own_k y7)), (.int (own_k y8)), (.int (own_k y9)), (.int (own_k y10)), (.int (own_k y11)), (.int (own_k y12)), (.int (own_k y13)), (.int (own_k y14)), (.int (own_k y15)), (.int (own_k y16)), (.int (own_k y17)), (.int (own_k y18)), (.int (own_k y19))] (.int 0) := V137
 refine ogo (mkF m 194 #[rv a1, rv a2] [(.int 20), (.ref a1), (.int 20), (.ref a2)]) (fun _ k => XS.aloadN X137.here hx rfl (hb hby d39_188) rfl rfl (XS.bipush X137.here hx rfl (hb hby d39_189) (XS.aloadN X137.here hx rfl (hb hby d39_191) rfl rfl (XS.bipush X137.here hx rfl (hb hby d39_192) k)))) ?_
 have O139 := O132.wr W137 g_a2
 have F140 := F133.wr W137
 have F141 := F134.other W137 (Or.inl nx7)
 have F142 := F135.other W137 (Or.inl nx7)
 have F143 := F136.other W137 ne_u1_a2
 refine own_virt (W := 2) X137 hx hZ hown e137 (ow hw 211 rfl) (ow hw 45 rfl) (ow hw 47 rfl) (ow hw 46 rfl) (rmca l Z a0 hw [] a1 u1 ku _ (20 : Int32) (23 : Int32) cs fv h137 n0 Zs137 O139 SC hcs SF hfv F140 F141 F142 F143 (by decide) (by decide)) (ow hw 48 rfl) (ow hw 33 rfl) F140 rfl (by rw [hml]; rfl) rfl (hb hby d39_194) (lenOf pd__I_C rfl) rfl (by decide) (fun T138 v138 Ll138 X138 hQ138 => ?_)
 obtain ⟨rfl, N138q, eh138⟩ := hQ138
 have N138 := Fr.app N137 N138q
 refine own_casP X138 hx hZ eh138 N138 Zs137 g_a2 V137 ⟨by decide, own_lt22 hnn (by decide)⟩ rfl rfl rfl (hb hby d39_197) (fun T144 h144 lo144 X144 e144 N144 W144 Zs144 V144 => ?_)
 have V144 : Arv Z h144 a2 k2 .char nn [(.int (own_k y0)), (.int (own_k y1)), (.int (own_k y2)), (.int (own_k y3)), (.int (own_k y4)), (.int (own_k y5)), (.int (own_k y6)), (.int (own_k y7)), (.int (own_k y8)), (.int (own_k y9)), (.int (own_k y10)), (.int (own_k y11)), (.int (own_k y12)), (.int (own_k y13)), (.int (own_k y14)), (.int (own_k y15)), (.int (own_k y16)), (.int (own_k y17)), (.int (own_k y18)), (.int (own_k y19)), (.int (own_k y20))] (.int 0) := V144
 refine ogo (mkF m 204 #[rv a1, rv a2] [(.int 21), (.ref a1), (.int 21), (.ref a2)]) (fun _ k => XS.aloadN X144.here hx rfl (hb hby d39_198) rfl rfl (XS.bipush X144.here hx rfl (hb hby d39_199) (XS.aloadN X144.here hx rfl (hb hby d39_201) rfl rfl (XS.bipush X144.here hx rfl (hb hby d39_202) k)))) ?_
 have O146 := O139.wr W144 g_a2
 have F147 := F140.wr W144
 have F148 := F141.other W144 (Or.inl nx7)
 have F149 := F142.other W144 (Or.inl nx7)
 have F150 := F143.other W144 ne_u1_a2
 refine own_virt (W := 2) X144 hx hZ hown e144 (ow hw 211 rfl) (ow hw 45 rfl) (ow hw 47 rfl) (ow hw 46 rfl) (rmca l Z a0 hw [] a1 u1 ku _ (21 : Int32) (23 : Int32) cs fv h144 n0 Zs144 O146 SC hcs SF hfv F147 F148 F149 F150 (by decide) (by decide)) (ow hw 48 rfl) (ow hw 33 rfl) F147 rfl (by rw [hml]; rfl) rfl (hb hby d39_204) (lenOf pd__I_C rfl) rfl (by decide) (fun T145 v145 Ll145 X145 hQ145 => ?_)
 obtain ⟨rfl, N145q, eh145⟩ := hQ145
 have N145 := Fr.app N144 N145q
 refine own_casP X145 hx hZ eh145 N145 Zs144 g_a2 V144 ⟨by decide, own_lt22 hnn (by decide)⟩ rfl rfl rfl (hb hby d39_207) (fun T151 h151 lo151 X151 e151 N151 W151 Zs151 V151 => ?_)
 have V151 : Arv Z h151 a2 k2 .char nn [(.int (own_k y0)), (.int (own_k y1)), (.int (own_k y2)), (.int (own_k y3)), (.int (own_k y4)), (.int (own_k y5)), (.int (own_k y6)), (.int (own_k y7)), (.int (own_k y8)), (.int (own_k y9)), (.int (own_k y10)), (.int (own_k y11)), (.int (own_k y12)), (.int (own_k y13)), (.int (own_k y14)), (.int (own_k y15)), (.int (own_k y16)), (.int (own_k y17)), (.int (own_k y18)), (.int (own_k y19)), (.int (own_k y20)), (.int (own_k y21))] (.int 0) := V151
 have K152 := (Keep.refl h0 [a2]).wr W2 (Or.inl (List.mem_of_getElem? (i := 0) rfl))
 have K153 := K152.wr W11 (Or.inl (List.mem_of_getElem? (i := 0) rfl))
 have K154 := K153.wr W18 (Or.inl (List.mem_of_getElem? (i := 0) rfl))
 have K155 := K154.wr W25 (Or.inl (List.mem_of_getElem? (i := 0) rfl))
 have K156 := K155.wr W32 (Or.inl (List.mem_of_getElem? (i := 0) rfl))
 have K157 := K156.wr W39 (Or.inl (List.mem_of_getElem? (i := 0) rfl))
 have K158 := K157.wr W46 (Or.inl (List.mem_of_getElem? (i := 0) rfl))
 have K159 := K158.wr W53 (Or.inl (List.mem_of_getElem? (i := 0) rfl))
 have K160 := K159.wr W60 (Or.inl (List.mem_of_getElem? (i := 0) rfl))
 have K161 := K160.wr W67 (Or.inl (List.mem_of_getElem? (i := 0) rfl))
 have K162 := K161.wr W74 (Or.inl (List.mem_of_getElem? (i := 0) rfl))
 have K163 := K162.wr W81 (Or.inl (List.mem_of_getElem? (i := 0) rfl))
 have K164 := K163.wr W88 (Or.inl (List.mem_of_getElem? (i := 0) rfl))
 have K165 := K164.wr W95 (Or.inl (List.mem_of_getElem? (i := 0) rfl))
 have K166 := K165.wr W102 (Or.inl (List.mem_of_getElem? (i := 0) rfl))
 have K167 := K166.wr W109 (Or.inl (List.mem_of_getElem? (i := 0) rfl))
 have K168 := K167.wr W116 (Or.inl (List.mem_of_getElem? (i := 0) rfl))
 have K169 := K168.wr W123 (Or.inl (List.mem_of_getElem? (i := 0) rfl))
 have K170 := K169.wr W130 (Or.inl (List.mem_of_getElem? (i := 0) rfl))
 have K171 := K170.wr W137 (Or.inl (List.mem_of_getElem? (i := 0) rfl))
 have K172 := K171.wr W144 (Or.inl (List.mem_of_getElem? (i := 0) rfl))
 have K173 := K172.wr W151 (Or.inl (List.mem_of_getElem? (i := 0) rfl))
 exact own_endV X151 hx hr2 (hb hby d39_208) (by decide) (by decide) (by rw [e151]; exact ⟨rfl, N151, K173, V151⟩)
theorem pd__Ljava_lang_String__C_V : parseMethodDescriptor "(Ljava/lang/String;[C)V" = some ⟨[(.object cs1), (.array .char)], none⟩ := by decide +kernel
theorem pd__Ljava_lang_String__Z : parseMethodDescriptor "(Ljava/lang/String;)Z" = some ⟨[(.object cs1)], some .boolean⟩ := by decide +kernel
theorem pd___C_V : parseMethodDescriptor "([C)V" = some ⟨[(.array .char)], none⟩ := by decide +kernel
theorem pn_0 : plainName cs5 = true := by first | (simp [plainName, overriddenIn]; done) | decide +kernel
theorem ef_rm0 (m : MethodId) (x0 : Int64) (x1 : Int32) (x2 : Int32) (x3 : Int32) (x4 : Int32) : entryFrame m #[(.long x0), (.int x1), (.int x2), (.int x3), (.int x4)] maxLocals = mkF m 0 #[.val (.long x0), .second, iv x1, iv x2, iv x3, iv x4, .unset, .unset, .unset, .unset, .unset, .unset, .unset, .unset, .unset, .unset, .unset, .unset] [] := by first | (simp [entryFrame, mkF, argsToLocals, Value.category, maxLocals]; done) | rfl
def Qrm0 (Z : State) (m0 : Int64) (m1 m2 m3 m4 cs : Int32) (fv gv : Value) (h0 : Heap) (n0 : Nat) (v : Option Value) (h : Heap) (L : List Loc) : Prop := v = some (.int 1) ∧ Fr n0 L
section
variable {p : Program} {l : Launch} {e : Env} {R : Room} {s : State} {m : MethodId} {args : Array Value} {below : List Frame} {meth : Jvm.Method} {c : Jvm.ClassFile.Code} {T : State} {locs : List Loc} {cells slots : Nat} {t : State}
theorem sg_rm0_0 (X : Stand p l e R s m args below meth c T locs cells slots) (hx : p.tables.exec = Jvm.exec) (hby : c.code = code) {v1 v2 v3 v4 v10 v11 v12 v13 v14 v16 v17 : Int32} {v0 : Int64} {v5 v6 v7 v8 v9 v15 : Addr} (u0 : v17 = v16) (k : Steps p.tables e below (T.setTop (mkF m 337 #[.val (.long v0), .second, iv v1, iv v2, iv v3, iv v4, rv v5, rv v6, rv v7, rv v8, rv v9, iv v10, iv v11, iv v12, iv v13, iv v14, rv v15, iv v16] [(.int 1)])) t) : Steps p.tables e below (T.setTop (mkF m 327 #[.val (.long v0), .second, iv v1, iv v2, iv v3, iv v4, rv v5, rv v6, rv v7, rv v8, rv v9, iv v10, iv v11, iv v12, iv v13, iv v14, rv v15, iv v16] [(.int v17)])) t := XS.iload X.here hx rfl (hb hby at_327) rfl (XS.icmpNo X.here hx rfl (hb hby at_329) rfl (teq u0).2 (XS.iconst X.here hx rfl (hb hby at_332) (XS.goto X.here hx rfl (pc0 := 333) (pc' := 337) rfl (hb hby at_333) (by decide) (by decide) k)))
end
theorem rm0 (l : Launch) (Z : State) (a0 : Array Value) (hw : HW a0 Z) (ws : List Jvm.Cond) (m0 : Int64) (m1 m2 m3 m4 cs : Int32) (fv gv : Value) (h0 : Heap) (n0 : Nat) (Z0 : n0 ≤ h0.size) (O0 : Old Z n0 h0) (SC : Sta Z Z.heap cs1 "COMPACT_STRINGS" "Z" (.int cs)) (hcs : ¬ (cs = (0 : Int32))) (SF : Sta Z Z.heap cs4 "SIOOBE_FORMATTER" "Ljava/util/function/BiFunction;" fv) (hfv : fv = .null ∨ ∃ x : Addr, fv = .ref x) (SI : Sta Z Z.heap cs4 "IOOBE_FORMATTER" "Ljava/util/function/BiFunction;" gv) (hgv : gv = .null ∨ ∃ x : Addr, gv = .ref x) :
    MetFree l x (head1 (Jvm.Cond.code x code maxLocals ret :: ws) room_1) (fun a U => a = #[(.long m0), (.int m1), (.int m2), (.int m3), (.int m4)] ∧ Z.Warmed39 U.vm ∧ U.heap = h0 ∧ CHv Z own_EL U.vm h0) (fun _ _ _ _ _ => True) (fun _ U o U' => ∃ v L, o = .returned v ∧ Qrm0 Z m0 m1 m2 m3 m4 cs fv gv h0 n0 v U'.heap L ∧ ReturnedEndW U o U' L room_1.cells room_1.slots) := by
 refine MetFree.of_bodySF (plainFor_of_name pn_0) hisR ?_
 intro p e s m args below meth c s₁ Bd hml0 hP hK
 obtain ⟨rfl, hZ, hh, hCH⟩ := hP
 have hx := Bd.exec
 have hby := Bd.bytes
 have hml : c.maxLocals = 18 := hml0
 have hown : s.vm.findClass cs5 = some m.cls := findClass_of_methodNamed Bd.named
 have hnm := (name_of_methodNamed Bd.named Bd.method).1
 have X0 : Stand p l e room_1 s m #[(.long m0), (.int m1), (.int m2), (.int m3), (.int m4)] below meth c s₁ [] 0 0 := Stand.of_body Bd
 have e0 : s₁.heap = h0 := by rw [← hh, Bd.state]; rfl
 have N0 := Fr.nil n0
 refine own_go (b := (s₁.setTop (mkF m 0 #[.val (.long m0), .second, iv m1, iv m2, iv m3, iv m4, .unset, .unset, .unset, .unset, .unset, .unset, .unset, .unset, .unset, .unset, .unset, .unset] []))) (fun _ k => castTop (ef_rm0 m m0 m1 m2 m3 m4) k) ?_
 refine ogo (mkF m 2 #[.val (.long m0), .second, iv m1, iv m2, iv m3, iv m4, .unset, .unset, .unset, .unset, .unset, .unset, .unset, .unset, .unset, .unset, .unset, .unset] [(.int 10)]) (fun _ k => XS.bipush X0.here hx rfl (hb hby at_0) k) ?_
 obtain ⟨T1, h1, kl1, X1, e1, E1, A1, st1⟩ := newP X0 hx hZ (ow hw 0 rfl) e0 (g := (mkF m 2 #[.val (.long m0), .second, iv m1, iv m2, iv m3, iv m4, .unset, .unset, .unset, .unset, .unset, .unset, .unset, .unset, .unset, .unset, .unset, .unset] [(.int 10)])) rfl (hb hby at_2) rfl (by decide) (cap := 10) (by decide) (by decide) (by decide) (by decide)
 obtain ⟨b1, g1⟩ : ∃ z, z = h0.size := ⟨_, rfl⟩
 rw [← g1] at A1 st1
 have Zs2 : n0 ≤ h1.size := Nat.le_trans Z0 E1.1
 have V1 : Arv Z h1 b1 kl1 .byte (10 : Int32) [(.int 0), (.int 0), (.int 0), (.int 0), (.int 0), (.int 0), (.int 0), (.int 0), (.int 0), (.int 0)] (.int 0) := (Arv.new A1 (by decide)).pad (pad_rep [] (.int 0) 10)
 refine ogo (mkF m 12 #[.val (.long m0), .second, iv m1, iv m2, iv m3, iv m4, rv b1, .unset, .unset, .unset, .unset, .unset, .unset, .unset, .unset, .unset, .unset, .unset] [(.int ((m0.toInt32).toInt8.toInt32)), (.int 0), (.ref b1)]) (fun _ k => st1 _ (XS.astore X1.here hx rfl (hb hby at_4) rfl rfl (l' := #[.val (.long m0), .second, iv m1, iv m2, iv m3, iv m4, rv b1, .unset, .unset, .unset, .unset, .unset, .unset, .unset, .unset, .unset, .unset, .unset]) rfl (XS.aload X1.here hx rfl (hb hby at_6) rfl rfl (XS.iconst X1.here hx rfl (hb hby at_8) (XS.lloadN X1.here hx rfl (hb hby at_9) rfl (XS.l2i X1.here hx rfl (hb hby at_10) rfl (XS.i2b X1.here hx rfl (hb hby at_11) rfl k))))))) ?_
 obtain ⟨xb3, hxb3⟩ : ∃ z, z = ((m0.toInt32).toInt8.toInt32) := ⟨_, rfl⟩
 rw [← hxb3]
 have gx5 : n0 ≤ b1 := Nat.le_trans Z0 (Nat.le_of_eq g1.symm)
 refine own_basS X1 hx hZ e1 N0 Zs2 gx5 V1 ⟨by decide, by decide⟩ (Nat.le_of_ble_eq_true rfl) rfl rfl (hb hby at_12) (fun T4 h4 lo4 X4 e4 N4 W4 Zs4 V4 => ?_)
 refine ogo (mkF m 22 #[.val (.long m0), .second, iv m1, iv m2, iv m3, iv m4, rv b1, .unset, .unset, .unset, .unset, .unset, .unset, .unset, .unset, .unset, .unset, .unset] [(.int ((((m0.toUInt64 >>> ((8 : Int32) &&& 0x3f).toInt64.toUInt64).toInt64).toInt32).toInt8.toInt32)), (.int 1), (.ref b1)]) (fun _ k => XS.aload X4.here hx rfl (hb hby at_13) rfl rfl (XS.iconst X4.here hx rfl (hb hby at_15) (XS.lloadN X4.here hx rfl (hb hby at_16) rfl (XS.bipush X4.here hx rfl (hb hby at_17) (XS.lushr X4.here hx rfl (hb hby at_19) rfl (XS.l2i X4.here hx rfl (hb hby at_20) rfl (XS.i2b X4.here hx rfl (hb hby at_21) rfl k))))))) ?_
 obtain ⟨xb6, hxb6⟩ : ∃ z, z = ((((m0.toUInt64 >>> ((8 : Int32) &&& 0x3f).toInt64.toUInt64).toInt64).toInt32).toInt8.toInt32) := ⟨_, rfl⟩
 rw [← hxb6]
 refine own_basS X4 hx hZ e4 N4 Zs4 gx5 V4 ⟨by decide, by decide⟩ (Nat.le_of_ble_eq_true rfl) rfl rfl (hb hby at_22) (fun T7 h7 lo7 X7 e7 N7 W7 Zs7 V7 => ?_)
 refine ogo (mkF m 32 #[.val (.long m0), .second, iv m1, iv m2, iv m3, iv m4, rv b1, .unset, .unset, .unset, .unset, .unset, .unset, .unset, .unset, .unset, .unset, .unset] [(.int ((((m0.toUInt64 >>> ((16 : Int32) &&& 0x3f).toInt64.toUInt64).toInt64).toInt32).toInt8.toInt32)), (.int 2), (.ref b1)]) (fun _ k => XS.aload X7.here hx rfl (hb hby at_23) rfl rfl (XS.iconst X7.here hx rfl (hb hby at_25) (XS.lloadN X7.here hx rfl (hb hby at_26) rfl (XS.bipush X7.here hx rfl (hb hby at_27) (XS.lushr X7.here hx rfl (hb hby at_29) rfl (XS.l2i X7.here hx rfl (hb hby at_30) rfl (XS.i2b X7.here hx rfl (hb hby at_31) rfl k))))))) ?_
 obtain ⟨xb8, hxb8⟩ : ∃ z, z = ((((m0.toUInt64 >>> ((16 : Int32) &&& 0x3f).toInt64.toUInt64).toInt64).toInt32).toInt8.toInt32) := ⟨_, rfl⟩
 rw [← hxb8]
 refine own_basS X7 hx hZ e7 N7 Zs7 gx5 V7 ⟨by decide, by decide⟩ (Nat.le_of_ble_eq_true rfl) rfl rfl (hb hby at_32) (fun T9 h9 lo9 X9 e9 N9 W9 Zs9 V9 => ?_)
 refine ogo (mkF m 42 #[.val (.long m0), .second, iv m1, iv m2, iv m3, iv m4, rv b1, .unset, .unset, .unset, .unset, .unset, .unset, .unset, .unset, .unset, .unset, .unset] [(.int ((((m0.toUInt64 >>> ((24 : Int32) &&& 0x3f).toInt64.toUInt64).toInt64).toInt32).toInt8.toInt32)), (.int 3), (.ref b1)]) (fun _ k => XS.aload X9.here hx rfl (hb hby at_33) rfl rfl (XS.iconst X9.here hx rfl (hb hby at_35) (XS.lloadN X9.here hx rfl (hb hby at_36) rfl (XS.bipush X9.here hx rfl (hb hby at_37) (XS.lushr X9.here hx rfl (hb hby at_39) rfl (XS.l2i X9.here hx rfl (hb hby at_40) rfl (XS.i2b X9.here hx rfl (hb hby at_41) rfl k))))))) ?_
 obtain ⟨xb10, hxb10⟩ : ∃ z, z = ((((m0.toUInt64 >>> ((24 : Int32) &&& 0x3f).toInt64.toUInt64).toInt64).toInt32).toInt8.toInt32) := ⟨_, rfl⟩
 rw [← hxb10]
 refine own_basS X9 hx hZ e9 N9 Zs9 gx5 V9 ⟨by decide, by decide⟩ (Nat.le_of_ble_eq_true rfl) rfl rfl (hb hby at_42) (fun T11 h11 lo11 X11 e11 N11 W11 Zs11 V11 => ?_)
 refine ogo (mkF m 52 #[.val (.long m0), .second, iv m1, iv m2, iv m3, iv m4, rv b1, .unset, .unset, .unset, .unset, .unset, .unset, .unset, .unset, .unset, .unset, .unset] [(.int ((((m0.toUInt64 >>> ((32 : Int32) &&& 0x3f).toInt64.toUInt64).toInt64).toInt32).toInt8.toInt32)), (.int 4), (.ref b1)]) (fun _ k => XS.aload X11.here hx rfl (hb hby at_43) rfl rfl (XS.iconst X11.here hx rfl (hb hby at_45) (XS.lloadN X11.here hx rfl (hb hby at_46) rfl (XS.bipush X11.here hx rfl (hb hby at_47) (XS.lushr X11.here hx rfl (hb hby at_49) rfl (XS.l2i X11.here hx rfl (hb hby at_50) rfl (XS.i2b X11.here hx rfl (hb hby at_51) rfl k))))))) ?_
 obtain ⟨xb12, hxb12⟩ : ∃ z, z = ((((m0.toUInt64 >>> ((32 : Int32) &&& 0x3f).toInt64.toUInt64).toInt64).toInt32).toInt8.toInt32) := ⟨_, rfl⟩
 rw [← hxb12]
 refine own_basS X11 hx hZ e11 N11 Zs11 gx5 V11 ⟨by decide, by decide⟩ (Nat.le_of_ble_eq_true rfl) rfl rfl (hb hby at_52) (fun T13 h13 lo13 X13 e13 N13 W13 Zs13 V13 => ?_)
 refine ogo (mkF m 62 #[.val (.long m0), .second, iv m1, iv m2, iv m3, iv m4, rv b1, .unset, .unset, .unset, .unset, .unset, .unset, .unset, .unset, .unset, .unset, .unset] [(.int ((((m0.toUInt64 >>> ((40 : Int32) &&& 0x3f).toInt64.toUInt64).toInt64).toInt32).toInt8.toInt32)), (.int 5), (.ref b1)]) (fun _ k => XS.aload X13.here hx rfl (hb hby at_53) rfl rfl (XS.iconst X13.here hx rfl (hb hby at_55) (XS.lloadN X13.here hx rfl (hb hby at_56) rfl (XS.bipush X13.here hx rfl (hb hby at_57) (XS.lushr X13.here hx rfl (hb hby at_59) rfl (XS.l2i X13.here hx rfl (hb hby at_60) rfl (XS.i2b X13.here hx rfl (hb hby at_61) rfl k))))))) ?_
 obtain ⟨xb14, hxb14⟩ : ∃ z, z = ((((m0.toUInt64 >>> ((40 : Int32) &&& 0x3f).toInt64.toUInt64).toInt64).toInt32).toInt8.toInt32) := ⟨_, rfl⟩
 rw [← hxb14]
 refine own_basS X13 hx hZ e13 N13 Zs13 gx5 V13 ⟨by decide, by decide⟩ (Nat.le_of_ble_eq_true rfl) rfl rfl (hb hby at_62) (fun T15 h15 lo15 X15 e15 N15 W15 Zs15 V15 => ?_)
 refine ogo (mkF m 73 #[.val (.long m0), .second, iv m1, iv m2, iv m3, iv m4, rv b1, .unset, .unset, .unset, .unset, .unset, .unset, .unset, .unset, .unset, .unset, .unset] [(.int ((((m0.toUInt64 >>> ((48 : Int32) &&& 0x3f).toInt64.toUInt64).toInt64).toInt32).toInt8.toInt32)), (.int 6), (.ref b1)]) (fun _ k => XS.aload X15.here hx rfl (hb hby at_63) rfl rfl (XS.bipush X15.here hx rfl (hb hby at_65) (XS.lloadN X15.here hx rfl (hb hby at_67) rfl (XS.bipush X15.here hx rfl (hb hby at_68) (XS.lushr X15.here hx rfl (hb hby at_70) rfl (XS.l2i X15.here hx rfl (hb hby at_71) rfl (XS.i2b X15.here hx rfl (hb hby at_72) rfl k))))))) ?_
 obtain ⟨xb16, hxb16⟩ : ∃ z, z = ((((m0.toUInt64 >>> ((48 : Int32) &&& 0x3f).toInt64.toUInt64).toInt64).toInt32).toInt8.toInt32) := ⟨_, rfl⟩
 rw [← hxb16]
 refine own_basS X15 hx hZ e15 N15 Zs15 gx5 V15 ⟨by decide, by decide⟩ (Nat.le_of_ble_eq_true rfl) rfl rfl (hb hby at_73) (fun T17 h17 lo17 X17 e17 N17 W17 Zs17 V17 => ?_)
 refine ogo (mkF m 84 #[.val (.long m0), .second, iv m1, iv m2, iv m3, iv m4, rv b1, .unset, .unset, .unset, .unset, .unset, .unset, .unset, .unset, .unset, .unset, .unset] [(.int ((((m0.toUInt64 >>> ((56 : Int32) &&& 0x3f).toInt64.toUInt64).toInt64).toInt32).toInt8.toInt32)), (.int 7), (.ref b1)]) (fun _ k => XS.aload X17.here hx rfl (hb hby at_74) rfl rfl (XS.bipush X17.here hx rfl (hb hby at_76) (XS.lloadN X17.here hx rfl (hb hby at_78) rfl (XS.bipush X17.here hx rfl (hb hby at_79) (XS.lushr X17.here hx rfl (hb hby at_81) rfl (XS.l2i X17.here hx rfl (hb hby at_82) rfl (XS.i2b X17.here hx rfl (hb hby at_83) rfl k))))))) ?_
 obtain ⟨xb18, hxb18⟩ : ∃ z, z = ((((m0.toUInt64 >>> ((56 : Int32) &&& 0x3f).toInt64.toUInt64).toInt64).toInt32).toInt8.toInt32) := ⟨_, rfl⟩
 rw [← hxb18]
 refine own_basS X17 hx hZ e17 N17 Zs17 gx5 V17 ⟨by decide, by decide⟩ (Nat.le_of_ble_eq_true rfl) rfl rfl (hb hby at_84) (fun T19 h19 lo19 X19 e19 N19 W19 Zs19 V19 => ?_)
 refine ogo (mkF m 91 #[.val (.long m0), .second, iv m1, iv m2, iv m3, iv m4, rv b1, .unset, .unset, .unset, .unset, .unset, .unset, .unset, .unset, .unset, .unset, .unset] [(.int (m1.toInt8.toInt32)), (.int 8), (.ref b1)]) (fun _ k => XS.aload X19.here hx rfl (hb hby at_85) rfl rfl (XS.bipush X19.here hx rfl (hb hby at_87) (XS.iloadN X19.here hx rfl (hb hby at_89) rfl (XS.i2b X19.here hx rfl (hb hby at_90) rfl k)))) ?_
 obtain ⟨xb20, hxb20⟩ : ∃ z, z = (m1.toInt8.toInt32) := ⟨_, rfl⟩
 rw [← hxb20]
 refine own_basS X19 hx hZ e19 N19 Zs19 gx5 V19 ⟨by decide, by decide⟩ (Nat.le_of_ble_eq_true rfl) rfl rfl (hb hby at_91) (fun T21 h21 lo21 X21 e21 N21 W21 Zs21 V21 => ?_)
 refine ogo (mkF m 101 #[.val (.long m0), .second, iv m1, iv m2, iv m3, iv m4, rv b1, .unset, .unset, .unset, .unset, .unset, .unset, .unset, .unset, .unset, .unset, .unset] [(.int (((m1.toUInt32 >>> ((8 : Int32) &&& 31).toUInt32).toInt32).toInt8.toInt32)), (.int 9), (.ref b1)]) (fun _ k => XS.aload X21.here hx rfl (hb hby at_92) rfl rfl (XS.bipush X21.here hx rfl (hb hby at_94) (XS.iloadN X21.here hx rfl (hb hby at_96) rfl (XS.bipush X21.here hx rfl (hb hby at_97) (XS.iushr X21.here hx rfl (hb hby at_99) rfl (XS.i2b X21.here hx rfl (hb hby at_100) rfl k)))))) ?_
 obtain ⟨xb22, hxb22⟩ : ∃ z, z = (((m1.toUInt32 >>> ((8 : Int32) &&& 31).toUInt32).toInt32).toInt8.toInt32) := ⟨_, rfl⟩
 rw [← hxb22]
 refine own_basS X21 hx hZ e21 N21 Zs21 gx5 V21 ⟨by decide, by decide⟩ (Nat.le_of_ble_eq_true rfl) rfl rfl (hb hby at_101) (fun T23 h23 lo23 X23 e23 N23 W23 Zs23 V23 => ?_)
 refine ogo (mkF m 104 #[.val (.long m0), .second, iv m1, iv m2, iv m3, iv m4, rv b1, .unset, .unset, .unset, .unset, .unset, .unset, .unset, .unset, .unset, .unset, .unset] [(.int 23)]) (fun _ k => XS.bipush X23.here hx rfl (hb hby at_102) k) ?_
 obtain ⟨T24, h24, kl24, X24, e24, E24, A24, st24⟩ := newP X23 hx hZ (ow hw 1 rfl) e23 (g := (mkF m 104 #[.val (.long m0), .second, iv m1, iv m2, iv m3, iv m4, rv b1, .unset, .unset, .unset, .unset, .unset, .unset, .unset, .unset, .unset, .unset, .unset] [(.int 23)])) rfl (hb hby at_104) rfl (by decide) (cap := 23) (by decide) (by decide) (by decide) (by decide)
 obtain ⟨b24, g24⟩ : ∃ z, z = h23.size := ⟨_, rfl⟩
 rw [← g24] at A24 st24
 have Zs25 : n0 ≤ h24.size := Nat.le_trans Zs23 E24.1
 have V24 : Arv Z h24 b24 kl24 .char (23 : Int32) [] (.int 0) := Arv.new A24 (by decide)
 refine ogo (mkF m 110 #[.val (.long m0), .second, iv m1, iv m2, iv m3, iv m4, rv b1, rv b24, .unset, .unset, .unset, .unset, .unset, .unset, .unset, .unset, .unset, .unset] [(.int 24)]) (fun _ k => st24 _ (XS.astore X24.here hx rfl (hb hby at_106) rfl rfl (l' := #[.val (.long m0), .second, iv m1, iv m2, iv m3, iv m4, rv b1, rv b24, .unset, .unset, .unset, .unset, .unset, .unset, .unset, .unset, .unset, .unset]) rfl (XS.bipush X24.here hx rfl (hb hby at_108) k))) ?_
 obtain ⟨T26, h26, kl26, X26, e26, E26, A26, st26⟩ := newP X24 hx hZ (ow hw 1 rfl) e24 (g := (mkF m 110 #[.val (.long m0), .second, iv m1, iv m2, iv m3, iv m4, rv b1, rv b24, .unset, .unset, .unset, .unset, .unset, .unset, .unset, .unset, .unset, .unset] [(.int 24)])) rfl (hb hby at_110) rfl (by decide) (cap := 24) (by decide) (by decide) (by decide) (by decide)
 obtain ⟨b26, g26⟩ : ∃ z, z = h24.size := ⟨_, rfl⟩
 rw [← g26] at A26 st26
 have Zs27 : n0 ≤ h26.size := Nat.le_trans Zs25 E26.1
 have V26 : Arv Z h26 b26 kl26 .char (24 : Int32) [] (.int 0) := Arv.new A26 (by decide)
 refine ogo (mkF m 116 #[.val (.long m0), .second, iv m1, iv m2, iv m3, iv m4, rv b1, rv b24, rv b26, .unset, .unset, .unset, .unset, .unset, .unset, .unset, .unset, .unset] [(.int 22)]) (fun _ k => st26 _ (XS.astore X26.here hx rfl (hb hby at_112) rfl rfl (l' := #[.val (.long m0), .second, iv m1, iv m2, iv m3, iv m4, rv b1, rv b24, rv b26, .unset, .unset, .unset, .unset, .unset, .unset, .unset, .unset, .unset]) rfl (XS.bipush X26.here hx rfl (hb hby at_114) k))) ?_
 obtain ⟨T28, h28, kl28, X28, e28, E28, A28, st28⟩ := newP X26 hx hZ (ow hw 1 rfl) e26 (g := (mkF m 116 #[.val (.long m0), .second, iv m1, iv m2, iv m3, iv m4, rv b1, rv b24, rv b26, .unset, .unset, .unset, .unset, .unset, .unset, .unset, .unset, .unset] [(.int 22)])) rfl (hb hby at_116) rfl (by decide) (cap := 22) (by decide) (by decide) (by decide) (by decide)
 obtain ⟨b28, g28⟩ : ∃ z, z = h26.size := ⟨_, rfl⟩
 rw [← g28] at A28 st28
 have Zs29 : n0 ≤ h28.size := Nat.le_trans Zs27 E28.1
 have V28 : Arv Z h28 b28 kl28 .char (22 : Int32) [] (.int 0) := Arv.new A28 (by decide)
 refine ogo (mkF m 122 #[.val (.long m0), .second, iv m1, iv m2, iv m3, iv m4, rv b1, rv b24, rv b26, rv b28, .unset, .unset, .unset, .unset, .unset, .unset, .unset, .unset] [(.ref b1)]) (fun _ k => st28 _ (XS.astore X28.here hx rfl (hb hby at_118) rfl rfl (l' := #[.val (.long m0), .second, iv m1, iv m2, iv m3, iv m4, rv b1, rv b24, rv b26, rv b28, .unset, .unset, .unset, .unset, .unset, .unset, .unset, .unset]) rfl (XS.aload X28.here hx rfl (hb hby at_120) rfl rfl k))) ?_
 have O31 := O0.ext E1
 have O32 := O31.wr W4 gx5
 have O33 := O32.wr W7 gx5
 have O34 := O33.wr W9 gx5
 have O35 := O34.wr W11 gx5
 have O36 := O35.wr W13 gx5
 have O37 := O36.wr W15 gx5
 have O38 := O37.wr W17 gx5
 have O39 := O38.wr W19 gx5
 have O40 := O39.wr W21 gx5
 have O41 := O40.wr W23 gx5
 have O42 := O41.ext E24
 have O43 := O42.ext E26
 have O44 := O43.ext E28
 have F45 := V23.ext E24
 have F46 := F45.ext E26
 have F47 := F46.ext E28
 have CH48 := CHv.ext E1 hCH
 have Sf49 := Safe.ext E1 hCH (Safe.new (Nat.le_of_eq g1.symm))
 have CH50 := CHv.wr W4 Sf49 CH48
 have Sf51 := Safe.wr W4 Sf49 CH48 Sf49
 have CH52 := CHv.wr W7 Sf51 CH50
 have Sf53 := Safe.wr W7 Sf51 CH50 Sf51
 have CH54 := CHv.wr W9 Sf53 CH52
 have Sf55 := Safe.wr W9 Sf53 CH52 Sf53
 have CH56 := CHv.wr W11 Sf55 CH54
 have Sf57 := Safe.wr W11 Sf55 CH54 Sf55
 have CH58 := CHv.wr W13 Sf57 CH56
 have Sf59 := Safe.wr W13 Sf57 CH56 Sf57
 have CH60 := CHv.wr W15 Sf59 CH58
 have Sf61 := Safe.wr W15 Sf59 CH58 Sf59
 have CH62 := CHv.wr W17 Sf61 CH60
 have Sf63 := Safe.wr W17 Sf61 CH60 Sf61
 have CH64 := CHv.wr W19 Sf63 CH62
 have Sf65 := Safe.wr W19 Sf63 CH62 Sf63
 have CH66 := CHv.wr W21 Sf65 CH64
 have Sf67 := Safe.wr W21 Sf65 CH64 Sf65
 have CH68 := CHv.wr W23 Sf67 CH66
 have Sf69 := Safe.wr W23 Sf67 CH66 Sf67
 have CH70 := CHv.ext E24 CH68
 have Sf71 := Safe.ext E24 CH68 Sf69
 have Sf72 := Safe.ext E24 CH68 (Safe.new (Nat.le_of_eq g24.symm))
 have CH73 := CHv.ext E26 CH70
 have Sf74 := Safe.ext E26 CH70 Sf71
 have Sf75 := Safe.ext E26 CH70 Sf72
 have Sf76 := Safe.ext E26 CH70 (Safe.new (Nat.le_of_eq g26.symm))
 have CH77 := CHv.ext E28 CH73
 have Sf78 := Safe.ext E28 CH73 Sf74
 have Sf79 := Safe.ext E28 CH73 Sf75
 have Sf80 := Safe.ext E28 CH73 Sf76
 have Sf81 := Safe.ext E28 CH73 (Safe.new (Nat.le_of_eq g28.symm))
 refine own_statV (W := 0) X28 hx hZ hown e28 (ow hw 2 rfl) (ow hw 3 rfl) (rmfrb l Z a0 hw [] b1 kl1 _ _ _ _ _ _ _ _ _ _ cs fv gv h28 n0 Zs29 O44 SC hcs SF hfv SI hgv F47) (ow hw 5 rfl) (ow hw 4 rfl) rfl (by rw [hml]; rfl) rfl (hb hby at_122) (lenOf pd___B_Ljava_lang_String_ rfl) rfl (by decide) (own_EW hw) CH77 (fun T30 v30 Ll30 X30 hQ30 Sn30 hZ30 ho30 => ?_)
 obtain ⟨a_30, b_30, kb_30, z0_30, z1_30, z2_30, z3_30, z4_30, z5_30, z6_30, z7_30, z8_30, z9_30, z10_30, z11_30, z12_30, z13_30, z14_30, z15_30, z16_30, z17_30, z18_30, z19_30, la_30, lb_30, lk_30, rfl, N30q, K30, P30_0, P30_1, P30_2, P30_3, P30_4, P30_5, P30_6, P30_7, P30_8, P30_9, P30_10, P30_11⟩ := hQ30
 have N30 := Fr.app N23 N30q
 have Zs82 : n0 ≤ T30.heap.size := Nat.le_trans Zs29 K30.1
 have hZ := hZ30
 have hown := ho30
 have F83 := V24.ext E26
 have F84 := F83.ext E28
 have F85 := F84.keep K30 nin0
 obtain ⟨cn86, An86, -⟩ := id F85
 have nx87 : la_30 ≠ b24 := (ne_arr P30_7 (ow hw 39 rfl) An86)
 have nl88 : lb_30 ≠ b24 := own_neA P30_10 F85 (by decide)
 have F89 := V26.ext E28
 have F90 := F89.keep K30 nin0
 obtain ⟨cn91, An91, -⟩ := id F90
 have nx92 : la_30 ≠ b26 := (ne_arr P30_7 (ow hw 39 rfl) An91)
 have nl93 : lb_30 ≠ b26 := own_neA P30_10 F90 (by decide)
 have F94 := V28.keep K30 nin0
 obtain ⟨cn95, An95, -⟩ := id F94
 have nx96 : la_30 ≠ b28 := (ne_arr P30_7 (ow hw 39 rfl) An95)
 have nl97 : lb_30 ≠ b28 := own_neA P30_10 F94 (by decide)
 have hok := own_code P30_6
 refine ogo (mkF m 131 #[.val (.long m0), .second, iv m1, iv m2, iv m3, iv m4, rv b1, rv b24, rv b26, rv b28, rv a_30, .unset, .unset, .unset, .unset, .unset, .unset, .unset] [(.ref b24), (.ref a_30)]) (fun _ k => XS.astore X30.here hx rfl (hb hby at_125) rfl rfl (l' := #[.val (.long m0), .second, iv m1, iv m2, iv m3, iv m4, rv b1, rv b24, rv b26, rv b28, rv a_30, .unset, .unset, .unset, .unset, .unset, .unset, .unset]) rfl (XS.aload X30.here hx rfl (hb hby at_127) rfl rfl (XS.aload X30.here hx rfl (hb hby at_129) rfl rfl k))) ?_
 have O99 := O44.keep K30 all0
 have gx100 : n0 ≤ b24 := Nat.le_trans Zs23 (Nat.le_of_eq g24.symm)
 have nx101 : b_30 ≠ b24 := (Ne.symm (own_ne V24.lt (own_tr E26.1 E28.1) P30_1))
 refine own_stat (W := 0) X30 hx hZ hown rfl (ow hw 207 rfl) (ow hw 208 rfl) (rmcp l Z a0 hw [] a_30 b_30 kb_30 z0_30 z1_30 z2_30 z3_30 z4_30 _ z5_30 z6_30 z7_30 z8_30 z9_30 _ z10_30 z11_30 z12_30 z13_30 z14_30 _ z15_30 z16_30 z17_30 z18_30 z19_30 b24 kl24 (23 : Int32) cs fv T30.heap n0 Zs82 O99 SC hcs SF hfv P30_2 P30_3 P30_4 P30_5 F85 gx100 nx101 (by decide)) (ow hw 210 rfl) (ow hw 209 rfl) rfl (by rw [hml]; rfl) rfl (hb hby at_131) (lenOf pd__Ljava_lang_String__C_V rfl) rfl (by decide) (fun T98 v98 Ll98 X98 hQ98 => ?_)
 obtain ⟨rfl, N98q, K98, P98_0⟩ := hQ98
 have N98 := Fr.app N30 N98q
 have Zs102 : n0 ≤ T98.heap.size := Nat.le_trans Zs82 K98.1
 refine ogo (mkF m 142 #[.val (.long m0), .second, iv m1, iv m2, iv m3, iv m4, rv b1, rv b24, rv b26, rv b28, rv a_30, .unset, .unset, .unset, .unset, .unset, .unset, .unset] [(.int 22), (.ref a_30), (.int 22), (.ref b24)]) (fun _ k => XS.aload X98.here hx rfl (hb hby at_134) rfl rfl (XS.bipush X98.here hx rfl (hb hby at_136) (XS.aload X98.here hx rfl (hb hby at_138) rfl rfl (XS.bipush X98.here hx rfl (hb hby at_140) k)))) ?_
 have O104 := O99.keep K98 (allS gx100 all0)
 have F105 := P30_2.keep K98
 have nx106 : a_30 ≠ b24 := (Ne.symm (own_ne V24.lt (own_tr E26.1 E28.1) P30_0))
 have F107 := P30_3.keep K98 (ninS nx106 nin0)
 have F108 := P30_4.keep K98 (ninS nx106 nin0)
 have F109 := P30_5.keep K98 (ninS nx101 nin0)
 refine own_virt (W := 2) X98 hx hZ hown rfl (ow hw 211 rfl) (ow hw 45 rfl) (ow hw 47 rfl) (ow hw 46 rfl) (rmca l Z a0 hw [] a_30 b_30 kb_30 _ (22 : Int32) (23 : Int32) cs fv T98.heap n0 Zs102 O104 SC hcs SF hfv F105 F107 F108 F109 (by decide) (by decide)) (ow hw 48 rfl) (ow hw 33 rfl) F105 rfl (by rw [hml]; rfl) rfl (hb hby at_142) (lenOf pd__I_C rfl) rfl (by decide) (fun T103 v103 Ll103 X103 hQ103 => ?_)
 obtain ⟨rfl, N103q, eh103⟩ := hQ103
 have N103 := Fr.app N98 N103q
 refine own_casP X103 hx hZ eh103 N103 Zs102 gx100 P98_0 ⟨by decide, by decide⟩ rfl rfl rfl (hb hby at_145) (fun T110 h110 lo110 X110 e110 N110 W110 Zs110 V110 => ?_)
 have V110 : Arv Z h110 b24 kl24 .char (23 : Int32) [(.int (own_k z0_30)), (.int (own_k z1_30)), (.int (own_k z2_30)), (.int (own_k z3_30)), (.int (own_k z4_30)), (.int (own_k (own_lt (45 : Int32)))), (.int (own_k z5_30)), (.int (own_k z6_30)), (.int (own_k z7_30)), (.int (own_k z8_30)), (.int (own_k z9_30)), (.int (own_k (own_lt (45 : Int32)))), (.int (own_k z10_30)), (.int (own_k z11_30)), (.int (own_k z12_30)), (.int (own_k z13_30)), (.int (own_k z14_30)), (.int (own_k (own_lt (45 : Int32)))), (.int (own_k z15_30)), (.int (own_k z16_30)), (.int (own_k z17_30)), (.int (own_k z18_30)), (.int (own_k z19_30))] (.int 0) := V110
 refine ogo (mkF m 150 #[.val (.long m0), .second, iv m1, iv m2, iv m3, iv m4, rv b1, rv b24, rv b26, rv b28, rv a_30, .unset, .unset, .unset, .unset, .unset, .unset, .unset] [(.ref b26), (.ref a_30)]) (fun _ k => XS.aload X110.here hx rfl (hb hby at_146) rfl rfl (XS.aload X110.here hx rfl (hb hby at_148) rfl rfl k)) ?_
 have O112 := O104.wr W110 gx100
 have F113 := F105.wr W110
 have F114 := F107.other W110 (Or.inl nx106)
 have F115 := F108.other W110 (Or.inl nx106)
 have F116 := F109.other W110 nx101
 have nx117 : b26 ≠ b24 := (Ne.symm (own_ne V24.lt (Nat.le_refl _) (Nat.le_of_eq g26.symm)))
 have F118 := F90.keep K98 (ninS nx117 nin0)
 have F119 := F118.other W110 nx117
 have gx120 : n0 ≤ b26 := Nat.le_trans Zs25 (Nat.le_of_eq g26.symm)
 have nx121 : b_30 ≠ b26 := (Ne.symm (own_ne V26.lt E28.1 P30_1))
 refine own_stat (W := 0) X110 hx hZ hown e110 (ow hw 207 rfl) (ow hw 208 rfl) (rmcp l Z a0 hw [] a_30 b_30 kb_30 z0_30 z1_30 z2_30 z3_30 z4_30 _ z5_30 z6_30 z7_30 z8_30 z9_30 _ z10_30 z11_30 z12_30 z13_30 z14_30 _ z15_30 z16_30 z17_30 z18_30 z19_30 b26 kl26 (24 : Int32) cs fv h110 n0 Zs110 O112 SC hcs SF hfv F113 F114 F115 F116 F119 gx120 nx121 (by decide)) (ow hw 210 rfl) (ow hw 209 rfl) rfl (by rw [hml]; rfl) rfl (hb hby at_150) (lenOf pd__Ljava_lang_String__C_V rfl) rfl (by decide) (fun T111 v111 Ll111 X111 hQ111 => ?_)
 obtain ⟨rfl, N111q, K111, P111_0⟩ := hQ111
 have N111 := Fr.app N110 N111q
 have Zs122 : n0 ≤ T111.heap.size := Nat.le_trans Zs110 K111.1
 refine ogo (mkF m 161 #[.val (.long m0), .second, iv m1, iv m2, iv m3, iv m4, rv b1, rv b24, rv b26, rv b28, rv a_30, .unset, .unset, .unset, .unset, .unset, .unset, .unset] [(.int 22), (.ref a_30), (.int 22), (.ref b26)]) (fun _ k => XS.aload X111.here hx rfl (hb hby at_153) rfl rfl (XS.bipush X111.here hx rfl (hb hby at_155) (XS.aload X111.here hx rfl (hb hby at_157) rfl rfl (XS.bipush X111.here hx rfl (hb hby at_159) k)))) ?_
 have O124 := O112.keep K111 (allS gx120 all0)
 have F125 := F113.keep K111
 have nx126 : a_30 ≠ b26 := (Ne.symm (own_ne V26.lt E28.1 P30_0))
 have F127 := F114.keep K111 (ninS nx126 nin0)
 have F128 := F115.keep K111 (ninS nx126 nin0)
 have F129 := F116.keep K111 (ninS nx121 nin0)
 refine own_virt (W := 2) X111 hx hZ hown rfl (ow hw 211 rfl) (ow hw 45 rfl) (ow hw 47 rfl) (ow hw 46 rfl) (rmca l Z a0 hw [] a_30 b_30 kb_30 _ (22 : Int32) (23 : Int32) cs fv T111.heap n0 Zs122 O124 SC hcs SF hfv F125 F127 F128 F129 (by decide) (by decide)) (ow hw 48 rfl) (ow hw 33 rfl) F125 rfl (by rw [hml]; rfl) rfl (hb hby at_161) (lenOf pd__I_C rfl) rfl (by decide) (fun T123 v123 Ll123 X123 hQ123 => ?_)
 obtain ⟨rfl, N123q, eh123⟩ := hQ123
 have N123 := Fr.app N111 N123q
 refine own_casP X123 hx hZ eh123 N123 Zs122 gx120 P111_0 ⟨by decide, by decide⟩ rfl rfl rfl (hb hby at_164) (fun T130 h130 lo130 X130 e130 N130 W130 Zs130 V130 => ?_)
 have V130 : Arv Z h130 b26 kl26 .char (24 : Int32) [(.int (own_k z0_30)), (.int (own_k z1_30)), (.int (own_k z2_30)), (.int (own_k z3_30)), (.int (own_k z4_30)), (.int (own_k (own_lt (45 : Int32)))), (.int (own_k z5_30)), (.int (own_k z6_30)), (.int (own_k z7_30)), (.int (own_k z8_30)), (.int (own_k z9_30)), (.int (own_k (own_lt (45 : Int32)))), (.int (own_k z10_30)), (.int (own_k z11_30)), (.int (own_k z12_30)), (.int (own_k z13_30)), (.int (own_k z14_30)), (.int (own_k (own_lt (45 : Int32)))), (.int (own_k z15_30)), (.int (own_k z16_30)), (.int (own_k z17_30)), (.int (own_k z18_30)), (.int (own_k z19_30))] (.int 0) := V130
 refine ogo (mkF m 172 #[.val (.long m0), .second, iv m1, iv m2, iv m3, iv m4, rv b1, rv b24, rv b26, rv b28, rv a_30, .unset, .unset, .unset, .unset, .unset, .unset, .unset] [(.int ((m3 &&& (255 : Int32)).toUInt32.toUInt16.toUInt32.toInt32))]) (fun _ k => XS.iload X130.here hx rfl (hb hby at_165) rfl (XS.sipush X130.here hx rfl (hb hby at_167) (XS.iand X130.here hx rfl (hb hby at_170) rfl (XS.i2c X130.here hx rfl (hb hby at_171) rfl k)))) ?_
 obtain ⟨cv131, hcv131⟩ : ∃ z, z = ((m3 &&& (255 : Int32)).toUInt32.toUInt16.toUInt32.toInt32) := ⟨_, rfl⟩
 rw [← hcv131]
 have hcN : own_N cv131 < 256 := by rw [hcv131]; exact own_c8 m3
 refine ogo (mkF m 180 #[.val (.long m0), .second, iv m1, iv m2, iv m3, iv m4, rv b1, rv b24, rv b26, rv b28, rv a_30, iv cv131, .unset, .unset, .unset, .unset, .unset, .unset] [(.int cv131), (.int 23), (.ref b26)]) (fun _ k => XS.istore X130.here hx rfl (hb hby at_172) rfl (l' := #[.val (.long m0), .second, iv m1, iv m2, iv m3, iv m4, rv b1, rv b24, rv b26, rv b28, rv a_30, iv cv131, .unset, .unset, .unset, .unset, .unset, .unset]) rfl (XS.aload X130.here hx rfl (hb hby at_174) rfl rfl (XS.bipush X130.here hx rfl (hb hby at_176) (XS.iload X130.here hx rfl (hb hby at_178) rfl k)))) ?_
 refine own_casP X130 hx hZ e130 N130 Zs130 gx120 V130 ⟨by decide, by decide⟩ rfl rfl rfl (hb hby at_180) (fun T132 h132 lo132 X132 e132 N132 W132 Zs132 V132 => ?_)
 have V132 : Arv Z h132 b26 kl26 .char (24 : Int32) [(.int (own_k z0_30)), (.int (own_k z1_30)), (.int (own_k z2_30)), (.int (own_k z3_30)), (.int (own_k z4_30)), (.int (own_k (own_lt (45 : Int32)))), (.int (own_k z5_30)), (.int (own_k z6_30)), (.int (own_k z7_30)), (.int (own_k z8_30)), (.int (own_k z9_30)), (.int (own_k (own_lt (45 : Int32)))), (.int (own_k z10_30)), (.int (own_k z11_30)), (.int (own_k z12_30)), (.int (own_k z13_30)), (.int (own_k z14_30)), (.int (own_k (own_lt (45 : Int32)))), (.int (own_k z15_30)), (.int (own_k z16_30)), (.int (own_k z17_30)), (.int (own_k z18_30)), (.int (own_k z19_30)), (.int (nar .char cv131))] (.int 0) := V132
 refine ogo (mkF m 185 #[.val (.long m0), .second, iv m1, iv m2, iv m3, iv m4, rv b1, rv b24, rv b26, rv b28, rv a_30, iv cv131, .unset, .unset, .unset, .unset, .unset, .unset] [(.ref b28), (.ref a_30)]) (fun _ k => XS.aload X132.here hx rfl (hb hby at_181) rfl rfl (XS.aload X132.here hx rfl (hb hby at_183) rfl rfl k)) ?_
 have O134 := O124.wr W130 gx120
 have O135 := O134.wr W132 gx120
 have F136 := F125.wr W130
 have F137 := F136.wr W132
 have F138 := F127.other W130 (Or.inl nx126)
 have F139 := F138.other W132 (Or.inl nx126)
 have F140 := F128.other W130 (Or.inl nx126)
 have F141 := F140.other W132 (Or.inl nx126)
 have F142 := F129.other W130 nx121
 have F143 := F142.other W132 nx121
 have nx144 : b28 ≠ b24 := (Ne.symm (own_ne V24.lt E26.1 (Nat.le_of_eq g28.symm)))
 have F145 := F94.keep K98 (ninS nx144 nin0)
 have F146 := F145.other W110 nx144
 have nx147 : b28 ≠ b26 := (Ne.symm (own_ne V26.lt (Nat.le_refl _) (Nat.le_of_eq g28.symm)))
 have F148 := F146.keep K111 (ninS nx147 nin0)
 have F149 := F148.other W130 nx147
 have F150 := F149.other W132 nx147
 have gx151 : n0 ≤ b28 := Nat.le_trans Zs27 (Nat.le_of_eq g28.symm)
 have nx152 : b_30 ≠ b28 := (Ne.symm (own_ne V28.lt (Nat.le_refl _) P30_1))
 refine own_stat (W := 0) X132 hx hZ hown e132 (ow hw 207 rfl) (ow hw 208 rfl) (rmcp l Z a0 hw [] a_30 b_30 kb_30 z0_30 z1_30 z2_30 z3_30 z4_30 _ z5_30 z6_30 z7_30 z8_30 z9_30 _ z10_30 z11_30 z12_30 z13_30 z14_30 _ z15_30 z16_30 z17_30 z18_30 z19_30 b28 kl28 (22 : Int32) cs fv h132 n0 Zs132 O135 SC hcs SF hfv F137 F139 F141 F143 F150 gx151 nx152 (by decide)) (ow hw 210 rfl) (ow hw 209 rfl) rfl (by rw [hml]; rfl) rfl (hb hby at_185) (lenOf pd__Ljava_lang_String__C_V rfl) rfl (by decide) (fun T133 v133 Ll133 X133 hQ133 => ?_)
 obtain ⟨rfl, N133q, K133, P133_0⟩ := hQ133
 have N133 := Fr.app N132 N133q
 have Zs153 : n0 ≤ T133.heap.size := Nat.le_trans Zs132 K133.1
 refine ogo (mkF m 201 #[.val (.long m0), .second, iv m1, iv m2, iv m3, iv m4, rv b1, rv b24, rv b26, rv b28, rv a_30, iv cv131, iv (m4 &&& (3 : Int32)), .unset, .unset, .unset, .unset, .unset] [(.int ((m2 &&& (2147483647 : Int32)) % (23 : Int32)))]) (fun _ k => XS.iload X133.here hx rfl (hb hby at_188) rfl (XS.iconst X133.here hx rfl (hb hby at_190) (XS.iand X133.here hx rfl (hb hby at_191) rfl (XS.istore X133.here hx rfl (hb hby at_192) rfl (l' := #[.val (.long m0), .second, iv m1, iv m2, iv m3, iv m4, rv b1, rv b24, rv b26, rv b28, rv a_30, iv cv131, iv (m4 &&& (3 : Int32)), .unset, .unset, .unset, .unset, .unset]) rfl (XS.iloadN X133.here hx rfl (hb hby at_194) rfl (X133.ldcInt hx hown (mvT hZ (ow hw 212 rfl)) (g := (mkF m 195 #[.val (.long m0), .second, iv m1, iv m2, iv m3, iv m4, rv b1, rv b24, rv b26, rv b28, rv a_30, iv cv131, iv (m4 &&& (3 : Int32)), .unset, .unset, .unset, .unset, .unset] [(.int m2)])) rfl (hb hby at_195) _ (XS.iand X133.here hx rfl (hb hby at_197) rfl (XS.bipush X133.here hx rfl (hb hby at_198) (iremM (g := (mkF m 200 #[.val (.long m0), .second, iv m1, iv m2, iv m3, iv m4, rv b1, rv b24, rv b26, rv b28, rv a_30, iv cv131, iv (m4 &&& (3 : Int32)), .unset, .unset, .unset, .unset, .unset] [(.int 23), (.int (m2 &&& (2147483647 : Int32)))])) X133 hx rfl (hb hby at_200) rfl (by decide) k))))))))) ?_
 obtain ⟨pi154, hpi154⟩ : ∃ z, z = ((m2 &&& (2147483647 : Int32)) % (23 : Int32)) := ⟨_, rfl⟩
 rw [← hpi154]
 have hpi : ¬ (pi154 < 0) ∧ pi154 < (23 : Int32) := by rw [hpi154]; exact own_m23 m2
 have hpn := own_pn hpi
 refine ogo (mkF m 207 #[.val (.long m0), .second, iv m1, iv m2, iv m3, iv m4, rv b1, rv b24, rv b26, rv b28, rv a_30, iv cv131, iv (m4 &&& (3 : Int32)), iv pi154, .unset, .unset, .unset, .unset] [(.int pi154), (.ref b24)]) (fun _ k => XS.istore X133.here hx rfl (hb hby at_201) rfl (l' := #[.val (.long m0), .second, iv m1, iv m2, iv m3, iv m4, rv b1, rv b24, rv b26, rv b28, rv a_30, iv cv131, iv (m4 &&& (3 : Int32)), iv pi154, .unset, .unset, .unset, .unset]) rfl (XS.aload X133.here hx rfl (hb hby at_203) rfl rfl (XS.iload X133.here hx rfl (hb hby at_205) rfl k))) ?_
 have F156 := V110.keep K111 (ninS (Ne.symm nx117) nin0)
 have F157 := F156.other W130 (Ne.symm nx117)
 have F158 := F157.other W132 (Ne.symm nx117)
 have F159 := F158.keep K133 (ninS (Ne.symm nx144) nin0)
 refine own_cal (x := (own_at [(.int (own_k z0_30)), (.int (own_k z1_30)), (.int (own_k z2_30)), (.int (own_k z3_30)), (.int (own_k z4_30)), (.int (own_k (own_lt (45 : Int32)))), (.int (own_k z5_30)), (.int (own_k z6_30)), (.int (own_k z7_30)), (.int (own_k z8_30)), (.int (own_k z9_30)), (.int (own_k (own_lt (45 : Int32)))), (.int (own_k z10_30)), (.int (own_k z11_30)), (.int (own_k z12_30)), (.int (own_k z13_30)), (.int (own_k z14_30)), (.int (own_k (own_lt (45 : Int32)))), (.int (own_k z15_30)), (.int (own_k z16_30)), (.int (own_k z17_30)), (.int (own_k z18_30)), (.int (own_k z19_30))] pi154)) X133 hx hZ rfl F159 hpi (own_atc (by simp [own_vi])) rfl rfl (hb hby at_207) ?_
 obtain ⟨og160, hog160⟩ : ∃ z, z = (own_at [(.int (own_k z0_30)), (.int (own_k z1_30)), (.int (own_k z2_30)), (.int (own_k z3_30)), (.int (own_k z4_30)), (.int (own_k (own_lt (45 : Int32)))), (.int (own_k z5_30)), (.int (own_k z6_30)), (.int (own_k z7_30)), (.int (own_k z8_30)), (.int (own_k z9_30)), (.int (own_k (own_lt (45 : Int32)))), (.int (own_k z10_30)), (.int (own_k z11_30)), (.int (own_k z12_30)), (.int (own_k z13_30)), (.int (own_k z14_30)), (.int (own_k (own_lt (45 : Int32)))), (.int (own_k z15_30)), (.int (own_k z16_30)), (.int (own_k z17_30)), (.int (own_k z18_30)), (.int (own_k z19_30))] pi154) := ⟨_, rfl⟩
 rw [← hog160]
 refine ogo (mkF m 212 #[.val (.long m0), .second, iv m1, iv m2, iv m3, iv m4, rv b1, rv b24, rv b26, rv b28, rv a_30, iv cv131, iv (m4 &&& (3 : Int32)), iv pi154, iv og160, .unset, .unset, .unset] [(.ref a_30)]) (fun _ k => XS.istore X133.here hx rfl (hb hby at_208) rfl (l' := #[.val (.long m0), .second, iv m1, iv m2, iv m3, iv m4, rv b1, rv b24, rv b26, rv b28, rv a_30, iv cv131, iv (m4 &&& (3 : Int32)), iv pi154, iv og160, .unset, .unset, .unset]) rfl (XS.aload X133.here hx rfl (hb hby at_210) rfl rfl k)) ?_
 have O162 := O135.keep K133 (allS gx151 all0)
 have F163 := F137.keep K133
 have nx164 : a_30 ≠ b28 := (Ne.symm (own_ne V28.lt (Nat.le_refl _) P30_0))
 have F165 := F139.keep K133 (ninS nx164 nin0)
 have F166 := F141.keep K133 (ninS nx164 nin0)
 have F167 := F143.keep K133 (ninS nx152 nin0)
 have F168 := P30_7.keep K98
 have F169 := F168.wr W110
 have F170 := F169.keep K111
 have F171 := F170.wr W130
 have F172 := F171.wr W132
 have F173 := F172.keep K133
 have F174 := P30_8.keep K98 (ninS nx87 nin0)
 have F175 := F174.other W110 (Or.inl nx87)
 have F176 := F175.keep K111 (ninS nx92 nin0)
 have F177 := F176.other W130 (Or.inl nx92)
 have F178 := F177.other W132 (Or.inl nx92)
 have F179 := F178.keep K133 (ninS nx96 nin0)
 have F180 := P30_9.keep K98 (ninS nx87 nin0)
 have F181 := F180.other W110 (Or.inl nx87)
 have F182 := F181.keep K111 (ninS nx92 nin0)
 have F183 := F182.other W130 (Or.inl nx92)
 have F184 := F183.other W132 (Or.inl nx92)
 have F185 := F184.keep K133 (ninS nx96 nin0)
 have F186 := P30_10.keep K98 (ninS nl88 nin0)
 have F187 := F186.other W110 nl88
 have F188 := F187.keep K111 (ninS nl93 nin0)
 have F189 := F188.other W130 nl93
 have F190 := F189.other W132 nl93
 have F191 := F190.keep K133 (ninS nl97 nin0)
 refine own_statL (W := 0) X133 hx hZ hown rfl (ow hw 213 rfl) (ow hw 214 rfl) (rmiv l Z a0 hw [] a_30 b_30 kb_30 z0_30 z1_30 z2_30 z3_30 z4_30 _ z5_30 z6_30 z7_30 z8_30 z9_30 _ z10_30 z11_30 z12_30 z13_30 z14_30 _ z15_30 z16_30 z17_30 z18_30 z19_30 la_30 lb_30 lk_30 cs fv T133.heap n0 Zs153 O162 SC hcs SF hfv F163 F165 F166 F167 F173 F179 F185 F191) (ow hw 215 rfl) (ow hw 4 rfl) rfl (by rw [hml]; rfl) rfl (hb hby at_212) (lenOf pd__Ljava_lang_String__Z rfl) rfl (by decide) P30_11 (fun T161 v161 Ll161 X161 hQ161 => ?_)
 obtain ⟨r_161, rfl, N161q, K161, P161_0⟩ := hQ161
 have N161 := Fr.app N133 N161q
 have Zs192 : n0 ≤ T161.heap.size := Nat.le_trans Zs153 K161.1
 obtain rfl : r_161 = (1 : Int32) := own_r1 P161_0 hok
 refine ogo (mkF m 219 #[.val (.long m0), .second, iv m1, iv m2, iv m3, iv m4, rv b1, rv b24, rv b26, rv b28, rv a_30, iv cv131, iv (m4 &&& (3 : Int32)), iv pi154, iv og160, iv 1, .unset, .unset] [(.int (m4 &&& (3 : Int32)))]) (fun _ k => XS.istore X161.here hx rfl (hb hby at_215) rfl (l' := #[.val (.long m0), .second, iv m1, iv m2, iv m3, iv m4, rv b1, rv b24, rv b26, rv b28, rv a_30, iv cv131, iv (m4 &&& (3 : Int32)), iv pi154, iv og160, iv 1, .unset, .unset]) rfl (XS.iload X161.here hx rfl (hb hby at_217) rfl k)) ?_
 by_cases hc219_193 : (m4 &&& (3 : Int32)) = (0 : Int32)
 · skip
   refine ogo (mkF m 228 #[.val (.long m0), .second, iv m1, iv m2, iv m3, iv m4, rv b1, rv b24, rv b26, rv b28, rv a_30, iv cv131, iv (m4 &&& (3 : Int32)), iv pi154, iv og160, iv 1, .unset, .unset] [(.int cv131), (.int pi154), (.ref b24)]) (fun _ k => XS.ifNo X161.here hx rfl (hb hby at_219) rfl ((if0 _ _).trans (teq hc219_193).2) (XS.aload X161.here hx rfl (hb hby at_222) rfl rfl (XS.iload X161.here hx rfl (hb hby at_224) rfl (XS.iload X161.here hx rfl (hb hby at_226) rfl k)))) ?_
   have F195 := F159.keep K161 nin0
   refine own_casS X161 hx hZ rfl N161 Zs192 gx100 F195 hpi hpn rfl rfl (hb hby at_228) (fun T194 h194 lo194 X194 e194 N194 W194 Zs194 V194 => ?_)
   have V196 : Arv Z h194 b24 kl24 .char (23 : Int32) [(.int (own_tj pi154.toNatClampNeg 0 (nar .char cv131) (own_k z0_30))), (.int (own_tj pi154.toNatClampNeg 1 (nar .char cv131) (own_k z1_30))), (.int (own_tj pi154.toNatClampNeg 2 (nar .char cv131) (own_k z2_30))), (.int (own_tj pi154.toNatClampNeg 3 (nar .char cv131) (own_k z3_30))), (.int (own_tj pi154.toNatClampNeg 4 (nar .char cv131) (own_k z4_30))), (.int (own_tj pi154.toNatClampNeg 5 (nar .char cv131) (own_k (own_lt (45 : Int32))))), (.int (own_tj pi154.toNatClampNeg 6 (nar .char cv131) (own_k z5_30))), (.int (own_tj pi154.toNatClampNeg 7 (nar .char cv131) (own_k z6_30))), (.int (own_tj pi154.toNatClampNeg 8 (nar .char cv131) (own_k z7_30))), (.int (own_tj pi154.toNatClampNeg 9 (nar .char cv131) (own_k z8_30))), (.int (own_tj pi154.toNatClampNeg 10 (nar .char cv131) (own_k z9_30))), (.int (own_tj pi154.toNatClampNeg 11 (nar .char cv131) (own_k (own_lt (45 : Int32))))), (.int (own_tj pi154.toNatClampNeg 12 (nar .char cv131) (own_k z10_30))), (.int (own_tj pi154.toNatClampNeg 13 (nar .char cv131) (own_k z11_30))), (.int (own_tj pi154.toNatClampNeg 14 (nar .char cv131) (own_k z12_30))), (.int (own_tj pi154.toNatClampNeg 15 (nar .char cv131) (own_k z13_30))), (.int (own_tj pi154.toNatClampNeg 16 (nar .char cv131) (own_k z14_30))), (.int (own_tj pi154.toNatClampNeg 17 (nar .char cv131) (own_k (own_lt (45 : Int32))))), (.int (own_tj pi154.toNatClampNeg 18 (nar .char cv131) (own_k z15_30))), (.int (own_tj pi154.toNatClampNeg 19 (nar .char cv131) (own_k z16_30))), (.int (own_tj pi154.toNatClampNeg 20 (nar .char cv131) (own_k z17_30))), (.int (own_tj pi154.toNatClampNeg 21 (nar .char cv131) (own_k z18_30))), (.int (own_tj pi154.toNatClampNeg 22 (nar .char cv131) (own_k z19_30)))] (.int 0) := by rw [← own_set23 hpn]; exact V194
   obtain ⟨T197, h197, X197, e197, E197, A197, D197, Un197, st197⟩ := newO X194 hx hZ hown (ow hw 241 rfl) (ow hw 39 rfl) (ow hw 33 rfl) e194 (g := (mkF m 229 #[.val (.long m0), .second, iv m1, iv m2, iv m3, iv m4, rv b1, rv b24, rv b26, rv b28, rv a_30, iv cv131, iv (m4 &&& (3 : Int32)), iv pi154, iv og160, iv 1, .unset, .unset] [])) rfl (hb hby at_229) (by decide) (by decide)
   obtain ⟨b197, g197⟩ : ∃ z, z = h194.size := ⟨_, rfl⟩
   rw [← g197] at A197 D197 Un197 st197
   have Zs198 : n0 ≤ h197.size := Nat.le_trans Zs194 E197.1
   have F197_value : Fld Z h197 b197 cs1 "value" "[B" .null := D197 (Or.inr (ow hw 40 rfl)) (ty := (.array .byte)) (by decide)
   have F197_coder : Fld Z h197 b197 cs1 "coder" "B" (.int 0) := D197 (Or.inr (ow hw 41 rfl)) (ty := .byte) (by decide)
   refine ogo (mkF m 235 #[.val (.long m0), .second, iv m1, iv m2, iv m3, iv m4, rv b1, rv b24, rv b26, rv b28, rv a_30, iv cv131, iv (m4 &&& (3 : Int32)), iv pi154, iv og160, iv 1, .unset, .unset] [(.ref b24), (.ref b197), (.ref b197)]) (fun _ k => st197 _ (XS.dup X197.here hx rfl (hb hby at_232) rfl rfl (XS.aload X197.here hx rfl (hb hby at_233) rfl rfl k))) ?_
   have O200 := O162.keep K161 all0
   have O201 := O200.wr W194 gx100
   have O202 := O201.ext E197
   have gx203 : n0 ≤ b197 := Nat.le_trans Zs194 (Nat.le_of_eq g197.symm)
   have F204 := V196.ext E197
   refine own_spec (W := 1) X197 hx hZ hown e197 (ow hw 242 rfl) (ow hw 243 rfl) (rms2 l Z a0 hw [] b197 b24 kl24 (23 : Int32) ([(own_tj pi154.toNatClampNeg 0 (nar .char cv131) (own_k z0_30)), (own_tj pi154.toNatClampNeg 1 (nar .char cv131) (own_k z1_30)), (own_tj pi154.toNatClampNeg 2 (nar .char cv131) (own_k z2_30)), (own_tj pi154.toNatClampNeg 3 (nar .char cv131) (own_k z3_30)), (own_tj pi154.toNatClampNeg 4 (nar .char cv131) (own_k z4_30)), (own_tj pi154.toNatClampNeg 5 (nar .char cv131) (own_k (own_lt (45 : Int32)))), (own_tj pi154.toNatClampNeg 6 (nar .char cv131) (own_k z5_30)), (own_tj pi154.toNatClampNeg 7 (nar .char cv131) (own_k z6_30)), (own_tj pi154.toNatClampNeg 8 (nar .char cv131) (own_k z7_30)), (own_tj pi154.toNatClampNeg 9 (nar .char cv131) (own_k z8_30)), (own_tj pi154.toNatClampNeg 10 (nar .char cv131) (own_k z9_30)), (own_tj pi154.toNatClampNeg 11 (nar .char cv131) (own_k (own_lt (45 : Int32)))), (own_tj pi154.toNatClampNeg 12 (nar .char cv131) (own_k z10_30)), (own_tj pi154.toNatClampNeg 13 (nar .char cv131) (own_k z11_30)), (own_tj pi154.toNatClampNeg 14 (nar .char cv131) (own_k z12_30)), (own_tj pi154.toNatClampNeg 15 (nar .char cv131) (own_k z13_30)), (own_tj pi154.toNatClampNeg 16 (nar .char cv131) (own_k z14_30)), (own_tj pi154.toNatClampNeg 17 (nar .char cv131) (own_k (own_lt (45 : Int32)))), (own_tj pi154.toNatClampNeg 18 (nar .char cv131) (own_k z15_30)), (own_tj pi154.toNatClampNeg 19 (nar .char cv131) (own_k z16_30)), (own_tj pi154.toNatClampNeg 20 (nar .char cv131) (own_k z17_30)), (own_tj pi154.toNatClampNeg 21 (nar .char cv131) (own_k z18_30)), (own_tj pi154.toNatClampNeg 22 (nar .char cv131) (own_k z19_30))]) cs h197 n0 Zs198 O202 SC hcs A197 F197_value F197_coder gx203 F204 rfl (by decide) (List.forall_mem_cons.2 ⟨(own_255 (own_tj8 (own_nc8 hcN))), (List.forall_mem_cons.2 ⟨(own_255 (own_tj8 (own_nc8 hcN))), (List.forall_mem_cons.2 ⟨(own_255 (own_tj8 (own_nc8 hcN))), (List.forall_mem_cons.2 ⟨(own_255 (own_tj8 (own_nc8 hcN))), (List.forall_mem_cons.2 ⟨(own_255 (own_tj8 (own_nc8 hcN))), (List.forall_mem_cons.2 ⟨(own_255 (own_tj8 (own_nc8 hcN))), (List.forall_mem_cons.2 ⟨(own_255 (own_tj8 (own_nc8 hcN))), (List.forall_mem_cons.2 ⟨(own_255 (own_tj8 (own_nc8 hcN))), (List.forall_mem_cons.2 ⟨(own_255 (own_tj8 (own_nc8 hcN))), (List.forall_mem_cons.2 ⟨(own_255 (own_tj8 (own_nc8 hcN))), (List.forall_mem_cons.2 ⟨(own_255 (own_tj8 (own_nc8 hcN))), (List.forall_mem_cons.2 ⟨(own_255 (own_tj8 (own_nc8 hcN))), (List.forall_mem_cons.2 ⟨(own_255 (own_tj8 (own_nc8 hcN))), (List.forall_mem_cons.2 ⟨(own_255 (own_tj8 (own_nc8 hcN))), (List.forall_mem_cons.2 ⟨(own_255 (own_tj8 (own_nc8 hcN))), (List.forall_mem_cons.2 ⟨(own_255 (own_tj8 (own_nc8 hcN))), (List.forall_mem_cons.2 ⟨(own_255 (own_tj8 (own_nc8 hcN))), (List.forall_mem_cons.2 ⟨(own_255 (own_tj8 (own_nc8 hcN))), (List.forall_mem_cons.2 ⟨(own_255 (own_tj8 (own_nc8 hcN))), (List.forall_mem_cons.2 ⟨(own_255 (own_tj8 (own_nc8 hcN))), (List.forall_mem_cons.2 ⟨(own_255 (own_tj8 (own_nc8 hcN))), (List.forall_mem_cons.2 ⟨(own_255 (own_tj8 (own_nc8 hcN))), (List.forall_mem_cons.2 ⟨(own_255 (own_tj8 (own_nc8 hcN))), (fun _ q => absurd q List.not_mem_nil)⟩)⟩)⟩)⟩)⟩)⟩)⟩)⟩)⟩)⟩)⟩)⟩)⟩)⟩)⟩)⟩)⟩)⟩)⟩)⟩)⟩)⟩)⟩) (by decide) (by decide)) (ow hw 244 rfl) (ow hw 33 rfl) rfl (by rw [hml]; rfl) rfl (hb hby at_235) (lenOf pd___C_V rfl) rfl rfl (by decide) (fun T199 v199 Ll199 X199 hQ199 => ?_)
   obtain ⟨b_199, kb_199, rfl, N199q, K199, P199_0, P199_1, P199_2⟩ := hQ199
   have N199 := Fr.app N194 N199q
   have Zs205 : n0 ≤ T199.heap.size := Nat.le_trans Zs198 K199.1
   refine ogo (mkF m 244 #[.val (.long m0), .second, iv m1, iv m2, iv m3, iv m4, rv b1, rv b24, rv b26, rv b28, rv a_30, iv cv131, iv (m4 &&& (3 : Int32)), iv pi154, iv og160, iv 1, rv b197, .unset] [(.int og160), (.int cv131)]) (fun _ k => XS.astore X199.here hx rfl (hb hby at_238) rfl rfl (l' := #[.val (.long m0), .second, iv m1, iv m2, iv m3, iv m4, rv b1, rv b24, rv b26, rv b28, rv a_30, iv cv131, iv (m4 &&& (3 : Int32)), iv pi154, iv og160, iv 1, rv b197, .unset]) rfl (XS.iload X199.here hx rfl (hb hby at_240) rfl (XS.iload X199.here hx rfl (hb hby at_242) rfl k))) ?_
   by_cases hc244_206 : cv131 = og160
   · skip
     refine ogo (mkF m 324 #[.val (.long m0), .second, iv m1, iv m2, iv m3, iv m4, rv b1, rv b24, rv b26, rv b28, rv a_30, iv cv131, iv (m4 &&& (3 : Int32)), iv pi154, iv og160, iv 1, rv b197, iv 1] [(.ref b197)]) (fun _ k => XS.icmpNo X199.here hx rfl (hb hby at_244) rfl (teq hc244_206).2 (XS.iconst X199.here hx rfl (hb hby at_247) (XS.goto X199.here hx rfl (pc0 := 248) (pc' := 252) rfl (hb hby at_248) (by decide) (by decide) (XS.istore X199.here hx rfl (hb hby at_252) rfl (l' := #[.val (.long m0), .second, iv m1, iv m2, iv m3, iv m4, rv b1, rv b24, rv b26, rv b28, rv a_30, iv cv131, iv (m4 &&& (3 : Int32)), iv pi154, iv og160, iv 1, rv b197, iv 1]) rfl (XS.goto X199.here hx rfl (pc0 := 254) (pc' := 317) rfl (hb hby at_254) (by decide) (by decide) (XS.iload X199.here hx rfl (hb hby at_317) rfl (XS.ifNo X199.here hx rfl (hb hby at_319) rfl ((if0 _ _).trans (feq (by decide : ¬ ((1 : Int32) = (0 : Int32)))).1) (XS.aload X199.here hx rfl (hb hby at_322) rfl rfl k)))))))) ?_
     have O208 := O202.keep K199 (allS gx203 all0)
     have F209 := A197.keep K199
     have F210 := F173.keep K161
     have F211 := F210.wr W194
     have F212 := F211.ext E197
     have F213 := F212.keep K199
     have F214 := F179.keep K161 nin0
     have F215 := F214.other W194 (Or.inl nx87)
     have F216 := F215.ext E197
     have nx217 : la_30 ≠ b197 := (own_ne P30_7.lt (own_tr (own_tr (own_tr (own_tr (own_tr (own_tr (own_tr K98.1 (Keep.of_wr W110).1) K111.1) (Keep.of_wr W130).1) (Keep.of_wr W132).1) K133.1) K161.1) (Keep.of_wr W194).1) (Nat.le_of_eq g197.symm))
     have F218 := F216.keep K199 (ninS nx217 nin0)
     have F219 := F185.keep K161 nin0
     have F220 := F219.other W194 (Or.inl nx87)
     have F221 := F220.ext E197
     have F222 := F221.keep K199 (ninS nx217 nin0)
     have F223 := F191.keep K161 nin0
     have F224 := F223.other W194 nl88
     have F225 := F224.ext E197
     have nx226 : lb_30 ≠ b197 := (own_ne P30_10.lt (own_tr (own_tr (own_tr (own_tr (own_tr (own_tr (own_tr K98.1 (Keep.of_wr W110).1) K111.1) (Keep.of_wr W130).1) (Keep.of_wr W132).1) K133.1) K161.1) (Keep.of_wr W194).1) (Nat.le_of_eq g197.symm))
     have F227 := F225.keep K199 (ninS nx226 nin0)
     refine own_statL (W := 0) X199 hx hZ hown rfl (ow hw 213 rfl) (ow hw 214 rfl) (rmiv l Z a0 hw [] b197 b_199 kb_199 _ _ _ _ _ _ _ _ _ _ _ _ _ _ _ _ _ _ _ _ _ _ _ la_30 lb_30 lk_30 cs fv T199.heap n0 Zs205 O208 SC hcs SF hfv F209 P199_1 P199_0 P199_2 F213 F218 F222 F227) (ow hw 215 rfl) (ow hw 4 rfl) rfl (by rw [hml]; rfl) rfl (hb hby at_324) (lenOf pd__Ljava_lang_String__Z rfl) rfl (by decide) P30_11 (fun T207 v207 Ll207 X207 hQ207 => ?_)
     obtain ⟨r_207, rfl, N207q, K207, P207_0⟩ := hQ207
     have N207 := Fr.app N199 N207q
     have Zs228 : n0 ≤ T207.heap.size := Nat.le_trans Zs205 K207.1
     obtain rfl : r_207 = (1 : Int32) := own_r1 P207_0 ((own_m0c hpn hcN hok hog160).2 hc244_206)
     refine ogo (mkF m 337 #[.val (.long m0), .second, iv m1, iv m2, iv m3, iv m4, rv b1, rv b24, rv b26, rv b28, rv a_30, iv cv131, iv (m4 &&& (3 : Int32)), iv pi154, iv og160, iv 1, rv b197, iv 1] [(.int 1)]) (fun _ k => sg_rm0_0 X207 hx hby (rfl : (1 : Int32) = (1 : Int32)) k) ?_
     obtain ⟨fs, hr, hrun, hended, hRE⟩ := Stand.leaveW (s := s) X207 Sn30 (by exact Nat.le_trans (Nat.le_refl _) (own_tr (own_tr (own_tr (own_tr (own_tr (own_tr (own_tr (own_tr (own_tr (own_tr K98.1 (Keep.of_wr W110).1) K111.1) (Keep.of_wr W130).1) (Keep.of_wr W132).1) K133.1) K161.1) (Keep.of_wr W194).1) E197.1) K199.1) K207.1)) (v := some (.int 1)) (fun h => by rw [Bd.returns] at h; cases h)
     exact ⟨_, _, retN X207 hx (t := .boolean) Bd.returns (by simp) (hb hby at_337) hr, hrun, hended, _, _, rfl, (show Qrm0 Z _ _ _ _ _ _ _ _ h0 n0 _ T207.heap _ from (by exact ⟨rfl, N207⟩)), ⟨hRE.1, hRE.2.1, hRE.2.2.1, hRE.2.2.2.mono (by decide) (by decide)⟩⟩
   refine ogo (mkF m 324 #[.val (.long m0), .second, iv m1, iv m2, iv m3, iv m4, rv b1, rv b24, rv b26, rv b28, rv a_30, iv cv131, iv (m4 &&& (3 : Int32)), iv pi154, iv og160, iv 1, rv b197, iv 0] [(.ref b197)]) (fun _ k => XS.icmpYes X199.here hx rfl (pc0 := 244) (pc' := 251) rfl (hb hby at_244) rfl (feq hc244_206).2 (by decide) (by decide) (XS.iconst X199.here hx rfl (hb hby at_251) (XS.istore X199.here hx rfl (hb hby at_252) rfl (l' := #[.val (.long m0), .second, iv m1, iv m2, iv m3, iv m4, rv b1, rv b24, rv b26, rv b28, rv a_30, iv cv131, iv (m4 &&& (3 : Int32)), iv pi154, iv og160, iv 1, rv b197, iv 0]) rfl (XS.goto X199.here hx rfl (pc0 := 254) (pc' := 317) rfl (hb hby at_254) (by decide) (by decide) (XS.iload X199.here hx rfl (hb hby at_317) rfl (XS.ifNo X199.here hx rfl (hb hby at_319) rfl ((if0 _ _).trans (feq (by decide : ¬ ((1 : Int32) = (0 : Int32)))).1) (XS.aload X199.here hx rfl (hb hby at_322) rfl rfl k))))))) ?_
   have O230 := O202.keep K199 (allS gx203 all0)
   have F231 := A197.keep K199
   have F232 := F173.keep K161
   have F233 := F232.wr W194
   have F234 := F233.ext E197
   have F235 := F234.keep K199
   have F236 := F179.keep K161 nin0
   have F237 := F236.other W194 (Or.inl nx87)
   have F238 := F237.ext E197
   have nx239 : la_30 ≠ b197 := (own_ne P30_7.lt (own_tr (own_tr (own_tr (own_tr (own_tr (own_tr (own_tr K98.1 (Keep.of_wr W110).1) K111.1) (Keep.of_wr W130).1) (Keep.of_wr W132).1) K133.1) K161.1) (Keep.of_wr W194).1) (Nat.le_of_eq g197.symm))
   have F240 := F238.keep K199 (ninS nx239 nin0)
   have F241 := F185.keep K161 nin0
   have F242 := F241.other W194 (Or.inl nx87)
   have F243 := F242.ext E197
   have F244 := F243.keep K199 (ninS nx239 nin0)
   have F245 := F191.keep K161 nin0
   have F246 := F245.other W194 nl88
   have F247 := F246.ext E197
   have nx248 : lb_30 ≠ b197 := (own_ne P30_10.lt (own_tr (own_tr (own_tr (own_tr (own_tr (own_tr (own_tr K98.1 (Keep.of_wr W110).1) K111.1) (Keep.of_wr W130).1) (Keep.of_wr W132).1) K133.1) K161.1) (Keep.of_wr W194).1) (Nat.le_of_eq g197.symm))
   have F249 := F247.keep K199 (ninS nx248 nin0)
   refine own_statL (W := 0) X199 hx hZ hown rfl (ow hw 213 rfl) (ow hw 214 rfl) (rmiv l Z a0 hw [] b197 b_199 kb_199 _ _ _ _ _ _ _ _ _ _ _ _ _ _ _ _ _ _ _ _ _ _ _ la_30 lb_30 lk_30 cs fv T199.heap n0 Zs205 O230 SC hcs SF hfv F231 P199_1 P199_0 P199_2 F235 F240 F244 F249) (ow hw 215 rfl) (ow hw 4 rfl) rfl (by rw [hml]; rfl) rfl (hb hby at_324) (lenOf pd__Ljava_lang_String__Z rfl) rfl (by decide) P30_11 (fun T229 v229 Ll229 X229 hQ229 => ?_)
   obtain ⟨r_229, rfl, N229q, K229, P229_0⟩ := hQ229
   have N229 := Fr.app N199 N229q
   have Zs250 : n0 ≤ T229.heap.size := Nat.le_trans Zs205 K229.1
   obtain rfl : r_229 = (0 : Int32) := own_r0 P229_0 (fun q => hc244_206 ((own_m0c hpn hcN hok hog160).1 q))
   refine ogo (mkF m 337 #[.val (.long m0), .second, iv m1, iv m2, iv m3, iv m4, rv b1, rv b24, rv b26, rv b28, rv a_30, iv cv131, iv (m4 &&& (3 : Int32)), iv pi154, iv og160, iv 1, rv b197, iv 0] [(.int 1)]) (fun _ k => sg_rm0_0 X229 hx hby (rfl : (0 : Int32) = (0 : Int32)) k) ?_
   obtain ⟨fs, hr, hrun, hended, hRE⟩ := Stand.leaveW (s := s) X229 Sn30 (by exact Nat.le_trans (Nat.le_refl _) (own_tr (own_tr (own_tr (own_tr (own_tr (own_tr (own_tr (own_tr (own_tr (own_tr K98.1 (Keep.of_wr W110).1) K111.1) (Keep.of_wr W130).1) (Keep.of_wr W132).1) K133.1) K161.1) (Keep.of_wr W194).1) E197.1) K199.1) K229.1)) (v := some (.int 1)) (fun h => by rw [Bd.returns] at h; cases h)
   exact ⟨_, _, retN X229 hx (t := .boolean) Bd.returns (by simp) (hb hby at_337) hr, hrun, hended, _, _, rfl, (show Qrm0 Z _ _ _ _ _ _ _ _ h0 n0 _ T229.heap _ from (by exact ⟨rfl, N229⟩)), ⟨hRE.1, hRE.2.1, hRE.2.2.1, hRE.2.2.2.mono (by decide) (by decide)⟩⟩
 refine ogo (mkF m 260 #[.val (.long m0), .second, iv m1, iv m2, iv m3, iv m4, rv b1, rv b24, rv b26, rv b28, rv a_30, iv cv131, iv (m4 &&& (3 : Int32)), iv pi154, iv og160, iv 1, .unset, .unset] [(.int 1), (.int (m4 &&& (3 : Int32)))]) (fun _ k => XS.ifYes X161.here hx rfl (pc0 := 219) (pc' := 257) rfl (hb hby at_219) rfl ((if0 _ _).trans (feq hc219_193).2) (by decide) (by decide) (XS.iload X161.here hx rfl (hb hby at_257) rfl (XS.iconst X161.here hx rfl (hb hby at_259) k))) ?_
 by_cases hc260_251 : (m4 &&& (3 : Int32)) = (1 : Int32)
 · skip
   refine ogo (mkF m 263 #[.val (.long m0), .second, iv m1, iv m2, iv m3, iv m4, rv b1, rv b24, rv b26, rv b28, rv a_30, iv cv131, iv (m4 &&& (3 : Int32)), iv pi154, iv og160, iv 1, .unset, .unset] []) (fun _ k => XS.icmpNo X161.here hx rfl (hb hby at_260) rfl (teq hc260_251).2 k) ?_
   obtain ⟨T252, h252, X252, e252, E252, A252, D252, Un252, st252⟩ := newO X161 hx hZ hown (ow hw 241 rfl) (ow hw 39 rfl) (ow hw 33 rfl) rfl (g := (mkF m 263 #[.val (.long m0), .second, iv m1, iv m2, iv m3, iv m4, rv b1, rv b24, rv b26, rv b28, rv a_30, iv cv131, iv (m4 &&& (3 : Int32)), iv pi154, iv og160, iv 1, .unset, .unset] [])) rfl (hb hby at_263) (by decide) (by decide)
   obtain ⟨b252, g252⟩ : ∃ z, z = T161.heap.size := ⟨_, rfl⟩
   rw [← g252] at A252 D252 Un252 st252
   have Zs253 : n0 ≤ h252.size := Nat.le_trans Zs192 E252.1
   have F252_value : Fld Z h252 b252 cs1 "value" "[B" .null := D252 (Or.inr (ow hw 40 rfl)) (ty := (.array .byte)) (by decide)
   have F252_coder : Fld Z h252 b252 cs1 "coder" "B" (.int 0) := D252 (Or.inr (ow hw 41 rfl)) (ty := .byte) (by decide)
   refine ogo (mkF m 269 #[.val (.long m0), .second, iv m1, iv m2, iv m3, iv m4, rv b1, rv b24, rv b26, rv b28, rv a_30, iv cv131, iv (m4 &&& (3 : Int32)), iv pi154, iv og160, iv 1, .unset, .unset] [(.ref b26), (.ref b252), (.ref b252)]) (fun _ k => st252 _ (XS.dup X252.here hx rfl (hb hby at_266) rfl rfl (XS.aload X252.here hx rfl (hb hby at_267) rfl rfl k))) ?_
   have O255 := O162.keep K161 all0
   have O256 := O255.ext E252
   have gx257 : n0 ≤ b252 := Nat.le_trans Zs192 (Nat.le_of_eq g252.symm)
   have F258 := V132.keep K133 (ninS (Ne.symm nx147) nin0)
   have F259 := F258.keep K161 nin0
   have F260 := F259.ext E252
   refine own_spec (W := 1) X252 hx hZ hown e252 (ow hw 242 rfl) (ow hw 243 rfl) (rms2 l Z a0 hw [] b252 b26 kl26 (24 : Int32) ([(own_k z0_30), (own_k z1_30), (own_k z2_30), (own_k z3_30), (own_k z4_30), (own_k (own_lt (45 : Int32))), (own_k z5_30), (own_k z6_30), (own_k z7_30), (own_k z8_30), (own_k z9_30), (own_k (own_lt (45 : Int32))), (own_k z10_30), (own_k z11_30), (own_k z12_30), (own_k z13_30), (own_k z14_30), (own_k (own_lt (45 : Int32))), (own_k z15_30), (own_k z16_30), (own_k z17_30), (own_k z18_30), (own_k z19_30), (nar .char cv131)]) cs h252 n0 Zs253 O256 SC hcs A252 F252_value F252_coder gx257 F260 rfl (by decide) (List.forall_mem_cons.2 ⟨(own_255 (own_k8 _)), (List.forall_mem_cons.2 ⟨(own_255 (own_k8 _)), (List.forall_mem_cons.2 ⟨(own_255 (own_k8 _)), (List.forall_mem_cons.2 ⟨(own_255 (own_k8 _)), (List.forall_mem_cons.2 ⟨(own_255 (own_k8 _)), (List.forall_mem_cons.2 ⟨(own_255 (own_k8 _)), (List.forall_mem_cons.2 ⟨(own_255 (own_k8 _)), (List.forall_mem_cons.2 ⟨(own_255 (own_k8 _)), (List.forall_mem_cons.2 ⟨(own_255 (own_k8 _)), (List.forall_mem_cons.2 ⟨(own_255 (own_k8 _)), (List.forall_mem_cons.2 ⟨(own_255 (own_k8 _)), (List.forall_mem_cons.2 ⟨(own_255 (own_k8 _)), (List.forall_mem_cons.2 ⟨(own_255 (own_k8 _)), (List.forall_mem_cons.2 ⟨(own_255 (own_k8 _)), (List.forall_mem_cons.2 ⟨(own_255 (own_k8 _)), (List.forall_mem_cons.2 ⟨(own_255 (own_k8 _)), (List.forall_mem_cons.2 ⟨(own_255 (own_k8 _)), (List.forall_mem_cons.2 ⟨(own_255 (own_k8 _)), (List.forall_mem_cons.2 ⟨(own_255 (own_k8 _)), (List.forall_mem_cons.2 ⟨(own_255 (own_k8 _)), (List.forall_mem_cons.2 ⟨(own_255 (own_k8 _)), (List.forall_mem_cons.2 ⟨(own_255 (own_k8 _)), (List.forall_mem_cons.2 ⟨(own_255 (own_k8 _)), (List.forall_mem_cons.2 ⟨(own_255 (own_nc8 hcN)), (fun _ q => absurd q List.not_mem_nil)⟩)⟩)⟩)⟩)⟩)⟩)⟩)⟩)⟩)⟩)⟩)⟩)⟩)⟩)⟩)⟩)⟩)⟩)⟩)⟩)⟩)⟩)⟩)⟩) (by decide) (by decide)) (ow hw 244 rfl) (ow hw 33 rfl) rfl (by rw [hml]; rfl) rfl (hb hby at_269) (lenOf pd___C_V rfl) rfl rfl (by decide) (fun T254 v254 Ll254 X254 hQ254 => ?_)
   obtain ⟨b_254, kb_254, rfl, N254q, K254, P254_0, P254_1, P254_2⟩ := hQ254
   have N254 := Fr.app N161 N254q
   have Zs261 : n0 ≤ T254.heap.size := Nat.le_trans Zs253 K254.1
   refine ogo (mkF m 324 #[.val (.long m0), .second, iv m1, iv m2, iv m3, iv m4, rv b1, rv b24, rv b26, rv b28, rv a_30, iv cv131, iv (m4 &&& (3 : Int32)), iv pi154, iv og160, iv 1, rv b252, iv 0] [(.ref b252)]) (fun _ k => XS.astore X254.here hx rfl (hb hby at_272) rfl rfl (l' := #[.val (.long m0), .second, iv m1, iv m2, iv m3, iv m4, rv b1, rv b24, rv b26, rv b28, rv a_30, iv cv131, iv (m4 &&& (3 : Int32)), iv pi154, iv og160, iv 1, rv b252, .unset]) rfl (XS.iconst X254.here hx rfl (hb hby at_274) (XS.istore X254.here hx rfl (hb hby at_275) rfl (l' := #[.val (.long m0), .second, iv m1, iv m2, iv m3, iv m4, rv b1, rv b24, rv b26, rv b28, rv a_30, iv cv131, iv (m4 &&& (3 : Int32)), iv pi154, iv og160, iv 1, rv b252, iv 0]) rfl (XS.goto X254.here hx rfl (pc0 := 277) (pc' := 317) rfl (hb hby at_277) (by decide) (by decide) (XS.iload X254.here hx rfl (hb hby at_317) rfl (XS.ifNo X254.here hx rfl (hb hby at_319) rfl ((if0 _ _).trans (feq (by decide : ¬ ((1 : Int32) = (0 : Int32)))).1) (XS.aload X254.here hx rfl (hb hby at_322) rfl rfl k))))))) ?_
   have O263 := O256.keep K254 (allS gx257 all0)
   have F264 := A252.keep K254
   refine own_stat (W := 0) X254 hx hZ hown rfl (ow hw 213 rfl) (ow hw 214 rfl) (rmiv24 l Z a0 hw [] b252 b_254 kb_254 _ cs T254.heap n0 Zs261 O263 SC hcs F264 P254_1 P254_0 P254_2) (ow hw 215 rfl) (ow hw 4 rfl) rfl (by rw [hml]; rfl) rfl (hb hby at_324) (lenOf pd__Ljava_lang_String__Z rfl) rfl (by decide) (fun T262 v262 Ll262 X262 hQ262 => ?_)
   obtain ⟨rfl, N262q, eh262⟩ := hQ262
   have N262 := Fr.app N254 N262q
   refine ogo (mkF m 337 #[.val (.long m0), .second, iv m1, iv m2, iv m3, iv m4, rv b1, rv b24, rv b26, rv b28, rv a_30, iv cv131, iv (m4 &&& (3 : Int32)), iv pi154, iv og160, iv 1, rv b252, iv 0] [(.int 1)]) (fun _ k => sg_rm0_0 X262 hx hby (rfl : (0 : Int32) = (0 : Int32)) k) ?_
   obtain ⟨fs, hr, hrun, hended, hRE⟩ := Stand.leaveW (s := s) X262 Sn30 (by rw [eh262]; exact Nat.le_trans (Nat.le_refl _) (own_tr (own_tr (own_tr (own_tr (own_tr (own_tr (own_tr (own_tr K98.1 (Keep.of_wr W110).1) K111.1) (Keep.of_wr W130).1) (Keep.of_wr W132).1) K133.1) K161.1) E252.1) K254.1)) (v := some (.int 1)) (fun h => by rw [Bd.returns] at h; cases h)
   exact ⟨_, _, retN X262 hx (t := .boolean) Bd.returns (by simp) (hb hby at_337) hr, hrun, hended, _, _, rfl, (show Qrm0 Z _ _ _ _ _ _ _ _ h0 n0 _ T262.heap _ from (by rw [eh262]; exact ⟨rfl, N262⟩)), ⟨hRE.1, hRE.2.1, hRE.2.2.1, hRE.2.2.2.mono (by decide) (by decide)⟩⟩
 refine ogo (mkF m 283 #[.val (.long m0), .second, iv m1, iv m2, iv m3, iv m4, rv b1, rv b24, rv b26, rv b28, rv a_30, iv cv131, iv (m4 &&& (3 : Int32)), iv pi154, iv og160, iv 1, .unset, .unset] [(.int 2), (.int (m4 &&& (3 : Int32)))]) (fun _ k => XS.icmpYes X161.here hx rfl (pc0 := 260) (pc' := 280) rfl (hb hby at_260) rfl (feq hc260_251).2 (by decide) (by decide) (XS.iload X161.here hx rfl (hb hby at_280) rfl (XS.iconst X161.here hx rfl (hb hby at_282) k))) ?_
 by_cases hc283_265 : (m4 &&& (3 : Int32)) = (2 : Int32)
 · skip
   refine ogo (mkF m 286 #[.val (.long m0), .second, iv m1, iv m2, iv m3, iv m4, rv b1, rv b24, rv b26, rv b28, rv a_30, iv cv131, iv (m4 &&& (3 : Int32)), iv pi154, iv og160, iv 1, .unset, .unset] []) (fun _ k => XS.icmpNo X161.here hx rfl (hb hby at_283) rfl (teq hc283_265).2 k) ?_
   obtain ⟨T266, h266, X266, e266, E266, A266, D266, Un266, st266⟩ := newO X161 hx hZ hown (ow hw 241 rfl) (ow hw 39 rfl) (ow hw 33 rfl) rfl (g := (mkF m 286 #[.val (.long m0), .second, iv m1, iv m2, iv m3, iv m4, rv b1, rv b24, rv b26, rv b28, rv a_30, iv cv131, iv (m4 &&& (3 : Int32)), iv pi154, iv og160, iv 1, .unset, .unset] [])) rfl (hb hby at_286) (by decide) (by decide)
   obtain ⟨b266, g266⟩ : ∃ z, z = T161.heap.size := ⟨_, rfl⟩
   rw [← g266] at A266 D266 Un266 st266
   have Zs267 : n0 ≤ h266.size := Nat.le_trans Zs192 E266.1
   have F266_value : Fld Z h266 b266 cs1 "value" "[B" .null := D266 (Or.inr (ow hw 40 rfl)) (ty := (.array .byte)) (by decide)
   have F266_coder : Fld Z h266 b266 cs1 "coder" "B" (.int 0) := D266 (Or.inr (ow hw 41 rfl)) (ty := .byte) (by decide)
   refine ogo (mkF m 292 #[.val (.long m0), .second, iv m1, iv m2, iv m3, iv m4, rv b1, rv b24, rv b26, rv b28, rv a_30, iv cv131, iv (m4 &&& (3 : Int32)), iv pi154, iv og160, iv 1, .unset, .unset] [(.ref b28), (.ref b266), (.ref b266)]) (fun _ k => st266 _ (XS.dup X266.here hx rfl (hb hby at_289) rfl rfl (XS.aload X266.here hx rfl (hb hby at_290) rfl rfl k))) ?_
   have O269 := O162.keep K161 all0
   have O270 := O269.ext E266
   have gx271 : n0 ≤ b266 := Nat.le_trans Zs192 (Nat.le_of_eq g266.symm)
   have F272 := P133_0.keep K161 nin0
   have F273 := F272.ext E266
   refine own_spec (W := 1) X266 hx hZ hown e266 (ow hw 242 rfl) (ow hw 243 rfl) (rms2 l Z a0 hw [] b266 b28 kl28 (22 : Int32) ([(own_k z0_30), (own_k z1_30), (own_k z2_30), (own_k z3_30), (own_k z4_30), (own_k (own_lt (45 : Int32))), (own_k z5_30), (own_k z6_30), (own_k z7_30), (own_k z8_30), (own_k z9_30), (own_k (own_lt (45 : Int32))), (own_k z10_30), (own_k z11_30), (own_k z12_30), (own_k z13_30), (own_k z14_30), (own_k (own_lt (45 : Int32))), (own_k z15_30), (own_k z16_30), (own_k z17_30), (own_k z18_30)]) cs h266 n0 Zs267 O270 SC hcs A266 F266_value F266_coder gx271 F273 rfl (by decide) (List.forall_mem_cons.2 ⟨(own_255 (own_k8 _)), (List.forall_mem_cons.2 ⟨(own_255 (own_k8 _)), (List.forall_mem_cons.2 ⟨(own_255 (own_k8 _)), (List.forall_mem_cons.2 ⟨(own_255 (own_k8 _)), (List.forall_mem_cons.2 ⟨(own_255 (own_k8 _)), (List.forall_mem_cons.2 ⟨(own_255 (own_k8 _)), (List.forall_mem_cons.2 ⟨(own_255 (own_k8 _)), (List.forall_mem_cons.2 ⟨(own_255 (own_k8 _)), (List.forall_mem_cons.2 ⟨(own_255 (own_k8 _)), (List.forall_mem_cons.2 ⟨(own_255 (own_k8 _)), (List.forall_mem_cons.2 ⟨(own_255 (own_k8 _)), (List.forall_mem_cons.2 ⟨(own_255 (own_k8 _)), (List.forall_mem_cons.2 ⟨(own_255 (own_k8 _)), (List.forall_mem_cons.2 ⟨(own_255 (own_k8 _)), (List.forall_mem_cons.2 ⟨(own_255 (own_k8 _)), (List.forall_mem_cons.2 ⟨(own_255 (own_k8 _)), (List.forall_mem_cons.2 ⟨(own_255 (own_k8 _)), (List.forall_mem_cons.2 ⟨(own_255 (own_k8 _)), (List.forall_mem_cons.2 ⟨(own_255 (own_k8 _)), (List.forall_mem_cons.2 ⟨(own_255 (own_k8 _)), (List.forall_mem_cons.2 ⟨(own_255 (own_k8 _)), (List.forall_mem_cons.2 ⟨(own_255 (own_k8 _)), (fun _ q => absurd q List.not_mem_nil)⟩)⟩)⟩)⟩)⟩)⟩)⟩)⟩)⟩)⟩)⟩)⟩)⟩)⟩)⟩)⟩)⟩)⟩)⟩)⟩)⟩)⟩) (by decide) (by decide)) (ow hw 244 rfl) (ow hw 33 rfl) rfl (by rw [hml]; rfl) rfl (hb hby at_292) (lenOf pd___C_V rfl) rfl rfl (by decide) (fun T268 v268 Ll268 X268 hQ268 => ?_)
   obtain ⟨b_268, kb_268, rfl, N268q, K268, P268_0, P268_1, P268_2⟩ := hQ268
   have N268 := Fr.app N161 N268q
   have Zs274 : n0 ≤ T268.heap.size := Nat.le_trans Zs267 K268.1
   refine ogo (mkF m 324 #[.val (.long m0), .second, iv m1, iv m2, iv m3, iv m4, rv b1, rv b24, rv b26, rv b28, rv a_30, iv cv131, iv (m4 &&& (3 : Int32)), iv pi154, iv og160, iv 1, rv b266, iv 0] [(.ref b266)]) (fun _ k => XS.astore X268.here hx rfl (hb hby at_295) rfl rfl (l' := #[.val (.long m0), .second, iv m1, iv m2, iv m3, iv m4, rv b1, rv b24, rv b26, rv b28, rv a_30, iv cv131, iv (m4 &&& (3 : Int32)), iv pi154, iv og160, iv 1, rv b266, .unset]) rfl (XS.iconst X268.here hx rfl (hb hby at_297) (XS.istore X268.here hx rfl (hb hby at_298) rfl (l' := #[.val (.long m0), .second, iv m1, iv m2, iv m3, iv m4, rv b1, rv b24, rv b26, rv b28, rv a_30, iv cv131, iv (m4 &&& (3 : Int32)), iv pi154, iv og160, iv 1, rv b266, iv 0]) rfl (XS.goto X268.here hx rfl (pc0 := 300) (pc' := 317) rfl (hb hby at_300) (by decide) (by decide) (XS.iload X268.here hx rfl (hb hby at_317) rfl (XS.ifNo X268.here hx rfl (hb hby at_319) rfl ((if0 _ _).trans (feq (by decide : ¬ ((1 : Int32) = (0 : Int32)))).1) (XS.aload X268.here hx rfl (hb hby at_322) rfl rfl k))))))) ?_
   have O276 := O270.keep K268 (allS gx271 all0)
   have F277 := A266.keep K268
   refine own_stat (W := 0) X268 hx hZ hown rfl (ow hw 213 rfl) (ow hw 214 rfl) (rmiv22 l Z a0 hw [] b266 b_268 kb_268 _ cs T268.heap n0 Zs274 O276 SC hcs F277 P268_1 P268_0 P268_2) (ow hw 215 rfl) (ow hw 4 rfl) rfl (by rw [hml]; rfl) rfl (hb hby at_324) (lenOf pd__Ljava_lang_String__Z rfl) rfl (by decide) (fun T275 v275 Ll275 X275 hQ275 => ?_)
   obtain ⟨rfl, N275q, eh275⟩ := hQ275
   have N275 := Fr.app N268 N275q
   refine ogo (mkF m 337 #[.val (.long m0), .second, iv m1, iv m2, iv m3, iv m4, rv b1, rv b24, rv b26, rv b28, rv a_30, iv cv131, iv (m4 &&& (3 : Int32)), iv pi154, iv og160, iv 1, rv b266, iv 0] [(.int 1)]) (fun _ k => sg_rm0_0 X275 hx hby (rfl : (0 : Int32) = (0 : Int32)) k) ?_
   obtain ⟨fs, hr, hrun, hended, hRE⟩ := Stand.leaveW (s := s) X275 Sn30 (by rw [eh275]; exact Nat.le_trans (Nat.le_refl _) (own_tr (own_tr (own_tr (own_tr (own_tr (own_tr (own_tr (own_tr K98.1 (Keep.of_wr W110).1) K111.1) (Keep.of_wr W130).1) (Keep.of_wr W132).1) K133.1) K161.1) E266.1) K268.1)) (v := some (.int 1)) (fun h => by rw [Bd.returns] at h; cases h)
   exact ⟨_, _, retN X275 hx (t := .boolean) Bd.returns (by simp) (hb hby at_337) hr, hrun, hended, _, _, rfl, (show Qrm0 Z _ _ _ _ _ _ _ _ h0 n0 _ T275.heap _ from (by rw [eh275]; exact ⟨rfl, N275⟩)), ⟨hRE.1, hRE.2.1, hRE.2.2.1, hRE.2.2.2.mono (by decide) (by decide)⟩⟩
 refine ogo (mkF m 303 #[.val (.long m0), .second, iv m1, iv m2, iv m3, iv m4, rv b1, rv b24, rv b26, rv b28, rv a_30, iv cv131, iv (m4 &&& (3 : Int32)), iv pi154, iv og160, iv 1, .unset, .unset] []) (fun _ k => XS.icmpYes X161.here hx rfl (pc0 := 283) (pc' := 303) rfl (hb hby at_283) rfl (feq hc283_265).2 (by decide) (by decide) k) ?_
 obtain ⟨T278, h278, X278, e278, E278, A278, D278, Un278, st278⟩ := newO X161 hx hZ hown (ow hw 241 rfl) (ow hw 39 rfl) (ow hw 33 rfl) rfl (g := (mkF m 303 #[.val (.long m0), .second, iv m1, iv m2, iv m3, iv m4, rv b1, rv b24, rv b26, rv b28, rv a_30, iv cv131, iv (m4 &&& (3 : Int32)), iv pi154, iv og160, iv 1, .unset, .unset] [])) rfl (hb hby at_303) (by decide) (by decide)
 obtain ⟨b278, g278⟩ : ∃ z, z = T161.heap.size := ⟨_, rfl⟩
 rw [← g278] at A278 D278 Un278 st278
 have Zs279 : n0 ≤ h278.size := Nat.le_trans Zs192 E278.1
 have F278_value : Fld Z h278 b278 cs1 "value" "[B" .null := D278 (Or.inr (ow hw 40 rfl)) (ty := (.array .byte)) (by decide)
 have F278_coder : Fld Z h278 b278 cs1 "coder" "B" (.int 0) := D278 (Or.inr (ow hw 41 rfl)) (ty := .byte) (by decide)
 refine ogo (mkF m 309 #[.val (.long m0), .second, iv m1, iv m2, iv m3, iv m4, rv b1, rv b24, rv b26, rv b28, rv a_30, iv cv131, iv (m4 &&& (3 : Int32)), iv pi154, iv og160, iv 1, .unset, .unset] [(.ref b24), (.ref b278), (.ref b278)]) (fun _ k => st278 _ (XS.dup X278.here hx rfl (hb hby at_306) rfl rfl (XS.aload X278.here hx rfl (hb hby at_307) rfl rfl k))) ?_
 have O281 := O162.keep K161 all0
 have O282 := O281.ext E278
 have gx283 : n0 ≤ b278 := Nat.le_trans Zs192 (Nat.le_of_eq g278.symm)
 have F284 := F159.keep K161 nin0
 have F285 := F284.ext E278
 refine own_spec (W := 1) X278 hx hZ hown e278 (ow hw 242 rfl) (ow hw 243 rfl) (rms2 l Z a0 hw [] b278 b24 kl24 (23 : Int32) ([(own_k z0_30), (own_k z1_30), (own_k z2_30), (own_k z3_30), (own_k z4_30), (own_k (own_lt (45 : Int32))), (own_k z5_30), (own_k z6_30), (own_k z7_30), (own_k z8_30), (own_k z9_30), (own_k (own_lt (45 : Int32))), (own_k z10_30), (own_k z11_30), (own_k z12_30), (own_k z13_30), (own_k z14_30), (own_k (own_lt (45 : Int32))), (own_k z15_30), (own_k z16_30), (own_k z17_30), (own_k z18_30), (own_k z19_30)]) cs h278 n0 Zs279 O282 SC hcs A278 F278_value F278_coder gx283 F285 rfl (by decide) (List.forall_mem_cons.2 ⟨(own_255 (own_k8 _)), (List.forall_mem_cons.2 ⟨(own_255 (own_k8 _)), (List.forall_mem_cons.2 ⟨(own_255 (own_k8 _)), (List.forall_mem_cons.2 ⟨(own_255 (own_k8 _)), (List.forall_mem_cons.2 ⟨(own_255 (own_k8 _)), (List.forall_mem_cons.2 ⟨(own_255 (own_k8 _)), (List.forall_mem_cons.2 ⟨(own_255 (own_k8 _)), (List.forall_mem_cons.2 ⟨(own_255 (own_k8 _)), (List.forall_mem_cons.2 ⟨(own_255 (own_k8 _)), (List.forall_mem_cons.2 ⟨(own_255 (own_k8 _)), (List.forall_mem_cons.2 ⟨(own_255 (own_k8 _)), (List.forall_mem_cons.2 ⟨(own_255 (own_k8 _)), (List.forall_mem_cons.2 ⟨(own_255 (own_k8 _)), (List.forall_mem_cons.2 ⟨(own_255 (own_k8 _)), (List.forall_mem_cons.2 ⟨(own_255 (own_k8 _)), (List.forall_mem_cons.2 ⟨(own_255 (own_k8 _)), (List.forall_mem_cons.2 ⟨(own_255 (own_k8 _)), (List.forall_mem_cons.2 ⟨(own_255 (own_k8 _)), (List.forall_mem_cons.2 ⟨(own_255 (own_k8 _)), (List.forall_mem_cons.2 ⟨(own_255 (own_k8 _)), (List.forall_mem_cons.2 ⟨(own_255 (own_k8 _)), (List.forall_mem_cons.2 ⟨(own_255 (own_k8 _)), (List.forall_mem_cons.2 ⟨(own_255 (own_k8 _)), (fun _ q => absurd q List.not_mem_nil)⟩)⟩)⟩)⟩)⟩)⟩)⟩)⟩)⟩)⟩)⟩)⟩)⟩)⟩)⟩)⟩)⟩)⟩)⟩)⟩)⟩)⟩)⟩) (by decide) (by decide)) (ow hw 244 rfl) (ow hw 33 rfl) rfl (by rw [hml]; rfl) rfl (hb hby at_309) (lenOf pd___C_V rfl) rfl rfl (by decide) (fun T280 v280 Ll280 X280 hQ280 => ?_)
 obtain ⟨b_280, kb_280, rfl, N280q, K280, P280_0, P280_1, P280_2⟩ := hQ280
 have N280 := Fr.app N161 N280q
 have Zs286 : n0 ≤ T280.heap.size := Nat.le_trans Zs279 K280.1
 refine ogo (mkF m 324 #[.val (.long m0), .second, iv m1, iv m2, iv m3, iv m4, rv b1, rv b24, rv b26, rv b28, rv a_30, iv cv131, iv (m4 &&& (3 : Int32)), iv pi154, iv og160, iv 1, rv b278, iv 1] [(.ref b278)]) (fun _ k => XS.astore X280.here hx rfl (hb hby at_312) rfl rfl (l' := #[.val (.long m0), .second, iv m1, iv m2, iv m3, iv m4, rv b1, rv b24, rv b26, rv b28, rv a_30, iv cv131, iv (m4 &&& (3 : Int32)), iv pi154, iv og160, iv 1, rv b278, .unset]) rfl (XS.iconst X280.here hx rfl (hb hby at_314) (XS.istore X280.here hx rfl (hb hby at_315) rfl (l' := #[.val (.long m0), .second, iv m1, iv m2, iv m3, iv m4, rv b1, rv b24, rv b26, rv b28, rv a_30, iv cv131, iv (m4 &&& (3 : Int32)), iv pi154, iv og160, iv 1, rv b278, iv 1]) rfl (XS.iload X280.here hx rfl (hb hby at_317) rfl (XS.ifNo X280.here hx rfl (hb hby at_319) rfl ((if0 _ _).trans (feq (by decide : ¬ ((1 : Int32) = (0 : Int32)))).1) (XS.aload X280.here hx rfl (hb hby at_322) rfl rfl k)))))) ?_
 have O288 := O282.keep K280 (allS gx283 all0)
 have F289 := A278.keep K280
 have F290 := F173.keep K161
 have F291 := F290.ext E278
 have F292 := F291.keep K280
 have F293 := F179.keep K161 nin0
 have F294 := F293.ext E278
 have nx295 : la_30 ≠ b278 := (own_ne P30_7.lt (own_tr (own_tr (own_tr (own_tr (own_tr (own_tr K98.1 (Keep.of_wr W110).1) K111.1) (Keep.of_wr W130).1) (Keep.of_wr W132).1) K133.1) K161.1) (Nat.le_of_eq g278.symm))
 have F296 := F294.keep K280 (ninS nx295 nin0)
 have F297 := F185.keep K161 nin0
 have F298 := F297.ext E278
 have F299 := F298.keep K280 (ninS nx295 nin0)
 have F300 := F191.keep K161 nin0
 have F301 := F300.ext E278
 have nx302 : lb_30 ≠ b278 := (own_ne P30_10.lt (own_tr (own_tr (own_tr (own_tr (own_tr (own_tr K98.1 (Keep.of_wr W110).1) K111.1) (Keep.of_wr W130).1) (Keep.of_wr W132).1) K133.1) K161.1) (Nat.le_of_eq g278.symm))
 have F303 := F301.keep K280 (ninS nx302 nin0)
 refine own_statL (W := 0) X280 hx hZ hown rfl (ow hw 213 rfl) (ow hw 214 rfl) (rmiv l Z a0 hw [] b278 b_280 kb_280 _ _ _ _ _ _ _ _ _ _ _ _ _ _ _ _ _ _ _ _ _ _ _ la_30 lb_30 lk_30 cs fv T280.heap n0 Zs286 O288 SC hcs SF hfv F289 P280_1 P280_0 P280_2 F292 F296 F299 F303) (ow hw 215 rfl) (ow hw 4 rfl) rfl (by rw [hml]; rfl) rfl (hb hby at_324) (lenOf pd__Ljava_lang_String__Z rfl) rfl (by decide) P30_11 (fun T287 v287 Ll287 X287 hQ287 => ?_)
 obtain ⟨r_287, rfl, N287q, K287, P287_0⟩ := hQ287
 have N287 := Fr.app N280 N287q
 have Zs304 : n0 ≤ T287.heap.size := Nat.le_trans Zs286 K287.1
 obtain rfl : r_287 = (1 : Int32) := own_r1 P287_0 (own_m3 hok)
 refine ogo (mkF m 337 #[.val (.long m0), .second, iv m1, iv m2, iv m3, iv m4, rv b1, rv b24, rv b26, rv b28, rv a_30, iv cv131, iv (m4 &&& (3 : Int32)), iv pi154, iv og160, iv 1, rv b278, iv 1] [(.int 1)]) (fun _ k => sg_rm0_0 X287 hx hby (rfl : (1 : Int32) = (1 : Int32)) k) ?_
 obtain ⟨fs, hr, hrun, hended, hRE⟩ := Stand.leaveW (s := s) X287 Sn30 (by exact Nat.le_trans (Nat.le_refl _) (own_tr (own_tr (own_tr (own_tr (own_tr (own_tr (own_tr (own_tr (own_tr K98.1 (Keep.of_wr W110).1) K111.1) (Keep.of_wr W130).1) (Keep.of_wr W132).1) K133.1) K161.1) E278.1) K280.1) K287.1)) (v := some (.int 1)) (fun h => by rw [Bd.returns] at h; cases h)
 exact ⟨_, _, retN X287 hx (t := .boolean) Bd.returns (by simp) (hb hby at_337) hr, hrun, hended, _, _, rfl, (show Qrm0 Z _ _ _ _ _ _ _ _ h0 n0 _ T287.heap _ from (by exact ⟨rfl, N287⟩)), ⟨hRE.1, hRE.2.1, hRE.2.2.1, hRE.2.2.2.mono (by decide) (by decide)⟩⟩
theorem comes_1 {Post : Tables → Env → Array Value → State → Outcome → State → Prop} (hpost : ∀ tb e args s v u, (limb_1_1.after args s (.returned v) u = true ∧ limb_1_2.after args s (.returned v) u = true ∧ True) → ReturnedEndW s (.returned v) u (Jvm.fieldLocs frame_1_writes args s ++ Jvm.arrayLocs frame_1_arrays args s ++ Jvm.staticLocs frame_1_statics s) 56 1728 → Post tb e args s (.returned v) u) :
    ArmFor flags0 classFile x code maxLocals ret World_1 tables_1 room_1 Calls_1 rest_1 Pre_1 Post := by
  intro l hfl _ _ p e ha hc hk s m args below hf hA hF happ hP
  obtain ⟨hcalls, hrest, hpre⟩ := hP
  obtain ⟨-, -, -, hnamed, -, -, -, hat⟩ := (Spec.applies_iff hf).mp happ
  obtain ⟨hg, hn⟩ := and_e (Cond.before_iff.mp (show (Jvm.Cond.and given_1 narrow_1).before args s = true from hpre))
  obtain ⟨gc0, gr0⟩ := and_e hg
  obtain ⟨gc1, gr1⟩ := and_e gr0
  obtain ⟨gc2, gr2⟩ := and_e gr1
  obtain ⟨gc3, gr3⟩ := and_e gr2
  obtain ⟨gc4, gr4⟩ := and_e gr3
  obtain ⟨w0, w1, w2, w3, w4, rfl⟩ : ∃ w0 w1 w2 w3 w4 : Value, args = #[w0, w1, w2, w3, w4] := by
    have hs : args.size = 5 := by simpa [Cond.value, given_1] using gc0
    obtain ⟨L⟩ := args
    match L, hs with
    | [w0, w1, w2, w3, w4], _ => exact ⟨w0, w1, w2, w3, w4, rfl⟩
  have hw := fun d (hd : d ∈ tables_1) => atoms_spec (ws := Jvm.Cond.code x code maxLocals ret :: tables_1) hat d (List.mem_cons_of_mem _ hd)
  have hfit : Fit s := fun {y c} hc i hi => by
    obtain ⟨ha, rfl⟩ := Array.getElem?_eq_some_iff.mp hc
    have q := List.all_eq_true.mp ((Array.all_eq_true_iff_forall_mem.mp hF) _ (Array.getElem_mem ha)) i (List.mem_range.mpr hi)
    simpa [Array.getElem?_eq_getElem hi] using q
  obtain ⟨hsets, hown0⟩ := atoms_of _ (rest_1_c_eq ▸ (show rest_1_c.before _ s = true from hrest))
  have hr0 := Cond.before_iff.mp hown0
  obtain ⟨i0, ei0⟩ := isL_v gc1
  obtain rfl : w0 = (.long i0) := Option.some.inj ei0
  obtain ⟨i1, ei1⟩ := is_v gc2
  obtain rfl : w1 = (.int i1) := Option.some.inj ei1
  obtain ⟨i2, ei2⟩ := is_v gc3
  obtain rfl : w2 = (.int i2) := Option.some.inj ei2
  obtain ⟨i3, ei3⟩ := is_v gc4
  obtain rfl : w3 = (.int i3) := Option.some.inj ei3
  obtain ⟨i4, ei4⟩ := is_v gr4
  obtain rfl : w4 = (.int i4) := Option.some.inj ei4
  obtain ⟨cs, v_cs⟩ := is_v (Cond.before_iff.mp (hsets _ (List.mem_of_getElem? (i := 1) rfl)))
  have S_cs := Sta.start v_cs (Or.inl (hsets _ (List.mem_of_getElem? (i := 0) rfl)))
  have hcs : ¬ (cs = (0 : Int32)) := gotF (Cond.eq_ints v_cs (Term.int_eval 0)) (not_v (Cond.before_iff.mp (hsets _ (List.mem_of_getElem? (i := 2) rfl))))
  obtain ⟨fv, v_fv, hfv⟩ := own_isr (Cond.before_iff.mp (hsets _ (List.mem_of_getElem? (i := 8) rfl)))
  have S_fv := Sta.start v_fv (Or.inl (hsets _ (List.mem_of_getElem? (i := 7) rfl)))
  obtain ⟨gv, v_gv, hgv⟩ := own_sref (D := "java/util/function/BiFunction") hfit (by decide) (ow hw 181 rfl)
  have S_gv := Sta.start v_gv (Or.inr ⟨(ow hw 65 rfl), (ow hw 181 rfl)⟩)
  have hCHs := CHv.start (EL := own_EL) (own_EW hw) (fun p hp => hcalls.1 p hp) (hsets _ (List.mem_of_getElem? (i := 2) rfl)) (ow hw 0 rfl) (ow hw 39 rfl)
  obtain ⟨n, o, h1, h2, h3, _, L, rfl, ⟨rfl, N⟩, hq⟩ := rm0 l s _ hw tables_1 i0 i1 i2 i3 i4 cs fv gv s.heap s.heap.size (Nat.le_refl _) (Old.start s) S_cs hcs S_fv hfv S_gv hgv p e ha hc hk s m _ below hf ((Spec.applies_iff_loose hf).mp happ).1 ⟨rfl, State.Warmed39.refl s, rfl, hCHs⟩ trivial
  refine ⟨n, _, h1, h2, h3, hpost _ _ _ _ _ _ ⟨Cond.after_iff.mpr rfl, Cond.after_iff.mpr (eq_i res_at (Term.int_eval (1)) rfl), trivial⟩ ⟨hq.1, hq.2.1, hq.2.2.1, (hq.2.2.2.sift fun y hy => Or.inr (N y hy)).mono (by decide) (by decide)⟩⟩
theorem main_1_1 : Claimed_1_1 := comes_1 fun _ _ _ _ _ _ h hF => ⟨h.1, hF⟩
theorem main_1_2 : Claimed_1_2 := comes_1 fun _ _ _ _ _ _ h hF => ⟨h.2.1, hF⟩
end Jvm.Pilot.@@N@@
namespace Jvm.Pilot.@@N@@
open Jvm Jvm.ClassFile Sem Op Lib Jvm.Free Jvm.Stand Jvm.Pilot.@@N@@.Jvm.D
/-! MADE BY PROGRAM (witnessworld.py) out of the Statement's table words and the real class files: 26 classes; the members and pool entries that the words name. The judged class is class 1, her method 1. -/
namespace start1
open Jvm.ClassFile
def u (s : String) : CpInfo := .utf8 (stringToUtf16 s)
/-- a pool by its gaps: so many unusable entries, then the entry; so many at the end -/
def gap : Nat → List CpInfo → List CpInfo
  | 0, r => r
  | n + 1, r => .unusable :: gap n r
def poolList (es : List (Nat × CpInfo)) (last : Nat) : List CpInfo := es.foldr (fun e r => gap e.1 (e.2 :: r)) (gap last [])
def pool (es : List (Nat × CpInfo)) (last : Nat) : Array CpInfo := ⟨poolList es last⟩
def fileOf (pool : Array CpInfo) (this : Nat) (attrs : Array Attribute := #[]) (ms : Array MethodInfo := #[]) (fl : Nat := 33) (sup : Nat := 0) (ifs : Array Nat := #[]) (fds : Array FieldInfo := #[]) : ClassFile where
  minorVersion := 0
  majorVersion := 65
  constantPool := pool
  accessFlags := fl
  thisClass := this
  superClass := sup
  interfaces := ifs
  fields := fds
  methods := ms
  attributes := attrs
def plain (name : String) (sup : Option ClassId) : Class where
  name := name
  kind := .ordinary
  loader := none
  accessFlags := 33
  super := sup
  interfaces := #[]
  cf := none
  fields := #[]
  methods := #[]
  instanceTypes := #[]
  staticTypes := #[]
  resolved := #[]
  callSites := []
  init := .initialized
  statics := none
  mirror := none

def pool0 : Array CpInfo := pool [(5, u "<init>"), (0, u "()V"), (1, .class_ 10), (1, u "java/lang/Object"), (85, u "clone"), (0, u "()Ljava/lang/Object;")] 26

def k0c0 : Code := { maxStack := 0, maxLocals := 1, code := object_method_1_code, exceptionTable := #[], attributes := #[] }
def k0m0 : Method := { name := "<init>", desc := "()V", sig := { parameters := [], returnType := none }, accessFlags := 1, code := some k0c0 }
def k0m1 : Method := { name := "clone", desc := "()Ljava/lang/Object;", sig := { parameters := [], returnType := some (.object "java/lang/Object") }, accessFlags := 260, code := none }
/-- java/lang/Object -/
def k0 : Class := { plain "java/lang/Object" none with
  accessFlags := 33
  interfaces := #[]
  cf := some (fileOf pool0 8 #[] #[{ accessFlags := 1, nameIndex := 5, descriptorIndex := 6, attributes := #[] }, { accessFlags := 260, nameIndex := 96, descriptorIndex := 97, attributes := #[] }] 33 0 #[] #[])
  fields := #[]
  methods := #[k0m0, k0m1]
  instanceTypes := #[]
  staticTypes := #[]
  resolved := Array.replicate 124 none
  statics := none }

def pool1 : Array CpInfo := pool [(2, .class_ 4), (1, u "java/lang/Object"), (0, u "<init>"), (0, u "()V"), (0, .methodref 8 9), (0, .class_ 10), (0, .nameAndType 11 12), (0, u "com/example/keyclasp/keyclasp/protocol/ActivationCode"), (0, u "fromRandomBytes"), (0, u "([B)Ljava/lang/String;"), (0, .methodref 14 15), (0, .class_ 16), (0, .nameAndType 17 18), (0, u "com/example/keyclasp/keyclasp/protocol/ActivationCodeIsValidPinLaw"), (0, u "copy22"), (0, u "(Ljava/lang/String;[C)V"), (0, .methodref 20 21), (0, .class_ 22), (0, .nameAndType 23 24), (0, u "java/lang/String"), (0, u "charAt"), (0, u "(I)C"), (0, .integer 2147483647), (0, .methodref 8 27), (0, .nameAndType 28 29), (0, u "isValid"), (0, u "(Ljava/lang/String;)Z"), (0, .methodref 20 31), (0, .nameAndType 5 32), (0, u "([C)V"), (2, u "law"), (0, u "(JIIII)Z")] 7

def k1m0 : Method := { name := "<init>", desc := "()V", sig := { parameters := [], returnType := none }, accessFlags := 1, code := none }
def k1c1 : Code := { maxStack := 5, maxLocals := 18, code := code, exceptionTable := #[], attributes := #[] }
def k1m1 : Method := { name := "law", desc := "(JIIII)Z", sig := { parameters := [.long, .int, .int, .int, .int], returnType := some .boolean }, accessFlags := 9, code := some k1c1 }
def k1c2 : Code := { maxStack := 4, maxLocals := 2, code := method_3_code, exceptionTable := #[], attributes := #[] }
def k1m2 : Method := { name := "copy22", desc := "(Ljava/lang/String;[C)V", sig := { parameters := [(.object "java/lang/String"), (.array .char)], returnType := none }, accessFlags := 10, code := some k1c2 }
/-- com/example/keyclasp/keyclasp/protocol/ActivationCodeIsValidPinLaw -/
def k1 : Class := { plain "com/example/keyclasp/keyclasp/protocol/ActivationCodeIsValidPinLaw" (some 0) with
  accessFlags := 49
  interfaces := #[]
  cf := some (fileOf pool1 14 #[] #[{ accessFlags := 1, nameIndex := 5, descriptorIndex := 6, attributes := #[] }, { accessFlags := 9, nameIndex := 35, descriptorIndex := 36, attributes := #[] }, { accessFlags := 10, nameIndex := 17, descriptorIndex := 18, attributes := #[] }] 49 2 #[] #[])
  fields := #[]
  methods := #[k1m0, k1m1, k1m2]
  instanceTypes := #[]
  staticTypes := #[]
  resolved := Array.replicate 44 none
  statics := none }

def pool2 : Array CpInfo := pool [(1, .class_ 2), (0, u "com/example/keyclasp/keyclasp/protocol/ActivationCode"), (1, .class_ 6), (0, .nameAndType 7 8), (0, u "java/lang/Object"), (0, u "<init>"), (0, u "()V"), (8, u "fromRandomBytes"), (0, u "([B)Ljava/lang/String;"), (7, .methodref 27 28), (0, .class_ 29), (0, .nameAndType 30 31), (0, u "java/lang/System"), (0, u "arraycopy"), (0, u "(Ljava/lang/Object;ILjava/lang/Object;II)V"), (0, .methodref 1 33), (0, .nameAndType 34 35), (0, u "crc16Arc"), (0, u "([B)I"), (0, .methodref 1 37), (0, .nameAndType 38 18), (0, u "base32"), (0, .class_ 40), (0, u "java/lang/StringBuilder"), (0, .methodref 39 42), (0, .nameAndType 7 43), (0, u "(I)V"), (0, .methodref 39 45), (0, .nameAndType 46 47), (0, u "append"), (0, u "(C)Ljava/lang/StringBuilder;"), (0, .methodref 39 49), (0, .nameAndType 46 50), (0, u "(Ljava/lang/CharSequence;II)Ljava/lang/StringBuilder;"), (0, .methodref 39 52), (0, .nameAndType 53 54), (0, u "toString"), (0, u "()Ljava/lang/String;"), (0, .methodref 56 57), (0, .class_ 58), (0, .nameAndType 59 60), (0, u "java/lang/String"), (0, u "length"), (0, u "()I"), (0, .methodref 56 62), (0, .nameAndType 63 64), (0, u "charAt"), (0, u "(I)C"), (0, .string 66), (0, u "ABCDEFGHIJKLMNOPQRSTUVWXYZ234567"), (0, .methodref 56 68), (0, .nameAndType 69 70), (0, u "indexOf"), (0, u "(I)I"), (20, .methodref 39 5), (0, .integer 40961), (0, u "RANDOM_BYTES"), (0, u "I"), (2, u "ALPHABET"), (0, u "Ljava/lang/String;"), (0, u "SYMBOLS"), (1, u "GROUP"), (1, u "LENGTH"), (8, u "isValid"), (0, u "(Ljava/lang/String;)Z")] 5

def k2m0 : Method := { name := "<init>", desc := "()V", sig := { parameters := [], returnType := none }, accessFlags := 2, code := none }
def k2c1 : Code := { maxStack := 5, maxLocals := 6, code := prog_9_method_3_code, exceptionTable := #[], attributes := #[] }
def k2m1 : Method := { name := "fromRandomBytes", desc := "([B)Ljava/lang/String;", sig := { parameters := [(.array .byte)], returnType := some (.object "java/lang/String") }, accessFlags := 8, code := some k2c1 }
def k2c2 : Code := { maxStack := 5, maxLocals := 8, code := prog_9_method_4_code, exceptionTable := #[], attributes := #[] }
def k2m2 : Method := { name := "isValid", desc := "(Ljava/lang/String;)Z", sig := { parameters := [(.object "java/lang/String")], returnType := some .boolean }, accessFlags := 9, code := some k2c2 }
def k2c3 : Code := { maxStack := 5, maxLocals := 8, code := prog_9_method_7_code, exceptionTable := #[], attributes := #[] }
def k2m3 : Method := { name := "base32", desc := "([B)Ljava/lang/String;", sig := { parameters := [(.array .byte)], returnType := some (.object "java/lang/String") }, accessFlags := 10, code := some k2c3 }
def k2c4 : Code := { maxStack := 3, maxLocals := 7, code := prog_9_method_8_code, exceptionTable := #[], attributes := #[] }
def k2m4 : Method := { name := "crc16Arc", desc := "([B)I", sig := { parameters := [(.array .byte)], returnType := some .int }, accessFlags := 10, code := some k2c4 }
/-- com/example/keyclasp/keyclasp/protocol/ActivationCode -/
def k2 : Class := { plain "com/example/keyclasp/keyclasp/protocol/ActivationCode" (some 0) with
  accessFlags := 49
  interfaces := #[]
  cf := some (fileOf pool2 1 #[] #[{ accessFlags := 2, nameIndex := 7, descriptorIndex := 8, attributes := #[] }, { accessFlags := 8, nameIndex := 17, descriptorIndex := 18, attributes := #[] }, { accessFlags := 9, nameIndex := 112, descriptorIndex := 113, attributes := #[] }, { accessFlags := 10, nameIndex := 38, descriptorIndex := 18, attributes := #[] }, { accessFlags := 10, nameIndex := 34, descriptorIndex := 35, attributes := #[] }] 49 4 #[] #[{ accessFlags := 24, nameIndex := 93, descriptorIndex := 94, attributes := #[] }, { accessFlags := 26, nameIndex := 97, descriptorIndex := 98, attributes := #[] }, { accessFlags := 26, nameIndex := 99, descriptorIndex := 94, attributes := #[] }, { accessFlags := 26, nameIndex := 101, descriptorIndex := 94, attributes := #[] }, { accessFlags := 26, nameIndex := 103, descriptorIndex := 94, attributes := #[] }])
  fields := #[{ name := "RANDOM_BYTES", type := .int, accessFlags := 24, slot := 0, constantValue := 0 }, { name := "ALPHABET", type := (.object "java/lang/String"), accessFlags := 26, slot := 1, constantValue := 0 }, { name := "SYMBOLS", type := .int, accessFlags := 26, slot := 2, constantValue := 0 }, { name := "GROUP", type := .int, accessFlags := 26, slot := 3, constantValue := 0 }, { name := "LENGTH", type := .int, accessFlags := 26, slot := 4, constantValue := 0 }]
  methods := #[k2m0, k2m1, k2m2, k2m3, k2m4]
  instanceTypes := #[]
  staticTypes := #[.int, (.object "java/lang/String"), .int, .int, .int]
  resolved := Array.replicate 119 none
  statics := none }

def pool3 : Array CpInfo := pool [(2, .class_ 4), (1, u "java/lang/Object"), (0, u "<init>"), (0, u "()V"), (1, .class_ 10), (1, u "java/lang/System"), (0, u "allowSecurityManager"), (0, u "I"), (16, u "cons"), (0, u "Ljava/io/Console;"), (77, .class_ 110), (1, u "java/lang/System$CallersHolder"), (43, u "initialErrStream"), (0, u "Ljava/io/PrintStream;"), (19, u "security"), (0, u "Ljava/lang/SecurityManager;"), (31, .class_ 209), (0, u "java/lang/System$1"), (7, u "props"), (0, u "Ljava/util/Properties;"), (2, u "lineSeparator"), (0, u "Ljava/lang/String;"), (96, .class_ 321), (1, u "java/lang/System$LoggerFinder"), (5, .class_ 328), (0, u "java/lang/System$Logger"), (67, u "err"), (2, u "out"), (91, u "notSupportedJnuEncoding"), (15, u "in"), (17, u "initialIn"), (0, u "Ljava/io/InputStream;"), (35, u "bootLayer"), (0, u "Ljava/lang/ModuleLayer;"), (99, .class_ 664), (0, u "java/lang/System$2"), (9, u "NEVER"), (2, u "MAYBE"), (49, u "arraycopy"), (0, u "(Ljava/lang/Object;ILjava/lang/Object;II)V"), (72, .class_ 802), (0, u "java/lang/System$Logger$Level")] 31

def k3m0 : Method := { name := "<init>", desc := "()V", sig := { parameters := [], returnType := none }, accessFlags := 2, code := none }
def k3m1 : Method := { name := "arraycopy", desc := "(Ljava/lang/Object;ILjava/lang/Object;II)V", sig := { parameters := [(.object "java/lang/Object"), .int, (.object "java/lang/Object"), .int, .int], returnType := none }, accessFlags := 265, code := none }
/-- java/lang/System -/
def k3 : Class := { plain "java/lang/System" (some 0) with
  accessFlags := 49
  interfaces := #[]
  cf := some (fileOf pool3 8 #[.nestMembers #[319, 327, 801, 108, 663, 208]] #[{ accessFlags := 2, nameIndex := 5, descriptorIndex := 6, attributes := #[] }, { accessFlags := 265, nameIndex := 727, descriptorIndex := 728, attributes := #[] }] 49 2 #[] #[{ accessFlags := 25, nameIndex := 507, descriptorIndex := 526, attributes := #[] }, { accessFlags := 25, nameIndex := 399, descriptorIndex := 155, attributes := #[] }, { accessFlags := 25, nameIndex := 396, descriptorIndex := 155, attributes := #[] }, { accessFlags := 10, nameIndex := 525, descriptorIndex := 526, attributes := #[] }, { accessFlags := 26, nameIndex := 674, descriptorIndex := 12, attributes := #[] }, { accessFlags := 26, nameIndex := 677, descriptorIndex := 12, attributes := #[] }, { accessFlags := 10, nameIndex := 11, descriptorIndex := 12, attributes := #[] }, { accessFlags := 74, nameIndex := 175, descriptorIndex := 176, attributes := #[] }, { accessFlags := 10, nameIndex := 491, descriptorIndex := 222, attributes := #[] }, { accessFlags := 74, nameIndex := 29, descriptorIndex := 30, attributes := #[] }, { accessFlags := 74, nameIndex := 154, descriptorIndex := 155, attributes := #[] }, { accessFlags := 10, nameIndex := 217, descriptorIndex := 218, attributes := #[] }, { accessFlags := 10, nameIndex := 221, descriptorIndex := 222, attributes := #[] }, { accessFlags := 8, nameIndex := 562, descriptorIndex := 563, attributes := #[] }])
  fields := #[{ name := "in", type := (.object "java/io/InputStream"), accessFlags := 25, slot := 0, constantValue := 0 }, { name := "out", type := (.object "java/io/PrintStream"), accessFlags := 25, slot := 1, constantValue := 0 }, { name := "err", type := (.object "java/io/PrintStream"), accessFlags := 25, slot := 2, constantValue := 0 }, { name := "initialIn", type := (.object "java/io/InputStream"), accessFlags := 10, slot := 3, constantValue := 0 }, { name := "NEVER", type := .int, accessFlags := 26, slot := 4, constantValue := 0 }, { name := "MAYBE", type := .int, accessFlags := 26, slot := 5, constantValue := 0 }, { name := "allowSecurityManager", type := .int, accessFlags := 10, slot := 6, constantValue := 0 }, { name := "security", type := (.object "java/lang/SecurityManager"), accessFlags := 74, slot := 7, constantValue := 0 }, { name := "notSupportedJnuEncoding", type := (.object "java/lang/String"), accessFlags := 10, slot := 8, constantValue := 0 }, { name := "cons", type := (.object "java/io/Console"), accessFlags := 74, slot := 9, constantValue := 0 }, { name := "initialErrStream", type := (.object "java/io/PrintStream"), accessFlags := 74, slot := 10, constantValue := 0 }, { name := "props", type := (.object "java/util/Properties"), accessFlags := 10, slot := 11, constantValue := 0 }, { name := "lineSeparator", type := (.object "java/lang/String"), accessFlags := 10, slot := 12, constantValue := 0 }, { name := "bootLayer", type := (.object "java/lang/ModuleLayer"), accessFlags := 8, slot := 13, constantValue := 0 }]
  methods := #[k3m0, k3m1]
  instanceTypes := #[]
  staticTypes := #[(.object "java/io/InputStream"), (.object "java/io/PrintStream"), (.object "java/io/PrintStream"), (.object "java/io/InputStream"), .int, .int, .int, (.object "java/lang/SecurityManager"), (.object "java/lang/String"), (.object "java/io/Console"), (.object "java/io/PrintStream"), (.object "java/util/Properties"), (.object "java/lang/String"), (.object "java/lang/ModuleLayer")]
  resolved := Array.replicate 834 none
  statics := none }

def pool4 : Array CpInfo := pool [(1, .class_ 2), (0, u "java/lang/Appendable"), (0, .class_ 4), (0, u "java/lang/Object")] 9

/-- java/lang/Appendable -/
def k4 : Class := { plain "java/lang/Appendable" (some 0) with
  accessFlags := 1537
  interfaces := #[]
  cf := some (fileOf pool4 1 #[] #[] 1537 3 #[] #[])
  fields := #[]
  methods := #[]
  instanceTypes := #[]
  staticTypes := #[]
  resolved := Array.replicate 14 none
  statics := none }

def pool5 : Array CpInfo := pool [(2, .class_ 4), (1, u "java/lang/CharSequence"), (0, u "length"), (0, u "()I"), (40, .class_ 48), (0, u "java/lang/CharSequence$1CodePointIterator"), (10, .class_ 60), (0, u "java/lang/CharSequence$1CharIterator"), (5, .class_ 67), (0, u "java/lang/Object")] 63

def k5m0 : Method := { name := "length", desc := "()I", sig := { parameters := [], returnType := some .int }, accessFlags := 1025, code := none }
/-- java/lang/CharSequence -/
def k5 : Class := { plain "java/lang/CharSequence" (some 0) with
  accessFlags := 1537
  interfaces := #[]
  cf := some (fileOf pool5 2 #[.nestMembers #[47, 59]] #[{ accessFlags := 1025, nameIndex := 5, descriptorIndex := 6, attributes := #[] }] 1537 66 #[] #[])
  fields := #[]
  methods := #[k5m0]
  instanceTypes := #[]
  staticTypes := #[]
  resolved := Array.replicate 131 none
  statics := none }

def pool6 : Array CpInfo := pool [(1, .class_ 2), (0, u "java/lang/String"), (0, .methodref 4 5), (0, .class_ 6), (0, .nameAndType 7 8), (0, u "java/lang/Object"), (0, u "<init>"), (0, u "()V"), (1, .class_ 12), (1, u "java/lang/AbstractStringBuilder"), (0, u "EMPTYVALUE"), (0, u "[B"), (0, .fieldref 10 16), (0, .nameAndType 17 14), (0, u "value"), (0, .fieldref 1 19), (0, .nameAndType 20 21), (0, u "COMPACT_STRINGS"), (0, u "Z"), (0, .fieldref 10 23), (0, .nameAndType 24 25), (0, u "coder"), (0, u "B"), (7, .nameAndType 34 35), (0, u "length"), (0, u "()I"), (3, .integer 2147483647), (5, u "append"), (1, .interfaceMethodref 48 33), (0, .class_ 49), (0, u "java/lang/CharSequence"), (25, u "maybeLatin1"), (3, .fieldref 10 80), (0, .nameAndType 81 82), (0, u "count"), (0, u "I"), (0, .methodref 10 84), (0, .nameAndType 85 86), (0, u "isLatin1"), (0, u "()Z"), (1, .class_ 90), (1, u "java/lang/StringLatin1"), (9, .methodref 10 101), (0, .nameAndType 102 103), (0, u "ensureCapacityInternal"), (0, u "(I)V"), (0, .methodref 10 105), (0, .nameAndType 106 107), (0, u "newCapacity"), (0, u "(I)I"), (0, .methodref 109 110), (0, .class_ 111), (0, .nameAndType 112 113), (0, u "java/util/Arrays"), (0, u "copyOf"), (0, u "([BI)[B"), (0, .methodref 115 116), (0, .class_ 117), (0, .nameAndType 118 119), (0, u "jdk/internal/util/ArraysSupport"), (0, u "newLength"), (0, u "(III)I"), (41, .methodref 162 163), (0, .class_ 164), (0, .nameAndType 165 166), (0, u "jdk/internal/util/Preconditions"), (0, u "checkFromToIndex"), (0, u "(IIILjava/util/function/BiFunction;)I"), (15, u "Ljava/util/function/BiFunction;"), (0, .fieldref 162 184), (0, .nameAndType 185 182), (0, u "IOOBE_FORMATTER"), (5, .methodref 88 192), (0, .nameAndType 193 194), (0, u "canEncode"), (0, u "(C)Z"), (30, u "(Ljava/lang/CharSequence;II)Ljava/lang/AbstractStringBuilder;"), (6, .methodref 10 233), (0, .nameAndType 234 235), (0, u "appendChars"), (0, u "(Ljava/lang/String;II)V"), (56, u "(C)Ljava/lang/AbstractStringBuilder;"), (16, .methodref 310 311), (0, .class_ 312), (0, .nameAndType 313 314), (0, u "java/lang/System"), (0, u "arraycopy"), (0, u "(Ljava/lang/Object;ILjava/lang/Object;II)V"), (85, .methodref 1 84), (0, .methodref 1 402), (0, .nameAndType 17 403), (0, u "()[B"), (40, .class_ 445), (0, u "java/lang/Appendable"), (106, u "getValue")] 56

def k6m0 : Method := { name := "<init>", desc := "()V", sig := { parameters := [], returnType := none }, accessFlags := 0, code := none }
def k6c1 : Code := { maxStack := 2, maxLocals := 2, code := jdk_68_method_2_code, exceptionTable := #[], attributes := #[] }
def k6m1 : Method := { name := "<init>", desc := "(I)V", sig := { parameters := [.int], returnType := none }, accessFlags := 0, code := some k6c1 }
def k6c2 : Code := { maxStack := 1, maxLocals := 1, code := jdk_68_method_6_code, exceptionTable := #[], attributes := #[] }
def k6m2 : Method := { name := "length", desc := "()I", sig := { parameters := [], returnType := some .int }, accessFlags := 1, code := some k6c2 }
def k6c3 : Code := { maxStack := 4, maxLocals := 3, code := jdk_68_method_9_code, exceptionTable := #[], attributes := #[] }
def k6m3 : Method := { name := "ensureCapacityInternal", desc := "(I)V", sig := { parameters := [.int], returnType := none }, accessFlags := 2, code := some k6c3 }
def k6c4 : Code := { maxStack := 5, maxLocals := 6, code := jdk_68_method_10_code, exceptionTable := #[], attributes := #[] }
def k6m4 : Method := { name := "newCapacity", desc := "(I)I", sig := { parameters := [.int], returnType := some .int }, accessFlags := 2, code := some k6c4 }
def k6c5 : Code := { maxStack := 4, maxLocals := 5, code := jdk_68_method_27_code, exceptionTable := #[], attributes := #[] }
def k6m5 : Method := { name := "append", desc := "(Ljava/lang/CharSequence;II)Ljava/lang/AbstractStringBuilder;", sig := { parameters := [(.object "java/lang/CharSequence"), .int, .int], returnType := some (.object "java/lang/AbstractStringBuilder") }, accessFlags := 1, code := some k6c5 }
def k6c6 : Code := { maxStack := 5, maxLocals := 2, code := jdk_68_method_31_code, exceptionTable := #[], attributes := #[] }
def k6m6 : Method := { name := "append", desc := "(C)Ljava/lang/AbstractStringBuilder;", sig := { parameters := [.char], returnType := some (.object "java/lang/AbstractStringBuilder") }, accessFlags := 1, code := some k6c6 }
def k6c7 : Code := { maxStack := 1, maxLocals := 1, code := jdk_68_method_64_code, exceptionTable := #[], attributes := #[] }
def k6m7 : Method := { name := "getValue", desc := "()[B", sig := { parameters := [], returnType := some (.array .byte) }, accessFlags := 16, code := some k6c7 }
def k6c8 : Code := { maxStack := 1, maxLocals := 1, code := jdk_68_method_68_code, exceptionTable := #[], attributes := #[] }
def k6m8 : Method := { name := "isLatin1", desc := "()Z", sig := { parameters := [], returnType := some .boolean }, accessFlags := 16, code := some k6c8 }
def k6c9 : Code := { maxStack := 6, maxLocals := 8, code := jdk_68_method_75_code, exceptionTable := #[], attributes := #[] }
def k6m9 : Method := { name := "appendChars", desc := "(Ljava/lang/String;II)V", sig := { parameters := [(.object "java/lang/String"), .int, .int], returnType := none }, accessFlags := 18, code := some k6c9 }
/-- java/lang/AbstractStringBuilder -/
def k6 : Class := { plain "java/lang/AbstractStringBuilder" (some 0) with
  accessFlags := 1056
  interfaces := #[4, 5]
  cf := some (fileOf pool6 10 #[] #[{ accessFlags := 0, nameIndex := 7, descriptorIndex := 8, attributes := #[] }, { accessFlags := 0, nameIndex := 7, descriptorIndex := 103, attributes := #[] }, { accessFlags := 1, nameIndex := 34, descriptorIndex := 35, attributes := #[] }, { accessFlags := 2, nameIndex := 102, descriptorIndex := 103, attributes := #[] }, { accessFlags := 2, nameIndex := 106, descriptorIndex := 107, attributes := #[] }, { accessFlags := 1, nameIndex := 45, descriptorIndex := 225, attributes := #[] }, { accessFlags := 1, nameIndex := 45, descriptorIndex := 292, attributes := #[] }, { accessFlags := 16, nameIndex := 552, descriptorIndex := 403, attributes := #[] }, { accessFlags := 16, nameIndex := 85, descriptorIndex := 86, attributes := #[] }, { accessFlags := 18, nameIndex := 234, descriptorIndex := 235, attributes := #[] }] 1056 4 #[444, 48] #[{ accessFlags := 0, nameIndex := 17, descriptorIndex := 14, attributes := #[] }, { accessFlags := 0, nameIndex := 24, descriptorIndex := 25, attributes := #[] }, { accessFlags := 0, nameIndex := 75, descriptorIndex := 21, attributes := #[] }, { accessFlags := 0, nameIndex := 81, descriptorIndex := 82, attributes := #[] }, { accessFlags := 26, nameIndex := 13, descriptorIndex := 14, attributes := #[] }])
  fields := #[{ name := "value", type := (.array .byte), accessFlags := 0, slot := 0, constantValue := 0 }, { name := "coder", type := .byte, accessFlags := 0, slot := 1, constantValue := 0 }, { name := "maybeLatin1", type := .boolean, accessFlags := 0, slot := 2, constantValue := 0 }, { name := "count", type := .int, accessFlags := 0, slot := 3, constantValue := 0 }, { name := "EMPTYVALUE", type := (.array .byte), accessFlags := 26, slot := 0, constantValue := 0 }]
  methods := #[k6m0, k6m1, k6m2, k6m3, k6m4, k6m5, k6m6, k6m7, k6m8, k6m9]
  instanceTypes := #[(.array .byte), .byte, .boolean, .int]
  staticTypes := #[(.array .byte)]
  resolved := Array.replicate 609 none
  statics := none }

def pool7 : Array CpInfo := pool [(1, .class_ 2), (0, u "java/io/Serializable"), (0, .class_ 4), (0, u "java/lang/Object")] 2

/-- java/io/Serializable -/
def k7 : Class := { plain "java/io/Serializable" (some 0) with
  accessFlags := 1537
  interfaces := #[]
  cf := some (fileOf pool7 1 #[] #[] 1537 3 #[] #[])
  fields := #[]
  methods := #[]
  instanceTypes := #[]
  staticTypes := #[]
  resolved := Array.replicate 7 none
  statics := none }

def pool8 : Array CpInfo := pool [(1, .class_ 2), (0, u "java/lang/Comparable"), (0, .class_ 4), (0, u "java/lang/Object")] 7

/-- java/lang/Comparable -/
def k8 : Class := { plain "java/lang/Comparable" (some 0) with
  accessFlags := 1537
  interfaces := #[]
  cf := some (fileOf pool8 1 #[] #[] 1537 3 #[] #[])
  fields := #[]
  methods := #[]
  instanceTypes := #[]
  staticTypes := #[]
  resolved := Array.replicate 12 none
  statics := none }

def pool9 : Array CpInfo := pool [(1, .methodref 2 3), (0, .class_ 4), (0, .nameAndType 5 6), (0, u "java/lang/AbstractStringBuilder"), (0, u "<init>"), (0, u "(I)V"), (11, .class_ 20), (1, u "java/lang/String"), (3, .class_ 26), (1, u "java/lang/StringBuilder"), (0, u "append"), (10, .methodref 2 39), (0, .nameAndType 27 40), (0, u "(Ljava/lang/CharSequence;II)Ljava/lang/AbstractStringBuilder;"), (9, .methodref 2 51), (0, .nameAndType 27 52), (0, u "(C)Ljava/lang/AbstractStringBuilder;"), (84, .methodref 18 138), (0, .nameAndType 5 139), (0, u "(Ljava/lang/StringBuilder;)V"), (5, u "()V"), (10, u "()I"), (129, u "(C)Ljava/lang/StringBuilder;"), (11, u "(Ljava/lang/CharSequence;II)Ljava/lang/StringBuilder;"), (44, .methodref 2 344), (0, .nameAndType 345 156), (0, u "length"), (3, .class_ 350), (0, u "java/lang/Appendable"), (0, .class_ 352), (0, u "java/io/Serializable"), (0, .class_ 354), (0, u "java/lang/Comparable"), (0, .class_ 356), (0, u "java/lang/CharSequence"), (0, u "serialVersionUID"), (0, u "J"), (40, u "toString"), (0, u "()Ljava/lang/String;")] 21

def k9c0 : Code := { maxStack := 2, maxLocals := 1, code := jdk_67_method_1_code, exceptionTable := #[], attributes := #[] }
def k9m0 : Method := { name := "<init>", desc := "()V", sig := { parameters := [], returnType := none }, accessFlags := 1, code := some k9c0 }
def k9c1 : Code := { maxStack := 2, maxLocals := 2, code := jdk_67_method_2_code, exceptionTable := #[], attributes := #[] }
def k9m1 : Method := { name := "<init>", desc := "(I)V", sig := { parameters := [.int], returnType := none }, accessFlags := 1, code := some k9c1 }
def k9c2 : Code := { maxStack := 4, maxLocals := 4, code := jdk_67_method_10_code, exceptionTable := #[], attributes := #[] }
def k9m2 : Method := { name := "append", desc := "(Ljava/lang/CharSequence;II)Ljava/lang/StringBuilder;", sig := { parameters := [(.object "java/lang/CharSequence"), .int, .int], returnType := some (.object "java/lang/StringBuilder") }, accessFlags := 1, code := some k9c2 }
def k9c3 : Code := { maxStack := 2, maxLocals := 2, code := jdk_67_method_14_code, exceptionTable := #[], attributes := #[] }
def k9m3 : Method := { name := "append", desc := "(C)Ljava/lang/StringBuilder;", sig := { parameters := [.char], returnType := some (.object "java/lang/StringBuilder") }, accessFlags := 1, code := some k9c3 }
def k9c4 : Code := { maxStack := 3, maxLocals := 1, code := jdk_67_method_42_code, exceptionTable := #[], attributes := #[] }
def k9m4 : Method := { name := "toString", desc := "()Ljava/lang/String;", sig := { parameters := [], returnType := some (.object "java/lang/String") }, accessFlags := 1, code := some k9c4 }
def k9c5 : Code := { maxStack := 1, maxLocals := 1, code := jdk_67_method_93_code, exceptionTable := #[], attributes := #[] }
def k9m5 : Method := { name := "length", desc := "()I", sig := { parameters := [], returnType := some .int }, accessFlags := 4161, code := some k9c5 }
/-- java/lang/StringBuilder -/
def k9 : Class := { plain "java/lang/StringBuilder" (some 6) with
  accessFlags := 49
  interfaces := #[4, 7, 8, 5]
  cf := some (fileOf pool9 24 #[] #[{ accessFlags := 1, nameIndex := 5, descriptorIndex := 145, attributes := #[] }, { accessFlags := 1, nameIndex := 5, descriptorIndex := 6, attributes := #[] }, { accessFlags := 1, nameIndex := 27, descriptorIndex := 298, attributes := #[] }, { accessFlags := 1, nameIndex := 27, descriptorIndex := 286, attributes := #[] }, { accessFlags := 1, nameIndex := 399, descriptorIndex := 400, attributes := #[] }, { accessFlags := 4161, nameIndex := 345, descriptorIndex := 156, attributes := #[] }] 49 2 #[349, 351, 353, 355] #[{ accessFlags := 24, nameIndex := 357, descriptorIndex := 358, attributes := #[] }])
  fields := #[{ name := "serialVersionUID", type := .long, accessFlags := 24, slot := 0, constantValue := 0 }]
  methods := #[k9m0, k9m1, k9m2, k9m3, k9m4, k9m5]
  instanceTypes := #[(.array .byte), .byte, .boolean, .int]
  staticTypes := #[.long]
  resolved := Array.replicate 422 none
  statics := none }

def pool10 : Array CpInfo := pool [(1, .class_ 2), (0, u "java/lang/constant/Constable"), (0, .class_ 4), (0, u "java/lang/Object")] 6

/-- java/lang/constant/Constable -/
def k10 : Class := { plain "java/lang/constant/Constable" (some 0) with
  accessFlags := 1537
  interfaces := #[]
  cf := some (fileOf pool10 1 #[] #[] 1537 3 #[] #[])
  fields := #[]
  methods := #[]
  instanceTypes := #[]
  staticTypes := #[]
  resolved := Array.replicate 11 none
  statics := none }

def pool11 : Array CpInfo := pool [(1, .class_ 2), (0, u "java/lang/constant/ConstantDesc"), (0, .class_ 4), (0, u "java/lang/Object")] 32

/-- java/lang/constant/ConstantDesc -/
def k11 : Class := { plain "java/lang/constant/ConstantDesc" (some 0) with
  accessFlags := 1537
  interfaces := #[]
  cf := some (fileOf pool11 1 #[] #[] 1537 3 #[] #[])
  fields := #[]
  methods := #[]
  instanceTypes := #[]
  staticTypes := #[]
  resolved := Array.replicate 37 none
  statics := none }

def pool12 : Array CpInfo := pool [(1, .methodref 2 3), (0, .class_ 4), (0, .nameAndType 5 6), (0, u "java/lang/Object"), (0, u "<init>"), (0, u "()V"), (2, .fieldref 10 11), (0, .class_ 12), (0, .nameAndType 13 14), (0, u "java/lang/String"), (0, u "value"), (0, u "[B"), (0, .fieldref 10 16), (0, .nameAndType 17 18), (0, u "coder"), (0, u "B"), (2, u "hash"), (0, u "I"), (2, u "hashIsZero"), (0, u "Z"), (0, .methodref 10 28), (0, .nameAndType 5 29), (0, u "([CIILjava/lang/Void;)V"), (8, .fieldref 10 39), (0, .nameAndType 40 26), (0, u "COMPACT_STRINGS"), (1, .class_ 44), (1, u "java/lang/StringUTF16"), (0, u "compress"), (1, .methodref 42 48), (0, .nameAndType 49 50), (0, u "coderFromArrayLen"), (0, u "([BI)B"), (3, .methodref 55 56), (0, .class_ 57), (0, .nameAndType 58 59), (0, u "java/util/Arrays"), (0, u "copyOfRange"), (0, u "([BII)[B"), (47, .class_ 109), (1, u "java/lang/StringLatin1"), (32, u "()Z"), (34, .methodref 42 178), (0, .nameAndType 45 179), (0, u "([CII)[B"), (154, u "()I"), (0, .methodref 10 336), (0, .nameAndType 17 337), (0, u "()B"), (2, u "()[B"), (22, u "([BI)C"), (27, u "(II)V"), (35, u "(I)C"), (61, .methodref 10 490), (0, .nameAndType 5 491), (0, u "(Ljava/lang/AbstractStringBuilder;Ljava/lang/Void;)V"), (0, .methodref 10 493), (0, .nameAndType 494 142), (0, u "isLatin1"), (0, .methodref 107 496), (0, .nameAndType 497 363), (0, u "charAt"), (3, u "checkIndex"), (3, .methodref 10 506), (0, .nameAndType 507 334), (0, u "length"), (41, .methodref 550 506), (0, .class_ 551), (0, u "java/lang/AbstractStringBuilder"), (0, .methodref 550 553), (0, .nameAndType 554 340), (0, u "getValue"), (20, .class_ 576), (0, u "java/lang/CharSequence"), (22, u "CASE_INSENSITIVE_ORDER"), (0, u "Ljava/util/Comparator;"), (32, .methodref 10 634), (0, .nameAndType 635 636), (0, u "indexOf"), (0, u "(II)I"), (0, .methodref 107 638), (0, .nameAndType 635 639), (0, u "([BIII)I"), (125, u "(I)I"), (244, u "([C)V"), (36, .methodref 550 493), (5, .fieldref 1054 1055), (0, .class_ 1056), (0, .nameAndType 1057 1058), (0, u "jdk/internal/util/Preconditions"), (0, u "SIOOBE_FORMATTER"), (0, u "Ljava/util/function/BiFunction;"), (0, .methodref 1054 1060), (0, .nameAndType 501 1061), (0, u "(IILjava/util/function/BiFunction;)I"), (39, u "serialPersistentFields"), (0, u "[Ljava/io/ObjectStreamField;"), (0, .class_ 1104), (0, u "java/lang/String$CaseInsensitiveComparator"), (1, .class_ 1107), (0, u "java/io/Serializable"), (0, .class_ 1109), (0, u "java/lang/Comparable"), (0, .class_ 1111), (0, u "java/lang/constant/Constable"), (0, .class_ 1113), (0, u "java/lang/constant/ConstantDesc"), (2, u "serialVersionUID"), (0, u "J"), (3, u "REPL"), (0, u "C"), (2, u "LATIN1"), (1, u "UTF16"), (105, u "(Ljava/lang/StringBuilder;)V")] 217

def k12m0 : Method := { name := "<init>", desc := "()V", sig := { parameters := [], returnType := none }, accessFlags := 1, code := none }
def k12c1 : Code := { maxStack := 5, maxLocals := 2, code := jdk_42_method_3_code, exceptionTable := #[], attributes := #[] }
def k12m1 : Method := { name := "<init>", desc := "([C)V", sig := { parameters := [(.array .char)], returnType := none }, accessFlags := 1, code := some k12c1 }
def k12c2 : Code := { maxStack := 3, maxLocals := 2, code := jdk_42_method_53_code, exceptionTable := #[], attributes := #[] }
def k12m2 : Method := { name := "<init>", desc := "(Ljava/lang/StringBuilder;)V", sig := { parameters := [(.object "java/lang/StringBuilder")], returnType := none }, accessFlags := 1, code := some k12c2 }
def k12c3 : Code := { maxStack := 2, maxLocals := 1, code := jdk_42_method_54_code, exceptionTable := #[], attributes := #[] }
def k12m3 : Method := { name := "length", desc := "()I", sig := { parameters := [], returnType := some .int }, accessFlags := 1, code := some k12c3 }
def k12c4 : Code := { maxStack := 2, maxLocals := 2, code := jdk_42_method_56_code, exceptionTable := #[], attributes := #[] }
def k12m4 : Method := { name := "charAt", desc := "(I)C", sig := { parameters := [.int], returnType := some .char }, accessFlags := 1, code := some k12c4 }
def k12c5 : Code := { maxStack := 3, maxLocals := 2, code := jdk_42_method_79_code, exceptionTable := #[], attributes := #[] }
def k12m5 : Method := { name := "indexOf", desc := "(I)I", sig := { parameters := [.int], returnType := some .int }, accessFlags := 1, code := some k12c5 }
def k12c6 : Code := { maxStack := 4, maxLocals := 3, code := jdk_42_method_80_code, exceptionTable := #[], attributes := #[] }
def k12m6 : Method := { name := "indexOf", desc := "(II)I", sig := { parameters := [.int, .int], returnType := some .int }, accessFlags := 1, code := some k12c6 }
def k12c7 : Code := { maxStack := 4, maxLocals := 6, code := jdk_42_method_149_code, exceptionTable := #[], attributes := #[] }
def k12m7 : Method := { name := "<init>", desc := "([CIILjava/lang/Void;)V", sig := { parameters := [(.array .char), .int, .int, (.object "java/lang/Void")], returnType := none }, accessFlags := 2, code := some k12c7 }
def k12c8 : Code := { maxStack := 5, maxLocals := 5, code := jdk_42_method_150_code, exceptionTable := #[], attributes := #[] }
def k12m8 : Method := { name := "<init>", desc := "(Ljava/lang/AbstractStringBuilder;Ljava/lang/Void;)V", sig := { parameters := [(.object "java/lang/AbstractStringBuilder"), (.object "java/lang/Void")], returnType := none }, accessFlags := 0, code := some k12c8 }
def k12c9 : Code := { maxStack := 1, maxLocals := 1, code := jdk_42_method_152_code, exceptionTable := #[], attributes := #[] }
def k12m9 : Method := { name := "coder", desc := "()B", sig := { parameters := [], returnType := some .byte }, accessFlags := 0, code := some k12c9 }
def k12c10 : Code := { maxStack := 1, maxLocals := 1, code := jdk_42_method_153_code, exceptionTable := #[], attributes := #[] }
def k12m10 : Method := { name := "value", desc := "()[B", sig := { parameters := [], returnType := some (.array .byte) }, accessFlags := 0, code := some k12c10 }
def k12c11 : Code := { maxStack := 1, maxLocals := 1, code := jdk_42_method_154_code, exceptionTable := #[], attributes := #[] }
def k12m11 : Method := { name := "isLatin1", desc := "()Z", sig := { parameters := [], returnType := some .boolean }, accessFlags := 0, code := some k12c11 }
def k12c12 : Code := { maxStack := 3, maxLocals := 2, code := jdk_42_method_155_code, exceptionTable := #[], attributes := #[] }
def k12m12 : Method := { name := "checkIndex", desc := "(II)V", sig := { parameters := [.int, .int], returnType := none }, accessFlags := 8, code := some k12c12 }
/-- java/lang/String -/
def k12 : Class := { plain "java/lang/String" (some 0) with
  accessFlags := 49
  interfaces := #[7, 8, 5, 10, 11]
  cf := some (fileOf pool12 10 #[.nestMembers #[1103]] #[{ accessFlags := 1, nameIndex := 5, descriptorIndex := 6, attributes := #[] }, { accessFlags := 1, nameIndex := 5, descriptorIndex := 1010, attributes := #[] }, { accessFlags := 1, nameIndex := 5, descriptorIndex := 1233, attributes := #[] }, { accessFlags := 1, nameIndex := 507, descriptorIndex := 334, attributes := #[] }, { accessFlags := 1, nameIndex := 497, descriptorIndex := 427, attributes := #[] }, { accessFlags := 1, nameIndex := 635, descriptorIndex := 765, attributes := #[] }, { accessFlags := 1, nameIndex := 635, descriptorIndex := 636, attributes := #[] }, { accessFlags := 2, nameIndex := 5, descriptorIndex := 29, attributes := #[] }, { accessFlags := 0, nameIndex := 5, descriptorIndex := 491, attributes := #[] }, { accessFlags := 0, nameIndex := 17, descriptorIndex := 337, attributes := #[] }, { accessFlags := 0, nameIndex := 13, descriptorIndex := 340, attributes := #[] }, { accessFlags := 0, nameIndex := 494, descriptorIndex := 142, attributes := #[] }, { accessFlags := 8, nameIndex := 501, descriptorIndex := 391, attributes := #[] }] 49 2 #[1106, 1108, 575, 1110, 1112] #[{ accessFlags := 18, nameIndex := 13, descriptorIndex := 14, attributes := #[] }, { accessFlags := 18, nameIndex := 17, descriptorIndex := 18, attributes := #[] }, { accessFlags := 2, nameIndex := 21, descriptorIndex := 22, attributes := #[] }, { accessFlags := 2, nameIndex := 25, descriptorIndex := 26, attributes := #[] }, { accessFlags := 26, nameIndex := 1116, descriptorIndex := 1117, attributes := #[] }, { accessFlags := 24, nameIndex := 40, descriptorIndex := 26, attributes := #[] }, { accessFlags := 26, nameIndex := 1101, descriptorIndex := 1102, attributes := #[] }, { accessFlags := 26, nameIndex := 1121, descriptorIndex := 1122, attributes := #[] }, { accessFlags := 25, nameIndex := 599, descriptorIndex := 600, attributes := #[] }, { accessFlags := 24, nameIndex := 1125, descriptorIndex := 18, attributes := #[] }, { accessFlags := 24, nameIndex := 1127, descriptorIndex := 18, attributes := #[] }])
  fields := #[{ name := "value", type := (.array .byte), accessFlags := 18, slot := 0, constantValue := 0 }, { name := "coder", type := .byte, accessFlags := 18, slot := 1, constantValue := 0 }, { name := "hash", type := .int, accessFlags := 2, slot := 2, constantValue := 0 }, { name := "hashIsZero", type := .boolean, accessFlags := 2, slot := 3, constantValue := 0 }, { name := "serialVersionUID", type := .long, accessFlags := 26, slot := 0, constantValue := 0 }, { name := "COMPACT_STRINGS", type := .boolean, accessFlags := 24, slot := 1, constantValue := 0 }, { name := "serialPersistentFields", type := (.array (.object "java/io/ObjectStreamField")), accessFlags := 26, slot := 2, constantValue := 0 }, { name := "REPL", type := .char, accessFlags := 26, slot := 3, constantValue := 0 }, { name := "CASE_INSENSITIVE_ORDER", type := (.object "java/util/Comparator"), accessFlags := 25, slot := 4, constantValue := 0 }, { name := "LATIN1", type := .byte, accessFlags := 24, slot := 5, constantValue := 0 }, { name := "UTF16", type := .byte, accessFlags := 24, slot := 6, constantValue := 0 }]
  methods := #[k12m0, k12m1, k12m2, k12m3, k12m4, k12m5, k12m6, k12m7, k12m8, k12m9, k12m10, k12m11, k12m12]
  instanceTypes := #[(.array .byte), .byte, .int, .boolean]
  staticTypes := #[.long, .boolean, (.array (.object "java/io/ObjectStreamField")), .char, (.object "java/util/Comparator"), .byte, .byte]
  resolved := Array.replicate 1451 none
  statics := some 0 }

def pool13 : Array CpInfo := pool [(1, .class_ 2), (0, u "java/lang/String"), (1, .class_ 6), (1, u "java/lang/Object"), (0, u "<init>"), (0, u "()V"), (0, .methodref 1 10), (0, .nameAndType 11 12), (0, u "checkIndex"), (0, u "(II)V"), (1, .class_ 16), (1, u "java/lang/StringLatin1"), (21, .methodref 39 40), (0, .class_ 41), (0, .nameAndType 42 43), (0, u "java/lang/Math"), (0, u "min"), (0, u "(II)I"), (9, u "([BI)C"), (34, .methodref 14 89), (0, .nameAndType 90 91), (0, u "canEncode"), (0, u "(I)Z"), (0, .methodref 39 93), (0, .nameAndType 94 43), (0, u "max"), (0, .methodref 14 96), (0, .nameAndType 97 98), (0, u "indexOfChar"), (0, u "([BIII)I"), (2, u "indexOf"), (3, u "(C)Z"), (15, u "$assertionsDisabled"), (0, u "Z"), (98, .class_ 223), (1, u "java/lang/StringLatin1$LinesSpliterator"), (28, u "charAt"), (137, .class_ 391), (0, u "java/lang/StringLatin1$CharsSpliterator")] 3

def k13m0 : Method := { name := "<init>", desc := "()V", sig := { parameters := [], returnType := none }, accessFlags := 0, code := none }
def k13c1 : Code := { maxStack := 2, maxLocals := 2, code := jdk_43_method_2_code, exceptionTable := #[], attributes := #[] }
def k13m1 : Method := { name := "charAt", desc := "([BI)C", sig := { parameters := [(.array .byte), .int], returnType := some .char }, accessFlags := 9, code := some k13c1 }
def k13c2 : Code := { maxStack := 2, maxLocals := 1, code := jdk_43_method_3_code, exceptionTable := #[], attributes := #[] }
def k13m2 : Method := { name := "canEncode", desc := "(C)Z", sig := { parameters := [.char], returnType := some .boolean }, accessFlags := 9, code := some k13c2 }
def k13c3 : Code := { maxStack := 2, maxLocals := 1, code := jdk_43_method_4_code, exceptionTable := #[], attributes := #[] }
def k13m3 : Method := { name := "canEncode", desc := "(I)Z", sig := { parameters := [.int], returnType := some .boolean }, accessFlags := 9, code := some k13c3 }
def k13c4 : Code := { maxStack := 4, maxLocals := 4, code := jdk_43_method_22_code, exceptionTable := #[], attributes := #[] }
def k13m4 : Method := { name := "indexOf", desc := "([BIII)I", sig := { parameters := [(.array .byte), .int, .int, .int], returnType := some .int }, accessFlags := 9, code := some k13c4 }
def k13c5 : Code := { maxStack := 2, maxLocals := 6, code := jdk_43_method_23_code, exceptionTable := #[], attributes := #[] }
def k13m5 : Method := { name := "indexOfChar", desc := "([BIII)I", sig := { parameters := [(.array .byte), .int, .int, .int], returnType := some .int }, accessFlags := 10, code := some k13c5 }
/-- java/lang/StringLatin1 -/
def k13 : Class := { plain "java/lang/StringLatin1" (some 0) with
  accessFlags := 48
  interfaces := #[]
  cf := some (fileOf pool13 14 #[.nestMembers #[390, 221]] #[{ accessFlags := 0, nameIndex := 7, descriptorIndex := 8, attributes := #[] }, { accessFlags := 9, nameIndex := 252, descriptorIndex := 53, attributes := #[] }, { accessFlags := 9, nameIndex := 90, descriptorIndex := 105, attributes := #[] }, { accessFlags := 9, nameIndex := 90, descriptorIndex := 91, attributes := #[] }, { accessFlags := 9, nameIndex := 101, descriptorIndex := 98, attributes := #[] }, { accessFlags := 10, nameIndex := 97, descriptorIndex := 98, attributes := #[] }] 48 4 #[] #[{ accessFlags := 4120, nameIndex := 121, descriptorIndex := 122, attributes := #[] }])
  fields := #[{ name := "$assertionsDisabled", type := .boolean, accessFlags := 4120, slot := 0, constantValue := 0 }]
  methods := #[k13m0, k13m1, k13m2, k13m3, k13m4, k13m5]
  instanceTypes := #[]
  staticTypes := #[.boolean]
  resolved := Array.replicate 395 none
  statics := none }

def pool14 : Array CpInfo := pool [(2, .class_ 4), (1, u "java/lang/Object"), (0, u "<init>"), (0, u "()V"), (17, .class_ 26), (1, u "jdk/internal/util/Preconditions"), (6, u "checkIndex"), (13, u "checkFromToIndex"), (7, .class_ 56), (0, u "jdk/internal/util/Preconditions$4"), (57, .class_ 115), (0, u "jdk/internal/util/Preconditions$1"), (7, u "SIOOBE_FORMATTER"), (0, u "Ljava/util/function/BiFunction;"), (0, .class_ 126), (0, u "jdk/internal/util/Preconditions$2"), (3, u "AIOOBE_FORMATTER"), (0, .class_ 132), (0, u "jdk/internal/util/Preconditions$3"), (3, u "IOOBE_FORMATTER"), (41, u "(IILjava/util/function/BiFunction;)I"), (4, u "(IIILjava/util/function/BiFunction;)I")] 10

def k14m0 : Method := { name := "<init>", desc := "()V", sig := { parameters := [], returnType := none }, accessFlags := 1, code := none }
def k14c1 : Code := { maxStack := 3, maxLocals := 3, code := jdk_41_method_11_code, exceptionTable := #[], attributes := #[] }
def k14m1 : Method := { name := "checkIndex", desc := "(IILjava/util/function/BiFunction;)I", sig := { parameters := [.int, .int, (.object "java/util/function/BiFunction")], returnType := some .int }, accessFlags := 9, code := some k14c1 }
def k14c2 : Code := { maxStack := 4, maxLocals := 4, code := jdk_41_method_12_code, exceptionTable := #[], attributes := #[] }
def k14m2 : Method := { name := "checkFromToIndex", desc := "(IIILjava/util/function/BiFunction;)I", sig := { parameters := [.int, .int, .int, (.object "java/util/function/BiFunction")], returnType := some .int }, accessFlags := 9, code := some k14c2 }
/-- jdk/internal/util/Preconditions -/
def k14 : Class := { plain "jdk/internal/util/Preconditions" (some 0) with
  accessFlags := 33
  interfaces := #[]
  cf := some (fileOf pool14 24 #[.nestMembers #[55, 131, 125, 114]] #[{ accessFlags := 1, nameIndex := 5, descriptorIndex := 6, attributes := #[] }, { accessFlags := 9, nameIndex := 33, descriptorIndex := 178, attributes := #[] }, { accessFlags := 9, nameIndex := 47, descriptorIndex := 183, attributes := #[] }] 33 2 #[] #[{ accessFlags := 25, nameIndex := 123, descriptorIndex := 124, attributes := #[] }, { accessFlags := 25, nameIndex := 130, descriptorIndex := 124, attributes := #[] }, { accessFlags := 25, nameIndex := 136, descriptorIndex := 124, attributes := #[] }])
  fields := #[{ name := "SIOOBE_FORMATTER", type := (.object "java/util/function/BiFunction"), accessFlags := 25, slot := 0, constantValue := 0 }, { name := "AIOOBE_FORMATTER", type := (.object "java/util/function/BiFunction"), accessFlags := 25, slot := 1, constantValue := 0 }, { name := "IOOBE_FORMATTER", type := (.object "java/util/function/BiFunction"), accessFlags := 25, slot := 2, constantValue := 0 }]
  methods := #[k14m0, k14m1, k14m2]
  instanceTypes := #[]
  staticTypes := #[(.object "java/util/function/BiFunction"), (.object "java/util/function/BiFunction"), (.object "java/util/function/BiFunction")]
  resolved := Array.replicate 194 none
  statics := some 1 }

def pool15 : Array CpInfo := pool [(9, u "<init>"), (6, .class_ 18), (1, u "java/lang/Object"), (0, u "()V"), (1, .class_ 23), (1, u "jdk/internal/util/ArraysSupport"), (0, u "LOG2_ARRAY_LONG_INDEX_SCALE"), (0, u "I"), (2, u "U"), (0, u "Ljdk/internal/misc/Unsafe;"), (8, u "BIG_ENDIAN"), (0, u "Z"), (8, u "LOG2_BYTE_BIT_SIZE"), (4, u "LOG2_ARRAY_INT_INDEX_SCALE"), (54, u "JLA"), (0, u "Ljdk/internal/access/JavaLangAccess;"), (11, u "LOG2_ARRAY_BOOLEAN_INDEX_SCALE"), (9, u "LOG2_ARRAY_BYTE_INDEX_SCALE"), (5, u "LOG2_ARRAY_CHAR_INDEX_SCALE"), (5, u "LOG2_ARRAY_SHORT_INDEX_SCALE"), (18, u "LOG2_ARRAY_FLOAT_INDEX_SCALE"), (24, u "LOG2_ARRAY_DOUBLE_INDEX_SCALE"), (6, .methodref 195 196), (0, .class_ 197), (0, .nameAndType 198 199), (0, u "java/lang/Math"), (0, u "max"), (0, u "(II)I"), (0, .integer 2147483639), (76, u "T_BOOLEAN"), (2, u "T_CHAR"), (1, u "T_FLOAT"), (1, u "T_DOUBLE"), (1, u "T_BYTE"), (1, u "T_SHORT"), (1, u "T_INT"), (1, u "T_LONG"), (1, u "SOFT_MAX_ARRAY_LENGTH"), (56, u "newLength"), (0, u "(III)I")] 25

def k15m0 : Method := { name := "<init>", desc := "()V", sig := { parameters := [], returnType := none }, accessFlags := 2, code := none }
def k15c1 : Code := { maxStack := 3, maxLocals := 4, code := jdk_48_method_27_code, exceptionTable := #[], attributes := #[] }
def k15m1 : Method := { name := "newLength", desc := "(III)I", sig := { parameters := [.int, .int, .int], returnType := some .int }, accessFlags := 9, code := some k15c1 }
/-- jdk/internal/util/ArraysSupport -/
def k15 : Class := { plain "jdk/internal/util/ArraysSupport" (some 0) with
  accessFlags := 33
  interfaces := #[]
  cf := some (fileOf pool15 21 #[] #[{ accessFlags := 2, nameIndex := 9, descriptorIndex := 19, attributes := #[] }, { accessFlags := 9, nameIndex := 351, descriptorIndex := 352, attributes := #[] }] 33 16 #[] #[{ accessFlags := 24, nameIndex := 28, descriptorIndex := 29, attributes := #[] }, { accessFlags := 26, nameIndex := 38, descriptorIndex := 39, attributes := #[] }, { accessFlags := 25, nameIndex := 121, descriptorIndex := 25, attributes := #[] }, { accessFlags := 25, nameIndex := 131, descriptorIndex := 25, attributes := #[] }, { accessFlags := 25, nameIndex := 137, descriptorIndex := 25, attributes := #[] }, { accessFlags := 25, nameIndex := 143, descriptorIndex := 25, attributes := #[] }, { accessFlags := 25, nameIndex := 53, descriptorIndex := 25, attributes := #[] }, { accessFlags := 25, nameIndex := 24, descriptorIndex := 25, attributes := #[] }, { accessFlags := 25, nameIndex := 162, descriptorIndex := 25, attributes := #[] }, { accessFlags := 25, nameIndex := 187, descriptorIndex := 25, attributes := #[] }, { accessFlags := 26, nameIndex := 48, descriptorIndex := 25, attributes := #[] }, { accessFlags := 25, nameIndex := 277, descriptorIndex := 25, attributes := #[] }, { accessFlags := 25, nameIndex := 280, descriptorIndex := 25, attributes := #[] }, { accessFlags := 25, nameIndex := 282, descriptorIndex := 25, attributes := #[] }, { accessFlags := 25, nameIndex := 284, descriptorIndex := 25, attributes := #[] }, { accessFlags := 25, nameIndex := 286, descriptorIndex := 25, attributes := #[] }, { accessFlags := 25, nameIndex := 288, descriptorIndex := 25, attributes := #[] }, { accessFlags := 25, nameIndex := 290, descriptorIndex := 25, attributes := #[] }, { accessFlags := 25, nameIndex := 292, descriptorIndex := 25, attributes := #[] }, { accessFlags := 26, nameIndex := 108, descriptorIndex := 109, attributes := #[] }, { accessFlags := 25, nameIndex := 294, descriptorIndex := 25, attributes := #[] }])
  fields := #[{ name := "U", type := (.object "jdk/internal/misc/Unsafe"), accessFlags := 24, slot := 0, constantValue := 0 }, { name := "BIG_ENDIAN", type := .boolean, accessFlags := 26, slot := 1, constantValue := 0 }, { name := "LOG2_ARRAY_BOOLEAN_INDEX_SCALE", type := .int, accessFlags := 25, slot := 2, constantValue := 0 }, { name := "LOG2_ARRAY_BYTE_INDEX_SCALE", type := .int, accessFlags := 25, slot := 3, constantValue := 0 }, { name := "LOG2_ARRAY_CHAR_INDEX_SCALE", type := .int, accessFlags := 25, slot := 4, constantValue := 0 }, { name := "LOG2_ARRAY_SHORT_INDEX_SCALE", type := .int, accessFlags := 25, slot := 5, constantValue := 0 }, { name := "LOG2_ARRAY_INT_INDEX_SCALE", type := .int, accessFlags := 25, slot := 6, constantValue := 0 }, { name := "LOG2_ARRAY_LONG_INDEX_SCALE", type := .int, accessFlags := 25, slot := 7, constantValue := 0 }, { name := "LOG2_ARRAY_FLOAT_INDEX_SCALE", type := .int, accessFlags := 25, slot := 8, constantValue := 0 }, { name := "LOG2_ARRAY_DOUBLE_INDEX_SCALE", type := .int, accessFlags := 25, slot := 9, constantValue := 0 }, { name := "LOG2_BYTE_BIT_SIZE", type := .int, accessFlags := 26, slot := 10, constantValue := 0 }, { name := "T_BOOLEAN", type := .int, accessFlags := 25, slot := 11, constantValue := 0 }, { name := "T_CHAR", type := .int, accessFlags := 25, slot := 12, constantValue := 0 }, { name := "T_FLOAT", type := .int, accessFlags := 25, slot := 13, constantValue := 0 }, { name := "T_DOUBLE", type := .int, accessFlags := 25, slot := 14, constantValue := 0 }, { name := "T_BYTE", type := .int, accessFlags := 25, slot := 15, constantValue := 0 }, { name := "T_SHORT", type := .int, accessFlags := 25, slot := 16, constantValue := 0 }, { name := "T_INT", type := .int, accessFlags := 25, slot := 17, constantValue := 0 }, { name := "T_LONG", type := .int, accessFlags := 25, slot := 18, constantValue := 0 }, { name := "JLA", type := (.object "jdk/internal/access/JavaLangAccess"), accessFlags := 26, slot := 19, constantValue := 0 }, { name := "SOFT_MAX_ARRAY_LENGTH", type := .int, accessFlags := 25, slot := 20, constantValue := 0 }]
  methods := #[k15m0, k15m1]
  instanceTypes := #[]
  staticTypes := #[(.object "jdk/internal/misc/Unsafe"), .boolean, .int, .int, .int, .int, .int, .int, .int, .int, .int, .int, .int, .int, .int, .int, .int, .int, .int, (.object "jdk/internal/access/JavaLangAccess"), .int]
  resolved := Array.replicate 378 none
  statics := none }

def pool16 : Array CpInfo := pool [(1, .class_ 2), (0, u "java/lang/Math"), (1, .class_ 6), (1, u "java/lang/Object"), (0, u "<init>"), (0, u "()V"), (89, .class_ 100), (1, u "java/lang/Math$RandomNumberGeneratorHolder"), (71, u "negativeZeroFloatBits"), (0, u "J"), (2, u "negativeZeroDoubleBits"), (21, u "max"), (2, u "min"), (43, u "$assertionsDisabled"), (0, u "Z"), (88, u "(II)I"), (2, u "twoToTheDoubleScaleDown"), (0, u "D"), (4, u "twoToTheDoubleScaleUp"), (9, u "E"), (3, u "PI"), (2, u "TAU"), (2, u "DEGREES_TO_RADIANS"), (0, u "RADIANS_TO_DEGREES")] 94

def k16m0 : Method := { name := "<init>", desc := "()V", sig := { parameters := [], returnType := none }, accessFlags := 2, code := none }
def k16c1 : Code := { maxStack := 2, maxLocals := 2, code := jdk_29_method_65_code, exceptionTable := #[], attributes := #[] }
def k16m1 : Method := { name := "max", desc := "(II)I", sig := { parameters := [.int, .int], returnType := some .int }, accessFlags := 9, code := some k16c1 }
def k16c2 : Code := { maxStack := 2, maxLocals := 2, code := jdk_29_method_69_code, exceptionTable := #[], attributes := #[] }
def k16m2 : Method := { name := "min", desc := "(II)I", sig := { parameters := [.int, .int], returnType := some .int }, accessFlags := 9, code := some k16c2 }
/-- java/lang/Math -/
def k16 : Class := { plain "java/lang/Math" (some 0) with
  accessFlags := 49
  interfaces := #[]
  cf := some (fileOf pool16 1 #[.nestMembers #[98]] #[{ accessFlags := 2, nameIndex := 7, descriptorIndex := 8, attributes := #[] }, { accessFlags := 9, nameIndex := 198, descriptorIndex := 335, attributes := #[] }, { accessFlags := 9, nameIndex := 201, descriptorIndex := 335, attributes := #[] }] 49 4 #[] #[{ accessFlags := 25, nameIndex := 354, descriptorIndex := 339, attributes := #[] }, { accessFlags := 25, nameIndex := 358, descriptorIndex := 339, attributes := #[] }, { accessFlags := 25, nameIndex := 361, descriptorIndex := 339, attributes := #[] }, { accessFlags := 26, nameIndex := 364, descriptorIndex := 339, attributes := #[] }, { accessFlags := 26, nameIndex := 365, descriptorIndex := 339, attributes := #[] }, { accessFlags := 26, nameIndex := 172, descriptorIndex := 173, attributes := #[] }, { accessFlags := 26, nameIndex := 176, descriptorIndex := 173, attributes := #[] }, { accessFlags := 8, nameIndex := 344, descriptorIndex := 339, attributes := #[] }, { accessFlags := 8, nameIndex := 338, descriptorIndex := 339, attributes := #[] }, { accessFlags := 4120, nameIndex := 245, descriptorIndex := 246, attributes := #[] }])
  fields := #[{ name := "E", type := .double, accessFlags := 25, slot := 0, constantValue := 0 }, { name := "PI", type := .double, accessFlags := 25, slot := 1, constantValue := 0 }, { name := "TAU", type := .double, accessFlags := 25, slot := 2, constantValue := 0 }, { name := "DEGREES_TO_RADIANS", type := .double, accessFlags := 26, slot := 3, constantValue := 0 }, { name := "RADIANS_TO_DEGREES", type := .double, accessFlags := 26, slot := 4, constantValue := 0 }, { name := "negativeZeroFloatBits", type := .long, accessFlags := 26, slot := 5, constantValue := 0 }, { name := "negativeZeroDoubleBits", type := .long, accessFlags := 26, slot := 6, constantValue := 0 }, { name := "twoToTheDoubleScaleUp", type := .double, accessFlags := 8, slot := 7, constantValue := 0 }, { name := "twoToTheDoubleScaleDown", type := .double, accessFlags := 8, slot := 8, constantValue := 0 }, { name := "$assertionsDisabled", type := .boolean, accessFlags := 4120, slot := 9, constantValue := 0 }]
  methods := #[k16m0, k16m1, k16m2]
  instanceTypes := #[]
  staticTypes := #[.double, .double, .double, .double, .double, .long, .long, .double, .double, .boolean]
  resolved := Array.replicate 460 none
  statics := none }

def pool17 : Array CpInfo := pool [(2, .class_ 4), (1, u "java/lang/Object"), (0, u "<init>"), (0, u "()V"), (7, .class_ 16), (1, u "java/util/Arrays"), (57, .class_ 76), (1, u "java/util/Arrays$NaturalOrder"), (32, u "()Ljava/lang/Object;"), (3, .class_ 115), (1, u "java/util/Arrays$LegacyMergeSort"), (1, u "Z"), (10, .nameAndType 129 109), (0, u "clone"), (9, u "copyOfRange"), (10, .methodref 151 152), (0, .class_ 153), (0, .nameAndType 154 155), (0, u "java/lang/System"), (0, u "arraycopy"), (0, u "(Ljava/lang/Object;ILjava/lang/Object;II)V"), (146, u "copyOf"), (1, .methodref 305 306), (0, .class_ 307), (0, .nameAndType 308 309), (0, u "java/lang/Math"), (0, u "min"), (0, u "(II)I"), (0, .methodref 311 128), (0, .class_ 312), (0, u "[B"), (26, .methodref 14 340), (0, .nameAndType 341 342), (0, u "copyOfRangeByte"), (0, u "([BII)[B"), (0, .methodref 14 344), (0, .nameAndType 345 346), (0, u "checkLength"), (0, u "(II)V"), (28, .class_ 376), (0, u "java/util/Arrays$ArrayList"), (68, u "$assertionsDisabled"), (269, u "MIN_ARRAY_SORT_GRAN"), (0, u "I"), (2, u "INSERTIONSORT_THRESHOLD"), (149, u "([BI)[B"), (105, .class_ 976), (0, u "java/util/Arrays$ArrayItr")] 52

def k17m0 : Method := { name := "<init>", desc := "()V", sig := { parameters := [], returnType := none }, accessFlags := 2, code := none }
def k17c1 : Code := { maxStack := 6, maxLocals := 3, code := jdk_65_method_121_code, exceptionTable := #[], attributes := #[] }
def k17m1 : Method := { name := "copyOf", desc := "([BI)[B", sig := { parameters := [(.array .byte), .int], returnType := some (.array .byte) }, accessFlags := 9, code := some k17c1 }
def k17c2 : Code := { maxStack := 4, maxLocals := 2, code := jdk_65_method_131_code, exceptionTable := #[], attributes := #[] }
def k17m2 : Method := { name := "checkLength", desc := "(II)V", sig := { parameters := [.int, .int], returnType := none }, accessFlags := 10, code := some k17c2 }
def k17c3 : Code := { maxStack := 3, maxLocals := 3, code := jdk_65_method_132_code, exceptionTable := #[], attributes := #[] }
def k17m3 : Method := { name := "copyOfRange", desc := "([BII)[B", sig := { parameters := [(.array .byte), .int, .int], returnType := some (.array .byte) }, accessFlags := 9, code := some k17c3 }
def k17c4 : Code := { maxStack := 6, maxLocals := 5, code := jdk_65_method_133_code, exceptionTable := #[], attributes := #[] }
def k17m4 : Method := { name := "copyOfRangeByte", desc := "([BII)[B", sig := { parameters := [(.array .byte), .int, .int], returnType := some (.array .byte) }, accessFlags := 10, code := some k17c4 }
/-- java/util/Arrays -/
def k17 : Class := { plain "java/util/Arrays" (some 0) with
  accessFlags := 49
  interfaces := #[]
  cf := some (fileOf pool17 14 #[.nestMembers #[975, 375, 113, 74]] #[{ accessFlags := 2, nameIndex := 5, descriptorIndex := 6, attributes := #[] }, { accessFlags := 9, nameIndex := 302, descriptorIndex := 869, attributes := #[] }, { accessFlags := 10, nameIndex := 345, descriptorIndex := 346, attributes := #[] }, { accessFlags := 9, nameIndex := 139, descriptorIndex := 342, attributes := #[] }, { accessFlags := 10, nameIndex := 341, descriptorIndex := 342, attributes := #[] }] 49 2 #[] #[{ accessFlags := 26, nameIndex := 715, descriptorIndex := 716, attributes := #[] }, { accessFlags := 26, nameIndex := 719, descriptorIndex := 716, attributes := #[] }, { accessFlags := 4120, nameIndex := 445, descriptorIndex := 117, attributes := #[] }])
  fields := #[{ name := "MIN_ARRAY_SORT_GRAN", type := .int, accessFlags := 26, slot := 0, constantValue := 0 }, { name := "INSERTIONSORT_THRESHOLD", type := .int, accessFlags := 26, slot := 1, constantValue := 0 }, { name := "$assertionsDisabled", type := .boolean, accessFlags := 4120, slot := 2, constantValue := 0 }]
  methods := #[k17m0, k17m1, k17m2, k17m3, k17m4]
  instanceTypes := #[]
  staticTypes := #[.int, .int, .boolean]
  resolved := Array.replicate 1029 none
  statics := none }

def pool18 : Array CpInfo := pool [(1, .class_ 2), (0, u "java/lang/Cloneable"), (0, .class_ 4), (0, u "java/lang/Object")] 2

/-- java/lang/Cloneable -/
def k18 : Class := { plain "java/lang/Cloneable" (some 0) with
  accessFlags := 1537
  interfaces := #[]
  cf := some (fileOf pool18 1 #[] #[] 1537 3 #[] #[])
  fields := #[]
  methods := #[]
  instanceTypes := #[]
  staticTypes := #[]
  resolved := Array.replicate 7 none
  statics := none }

def pool19 : Array CpInfo := pool [(6, .class_ 8), (1, u "java/lang/Object"), (0, u "<init>"), (0, u "()V"), (1, .class_ 14), (1, u "java/lang/StringUTF16"), (31, u "$assertionsDisabled"), (0, u "Z"), (13, u "HI_BYTE_SHIFT"), (0, u "I"), (2, u "LO_BYTE_SHIFT"), (49, .methodref 12 116), (0, .nameAndType 117 118), (0, u "compress"), (0, u "([CI[BII)I"), (3, u "([CII)[B"), (138, u "coderFromArrayLen"), (0, u "([BI)B"), (106, .class_ 371), (1, u "java/lang/StringUTF16$LinesSpliterator"), (58, u "MAX_LENGTH"), (196, .class_ 628), (0, u "java/lang/StringUTF16$CodePointsSpliterator"), (0, .class_ 630), (0, u "java/lang/StringUTF16$CharsSpliterator")] 4

def k19m0 : Method := { name := "<init>", desc := "()V", sig := { parameters := [], returnType := none }, accessFlags := 0, code := none }
def k19c1 : Code := { maxStack := 2, maxLocals := 2, code := jdk_52_method_15_code, exceptionTable := #[], attributes := #[] }
def k19m1 : Method := { name := "coderFromArrayLen", desc := "([BI)B", sig := { parameters := [(.array .byte), .int], returnType := some .byte }, accessFlags := 8, code := some k19c1 }
def k19c2 : Code := { maxStack := 5, maxLocals := 6, code := jdk_52_method_16_code, exceptionTable := #[], attributes := #[] }
def k19m2 : Method := { name := "compress", desc := "([CII)[B", sig := { parameters := [(.array .char), .int, .int], returnType := some (.array .byte) }, accessFlags := 9, code := some k19c2 }
def k19c3 : Code := { maxStack := 3, maxLocals := 7, code := jdk_52_method_21_code, exceptionTable := #[], attributes := #[] }
def k19m3 : Method := { name := "compress", desc := "([CI[BII)I", sig := { parameters := [(.array .char), .int, (.array .byte), .int, .int], returnType := some .int }, accessFlags := 9, code := some k19c3 }
/-- java/lang/StringUTF16 -/
def k19 : Class := { plain "java/lang/StringUTF16" (some 0) with
  accessFlags := 48
  interfaces := #[]
  cf := some (fileOf pool19 12 #[.nestMembers #[627, 629, 369]] #[{ accessFlags := 0, nameIndex := 9, descriptorIndex := 10, attributes := #[] }, { accessFlags := 8, nameIndex := 261, descriptorIndex := 262, attributes := #[] }, { accessFlags := 9, nameIndex := 117, descriptorIndex := 122, attributes := #[] }, { accessFlags := 9, nameIndex := 117, descriptorIndex := 118, attributes := #[] }] 48 6 #[] #[{ accessFlags := 26, nameIndex := 61, descriptorIndex := 62, attributes := #[] }, { accessFlags := 26, nameIndex := 65, descriptorIndex := 62, attributes := #[] }, { accessFlags := 24, nameIndex := 430, descriptorIndex := 62, attributes := #[] }, { accessFlags := 4120, nameIndex := 46, descriptorIndex := 47, attributes := #[] }])
  fields := #[{ name := "HI_BYTE_SHIFT", type := .int, accessFlags := 26, slot := 0, constantValue := 0 }, { name := "LO_BYTE_SHIFT", type := .int, accessFlags := 26, slot := 1, constantValue := 0 }, { name := "MAX_LENGTH", type := .int, accessFlags := 24, slot := 2, constantValue := 0 }, { name := "$assertionsDisabled", type := .boolean, accessFlags := 4120, slot := 3, constantValue := 0 }]
  methods := #[k19m0, k19m1, k19m2, k19m3]
  instanceTypes := #[]
  staticTypes := #[.int, .int, .int, .boolean]
  resolved := Array.replicate 635 none
  statics := none }

/-- the primitive byte -/
def k20 : Class := { plain "byte" none with kind := .primitive 'B', accessFlags := 0x411 }
/-- [B -/
def k21 : Class := { plain "[B" (some 0) with kind := .array 20 .byte, interfaces := #[18, 7], accessFlags := 1041 }

/-- the primitive char -/
def k22 : Class := { plain "char" none with kind := .primitive 'C', accessFlags := 0x411 }
/-- [C -/
def k23 : Class := { plain "[C" (some 0) with kind := .array 22 .char, interfaces := #[18, 7], accessFlags := 1041 }

/-- the primitive int -/
def k24 : Class := { plain "int" none with kind := .primitive 'I', accessFlags := 0x411 }
/-- [I -/
def k25 : Class := { plain "[I" (some 0) with kind := .array 24 .int, interfaces := #[18, 7], accessFlags := 1041 }

def heap : Heap := #[{ cls := 12, slots := #[.long 0, .int 1, .null, .int 0, .null, .int 0, .int 0], vm := .statics 12 },
  { cls := 14, slots := #[.null, .null, .null], vm := .statics 14 }]
def classes : Array Class := #[k0, k1, k2, k3, k4, k5, k6, k7, k8, k9, k10, k11, k12, k13, k14, k15, k16, k17, k18, k19, k20, k21, k22, k23, k24, k25]
def interned : List (Array UInt16 × Addr) := []
def slotsUsed : Nat := 10
def theMethod : MethodId := ⟨1, 1⟩
def args0 : Array Value := #[.long 5, .int 6, .int 7, .int 8, .int 9]
def aboutOver (below : List Frame) : State where
  vm := { classes := classes, interned := interned.toArray }
  heap := heap
  slotsUsed := slotsUsed
  threads := #[{ frames := .invoking theMethod args0 :: below }]
def below0 : List Frame := [.native { method := ⟨0, 0⟩, args := #[] }]
def about1 : State := aboutOver below0
def p0 : Program := .bare "" "" ""
def e0 : Env := launch0.env 0 0 0
theorem w_frames : about1.frames = Frame.invoking theMethod args0 :: below0 := rfl
set_option maxRecDepth 65536 in
theorem w_args : argsFit about1.vm theMethod args0 = true := by decide +kernel
set_option maxRecDepth 65536 in
theorem w_heap : heapFits about1 = true := by decide +kernel
set_option maxRecDepth 65536 in
theorem w_runnable : about1.curStatus? = some .runnable := by decide +kernel
set_option maxRecDepth 65536 in
theorem w_alone : about1.alone = true := by decide +kernel
set_option maxRecDepth 65536 in
theorem w_named : about1.methodNamed? x = some theMethod := by decide +kernel
set_option maxRecDepth 65536 in
theorem w_hears : about1.hears theMethod below0 = true := by decide +kernel
set_option maxRecDepth 65536 in
theorem w_ripe : about1.ripe theMethod args0 below0 = true := by decide +kernel
theorem w_running : about1.status = .running := rfl
set_option maxRecDepth 65536 in
theorem w_room : about1.hasRoom e0.platform room_1 = true :=
  launch0.hasRoom_least _ room_1 (by decide +kernel) (by decide +kernel) (by decide +kernel) (by decide +kernel) (by decide +kernel) (by decide +kernel)
theorem allAtoms_all (ts : List Jvm.Cond) (a : Array Jvm.Value) (st : Jvm.State) : (allAtoms ts).before a st = ts.all (fun c => c.before a st) := by
  induction ts with
  | nil => rfl
  | cons c t ih =>
    show (Jvm.Cond.and c (allAtoms t)).before a st = _
    rw [Jvm.Cond.before_and, ih, List.all_cons]
def words1 : List Jvm.Cond := Jvm.Cond.code x code maxLocals ret :: tables_1
/-- a 'code' word, met by the world's own term for the bytes: nothing is compared byte by byte -/
theorem code_word {y : MethodName} {bytes : ByteArray} {mx : Nat} {rt : Option FieldType} {a : Array Value} {s : State} {m : MethodId} {meth : Method} {c : Code} (h1 : s.methodNamed? y = some m) (h2 : s.vm.method? m = some meth) (h3 : meth.code = some c) (h4 : c.code = bytes)
    (h5 : (c.maxLocals == mx && c.exceptionTable.isEmpty && decide (c.maxStack ≤ mostOperands) && decide (meth.sig.returnType = rt) && !meth.locks && decide (parseMethodDescriptor y.desc = some meth.sig)) = true) : (Jvm.Cond.code y bytes mx rt).before a s = true := by
  simp only [Bool.and_eq_true, beq_iff_eq, Bool.not_eq_true', decide_eq_true_eq] at h5
  obtain ⟨⟨⟨⟨⟨g1, g2⟩, g3⟩, g4⟩, g5⟩, g6⟩ := h5
  simp [Cond.before, Cond.holds, Cond.value, h1, h2, h3, h4, g1, g2, g3, g4, g5, g6]
def isCode : Jvm.Cond → Bool
  | .code _ _ _ _ => true
  | _ => false
theorem all_split {L : List Jvm.Cond} {P : Jvm.Cond → Bool} (h1 : L.all (fun c => isCode c || P c) = true) (h2 : ∀ c ∈ L.filter isCode, P c = true) : L.all P = true := by
  refine List.all_eq_true.mpr fun c hc => ?_
  have h := List.all_eq_true.mp h1 c hc
  rcases Bool.eq_false_or_eq_true (isCode c) with hi | hi
  · exact h2 c (List.mem_filter.mpr ⟨hc, hi⟩)
  · simpa [hi] using h
set_option maxRecDepth 65536 in
theorem w_c0 : (Jvm.Cond.code x code maxLocals ret).before args0 about1 = true := code_word (m := ⟨1, 1⟩) (meth := k1m1) (c := k1c1) (by decide +kernel) rfl rfl rfl (by decide +kernel)
set_option maxRecDepth 65536 in
theorem w_c1 : (Jvm.Cond.code ({ cls := "com/example/keyclasp/keyclasp/protocol/ActivationCode", name := "fromRandomBytes", desc := "([B)Ljava/lang/String;" } : Jvm.MethodName) prog_9_method_3_code (6 : Nat) (Option.some (Jvm.ClassFile.FieldType.object "java/lang/String"))).before args0 about1 = true := code_word (m := ⟨2, 1⟩) (meth := k2m1) (c := k2c1) (by decide +kernel) rfl rfl rfl (by decide +kernel)
set_option maxRecDepth 65536 in
theorem w_c2 : (Jvm.Cond.code ({ cls := "com/example/keyclasp/keyclasp/protocol/ActivationCode", name := "crc16Arc", desc := "([B)I" } : Jvm.MethodName) prog_9_method_8_code (7 : Nat) (Option.some Jvm.ClassFile.FieldType.int)).before args0 about1 = true := code_word (m := ⟨2, 4⟩) (meth := k2m4) (c := k2c4) (by decide +kernel) rfl rfl rfl (by decide +kernel)
set_option maxRecDepth 65536 in
theorem w_c3 : (Jvm.Cond.code ({ cls := "com/example/keyclasp/keyclasp/protocol/ActivationCode", name := "base32", desc := "([B)Ljava/lang/String;" } : Jvm.MethodName) prog_9_method_7_code (8 : Nat) (Option.some (Jvm.ClassFile.FieldType.object "java/lang/String"))).before args0 about1 = true := code_word (m := ⟨2, 3⟩) (meth := k2m3) (c := k2c3) (by decide +kernel) rfl rfl rfl (by decide +kernel)
set_option maxRecDepth 65536 in
theorem w_c4 : (Jvm.Cond.code ({ cls := "java/lang/StringBuilder", name := "<init>", desc := "()V" } : Jvm.MethodName) jdk_67_method_1_code (1 : Nat) (Option.none : Option Jvm.ClassFile.FieldType)).before args0 about1 = true := code_word (m := ⟨9, 0⟩) (meth := k9m0) (c := k9c0) (by decide +kernel) rfl rfl rfl (by decide +kernel)
set_option maxRecDepth 65536 in
theorem w_c5 : (Jvm.Cond.code ({ cls := "java/lang/AbstractStringBuilder", name := "<init>", desc := "(I)V" } : Jvm.MethodName) jdk_68_method_2_code (2 : Nat) (Option.none : Option Jvm.ClassFile.FieldType)).before args0 about1 = true := code_word (m := ⟨6, 1⟩) (meth := k6m1) (c := k6c1) (by decide +kernel) rfl rfl rfl (by decide +kernel)
set_option maxRecDepth 65536 in
theorem w_c6 : (Jvm.Cond.code ({ cls := "java/lang/Object", name := "<init>", desc := "()V" } : Jvm.MethodName) object_method_1_code (1 : Nat) (Option.none : Option Jvm.ClassFile.FieldType)).before args0 about1 = true := code_word (m := ⟨0, 0⟩) (meth := k0m0) (c := k0c0) (by decide +kernel) rfl rfl rfl (by decide +kernel)
set_option maxRecDepth 65536 in
theorem w_c7 : (Jvm.Cond.code ({ cls := "java/lang/String", name := "charAt", desc := "(I)C" } : Jvm.MethodName) jdk_42_method_56_code (2 : Nat) (Option.some Jvm.ClassFile.FieldType.char)).before args0 about1 = true := code_word (m := ⟨12, 4⟩) (meth := k12m4) (c := k12c4) (by decide +kernel) rfl rfl rfl (by decide +kernel)
set_option maxRecDepth 65536 in
theorem w_c8 : (Jvm.Cond.code ({ cls := "java/lang/String", name := "isLatin1", desc := "()Z" } : Jvm.MethodName) jdk_42_method_154_code (1 : Nat) (Option.some Jvm.ClassFile.FieldType.boolean)).before args0 about1 = true := code_word (m := ⟨12, 11⟩) (meth := k12m11) (c := k12c11) (by decide +kernel) rfl rfl rfl (by decide +kernel)
set_option maxRecDepth 65536 in
theorem w_c9 : (Jvm.Cond.code ({ cls := "java/lang/StringLatin1", name := "charAt", desc := "([BI)C" } : Jvm.MethodName) jdk_43_method_2_code (2 : Nat) (Option.some Jvm.ClassFile.FieldType.char)).before args0 about1 = true := code_word (m := ⟨13, 1⟩) (meth := k13m1) (c := k13c1) (by decide +kernel) rfl rfl rfl (by decide +kernel)
set_option maxRecDepth 65536 in
theorem w_c10 : (Jvm.Cond.code ({ cls := "java/lang/String", name := "checkIndex", desc := "(II)V" } : Jvm.MethodName) jdk_42_method_155_code (2 : Nat) (Option.none : Option Jvm.ClassFile.FieldType)).before args0 about1 = true := code_word (m := ⟨12, 12⟩) (meth := k12m12) (c := k12c12) (by decide +kernel) rfl rfl rfl (by decide +kernel)
set_option maxRecDepth 65536 in
theorem w_c11 : (Jvm.Cond.code ({ cls := "jdk/internal/util/Preconditions", name := "checkIndex", desc := "(IILjava/util/function/BiFunction;)I" } : Jvm.MethodName) jdk_41_method_11_code (3 : Nat) (Option.some Jvm.ClassFile.FieldType.int)).before args0 about1 = true := code_word (m := ⟨14, 1⟩) (meth := k14m1) (c := k14c1) (by decide +kernel) rfl rfl rfl (by decide +kernel)
set_option maxRecDepth 65536 in
theorem w_c12 : (Jvm.Cond.code ({ cls := "java/lang/StringBuilder", name := "append", desc := "(C)Ljava/lang/StringBuilder;" } : Jvm.MethodName) jdk_67_method_14_code (2 : Nat) (Option.some (Jvm.ClassFile.FieldType.object "java/lang/StringBuilder"))).before args0 about1 = true := code_word (m := ⟨9, 3⟩) (meth := k9m3) (c := k9c3) (by decide +kernel) rfl rfl rfl (by decide +kernel)
set_option maxRecDepth 65536 in
theorem w_c13 : (Jvm.Cond.code ({ cls := "java/lang/AbstractStringBuilder", name := "append", desc := "(C)Ljava/lang/AbstractStringBuilder;" } : Jvm.MethodName) jdk_68_method_31_code (2 : Nat) (Option.some (Jvm.ClassFile.FieldType.object "java/lang/AbstractStringBuilder"))).before args0 about1 = true := code_word (m := ⟨6, 6⟩) (meth := k6m6) (c := k6c6) (by decide +kernel) rfl rfl rfl (by decide +kernel)
set_option maxRecDepth 65536 in
theorem w_c14 : (Jvm.Cond.code ({ cls := "java/lang/AbstractStringBuilder", name := "ensureCapacityInternal", desc := "(I)V" } : Jvm.MethodName) jdk_68_method_9_code (3 : Nat) (Option.none : Option Jvm.ClassFile.FieldType)).before args0 about1 = true := code_word (m := ⟨6, 3⟩) (meth := k6m3) (c := k6c3) (by decide +kernel) rfl rfl rfl (by decide +kernel)
set_option maxRecDepth 65536 in
theorem w_c15 : (Jvm.Cond.code ({ cls := "java/lang/AbstractStringBuilder", name := "isLatin1", desc := "()Z" } : Jvm.MethodName) jdk_68_method_68_code (1 : Nat) (Option.some Jvm.ClassFile.FieldType.boolean)).before args0 about1 = true := code_word (m := ⟨6, 8⟩) (meth := k6m8) (c := k6c8) (by decide +kernel) rfl rfl rfl (by decide +kernel)
set_option maxRecDepth 65536 in
theorem w_c16 : (Jvm.Cond.code ({ cls := "java/lang/StringLatin1", name := "canEncode", desc := "(C)Z" } : Jvm.MethodName) jdk_43_method_3_code (1 : Nat) (Option.some Jvm.ClassFile.FieldType.boolean)).before args0 about1 = true := code_word (m := ⟨13, 2⟩) (meth := k13m2) (c := k13c2) (by decide +kernel) rfl rfl rfl (by decide +kernel)
set_option maxRecDepth 65536 in
theorem w_c17 : (Jvm.Cond.code ({ cls := "java/lang/AbstractStringBuilder", name := "newCapacity", desc := "(I)I" } : Jvm.MethodName) jdk_68_method_10_code (6 : Nat) (Option.some Jvm.ClassFile.FieldType.int)).before args0 about1 = true := code_word (m := ⟨6, 4⟩) (meth := k6m4) (c := k6c4) (by decide +kernel) rfl rfl rfl (by decide +kernel)
set_option maxRecDepth 65536 in
theorem w_c18 : (Jvm.Cond.code ({ cls := "jdk/internal/util/ArraysSupport", name := "newLength", desc := "(III)I" } : Jvm.MethodName) jdk_48_method_27_code (4 : Nat) (Option.some Jvm.ClassFile.FieldType.int)).before args0 about1 = true := code_word (m := ⟨15, 1⟩) (meth := k15m1) (c := k15c1) (by decide +kernel) rfl rfl rfl (by decide +kernel)
set_option maxRecDepth 65536 in
theorem w_c19 : (Jvm.Cond.code ({ cls := "java/lang/Math", name := "max", desc := "(II)I" } : Jvm.MethodName) jdk_29_method_65_code (2 : Nat) (Option.some Jvm.ClassFile.FieldType.int)).before args0 about1 = true := code_word (m := ⟨16, 1⟩) (meth := k16m1) (c := k16c1) (by decide +kernel) rfl rfl rfl (by decide +kernel)
set_option maxRecDepth 65536 in
theorem w_c20 : (Jvm.Cond.code ({ cls := "java/util/Arrays", name := "copyOf", desc := "([BI)[B" } : Jvm.MethodName) jdk_65_method_121_code (3 : Nat) (Option.some (Jvm.ClassFile.FieldType.array Jvm.ClassFile.FieldType.byte))).before args0 about1 = true := code_word (m := ⟨17, 1⟩) (meth := k17m1) (c := k17c1) (by decide +kernel) rfl rfl rfl (by decide +kernel)
set_option maxRecDepth 65536 in
theorem w_c21 : (Jvm.Cond.code ({ cls := "java/lang/Math", name := "min", desc := "(II)I" } : Jvm.MethodName) jdk_29_method_69_code (2 : Nat) (Option.some Jvm.ClassFile.FieldType.int)).before args0 about1 = true := code_word (m := ⟨16, 2⟩) (meth := k16m2) (c := k16c2) (by decide +kernel) rfl rfl rfl (by decide +kernel)
set_option maxRecDepth 65536 in
theorem w_c22 : (Jvm.Cond.code ({ cls := "java/lang/StringBuilder", name := "toString", desc := "()Ljava/lang/String;" } : Jvm.MethodName) jdk_67_method_42_code (1 : Nat) (Option.some (Jvm.ClassFile.FieldType.object "java/lang/String"))).before args0 about1 = true := code_word (m := ⟨9, 4⟩) (meth := k9m4) (c := k9c4) (by decide +kernel) rfl rfl rfl (by decide +kernel)
set_option maxRecDepth 65536 in
theorem w_c23 : (Jvm.Cond.code ({ cls := "java/lang/String", name := "<init>", desc := "(Ljava/lang/StringBuilder;)V" } : Jvm.MethodName) jdk_42_method_53_code (2 : Nat) (Option.none : Option Jvm.ClassFile.FieldType)).before args0 about1 = true := code_word (m := ⟨12, 2⟩) (meth := k12m2) (c := k12c2) (by decide +kernel) rfl rfl rfl (by decide +kernel)
set_option maxRecDepth 65536 in
theorem w_c24 : (Jvm.Cond.code ({ cls := "java/lang/String", name := "<init>", desc := "(Ljava/lang/AbstractStringBuilder;Ljava/lang/Void;)V" } : Jvm.MethodName) jdk_42_method_150_code (5 : Nat) (Option.none : Option Jvm.ClassFile.FieldType)).before args0 about1 = true := code_word (m := ⟨12, 8⟩) (meth := k12m8) (c := k12c8) (by decide +kernel) rfl rfl rfl (by decide +kernel)
set_option maxRecDepth 65536 in
theorem w_c25 : (Jvm.Cond.code ({ cls := "java/lang/AbstractStringBuilder", name := "getValue", desc := "()[B" } : Jvm.MethodName) jdk_68_method_64_code (1 : Nat) (Option.some (Jvm.ClassFile.FieldType.array Jvm.ClassFile.FieldType.byte))).before args0 about1 = true := code_word (m := ⟨6, 7⟩) (meth := k6m7) (c := k6c7) (by decide +kernel) rfl rfl rfl (by decide +kernel)
set_option maxRecDepth 65536 in
theorem w_c26 : (Jvm.Cond.code ({ cls := "java/lang/StringBuilder", name := "length", desc := "()I" } : Jvm.MethodName) jdk_67_method_93_code (1 : Nat) (Option.some Jvm.ClassFile.FieldType.int)).before args0 about1 = true := code_word (m := ⟨9, 5⟩) (meth := k9m5) (c := k9c5) (by decide +kernel) rfl rfl rfl (by decide +kernel)
set_option maxRecDepth 65536 in
theorem w_c27 : (Jvm.Cond.code ({ cls := "java/lang/AbstractStringBuilder", name := "length", desc := "()I" } : Jvm.MethodName) jdk_68_method_6_code (1 : Nat) (Option.some Jvm.ClassFile.FieldType.int)).before args0 about1 = true := code_word (m := ⟨6, 2⟩) (meth := k6m2) (c := k6c2) (by decide +kernel) rfl rfl rfl (by decide +kernel)
set_option maxRecDepth 65536 in
theorem w_c28 : (Jvm.Cond.code ({ cls := "java/util/Arrays", name := "copyOfRange", desc := "([BII)[B" } : Jvm.MethodName) jdk_65_method_132_code (3 : Nat) (Option.some (Jvm.ClassFile.FieldType.array Jvm.ClassFile.FieldType.byte))).before args0 about1 = true := code_word (m := ⟨17, 3⟩) (meth := k17m3) (c := k17c3) (by decide +kernel) rfl rfl rfl (by decide +kernel)
set_option maxRecDepth 65536 in
theorem w_c29 : (Jvm.Cond.code ({ cls := "java/util/Arrays", name := "copyOfRangeByte", desc := "([BII)[B" } : Jvm.MethodName) jdk_65_method_133_code (5 : Nat) (Option.some (Jvm.ClassFile.FieldType.array Jvm.ClassFile.FieldType.byte))).before args0 about1 = true := code_word (m := ⟨17, 4⟩) (meth := k17m4) (c := k17c4) (by decide +kernel) rfl rfl rfl (by decide +kernel)
set_option maxRecDepth 65536 in
theorem w_c30 : (Jvm.Cond.code ({ cls := "java/util/Arrays", name := "checkLength", desc := "(II)V" } : Jvm.MethodName) jdk_65_method_131_code (2 : Nat) (Option.none : Option Jvm.ClassFile.FieldType)).before args0 about1 = true := code_word (m := ⟨17, 2⟩) (meth := k17m2) (c := k17c2) (by decide +kernel) rfl rfl rfl (by decide +kernel)
set_option maxRecDepth 65536 in
theorem w_c31 : (Jvm.Cond.code ({ cls := "java/lang/StringBuilder", name := "<init>", desc := "(I)V" } : Jvm.MethodName) jdk_67_method_2_code (2 : Nat) (Option.none : Option Jvm.ClassFile.FieldType)).before args0 about1 = true := code_word (m := ⟨9, 1⟩) (meth := k9m1) (c := k9c1) (by decide +kernel) rfl rfl rfl (by decide +kernel)
set_option maxRecDepth 65536 in
theorem w_c32 : (Jvm.Cond.code ({ cls := "java/lang/StringBuilder", name := "append", desc := "(Ljava/lang/CharSequence;II)Ljava/lang/StringBuilder;" } : Jvm.MethodName) jdk_67_method_10_code (4 : Nat) (Option.some (Jvm.ClassFile.FieldType.object "java/lang/StringBuilder"))).before args0 about1 = true := code_word (m := ⟨9, 2⟩) (meth := k9m2) (c := k9c2) (by decide +kernel) rfl rfl rfl (by decide +kernel)
set_option maxRecDepth 65536 in
theorem w_c33 : (Jvm.Cond.code ({ cls := "java/lang/AbstractStringBuilder", name := "append", desc := "(Ljava/lang/CharSequence;II)Ljava/lang/AbstractStringBuilder;" } : Jvm.MethodName) jdk_68_method_27_code (5 : Nat) (Option.some (Jvm.ClassFile.FieldType.object "java/lang/AbstractStringBuilder"))).before args0 about1 = true := code_word (m := ⟨6, 5⟩) (meth := k6m5) (c := k6c5) (by decide +kernel) rfl rfl rfl (by decide +kernel)
set_option maxRecDepth 65536 in
theorem w_c34 : (Jvm.Cond.code ({ cls := "java/lang/String", name := "length", desc := "()I" } : Jvm.MethodName) jdk_42_method_54_code (1 : Nat) (Option.some Jvm.ClassFile.FieldType.int)).before args0 about1 = true := code_word (m := ⟨12, 3⟩) (meth := k12m3) (c := k12c3) (by decide +kernel) rfl rfl rfl (by decide +kernel)
set_option maxRecDepth 65536 in
theorem w_c35 : (Jvm.Cond.code ({ cls := "java/lang/String", name := "coder", desc := "()B" } : Jvm.MethodName) jdk_42_method_152_code (1 : Nat) (Option.some Jvm.ClassFile.FieldType.byte)).before args0 about1 = true := code_word (m := ⟨12, 9⟩) (meth := k12m9) (c := k12c9) (by decide +kernel) rfl rfl rfl (by decide +kernel)
set_option maxRecDepth 65536 in
theorem w_c36 : (Jvm.Cond.code ({ cls := "jdk/internal/util/Preconditions", name := "checkFromToIndex", desc := "(IIILjava/util/function/BiFunction;)I" } : Jvm.MethodName) jdk_41_method_12_code (4 : Nat) (Option.some Jvm.ClassFile.FieldType.int)).before args0 about1 = true := code_word (m := ⟨14, 2⟩) (meth := k14m2) (c := k14c2) (by decide +kernel) rfl rfl rfl (by decide +kernel)
set_option maxRecDepth 65536 in
theorem w_c37 : (Jvm.Cond.code ({ cls := "java/lang/AbstractStringBuilder", name := "appendChars", desc := "(Ljava/lang/String;II)V" } : Jvm.MethodName) jdk_68_method_75_code (8 : Nat) (Option.none : Option Jvm.ClassFile.FieldType)).before args0 about1 = true := code_word (m := ⟨6, 9⟩) (meth := k6m9) (c := k6c9) (by decide +kernel) rfl rfl rfl (by decide +kernel)
set_option maxRecDepth 65536 in
theorem w_c38 : (Jvm.Cond.code ({ cls := "java/lang/String", name := "value", desc := "()[B" } : Jvm.MethodName) jdk_42_method_153_code (1 : Nat) (Option.some (Jvm.ClassFile.FieldType.array Jvm.ClassFile.FieldType.byte))).before args0 about1 = true := code_word (m := ⟨12, 10⟩) (meth := k12m10) (c := k12c10) (by decide +kernel) rfl rfl rfl (by decide +kernel)
set_option maxRecDepth 65536 in
theorem w_c39 : (Jvm.Cond.code ({ cls := "com/example/keyclasp/keyclasp/protocol/ActivationCodeIsValidPinLaw", name := "copy22", desc := "(Ljava/lang/String;[C)V" } : Jvm.MethodName) method_3_code (2 : Nat) (Option.none : Option Jvm.ClassFile.FieldType)).before args0 about1 = true := code_word (m := ⟨1, 2⟩) (meth := k1m2) (c := k1c2) (by decide +kernel) rfl rfl rfl (by decide +kernel)
set_option maxRecDepth 65536 in
theorem w_c40 : (Jvm.Cond.code ({ cls := "com/example/keyclasp/keyclasp/protocol/ActivationCode", name := "isValid", desc := "(Ljava/lang/String;)Z" } : Jvm.MethodName) prog_9_method_4_code (8 : Nat) (Option.some Jvm.ClassFile.FieldType.boolean)).before args0 about1 = true := code_word (m := ⟨2, 2⟩) (meth := k2m2) (c := k2c2) (by decide +kernel) rfl rfl rfl (by decide +kernel)
set_option maxRecDepth 65536 in
theorem w_c41 : (Jvm.Cond.code ({ cls := "java/lang/String", name := "indexOf", desc := "(I)I" } : Jvm.MethodName) jdk_42_method_79_code (2 : Nat) (Option.some Jvm.ClassFile.FieldType.int)).before args0 about1 = true := code_word (m := ⟨12, 5⟩) (meth := k12m5) (c := k12c5) (by decide +kernel) rfl rfl rfl (by decide +kernel)
set_option maxRecDepth 65536 in
theorem w_c42 : (Jvm.Cond.code ({ cls := "java/lang/String", name := "indexOf", desc := "(II)I" } : Jvm.MethodName) jdk_42_method_80_code (3 : Nat) (Option.some Jvm.ClassFile.FieldType.int)).before args0 about1 = true := code_word (m := ⟨12, 6⟩) (meth := k12m6) (c := k12c6) (by decide +kernel) rfl rfl rfl (by decide +kernel)
set_option maxRecDepth 65536 in
theorem w_c43 : (Jvm.Cond.code ({ cls := "java/lang/StringLatin1", name := "indexOf", desc := "([BIII)I" } : Jvm.MethodName) jdk_43_method_22_code (4 : Nat) (Option.some Jvm.ClassFile.FieldType.int)).before args0 about1 = true := code_word (m := ⟨13, 4⟩) (meth := k13m4) (c := k13c4) (by decide +kernel) rfl rfl rfl (by decide +kernel)
set_option maxRecDepth 65536 in
theorem w_c44 : (Jvm.Cond.code ({ cls := "java/lang/StringLatin1", name := "canEncode", desc := "(I)Z" } : Jvm.MethodName) jdk_43_method_4_code (1 : Nat) (Option.some Jvm.ClassFile.FieldType.boolean)).before args0 about1 = true := code_word (m := ⟨13, 3⟩) (meth := k13m3) (c := k13c3) (by decide +kernel) rfl rfl rfl (by decide +kernel)
set_option maxRecDepth 65536 in
theorem w_c45 : (Jvm.Cond.code ({ cls := "java/lang/StringLatin1", name := "indexOfChar", desc := "([BIII)I" } : Jvm.MethodName) jdk_43_method_23_code (6 : Nat) (Option.some Jvm.ClassFile.FieldType.int)).before args0 about1 = true := code_word (m := ⟨13, 5⟩) (meth := k13m5) (c := k13c5) (by decide +kernel) rfl rfl rfl (by decide +kernel)
set_option maxRecDepth 65536 in
theorem w_c46 : (Jvm.Cond.code ({ cls := "java/lang/String", name := "<init>", desc := "([C)V" } : Jvm.MethodName) jdk_42_method_3_code (2 : Nat) (Option.none : Option Jvm.ClassFile.FieldType)).before args0 about1 = true := code_word (m := ⟨12, 1⟩) (meth := k12m1) (c := k12c1) (by decide +kernel) rfl rfl rfl (by decide +kernel)
set_option maxRecDepth 65536 in
theorem w_c47 : (Jvm.Cond.code ({ cls := "java/lang/String", name := "<init>", desc := "([CIILjava/lang/Void;)V" } : Jvm.MethodName) jdk_42_method_149_code (6 : Nat) (Option.none : Option Jvm.ClassFile.FieldType)).before args0 about1 = true := code_word (m := ⟨12, 7⟩) (meth := k12m7) (c := k12c7) (by decide +kernel) rfl rfl rfl (by decide +kernel)
set_option maxRecDepth 65536 in
theorem w_c48 : (Jvm.Cond.code ({ cls := "java/lang/StringUTF16", name := "compress", desc := "([CII)[B" } : Jvm.MethodName) jdk_52_method_16_code (6 : Nat) (Option.some (Jvm.ClassFile.FieldType.array Jvm.ClassFile.FieldType.byte))).before args0 about1 = true := code_word (m := ⟨19, 2⟩) (meth := k19m2) (c := k19c2) (by decide +kernel) rfl rfl rfl (by decide +kernel)
set_option maxRecDepth 65536 in
theorem w_c49 : (Jvm.Cond.code ({ cls := "java/lang/StringUTF16", name := "compress", desc := "([CI[BII)I" } : Jvm.MethodName) jdk_52_method_21_code (7 : Nat) (Option.some Jvm.ClassFile.FieldType.int)).before args0 about1 = true := code_word (m := ⟨19, 3⟩) (meth := k19m3) (c := k19c3) (by decide +kernel) rfl rfl rfl (by decide +kernel)
set_option maxRecDepth 65536 in
theorem w_c50 : (Jvm.Cond.code ({ cls := "java/lang/StringUTF16", name := "coderFromArrayLen", desc := "([BI)B" } : Jvm.MethodName) jdk_52_method_15_code (2 : Nat) (Option.some Jvm.ClassFile.FieldType.byte)).before args0 about1 = true := code_word (m := ⟨19, 1⟩) (meth := k19m1) (c := k19c1) (by decide +kernel) rfl rfl rfl (by decide +kernel)
def codes1 : List Jvm.Cond := [Jvm.Cond.code x code maxLocals ret, Jvm.Cond.code ({ cls := "com/example/keyclasp/keyclasp/protocol/ActivationCode", name := "fromRandomBytes", desc := "([B)Ljava/lang/String;" } : Jvm.MethodName) prog_9_method_3_code (6 : Nat) (Option.some (Jvm.ClassFile.FieldType.object "java/lang/String")), Jvm.Cond.code ({ cls := "com/example/keyclasp/keyclasp/protocol/ActivationCode", name := "crc16Arc", desc := "([B)I" } : Jvm.MethodName) prog_9_method_8_code (7 : Nat) (Option.some Jvm.ClassFile.FieldType.int), Jvm.Cond.code ({ cls := "com/example/keyclasp/keyclasp/protocol/ActivationCode", name := "base32", desc := "([B)Ljava/lang/String;" } : Jvm.MethodName) prog_9_method_7_code (8 : Nat) (Option.some (Jvm.ClassFile.FieldType.object "java/lang/String")), Jvm.Cond.code ({ cls := "java/lang/StringBuilder", name := "<init>", desc := "()V" } : Jvm.MethodName) jdk_67_method_1_code (1 : Nat) (Option.none : Option Jvm.ClassFile.FieldType), Jvm.Cond.code ({ cls := "java/lang/AbstractStringBuilder", name := "<init>", desc := "(I)V" } : Jvm.MethodName) jdk_68_method_2_code (2 : Nat) (Option.none : Option Jvm.ClassFile.FieldType), Jvm.Cond.code ({ cls := "java/lang/Object", name := "<init>", desc := "()V" } : Jvm.MethodName) object_method_1_code (1 : Nat) (Option.none : Option Jvm.ClassFile.FieldType), Jvm.Cond.code ({ cls := "java/lang/String", name := "charAt", desc := "(I)C" } : Jvm.MethodName) jdk_42_method_56_code (2 : Nat) (Option.some Jvm.ClassFile.FieldType.char), Jvm.Cond.code ({ cls := "java/lang/String", name := "isLatin1", desc := "()Z" } : Jvm.MethodName) jdk_42_method_154_code (1 : Nat) (Option.some Jvm.ClassFile.FieldType.boolean), Jvm.Cond.code ({ cls := "java/lang/StringLatin1", name := "charAt", desc := "([BI)C" } : Jvm.MethodName) jdk_43_method_2_code (2 : Nat) (Option.some Jvm.ClassFile.FieldType.char), Jvm.Cond.code ({ cls := "java/lang/String", name := "checkIndex", desc := "(II)V" } : Jvm.MethodName) jdk_42_method_155_code (2 : Nat) (Option.none : Option Jvm.ClassFile.FieldType), Jvm.Cond.code ({ cls := "jdk/internal/util/Preconditions", name := "checkIndex", desc := "(IILjava/util/function/BiFunction;)I" } : Jvm.MethodName) jdk_41_method_11_code (3 : Nat) (Option.some Jvm.ClassFile.FieldType.int), Jvm.Cond.code ({ cls := "java/lang/StringBuilder", name := "append", desc := "(C)Ljava/lang/StringBuilder;" } : Jvm.MethodName) jdk_67_method_14_code (2 : Nat) (Option.some (Jvm.ClassFile.FieldType.object "java/lang/StringBuilder")), Jvm.Cond.code ({ cls := "java/lang/AbstractStringBuilder", name := "append", desc := "(C)Ljava/lang/AbstractStringBuilder;" } : Jvm.MethodName) jdk_68_method_31_code (2 : Nat) (Option.some (Jvm.ClassFile.FieldType.object "java/lang/AbstractStringBuilder")), Jvm.Cond.code ({ cls := "java/lang/AbstractStringBuilder", name := "ensureCapacityInternal", desc := "(I)V" } : Jvm.MethodName) jdk_68_method_9_code (3 : Nat) (Option.none : Option Jvm.ClassFile.FieldType), Jvm.Cond.code ({ cls := "java/lang/AbstractStringBuilder", name := "isLatin1", desc := "()Z" } : Jvm.MethodName) jdk_68_method_68_code (1 : Nat) (Option.some Jvm.ClassFile.FieldType.boolean), Jvm.Cond.code ({ cls := "java/lang/StringLatin1", name := "canEncode", desc := "(C)Z" } : Jvm.MethodName) jdk_43_method_3_code (1 : Nat) (Option.some Jvm.ClassFile.FieldType.boolean), Jvm.Cond.code ({ cls := "java/lang/AbstractStringBuilder", name := "newCapacity", desc := "(I)I" } : Jvm.MethodName) jdk_68_method_10_code (6 : Nat) (Option.some Jvm.ClassFile.FieldType.int), Jvm.Cond.code ({ cls := "jdk/internal/util/ArraysSupport", name := "newLength", desc := "(III)I" } : Jvm.MethodName) jdk_48_method_27_code (4 : Nat) (Option.some Jvm.ClassFile.FieldType.int), Jvm.Cond.code ({ cls := "java/lang/Math", name := "max", desc := "(II)I" } : Jvm.MethodName) jdk_29_method_65_code (2 : Nat) (Option.some Jvm.ClassFile.FieldType.int), Jvm.Cond.code ({ cls := "java/util/Arrays", name := "copyOf", desc := "([BI)[B" } : Jvm.MethodName) jdk_65_method_121_code (3 : Nat) (Option.some (Jvm.ClassFile.FieldType.array Jvm.ClassFile.FieldType.byte)), Jvm.Cond.code ({ cls := "java/lang/Math", name := "min", desc := "(II)I" } : Jvm.MethodName) jdk_29_method_69_code (2 : Nat) (Option.some Jvm.ClassFile.FieldType.int), Jvm.Cond.code ({ cls := "java/lang/StringBuilder", name := "toString", desc := "()Ljava/lang/String;" } : Jvm.MethodName) jdk_67_method_42_code (1 : Nat) (Option.some (Jvm.ClassFile.FieldType.object "java/lang/String")), Jvm.Cond.code ({ cls := "java/lang/String", name := "<init>", desc := "(Ljava/lang/StringBuilder;)V" } : Jvm.MethodName) jdk_42_method_53_code (2 : Nat) (Option.none : Option Jvm.ClassFile.FieldType), Jvm.Cond.code ({ cls := "java/lang/String", name := "<init>", desc := "(Ljava/lang/AbstractStringBuilder;Ljava/lang/Void;)V" } : Jvm.MethodName) jdk_42_method_150_code (5 : Nat) (Option.none : Option Jvm.ClassFile.FieldType), Jvm.Cond.code ({ cls := "java/lang/AbstractStringBuilder", name := "getValue", desc := "()[B" } : Jvm.MethodName) jdk_68_method_64_code (1 : Nat) (Option.some (Jvm.ClassFile.FieldType.array Jvm.ClassFile.FieldType.byte)), Jvm.Cond.code ({ cls := "java/lang/StringBuilder", name := "length", desc := "()I" } : Jvm.MethodName) jdk_67_method_93_code (1 : Nat) (Option.some Jvm.ClassFile.FieldType.int), Jvm.Cond.code ({ cls := "java/lang/AbstractStringBuilder", name := "length", desc := "()I" } : Jvm.MethodName) jdk_68_method_6_code (1 : Nat) (Option.some Jvm.ClassFile.FieldType.int), Jvm.Cond.code ({ cls := "java/util/Arrays", name := "copyOfRange", desc := "([BII)[B" } : Jvm.MethodName) jdk_65_method_132_code (3 : Nat) (Option.some (Jvm.ClassFile.FieldType.array Jvm.ClassFile.FieldType.byte)), Jvm.Cond.code ({ cls := "java/util/Arrays", name := "copyOfRangeByte", desc := "([BII)[B" } : Jvm.MethodName) jdk_65_method_133_code (5 : Nat) (Option.some (Jvm.ClassFile.FieldType.array Jvm.ClassFile.FieldType.byte)), Jvm.Cond.code ({ cls := "java/util/Arrays", name := "checkLength", desc := "(II)V" } : Jvm.MethodName) jdk_65_method_131_code (2 : Nat) (Option.none : Option Jvm.ClassFile.FieldType), Jvm.Cond.code ({ cls := "java/lang/StringBuilder", name := "<init>", desc := "(I)V" } : Jvm.MethodName) jdk_67_method_2_code (2 : Nat) (Option.none : Option Jvm.ClassFile.FieldType), Jvm.Cond.code ({ cls := "java/lang/StringBuilder", name := "append", desc := "(Ljava/lang/CharSequence;II)Ljava/lang/StringBuilder;" } : Jvm.MethodName) jdk_67_method_10_code (4 : Nat) (Option.some (Jvm.ClassFile.FieldType.object "java/lang/StringBuilder")), Jvm.Cond.code ({ cls := "java/lang/AbstractStringBuilder", name := "append", desc := "(Ljava/lang/CharSequence;II)Ljava/lang/AbstractStringBuilder;" } : Jvm.MethodName) jdk_68_method_27_code (5 : Nat) (Option.some (Jvm.ClassFile.FieldType.object "java/lang/AbstractStringBuilder")), Jvm.Cond.code ({ cls := "java/lang/String", name := "length", desc := "()I" } : Jvm.MethodName) jdk_42_method_54_code (1 : Nat) (Option.some Jvm.ClassFile.FieldType.int), Jvm.Cond.code ({ cls := "java/lang/String", name := "coder", desc := "()B" } : Jvm.MethodName) jdk_42_method_152_code (1 : Nat) (Option.some Jvm.ClassFile.FieldType.byte), Jvm.Cond.code ({ cls := "jdk/internal/util/Preconditions", name := "checkFromToIndex", desc := "(IIILjava/util/function/BiFunction;)I" } : Jvm.MethodName) jdk_41_method_12_code (4 : Nat) (Option.some Jvm.ClassFile.FieldType.int), Jvm.Cond.code ({ cls := "java/lang/AbstractStringBuilder", name := "appendChars", desc := "(Ljava/lang/String;II)V" } : Jvm.MethodName) jdk_68_method_75_code (8 : Nat) (Option.none : Option Jvm.ClassFile.FieldType), Jvm.Cond.code ({ cls := "java/lang/String", name := "value", desc := "()[B" } : Jvm.MethodName) jdk_42_method_153_code (1 : Nat) (Option.some (Jvm.ClassFile.FieldType.array Jvm.ClassFile.FieldType.byte)), Jvm.Cond.code ({ cls := "com/example/keyclasp/keyclasp/protocol/ActivationCodeIsValidPinLaw", name := "copy22", desc := "(Ljava/lang/String;[C)V" } : Jvm.MethodName) method_3_code (2 : Nat) (Option.none : Option Jvm.ClassFile.FieldType), Jvm.Cond.code ({ cls := "com/example/keyclasp/keyclasp/protocol/ActivationCode", name := "isValid", desc := "(Ljava/lang/String;)Z" } : Jvm.MethodName) prog_9_method_4_code (8 : Nat) (Option.some Jvm.ClassFile.FieldType.boolean), Jvm.Cond.code ({ cls := "java/lang/String", name := "indexOf", desc := "(I)I" } : Jvm.MethodName) jdk_42_method_79_code (2 : Nat) (Option.some Jvm.ClassFile.FieldType.int), Jvm.Cond.code ({ cls := "java/lang/String", name := "indexOf", desc := "(II)I" } : Jvm.MethodName) jdk_42_method_80_code (3 : Nat) (Option.some Jvm.ClassFile.FieldType.int), Jvm.Cond.code ({ cls := "java/lang/StringLatin1", name := "indexOf", desc := "([BIII)I" } : Jvm.MethodName) jdk_43_method_22_code (4 : Nat) (Option.some Jvm.ClassFile.FieldType.int), Jvm.Cond.code ({ cls := "java/lang/StringLatin1", name := "canEncode", desc := "(I)Z" } : Jvm.MethodName) jdk_43_method_4_code (1 : Nat) (Option.some Jvm.ClassFile.FieldType.boolean), Jvm.Cond.code ({ cls := "java/lang/StringLatin1", name := "indexOfChar", desc := "([BIII)I" } : Jvm.MethodName) jdk_43_method_23_code (6 : Nat) (Option.some Jvm.ClassFile.FieldType.int), Jvm.Cond.code ({ cls := "java/lang/String", name := "<init>", desc := "([C)V" } : Jvm.MethodName) jdk_42_method_3_code (2 : Nat) (Option.none : Option Jvm.ClassFile.FieldType), Jvm.Cond.code ({ cls := "java/lang/String", name := "<init>", desc := "([CIILjava/lang/Void;)V" } : Jvm.MethodName) jdk_42_method_149_code (6 : Nat) (Option.none : Option Jvm.ClassFile.FieldType), Jvm.Cond.code ({ cls := "java/lang/StringUTF16", name := "compress", desc := "([CII)[B" } : Jvm.MethodName) jdk_52_method_16_code (6 : Nat) (Option.some (Jvm.ClassFile.FieldType.array Jvm.ClassFile.FieldType.byte)), Jvm.Cond.code ({ cls := "java/lang/StringUTF16", name := "compress", desc := "([CI[BII)I" } : Jvm.MethodName) jdk_52_method_21_code (7 : Nat) (Option.some Jvm.ClassFile.FieldType.int), Jvm.Cond.code ({ cls := "java/lang/StringUTF16", name := "coderFromArrayLen", desc := "([BI)B" } : Jvm.MethodName) jdk_52_method_15_code (2 : Nat) (Option.some Jvm.ClassFile.FieldType.byte)]
set_option maxRecDepth 65536 in
theorem codes_eq : words1.filter isCode = codes1 := rfl
theorem w_codes : ∀ c ∈ words1.filter isCode, c.before args0 about1 = true := by
  rw [codes_eq]
  intro c hc
  simp only [codes1, List.mem_cons, List.not_mem_nil, or_false] at hc
  rcases hc with rfl | rfl | rfl | rfl | rfl | rfl | rfl | rfl | rfl | rfl | rfl | rfl | rfl | rfl | rfl | rfl | rfl | rfl | rfl | rfl | rfl | rfl | rfl | rfl | rfl | rfl | rfl | rfl | rfl | rfl | rfl | rfl | rfl | rfl | rfl | rfl | rfl | rfl | rfl | rfl | rfl | rfl | rfl | rfl | rfl | rfl | rfl | rfl | rfl | rfl | rfl
  · exact w_c0
  · exact w_c1
  · exact w_c2
  · exact w_c3
  · exact w_c4
  · exact w_c5
  · exact w_c6
  · exact w_c7
  · exact w_c8
  · exact w_c9
  · exact w_c10
  · exact w_c11
  · exact w_c12
  · exact w_c13
  · exact w_c14
  · exact w_c15
  · exact w_c16
  · exact w_c17
  · exact w_c18
  · exact w_c19
  · exact w_c20
  · exact w_c21
  · exact w_c22
  · exact w_c23
  · exact w_c24
  · exact w_c25
  · exact w_c26
  · exact w_c27
  · exact w_c28
  · exact w_c29
  · exact w_c30
  · exact w_c31
  · exact w_c32
  · exact w_c33
  · exact w_c34
  · exact w_c35
  · exact w_c36
  · exact w_c37
  · exact w_c38
  · exact w_c39
  · exact w_c40
  · exact w_c41
  · exact w_c42
  · exact w_c43
  · exact w_c44
  · exact w_c45
  · exact w_c46
  · exact w_c47
  · exact w_c48
  · exact w_c49
  · exact w_c50
set_option maxRecDepth 65536 in
theorem w_t1 : (words1.take 24).all (fun c => isCode c || c.before args0 about1) = true := by decide +kernel
set_option maxRecDepth 65536 in
theorem w_t2 : ((words1.drop 24).take 24).all (fun c => isCode c || c.before args0 about1) = true := by decide +kernel
set_option maxRecDepth 65536 in
theorem w_t3 : (((words1.drop 24).drop 24).take 24).all (fun c => isCode c || c.before args0 about1) = true := by decide +kernel
set_option maxRecDepth 65536 in
theorem w_t4 : ((((words1.drop 24).drop 24).drop 24).take 24).all (fun c => isCode c || c.before args0 about1) = true := by decide +kernel
set_option maxRecDepth 65536 in
theorem w_t5 : (((((words1.drop 24).drop 24).drop 24).drop 24).take 24).all (fun c => isCode c || c.before args0 about1) = true := by decide +kernel
set_option maxRecDepth 65536 in
theorem w_t6 : ((((((words1.drop 24).drop 24).drop 24).drop 24).drop 24).take 24).all (fun c => isCode c || c.before args0 about1) = true := by decide +kernel
set_option maxRecDepth 65536 in
theorem w_t7 : (((((((words1.drop 24).drop 24).drop 24).drop 24).drop 24).drop 24).take 24).all (fun c => isCode c || c.before args0 about1) = true := by decide +kernel
set_option maxRecDepth 65536 in
theorem w_t8 : ((((((((words1.drop 24).drop 24).drop 24).drop 24).drop 24).drop 24).drop 24).take 24).all (fun c => isCode c || c.before args0 about1) = true := by decide +kernel
set_option maxRecDepth 65536 in
theorem w_t9 : (((((((((words1.drop 24).drop 24).drop 24).drop 24).drop 24).drop 24).drop 24).drop 24).take 24).all (fun c => isCode c || c.before args0 about1) = true := by decide +kernel
set_option maxRecDepth 65536 in
theorem w_t10 : ((((((((((words1.drop 24).drop 24).drop 24).drop 24).drop 24).drop 24).drop 24).drop 24).drop 24).take 24).all (fun c => isCode c || c.before args0 about1) = true := by decide +kernel
set_option maxRecDepth 65536 in
theorem w_t11 : ((((((((((words1.drop 24).drop 24).drop 24).drop 24).drop 24).drop 24).drop 24).drop 24).drop 24).drop 24).all (fun c => isCode c || c.before args0 about1) = true := by decide +kernel
theorem w_tables : (allAtoms (Jvm.Cond.code x code maxLocals ret :: tables_1)).before args0 about1 = true := by
  rw [allAtoms_all]
  show words1.all (fun c => c.before args0 about1) = true
  refine all_split ?_ w_codes
  rw [← List.take_append_drop 24 words1, List.all_append, w_t1, ← List.take_append_drop 24 (words1.drop 24), List.all_append, w_t2, ← List.take_append_drop 24 ((words1.drop 24).drop 24), List.all_append, w_t3, ← List.take_append_drop 24 (((words1.drop 24).drop 24).drop 24), List.all_append, w_t4, ← List.take_append_drop 24 ((((words1.drop 24).drop 24).drop 24).drop 24), List.all_append, w_t5, ← List.take_append_drop 24 (((((words1.drop 24).drop 24).drop 24).drop 24).drop 24), List.all_append, w_t6, ← List.take_append_drop 24 ((((((words1.drop 24).drop 24).drop 24).drop 24).drop 24).drop 24), List.all_append, w_t7, ← List.take_append_drop 24 (((((((words1.drop 24).drop 24).drop 24).drop 24).drop 24).drop 24).drop 24), List.all_append, w_t8, ← List.take_append_drop 24 ((((((((words1.drop 24).drop 24).drop 24).drop 24).drop 24).drop 24).drop 24).drop 24), List.all_append, w_t9, ← List.take_append_drop 24 (((((((((words1.drop 24).drop 24).drop 24).drop 24).drop 24).drop 24).drop 24).drop 24).drop 24), List.all_append, w_t10, w_t11]
  rfl
set_option maxRecDepth 65536 in
theorem w_rest : rest_1_c.before args0 about1 = true := by decide +kernel
set_option maxRecDepth 65536 in
theorem w_case : (Jvm.Cond.and given_1 narrow_1).before args0 about1 = true := by decide +kernel
set_option maxRecDepth 65536 in
theorem w_consts : constsHeld consts_1 about1 := Jvm.Lit.constsHeldB_iff.mp (by decide +kernel)
theorem w_applies : (headSpec (Jvm.Cond.code x code maxLocals ret :: tables_1) room_1).applies x e0.platform about1 = true :=
  (Spec.applies_iff w_frames).mpr ⟨w_running, w_runnable, w_alone, w_named, w_hears, w_ripe, w_room, w_tables⟩
theorem atStart : AtStart classFile x code maxLocals ret World_1 tables_1 room_1 Calls_1 rest_1 Pre_1 launch0 p0 e0 about1 theMethod args0 below0 :=
  ⟨lists_1, trivial, launch0.admits_env _ _ _, launch0.least_env, fairChoices_fair.cas, fairChoices_fair.clock, w_frames, w_args, w_heap, w_applies, ⟨w_consts, trivial⟩, w_rest, w_case⟩
end start1
theorem witness_1 : WitnessClaimed_1 := ⟨start1.p0, start1.e0, start1.about1, start1.theMethod, start1.args0, start1.below0, start1.atStart⟩
end Jvm.Pilot.@@N@@
