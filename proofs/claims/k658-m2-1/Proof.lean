import JvmDerived
import JvmDerived.Pilot.@@N@@Statement
import JvmDerived.Pilot.@@N@@Code
set_option linter.unusedVariables false
set_option linter.unusedSimpArgs false
namespace Jvm.RoadKit
open Sem ClassFile Op Lib Jvm.Stand Jvm.Free Jvm.LawKit
section New
variable {p : Program} {l : Launch} {e : Env} {R : Room} {s : State} {m : MethodId} {args : Array Value} {below : List Frame} {meth : Method} {c : Code} {T : State} {locs : List Loc} {cells slots : Nat}
theorem retI (X : Stand p l e R s m args below meth c T locs cells slots) (hx : p.tables.exec = Jvm.exec) {pc : Nat} {Ls : Array Slot} {z : Int32} {rest : List Value} (hret : meth.sig.returnType = some .int) (hd : decode c.code pc = .ok (.ireturn, 1)) {fs : List Frame}
    (hl : ∀ (f : JFrame) (acts : List Action), f.method = m → f.locked = none → f.entered = [] → (doReturn e (T.setTop f) acts (some (.int z))).1 = T.setFrames fs) : Steps p.tables e below (T.setTop (mkF m pc Ls (.int z :: rest))) (T.setFrames fs) := by
  have hm' : T.vm.method? m = some meth := X.method'
  have hn : narrow .int (.int z) = .int z := rfl
  show Steps p.tables e below (T.setTop { method := m, pc := pc, locals := Ls, stack := _ :: rest, locked := none }) _
  jvm_step X.here [X.here.top, hx, hd, hm', hret, hn]
  first | (intro acts; rw [hl _ acts rfl rfl rfl]) | rw [hl _ _ rfl rfl rfl]
  exact Steps.refl _
end New
end Jvm.RoadKit
namespace Jvm.Pilot.@@N@@
open Jvm Jvm.ClassFile Sem Op Lib Jvm.Free Jvm.Stand Jvm.LawKit Jvm.RoadKit Bundle Jvm.Pilot.@@N@@.Jvm.D
/-- a body's contract, by a walk forwards: G U says that the run from U comes to an end that the contract allows -/
theorem own_body {l : Launch} {Z : State} {y : MethodName} {bytes : ByteArray} {maxL : Nat} {ret : Option FieldType} {ws : List Jvm.Cond} {rm : Room} {as' : Array Value} {h0 : Heap} {Q : Option Value → Heap → List Loc → Prop} (hpl : plainFor y = true)
    (body : ∀ (p : Program) (e : Env) (s : State) (m : MethodId) (below : List Frame) (meth : Method) (c : Code) (s₁ : State) (G : State → Prop),
      p.tables.exec = Jvm.exec → c.code = bytes → c.maxLocals = maxL → Z.Warmed39 s.vm → s.vm.findClass y.cls = some m.cls → meth.name = y.name → meth.sig.returnType = ret →
      Stand p l e rm s m as' below meth c s₁ [] 0 0 → s₁.heap = h0 →
      (∀ (U' : State) {U : State}, (∀ t, Steps p.tables e below U' t → Steps p.tables e below U t) → G U' → G U) →
      (∀ {U T : State} {locs : List Loc} {cells slots : Nat} {v : Option Value}, Stand p l e rm s m as' below meth c T locs cells slots → (ret = none → v = none) → Q v T.heap locs → cells ≤ rm.cells → slots ≤ rm.slots →
        (∀ fs, (∀ (f : JFrame) (acts : List Action), f.method = m → f.locked = none → f.entered = [] → (doReturn e (T.setTop f) acts v).1 = T.setFrames fs) → Steps p.tables e below U (T.setFrames fs)) → G U) →
      G (s₁.setTop (entryFrame m as' maxL))) :
    MetFree l y (head1 (Jvm.Cond.code y bytes maxL ret :: ws) rm) (fun a U => a = as' ∧ Z.Warmed39 U.vm ∧ U.heap = h0) (fun _ _ _ _ _ => True) (fun _ U o U' => ∃ v L, o = .returned v ∧ Q v U'.heap L ∧ FrameEnd U o U' L rm.cells rm.slots) := by
  refine MetFree.of_bodySF hpl hisR ?_
  intro p e s m args below meth c s₁ Bd hml0 hP hK
  obtain ⟨rfl, hZ, hh⟩ := hP
  have hnm := (name_of_methodNamed Bd.named Bd.method).1
  exact body p e s m below meth c s₁ (fun U => ∃ s₂ o, Steps p.tables e below U s₂ ∧ s₂.status = .running ∧ Ended s₂ below o ∧ ∃ v L, o = .returned v ∧ Q v s₂.heap L ∧ FrameEnd s o s₂ L rm.cells rm.slots)
    Bd.exec Bd.bytes hml0 hZ (findClass_of_methodNamed Bd.named) hnm Bd.returns (Stand.of_body Bd) (by rw [← hh, Bd.state]; rfl)
    (fun U' U h k => by obtain ⟨s₂, o, h1, h2⟩ := k; exact ⟨s₂, o, h _ h1, h2⟩)
    (fun {U T locs cells slots v} X hv hQ hc hs hst => by
      obtain ⟨fs, hr, hrun, hended, hW, hsame⟩ := X.leave (v := v) (fun h => hv (by rw [← Bd.returns]; exact h))
      exact ⟨_, _, hst fs hr, hrun, hended, v, locs, rfl, hQ, ⟨_, rfl⟩, hW, hsame.mono hc hs⟩)
/-- the same, of a body that may intern String constants on its way -/
theorem own_bodyW {l : Launch} {Z : State} {y : MethodName} {bytes : ByteArray} {maxL : Nat} {ret : Option FieldType} {ws : List Jvm.Cond} {rm : Room} {as' : Array Value} {h0 : Heap} {Q : Option Value → Heap → List Loc → Prop} (hpl : plainFor y = true)
    (body : ∀ (p : Program) (e : Env) (s : State) (m : MethodId) (below : List Frame) (meth : Method) (c : Code) (s₁ : State) (G : State → Prop) (vm0 : Vm) (k0 : Nat),
      p.tables.exec = Jvm.exec → c.code = bytes → c.maxLocals = maxL → Z.Warmed39 vm0 → vm0.findClass y.cls = some m.cls → meth.name = y.name → meth.sig.returnType = ret → s.Since vm0 k0 → k0 ≤ h0.size →
      Stand p l e rm (s.setVm vm0) m as' below meth c s₁ [] 0 0 → s₁.heap = h0 →
      (∀ (U' : State) {U : State}, (∀ t, Steps p.tables e below U' t → Steps p.tables e below U t) → G U' → G U) →
      (∀ {U T : State} {locs : List Loc} {cells slots : Nat} {v : Option Value} {vm1 : Vm} {k1 : Nat}, Stand p l e rm (s.setVm vm1) m as' below meth c T locs cells slots → s.Since vm1 k1 → k1 ≤ T.heap.size → (ret = none → v = none) → Q v T.heap locs → cells ≤ rm.cells → slots ≤ rm.slots →
        (∀ fs, (∀ (f : JFrame) (acts : List Action), f.method = m → f.locked = none → f.entered = [] → (doReturn e (T.setTop f) acts v).1 = T.setFrames fs) → Steps p.tables e below U (T.setFrames fs)) → G U) →
      G (s₁.setTop (entryFrame m as' maxL))) :
    MetFree l y (head1 (Jvm.Cond.code y bytes maxL ret :: ws) rm) (fun a U => a = as' ∧ Z.Warmed39 U.vm ∧ U.heap = h0) (fun _ _ _ _ _ => True) (fun _ U o U' => ∃ v L, o = .returned v ∧ Q v U'.heap L ∧ ReturnedEndW U o U' L rm.cells rm.slots) := by
  refine MetFree.of_bodySF hpl hisR ?_
  intro p e s m args below meth c s₁ Bd hml0 hP hK
  obtain ⟨rfl, hZ, hh⟩ := hP
  have hnm := (name_of_methodNamed Bd.named Bd.method).1
  have X0 := Stand.of_body Bd
  exact body p e s m below meth c s₁ (fun U => ∃ s₂ o, Steps p.tables e below U s₂ ∧ s₂.status = .running ∧ Ended s₂ below o ∧ ∃ v L, o = .returned v ∧ Q v s₂.heap L ∧ ReturnedEndW s o s₂ L rm.cells rm.slots)
    s.vm h0.size Bd.exec Bd.bytes hml0 hZ (findClass_of_methodNamed Bd.named) hnm Bd.returns ((State.WarmedH.refl s).since _) (Nat.le_refl _) X0 (by rw [← hh, Bd.state]; rfl)
    (fun U' U h k => by obtain ⟨s₂, o, h1, h2⟩ := k; exact ⟨s₂, o, h _ h1, h2⟩)
    (fun {U T locs cells slots v vm1 k1} X hS hk hv hQ hc hs hst => by
      obtain ⟨fs, hr, hrun, hended, hE⟩ := X.leaveW hS hk (v := v) (fun h => hv (by rw [← Bd.returns]; exact h))
      exact ⟨_, _, hst fs hr, hrun, hended, v, locs, rfl, hQ, hE.1, hE.2.1, hE.2.2.1, hE.2.2.2.mono hc hs⟩)
theorem own_fin {z : Int32} (h : z = 1) : some (Value.int (nar .boolean z)) = some (.int 1) := by subst h; rfl
theorem own_and3 (p : Int32) : p &&& 3 = 0 ∨ p &&& 3 = 1 ∨ p &&& 3 = 2 ∨ p &&& 3 = 3 := by
  have h := c_mask p 3 2 (by decide) (by decide)
  have h4 : (p &&& 3).toInt = 0 ∨ (p &&& 3).toInt = 1 ∨ (p &&& 3).toInt = 2 ∨ (p &&& 3).toInt = 3 := by omega
  rcases h4 with h | h | h | h
  · exact Or.inl (Int32.toInt_inj.mp h)
  · exact Or.inr (Or.inl (Int32.toInt_inj.mp h))
  · exact Or.inr (Or.inr (Or.inl (Int32.toInt_inj.mp h)))
  · exact Or.inr (Or.inr (Or.inr (Int32.toInt_inj.mp h)))
theorem own_eqi {args : Array Value} {s : State} {t : Term} {n : Int32} (h : (Jvm.Cond.eq t (.int n)).value args s none s [] = some true) : t.eval args s none [] s = some (.int n) := by
  simp only [Cond.value, Term.eval] at h
  cases ht : t.eval args s none [] s with
  | none => simp [ht] at h
  | some x => cases x <;> simp [ht] at h ⊢; exact h
theorem own_irr {x : Int32} : ¬ (x < x) := by rw [Int32.lt_iff_toInt_lt]; omega
theorem own_selP {args : Array Value} {s : State} {y : MethodName} {k : Nat} (hinst : (Jvm.Cond.instanceMethod y).before args s = true) (hi : (Jvm.Cond.instantiable y.cls k).before args s = true) (hp : s.PrivateAt y) (hy : y.cls ≠ "java/lang/invoke/MethodHandle" ∧ y.cls ≠ "java/lang/invoke/VarHandle") : (Jvm.Cond.selects y.cls y y).before args s = true := by
  obtain ⟨m, meth, hn, hm, -, -⟩ := Cond.instanceMethod_spec hinst
  obtain ⟨c, kk, h1, h2, -, h4, -⟩ := Cond.instantiable_spec hi
  have hf := State.methodFound?_of_named hn hy
  have hc := findClass_of_methodNamed hn
  cases h1.symm.trans hc
  have hs := selectMethod_private (p := {}) (c := m.cls) hm (hp m meth hn hm)
  have h5 : kk.isInterface = false := by simp only [Bool.or_eq_false_iff] at h4; exact h4.1
  simp [Cond.before, Cond.holds, Cond.value, hc, hf, hn, hs, h2, h5]
theorem own_add0 (x : Int32) : x = (x + (0 : Int32)) := (Int32.add_zero x).symm
theorem own_nn (x y : Int32) (h : (x &&& (2147483647 : Int32)) = y) : ¬ (y < (0 : Int32)) := by
  subst h
  have h := c_mask x 2147483647 31 (by decide) (by decide)
  rw [Int32.lt_iff_toInt_lt]
  have e : (0 : Int32).toInt = 0 := by decide
  omega
theorem own_255 (x y : Int32) (h : ((x &&& (255 : Int32)).toUInt32.toUInt16.toUInt32.toInt32) = y) : ¬ ((255 : Int32) < y) := by
  subst h
  have h := c_mask x 255 8 (by decide) (by decide)
  have h2 := c_i2c (x &&& 255)
  rw [Int32.lt_iff_toInt_lt]
  have e : (255 : Int32).toInt = 255 := by decide
  omega
theorem own_exaP {Z : State} {h : Heap} {a : Addr} {C : String} (F : Exa Z h a C) : ∀ cell : Cell, h[a]? = some cell → cell.vm.isStatics = false := fun cell q => by
  obtain ⟨c', _, h1, -, -, h4, -⟩ := F
  cases h1.symm.trans q
  exact h4
theorem own_arvP {Z : State} {h : Heap} {a : Addr} {k : ClassId} {ty : FieldType} {z : Int32} {vs : List Value} {dv : Value} (F : Arv Z h a k ty z vs dv) : ∀ cell : Cell, h[a]? = some cell → cell.vm.isStatics = false := fun cell q => by
  obtain ⟨c', A, -⟩ := F
  cases A.1.symm.trans q
  exact A.plain
theorem own_staK {Z : State} {h h' : Heap} {ws : List Addr} {C n d : String} {v : Value} (F : Sta Z h C n d v) (K : Keep h h' ws) (q : ∀ x ∈ ws, ∀ cell : Cell, h[x]? = some cell → cell.vm.isStatics = false) : Sta Z h' C n d v := by
  obtain ⟨cf, i, k, f, st, cell, h1, h2, h3, h4, h5, h6, h7⟩ := F
  exact ⟨cf, i, k, f, st, cell, h1, h2, h3, h4, K.2.1 st cell h5 (fun hm => by rw [q st hm cell h5] at h6; cases h6), h6, h7⟩
theorem own_arr0 {args : Array Value} {s : State} {t : Term} {a : Addr} {ty : FieldType} {dv : Value} (hf : Fit s) (ev : t.eval args s none [] s = some (.ref a)) (hA : (Jvm.Cond.arrayOf t ty).value args s none s [] = some true) (hl : (Jvm.Cond.eq (.length t) (.int 0)).value args s none s [] = some true) : ∃ k, Arv s s.heap a k ty 0 [] dv := by
  obtain ⟨c, A⟩ := Arr.start ev hA
  have h0 := own_eqi hl
  obtain ⟨a', cell, e1, e2, e3⟩ := Term.length_spec h0
  cases ev.symm.trans e1
  have e4 : s.arrayAt? a = some c := Arr.fin (U := s) (Vm.Alike.refl _) A
  cases e4.symm.trans e2
  have hq : c.slots.size < 2 ^ 31 := by
    by_cases q : c.slots.size < 2 ^ 31
    · exact q
    · simp [Term.eval, ev, e4, q] at h0
  have e5 : c.slots.size.toInt32 = 0 := by injection e3 with e; exact e.symm
  exact ⟨_, Arv.start hf A hq e5 (by decide) rfl trivial⟩
theorem own_255n (x y : Int32) (h : ((x &&& (255 : Int32)).toUInt32.toUInt16.toUInt32.toInt32) = y) : ¬ ((255 : Int32) < (nar .char y)) := by
  have h1 := own_255 x y h
  have h0 := (c_i2c (x &&& 255)).2.1
  rw [h] at h0
  have h2 : (nar .char y).toInt = (y.toUInt32.toUInt16.toUInt32.toInt32).toInt := rfl
  have h3 := c_i2c y
  rw [Int32.lt_iff_toInt_lt] at *
  have e : (255 : Int32).toInt = 255 := by decide
  omega
theorem own_tri (a b : Int64) : (a < b ∧ ¬ a = b ∧ ¬ b = a ∧ ¬ b < a) ∨ (¬ a < b ∧ a = b ∧ b = a ∧ ¬ b < a) ∨ (¬ a < b ∧ ¬ a = b ∧ ¬ b = a ∧ b < a) := by
  simp only [Int64.lt_iff_toInt_lt, ← Int64.toInt_inj]
  omega
theorem own_81 {x : Int32} (h : x < 81) : ¬ ((80 : Int32) < x) := by
  rw [Int32.lt_iff_toInt_lt] at *
  have e1 : (81 : Int32).toInt = 81 := by decide
  have e2 : (80 : Int32).toInt = 80 := by decide
  omega
theorem own_81' {x : Int32} (h : ¬ x < 81) : (80 : Int32) < x := by
  rw [Int32.lt_iff_toInt_lt] at *
  have e1 : (81 : Int32).toInt = 81 := by decide
  have e2 : (80 : Int32).toInt = 80 := by decide
  omega
theorem pn_0 : plainName "com/example/viewsmith/viewsmith/workload/ShapeViewExposedPinLaw" = true := by first | (simp [plainName, overriddenIn]; done) | decide +kernel
theorem pd_0 : parseMethodDescriptor "(I)I" = some ⟨[.int], some .int⟩ := by decide +kernel
theorem d1_0 : decode prog_60_method_6_code 0 = .ok (.iload_n 1, 1) := by decide +kernel
theorem d1_1 : decode prog_60_method_6_code 1 = .ok (.bipush 80, 2) := by decide +kernel
theorem d1_3 : decode prog_60_method_6_code 3 = .ok (.if_icmp .gt 10, 3) := by decide +kernel
theorem d1_6 : decode prog_60_method_6_code 6 = .ok (.aload_n 0, 1) := by decide +kernel
theorem d1_7 : decode prog_60_method_6_code 7 = .ok (.getfield 36, 3) := by decide +kernel
theorem d1_10 : decode prog_60_method_6_code 10 = .ok (.goto 7, 3) := by decide +kernel
theorem d1_13 : decode prog_60_method_6_code 13 = .ok (.aload_n 0, 1) := by decide +kernel
theorem d1_14 : decode prog_60_method_6_code 14 = .ok (.getfield 39, 3) := by decide +kernel
theorem d1_17 : decode prog_60_method_6_code 17 = .ok (.ireturn, 1) := by decide +kernel
theorem pn_1 : plainName "com/example/viewsmith/viewsmith/workload/Shape" = true := by first | (simp [plainName, overriddenIn]; done) | decide +kernel
theorem ef_1_1 (m : MethodId) (x0 : Addr) (x1 : Int32) : entryFrame m #[(.ref x0), (.int x1)] 2 = mkF m 0 #[.val (.ref x0), .val (.int x1)] [] := by first | (simp [entryFrame, mkF, argsToLocals, Value.category]; done) | rfl
def Q1_1 (Z : State) (o1 : Addr) (i1 : Int32) (h0 : Heap) (n0 : Nat) (v : Option Value) (h : Heap) (L : List Loc) : Prop := v = some (.int (10 : Int32)) ∧ Fr n0 L ∧ h = h0
set_option maxRecDepth 65536 in
set_option maxHeartbeats 40000000 in
theorem rm1_1 (l : Launch) (Z : State) (a0 : Array Value) (hw : ∀ d ∈ tables_1, d.before a0 Z = true) (ws : List Jvm.Cond) (o1 : Addr) (i1 : Int32) (h0 : Heap) (n0 : Nat) (Z0 : n0 ≤ h0.size) (A0 : Exa Z h0 o1 "com/example/viewsmith/viewsmith/workload/Shape$1") (A1 : Fld Z h0 o1 "com/example/viewsmith/viewsmith/workload/Shape" "laterViewExposed" "I" (.int (3 : Int32))) (A2 : Fld Z h0 o1 "com/example/viewsmith/viewsmith/workload/Shape" "wideViewExposed" "I" (.int (10 : Int32))) (hy3 : i1 < (81 : Int32)) (hbnd : ¬ ((80 : Int32) < i1))  :
    MetFree l (⟨"com/example/viewsmith/viewsmith/workload/Shape", "viewExposed", "(I)I"⟩ : MethodName) (head1 (Jvm.Cond.code (⟨"com/example/viewsmith/viewsmith/workload/Shape", "viewExposed", "(I)I"⟩ : MethodName) prog_60_method_6_code 2 (some .int) :: ws) ({ frames := 0, cells := 0, slots := 0, locals := 0 } : Room)) (fun a U => a = #[(.ref o1), (.int i1)] ∧ Z.Warmed39 U.vm ∧ U.heap = h0) (fun _ _ _ _ _ => True) (fun _ U o U' => ∃ v L, o = .returned v ∧ Q1_1 Z o1 i1 h0 n0 v U'.heap L ∧ FrameEnd U o U' L ({ frames := 0, cells := 0, slots := 0, locals := 0 } : Room).cells ({ frames := 0, cells := 0, slots := 0, locals := 0 } : Room).slots) := by
  refine own_body (plainFor_of_name pn_1) ?_
  intro p e s m below meth c s₁ G hx hby hml hZ hown hnm hret X0 e0 step fin
  replace hown : s.vm.findClass "com/example/viewsmith/viewsmith/workload/Shape" = some m.cls := hown
  replace hnm : meth.name = "viewExposed" := hnm
  replace hret : meth.sig.returnType = some .int := hret
  replace hml : c.maxLocals = 2 := hml
  have N0 := Fr.nil n0
  refine step (s₁.setTop (mkF m 0 #[.val (.ref o1), .val (.int i1)] [])) (fun t k => castTop (ef_1_1 m o1 i1) k) ?_
  refine step (s₁.setTop (mkF m 1 #[.val (.ref o1), .val (.int i1)] [(.int i1)])) (fun t k => XS.iloadN X0.here hx rfl (hb hby d1_0) rfl k) ?_
  refine step (s₁.setTop (mkF m 3 #[.val (.ref o1), .val (.int i1)] [(.int (80 : Int32)), (.int i1)])) (fun t k => XS.bipush X0.here hx rfl (hb hby d1_1) k) ?_
  have hc3_1 : ¬ ((80 : Int32) < i1) := hbnd
  refine step (s₁.setTop (mkF m 6 #[.val (.ref o1), .val (.int i1)] [])) (fun t k => XS.icmpNo X0.here hx rfl (hb hby d1_3) rfl (flt hc3_1).2.2.1 k) ?_
  refine step (s₁.setTop (mkF m 7 #[.val (.ref o1), .val (.int i1)] [(.ref o1)])) (fun t k => XS.aloadN X0.here hx rfl (hb hby d1_6) rfl rfl k) ?_
  obtain ⟨T2, X2, e2, st2⟩ := getF X0 hx hZ hown (host := "") (Or.inl (hw _ (List.mem_of_getElem? (i := 8) rfl))) Via.refl e0 A2 (g := (mkF m 7 #[.val (.ref o1), .val (.int i1)] [(.ref o1)])) rfl rfl (hb hby d1_7)
  refine step (T2.setTop (mkF m 10 #[.val (.ref o1), .val (.int i1)] [(.int (10 : Int32))])) (fun t k => st2 t k) ?_
  refine step (T2.setTop (mkF m 17 #[.val (.ref o1), .val (.int i1)] [(.int (10 : Int32))])) (fun t k => XS.goto X2.here hx rfl (pc0 := 10) (pc' := 17) rfl (hb hby d1_10) (by decide) (by decide) k) ?_
  refine fin (v := some (.int (10 : Int32))) X2 (fun h => by cases h) ?_ (by decide) (by decide) (fun fs hr => retI X2 hx hret (hb hby d1_17) hr)
  show Q1_1 Z o1 i1 h0 n0 (some (.int (10 : Int32))) T2.heap _
  rw [e2]
  exact ⟨rfl, N0, rfl⟩
theorem ef_1_2 (m : MethodId) (x0 : Addr) : entryFrame m #[(.ref x0), (.int (80 : Int32))] 2 = mkF m 0 #[.val (.ref x0), .val (.int (80 : Int32))] [] := by first | (simp [entryFrame, mkF, argsToLocals, Value.category]; done) | rfl
def Q1_2 (Z : State) (o1 : Addr) (h0 : Heap) (n0 : Nat) (v : Option Value) (h : Heap) (L : List Loc) : Prop := v = some (.int (10 : Int32)) ∧ Fr n0 L ∧ h = h0
set_option maxRecDepth 65536 in
set_option maxHeartbeats 40000000 in
theorem rm1_2 (l : Launch) (Z : State) (a0 : Array Value) (hw : ∀ d ∈ tables_1, d.before a0 Z = true) (ws : List Jvm.Cond) (o1 : Addr) (h0 : Heap) (n0 : Nat) (Z0 : n0 ≤ h0.size) (A0 : Exa Z h0 o1 "com/example/viewsmith/viewsmith/workload/Shape$1") (A1 : Fld Z h0 o1 "com/example/viewsmith/viewsmith/workload/Shape" "laterViewExposed" "I" (.int (3 : Int32))) (A2 : Fld Z h0 o1 "com/example/viewsmith/viewsmith/workload/Shape" "wideViewExposed" "I" (.int (10 : Int32)))  :
    MetFree l (⟨"com/example/viewsmith/viewsmith/workload/Shape", "viewExposed", "(I)I"⟩ : MethodName) (head1 (Jvm.Cond.code (⟨"com/example/viewsmith/viewsmith/workload/Shape", "viewExposed", "(I)I"⟩ : MethodName) prog_60_method_6_code 2 (some .int) :: ws) ({ frames := 0, cells := 0, slots := 0, locals := 0 } : Room)) (fun a U => a = #[(.ref o1), (.int (80 : Int32))] ∧ Z.Warmed39 U.vm ∧ U.heap = h0) (fun _ _ _ _ _ => True) (fun _ U o U' => ∃ v L, o = .returned v ∧ Q1_2 Z o1 h0 n0 v U'.heap L ∧ FrameEnd U o U' L ({ frames := 0, cells := 0, slots := 0, locals := 0 } : Room).cells ({ frames := 0, cells := 0, slots := 0, locals := 0 } : Room).slots) := by
  refine own_body (plainFor_of_name pn_1) ?_
  intro p e s m below meth c s₁ G hx hby hml hZ hown hnm hret X0 e0 step fin
  replace hown : s.vm.findClass "com/example/viewsmith/viewsmith/workload/Shape" = some m.cls := hown
  replace hnm : meth.name = "viewExposed" := hnm
  replace hret : meth.sig.returnType = some .int := hret
  replace hml : c.maxLocals = 2 := hml
  have N0 := Fr.nil n0
  refine step (s₁.setTop (mkF m 0 #[.val (.ref o1), .val (.int (80 : Int32))] [])) (fun t k => castTop (ef_1_2 m o1) k) ?_
  refine step (s₁.setTop (mkF m 1 #[.val (.ref o1), .val (.int (80 : Int32))] [(.int (80 : Int32))])) (fun t k => XS.iloadN X0.here hx rfl (hb hby d1_0) rfl k) ?_
  refine step (s₁.setTop (mkF m 3 #[.val (.ref o1), .val (.int (80 : Int32))] [(.int (80 : Int32)), (.int (80 : Int32))])) (fun t k => XS.bipush X0.here hx rfl (hb hby d1_1) k) ?_
  refine step (s₁.setTop (mkF m 6 #[.val (.ref o1), .val (.int (80 : Int32))] [])) (fun t k => XS.icmpNo X0.here hx rfl (hb hby d1_3) rfl (flt (by decide : ¬ ((80 : Int32) < (80 : Int32)))).2.2.1 k) ?_
  refine step (s₁.setTop (mkF m 7 #[.val (.ref o1), .val (.int (80 : Int32))] [(.ref o1)])) (fun t k => XS.aloadN X0.here hx rfl (hb hby d1_6) rfl rfl k) ?_
  obtain ⟨T1, X1, e1, st1⟩ := getF X0 hx hZ hown (host := "") (Or.inl (hw _ (List.mem_of_getElem? (i := 8) rfl))) Via.refl e0 A2 (g := (mkF m 7 #[.val (.ref o1), .val (.int (80 : Int32))] [(.ref o1)])) rfl rfl (hb hby d1_7)
  refine step (T1.setTop (mkF m 10 #[.val (.ref o1), .val (.int (80 : Int32))] [(.int (10 : Int32))])) (fun t k => st1 t k) ?_
  refine step (T1.setTop (mkF m 17 #[.val (.ref o1), .val (.int (80 : Int32))] [(.int (10 : Int32))])) (fun t k => XS.goto X1.here hx rfl (pc0 := 10) (pc' := 17) rfl (hb hby d1_10) (by decide) (by decide) k) ?_
  refine fin (v := some (.int (10 : Int32))) X1 (fun h => by cases h) ?_ (by decide) (by decide) (fun fs hr => retI X1 hx hret (hb hby d1_17) hr)
  show Q1_2 Z o1 h0 n0 (some (.int (10 : Int32))) T1.heap _
  rw [e1]
  exact ⟨rfl, N0, rfl⟩
theorem ef_1_3 (m : MethodId) (x0 : Addr) : entryFrame m #[(.ref x0), (.int (81 : Int32))] 2 = mkF m 0 #[.val (.ref x0), .val (.int (81 : Int32))] [] := by first | (simp [entryFrame, mkF, argsToLocals, Value.category]; done) | rfl
def Q1_3 (Z : State) (o1 : Addr) (h0 : Heap) (n0 : Nat) (v : Option Value) (h : Heap) (L : List Loc) : Prop := v = some (.int (3 : Int32)) ∧ Fr n0 L ∧ h = h0
set_option maxRecDepth 65536 in
set_option maxHeartbeats 40000000 in
theorem rm1_3 (l : Launch) (Z : State) (a0 : Array Value) (hw : ∀ d ∈ tables_1, d.before a0 Z = true) (ws : List Jvm.Cond) (o1 : Addr) (h0 : Heap) (n0 : Nat) (Z0 : n0 ≤ h0.size) (A0 : Exa Z h0 o1 "com/example/viewsmith/viewsmith/workload/Shape$1") (A1 : Fld Z h0 o1 "com/example/viewsmith/viewsmith/workload/Shape" "laterViewExposed" "I" (.int (3 : Int32))) (A2 : Fld Z h0 o1 "com/example/viewsmith/viewsmith/workload/Shape" "wideViewExposed" "I" (.int (10 : Int32)))  :
    MetFree l (⟨"com/example/viewsmith/viewsmith/workload/Shape", "viewExposed", "(I)I"⟩ : MethodName) (head1 (Jvm.Cond.code (⟨"com/example/viewsmith/viewsmith/workload/Shape", "viewExposed", "(I)I"⟩ : MethodName) prog_60_method_6_code 2 (some .int) :: ws) ({ frames := 0, cells := 0, slots := 0, locals := 0 } : Room)) (fun a U => a = #[(.ref o1), (.int (81 : Int32))] ∧ Z.Warmed39 U.vm ∧ U.heap = h0) (fun _ _ _ _ _ => True) (fun _ U o U' => ∃ v L, o = .returned v ∧ Q1_3 Z o1 h0 n0 v U'.heap L ∧ FrameEnd U o U' L ({ frames := 0, cells := 0, slots := 0, locals := 0 } : Room).cells ({ frames := 0, cells := 0, slots := 0, locals := 0 } : Room).slots) := by
  refine own_body (plainFor_of_name pn_1) ?_
  intro p e s m below meth c s₁ G hx hby hml hZ hown hnm hret X0 e0 step fin
  replace hown : s.vm.findClass "com/example/viewsmith/viewsmith/workload/Shape" = some m.cls := hown
  replace hnm : meth.name = "viewExposed" := hnm
  replace hret : meth.sig.returnType = some .int := hret
  replace hml : c.maxLocals = 2 := hml
  have N0 := Fr.nil n0
  refine step (s₁.setTop (mkF m 0 #[.val (.ref o1), .val (.int (81 : Int32))] [])) (fun t k => castTop (ef_1_3 m o1) k) ?_
  refine step (s₁.setTop (mkF m 1 #[.val (.ref o1), .val (.int (81 : Int32))] [(.int (81 : Int32))])) (fun t k => XS.iloadN X0.here hx rfl (hb hby d1_0) rfl k) ?_
  refine step (s₁.setTop (mkF m 3 #[.val (.ref o1), .val (.int (81 : Int32))] [(.int (80 : Int32)), (.int (81 : Int32))])) (fun t k => XS.bipush X0.here hx rfl (hb hby d1_1) k) ?_
  refine step (s₁.setTop (mkF m 13 #[.val (.ref o1), .val (.int (81 : Int32))] [])) (fun t k => XS.icmpYes X0.here hx rfl (pc0 := 3) (pc' := 13) rfl (hb hby d1_3) rfl (tlt (by decide : (80 : Int32) < (81 : Int32))).2.2.1 (by decide) (by decide) k) ?_
  refine step (s₁.setTop (mkF m 14 #[.val (.ref o1), .val (.int (81 : Int32))] [(.ref o1)])) (fun t k => XS.aloadN X0.here hx rfl (hb hby d1_13) rfl rfl k) ?_
  obtain ⟨T1, X1, e1, st1⟩ := getF X0 hx hZ hown (host := "") (Or.inl (hw _ (List.mem_of_getElem? (i := 10) rfl))) Via.refl e0 A1 (g := (mkF m 14 #[.val (.ref o1), .val (.int (81 : Int32))] [(.ref o1)])) rfl rfl (hb hby d1_14)
  refine step (T1.setTop (mkF m 17 #[.val (.ref o1), .val (.int (81 : Int32))] [(.int (3 : Int32))])) (fun t k => st1 t k) ?_
  refine fin (v := some (.int (3 : Int32))) X1 (fun h => by cases h) ?_ (by decide) (by decide) (fun fs hr => retI X1 hx hret (hb hby d1_17) hr)
  show Q1_3 Z o1 h0 n0 (some (.int (3 : Int32))) T1.heap _
  rw [e1]
  exact ⟨rfl, N0, rfl⟩
theorem ef_1_4 (m : MethodId) (x0 : Addr) (x1 : Int32) : entryFrame m #[(.ref x0), (.int x1)] 2 = mkF m 0 #[.val (.ref x0), .val (.int x1)] [] := by first | (simp [entryFrame, mkF, argsToLocals, Value.category]; done) | rfl
def Q1_4 (Z : State) (o1 : Addr) (i1 : Int32) (h0 : Heap) (n0 : Nat) (v : Option Value) (h : Heap) (L : List Loc) : Prop := v = some (.int (3 : Int32)) ∧ Fr n0 L ∧ h = h0
set_option maxRecDepth 65536 in
set_option maxHeartbeats 40000000 in
theorem rm1_4 (l : Launch) (Z : State) (a0 : Array Value) (hw : ∀ d ∈ tables_1, d.before a0 Z = true) (ws : List Jvm.Cond) (o1 : Addr) (i1 : Int32) (h0 : Heap) (n0 : Nat) (Z0 : n0 ≤ h0.size) (A0 : Exa Z h0 o1 "com/example/viewsmith/viewsmith/workload/Shape$1") (A1 : Fld Z h0 o1 "com/example/viewsmith/viewsmith/workload/Shape" "laterViewExposed" "I" (.int (3 : Int32))) (A2 : Fld Z h0 o1 "com/example/viewsmith/viewsmith/workload/Shape" "wideViewExposed" "I" (.int (10 : Int32))) (hy3 : ¬ (i1 < (81 : Int32))) (hbnd : (80 : Int32) < i1)  :
    MetFree l (⟨"com/example/viewsmith/viewsmith/workload/Shape", "viewExposed", "(I)I"⟩ : MethodName) (head1 (Jvm.Cond.code (⟨"com/example/viewsmith/viewsmith/workload/Shape", "viewExposed", "(I)I"⟩ : MethodName) prog_60_method_6_code 2 (some .int) :: ws) ({ frames := 0, cells := 0, slots := 0, locals := 0 } : Room)) (fun a U => a = #[(.ref o1), (.int i1)] ∧ Z.Warmed39 U.vm ∧ U.heap = h0) (fun _ _ _ _ _ => True) (fun _ U o U' => ∃ v L, o = .returned v ∧ Q1_4 Z o1 i1 h0 n0 v U'.heap L ∧ FrameEnd U o U' L ({ frames := 0, cells := 0, slots := 0, locals := 0 } : Room).cells ({ frames := 0, cells := 0, slots := 0, locals := 0 } : Room).slots) := by
  refine own_body (plainFor_of_name pn_1) ?_
  intro p e s m below meth c s₁ G hx hby hml hZ hown hnm hret X0 e0 step fin
  replace hown : s.vm.findClass "com/example/viewsmith/viewsmith/workload/Shape" = some m.cls := hown
  replace hnm : meth.name = "viewExposed" := hnm
  replace hret : meth.sig.returnType = some .int := hret
  replace hml : c.maxLocals = 2 := hml
  have N0 := Fr.nil n0
  refine step (s₁.setTop (mkF m 0 #[.val (.ref o1), .val (.int i1)] [])) (fun t k => castTop (ef_1_4 m o1 i1) k) ?_
  refine step (s₁.setTop (mkF m 1 #[.val (.ref o1), .val (.int i1)] [(.int i1)])) (fun t k => XS.iloadN X0.here hx rfl (hb hby d1_0) rfl k) ?_
  refine step (s₁.setTop (mkF m 3 #[.val (.ref o1), .val (.int i1)] [(.int (80 : Int32)), (.int i1)])) (fun t k => XS.bipush X0.here hx rfl (hb hby d1_1) k) ?_
  have hc3_1 : (80 : Int32) < i1 := hbnd
  refine step (s₁.setTop (mkF m 13 #[.val (.ref o1), .val (.int i1)] [])) (fun t k => XS.icmpYes X0.here hx rfl (pc0 := 3) (pc' := 13) rfl (hb hby d1_3) rfl (tlt hc3_1).2.2.1 (by decide) (by decide) k) ?_
  refine step (s₁.setTop (mkF m 14 #[.val (.ref o1), .val (.int i1)] [(.ref o1)])) (fun t k => XS.aloadN X0.here hx rfl (hb hby d1_13) rfl rfl k) ?_
  obtain ⟨T2, X2, e2, st2⟩ := getF X0 hx hZ hown (host := "") (Or.inl (hw _ (List.mem_of_getElem? (i := 10) rfl))) Via.refl e0 A1 (g := (mkF m 14 #[.val (.ref o1), .val (.int i1)] [(.ref o1)])) rfl rfl (hb hby d1_14)
  refine step (T2.setTop (mkF m 17 #[.val (.ref o1), .val (.int i1)] [(.int (3 : Int32))])) (fun t k => st2 t k) ?_
  refine fin (v := some (.int (3 : Int32))) X2 (fun h => by cases h) ?_ (by decide) (by decide) (fun fs hr => retI X2 hx hret (hb hby d1_17) hr)
  show Q1_4 Z o1 i1 h0 n0 (some (.int (3 : Int32))) T2.heap _
  rw [e2]
  exact ⟨rfl, N0, rfl⟩
theorem ef_1_5 (m : MethodId) (x0 : Addr) (x1 : Int32) : entryFrame m #[(.ref x0), (.int x1)] 2 = mkF m 0 #[.val (.ref x0), .val (.int x1)] [] := by first | (simp [entryFrame, mkF, argsToLocals, Value.category]; done) | rfl
def Q1_5 (Z : State) (o1 : Addr) (i1 : Int32) (h0 : Heap) (n0 : Nat) (v : Option Value) (h : Heap) (L : List Loc) : Prop := v = some (.int (4 : Int32)) ∧ Fr n0 L ∧ h = h0
set_option maxRecDepth 65536 in
set_option maxHeartbeats 40000000 in
theorem rm1_5 (l : Launch) (Z : State) (a0 : Array Value) (hw : ∀ d ∈ tables_1, d.before a0 Z = true) (ws : List Jvm.Cond) (o1 : Addr) (i1 : Int32) (h0 : Heap) (n0 : Nat) (Z0 : n0 ≤ h0.size) (A0 : Exa Z h0 o1 "com/example/viewsmith/viewsmith/workload/Shape$2") (A1 : Fld Z h0 o1 "com/example/viewsmith/viewsmith/workload/Shape" "laterViewExposed" "I" (.int (4 : Int32))) (A2 : Fld Z h0 o1 "com/example/viewsmith/viewsmith/workload/Shape" "wideViewExposed" "I" (.int (4 : Int32))) (hy3 : i1 < (81 : Int32)) (hbnd : ¬ ((80 : Int32) < i1))  :
    MetFree l (⟨"com/example/viewsmith/viewsmith/workload/Shape", "viewExposed", "(I)I"⟩ : MethodName) (head1 (Jvm.Cond.code (⟨"com/example/viewsmith/viewsmith/workload/Shape", "viewExposed", "(I)I"⟩ : MethodName) prog_60_method_6_code 2 (some .int) :: ws) ({ frames := 0, cells := 0, slots := 0, locals := 0 } : Room)) (fun a U => a = #[(.ref o1), (.int i1)] ∧ Z.Warmed39 U.vm ∧ U.heap = h0) (fun _ _ _ _ _ => True) (fun _ U o U' => ∃ v L, o = .returned v ∧ Q1_5 Z o1 i1 h0 n0 v U'.heap L ∧ FrameEnd U o U' L ({ frames := 0, cells := 0, slots := 0, locals := 0 } : Room).cells ({ frames := 0, cells := 0, slots := 0, locals := 0 } : Room).slots) := by
  refine own_body (plainFor_of_name pn_1) ?_
  intro p e s m below meth c s₁ G hx hby hml hZ hown hnm hret X0 e0 step fin
  replace hown : s.vm.findClass "com/example/viewsmith/viewsmith/workload/Shape" = some m.cls := hown
  replace hnm : meth.name = "viewExposed" := hnm
  replace hret : meth.sig.returnType = some .int := hret
  replace hml : c.maxLocals = 2 := hml
  have N0 := Fr.nil n0
  refine step (s₁.setTop (mkF m 0 #[.val (.ref o1), .val (.int i1)] [])) (fun t k => castTop (ef_1_5 m o1 i1) k) ?_
  refine step (s₁.setTop (mkF m 1 #[.val (.ref o1), .val (.int i1)] [(.int i1)])) (fun t k => XS.iloadN X0.here hx rfl (hb hby d1_0) rfl k) ?_
  refine step (s₁.setTop (mkF m 3 #[.val (.ref o1), .val (.int i1)] [(.int (80 : Int32)), (.int i1)])) (fun t k => XS.bipush X0.here hx rfl (hb hby d1_1) k) ?_
  have hc3_1 : ¬ ((80 : Int32) < i1) := hbnd
  refine step (s₁.setTop (mkF m 6 #[.val (.ref o1), .val (.int i1)] [])) (fun t k => XS.icmpNo X0.here hx rfl (hb hby d1_3) rfl (flt hc3_1).2.2.1 k) ?_
  refine step (s₁.setTop (mkF m 7 #[.val (.ref o1), .val (.int i1)] [(.ref o1)])) (fun t k => XS.aloadN X0.here hx rfl (hb hby d1_6) rfl rfl k) ?_
  obtain ⟨T2, X2, e2, st2⟩ := getF X0 hx hZ hown (host := "") (Or.inl (hw _ (List.mem_of_getElem? (i := 8) rfl))) Via.refl e0 A2 (g := (mkF m 7 #[.val (.ref o1), .val (.int i1)] [(.ref o1)])) rfl rfl (hb hby d1_7)
  refine step (T2.setTop (mkF m 10 #[.val (.ref o1), .val (.int i1)] [(.int (4 : Int32))])) (fun t k => st2 t k) ?_
  refine step (T2.setTop (mkF m 17 #[.val (.ref o1), .val (.int i1)] [(.int (4 : Int32))])) (fun t k => XS.goto X2.here hx rfl (pc0 := 10) (pc' := 17) rfl (hb hby d1_10) (by decide) (by decide) k) ?_
  refine fin (v := some (.int (4 : Int32))) X2 (fun h => by cases h) ?_ (by decide) (by decide) (fun fs hr => retI X2 hx hret (hb hby d1_17) hr)
  show Q1_5 Z o1 i1 h0 n0 (some (.int (4 : Int32))) T2.heap _
  rw [e2]
  exact ⟨rfl, N0, rfl⟩
theorem ef_1_6 (m : MethodId) (x0 : Addr) : entryFrame m #[(.ref x0), (.int (80 : Int32))] 2 = mkF m 0 #[.val (.ref x0), .val (.int (80 : Int32))] [] := by first | (simp [entryFrame, mkF, argsToLocals, Value.category]; done) | rfl
def Q1_6 (Z : State) (o1 : Addr) (h0 : Heap) (n0 : Nat) (v : Option Value) (h : Heap) (L : List Loc) : Prop := v = some (.int (4 : Int32)) ∧ Fr n0 L ∧ h = h0
set_option maxRecDepth 65536 in
set_option maxHeartbeats 40000000 in
theorem rm1_6 (l : Launch) (Z : State) (a0 : Array Value) (hw : ∀ d ∈ tables_1, d.before a0 Z = true) (ws : List Jvm.Cond) (o1 : Addr) (h0 : Heap) (n0 : Nat) (Z0 : n0 ≤ h0.size) (A0 : Exa Z h0 o1 "com/example/viewsmith/viewsmith/workload/Shape$2") (A1 : Fld Z h0 o1 "com/example/viewsmith/viewsmith/workload/Shape" "laterViewExposed" "I" (.int (4 : Int32))) (A2 : Fld Z h0 o1 "com/example/viewsmith/viewsmith/workload/Shape" "wideViewExposed" "I" (.int (4 : Int32)))  :
    MetFree l (⟨"com/example/viewsmith/viewsmith/workload/Shape", "viewExposed", "(I)I"⟩ : MethodName) (head1 (Jvm.Cond.code (⟨"com/example/viewsmith/viewsmith/workload/Shape", "viewExposed", "(I)I"⟩ : MethodName) prog_60_method_6_code 2 (some .int) :: ws) ({ frames := 0, cells := 0, slots := 0, locals := 0 } : Room)) (fun a U => a = #[(.ref o1), (.int (80 : Int32))] ∧ Z.Warmed39 U.vm ∧ U.heap = h0) (fun _ _ _ _ _ => True) (fun _ U o U' => ∃ v L, o = .returned v ∧ Q1_6 Z o1 h0 n0 v U'.heap L ∧ FrameEnd U o U' L ({ frames := 0, cells := 0, slots := 0, locals := 0 } : Room).cells ({ frames := 0, cells := 0, slots := 0, locals := 0 } : Room).slots) := by
  refine own_body (plainFor_of_name pn_1) ?_
  intro p e s m below meth c s₁ G hx hby hml hZ hown hnm hret X0 e0 step fin
  replace hown : s.vm.findClass "com/example/viewsmith/viewsmith/workload/Shape" = some m.cls := hown
  replace hnm : meth.name = "viewExposed" := hnm
  replace hret : meth.sig.returnType = some .int := hret
  replace hml : c.maxLocals = 2 := hml
  have N0 := Fr.nil n0
  refine step (s₁.setTop (mkF m 0 #[.val (.ref o1), .val (.int (80 : Int32))] [])) (fun t k => castTop (ef_1_6 m o1) k) ?_
  refine step (s₁.setTop (mkF m 1 #[.val (.ref o1), .val (.int (80 : Int32))] [(.int (80 : Int32))])) (fun t k => XS.iloadN X0.here hx rfl (hb hby d1_0) rfl k) ?_
  refine step (s₁.setTop (mkF m 3 #[.val (.ref o1), .val (.int (80 : Int32))] [(.int (80 : Int32)), (.int (80 : Int32))])) (fun t k => XS.bipush X0.here hx rfl (hb hby d1_1) k) ?_
  refine step (s₁.setTop (mkF m 6 #[.val (.ref o1), .val (.int (80 : Int32))] [])) (fun t k => XS.icmpNo X0.here hx rfl (hb hby d1_3) rfl (flt (by decide : ¬ ((80 : Int32) < (80 : Int32)))).2.2.1 k) ?_
  refine step (s₁.setTop (mkF m 7 #[.val (.ref o1), .val (.int (80 : Int32))] [(.ref o1)])) (fun t k => XS.aloadN X0.here hx rfl (hb hby d1_6) rfl rfl k) ?_
  obtain ⟨T1, X1, e1, st1⟩ := getF X0 hx hZ hown (host := "") (Or.inl (hw _ (List.mem_of_getElem? (i := 8) rfl))) Via.refl e0 A2 (g := (mkF m 7 #[.val (.ref o1), .val (.int (80 : Int32))] [(.ref o1)])) rfl rfl (hb hby d1_7)
  refine step (T1.setTop (mkF m 10 #[.val (.ref o1), .val (.int (80 : Int32))] [(.int (4 : Int32))])) (fun t k => st1 t k) ?_
  refine step (T1.setTop (mkF m 17 #[.val (.ref o1), .val (.int (80 : Int32))] [(.int (4 : Int32))])) (fun t k => XS.goto X1.here hx rfl (pc0 := 10) (pc' := 17) rfl (hb hby d1_10) (by decide) (by decide) k) ?_
  refine fin (v := some (.int (4 : Int32))) X1 (fun h => by cases h) ?_ (by decide) (by decide) (fun fs hr => retI X1 hx hret (hb hby d1_17) hr)
  show Q1_6 Z o1 h0 n0 (some (.int (4 : Int32))) T1.heap _
  rw [e1]
  exact ⟨rfl, N0, rfl⟩
theorem ef_1_7 (m : MethodId) (x0 : Addr) : entryFrame m #[(.ref x0), (.int (81 : Int32))] 2 = mkF m 0 #[.val (.ref x0), .val (.int (81 : Int32))] [] := by first | (simp [entryFrame, mkF, argsToLocals, Value.category]; done) | rfl
def Q1_7 (Z : State) (o1 : Addr) (h0 : Heap) (n0 : Nat) (v : Option Value) (h : Heap) (L : List Loc) : Prop := v = some (.int (4 : Int32)) ∧ Fr n0 L ∧ h = h0
set_option maxRecDepth 65536 in
set_option maxHeartbeats 40000000 in
theorem rm1_7 (l : Launch) (Z : State) (a0 : Array Value) (hw : ∀ d ∈ tables_1, d.before a0 Z = true) (ws : List Jvm.Cond) (o1 : Addr) (h0 : Heap) (n0 : Nat) (Z0 : n0 ≤ h0.size) (A0 : Exa Z h0 o1 "com/example/viewsmith/viewsmith/workload/Shape$2") (A1 : Fld Z h0 o1 "com/example/viewsmith/viewsmith/workload/Shape" "laterViewExposed" "I" (.int (4 : Int32))) (A2 : Fld Z h0 o1 "com/example/viewsmith/viewsmith/workload/Shape" "wideViewExposed" "I" (.int (4 : Int32)))  :
    MetFree l (⟨"com/example/viewsmith/viewsmith/workload/Shape", "viewExposed", "(I)I"⟩ : MethodName) (head1 (Jvm.Cond.code (⟨"com/example/viewsmith/viewsmith/workload/Shape", "viewExposed", "(I)I"⟩ : MethodName) prog_60_method_6_code 2 (some .int) :: ws) ({ frames := 0, cells := 0, slots := 0, locals := 0 } : Room)) (fun a U => a = #[(.ref o1), (.int (81 : Int32))] ∧ Z.Warmed39 U.vm ∧ U.heap = h0) (fun _ _ _ _ _ => True) (fun _ U o U' => ∃ v L, o = .returned v ∧ Q1_7 Z o1 h0 n0 v U'.heap L ∧ FrameEnd U o U' L ({ frames := 0, cells := 0, slots := 0, locals := 0 } : Room).cells ({ frames := 0, cells := 0, slots := 0, locals := 0 } : Room).slots) := by
  refine own_body (plainFor_of_name pn_1) ?_
  intro p e s m below meth c s₁ G hx hby hml hZ hown hnm hret X0 e0 step fin
  replace hown : s.vm.findClass "com/example/viewsmith/viewsmith/workload/Shape" = some m.cls := hown
  replace hnm : meth.name = "viewExposed" := hnm
  replace hret : meth.sig.returnType = some .int := hret
  replace hml : c.maxLocals = 2 := hml
  have N0 := Fr.nil n0
  refine step (s₁.setTop (mkF m 0 #[.val (.ref o1), .val (.int (81 : Int32))] [])) (fun t k => castTop (ef_1_7 m o1) k) ?_
  refine step (s₁.setTop (mkF m 1 #[.val (.ref o1), .val (.int (81 : Int32))] [(.int (81 : Int32))])) (fun t k => XS.iloadN X0.here hx rfl (hb hby d1_0) rfl k) ?_
  refine step (s₁.setTop (mkF m 3 #[.val (.ref o1), .val (.int (81 : Int32))] [(.int (80 : Int32)), (.int (81 : Int32))])) (fun t k => XS.bipush X0.here hx rfl (hb hby d1_1) k) ?_
  refine step (s₁.setTop (mkF m 13 #[.val (.ref o1), .val (.int (81 : Int32))] [])) (fun t k => XS.icmpYes X0.here hx rfl (pc0 := 3) (pc' := 13) rfl (hb hby d1_3) rfl (tlt (by decide : (80 : Int32) < (81 : Int32))).2.2.1 (by decide) (by decide) k) ?_
  refine step (s₁.setTop (mkF m 14 #[.val (.ref o1), .val (.int (81 : Int32))] [(.ref o1)])) (fun t k => XS.aloadN X0.here hx rfl (hb hby d1_13) rfl rfl k) ?_
  obtain ⟨T1, X1, e1, st1⟩ := getF X0 hx hZ hown (host := "") (Or.inl (hw _ (List.mem_of_getElem? (i := 10) rfl))) Via.refl e0 A1 (g := (mkF m 14 #[.val (.ref o1), .val (.int (81 : Int32))] [(.ref o1)])) rfl rfl (hb hby d1_14)
  refine step (T1.setTop (mkF m 17 #[.val (.ref o1), .val (.int (81 : Int32))] [(.int (4 : Int32))])) (fun t k => st1 t k) ?_
  refine fin (v := some (.int (4 : Int32))) X1 (fun h => by cases h) ?_ (by decide) (by decide) (fun fs hr => retI X1 hx hret (hb hby d1_17) hr)
  show Q1_7 Z o1 h0 n0 (some (.int (4 : Int32))) T1.heap _
  rw [e1]
  exact ⟨rfl, N0, rfl⟩
theorem ef_1_8 (m : MethodId) (x0 : Addr) (x1 : Int32) : entryFrame m #[(.ref x0), (.int x1)] 2 = mkF m 0 #[.val (.ref x0), .val (.int x1)] [] := by first | (simp [entryFrame, mkF, argsToLocals, Value.category]; done) | rfl
def Q1_8 (Z : State) (o1 : Addr) (i1 : Int32) (h0 : Heap) (n0 : Nat) (v : Option Value) (h : Heap) (L : List Loc) : Prop := v = some (.int (4 : Int32)) ∧ Fr n0 L ∧ h = h0
set_option maxRecDepth 65536 in
set_option maxHeartbeats 40000000 in
theorem rm1_8 (l : Launch) (Z : State) (a0 : Array Value) (hw : ∀ d ∈ tables_1, d.before a0 Z = true) (ws : List Jvm.Cond) (o1 : Addr) (i1 : Int32) (h0 : Heap) (n0 : Nat) (Z0 : n0 ≤ h0.size) (A0 : Exa Z h0 o1 "com/example/viewsmith/viewsmith/workload/Shape$2") (A1 : Fld Z h0 o1 "com/example/viewsmith/viewsmith/workload/Shape" "laterViewExposed" "I" (.int (4 : Int32))) (A2 : Fld Z h0 o1 "com/example/viewsmith/viewsmith/workload/Shape" "wideViewExposed" "I" (.int (4 : Int32))) (hy3 : ¬ (i1 < (81 : Int32))) (hbnd : (80 : Int32) < i1)  :
    MetFree l (⟨"com/example/viewsmith/viewsmith/workload/Shape", "viewExposed", "(I)I"⟩ : MethodName) (head1 (Jvm.Cond.code (⟨"com/example/viewsmith/viewsmith/workload/Shape", "viewExposed", "(I)I"⟩ : MethodName) prog_60_method_6_code 2 (some .int) :: ws) ({ frames := 0, cells := 0, slots := 0, locals := 0 } : Room)) (fun a U => a = #[(.ref o1), (.int i1)] ∧ Z.Warmed39 U.vm ∧ U.heap = h0) (fun _ _ _ _ _ => True) (fun _ U o U' => ∃ v L, o = .returned v ∧ Q1_8 Z o1 i1 h0 n0 v U'.heap L ∧ FrameEnd U o U' L ({ frames := 0, cells := 0, slots := 0, locals := 0 } : Room).cells ({ frames := 0, cells := 0, slots := 0, locals := 0 } : Room).slots) := by
  refine own_body (plainFor_of_name pn_1) ?_
  intro p e s m below meth c s₁ G hx hby hml hZ hown hnm hret X0 e0 step fin
  replace hown : s.vm.findClass "com/example/viewsmith/viewsmith/workload/Shape" = some m.cls := hown
  replace hnm : meth.name = "viewExposed" := hnm
  replace hret : meth.sig.returnType = some .int := hret
  replace hml : c.maxLocals = 2 := hml
  have N0 := Fr.nil n0
  refine step (s₁.setTop (mkF m 0 #[.val (.ref o1), .val (.int i1)] [])) (fun t k => castTop (ef_1_8 m o1 i1) k) ?_
  refine step (s₁.setTop (mkF m 1 #[.val (.ref o1), .val (.int i1)] [(.int i1)])) (fun t k => XS.iloadN X0.here hx rfl (hb hby d1_0) rfl k) ?_
  refine step (s₁.setTop (mkF m 3 #[.val (.ref o1), .val (.int i1)] [(.int (80 : Int32)), (.int i1)])) (fun t k => XS.bipush X0.here hx rfl (hb hby d1_1) k) ?_
  have hc3_1 : (80 : Int32) < i1 := hbnd
  refine step (s₁.setTop (mkF m 13 #[.val (.ref o1), .val (.int i1)] [])) (fun t k => XS.icmpYes X0.here hx rfl (pc0 := 3) (pc' := 13) rfl (hb hby d1_3) rfl (tlt hc3_1).2.2.1 (by decide) (by decide) k) ?_
  refine step (s₁.setTop (mkF m 14 #[.val (.ref o1), .val (.int i1)] [(.ref o1)])) (fun t k => XS.aloadN X0.here hx rfl (hb hby d1_13) rfl rfl k) ?_
  obtain ⟨T2, X2, e2, st2⟩ := getF X0 hx hZ hown (host := "") (Or.inl (hw _ (List.mem_of_getElem? (i := 10) rfl))) Via.refl e0 A1 (g := (mkF m 14 #[.val (.ref o1), .val (.int i1)] [(.ref o1)])) rfl rfl (hb hby d1_14)
  refine step (T2.setTop (mkF m 17 #[.val (.ref o1), .val (.int i1)] [(.int (4 : Int32))])) (fun t k => st2 t k) ?_
  refine fin (v := some (.int (4 : Int32))) X2 (fun h => by cases h) ?_ (by decide) (by decide) (fun fs hr => retI X2 hx hret (hb hby d1_17) hr)
  show Q1_8 Z o1 i1 h0 n0 (some (.int (4 : Int32))) T2.heap _
  rw [e2]
  exact ⟨rfl, N0, rfl⟩
theorem ef_0 (m : MethodId) (x0 : Int32) (x1 : Int32) : entryFrame m #[(.int x0), (.int x1)] maxLocals = mkF m 0 #[.val (.int x0), .val (.int x1), .unset, .unset, .unset, .unset, .unset, .unset, .unset, .unset] [] := by first | (simp [entryFrame, mkF, argsToLocals, Value.category, maxLocals]; done) | rfl
def Q0 (Z : State) (p0 p1 : Int32) (aSTAR aCHAIN : Addr) (h0 : Heap) (n0 : Nat) (v : Option Value) (h : Heap) (L : List Loc) : Prop := v = some (.int 1) ∧ Fr n0 L
set_option maxRecDepth 65536 in
set_option maxHeartbeats 40000000 in
theorem rm0 (l : Launch) (Z : State) (a0 : Array Value) (hw : ∀ d ∈ tables_1, d.before a0 Z = true) (ws : List Jvm.Cond) (p0 p1 : Int32) (aSTAR aCHAIN : Addr) (h0 : Heap) (n0 : Nat) (Z0 : n0 ≤ h0.size) (S_aSTAR : Sta Z h0 "com/example/viewsmith/viewsmith/workload/Shape" "STAR" "Lcom/example/viewsmith/viewsmith/workload/Shape;" (.ref aSTAR)) (E_aSTAR : Exa Z h0 aSTAR "com/example/viewsmith/viewsmith/workload/Shape$2") (Fw_aSTAR : Fld Z h0 aSTAR "com/example/viewsmith/viewsmith/workload/Shape" "wideViewExposed" "I" (.int (4 : Int32))) (Fl_aSTAR : Fld Z h0 aSTAR "com/example/viewsmith/viewsmith/workload/Shape" "laterViewExposed" "I" (.int (4 : Int32))) (S_aCHAIN : Sta Z h0 "com/example/viewsmith/viewsmith/workload/Shape" "CHAIN" "Lcom/example/viewsmith/viewsmith/workload/Shape;" (.ref aCHAIN)) (E_aCHAIN : Exa Z h0 aCHAIN "com/example/viewsmith/viewsmith/workload/Shape$1") (Fw_aCHAIN : Fld Z h0 aCHAIN "com/example/viewsmith/viewsmith/workload/Shape" "wideViewExposed" "I" (.int (10 : Int32))) (Fl_aCHAIN : Fld Z h0 aCHAIN "com/example/viewsmith/viewsmith/workload/Shape" "laterViewExposed" "I" (.int (3 : Int32))) :
    MetFree l x (head1 (Jvm.Cond.code x code maxLocals ret :: ws) room_1) (fun a U => a = #[(.int p0), (.int p1)] ∧ Z.Warmed39 U.vm ∧ U.heap = h0) (fun _ _ _ _ _ => True) (fun _ U o U' => ∃ v L, o = .returned v ∧ Q0 Z p0 p1 aSTAR aCHAIN h0 n0 v U'.heap L ∧ FrameEnd U o U' L room_1.cells room_1.slots) := by
  refine own_body (plainFor_of_name pn_0) ?_
  intro p e s m below meth c s₁ G hx hby hml hZ hown hnm hret X0 e0 step fin
  replace hown : s.vm.findClass "com/example/viewsmith/viewsmith/workload/ShapeViewExposedPinLaw" = some m.cls := hown
  replace hnm : meth.name = "law" := hnm
  replace hret : meth.sig.returnType = some .boolean := hret
  replace hml : c.maxLocals = 10 := hml
  have N0 := Fr.nil n0
  refine step (s₁.setTop (mkF m 0 #[.val (.int p0), .val (.int p1), .unset, .unset, .unset, .unset, .unset, .unset, .unset, .unset] [])) (fun t k => castTop (ef_0 m p0 p1) k) ?_
  refine step (s₁.setTop (mkF m 1 #[.val (.int p0), .val (.int p1), .unset, .unset, .unset, .unset, .unset, .unset, .unset, .unset] [(.int p1)])) (fun t k => XS.iloadN X0.here hx rfl (hb hby at_0) rfl k) ?_
  refine step (s₁.setTop (mkF m 2 #[.val (.int p0), .val (.int p1), .unset, .unset, .unset, .unset, .unset, .unset, .unset, .unset] [(.int (1 : Int32)), (.int p1)])) (fun t k => XS.iconst X0.here hx rfl (hb hby at_1) k) ?_
  refine step (s₁.setTop (mkF m 3 #[.val (.int p0), .val (.int p1), .unset, .unset, .unset, .unset, .unset, .unset, .unset, .unset] [(.int (p1 &&& (1 : Int32)))])) (fun t k => XS.iand X0.here hx rfl (hb hby at_2) rfl k) ?_
  by_cases hc3_1 : (p1 &&& (1 : Int32)) = (0 : Int32)
  · -- pc 3: (p1 &&& (1 : Int32)) = (0 : Int32) True
    refine step (s₁.setTop (mkF m 6 #[.val (.int p0), .val (.int p1), .unset, .unset, .unset, .unset, .unset, .unset, .unset, .unset] [])) (fun t k => XS.ifNo X0.here hx rfl (hb hby at_3) rfl ((if0 _ _).trans (teq hc3_1).2) k) ?_
    refine step (s₁.setTop (mkF m 7 #[.val (.int p0), .val (.int p1), .unset, .unset, .unset, .unset, .unset, .unset, .unset, .unset] [(.int (1 : Int32))])) (fun t k => XS.iconst X0.here hx rfl (hb hby at_6) k) ?_
    refine step (s₁.setTop (mkF m 11 #[.val (.int p0), .val (.int p1), .unset, .unset, .unset, .unset, .unset, .unset, .unset, .unset] [(.int (1 : Int32))])) (fun t k => XS.goto X0.here hx rfl (pc0 := 7) (pc' := 11) rfl (hb hby at_7) (by decide) (by decide) k) ?_
    refine step (s₁.setTop (mkF m 12 #[.val (.int p0), .val (.int p1), .val (.int (1 : Int32)), .unset, .unset, .unset, .unset, .unset, .unset, .unset] [])) (fun t k => XS.istoreN X0.here hx rfl (hb hby at_11) rfl (l' := #[.val (.int p0), .val (.int p1), .val (.int (1 : Int32)), .unset, .unset, .unset, .unset, .unset, .unset, .unset]) rfl k) ?_
    refine step (s₁.setTop (mkF m 13 #[.val (.int p0), .val (.int p1), .val (.int (1 : Int32)), .unset, .unset, .unset, .unset, .unset, .unset, .unset] [(.int (1 : Int32))])) (fun t k => XS.iloadN X0.here hx rfl (hb hby at_12) rfl k) ?_
    refine step (s₁.setTop (mkF m 16 #[.val (.int p0), .val (.int p1), .val (.int (1 : Int32)), .unset, .unset, .unset, .unset, .unset, .unset, .unset] [])) (fun t k => XS.ifNo X0.here hx rfl (hb hby at_13) rfl ((if0 _ _).trans (feq (by decide : ¬ ((1 : Int32) = (0 : Int32)))).1) k) ?_
    obtain ⟨T2, X2, e2, st2⟩ := getS2 X0 hx hZ hown (host := "") (Or.inl (hw _ (List.mem_of_getElem? (i := 12) rfl))) Via.refl e0 S_aCHAIN (g := (mkF m 16 #[.val (.int p0), .val (.int p1), .val (.int (1 : Int32)), .unset, .unset, .unset, .unset, .unset, .unset, .unset] [])) rfl (hb hby at_16)
    refine step (T2.setTop (mkF m 19 #[.val (.int p0), .val (.int p1), .val (.int (1 : Int32)), .unset, .unset, .unset, .unset, .unset, .unset, .unset] [(.ref aCHAIN)])) (fun t k => st2 t k) ?_
    refine step (T2.setTop (mkF m 25 #[.val (.int p0), .val (.int p1), .val (.int (1 : Int32)), .unset, .unset, .unset, .unset, .unset, .unset, .unset] [(.ref aCHAIN)])) (fun t k => XS.goto X2.here hx rfl (pc0 := 19) (pc' := 25) rfl (hb hby at_19) (by decide) (by decide) k) ?_
    refine step (T2.setTop (mkF m 26 #[.val (.int p0), .val (.int p1), .val (.int (1 : Int32)), .val (.ref aCHAIN), .unset, .unset, .unset, .unset, .unset, .unset] [])) (fun t k => XS.astoreN X2.here hx rfl (hb hby at_25) rfl rfl (l' := #[.val (.int p0), .val (.int p1), .val (.int (1 : Int32)), .val (.ref aCHAIN), .unset, .unset, .unset, .unset, .unset, .unset]) rfl k) ?_
    refine step (T2.setTop (mkF m 27 #[.val (.int p0), .val (.int p1), .val (.int (1 : Int32)), .val (.ref aCHAIN), .unset, .unset, .unset, .unset, .unset, .unset] [(.int (1 : Int32))])) (fun t k => XS.iloadN X2.here hx rfl (hb hby at_26) rfl k) ?_
    refine step (T2.setTop (mkF m 30 #[.val (.int p0), .val (.int p1), .val (.int (1 : Int32)), .val (.ref aCHAIN), .unset, .unset, .unset, .unset, .unset, .unset] [])) (fun t k => XS.ifNo X2.here hx rfl (hb hby at_27) rfl ((if0 _ _).trans (feq (by decide : ¬ ((1 : Int32) = (0 : Int32)))).1) k) ?_
    refine step (T2.setTop (mkF m 32 #[.val (.int p0), .val (.int p1), .val (.int (1 : Int32)), .val (.ref aCHAIN), .unset, .unset, .unset, .unset, .unset, .unset] [(.int (10 : Int32))])) (fun t k => XS.bipush X2.here hx rfl (hb hby at_30) k) ?_
    refine step (T2.setTop (mkF m 36 #[.val (.int p0), .val (.int p1), .val (.int (1 : Int32)), .val (.ref aCHAIN), .unset, .unset, .unset, .unset, .unset, .unset] [(.int (10 : Int32))])) (fun t k => XS.goto X2.here hx rfl (pc0 := 32) (pc' := 36) rfl (hb hby at_32) (by decide) (by decide) k) ?_
    refine step (T2.setTop (mkF m 38 #[.val (.int p0), .val (.int p1), .val (.int (1 : Int32)), .val (.ref aCHAIN), .val (.int (10 : Int32)), .unset, .unset, .unset, .unset, .unset] [])) (fun t k => XS.istore X2.here hx rfl (hb hby at_36) rfl (l' := #[.val (.int p0), .val (.int p1), .val (.int (1 : Int32)), .val (.ref aCHAIN), .val (.int (10 : Int32)), .unset, .unset, .unset, .unset, .unset]) rfl k) ?_
    refine step (T2.setTop (mkF m 39 #[.val (.int p0), .val (.int p1), .val (.int (1 : Int32)), .val (.ref aCHAIN), .val (.int (10 : Int32)), .unset, .unset, .unset, .unset, .unset] [(.int (1 : Int32))])) (fun t k => XS.iloadN X2.here hx rfl (hb hby at_38) rfl k) ?_
    refine step (T2.setTop (mkF m 42 #[.val (.int p0), .val (.int p1), .val (.int (1 : Int32)), .val (.ref aCHAIN), .val (.int (10 : Int32)), .unset, .unset, .unset, .unset, .unset] [])) (fun t k => XS.ifNo X2.here hx rfl (hb hby at_39) rfl ((if0 _ _).trans (feq (by decide : ¬ ((1 : Int32) = (0 : Int32)))).1) k) ?_
    refine step (T2.setTop (mkF m 43 #[.val (.int p0), .val (.int p1), .val (.int (1 : Int32)), .val (.ref aCHAIN), .val (.int (10 : Int32)), .unset, .unset, .unset, .unset, .unset] [(.int (3 : Int32))])) (fun t k => XS.iconst X2.here hx rfl (hb hby at_42) k) ?_
    refine step (T2.setTop (mkF m 47 #[.val (.int p0), .val (.int p1), .val (.int (1 : Int32)), .val (.ref aCHAIN), .val (.int (10 : Int32)), .unset, .unset, .unset, .unset, .unset] [(.int (3 : Int32))])) (fun t k => XS.goto X2.here hx rfl (pc0 := 43) (pc' := 47) rfl (hb hby at_43) (by decide) (by decide) k) ?_
    refine step (T2.setTop (mkF m 49 #[.val (.int p0), .val (.int p1), .val (.int (1 : Int32)), .val (.ref aCHAIN), .val (.int (10 : Int32)), .val (.int (3 : Int32)), .unset, .unset, .unset, .unset] [])) (fun t k => XS.istore X2.here hx rfl (hb hby at_47) rfl (l' := #[.val (.int p0), .val (.int p1), .val (.int (1 : Int32)), .val (.ref aCHAIN), .val (.int (10 : Int32)), .val (.int (3 : Int32)), .unset, .unset, .unset, .unset]) rfl k) ?_
    refine step (T2.setTop (mkF m 50 #[.val (.int p0), .val (.int p1), .val (.int (1 : Int32)), .val (.ref aCHAIN), .val (.int (10 : Int32)), .val (.int (3 : Int32)), .unset, .unset, .unset, .unset] [(.int p0)])) (fun t k => XS.iloadN X2.here hx rfl (hb hby at_49) rfl k) ?_
    refine step (T2.setTop (mkF m 52 #[.val (.int p0), .val (.int p1), .val (.int (1 : Int32)), .val (.ref aCHAIN), .val (.int (10 : Int32)), .val (.int (3 : Int32)), .unset, .unset, .unset, .unset] [(.int (81 : Int32)), (.int p0)])) (fun t k => XS.bipush X2.here hx rfl (hb hby at_50) k) ?_
    by_cases hc52_3 : p0 < (81 : Int32)
    · -- pc 52: p0 < (81 : Int32) True
      refine step (T2.setTop (mkF m 55 #[.val (.int p0), .val (.int p1), .val (.int (1 : Int32)), .val (.ref aCHAIN), .val (.int (10 : Int32)), .val (.int (3 : Int32)), .unset, .unset, .unset, .unset] [])) (fun t k => XS.icmpNo X2.here hx rfl (hb hby at_52) rfl (tlt hc52_3).2.1 k) ?_
      refine step (T2.setTop (mkF m 57 #[.val (.int p0), .val (.int p1), .val (.int (1 : Int32)), .val (.ref aCHAIN), .val (.int (10 : Int32)), .val (.int (3 : Int32)), .unset, .unset, .unset, .unset] [(.int (10 : Int32))])) (fun t k => XS.iload X2.here hx rfl (hb hby at_55) rfl k) ?_
      refine step (T2.setTop (mkF m 59 #[.val (.int p0), .val (.int p1), .val (.int (1 : Int32)), .val (.ref aCHAIN), .val (.int (10 : Int32)), .val (.int (3 : Int32)), .val (.int (10 : Int32)), .unset, .unset, .unset] [])) (fun t k => XS.istore X2.here hx rfl (hb hby at_57) rfl (l' := #[.val (.int p0), .val (.int p1), .val (.int (1 : Int32)), .val (.ref aCHAIN), .val (.int (10 : Int32)), .val (.int (3 : Int32)), .val (.int (10 : Int32)), .unset, .unset, .unset]) rfl k) ?_
      refine step (T2.setTop (mkF m 66 #[.val (.int p0), .val (.int p1), .val (.int (1 : Int32)), .val (.ref aCHAIN), .val (.int (10 : Int32)), .val (.int (3 : Int32)), .val (.int (10 : Int32)), .unset, .unset, .unset] [])) (fun t k => XS.goto X2.here hx rfl (pc0 := 59) (pc' := 66) rfl (hb hby at_59) (by decide) (by decide) k) ?_
      refine step (T2.setTop (mkF m 67 #[.val (.int p0), .val (.int p1), .val (.int (1 : Int32)), .val (.ref aCHAIN), .val (.int (10 : Int32)), .val (.int (3 : Int32)), .val (.int (10 : Int32)), .unset, .unset, .unset] [(.ref aCHAIN)])) (fun t k => XS.aloadN X2.here hx rfl (hb hby at_66) rfl rfl k) ?_
      refine step (T2.setTop (mkF m 68 #[.val (.int p0), .val (.int p1), .val (.int (1 : Int32)), .val (.ref aCHAIN), .val (.int (10 : Int32)), .val (.int (3 : Int32)), .val (.int (10 : Int32)), .unset, .unset, .unset] [(.int p0), (.ref aCHAIN)])) (fun t k => XS.iloadN X2.here hx rfl (hb hby at_67) rfl k) ?_
      obtain ⟨cq4, kq4, q4a, q4b, q4c⟩ := isOf hZ e2 E_aCHAIN
      obtain ⟨_, _, ⟨T4, L4, k4, n4⟩, -, X4, ⟨Lc4, hQ4, l4, y4, z4⟩, st4⟩ := X2.virtualBack hx (y := (⟨"com/example/viewsmith/viewsmith/workload/Shape", "viewExposed", "(I)I"⟩ : MethodName)) (z := (⟨"com/example/viewsmith/viewsmith/workload/Shape", "viewExposed", "(I)I"⟩ : MethodName)) hown (mvT hZ (hw _ (List.mem_of_getElem? (i := 3) rfl))) (mvT hZ (hw _ (List.mem_of_getElem? (i := 4) rfl))) (notFace_of_selects (args := #[]) (mvT hZ (hw _ (List.mem_of_getElem? (i := 6) rfl)))) (mvT hZ (hw _ (List.mem_of_getElem? (i := 14) rfl))) (mvT hZ (hw _ (List.mem_of_getElem? (i := 5) rfl))) (by decide) (backOf (W := 0) (rm1_1 l Z a0 hw [] aCHAIN p0 h0 n0 Z0 E_aCHAIN Fl_aCHAIN Fw_aCHAIN hc52_3 (own_81 hc52_3)) hZ (hw _ (List.mem_of_getElem? (i := 7) rfl)) (hw _ (List.mem_of_getElem? (i := 1) rfl)) (by decide) (by decide)) q4a q4c (g := (mkF m 68 #[.val (.int p0), .val (.int p1), .val (.int (1 : Int32)), .val (.ref aCHAIN), .val (.int (10 : Int32)), .val (.int (3 : Int32)), .val (.int (10 : Int32)), .unset, .unset, .unset] [(.int p0), (.ref aCHAIN)])) rfl (by rw [hml]; rfl) (Steps.refl _) (argsL := [(.int p0)]) (rest := []) (lenOf pd_0 rfl) rfl (by show 2 * 0 + _ ≤ _; exact Nat.le_of_eq rfl) (hb hby at_68) (fun _ _ => ⟨rfl, e2, (by decide : 0 + 0 ≤ _), (by decide : 0 + 0 ≤ _)⟩)
      dsimp only [Pt.U, Pt.locs, Pt.cells, Pt.slots] at X4 l4 y4 z4 st4 hQ4
      subst l4 y4 z4
      obtain ⟨rfl, N4q, e4q⟩ := hQ4
      have N4 := Fr.app N0 N4q
      refine step (T4.setTop (mkF m 71 #[.val (.int p0), .val (.int p1), .val (.int (1 : Int32)), .val (.ref aCHAIN), .val (.int (10 : Int32)), .val (.int (3 : Int32)), .val (.int (10 : Int32)), .unset, .unset, .unset] [(.int (10 : Int32))])) (fun t k => st4.trans k) ?_
      refine step (T4.setTop (mkF m 73 #[.val (.int p0), .val (.int p1), .val (.int (1 : Int32)), .val (.ref aCHAIN), .val (.int (10 : Int32)), .val (.int (3 : Int32)), .val (.int (10 : Int32)), .val (.int (10 : Int32)), .unset, .unset] [])) (fun t k => XS.istore X4.here hx rfl (hb hby at_71) rfl (l' := #[.val (.int p0), .val (.int p1), .val (.int (1 : Int32)), .val (.ref aCHAIN), .val (.int (10 : Int32)), .val (.int (3 : Int32)), .val (.int (10 : Int32)), .val (.int (10 : Int32)), .unset, .unset]) rfl k) ?_
      refine step (T4.setTop (mkF m 74 #[.val (.int p0), .val (.int p1), .val (.int (1 : Int32)), .val (.ref aCHAIN), .val (.int (10 : Int32)), .val (.int (3 : Int32)), .val (.int (10 : Int32)), .val (.int (10 : Int32)), .unset, .unset] [(.ref aCHAIN)])) (fun t k => XS.aloadN X4.here hx rfl (hb hby at_73) rfl rfl k) ?_
      refine step (T4.setTop (mkF m 76 #[.val (.int p0), .val (.int p1), .val (.int (1 : Int32)), .val (.ref aCHAIN), .val (.int (10 : Int32)), .val (.int (3 : Int32)), .val (.int (10 : Int32)), .val (.int (10 : Int32)), .unset, .unset] [(.int (80 : Int32)), (.ref aCHAIN)])) (fun t k => XS.bipush X4.here hx rfl (hb hby at_74) k) ?_
      obtain ⟨cq5, kq5, q5a, q5b, q5c⟩ := isOf hZ e4q E_aCHAIN
      obtain ⟨_, _, ⟨T5, L5, k5, n5⟩, -, X5, ⟨Lc5, hQ5, l5, y5, z5⟩, st5⟩ := X4.virtualBack hx (y := (⟨"com/example/viewsmith/viewsmith/workload/Shape", "viewExposed", "(I)I"⟩ : MethodName)) (z := (⟨"com/example/viewsmith/viewsmith/workload/Shape", "viewExposed", "(I)I"⟩ : MethodName)) hown (mvT hZ (hw _ (List.mem_of_getElem? (i := 3) rfl))) (mvT hZ (hw _ (List.mem_of_getElem? (i := 4) rfl))) (notFace_of_selects (args := #[]) (mvT hZ (hw _ (List.mem_of_getElem? (i := 6) rfl)))) (mvT hZ (hw _ (List.mem_of_getElem? (i := 14) rfl))) (mvT hZ (hw _ (List.mem_of_getElem? (i := 5) rfl))) (by decide) (backOf (W := 0) (rm1_2 l Z a0 hw [] aCHAIN h0 n0 Z0 E_aCHAIN Fl_aCHAIN Fw_aCHAIN) hZ (hw _ (List.mem_of_getElem? (i := 7) rfl)) (hw _ (List.mem_of_getElem? (i := 1) rfl)) (by decide) (by decide)) q5a q5c (g := (mkF m 76 #[.val (.int p0), .val (.int p1), .val (.int (1 : Int32)), .val (.ref aCHAIN), .val (.int (10 : Int32)), .val (.int (3 : Int32)), .val (.int (10 : Int32)), .val (.int (10 : Int32)), .unset, .unset] [(.int (80 : Int32)), (.ref aCHAIN)])) rfl (by rw [hml]; rfl) (Steps.refl _) (argsL := [(.int (80 : Int32))]) (rest := []) (lenOf pd_0 rfl) rfl (by show 2 * 0 + _ ≤ _; exact Nat.le_of_eq rfl) (hb hby at_76) (fun _ _ => ⟨rfl, e4q, (by decide : 0 + 0 ≤ _), (by decide : 0 + 0 ≤ _)⟩)
      dsimp only [Pt.U, Pt.locs, Pt.cells, Pt.slots] at X5 l5 y5 z5 st5 hQ5
      subst l5 y5 z5
      obtain ⟨rfl, N5q, e5q⟩ := hQ5
      have N5 := Fr.app N4 N5q
      refine step (T5.setTop (mkF m 79 #[.val (.int p0), .val (.int p1), .val (.int (1 : Int32)), .val (.ref aCHAIN), .val (.int (10 : Int32)), .val (.int (3 : Int32)), .val (.int (10 : Int32)), .val (.int (10 : Int32)), .unset, .unset] [(.int (10 : Int32))])) (fun t k => st5.trans k) ?_
      refine step (T5.setTop (mkF m 81 #[.val (.int p0), .val (.int p1), .val (.int (1 : Int32)), .val (.ref aCHAIN), .val (.int (10 : Int32)), .val (.int (3 : Int32)), .val (.int (10 : Int32)), .val (.int (10 : Int32)), .val (.int (10 : Int32)), .unset] [])) (fun t k => XS.istore X5.here hx rfl (hb hby at_79) rfl (l' := #[.val (.int p0), .val (.int p1), .val (.int (1 : Int32)), .val (.ref aCHAIN), .val (.int (10 : Int32)), .val (.int (3 : Int32)), .val (.int (10 : Int32)), .val (.int (10 : Int32)), .val (.int (10 : Int32)), .unset]) rfl k) ?_
      refine step (T5.setTop (mkF m 82 #[.val (.int p0), .val (.int p1), .val (.int (1 : Int32)), .val (.ref aCHAIN), .val (.int (10 : Int32)), .val (.int (3 : Int32)), .val (.int (10 : Int32)), .val (.int (10 : Int32)), .val (.int (10 : Int32)), .unset] [(.ref aCHAIN)])) (fun t k => XS.aloadN X5.here hx rfl (hb hby at_81) rfl rfl k) ?_
      refine step (T5.setTop (mkF m 84 #[.val (.int p0), .val (.int p1), .val (.int (1 : Int32)), .val (.ref aCHAIN), .val (.int (10 : Int32)), .val (.int (3 : Int32)), .val (.int (10 : Int32)), .val (.int (10 : Int32)), .val (.int (10 : Int32)), .unset] [(.int (81 : Int32)), (.ref aCHAIN)])) (fun t k => XS.bipush X5.here hx rfl (hb hby at_82) k) ?_
      obtain ⟨cq6, kq6, q6a, q6b, q6c⟩ := isOf hZ e5q E_aCHAIN
      obtain ⟨_, _, ⟨T6, L6, k6, n6⟩, -, X6, ⟨Lc6, hQ6, l6, y6, z6⟩, st6⟩ := X5.virtualBack hx (y := (⟨"com/example/viewsmith/viewsmith/workload/Shape", "viewExposed", "(I)I"⟩ : MethodName)) (z := (⟨"com/example/viewsmith/viewsmith/workload/Shape", "viewExposed", "(I)I"⟩ : MethodName)) hown (mvT hZ (hw _ (List.mem_of_getElem? (i := 3) rfl))) (mvT hZ (hw _ (List.mem_of_getElem? (i := 4) rfl))) (notFace_of_selects (args := #[]) (mvT hZ (hw _ (List.mem_of_getElem? (i := 6) rfl)))) (mvT hZ (hw _ (List.mem_of_getElem? (i := 14) rfl))) (mvT hZ (hw _ (List.mem_of_getElem? (i := 5) rfl))) (by decide) (backOf (W := 0) (rm1_3 l Z a0 hw [] aCHAIN h0 n0 Z0 E_aCHAIN Fl_aCHAIN Fw_aCHAIN) hZ (hw _ (List.mem_of_getElem? (i := 7) rfl)) (hw _ (List.mem_of_getElem? (i := 1) rfl)) (by decide) (by decide)) q6a q6c (g := (mkF m 84 #[.val (.int p0), .val (.int p1), .val (.int (1 : Int32)), .val (.ref aCHAIN), .val (.int (10 : Int32)), .val (.int (3 : Int32)), .val (.int (10 : Int32)), .val (.int (10 : Int32)), .val (.int (10 : Int32)), .unset] [(.int (81 : Int32)), (.ref aCHAIN)])) rfl (by rw [hml]; rfl) (Steps.refl _) (argsL := [(.int (81 : Int32))]) (rest := []) (lenOf pd_0 rfl) rfl (by show 2 * 0 + _ ≤ _; exact Nat.le_of_eq rfl) (hb hby at_84) (fun _ _ => ⟨rfl, e5q, (by decide : 0 + 0 ≤ _), (by decide : 0 + 0 ≤ _)⟩)
      dsimp only [Pt.U, Pt.locs, Pt.cells, Pt.slots] at X6 l6 y6 z6 st6 hQ6
      subst l6 y6 z6
      obtain ⟨rfl, N6q, e6q⟩ := hQ6
      have N6 := Fr.app N5 N6q
      refine step (T6.setTop (mkF m 87 #[.val (.int p0), .val (.int p1), .val (.int (1 : Int32)), .val (.ref aCHAIN), .val (.int (10 : Int32)), .val (.int (3 : Int32)), .val (.int (10 : Int32)), .val (.int (10 : Int32)), .val (.int (10 : Int32)), .unset] [(.int (3 : Int32))])) (fun t k => st6.trans k) ?_
      refine step (T6.setTop (mkF m 89 #[.val (.int p0), .val (.int p1), .val (.int (1 : Int32)), .val (.ref aCHAIN), .val (.int (10 : Int32)), .val (.int (3 : Int32)), .val (.int (10 : Int32)), .val (.int (10 : Int32)), .val (.int (10 : Int32)), .val (.int (3 : Int32))] [])) (fun t k => XS.istore X6.here hx rfl (hb hby at_87) rfl (l' := #[.val (.int p0), .val (.int p1), .val (.int (1 : Int32)), .val (.ref aCHAIN), .val (.int (10 : Int32)), .val (.int (3 : Int32)), .val (.int (10 : Int32)), .val (.int (10 : Int32)), .val (.int (10 : Int32)), .val (.int (3 : Int32))]) rfl k) ?_
      refine step (T6.setTop (mkF m 91 #[.val (.int p0), .val (.int p1), .val (.int (1 : Int32)), .val (.ref aCHAIN), .val (.int (10 : Int32)), .val (.int (3 : Int32)), .val (.int (10 : Int32)), .val (.int (10 : Int32)), .val (.int (10 : Int32)), .val (.int (3 : Int32))] [(.int (10 : Int32))])) (fun t k => XS.iload X6.here hx rfl (hb hby at_89) rfl k) ?_
      refine step (T6.setTop (mkF m 93 #[.val (.int p0), .val (.int p1), .val (.int (1 : Int32)), .val (.ref aCHAIN), .val (.int (10 : Int32)), .val (.int (3 : Int32)), .val (.int (10 : Int32)), .val (.int (10 : Int32)), .val (.int (10 : Int32)), .val (.int (3 : Int32))] [(.int (10 : Int32)), (.int (10 : Int32))])) (fun t k => XS.iload X6.here hx rfl (hb hby at_91) rfl k) ?_
      refine step (T6.setTop (mkF m 96 #[.val (.int p0), .val (.int p1), .val (.int (1 : Int32)), .val (.ref aCHAIN), .val (.int (10 : Int32)), .val (.int (3 : Int32)), .val (.int (10 : Int32)), .val (.int (10 : Int32)), .val (.int (10 : Int32)), .val (.int (3 : Int32))] [])) (fun t k => XS.icmpNo X6.here hx rfl (hb hby at_93) rfl (teq (by decide : (10 : Int32) = (10 : Int32))).2 k) ?_
      refine step (T6.setTop (mkF m 98 #[.val (.int p0), .val (.int p1), .val (.int (1 : Int32)), .val (.ref aCHAIN), .val (.int (10 : Int32)), .val (.int (3 : Int32)), .val (.int (10 : Int32)), .val (.int (10 : Int32)), .val (.int (10 : Int32)), .val (.int (3 : Int32))] [(.int (10 : Int32))])) (fun t k => XS.iload X6.here hx rfl (hb hby at_96) rfl k) ?_
      refine step (T6.setTop (mkF m 100 #[.val (.int p0), .val (.int p1), .val (.int (1 : Int32)), .val (.ref aCHAIN), .val (.int (10 : Int32)), .val (.int (3 : Int32)), .val (.int (10 : Int32)), .val (.int (10 : Int32)), .val (.int (10 : Int32)), .val (.int (3 : Int32))] [(.int (10 : Int32)), (.int (10 : Int32))])) (fun t k => XS.iload X6.here hx rfl (hb hby at_98) rfl k) ?_
      refine step (T6.setTop (mkF m 103 #[.val (.int p0), .val (.int p1), .val (.int (1 : Int32)), .val (.ref aCHAIN), .val (.int (10 : Int32)), .val (.int (3 : Int32)), .val (.int (10 : Int32)), .val (.int (10 : Int32)), .val (.int (10 : Int32)), .val (.int (3 : Int32))] [])) (fun t k => XS.icmpNo X6.here hx rfl (hb hby at_100) rfl (teq (by decide : (10 : Int32) = (10 : Int32))).2 k) ?_
      refine step (T6.setTop (mkF m 105 #[.val (.int p0), .val (.int p1), .val (.int (1 : Int32)), .val (.ref aCHAIN), .val (.int (10 : Int32)), .val (.int (3 : Int32)), .val (.int (10 : Int32)), .val (.int (10 : Int32)), .val (.int (10 : Int32)), .val (.int (3 : Int32))] [(.int (3 : Int32))])) (fun t k => XS.iload X6.here hx rfl (hb hby at_103) rfl k) ?_
      refine step (T6.setTop (mkF m 107 #[.val (.int p0), .val (.int p1), .val (.int (1 : Int32)), .val (.ref aCHAIN), .val (.int (10 : Int32)), .val (.int (3 : Int32)), .val (.int (10 : Int32)), .val (.int (10 : Int32)), .val (.int (10 : Int32)), .val (.int (3 : Int32))] [(.int (3 : Int32)), (.int (3 : Int32))])) (fun t k => XS.iload X6.here hx rfl (hb hby at_105) rfl k) ?_
      refine step (T6.setTop (mkF m 110 #[.val (.int p0), .val (.int p1), .val (.int (1 : Int32)), .val (.ref aCHAIN), .val (.int (10 : Int32)), .val (.int (3 : Int32)), .val (.int (10 : Int32)), .val (.int (10 : Int32)), .val (.int (10 : Int32)), .val (.int (3 : Int32))] [])) (fun t k => XS.icmpNo X6.here hx rfl (hb hby at_107) rfl (teq (by decide : (3 : Int32) = (3 : Int32))).2 k) ?_
      refine step (T6.setTop (mkF m 111 #[.val (.int p0), .val (.int p1), .val (.int (1 : Int32)), .val (.ref aCHAIN), .val (.int (10 : Int32)), .val (.int (3 : Int32)), .val (.int (10 : Int32)), .val (.int (10 : Int32)), .val (.int (10 : Int32)), .val (.int (3 : Int32))] [(.int (1 : Int32))])) (fun t k => XS.iconst X6.here hx rfl (hb hby at_110) k) ?_
      refine step (T6.setTop (mkF m 115 #[.val (.int p0), .val (.int p1), .val (.int (1 : Int32)), .val (.ref aCHAIN), .val (.int (10 : Int32)), .val (.int (3 : Int32)), .val (.int (10 : Int32)), .val (.int (10 : Int32)), .val (.int (10 : Int32)), .val (.int (3 : Int32))] [(.int (1 : Int32))])) (fun t k => XS.goto X6.here hx rfl (pc0 := 111) (pc' := 115) rfl (hb hby at_111) (by decide) (by decide) k) ?_
      refine fin (v := some (.int (nar .boolean (1 : Int32)))) X6 (fun h => by cases h) ?_ (by decide) (by decide) (fun fs hr => retN X6 hx (t := .boolean) hret (by simp) (hb hby at_115) hr)
      show Q0 Z p0 p1 aSTAR aCHAIN h0 n0 (some (.int (nar .boolean (1 : Int32)))) T6.heap _
      rw [e6q]
      exact ⟨rfl, N6⟩
    · -- pc 52: p0 < (81 : Int32) False
      refine step (T2.setTop (mkF m 62 #[.val (.int p0), .val (.int p1), .val (.int (1 : Int32)), .val (.ref aCHAIN), .val (.int (10 : Int32)), .val (.int (3 : Int32)), .unset, .unset, .unset, .unset] [])) (fun t k => XS.icmpYes X2.here hx rfl (pc0 := 52) (pc' := 62) rfl (hb hby at_52) rfl (flt hc52_3).2.1 (by decide) (by decide) k) ?_
      refine step (T2.setTop (mkF m 64 #[.val (.int p0), .val (.int p1), .val (.int (1 : Int32)), .val (.ref aCHAIN), .val (.int (10 : Int32)), .val (.int (3 : Int32)), .unset, .unset, .unset, .unset] [(.int (3 : Int32))])) (fun t k => XS.iload X2.here hx rfl (hb hby at_62) rfl k) ?_
      refine step (T2.setTop (mkF m 66 #[.val (.int p0), .val (.int p1), .val (.int (1 : Int32)), .val (.ref aCHAIN), .val (.int (10 : Int32)), .val (.int (3 : Int32)), .val (.int (3 : Int32)), .unset, .unset, .unset] [])) (fun t k => XS.istore X2.here hx rfl (hb hby at_64) rfl (l' := #[.val (.int p0), .val (.int p1), .val (.int (1 : Int32)), .val (.ref aCHAIN), .val (.int (10 : Int32)), .val (.int (3 : Int32)), .val (.int (3 : Int32)), .unset, .unset, .unset]) rfl k) ?_
      refine step (T2.setTop (mkF m 67 #[.val (.int p0), .val (.int p1), .val (.int (1 : Int32)), .val (.ref aCHAIN), .val (.int (10 : Int32)), .val (.int (3 : Int32)), .val (.int (3 : Int32)), .unset, .unset, .unset] [(.ref aCHAIN)])) (fun t k => XS.aloadN X2.here hx rfl (hb hby at_66) rfl rfl k) ?_
      refine step (T2.setTop (mkF m 68 #[.val (.int p0), .val (.int p1), .val (.int (1 : Int32)), .val (.ref aCHAIN), .val (.int (10 : Int32)), .val (.int (3 : Int32)), .val (.int (3 : Int32)), .unset, .unset, .unset] [(.int p0), (.ref aCHAIN)])) (fun t k => XS.iloadN X2.here hx rfl (hb hby at_67) rfl k) ?_
      obtain ⟨cq7, kq7, q7a, q7b, q7c⟩ := isOf hZ e2 E_aCHAIN
      obtain ⟨_, _, ⟨T7, L7, k7, n7⟩, -, X7, ⟨Lc7, hQ7, l7, y7, z7⟩, st7⟩ := X2.virtualBack hx (y := (⟨"com/example/viewsmith/viewsmith/workload/Shape", "viewExposed", "(I)I"⟩ : MethodName)) (z := (⟨"com/example/viewsmith/viewsmith/workload/Shape", "viewExposed", "(I)I"⟩ : MethodName)) hown (mvT hZ (hw _ (List.mem_of_getElem? (i := 3) rfl))) (mvT hZ (hw _ (List.mem_of_getElem? (i := 4) rfl))) (notFace_of_selects (args := #[]) (mvT hZ (hw _ (List.mem_of_getElem? (i := 6) rfl)))) (mvT hZ (hw _ (List.mem_of_getElem? (i := 14) rfl))) (mvT hZ (hw _ (List.mem_of_getElem? (i := 5) rfl))) (by decide) (backOf (W := 0) (rm1_4 l Z a0 hw [] aCHAIN p0 h0 n0 Z0 E_aCHAIN Fl_aCHAIN Fw_aCHAIN hc52_3 (own_81' hc52_3)) hZ (hw _ (List.mem_of_getElem? (i := 7) rfl)) (hw _ (List.mem_of_getElem? (i := 1) rfl)) (by decide) (by decide)) q7a q7c (g := (mkF m 68 #[.val (.int p0), .val (.int p1), .val (.int (1 : Int32)), .val (.ref aCHAIN), .val (.int (10 : Int32)), .val (.int (3 : Int32)), .val (.int (3 : Int32)), .unset, .unset, .unset] [(.int p0), (.ref aCHAIN)])) rfl (by rw [hml]; rfl) (Steps.refl _) (argsL := [(.int p0)]) (rest := []) (lenOf pd_0 rfl) rfl (by show 2 * 0 + _ ≤ _; exact Nat.le_of_eq rfl) (hb hby at_68) (fun _ _ => ⟨rfl, e2, (by decide : 0 + 0 ≤ _), (by decide : 0 + 0 ≤ _)⟩)
      dsimp only [Pt.U, Pt.locs, Pt.cells, Pt.slots] at X7 l7 y7 z7 st7 hQ7
      subst l7 y7 z7
      obtain ⟨rfl, N7q, e7q⟩ := hQ7
      have N7 := Fr.app N0 N7q
      refine step (T7.setTop (mkF m 71 #[.val (.int p0), .val (.int p1), .val (.int (1 : Int32)), .val (.ref aCHAIN), .val (.int (10 : Int32)), .val (.int (3 : Int32)), .val (.int (3 : Int32)), .unset, .unset, .unset] [(.int (3 : Int32))])) (fun t k => st7.trans k) ?_
      refine step (T7.setTop (mkF m 73 #[.val (.int p0), .val (.int p1), .val (.int (1 : Int32)), .val (.ref aCHAIN), .val (.int (10 : Int32)), .val (.int (3 : Int32)), .val (.int (3 : Int32)), .val (.int (3 : Int32)), .unset, .unset] [])) (fun t k => XS.istore X7.here hx rfl (hb hby at_71) rfl (l' := #[.val (.int p0), .val (.int p1), .val (.int (1 : Int32)), .val (.ref aCHAIN), .val (.int (10 : Int32)), .val (.int (3 : Int32)), .val (.int (3 : Int32)), .val (.int (3 : Int32)), .unset, .unset]) rfl k) ?_
      refine step (T7.setTop (mkF m 74 #[.val (.int p0), .val (.int p1), .val (.int (1 : Int32)), .val (.ref aCHAIN), .val (.int (10 : Int32)), .val (.int (3 : Int32)), .val (.int (3 : Int32)), .val (.int (3 : Int32)), .unset, .unset] [(.ref aCHAIN)])) (fun t k => XS.aloadN X7.here hx rfl (hb hby at_73) rfl rfl k) ?_
      refine step (T7.setTop (mkF m 76 #[.val (.int p0), .val (.int p1), .val (.int (1 : Int32)), .val (.ref aCHAIN), .val (.int (10 : Int32)), .val (.int (3 : Int32)), .val (.int (3 : Int32)), .val (.int (3 : Int32)), .unset, .unset] [(.int (80 : Int32)), (.ref aCHAIN)])) (fun t k => XS.bipush X7.here hx rfl (hb hby at_74) k) ?_
      obtain ⟨cq8, kq8, q8a, q8b, q8c⟩ := isOf hZ e7q E_aCHAIN
      obtain ⟨_, _, ⟨T8, L8, k8, n8⟩, -, X8, ⟨Lc8, hQ8, l8, y8, z8⟩, st8⟩ := X7.virtualBack hx (y := (⟨"com/example/viewsmith/viewsmith/workload/Shape", "viewExposed", "(I)I"⟩ : MethodName)) (z := (⟨"com/example/viewsmith/viewsmith/workload/Shape", "viewExposed", "(I)I"⟩ : MethodName)) hown (mvT hZ (hw _ (List.mem_of_getElem? (i := 3) rfl))) (mvT hZ (hw _ (List.mem_of_getElem? (i := 4) rfl))) (notFace_of_selects (args := #[]) (mvT hZ (hw _ (List.mem_of_getElem? (i := 6) rfl)))) (mvT hZ (hw _ (List.mem_of_getElem? (i := 14) rfl))) (mvT hZ (hw _ (List.mem_of_getElem? (i := 5) rfl))) (by decide) (backOf (W := 0) (rm1_2 l Z a0 hw [] aCHAIN h0 n0 Z0 E_aCHAIN Fl_aCHAIN Fw_aCHAIN) hZ (hw _ (List.mem_of_getElem? (i := 7) rfl)) (hw _ (List.mem_of_getElem? (i := 1) rfl)) (by decide) (by decide)) q8a q8c (g := (mkF m 76 #[.val (.int p0), .val (.int p1), .val (.int (1 : Int32)), .val (.ref aCHAIN), .val (.int (10 : Int32)), .val (.int (3 : Int32)), .val (.int (3 : Int32)), .val (.int (3 : Int32)), .unset, .unset] [(.int (80 : Int32)), (.ref aCHAIN)])) rfl (by rw [hml]; rfl) (Steps.refl _) (argsL := [(.int (80 : Int32))]) (rest := []) (lenOf pd_0 rfl) rfl (by show 2 * 0 + _ ≤ _; exact Nat.le_of_eq rfl) (hb hby at_76) (fun _ _ => ⟨rfl, e7q, (by decide : 0 + 0 ≤ _), (by decide : 0 + 0 ≤ _)⟩)
      dsimp only [Pt.U, Pt.locs, Pt.cells, Pt.slots] at X8 l8 y8 z8 st8 hQ8
      subst l8 y8 z8
      obtain ⟨rfl, N8q, e8q⟩ := hQ8
      have N8 := Fr.app N7 N8q
      refine step (T8.setTop (mkF m 79 #[.val (.int p0), .val (.int p1), .val (.int (1 : Int32)), .val (.ref aCHAIN), .val (.int (10 : Int32)), .val (.int (3 : Int32)), .val (.int (3 : Int32)), .val (.int (3 : Int32)), .unset, .unset] [(.int (10 : Int32))])) (fun t k => st8.trans k) ?_
      refine step (T8.setTop (mkF m 81 #[.val (.int p0), .val (.int p1), .val (.int (1 : Int32)), .val (.ref aCHAIN), .val (.int (10 : Int32)), .val (.int (3 : Int32)), .val (.int (3 : Int32)), .val (.int (3 : Int32)), .val (.int (10 : Int32)), .unset] [])) (fun t k => XS.istore X8.here hx rfl (hb hby at_79) rfl (l' := #[.val (.int p0), .val (.int p1), .val (.int (1 : Int32)), .val (.ref aCHAIN), .val (.int (10 : Int32)), .val (.int (3 : Int32)), .val (.int (3 : Int32)), .val (.int (3 : Int32)), .val (.int (10 : Int32)), .unset]) rfl k) ?_
      refine step (T8.setTop (mkF m 82 #[.val (.int p0), .val (.int p1), .val (.int (1 : Int32)), .val (.ref aCHAIN), .val (.int (10 : Int32)), .val (.int (3 : Int32)), .val (.int (3 : Int32)), .val (.int (3 : Int32)), .val (.int (10 : Int32)), .unset] [(.ref aCHAIN)])) (fun t k => XS.aloadN X8.here hx rfl (hb hby at_81) rfl rfl k) ?_
      refine step (T8.setTop (mkF m 84 #[.val (.int p0), .val (.int p1), .val (.int (1 : Int32)), .val (.ref aCHAIN), .val (.int (10 : Int32)), .val (.int (3 : Int32)), .val (.int (3 : Int32)), .val (.int (3 : Int32)), .val (.int (10 : Int32)), .unset] [(.int (81 : Int32)), (.ref aCHAIN)])) (fun t k => XS.bipush X8.here hx rfl (hb hby at_82) k) ?_
      obtain ⟨cq9, kq9, q9a, q9b, q9c⟩ := isOf hZ e8q E_aCHAIN
      obtain ⟨_, _, ⟨T9, L9, k9, n9⟩, -, X9, ⟨Lc9, hQ9, l9, y9, z9⟩, st9⟩ := X8.virtualBack hx (y := (⟨"com/example/viewsmith/viewsmith/workload/Shape", "viewExposed", "(I)I"⟩ : MethodName)) (z := (⟨"com/example/viewsmith/viewsmith/workload/Shape", "viewExposed", "(I)I"⟩ : MethodName)) hown (mvT hZ (hw _ (List.mem_of_getElem? (i := 3) rfl))) (mvT hZ (hw _ (List.mem_of_getElem? (i := 4) rfl))) (notFace_of_selects (args := #[]) (mvT hZ (hw _ (List.mem_of_getElem? (i := 6) rfl)))) (mvT hZ (hw _ (List.mem_of_getElem? (i := 14) rfl))) (mvT hZ (hw _ (List.mem_of_getElem? (i := 5) rfl))) (by decide) (backOf (W := 0) (rm1_3 l Z a0 hw [] aCHAIN h0 n0 Z0 E_aCHAIN Fl_aCHAIN Fw_aCHAIN) hZ (hw _ (List.mem_of_getElem? (i := 7) rfl)) (hw _ (List.mem_of_getElem? (i := 1) rfl)) (by decide) (by decide)) q9a q9c (g := (mkF m 84 #[.val (.int p0), .val (.int p1), .val (.int (1 : Int32)), .val (.ref aCHAIN), .val (.int (10 : Int32)), .val (.int (3 : Int32)), .val (.int (3 : Int32)), .val (.int (3 : Int32)), .val (.int (10 : Int32)), .unset] [(.int (81 : Int32)), (.ref aCHAIN)])) rfl (by rw [hml]; rfl) (Steps.refl _) (argsL := [(.int (81 : Int32))]) (rest := []) (lenOf pd_0 rfl) rfl (by show 2 * 0 + _ ≤ _; exact Nat.le_of_eq rfl) (hb hby at_84) (fun _ _ => ⟨rfl, e8q, (by decide : 0 + 0 ≤ _), (by decide : 0 + 0 ≤ _)⟩)
      dsimp only [Pt.U, Pt.locs, Pt.cells, Pt.slots] at X9 l9 y9 z9 st9 hQ9
      subst l9 y9 z9
      obtain ⟨rfl, N9q, e9q⟩ := hQ9
      have N9 := Fr.app N8 N9q
      refine step (T9.setTop (mkF m 87 #[.val (.int p0), .val (.int p1), .val (.int (1 : Int32)), .val (.ref aCHAIN), .val (.int (10 : Int32)), .val (.int (3 : Int32)), .val (.int (3 : Int32)), .val (.int (3 : Int32)), .val (.int (10 : Int32)), .unset] [(.int (3 : Int32))])) (fun t k => st9.trans k) ?_
      refine step (T9.setTop (mkF m 89 #[.val (.int p0), .val (.int p1), .val (.int (1 : Int32)), .val (.ref aCHAIN), .val (.int (10 : Int32)), .val (.int (3 : Int32)), .val (.int (3 : Int32)), .val (.int (3 : Int32)), .val (.int (10 : Int32)), .val (.int (3 : Int32))] [])) (fun t k => XS.istore X9.here hx rfl (hb hby at_87) rfl (l' := #[.val (.int p0), .val (.int p1), .val (.int (1 : Int32)), .val (.ref aCHAIN), .val (.int (10 : Int32)), .val (.int (3 : Int32)), .val (.int (3 : Int32)), .val (.int (3 : Int32)), .val (.int (10 : Int32)), .val (.int (3 : Int32))]) rfl k) ?_
      refine step (T9.setTop (mkF m 91 #[.val (.int p0), .val (.int p1), .val (.int (1 : Int32)), .val (.ref aCHAIN), .val (.int (10 : Int32)), .val (.int (3 : Int32)), .val (.int (3 : Int32)), .val (.int (3 : Int32)), .val (.int (10 : Int32)), .val (.int (3 : Int32))] [(.int (3 : Int32))])) (fun t k => XS.iload X9.here hx rfl (hb hby at_89) rfl k) ?_
      refine step (T9.setTop (mkF m 93 #[.val (.int p0), .val (.int p1), .val (.int (1 : Int32)), .val (.ref aCHAIN), .val (.int (10 : Int32)), .val (.int (3 : Int32)), .val (.int (3 : Int32)), .val (.int (3 : Int32)), .val (.int (10 : Int32)), .val (.int (3 : Int32))] [(.int (3 : Int32)), (.int (3 : Int32))])) (fun t k => XS.iload X9.here hx rfl (hb hby at_91) rfl k) ?_
      refine step (T9.setTop (mkF m 96 #[.val (.int p0), .val (.int p1), .val (.int (1 : Int32)), .val (.ref aCHAIN), .val (.int (10 : Int32)), .val (.int (3 : Int32)), .val (.int (3 : Int32)), .val (.int (3 : Int32)), .val (.int (10 : Int32)), .val (.int (3 : Int32))] [])) (fun t k => XS.icmpNo X9.here hx rfl (hb hby at_93) rfl (teq (by decide : (3 : Int32) = (3 : Int32))).2 k) ?_
      refine step (T9.setTop (mkF m 98 #[.val (.int p0), .val (.int p1), .val (.int (1 : Int32)), .val (.ref aCHAIN), .val (.int (10 : Int32)), .val (.int (3 : Int32)), .val (.int (3 : Int32)), .val (.int (3 : Int32)), .val (.int (10 : Int32)), .val (.int (3 : Int32))] [(.int (10 : Int32))])) (fun t k => XS.iload X9.here hx rfl (hb hby at_96) rfl k) ?_
      refine step (T9.setTop (mkF m 100 #[.val (.int p0), .val (.int p1), .val (.int (1 : Int32)), .val (.ref aCHAIN), .val (.int (10 : Int32)), .val (.int (3 : Int32)), .val (.int (3 : Int32)), .val (.int (3 : Int32)), .val (.int (10 : Int32)), .val (.int (3 : Int32))] [(.int (10 : Int32)), (.int (10 : Int32))])) (fun t k => XS.iload X9.here hx rfl (hb hby at_98) rfl k) ?_
      refine step (T9.setTop (mkF m 103 #[.val (.int p0), .val (.int p1), .val (.int (1 : Int32)), .val (.ref aCHAIN), .val (.int (10 : Int32)), .val (.int (3 : Int32)), .val (.int (3 : Int32)), .val (.int (3 : Int32)), .val (.int (10 : Int32)), .val (.int (3 : Int32))] [])) (fun t k => XS.icmpNo X9.here hx rfl (hb hby at_100) rfl (teq (by decide : (10 : Int32) = (10 : Int32))).2 k) ?_
      refine step (T9.setTop (mkF m 105 #[.val (.int p0), .val (.int p1), .val (.int (1 : Int32)), .val (.ref aCHAIN), .val (.int (10 : Int32)), .val (.int (3 : Int32)), .val (.int (3 : Int32)), .val (.int (3 : Int32)), .val (.int (10 : Int32)), .val (.int (3 : Int32))] [(.int (3 : Int32))])) (fun t k => XS.iload X9.here hx rfl (hb hby at_103) rfl k) ?_
      refine step (T9.setTop (mkF m 107 #[.val (.int p0), .val (.int p1), .val (.int (1 : Int32)), .val (.ref aCHAIN), .val (.int (10 : Int32)), .val (.int (3 : Int32)), .val (.int (3 : Int32)), .val (.int (3 : Int32)), .val (.int (10 : Int32)), .val (.int (3 : Int32))] [(.int (3 : Int32)), (.int (3 : Int32))])) (fun t k => XS.iload X9.here hx rfl (hb hby at_105) rfl k) ?_
      refine step (T9.setTop (mkF m 110 #[.val (.int p0), .val (.int p1), .val (.int (1 : Int32)), .val (.ref aCHAIN), .val (.int (10 : Int32)), .val (.int (3 : Int32)), .val (.int (3 : Int32)), .val (.int (3 : Int32)), .val (.int (10 : Int32)), .val (.int (3 : Int32))] [])) (fun t k => XS.icmpNo X9.here hx rfl (hb hby at_107) rfl (teq (by decide : (3 : Int32) = (3 : Int32))).2 k) ?_
      refine step (T9.setTop (mkF m 111 #[.val (.int p0), .val (.int p1), .val (.int (1 : Int32)), .val (.ref aCHAIN), .val (.int (10 : Int32)), .val (.int (3 : Int32)), .val (.int (3 : Int32)), .val (.int (3 : Int32)), .val (.int (10 : Int32)), .val (.int (3 : Int32))] [(.int (1 : Int32))])) (fun t k => XS.iconst X9.here hx rfl (hb hby at_110) k) ?_
      refine step (T9.setTop (mkF m 115 #[.val (.int p0), .val (.int p1), .val (.int (1 : Int32)), .val (.ref aCHAIN), .val (.int (10 : Int32)), .val (.int (3 : Int32)), .val (.int (3 : Int32)), .val (.int (3 : Int32)), .val (.int (10 : Int32)), .val (.int (3 : Int32))] [(.int (1 : Int32))])) (fun t k => XS.goto X9.here hx rfl (pc0 := 111) (pc' := 115) rfl (hb hby at_111) (by decide) (by decide) k) ?_
      refine fin (v := some (.int (nar .boolean (1 : Int32)))) X9 (fun h => by cases h) ?_ (by decide) (by decide) (fun fs hr => retN X9 hx (t := .boolean) hret (by simp) (hb hby at_115) hr)
      show Q0 Z p0 p1 aSTAR aCHAIN h0 n0 (some (.int (nar .boolean (1 : Int32)))) T9.heap _
      rw [e9q]
      exact ⟨rfl, N9⟩
  · -- pc 3: (p1 &&& (1 : Int32)) = (0 : Int32) False
    refine step (s₁.setTop (mkF m 10 #[.val (.int p0), .val (.int p1), .unset, .unset, .unset, .unset, .unset, .unset, .unset, .unset] [])) (fun t k => XS.ifYes X0.here hx rfl (pc0 := 3) (pc' := 10) rfl (hb hby at_3) rfl ((if0 _ _).trans (feq hc3_1).2) (by decide) (by decide) k) ?_
    refine step (s₁.setTop (mkF m 11 #[.val (.int p0), .val (.int p1), .unset, .unset, .unset, .unset, .unset, .unset, .unset, .unset] [(.int (0 : Int32))])) (fun t k => XS.iconst X0.here hx rfl (hb hby at_10) k) ?_
    refine step (s₁.setTop (mkF m 12 #[.val (.int p0), .val (.int p1), .val (.int (0 : Int32)), .unset, .unset, .unset, .unset, .unset, .unset, .unset] [])) (fun t k => XS.istoreN X0.here hx rfl (hb hby at_11) rfl (l' := #[.val (.int p0), .val (.int p1), .val (.int (0 : Int32)), .unset, .unset, .unset, .unset, .unset, .unset, .unset]) rfl k) ?_
    refine step (s₁.setTop (mkF m 13 #[.val (.int p0), .val (.int p1), .val (.int (0 : Int32)), .unset, .unset, .unset, .unset, .unset, .unset, .unset] [(.int (0 : Int32))])) (fun t k => XS.iloadN X0.here hx rfl (hb hby at_12) rfl k) ?_
    refine step (s₁.setTop (mkF m 22 #[.val (.int p0), .val (.int p1), .val (.int (0 : Int32)), .unset, .unset, .unset, .unset, .unset, .unset, .unset] [])) (fun t k => XS.ifYes X0.here hx rfl (pc0 := 13) (pc' := 22) rfl (hb hby at_13) rfl ((if0 _ _).trans (teq (by decide : (0 : Int32) = (0 : Int32))).1) (by decide) (by decide) k) ?_
    obtain ⟨T10, X10, e10, st10⟩ := getS2 X0 hx hZ hown (host := "") (Or.inl (hw _ (List.mem_of_getElem? (i := 0) rfl))) Via.refl e0 S_aSTAR (g := (mkF m 22 #[.val (.int p0), .val (.int p1), .val (.int (0 : Int32)), .unset, .unset, .unset, .unset, .unset, .unset, .unset] [])) rfl (hb hby at_22)
    refine step (T10.setTop (mkF m 25 #[.val (.int p0), .val (.int p1), .val (.int (0 : Int32)), .unset, .unset, .unset, .unset, .unset, .unset, .unset] [(.ref aSTAR)])) (fun t k => st10 t k) ?_
    refine step (T10.setTop (mkF m 26 #[.val (.int p0), .val (.int p1), .val (.int (0 : Int32)), .val (.ref aSTAR), .unset, .unset, .unset, .unset, .unset, .unset] [])) (fun t k => XS.astoreN X10.here hx rfl (hb hby at_25) rfl rfl (l' := #[.val (.int p0), .val (.int p1), .val (.int (0 : Int32)), .val (.ref aSTAR), .unset, .unset, .unset, .unset, .unset, .unset]) rfl k) ?_
    refine step (T10.setTop (mkF m 27 #[.val (.int p0), .val (.int p1), .val (.int (0 : Int32)), .val (.ref aSTAR), .unset, .unset, .unset, .unset, .unset, .unset] [(.int (0 : Int32))])) (fun t k => XS.iloadN X10.here hx rfl (hb hby at_26) rfl k) ?_
    refine step (T10.setTop (mkF m 35 #[.val (.int p0), .val (.int p1), .val (.int (0 : Int32)), .val (.ref aSTAR), .unset, .unset, .unset, .unset, .unset, .unset] [])) (fun t k => XS.ifYes X10.here hx rfl (pc0 := 27) (pc' := 35) rfl (hb hby at_27) rfl ((if0 _ _).trans (teq (by decide : (0 : Int32) = (0 : Int32))).1) (by decide) (by decide) k) ?_
    refine step (T10.setTop (mkF m 36 #[.val (.int p0), .val (.int p1), .val (.int (0 : Int32)), .val (.ref aSTAR), .unset, .unset, .unset, .unset, .unset, .unset] [(.int (4 : Int32))])) (fun t k => XS.iconst X10.here hx rfl (hb hby at_35) k) ?_
    refine step (T10.setTop (mkF m 38 #[.val (.int p0), .val (.int p1), .val (.int (0 : Int32)), .val (.ref aSTAR), .val (.int (4 : Int32)), .unset, .unset, .unset, .unset, .unset] [])) (fun t k => XS.istore X10.here hx rfl (hb hby at_36) rfl (l' := #[.val (.int p0), .val (.int p1), .val (.int (0 : Int32)), .val (.ref aSTAR), .val (.int (4 : Int32)), .unset, .unset, .unset, .unset, .unset]) rfl k) ?_
    refine step (T10.setTop (mkF m 39 #[.val (.int p0), .val (.int p1), .val (.int (0 : Int32)), .val (.ref aSTAR), .val (.int (4 : Int32)), .unset, .unset, .unset, .unset, .unset] [(.int (0 : Int32))])) (fun t k => XS.iloadN X10.here hx rfl (hb hby at_38) rfl k) ?_
    refine step (T10.setTop (mkF m 46 #[.val (.int p0), .val (.int p1), .val (.int (0 : Int32)), .val (.ref aSTAR), .val (.int (4 : Int32)), .unset, .unset, .unset, .unset, .unset] [])) (fun t k => XS.ifYes X10.here hx rfl (pc0 := 39) (pc' := 46) rfl (hb hby at_39) rfl ((if0 _ _).trans (teq (by decide : (0 : Int32) = (0 : Int32))).1) (by decide) (by decide) k) ?_
    refine step (T10.setTop (mkF m 47 #[.val (.int p0), .val (.int p1), .val (.int (0 : Int32)), .val (.ref aSTAR), .val (.int (4 : Int32)), .unset, .unset, .unset, .unset, .unset] [(.int (4 : Int32))])) (fun t k => XS.iconst X10.here hx rfl (hb hby at_46) k) ?_
    refine step (T10.setTop (mkF m 49 #[.val (.int p0), .val (.int p1), .val (.int (0 : Int32)), .val (.ref aSTAR), .val (.int (4 : Int32)), .val (.int (4 : Int32)), .unset, .unset, .unset, .unset] [])) (fun t k => XS.istore X10.here hx rfl (hb hby at_47) rfl (l' := #[.val (.int p0), .val (.int p1), .val (.int (0 : Int32)), .val (.ref aSTAR), .val (.int (4 : Int32)), .val (.int (4 : Int32)), .unset, .unset, .unset, .unset]) rfl k) ?_
    refine step (T10.setTop (mkF m 50 #[.val (.int p0), .val (.int p1), .val (.int (0 : Int32)), .val (.ref aSTAR), .val (.int (4 : Int32)), .val (.int (4 : Int32)), .unset, .unset, .unset, .unset] [(.int p0)])) (fun t k => XS.iloadN X10.here hx rfl (hb hby at_49) rfl k) ?_
    refine step (T10.setTop (mkF m 52 #[.val (.int p0), .val (.int p1), .val (.int (0 : Int32)), .val (.ref aSTAR), .val (.int (4 : Int32)), .val (.int (4 : Int32)), .unset, .unset, .unset, .unset] [(.int (81 : Int32)), (.int p0)])) (fun t k => XS.bipush X10.here hx rfl (hb hby at_50) k) ?_
    by_cases hc52_11 : p0 < (81 : Int32)
    · -- pc 52: p0 < (81 : Int32) True
      refine step (T10.setTop (mkF m 55 #[.val (.int p0), .val (.int p1), .val (.int (0 : Int32)), .val (.ref aSTAR), .val (.int (4 : Int32)), .val (.int (4 : Int32)), .unset, .unset, .unset, .unset] [])) (fun t k => XS.icmpNo X10.here hx rfl (hb hby at_52) rfl (tlt hc52_11).2.1 k) ?_
      refine step (T10.setTop (mkF m 57 #[.val (.int p0), .val (.int p1), .val (.int (0 : Int32)), .val (.ref aSTAR), .val (.int (4 : Int32)), .val (.int (4 : Int32)), .unset, .unset, .unset, .unset] [(.int (4 : Int32))])) (fun t k => XS.iload X10.here hx rfl (hb hby at_55) rfl k) ?_
      refine step (T10.setTop (mkF m 59 #[.val (.int p0), .val (.int p1), .val (.int (0 : Int32)), .val (.ref aSTAR), .val (.int (4 : Int32)), .val (.int (4 : Int32)), .val (.int (4 : Int32)), .unset, .unset, .unset] [])) (fun t k => XS.istore X10.here hx rfl (hb hby at_57) rfl (l' := #[.val (.int p0), .val (.int p1), .val (.int (0 : Int32)), .val (.ref aSTAR), .val (.int (4 : Int32)), .val (.int (4 : Int32)), .val (.int (4 : Int32)), .unset, .unset, .unset]) rfl k) ?_
      refine step (T10.setTop (mkF m 66 #[.val (.int p0), .val (.int p1), .val (.int (0 : Int32)), .val (.ref aSTAR), .val (.int (4 : Int32)), .val (.int (4 : Int32)), .val (.int (4 : Int32)), .unset, .unset, .unset] [])) (fun t k => XS.goto X10.here hx rfl (pc0 := 59) (pc' := 66) rfl (hb hby at_59) (by decide) (by decide) k) ?_
      refine step (T10.setTop (mkF m 67 #[.val (.int p0), .val (.int p1), .val (.int (0 : Int32)), .val (.ref aSTAR), .val (.int (4 : Int32)), .val (.int (4 : Int32)), .val (.int (4 : Int32)), .unset, .unset, .unset] [(.ref aSTAR)])) (fun t k => XS.aloadN X10.here hx rfl (hb hby at_66) rfl rfl k) ?_
      refine step (T10.setTop (mkF m 68 #[.val (.int p0), .val (.int p1), .val (.int (0 : Int32)), .val (.ref aSTAR), .val (.int (4 : Int32)), .val (.int (4 : Int32)), .val (.int (4 : Int32)), .unset, .unset, .unset] [(.int p0), (.ref aSTAR)])) (fun t k => XS.iloadN X10.here hx rfl (hb hby at_67) rfl k) ?_
      obtain ⟨cq12, kq12, q12a, q12b, q12c⟩ := isOf hZ e10 E_aSTAR
      obtain ⟨_, _, ⟨T12, L12, k12, n12⟩, -, X12, ⟨Lc12, hQ12, l12, y12, z12⟩, st12⟩ := X10.virtualBack hx (y := (⟨"com/example/viewsmith/viewsmith/workload/Shape", "viewExposed", "(I)I"⟩ : MethodName)) (z := (⟨"com/example/viewsmith/viewsmith/workload/Shape", "viewExposed", "(I)I"⟩ : MethodName)) hown (mvT hZ (hw _ (List.mem_of_getElem? (i := 3) rfl))) (mvT hZ (hw _ (List.mem_of_getElem? (i := 4) rfl))) (notFace_of_selects (args := #[]) (mvT hZ (hw _ (List.mem_of_getElem? (i := 6) rfl)))) (mvT hZ (hw _ (List.mem_of_getElem? (i := 6) rfl))) (mvT hZ (hw _ (List.mem_of_getElem? (i := 5) rfl))) (by decide) (backOf (W := 0) (rm1_5 l Z a0 hw [] aSTAR p0 h0 n0 Z0 E_aSTAR Fl_aSTAR Fw_aSTAR hc52_11 (own_81 hc52_11)) hZ (hw _ (List.mem_of_getElem? (i := 7) rfl)) (hw _ (List.mem_of_getElem? (i := 1) rfl)) (by decide) (by decide)) q12a q12c (g := (mkF m 68 #[.val (.int p0), .val (.int p1), .val (.int (0 : Int32)), .val (.ref aSTAR), .val (.int (4 : Int32)), .val (.int (4 : Int32)), .val (.int (4 : Int32)), .unset, .unset, .unset] [(.int p0), (.ref aSTAR)])) rfl (by rw [hml]; rfl) (Steps.refl _) (argsL := [(.int p0)]) (rest := []) (lenOf pd_0 rfl) rfl (by show 2 * 0 + _ ≤ _; exact Nat.le_of_eq rfl) (hb hby at_68) (fun _ _ => ⟨rfl, e10, (by decide : 0 + 0 ≤ _), (by decide : 0 + 0 ≤ _)⟩)
      dsimp only [Pt.U, Pt.locs, Pt.cells, Pt.slots] at X12 l12 y12 z12 st12 hQ12
      subst l12 y12 z12
      obtain ⟨rfl, N12q, e12q⟩ := hQ12
      have N12 := Fr.app N0 N12q
      refine step (T12.setTop (mkF m 71 #[.val (.int p0), .val (.int p1), .val (.int (0 : Int32)), .val (.ref aSTAR), .val (.int (4 : Int32)), .val (.int (4 : Int32)), .val (.int (4 : Int32)), .unset, .unset, .unset] [(.int (4 : Int32))])) (fun t k => st12.trans k) ?_
      refine step (T12.setTop (mkF m 73 #[.val (.int p0), .val (.int p1), .val (.int (0 : Int32)), .val (.ref aSTAR), .val (.int (4 : Int32)), .val (.int (4 : Int32)), .val (.int (4 : Int32)), .val (.int (4 : Int32)), .unset, .unset] [])) (fun t k => XS.istore X12.here hx rfl (hb hby at_71) rfl (l' := #[.val (.int p0), .val (.int p1), .val (.int (0 : Int32)), .val (.ref aSTAR), .val (.int (4 : Int32)), .val (.int (4 : Int32)), .val (.int (4 : Int32)), .val (.int (4 : Int32)), .unset, .unset]) rfl k) ?_
      refine step (T12.setTop (mkF m 74 #[.val (.int p0), .val (.int p1), .val (.int (0 : Int32)), .val (.ref aSTAR), .val (.int (4 : Int32)), .val (.int (4 : Int32)), .val (.int (4 : Int32)), .val (.int (4 : Int32)), .unset, .unset] [(.ref aSTAR)])) (fun t k => XS.aloadN X12.here hx rfl (hb hby at_73) rfl rfl k) ?_
      refine step (T12.setTop (mkF m 76 #[.val (.int p0), .val (.int p1), .val (.int (0 : Int32)), .val (.ref aSTAR), .val (.int (4 : Int32)), .val (.int (4 : Int32)), .val (.int (4 : Int32)), .val (.int (4 : Int32)), .unset, .unset] [(.int (80 : Int32)), (.ref aSTAR)])) (fun t k => XS.bipush X12.here hx rfl (hb hby at_74) k) ?_
      obtain ⟨cq13, kq13, q13a, q13b, q13c⟩ := isOf hZ e12q E_aSTAR
      obtain ⟨_, _, ⟨T13, L13, k13, n13⟩, -, X13, ⟨Lc13, hQ13, l13, y13, z13⟩, st13⟩ := X12.virtualBack hx (y := (⟨"com/example/viewsmith/viewsmith/workload/Shape", "viewExposed", "(I)I"⟩ : MethodName)) (z := (⟨"com/example/viewsmith/viewsmith/workload/Shape", "viewExposed", "(I)I"⟩ : MethodName)) hown (mvT hZ (hw _ (List.mem_of_getElem? (i := 3) rfl))) (mvT hZ (hw _ (List.mem_of_getElem? (i := 4) rfl))) (notFace_of_selects (args := #[]) (mvT hZ (hw _ (List.mem_of_getElem? (i := 6) rfl)))) (mvT hZ (hw _ (List.mem_of_getElem? (i := 6) rfl))) (mvT hZ (hw _ (List.mem_of_getElem? (i := 5) rfl))) (by decide) (backOf (W := 0) (rm1_6 l Z a0 hw [] aSTAR h0 n0 Z0 E_aSTAR Fl_aSTAR Fw_aSTAR) hZ (hw _ (List.mem_of_getElem? (i := 7) rfl)) (hw _ (List.mem_of_getElem? (i := 1) rfl)) (by decide) (by decide)) q13a q13c (g := (mkF m 76 #[.val (.int p0), .val (.int p1), .val (.int (0 : Int32)), .val (.ref aSTAR), .val (.int (4 : Int32)), .val (.int (4 : Int32)), .val (.int (4 : Int32)), .val (.int (4 : Int32)), .unset, .unset] [(.int (80 : Int32)), (.ref aSTAR)])) rfl (by rw [hml]; rfl) (Steps.refl _) (argsL := [(.int (80 : Int32))]) (rest := []) (lenOf pd_0 rfl) rfl (by show 2 * 0 + _ ≤ _; exact Nat.le_of_eq rfl) (hb hby at_76) (fun _ _ => ⟨rfl, e12q, (by decide : 0 + 0 ≤ _), (by decide : 0 + 0 ≤ _)⟩)
      dsimp only [Pt.U, Pt.locs, Pt.cells, Pt.slots] at X13 l13 y13 z13 st13 hQ13
      subst l13 y13 z13
      obtain ⟨rfl, N13q, e13q⟩ := hQ13
      have N13 := Fr.app N12 N13q
      refine step (T13.setTop (mkF m 79 #[.val (.int p0), .val (.int p1), .val (.int (0 : Int32)), .val (.ref aSTAR), .val (.int (4 : Int32)), .val (.int (4 : Int32)), .val (.int (4 : Int32)), .val (.int (4 : Int32)), .unset, .unset] [(.int (4 : Int32))])) (fun t k => st13.trans k) ?_
      refine step (T13.setTop (mkF m 81 #[.val (.int p0), .val (.int p1), .val (.int (0 : Int32)), .val (.ref aSTAR), .val (.int (4 : Int32)), .val (.int (4 : Int32)), .val (.int (4 : Int32)), .val (.int (4 : Int32)), .val (.int (4 : Int32)), .unset] [])) (fun t k => XS.istore X13.here hx rfl (hb hby at_79) rfl (l' := #[.val (.int p0), .val (.int p1), .val (.int (0 : Int32)), .val (.ref aSTAR), .val (.int (4 : Int32)), .val (.int (4 : Int32)), .val (.int (4 : Int32)), .val (.int (4 : Int32)), .val (.int (4 : Int32)), .unset]) rfl k) ?_
      refine step (T13.setTop (mkF m 82 #[.val (.int p0), .val (.int p1), .val (.int (0 : Int32)), .val (.ref aSTAR), .val (.int (4 : Int32)), .val (.int (4 : Int32)), .val (.int (4 : Int32)), .val (.int (4 : Int32)), .val (.int (4 : Int32)), .unset] [(.ref aSTAR)])) (fun t k => XS.aloadN X13.here hx rfl (hb hby at_81) rfl rfl k) ?_
      refine step (T13.setTop (mkF m 84 #[.val (.int p0), .val (.int p1), .val (.int (0 : Int32)), .val (.ref aSTAR), .val (.int (4 : Int32)), .val (.int (4 : Int32)), .val (.int (4 : Int32)), .val (.int (4 : Int32)), .val (.int (4 : Int32)), .unset] [(.int (81 : Int32)), (.ref aSTAR)])) (fun t k => XS.bipush X13.here hx rfl (hb hby at_82) k) ?_
      obtain ⟨cq14, kq14, q14a, q14b, q14c⟩ := isOf hZ e13q E_aSTAR
      obtain ⟨_, _, ⟨T14, L14, k14, n14⟩, -, X14, ⟨Lc14, hQ14, l14, y14, z14⟩, st14⟩ := X13.virtualBack hx (y := (⟨"com/example/viewsmith/viewsmith/workload/Shape", "viewExposed", "(I)I"⟩ : MethodName)) (z := (⟨"com/example/viewsmith/viewsmith/workload/Shape", "viewExposed", "(I)I"⟩ : MethodName)) hown (mvT hZ (hw _ (List.mem_of_getElem? (i := 3) rfl))) (mvT hZ (hw _ (List.mem_of_getElem? (i := 4) rfl))) (notFace_of_selects (args := #[]) (mvT hZ (hw _ (List.mem_of_getElem? (i := 6) rfl)))) (mvT hZ (hw _ (List.mem_of_getElem? (i := 6) rfl))) (mvT hZ (hw _ (List.mem_of_getElem? (i := 5) rfl))) (by decide) (backOf (W := 0) (rm1_7 l Z a0 hw [] aSTAR h0 n0 Z0 E_aSTAR Fl_aSTAR Fw_aSTAR) hZ (hw _ (List.mem_of_getElem? (i := 7) rfl)) (hw _ (List.mem_of_getElem? (i := 1) rfl)) (by decide) (by decide)) q14a q14c (g := (mkF m 84 #[.val (.int p0), .val (.int p1), .val (.int (0 : Int32)), .val (.ref aSTAR), .val (.int (4 : Int32)), .val (.int (4 : Int32)), .val (.int (4 : Int32)), .val (.int (4 : Int32)), .val (.int (4 : Int32)), .unset] [(.int (81 : Int32)), (.ref aSTAR)])) rfl (by rw [hml]; rfl) (Steps.refl _) (argsL := [(.int (81 : Int32))]) (rest := []) (lenOf pd_0 rfl) rfl (by show 2 * 0 + _ ≤ _; exact Nat.le_of_eq rfl) (hb hby at_84) (fun _ _ => ⟨rfl, e13q, (by decide : 0 + 0 ≤ _), (by decide : 0 + 0 ≤ _)⟩)
      dsimp only [Pt.U, Pt.locs, Pt.cells, Pt.slots] at X14 l14 y14 z14 st14 hQ14
      subst l14 y14 z14
      obtain ⟨rfl, N14q, e14q⟩ := hQ14
      have N14 := Fr.app N13 N14q
      refine step (T14.setTop (mkF m 87 #[.val (.int p0), .val (.int p1), .val (.int (0 : Int32)), .val (.ref aSTAR), .val (.int (4 : Int32)), .val (.int (4 : Int32)), .val (.int (4 : Int32)), .val (.int (4 : Int32)), .val (.int (4 : Int32)), .unset] [(.int (4 : Int32))])) (fun t k => st14.trans k) ?_
      refine step (T14.setTop (mkF m 89 #[.val (.int p0), .val (.int p1), .val (.int (0 : Int32)), .val (.ref aSTAR), .val (.int (4 : Int32)), .val (.int (4 : Int32)), .val (.int (4 : Int32)), .val (.int (4 : Int32)), .val (.int (4 : Int32)), .val (.int (4 : Int32))] [])) (fun t k => XS.istore X14.here hx rfl (hb hby at_87) rfl (l' := #[.val (.int p0), .val (.int p1), .val (.int (0 : Int32)), .val (.ref aSTAR), .val (.int (4 : Int32)), .val (.int (4 : Int32)), .val (.int (4 : Int32)), .val (.int (4 : Int32)), .val (.int (4 : Int32)), .val (.int (4 : Int32))]) rfl k) ?_
      refine step (T14.setTop (mkF m 91 #[.val (.int p0), .val (.int p1), .val (.int (0 : Int32)), .val (.ref aSTAR), .val (.int (4 : Int32)), .val (.int (4 : Int32)), .val (.int (4 : Int32)), .val (.int (4 : Int32)), .val (.int (4 : Int32)), .val (.int (4 : Int32))] [(.int (4 : Int32))])) (fun t k => XS.iload X14.here hx rfl (hb hby at_89) rfl k) ?_
      refine step (T14.setTop (mkF m 93 #[.val (.int p0), .val (.int p1), .val (.int (0 : Int32)), .val (.ref aSTAR), .val (.int (4 : Int32)), .val (.int (4 : Int32)), .val (.int (4 : Int32)), .val (.int (4 : Int32)), .val (.int (4 : Int32)), .val (.int (4 : Int32))] [(.int (4 : Int32)), (.int (4 : Int32))])) (fun t k => XS.iload X14.here hx rfl (hb hby at_91) rfl k) ?_
      refine step (T14.setTop (mkF m 96 #[.val (.int p0), .val (.int p1), .val (.int (0 : Int32)), .val (.ref aSTAR), .val (.int (4 : Int32)), .val (.int (4 : Int32)), .val (.int (4 : Int32)), .val (.int (4 : Int32)), .val (.int (4 : Int32)), .val (.int (4 : Int32))] [])) (fun t k => XS.icmpNo X14.here hx rfl (hb hby at_93) rfl (teq (by decide : (4 : Int32) = (4 : Int32))).2 k) ?_
      refine step (T14.setTop (mkF m 98 #[.val (.int p0), .val (.int p1), .val (.int (0 : Int32)), .val (.ref aSTAR), .val (.int (4 : Int32)), .val (.int (4 : Int32)), .val (.int (4 : Int32)), .val (.int (4 : Int32)), .val (.int (4 : Int32)), .val (.int (4 : Int32))] [(.int (4 : Int32))])) (fun t k => XS.iload X14.here hx rfl (hb hby at_96) rfl k) ?_
      refine step (T14.setTop (mkF m 100 #[.val (.int p0), .val (.int p1), .val (.int (0 : Int32)), .val (.ref aSTAR), .val (.int (4 : Int32)), .val (.int (4 : Int32)), .val (.int (4 : Int32)), .val (.int (4 : Int32)), .val (.int (4 : Int32)), .val (.int (4 : Int32))] [(.int (4 : Int32)), (.int (4 : Int32))])) (fun t k => XS.iload X14.here hx rfl (hb hby at_98) rfl k) ?_
      refine step (T14.setTop (mkF m 103 #[.val (.int p0), .val (.int p1), .val (.int (0 : Int32)), .val (.ref aSTAR), .val (.int (4 : Int32)), .val (.int (4 : Int32)), .val (.int (4 : Int32)), .val (.int (4 : Int32)), .val (.int (4 : Int32)), .val (.int (4 : Int32))] [])) (fun t k => XS.icmpNo X14.here hx rfl (hb hby at_100) rfl (teq (by decide : (4 : Int32) = (4 : Int32))).2 k) ?_
      refine step (T14.setTop (mkF m 105 #[.val (.int p0), .val (.int p1), .val (.int (0 : Int32)), .val (.ref aSTAR), .val (.int (4 : Int32)), .val (.int (4 : Int32)), .val (.int (4 : Int32)), .val (.int (4 : Int32)), .val (.int (4 : Int32)), .val (.int (4 : Int32))] [(.int (4 : Int32))])) (fun t k => XS.iload X14.here hx rfl (hb hby at_103) rfl k) ?_
      refine step (T14.setTop (mkF m 107 #[.val (.int p0), .val (.int p1), .val (.int (0 : Int32)), .val (.ref aSTAR), .val (.int (4 : Int32)), .val (.int (4 : Int32)), .val (.int (4 : Int32)), .val (.int (4 : Int32)), .val (.int (4 : Int32)), .val (.int (4 : Int32))] [(.int (4 : Int32)), (.int (4 : Int32))])) (fun t k => XS.iload X14.here hx rfl (hb hby at_105) rfl k) ?_
      refine step (T14.setTop (mkF m 110 #[.val (.int p0), .val (.int p1), .val (.int (0 : Int32)), .val (.ref aSTAR), .val (.int (4 : Int32)), .val (.int (4 : Int32)), .val (.int (4 : Int32)), .val (.int (4 : Int32)), .val (.int (4 : Int32)), .val (.int (4 : Int32))] [])) (fun t k => XS.icmpNo X14.here hx rfl (hb hby at_107) rfl (teq (by decide : (4 : Int32) = (4 : Int32))).2 k) ?_
      refine step (T14.setTop (mkF m 111 #[.val (.int p0), .val (.int p1), .val (.int (0 : Int32)), .val (.ref aSTAR), .val (.int (4 : Int32)), .val (.int (4 : Int32)), .val (.int (4 : Int32)), .val (.int (4 : Int32)), .val (.int (4 : Int32)), .val (.int (4 : Int32))] [(.int (1 : Int32))])) (fun t k => XS.iconst X14.here hx rfl (hb hby at_110) k) ?_
      refine step (T14.setTop (mkF m 115 #[.val (.int p0), .val (.int p1), .val (.int (0 : Int32)), .val (.ref aSTAR), .val (.int (4 : Int32)), .val (.int (4 : Int32)), .val (.int (4 : Int32)), .val (.int (4 : Int32)), .val (.int (4 : Int32)), .val (.int (4 : Int32))] [(.int (1 : Int32))])) (fun t k => XS.goto X14.here hx rfl (pc0 := 111) (pc' := 115) rfl (hb hby at_111) (by decide) (by decide) k) ?_
      refine fin (v := some (.int (nar .boolean (1 : Int32)))) X14 (fun h => by cases h) ?_ (by decide) (by decide) (fun fs hr => retN X14 hx (t := .boolean) hret (by simp) (hb hby at_115) hr)
      show Q0 Z p0 p1 aSTAR aCHAIN h0 n0 (some (.int (nar .boolean (1 : Int32)))) T14.heap _
      rw [e14q]
      exact ⟨rfl, N14⟩
    · -- pc 52: p0 < (81 : Int32) False
      refine step (T10.setTop (mkF m 62 #[.val (.int p0), .val (.int p1), .val (.int (0 : Int32)), .val (.ref aSTAR), .val (.int (4 : Int32)), .val (.int (4 : Int32)), .unset, .unset, .unset, .unset] [])) (fun t k => XS.icmpYes X10.here hx rfl (pc0 := 52) (pc' := 62) rfl (hb hby at_52) rfl (flt hc52_11).2.1 (by decide) (by decide) k) ?_
      refine step (T10.setTop (mkF m 64 #[.val (.int p0), .val (.int p1), .val (.int (0 : Int32)), .val (.ref aSTAR), .val (.int (4 : Int32)), .val (.int (4 : Int32)), .unset, .unset, .unset, .unset] [(.int (4 : Int32))])) (fun t k => XS.iload X10.here hx rfl (hb hby at_62) rfl k) ?_
      refine step (T10.setTop (mkF m 66 #[.val (.int p0), .val (.int p1), .val (.int (0 : Int32)), .val (.ref aSTAR), .val (.int (4 : Int32)), .val (.int (4 : Int32)), .val (.int (4 : Int32)), .unset, .unset, .unset] [])) (fun t k => XS.istore X10.here hx rfl (hb hby at_64) rfl (l' := #[.val (.int p0), .val (.int p1), .val (.int (0 : Int32)), .val (.ref aSTAR), .val (.int (4 : Int32)), .val (.int (4 : Int32)), .val (.int (4 : Int32)), .unset, .unset, .unset]) rfl k) ?_
      refine step (T10.setTop (mkF m 67 #[.val (.int p0), .val (.int p1), .val (.int (0 : Int32)), .val (.ref aSTAR), .val (.int (4 : Int32)), .val (.int (4 : Int32)), .val (.int (4 : Int32)), .unset, .unset, .unset] [(.ref aSTAR)])) (fun t k => XS.aloadN X10.here hx rfl (hb hby at_66) rfl rfl k) ?_
      refine step (T10.setTop (mkF m 68 #[.val (.int p0), .val (.int p1), .val (.int (0 : Int32)), .val (.ref aSTAR), .val (.int (4 : Int32)), .val (.int (4 : Int32)), .val (.int (4 : Int32)), .unset, .unset, .unset] [(.int p0), (.ref aSTAR)])) (fun t k => XS.iloadN X10.here hx rfl (hb hby at_67) rfl k) ?_
      obtain ⟨cq15, kq15, q15a, q15b, q15c⟩ := isOf hZ e10 E_aSTAR
      obtain ⟨_, _, ⟨T15, L15, k15, n15⟩, -, X15, ⟨Lc15, hQ15, l15, y15, z15⟩, st15⟩ := X10.virtualBack hx (y := (⟨"com/example/viewsmith/viewsmith/workload/Shape", "viewExposed", "(I)I"⟩ : MethodName)) (z := (⟨"com/example/viewsmith/viewsmith/workload/Shape", "viewExposed", "(I)I"⟩ : MethodName)) hown (mvT hZ (hw _ (List.mem_of_getElem? (i := 3) rfl))) (mvT hZ (hw _ (List.mem_of_getElem? (i := 4) rfl))) (notFace_of_selects (args := #[]) (mvT hZ (hw _ (List.mem_of_getElem? (i := 6) rfl)))) (mvT hZ (hw _ (List.mem_of_getElem? (i := 6) rfl))) (mvT hZ (hw _ (List.mem_of_getElem? (i := 5) rfl))) (by decide) (backOf (W := 0) (rm1_8 l Z a0 hw [] aSTAR p0 h0 n0 Z0 E_aSTAR Fl_aSTAR Fw_aSTAR hc52_11 (own_81' hc52_11)) hZ (hw _ (List.mem_of_getElem? (i := 7) rfl)) (hw _ (List.mem_of_getElem? (i := 1) rfl)) (by decide) (by decide)) q15a q15c (g := (mkF m 68 #[.val (.int p0), .val (.int p1), .val (.int (0 : Int32)), .val (.ref aSTAR), .val (.int (4 : Int32)), .val (.int (4 : Int32)), .val (.int (4 : Int32)), .unset, .unset, .unset] [(.int p0), (.ref aSTAR)])) rfl (by rw [hml]; rfl) (Steps.refl _) (argsL := [(.int p0)]) (rest := []) (lenOf pd_0 rfl) rfl (by show 2 * 0 + _ ≤ _; exact Nat.le_of_eq rfl) (hb hby at_68) (fun _ _ => ⟨rfl, e10, (by decide : 0 + 0 ≤ _), (by decide : 0 + 0 ≤ _)⟩)
      dsimp only [Pt.U, Pt.locs, Pt.cells, Pt.slots] at X15 l15 y15 z15 st15 hQ15
      subst l15 y15 z15
      obtain ⟨rfl, N15q, e15q⟩ := hQ15
      have N15 := Fr.app N0 N15q
      refine step (T15.setTop (mkF m 71 #[.val (.int p0), .val (.int p1), .val (.int (0 : Int32)), .val (.ref aSTAR), .val (.int (4 : Int32)), .val (.int (4 : Int32)), .val (.int (4 : Int32)), .unset, .unset, .unset] [(.int (4 : Int32))])) (fun t k => st15.trans k) ?_
      refine step (T15.setTop (mkF m 73 #[.val (.int p0), .val (.int p1), .val (.int (0 : Int32)), .val (.ref aSTAR), .val (.int (4 : Int32)), .val (.int (4 : Int32)), .val (.int (4 : Int32)), .val (.int (4 : Int32)), .unset, .unset] [])) (fun t k => XS.istore X15.here hx rfl (hb hby at_71) rfl (l' := #[.val (.int p0), .val (.int p1), .val (.int (0 : Int32)), .val (.ref aSTAR), .val (.int (4 : Int32)), .val (.int (4 : Int32)), .val (.int (4 : Int32)), .val (.int (4 : Int32)), .unset, .unset]) rfl k) ?_
      refine step (T15.setTop (mkF m 74 #[.val (.int p0), .val (.int p1), .val (.int (0 : Int32)), .val (.ref aSTAR), .val (.int (4 : Int32)), .val (.int (4 : Int32)), .val (.int (4 : Int32)), .val (.int (4 : Int32)), .unset, .unset] [(.ref aSTAR)])) (fun t k => XS.aloadN X15.here hx rfl (hb hby at_73) rfl rfl k) ?_
      refine step (T15.setTop (mkF m 76 #[.val (.int p0), .val (.int p1), .val (.int (0 : Int32)), .val (.ref aSTAR), .val (.int (4 : Int32)), .val (.int (4 : Int32)), .val (.int (4 : Int32)), .val (.int (4 : Int32)), .unset, .unset] [(.int (80 : Int32)), (.ref aSTAR)])) (fun t k => XS.bipush X15.here hx rfl (hb hby at_74) k) ?_
      obtain ⟨cq16, kq16, q16a, q16b, q16c⟩ := isOf hZ e15q E_aSTAR
      obtain ⟨_, _, ⟨T16, L16, k16, n16⟩, -, X16, ⟨Lc16, hQ16, l16, y16, z16⟩, st16⟩ := X15.virtualBack hx (y := (⟨"com/example/viewsmith/viewsmith/workload/Shape", "viewExposed", "(I)I"⟩ : MethodName)) (z := (⟨"com/example/viewsmith/viewsmith/workload/Shape", "viewExposed", "(I)I"⟩ : MethodName)) hown (mvT hZ (hw _ (List.mem_of_getElem? (i := 3) rfl))) (mvT hZ (hw _ (List.mem_of_getElem? (i := 4) rfl))) (notFace_of_selects (args := #[]) (mvT hZ (hw _ (List.mem_of_getElem? (i := 6) rfl)))) (mvT hZ (hw _ (List.mem_of_getElem? (i := 6) rfl))) (mvT hZ (hw _ (List.mem_of_getElem? (i := 5) rfl))) (by decide) (backOf (W := 0) (rm1_6 l Z a0 hw [] aSTAR h0 n0 Z0 E_aSTAR Fl_aSTAR Fw_aSTAR) hZ (hw _ (List.mem_of_getElem? (i := 7) rfl)) (hw _ (List.mem_of_getElem? (i := 1) rfl)) (by decide) (by decide)) q16a q16c (g := (mkF m 76 #[.val (.int p0), .val (.int p1), .val (.int (0 : Int32)), .val (.ref aSTAR), .val (.int (4 : Int32)), .val (.int (4 : Int32)), .val (.int (4 : Int32)), .val (.int (4 : Int32)), .unset, .unset] [(.int (80 : Int32)), (.ref aSTAR)])) rfl (by rw [hml]; rfl) (Steps.refl _) (argsL := [(.int (80 : Int32))]) (rest := []) (lenOf pd_0 rfl) rfl (by show 2 * 0 + _ ≤ _; exact Nat.le_of_eq rfl) (hb hby at_76) (fun _ _ => ⟨rfl, e15q, (by decide : 0 + 0 ≤ _), (by decide : 0 + 0 ≤ _)⟩)
      dsimp only [Pt.U, Pt.locs, Pt.cells, Pt.slots] at X16 l16 y16 z16 st16 hQ16
      subst l16 y16 z16
      obtain ⟨rfl, N16q, e16q⟩ := hQ16
      have N16 := Fr.app N15 N16q
      refine step (T16.setTop (mkF m 79 #[.val (.int p0), .val (.int p1), .val (.int (0 : Int32)), .val (.ref aSTAR), .val (.int (4 : Int32)), .val (.int (4 : Int32)), .val (.int (4 : Int32)), .val (.int (4 : Int32)), .unset, .unset] [(.int (4 : Int32))])) (fun t k => st16.trans k) ?_
      refine step (T16.setTop (mkF m 81 #[.val (.int p0), .val (.int p1), .val (.int (0 : Int32)), .val (.ref aSTAR), .val (.int (4 : Int32)), .val (.int (4 : Int32)), .val (.int (4 : Int32)), .val (.int (4 : Int32)), .val (.int (4 : Int32)), .unset] [])) (fun t k => XS.istore X16.here hx rfl (hb hby at_79) rfl (l' := #[.val (.int p0), .val (.int p1), .val (.int (0 : Int32)), .val (.ref aSTAR), .val (.int (4 : Int32)), .val (.int (4 : Int32)), .val (.int (4 : Int32)), .val (.int (4 : Int32)), .val (.int (4 : Int32)), .unset]) rfl k) ?_
      refine step (T16.setTop (mkF m 82 #[.val (.int p0), .val (.int p1), .val (.int (0 : Int32)), .val (.ref aSTAR), .val (.int (4 : Int32)), .val (.int (4 : Int32)), .val (.int (4 : Int32)), .val (.int (4 : Int32)), .val (.int (4 : Int32)), .unset] [(.ref aSTAR)])) (fun t k => XS.aloadN X16.here hx rfl (hb hby at_81) rfl rfl k) ?_
      refine step (T16.setTop (mkF m 84 #[.val (.int p0), .val (.int p1), .val (.int (0 : Int32)), .val (.ref aSTAR), .val (.int (4 : Int32)), .val (.int (4 : Int32)), .val (.int (4 : Int32)), .val (.int (4 : Int32)), .val (.int (4 : Int32)), .unset] [(.int (81 : Int32)), (.ref aSTAR)])) (fun t k => XS.bipush X16.here hx rfl (hb hby at_82) k) ?_
      obtain ⟨cq17, kq17, q17a, q17b, q17c⟩ := isOf hZ e16q E_aSTAR
      obtain ⟨_, _, ⟨T17, L17, k17, n17⟩, -, X17, ⟨Lc17, hQ17, l17, y17, z17⟩, st17⟩ := X16.virtualBack hx (y := (⟨"com/example/viewsmith/viewsmith/workload/Shape", "viewExposed", "(I)I"⟩ : MethodName)) (z := (⟨"com/example/viewsmith/viewsmith/workload/Shape", "viewExposed", "(I)I"⟩ : MethodName)) hown (mvT hZ (hw _ (List.mem_of_getElem? (i := 3) rfl))) (mvT hZ (hw _ (List.mem_of_getElem? (i := 4) rfl))) (notFace_of_selects (args := #[]) (mvT hZ (hw _ (List.mem_of_getElem? (i := 6) rfl)))) (mvT hZ (hw _ (List.mem_of_getElem? (i := 6) rfl))) (mvT hZ (hw _ (List.mem_of_getElem? (i := 5) rfl))) (by decide) (backOf (W := 0) (rm1_7 l Z a0 hw [] aSTAR h0 n0 Z0 E_aSTAR Fl_aSTAR Fw_aSTAR) hZ (hw _ (List.mem_of_getElem? (i := 7) rfl)) (hw _ (List.mem_of_getElem? (i := 1) rfl)) (by decide) (by decide)) q17a q17c (g := (mkF m 84 #[.val (.int p0), .val (.int p1), .val (.int (0 : Int32)), .val (.ref aSTAR), .val (.int (4 : Int32)), .val (.int (4 : Int32)), .val (.int (4 : Int32)), .val (.int (4 : Int32)), .val (.int (4 : Int32)), .unset] [(.int (81 : Int32)), (.ref aSTAR)])) rfl (by rw [hml]; rfl) (Steps.refl _) (argsL := [(.int (81 : Int32))]) (rest := []) (lenOf pd_0 rfl) rfl (by show 2 * 0 + _ ≤ _; exact Nat.le_of_eq rfl) (hb hby at_84) (fun _ _ => ⟨rfl, e16q, (by decide : 0 + 0 ≤ _), (by decide : 0 + 0 ≤ _)⟩)
      dsimp only [Pt.U, Pt.locs, Pt.cells, Pt.slots] at X17 l17 y17 z17 st17 hQ17
      subst l17 y17 z17
      obtain ⟨rfl, N17q, e17q⟩ := hQ17
      have N17 := Fr.app N16 N17q
      refine step (T17.setTop (mkF m 87 #[.val (.int p0), .val (.int p1), .val (.int (0 : Int32)), .val (.ref aSTAR), .val (.int (4 : Int32)), .val (.int (4 : Int32)), .val (.int (4 : Int32)), .val (.int (4 : Int32)), .val (.int (4 : Int32)), .unset] [(.int (4 : Int32))])) (fun t k => st17.trans k) ?_
      refine step (T17.setTop (mkF m 89 #[.val (.int p0), .val (.int p1), .val (.int (0 : Int32)), .val (.ref aSTAR), .val (.int (4 : Int32)), .val (.int (4 : Int32)), .val (.int (4 : Int32)), .val (.int (4 : Int32)), .val (.int (4 : Int32)), .val (.int (4 : Int32))] [])) (fun t k => XS.istore X17.here hx rfl (hb hby at_87) rfl (l' := #[.val (.int p0), .val (.int p1), .val (.int (0 : Int32)), .val (.ref aSTAR), .val (.int (4 : Int32)), .val (.int (4 : Int32)), .val (.int (4 : Int32)), .val (.int (4 : Int32)), .val (.int (4 : Int32)), .val (.int (4 : Int32))]) rfl k) ?_
      refine step (T17.setTop (mkF m 91 #[.val (.int p0), .val (.int p1), .val (.int (0 : Int32)), .val (.ref aSTAR), .val (.int (4 : Int32)), .val (.int (4 : Int32)), .val (.int (4 : Int32)), .val (.int (4 : Int32)), .val (.int (4 : Int32)), .val (.int (4 : Int32))] [(.int (4 : Int32))])) (fun t k => XS.iload X17.here hx rfl (hb hby at_89) rfl k) ?_
      refine step (T17.setTop (mkF m 93 #[.val (.int p0), .val (.int p1), .val (.int (0 : Int32)), .val (.ref aSTAR), .val (.int (4 : Int32)), .val (.int (4 : Int32)), .val (.int (4 : Int32)), .val (.int (4 : Int32)), .val (.int (4 : Int32)), .val (.int (4 : Int32))] [(.int (4 : Int32)), (.int (4 : Int32))])) (fun t k => XS.iload X17.here hx rfl (hb hby at_91) rfl k) ?_
      refine step (T17.setTop (mkF m 96 #[.val (.int p0), .val (.int p1), .val (.int (0 : Int32)), .val (.ref aSTAR), .val (.int (4 : Int32)), .val (.int (4 : Int32)), .val (.int (4 : Int32)), .val (.int (4 : Int32)), .val (.int (4 : Int32)), .val (.int (4 : Int32))] [])) (fun t k => XS.icmpNo X17.here hx rfl (hb hby at_93) rfl (teq (by decide : (4 : Int32) = (4 : Int32))).2 k) ?_
      refine step (T17.setTop (mkF m 98 #[.val (.int p0), .val (.int p1), .val (.int (0 : Int32)), .val (.ref aSTAR), .val (.int (4 : Int32)), .val (.int (4 : Int32)), .val (.int (4 : Int32)), .val (.int (4 : Int32)), .val (.int (4 : Int32)), .val (.int (4 : Int32))] [(.int (4 : Int32))])) (fun t k => XS.iload X17.here hx rfl (hb hby at_96) rfl k) ?_
      refine step (T17.setTop (mkF m 100 #[.val (.int p0), .val (.int p1), .val (.int (0 : Int32)), .val (.ref aSTAR), .val (.int (4 : Int32)), .val (.int (4 : Int32)), .val (.int (4 : Int32)), .val (.int (4 : Int32)), .val (.int (4 : Int32)), .val (.int (4 : Int32))] [(.int (4 : Int32)), (.int (4 : Int32))])) (fun t k => XS.iload X17.here hx rfl (hb hby at_98) rfl k) ?_
      refine step (T17.setTop (mkF m 103 #[.val (.int p0), .val (.int p1), .val (.int (0 : Int32)), .val (.ref aSTAR), .val (.int (4 : Int32)), .val (.int (4 : Int32)), .val (.int (4 : Int32)), .val (.int (4 : Int32)), .val (.int (4 : Int32)), .val (.int (4 : Int32))] [])) (fun t k => XS.icmpNo X17.here hx rfl (hb hby at_100) rfl (teq (by decide : (4 : Int32) = (4 : Int32))).2 k) ?_
      refine step (T17.setTop (mkF m 105 #[.val (.int p0), .val (.int p1), .val (.int (0 : Int32)), .val (.ref aSTAR), .val (.int (4 : Int32)), .val (.int (4 : Int32)), .val (.int (4 : Int32)), .val (.int (4 : Int32)), .val (.int (4 : Int32)), .val (.int (4 : Int32))] [(.int (4 : Int32))])) (fun t k => XS.iload X17.here hx rfl (hb hby at_103) rfl k) ?_
      refine step (T17.setTop (mkF m 107 #[.val (.int p0), .val (.int p1), .val (.int (0 : Int32)), .val (.ref aSTAR), .val (.int (4 : Int32)), .val (.int (4 : Int32)), .val (.int (4 : Int32)), .val (.int (4 : Int32)), .val (.int (4 : Int32)), .val (.int (4 : Int32))] [(.int (4 : Int32)), (.int (4 : Int32))])) (fun t k => XS.iload X17.here hx rfl (hb hby at_105) rfl k) ?_
      refine step (T17.setTop (mkF m 110 #[.val (.int p0), .val (.int p1), .val (.int (0 : Int32)), .val (.ref aSTAR), .val (.int (4 : Int32)), .val (.int (4 : Int32)), .val (.int (4 : Int32)), .val (.int (4 : Int32)), .val (.int (4 : Int32)), .val (.int (4 : Int32))] [])) (fun t k => XS.icmpNo X17.here hx rfl (hb hby at_107) rfl (teq (by decide : (4 : Int32) = (4 : Int32))).2 k) ?_
      refine step (T17.setTop (mkF m 111 #[.val (.int p0), .val (.int p1), .val (.int (0 : Int32)), .val (.ref aSTAR), .val (.int (4 : Int32)), .val (.int (4 : Int32)), .val (.int (4 : Int32)), .val (.int (4 : Int32)), .val (.int (4 : Int32)), .val (.int (4 : Int32))] [(.int (1 : Int32))])) (fun t k => XS.iconst X17.here hx rfl (hb hby at_110) k) ?_
      refine step (T17.setTop (mkF m 115 #[.val (.int p0), .val (.int p1), .val (.int (0 : Int32)), .val (.ref aSTAR), .val (.int (4 : Int32)), .val (.int (4 : Int32)), .val (.int (4 : Int32)), .val (.int (4 : Int32)), .val (.int (4 : Int32)), .val (.int (4 : Int32))] [(.int (1 : Int32))])) (fun t k => XS.goto X17.here hx rfl (pc0 := 111) (pc' := 115) rfl (hb hby at_111) (by decide) (by decide) k) ?_
      refine fin (v := some (.int (nar .boolean (1 : Int32)))) X17 (fun h => by cases h) ?_ (by decide) (by decide) (fun fs hr => retN X17 hx (t := .boolean) hret (by simp) (hb hby at_115) hr)
      show Q0 Z p0 p1 aSTAR aCHAIN h0 n0 (some (.int (nar .boolean (1 : Int32)))) T17.heap _
      rw [e17q]
      exact ⟨rfl, N17⟩
set_option maxRecDepth 65536 in
set_option maxHeartbeats 40000000 in
theorem comes_1 {Post : Tables → Env → Array Value → State → Outcome → State → Prop} (hpost : ∀ tb e args s v u, (limb_1_1.after args s (.returned v) u = true ∧ limb_1_2.after args s (.returned v) u = true ∧ True) → FrameEnd s (.returned v) u (Jvm.fieldLocs frame_1_writes args s ++ Jvm.arrayLocs frame_1_arrays args s ++ Jvm.staticLocs frame_1_statics s) 0 0 → Post tb e args s (.returned v) u) :
    ArmFor flags0 classFile x code maxLocals ret World_1 tables_1 room_1 Calls_1 rest_1 Pre_1 Post := by
  intro l hfl _ _ p e ha hc hk s m args below hf hA hF happ hP
  obtain ⟨hcalls, hrest, hpre⟩ := hP
  obtain ⟨-, -, -, hnamed, -, -, -, hat⟩ := (Spec.applies_iff hf).mp happ
  obtain ⟨hg, hn⟩ := and_e (Cond.before_iff.mp (show (Jvm.Cond.and given_1 narrow_1).before args s = true from hpre))
  obtain ⟨hcount, hr0⟩ := and_e hg
  obtain ⟨ha0, hr1⟩ := and_e hr0
  have ha1 := hr1
  obtain ⟨w0, w1, rfl⟩ : ∃ w0 w1 : Value, args = #[w0, w1] := by
    have hs : args.size = 2 := by simpa [Cond.value, given_1] using hcount
    obtain ⟨L⟩ := args
    match L, hs with
    | [w0, w1], _ => exact ⟨w0, w1, rfl⟩
  have hw := fun d (hd : d ∈ tables_1) => atoms_spec (ws := Jvm.Cond.code x code maxLocals ret :: tables_1) hat d (List.mem_cons_of_mem _ hd)
  have hfit : Fit s := fun {y c} hc i hi => by
    obtain ⟨ha, rfl⟩ := Array.getElem?_eq_some_iff.mp hc
    have q := List.all_eq_true.mp ((Array.all_eq_true_iff_forall_mem.mp hF) _ (Array.getElem_mem ha)) i (List.mem_range.mpr hi)
    simpa [Array.getElem?_eq_getElem hi] using q
  obtain ⟨i0, ei0⟩ := is_v ha0
  obtain rfl : w0 = (.int i0) := Option.some.inj ei0
  obtain ⟨i1, ei1⟩ := is_v ha1
  obtain rfl : w1 = (.int i1) := Option.some.inj ei1
  obtain ⟨m0a, m0b⟩ := and_e hn
  obtain ⟨m1a, m1b⟩ := and_e m0b
  obtain ⟨m2a, m2b⟩ := and_e m1b
  obtain ⟨m3a, m3b⟩ := and_e m2b
  obtain ⟨m4a, m4b⟩ := and_e m3b
  obtain ⟨aSTAR, ev_aSTAR⟩ := exa_v m0a
  have E_aSTAR := Exa.start ev_aSTAR m0a
  have S_aSTAR := Sta.start ev_aSTAR (Or.inr ⟨(hw _ (List.mem_of_getElem? (i := 1) rfl)), (hw _ (List.mem_of_getElem? (i := 2) rfl))⟩)
  obtain ⟨aCHAIN, ev_aCHAIN⟩ := exa_v m3a
  have E_aCHAIN := Exa.start ev_aCHAIN m3a
  have S_aCHAIN := Sta.start ev_aCHAIN (Or.inr ⟨(hw _ (List.mem_of_getElem? (i := 1) rfl)), (hw _ (List.mem_of_getElem? (i := 13) rfl))⟩)
  have F_wideViewExposed_aSTAR := Fld.start ((fld_at ev_aSTAR).symm.trans (own_eqi m1a))
  have F_laterViewExposed_aSTAR := Fld.start ((fld_at ev_aSTAR).symm.trans (own_eqi m2a))
  have F_wideViewExposed_aCHAIN := Fld.start ((fld_at ev_aCHAIN).symm.trans (own_eqi m4a))
  have F_laterViewExposed_aCHAIN := Fld.start ((fld_at ev_aCHAIN).symm.trans (own_eqi m4b))
  obtain ⟨n, o, h1, h2, h3, _, L, rfl, ⟨rfl, N⟩, hq⟩ := rm0 l s _ hw tables_1 i0 i1 aSTAR aCHAIN s.heap s.heap.size (Nat.le_refl _) S_aSTAR E_aSTAR F_wideViewExposed_aSTAR F_laterViewExposed_aSTAR S_aCHAIN E_aCHAIN F_wideViewExposed_aCHAIN F_laterViewExposed_aCHAIN p e ha hc hk s m _ below hf ((Spec.applies_iff_loose hf).mp happ).1 ⟨rfl, State.Warmed39.refl s, rfl⟩ trivial
  refine ⟨n, _, h1, h2, h3, hpost _ _ _ _ _ _ ⟨Cond.after_iff.mpr rfl, Cond.after_iff.mpr (eq_i res_at (Term.int_eval (1)) rfl), trivial⟩ ⟨hq.1, hq.2.1, (hq.2.2.sift fun y hy => Or.inr (N y hy)).mono (by decide) (by decide)⟩⟩
theorem main_1_1 : Claimed_1_1 := comes_1 fun _ _ _ _ _ _ h hF => ⟨h.1, hF⟩
theorem main_1_2 : Claimed_1_2 := comes_1 fun _ _ _ _ _ _ h hF => ⟨h.2.1, hF⟩
end Jvm.Pilot.@@N@@
namespace Jvm.Pilot.@@N@@
open Jvm Jvm.ClassFile Sem Op Lib Jvm.Free Jvm.Stand Jvm.Pilot.@@N@@.Jvm.D
/-! MADE BY PROGRAM (witnessworld.py) out of the Statement's table words and the real class files: 14 classes; the members and pool entries that the words name. The judged class is class 1, her method 1. -/
namespace start1
open Jvm.ClassFile
def u (s : String) : CpInfo := .utf8 (stringToUtf16 s)
/-- a pool by its gaps: so many unusable entries, then the entry; so many at the end -/
def gap : Nat → List CpInfo → List CpInfo
  | 0, r => r
  | n + 1, r => .unusable :: gap n r
def poolList (es : List (Nat × CpInfo)) (last : Nat) : List CpInfo := es.foldr (fun e r => gap e.1 (e.2 :: r)) (gap last [])
def pool (es : List (Nat × CpInfo)) (last : Nat) : Array CpInfo := ⟨poolList es last⟩
def fileOf (pool : Array CpInfo) (this : Nat) (attrs : Array Attribute := #[]) (ms : Array MethodInfo := #[]) (fl : Nat := 33) (sup : Nat := 0) (ifs : Array Nat := #[]) (fds : Array FieldInfo := #[]) : ClassFile where
  minorVersion := 0
  majorVersion := 65
  constantPool := pool
  accessFlags := fl
  thisClass := this
  superClass := sup
  interfaces := ifs
  fields := fds
  methods := ms
  attributes := attrs
def plain (name : String) (sup : Option ClassId) : Class where
  name := name
  kind := .ordinary
  loader := none
  accessFlags := 33
  super := sup
  interfaces := #[]
  cf := none
  fields := #[]
  methods := #[]
  instanceTypes := #[]
  staticTypes := #[]
  resolved := #[]
  callSites := []
  init := .initialized
  statics := none
  mirror := none

def pool0 : Array CpInfo := pool [(5, u "<init>"), (0, u "()V"), (1, .class_ 10), (1, u "java/lang/Object")] 113

def k0m0 : Method := { name := "<init>", desc := "()V", sig := { parameters := [], returnType := none }, accessFlags := 1, code := none }
/-- java/lang/Object -/
def k0 : Class := { plain "java/lang/Object" none with
  accessFlags := 33
  interfaces := #[]
  cf := some (fileOf pool0 8 #[] #[{ accessFlags := 1, nameIndex := 5, descriptorIndex := 6, attributes := #[] }] 33 0 #[] #[])
  fields := #[]
  methods := #[k0m0]
  instanceTypes := #[]
  staticTypes := #[]
  resolved := Array.replicate 124 none
  statics := none }

def pool1 : Array CpInfo := pool [(2, .class_ 4), (1, u "java/lang/Object"), (0, u "<init>"), (0, u "()V"), (0, .fieldref 8 9), (0, .class_ 10), (0, .nameAndType 11 12), (0, u "com/example/viewsmith/viewsmith/workload/Shape"), (0, u "CHAIN"), (0, u "Lcom/example/viewsmith/viewsmith/workload/Shape;"), (0, .fieldref 8 14), (0, .nameAndType 15 12), (0, u "STAR"), (0, .methodref 8 17), (0, .nameAndType 18 19), (0, u "viewExposed"), (0, u "(I)I"), (0, .class_ 21), (0, u "com/example/viewsmith/viewsmith/workload/ShapeViewExposedPinLaw"), (2, u "law"), (0, u "(II)Z")] 3

def k1m0 : Method := { name := "<init>", desc := "()V", sig := { parameters := [], returnType := none }, accessFlags := 2, code := none }
def k1c1 : Code := { maxStack := 2, maxLocals := 10, code := code, exceptionTable := #[], attributes := #[] }
def k1m1 : Method := { name := "law", desc := "(II)Z", sig := { parameters := [.int, .int], returnType := some .boolean }, accessFlags := 9, code := some k1c1 }
/-- com/example/viewsmith/viewsmith/workload/ShapeViewExposedPinLaw -/
def k1 : Class := { plain "com/example/viewsmith/viewsmith/workload/ShapeViewExposedPinLaw" (some 0) with
  accessFlags := 49
  interfaces := #[]
  cf := some (fileOf pool1 20 #[] #[{ accessFlags := 2, nameIndex := 5, descriptorIndex := 6, attributes := #[] }, { accessFlags := 9, nameIndex := 24, descriptorIndex := 25, attributes := #[] }] 49 2 #[] #[])
  fields := #[]
  methods := #[k1m0, k1m1]
  instanceTypes := #[]
  staticTypes := #[]
  resolved := Array.replicate 29 none
  statics := none }

def pool2 : Array CpInfo := pool [(1, .class_ 2), (0, u "java/lang/constant/Constable"), (0, .class_ 4), (0, u "java/lang/Object")] 6

/-- java/lang/constant/Constable -/
def k2 : Class := { plain "java/lang/constant/Constable" (some 0) with
  accessFlags := 1537
  interfaces := #[]
  cf := some (fileOf pool2 1 #[] #[] 1537 3 #[] #[])
  fields := #[]
  methods := #[]
  instanceTypes := #[]
  staticTypes := #[]
  resolved := Array.replicate 11 none
  statics := none }

def pool3 : Array CpInfo := pool [(1, .class_ 2), (0, u "java/lang/Comparable"), (0, .class_ 4), (0, u "java/lang/Object")] 7

/-- java/lang/Comparable -/
def k3 : Class := { plain "java/lang/Comparable" (some 0) with
  accessFlags := 1537
  interfaces := #[]
  cf := some (fileOf pool3 1 #[] #[] 1537 3 #[] #[])
  fields := #[]
  methods := #[]
  instanceTypes := #[]
  staticTypes := #[]
  resolved := Array.replicate 12 none
  statics := none }

def pool4 : Array CpInfo := pool [(1, .class_ 2), (0, u "java/io/Serializable"), (0, .class_ 4), (0, u "java/lang/Object")] 2

/-- java/io/Serializable -/
def k4 : Class := { plain "java/io/Serializable" (some 0) with
  accessFlags := 1537
  interfaces := #[]
  cf := some (fileOf pool4 1 #[] #[] 1537 3 #[] #[])
  fields := #[]
  methods := #[]
  instanceTypes := #[]
  staticTypes := #[]
  resolved := Array.replicate 7 none
  statics := none }

def pool5 : Array CpInfo := pool [(2, .class_ 4), (1, u "java/lang/Enum"), (0, u "name"), (0, u "Ljava/lang/String;"), (2, u "ordinal"), (0, u "I"), (1, .class_ 14), (1, u "java/lang/Object"), (4, u "hash"), (86, .class_ 108), (1, u "java/lang/Enum$EnumDesc"), (2, .class_ 112), (0, u "java/lang/constant/Constable"), (0, .class_ 114), (0, u "java/lang/Comparable"), (0, .class_ 116), (0, u "java/io/Serializable")] 87

/-- java/lang/Enum -/
def k5 : Class := { plain "java/lang/Enum" (some 0) with
  accessFlags := 1057
  interfaces := #[2, 3, 4]
  cf := some (fileOf pool5 2 #[.nestMembers #[106]] #[] 1057 12 #[111, 113, 115] #[{ accessFlags := 18, nameIndex := 5, descriptorIndex := 6, attributes := #[] }, { accessFlags := 18, nameIndex := 9, descriptorIndex := 10, attributes := #[] }, { accessFlags := 2, nameIndex := 19, descriptorIndex := 10, attributes := #[] }])
  fields := #[{ name := "name", type := (.object "java/lang/String"), accessFlags := 18, slot := 0, constantValue := 0 }, { name := "ordinal", type := .int, accessFlags := 18, slot := 1, constantValue := 0 }, { name := "hash", type := .int, accessFlags := 2, slot := 2, constantValue := 0 }]
  methods := #[]
  instanceTypes := #[(.object "java/lang/String"), .int, .int]
  staticTypes := #[]
  resolved := Array.replicate 204 none
  statics := none }

def pool6 : Array CpInfo := pool [(1, .class_ 2), (0, u "com/example/viewsmith/viewsmith/workload/Shape"), (2, u "CHAIN"), (0, u "Lcom/example/viewsmith/viewsmith/workload/Shape;"), (2, u "STAR"), (2, u "$VALUES"), (0, u "[Lcom/example/viewsmith/viewsmith/workload/Shape;"), (6, .class_ 22), (1, u "java/lang/Enum"), (8, u "atoms"), (0, u "I"), (2, u "queryExposed"), (0, .fieldref 1 37), (0, .nameAndType 38 32), (0, u "wideViewExposed"), (0, .fieldref 1 40), (0, .nameAndType 41 32), (0, u "laterViewExposed"), (16, .class_ 59), (0, u "com/example/viewsmith/viewsmith/workload/Shape$1"), (4, .class_ 65), (0, u "com/example/viewsmith/viewsmith/workload/Shape$2"), (6, u "ARITY"), (2, u "WIDE_VIEWS"), (9, u "viewExposed"), (0, u "(I)I")] 13

def k6c0 : Code := { maxStack := 2, maxLocals := 2, code := prog_60_method_6_code, exceptionTable := #[], attributes := #[] }
def k6m0 : Method := { name := "viewExposed", desc := "(I)I", sig := { parameters := [.int], returnType := some .int }, accessFlags := 1, code := some k6c0 }
/-- com/example/viewsmith/viewsmith/workload/Shape -/
def k6 : Class := { plain "com/example/viewsmith/viewsmith/workload/Shape" (some 5) with
  accessFlags := 17441
  interfaces := #[]
  cf := some (fileOf pool6 1 #[.nestMembers #[64, 58]] #[{ accessFlags := 1, nameIndex := 85, descriptorIndex := 86, attributes := #[] }] 17441 20 #[] #[{ accessFlags := 16409, nameIndex := 5, descriptorIndex := 6, attributes := #[] }, { accessFlags := 16409, nameIndex := 9, descriptorIndex := 6, attributes := #[] }, { accessFlags := 25, nameIndex := 72, descriptorIndex := 32, attributes := #[] }, { accessFlags := 25, nameIndex := 75, descriptorIndex := 32, attributes := #[] }, { accessFlags := 18, nameIndex := 31, descriptorIndex := 32, attributes := #[] }, { accessFlags := 18, nameIndex := 35, descriptorIndex := 32, attributes := #[] }, { accessFlags := 18, nameIndex := 38, descriptorIndex := 32, attributes := #[] }, { accessFlags := 18, nameIndex := 41, descriptorIndex := 32, attributes := #[] }, { accessFlags := 4122, nameIndex := 12, descriptorIndex := 13, attributes := #[] }])
  fields := #[{ name := "CHAIN", type := (.object "com/example/viewsmith/viewsmith/workload/Shape"), accessFlags := 16409, slot := 0, constantValue := 0 }, { name := "STAR", type := (.object "com/example/viewsmith/viewsmith/workload/Shape"), accessFlags := 16409, slot := 1, constantValue := 0 }, { name := "ARITY", type := .int, accessFlags := 25, slot := 2, constantValue := 0 }, { name := "WIDE_VIEWS", type := .int, accessFlags := 25, slot := 3, constantValue := 0 }, { name := "atoms", type := .int, accessFlags := 18, slot := 3, constantValue := 0 }, { name := "queryExposed", type := .int, accessFlags := 18, slot := 4, constantValue := 0 }, { name := "wideViewExposed", type := .int, accessFlags := 18, slot := 5, constantValue := 0 }, { name := "laterViewExposed", type := .int, accessFlags := 18, slot := 6, constantValue := 0 }, { name := "$VALUES", type := (.array (.object "com/example/viewsmith/viewsmith/workload/Shape")), accessFlags := 4122, slot := 4, constantValue := 0 }]
  methods := #[k6m0]
  instanceTypes := #[(.object "java/lang/String"), .int, .int, .int, .int, .int, .int]
  staticTypes := #[(.object "com/example/viewsmith/viewsmith/workload/Shape"), (.object "com/example/viewsmith/viewsmith/workload/Shape"), .int, .int, (.array (.object "com/example/viewsmith/viewsmith/workload/Shape"))]
  resolved := Array.replicate 100 none
  statics := some 0 }

def pool7 : Array CpInfo := pool [(2, .class_ 4), (1, u "com/example/viewsmith/viewsmith/workload/Shape"), (56, .class_ 62), (0, u "com/example/viewsmith/viewsmith/workload/Shape$2")] 13

/-- com/example/viewsmith/viewsmith/workload/Shape$2 -/
def k7 : Class := { plain "com/example/viewsmith/viewsmith/workload/Shape$2" (some 6) with
  accessFlags := 16432
  interfaces := #[]
  cf := some (fileOf pool7 61 #[.nestHost 2] #[] 16432 2 #[] #[])
  fields := #[]
  methods := #[]
  instanceTypes := #[(.object "java/lang/String"), .int, .int, .int, .int, .int, .int]
  staticTypes := #[]
  resolved := Array.replicate 76 none
  statics := none }

def pool8 : Array CpInfo := pool [(2, .class_ 4), (1, u "com/example/viewsmith/viewsmith/workload/Shape"), (8, .class_ 15), (1, u "com/example/viewsmith/viewsmith/workload/Shape$1")] 31

/-- com/example/viewsmith/viewsmith/workload/Shape$1 -/
def k8 : Class := { plain "com/example/viewsmith/viewsmith/workload/Shape$1" (some 6) with
  accessFlags := 16432
  interfaces := #[]
  cf := some (fileOf pool8 13 #[.nestHost 2] #[] 16432 2 #[] #[])
  fields := #[]
  methods := #[]
  instanceTypes := #[(.object "java/lang/String"), .int, .int, .int, .int, .int, .int]
  staticTypes := #[]
  resolved := Array.replicate 47 none
  statics := none }

def pool9 : Array CpInfo := pool [(1, u "java/lang/Cloneable"), (0, .class_ 1), (0, u "java/lang/Object"), (0, .class_ 3)] 3

/-- java/lang/Cloneable -/
def k9 : Class := { plain "java/lang/Cloneable" (some 0) with
  accessFlags := 1537
  interfaces := #[]
  cf := some (fileOf pool9 2 #[] #[] 1537 4 #[] #[])
  fields := #[]
  methods := #[]
  instanceTypes := #[]
  staticTypes := #[]
  resolved := Array.replicate 8 none
  statics := none }

/-- the primitive byte -/
def k10 : Class := { plain "byte" none with kind := .primitive 'B', accessFlags := 0x411 }
/-- [B -/
def k11 : Class := { plain "[B" (some 0) with kind := .array 10 .byte, interfaces := #[9, 4], accessFlags := 1041 }

/-- the primitive int -/
def k12 : Class := { plain "int" none with kind := .primitive 'I', accessFlags := 0x411 }
/-- [I -/
def k13 : Class := { plain "[I" (some 0) with kind := .array 12 .int, interfaces := #[9, 4], accessFlags := 1041 }

def heap : Heap := #[{ cls := 6, slots := #[.ref 2, .ref 1, .int 0, .int 0, .null], vm := .statics 6 },
  { cls := 7, slots := #[.null, .int 1, .int 0, .int 4, .int 2, .int 4, .int 4], vm := .none },
  { cls := 8, slots := #[.null, .int 0, .int 0, .int 4, .int 2, .int 10, .int 3], vm := .none }]
def classes : Array Class := #[k0, k1, k2, k3, k4, k5, k6, k7, k8, k9, k10, k11, k12, k13]
def interned : List (Array UInt16 × Addr) := []
def slotsUsed : Nat := 19
def theMethod : MethodId := ⟨1, 1⟩
def args0 : Array Value := #[.int 5, .int 1]
def aboutOver (below : List Frame) : State where
  vm := { classes := classes, interned := interned.toArray }
  heap := heap
  slotsUsed := slotsUsed
  threads := #[{ frames := .invoking theMethod args0 :: below }]
def below0 : List Frame := [.native { method := ⟨0, 0⟩, args := #[] }]
def about1 : State := aboutOver below0
def p0 : Program := .bare "" "" ""
def e0 : Env := launch0.env 0 0 0
theorem w_frames : about1.frames = Frame.invoking theMethod args0 :: below0 := rfl
set_option maxRecDepth 65536 in
theorem w_args : argsFit about1.vm theMethod args0 = true := by decide +kernel
set_option maxRecDepth 65536 in
theorem w_heap : heapFits about1 = true := by decide +kernel
set_option maxRecDepth 65536 in
theorem w_runnable : about1.curStatus? = some .runnable := by decide +kernel
set_option maxRecDepth 65536 in
theorem w_alone : about1.alone = true := by decide +kernel
set_option maxRecDepth 65536 in
theorem w_named : about1.methodNamed? x = some theMethod := by decide +kernel
set_option maxRecDepth 65536 in
theorem w_hears : about1.hears theMethod below0 = true := by decide +kernel
set_option maxRecDepth 65536 in
theorem w_ripe : about1.ripe theMethod args0 below0 = true := by decide +kernel
theorem w_running : about1.status = .running := rfl
set_option maxRecDepth 65536 in
theorem w_room : about1.hasRoom e0.platform room_1 = true :=
  launch0.hasRoom_least _ room_1 (by decide +kernel) (by decide +kernel) (by decide +kernel) (by decide +kernel) (by decide +kernel) (by decide +kernel)
theorem allAtoms_all (ts : List Jvm.Cond) (a : Array Jvm.Value) (st : Jvm.State) : (allAtoms ts).before a st = ts.all (fun c => c.before a st) := by
  induction ts with
  | nil => rfl
  | cons c t ih =>
    show (Jvm.Cond.and c (allAtoms t)).before a st = _
    rw [Jvm.Cond.before_and, ih, List.all_cons]
def words1 : List Jvm.Cond := Jvm.Cond.code x code maxLocals ret :: tables_1
/-- a 'code' word, met by the world's own term for the bytes: nothing is compared byte by byte -/
theorem code_word {y : MethodName} {bytes : ByteArray} {mx : Nat} {rt : Option FieldType} {a : Array Value} {s : State} {m : MethodId} {meth : Method} {c : Code} (h1 : s.methodNamed? y = some m) (h2 : s.vm.method? m = some meth) (h3 : meth.code = some c) (h4 : c.code = bytes)
    (h5 : (c.maxLocals == mx && c.exceptionTable.isEmpty && decide (c.maxStack ≤ mostOperands) && decide (meth.sig.returnType = rt) && !meth.locks && decide (parseMethodDescriptor y.desc = some meth.sig)) = true) : (Jvm.Cond.code y bytes mx rt).before a s = true := by
  simp only [Bool.and_eq_true, beq_iff_eq, Bool.not_eq_true', decide_eq_true_eq] at h5
  obtain ⟨⟨⟨⟨⟨g1, g2⟩, g3⟩, g4⟩, g5⟩, g6⟩ := h5
  simp [Cond.before, Cond.holds, Cond.value, h1, h2, h3, h4, g1, g2, g3, g4, g5, g6]
def isCode : Jvm.Cond → Bool
  | .code _ _ _ _ => true
  | _ => false
theorem all_split {L : List Jvm.Cond} {P : Jvm.Cond → Bool} (h1 : L.all (fun c => isCode c || P c) = true) (h2 : ∀ c ∈ L.filter isCode, P c = true) : L.all P = true := by
  refine List.all_eq_true.mpr fun c hc => ?_
  have h := List.all_eq_true.mp h1 c hc
  rcases Bool.eq_false_or_eq_true (isCode c) with hi | hi
  · exact h2 c (List.mem_filter.mpr ⟨hc, hi⟩)
  · simpa [hi] using h
set_option maxRecDepth 65536 in
theorem w_c0 : (Jvm.Cond.code x code maxLocals ret).before args0 about1 = true := code_word (m := ⟨1, 1⟩) (meth := k1m1) (c := k1c1) (by decide +kernel) rfl rfl rfl (by decide +kernel)
set_option maxRecDepth 65536 in
theorem w_c1 : (Jvm.Cond.code ({ cls := "com/example/viewsmith/viewsmith/workload/Shape", name := "viewExposed", desc := "(I)I" } : Jvm.MethodName) prog_60_method_6_code (2 : Nat) (Option.some Jvm.ClassFile.FieldType.int)).before args0 about1 = true := code_word (m := ⟨6, 0⟩) (meth := k6m0) (c := k6c0) (by decide +kernel) rfl rfl rfl (by decide +kernel)
def codes1 : List Jvm.Cond := [Jvm.Cond.code x code maxLocals ret, Jvm.Cond.code ({ cls := "com/example/viewsmith/viewsmith/workload/Shape", name := "viewExposed", desc := "(I)I" } : Jvm.MethodName) prog_60_method_6_code (2 : Nat) (Option.some Jvm.ClassFile.FieldType.int)]
set_option maxRecDepth 65536 in
theorem codes_eq : words1.filter isCode = codes1 := rfl
theorem w_codes : ∀ c ∈ words1.filter isCode, c.before args0 about1 = true := by
  rw [codes_eq]
  intro c hc
  simp only [codes1, List.mem_cons, List.not_mem_nil, or_false] at hc
  rcases hc with rfl | rfl
  · exact w_c0
  · exact w_c1
set_option maxRecDepth 65536 in
theorem w_t1 : words1.all (fun c => isCode c || c.before args0 about1) = true := by decide +kernel
theorem w_tables : (allAtoms (Jvm.Cond.code x code maxLocals ret :: tables_1)).before args0 about1 = true := by
  rw [allAtoms_all]
  show words1.all (fun c => c.before args0 about1) = true
  refine all_split ?_ w_codes
  rw [w_t1]
set_option maxRecDepth 65536 in
theorem w_case : (Jvm.Cond.and given_1 narrow_1).before args0 about1 = true := by decide +kernel
theorem w_applies : (headSpec (Jvm.Cond.code x code maxLocals ret :: tables_1) room_1).applies x e0.platform about1 = true :=
  (Spec.applies_iff w_frames).mpr ⟨w_running, w_runnable, w_alone, w_named, w_hears, w_ripe, w_room, w_tables⟩
theorem atStart : AtStart classFile x code maxLocals ret World_1 tables_1 room_1 Calls_1 rest_1 Pre_1 launch0 p0 e0 about1 theMethod args0 below0 :=
  ⟨lists_1, trivial, launch0.admits_env _ _ _, launch0.least_env, fairChoices_fair.cas, fairChoices_fair.clock, w_frames, w_args, w_heap, w_applies, trivial, trivial, w_case⟩
end start1
theorem witness_1 : WitnessClaimed_1 := ⟨start1.p0, start1.e0, start1.about1, start1.theMethod, start1.args0, start1.below0, start1.atStart⟩
end Jvm.Pilot.@@N@@
