import JvmDerived
import JvmDerived.Pilot.@@N@@Statement
import JvmDerived.Pilot.@@N@@Code
set_option linter.unusedVariables false
set_option linter.unusedSimpArgs false
namespace Jvm.RoadKit
open Sem ClassFile Op Lib Jvm.Stand Jvm.Free Jvm.LawKit
section New
variable {p : Program} {l : Launch} {e : Env} {R : Room} {s : State} {m : MethodId} {args : Array Value} {below : List Frame} {meth : Method} {c : Code} {T : State} {locs : List Loc} {cells slots : Nat}
theorem retI (X : Stand p l e R s m args below meth c T locs cells slots) (hx : p.tables.exec = Jvm.exec) {pc : Nat} {Ls : Array Slot} {z : Int32} {rest : List Value} (hret : meth.sig.returnType = some .int) (hd : decode c.code pc = .ok (.ireturn, 1)) {fs : List Frame}
    (hl : ∀ (f : JFrame) (acts : List Action), f.method = m → f.locked = none → f.entered = [] → (doReturn e (T.setTop f) acts (some (.int z))).1 = T.setFrames fs) : Steps p.tables e below (T.setTop (mkF m pc Ls (.int z :: rest))) (T.setFrames fs) := by
  have hm' : T.vm.method? m = some meth := X.method'
  have hn : narrow .int (.int z) = .int z := rfl
  show Steps p.tables e below (T.setTop { method := m, pc := pc, locals := Ls, stack := _ :: rest, locked := none }) _
  jvm_step X.here [X.here.top, hx, hd, hm', hret, hn]
  first | (intro acts; rw [hl _ acts rfl rfl rfl]) | rw [hl _ _ rfl rfl rfl]
  exact Steps.refl _
end New
end Jvm.RoadKit
namespace Jvm.Pilot.@@N@@
open Jvm Jvm.ClassFile Sem Op Lib Jvm.Free Jvm.Stand Jvm.LawKit Jvm.RoadKit Bundle Jvm.Pilot.@@N@@.Jvm.D
/-- a body's contract, by a walk forwards: G U says that the run from U comes to an end that the contract allows -/
theorem own_body {l : Launch} {Z : State} {y : MethodName} {bytes : ByteArray} {maxL : Nat} {ret : Option FieldType} {ws : List Jvm.Cond} {rm : Room} {as' : Array Value} {h0 : Heap} {Q : Option Value → Heap → List Loc → Prop} (hpl : plainFor y = true)
    (body : ∀ (p : Program) (e : Env) (s : State) (m : MethodId) (below : List Frame) (meth : Method) (c : Code) (s₁ : State) (G : State → Prop),
      p.tables.exec = Jvm.exec → c.code = bytes → c.maxLocals = maxL → Z.Warmed39 s.vm → s.vm.findClass y.cls = some m.cls → meth.name = y.name → meth.sig.returnType = ret →
      Stand p l e rm s m as' below meth c s₁ [] 0 0 → s₁.heap = h0 →
      (∀ (U' : State) {U : State}, (∀ t, Steps p.tables e below U' t → Steps p.tables e below U t) → G U' → G U) →
      (∀ {U T : State} {locs : List Loc} {cells slots : Nat} {v : Option Value}, Stand p l e rm s m as' below meth c T locs cells slots → (ret = none → v = none) → Q v T.heap locs → cells ≤ rm.cells → slots ≤ rm.slots →
        (∀ fs, (∀ (f : JFrame) (acts : List Action), f.method = m → f.locked = none → f.entered = [] → (doReturn e (T.setTop f) acts v).1 = T.setFrames fs) → Steps p.tables e below U (T.setFrames fs)) → G U) →
      G (s₁.setTop (entryFrame m as' maxL))) :
    MetFree l y (head1 (Jvm.Cond.code y bytes maxL ret :: ws) rm) (fun a U => a = as' ∧ Z.Warmed39 U.vm ∧ U.heap = h0) (fun _ _ _ _ _ => True) (fun _ U o U' => ∃ v L, o = .returned v ∧ Q v U'.heap L ∧ FrameEnd U o U' L rm.cells rm.slots) := by
  refine MetFree.of_bodySF hpl hisR ?_
  intro p e s m args below meth c s₁ Bd hml0 hP hK
  obtain ⟨rfl, hZ, hh⟩ := hP
  have hnm := (name_of_methodNamed Bd.named Bd.method).1
  exact body p e s m below meth c s₁ (fun U => ∃ s₂ o, Steps p.tables e below U s₂ ∧ s₂.status = .running ∧ Ended s₂ below o ∧ ∃ v L, o = .returned v ∧ Q v s₂.heap L ∧ FrameEnd s o s₂ L rm.cells rm.slots)
    Bd.exec Bd.bytes hml0 hZ (findClass_of_methodNamed Bd.named) hnm Bd.returns (Stand.of_body Bd) (by rw [← hh, Bd.state]; rfl)
    (fun U' U h k => by obtain ⟨s₂, o, h1, h2⟩ := k; exact ⟨s₂, o, h _ h1, h2⟩)
    (fun {U T locs cells slots v} X hv hQ hc hs hst => by
      obtain ⟨fs, hr, hrun, hended, hW, hsame⟩ := X.leave (v := v) (fun h => hv (by rw [← Bd.returns]; exact h))
      exact ⟨_, _, hst fs hr, hrun, hended, v, locs, rfl, hQ, ⟨_, rfl⟩, hW, hsame.mono hc hs⟩)
/-- the same, of a body that may intern String constants on its way -/
theorem own_bodyW {l : Launch} {Z : State} {y : MethodName} {bytes : ByteArray} {maxL : Nat} {ret : Option FieldType} {ws : List Jvm.Cond} {rm : Room} {as' : Array Value} {h0 : Heap} {Q : Option Value → Heap → List Loc → Prop} (hpl : plainFor y = true)
    (body : ∀ (p : Program) (e : Env) (s : State) (m : MethodId) (below : List Frame) (meth : Method) (c : Code) (s₁ : State) (G : State → Prop) (vm0 : Vm) (k0 : Nat),
      p.tables.exec = Jvm.exec → c.code = bytes → c.maxLocals = maxL → Z.Warmed39 vm0 → vm0.findClass y.cls = some m.cls → meth.name = y.name → meth.sig.returnType = ret → s.Since vm0 k0 → k0 ≤ h0.size →
      Stand p l e rm (s.setVm vm0) m as' below meth c s₁ [] 0 0 → s₁.heap = h0 →
      (∀ (U' : State) {U : State}, (∀ t, Steps p.tables e below U' t → Steps p.tables e below U t) → G U' → G U) →
      (∀ {U T : State} {locs : List Loc} {cells slots : Nat} {v : Option Value} {vm1 : Vm} {k1 : Nat}, Stand p l e rm (s.setVm vm1) m as' below meth c T locs cells slots → s.Since vm1 k1 → k1 ≤ T.heap.size → (ret = none → v = none) → Q v T.heap locs → cells ≤ rm.cells → slots ≤ rm.slots →
        (∀ fs, (∀ (f : JFrame) (acts : List Action), f.method = m → f.locked = none → f.entered = [] → (doReturn e (T.setTop f) acts v).1 = T.setFrames fs) → Steps p.tables e below U (T.setFrames fs)) → G U) →
      G (s₁.setTop (entryFrame m as' maxL))) :
    MetFree l y (head1 (Jvm.Cond.code y bytes maxL ret :: ws) rm) (fun a U => a = as' ∧ Z.Warmed39 U.vm ∧ U.heap = h0) (fun _ _ _ _ _ => True) (fun _ U o U' => ∃ v L, o = .returned v ∧ Q v U'.heap L ∧ ReturnedEndW U o U' L rm.cells rm.slots) := by
  refine MetFree.of_bodySF hpl hisR ?_
  intro p e s m args below meth c s₁ Bd hml0 hP hK
  obtain ⟨rfl, hZ, hh⟩ := hP
  have hnm := (name_of_methodNamed Bd.named Bd.method).1
  have X0 := Stand.of_body Bd
  exact body p e s m below meth c s₁ (fun U => ∃ s₂ o, Steps p.tables e below U s₂ ∧ s₂.status = .running ∧ Ended s₂ below o ∧ ∃ v L, o = .returned v ∧ Q v s₂.heap L ∧ ReturnedEndW s o s₂ L rm.cells rm.slots)
    s.vm h0.size Bd.exec Bd.bytes hml0 hZ (findClass_of_methodNamed Bd.named) hnm Bd.returns ((State.WarmedH.refl s).since _) (Nat.le_refl _) X0 (by rw [← hh, Bd.state]; rfl)
    (fun U' U h k => by obtain ⟨s₂, o, h1, h2⟩ := k; exact ⟨s₂, o, h _ h1, h2⟩)
    (fun {U T locs cells slots v vm1 k1} X hS hk hv hQ hc hs hst => by
      obtain ⟨fs, hr, hrun, hended, hE⟩ := X.leaveW hS hk (v := v) (fun h => hv (by rw [← Bd.returns]; exact h))
      exact ⟨_, _, hst fs hr, hrun, hended, v, locs, rfl, hQ, hE.1, hE.2.1, hE.2.2.1, hE.2.2.2.mono hc hs⟩)
theorem own_fin {z : Int32} (h : z = 1) : some (Value.int (nar .boolean z)) = some (.int 1) := by subst h; rfl
theorem own_and3 (p : Int32) : p &&& 3 = 0 ∨ p &&& 3 = 1 ∨ p &&& 3 = 2 ∨ p &&& 3 = 3 := by
  have h := c_mask p 3 2 (by decide) (by decide)
  have h4 : (p &&& 3).toInt = 0 ∨ (p &&& 3).toInt = 1 ∨ (p &&& 3).toInt = 2 ∨ (p &&& 3).toInt = 3 := by omega
  rcases h4 with h | h | h | h
  · exact Or.inl (Int32.toInt_inj.mp h)
  · exact Or.inr (Or.inl (Int32.toInt_inj.mp h))
  · exact Or.inr (Or.inr (Or.inl (Int32.toInt_inj.mp h)))
  · exact Or.inr (Or.inr (Or.inr (Int32.toInt_inj.mp h)))
theorem own_eqi {args : Array Value} {s : State} {t : Term} {n : Int32} (h : (Jvm.Cond.eq t (.int n)).value args s none s [] = some true) : t.eval args s none [] s = some (.int n) := by
  simp only [Cond.value, Term.eval] at h
  cases ht : t.eval args s none [] s with
  | none => simp [ht] at h
  | some x => cases x <;> simp [ht] at h ⊢; exact h
theorem own_irr {x : Int32} : ¬ (x < x) := by rw [Int32.lt_iff_toInt_lt]; omega
theorem own_selP {args : Array Value} {s : State} {y : MethodName} {k : Nat} (hinst : (Jvm.Cond.instanceMethod y).before args s = true) (hi : (Jvm.Cond.instantiable y.cls k).before args s = true) (hp : s.PrivateAt y) (hy : y.cls ≠ "java/lang/invoke/MethodHandle" ∧ y.cls ≠ "java/lang/invoke/VarHandle") : (Jvm.Cond.selects y.cls y y).before args s = true := by
  obtain ⟨m, meth, hn, hm, -, -⟩ := Cond.instanceMethod_spec hinst
  obtain ⟨c, kk, h1, h2, -, h4, -⟩ := Cond.instantiable_spec hi
  have hf := State.methodFound?_of_named hn hy
  have hc := findClass_of_methodNamed hn
  cases h1.symm.trans hc
  have hs := selectMethod_private (p := {}) (c := m.cls) hm (hp m meth hn hm)
  have h5 : kk.isInterface = false := by simp only [Bool.or_eq_false_iff] at h4; exact h4.1
  simp [Cond.before, Cond.holds, Cond.value, hc, hf, hn, hs, h2, h5]
theorem own_add0 (x : Int32) : x = (x + (0 : Int32)) := (Int32.add_zero x).symm
theorem own_nn (x y : Int32) (h : (x &&& (2147483647 : Int32)) = y) : ¬ (y < (0 : Int32)) := by
  subst h
  have h := c_mask x 2147483647 31 (by decide) (by decide)
  rw [Int32.lt_iff_toInt_lt]
  have e : (0 : Int32).toInt = 0 := by decide
  omega
theorem own_255 (x y : Int32) (h : ((x &&& (255 : Int32)).toUInt32.toUInt16.toUInt32.toInt32) = y) : ¬ ((255 : Int32) < y) := by
  subst h
  have h := c_mask x 255 8 (by decide) (by decide)
  have h2 := c_i2c (x &&& 255)
  rw [Int32.lt_iff_toInt_lt]
  have e : (255 : Int32).toInt = 255 := by decide
  omega
theorem own_exaP {Z : State} {h : Heap} {a : Addr} {C : String} (F : Exa Z h a C) : ∀ cell : Cell, h[a]? = some cell → cell.vm.isStatics = false := fun cell q => by
  obtain ⟨c', _, h1, -, -, h4, -⟩ := F
  cases h1.symm.trans q
  exact h4
theorem own_arvP {Z : State} {h : Heap} {a : Addr} {k : ClassId} {ty : FieldType} {z : Int32} {vs : List Value} {dv : Value} (F : Arv Z h a k ty z vs dv) : ∀ cell : Cell, h[a]? = some cell → cell.vm.isStatics = false := fun cell q => by
  obtain ⟨c', A, -⟩ := F
  cases A.1.symm.trans q
  exact A.plain
theorem own_staK {Z : State} {h h' : Heap} {ws : List Addr} {C n d : String} {v : Value} (F : Sta Z h C n d v) (K : Keep h h' ws) (q : ∀ x ∈ ws, ∀ cell : Cell, h[x]? = some cell → cell.vm.isStatics = false) : Sta Z h' C n d v := by
  obtain ⟨cf, i, k, f, st, cell, h1, h2, h3, h4, h5, h6, h7⟩ := F
  exact ⟨cf, i, k, f, st, cell, h1, h2, h3, h4, K.2.1 st cell h5 (fun hm => by rw [q st hm cell h5] at h6; cases h6), h6, h7⟩
theorem own_arr0 {args : Array Value} {s : State} {t : Term} {a : Addr} {ty : FieldType} {dv : Value} (hf : Fit s) (ev : t.eval args s none [] s = some (.ref a)) (hA : (Jvm.Cond.arrayOf t ty).value args s none s [] = some true) (hl : (Jvm.Cond.eq (.length t) (.int 0)).value args s none s [] = some true) : ∃ k, Arv s s.heap a k ty 0 [] dv := by
  obtain ⟨c, A⟩ := Arr.start ev hA
  have h0 := own_eqi hl
  obtain ⟨a', cell, e1, e2, e3⟩ := Term.length_spec h0
  cases ev.symm.trans e1
  have e4 : s.arrayAt? a = some c := Arr.fin (U := s) (Vm.Alike.refl _) A
  cases e4.symm.trans e2
  have hq : c.slots.size < 2 ^ 31 := by
    by_cases q : c.slots.size < 2 ^ 31
    · exact q
    · simp [Term.eval, ev, e4, q] at h0
  have e5 : c.slots.size.toInt32 = 0 := by injection e3 with e; exact e.symm
  exact ⟨_, Arv.start hf A hq e5 (by decide) rfl trivial⟩
theorem own_255n (x y : Int32) (h : ((x &&& (255 : Int32)).toUInt32.toUInt16.toUInt32.toInt32) = y) : ¬ ((255 : Int32) < (nar .char y)) := by
  have h1 := own_255 x y h
  have h0 := (c_i2c (x &&& 255)).2.1
  rw [h] at h0
  have h2 : (nar .char y).toInt = (y.toUInt32.toUInt16.toUInt32.toInt32).toInt := rfl
  have h3 := c_i2c y
  rw [Int32.lt_iff_toInt_lt] at *
  have e : (255 : Int32).toInt = 255 := by decide
  omega
theorem own_tri (a b : Int64) : (a < b ∧ ¬ a = b ∧ ¬ b = a ∧ ¬ b < a) ∨ (¬ a < b ∧ a = b ∧ b = a ∧ ¬ b < a) ∨ (¬ a < b ∧ ¬ a = b ∧ ¬ b = a ∧ b < a) := by
  simp only [Int64.lt_iff_toInt_lt, ← Int64.toInt_inj]
  omega
theorem pn_0 : plainName "com/example/spindle/spindle/EntryHeapLeavesBeforePinLaw" = true := by first | (simp [plainName, overriddenIn]; done) | decide +kernel
theorem pd_0 : parseMethodDescriptor "(JJJJ)Z" = some ⟨[.long, .long, .long, .long], some .boolean⟩ := by decide +kernel
theorem d1_0 : decode prog_4_method_2_code 0 = .ok (.lload_n 0, 1) := by decide +kernel
theorem d1_1 : decode prog_4_method_2_code 1 = .ok (.lload 4, 2) := by decide +kernel
theorem d1_3 : decode prog_4_method_2_code 3 = .ok (.lcmp, 1) := by decide +kernel
theorem d1_4 : decode prog_4_method_2_code 4 = .ok (.ifCond .eq 18, 3) := by decide +kernel
theorem d1_7 : decode prog_4_method_2_code 7 = .ok (.lload_n 0, 1) := by decide +kernel
theorem d1_8 : decode prog_4_method_2_code 8 = .ok (.lload 4, 2) := by decide +kernel
theorem d1_10 : decode prog_4_method_2_code 10 = .ok (.lcmp, 1) := by decide +kernel
theorem d1_11 : decode prog_4_method_2_code 11 = .ok (.ifCond .ge 7, 3) := by decide +kernel
theorem d1_14 : decode prog_4_method_2_code 14 = .ok (.iconst 1, 1) := by decide +kernel
theorem d1_15 : decode prog_4_method_2_code 15 = .ok (.goto 19, 3) := by decide +kernel
theorem d1_18 : decode prog_4_method_2_code 18 = .ok (.iconst 0, 1) := by decide +kernel
theorem d1_19 : decode prog_4_method_2_code 19 = .ok (.goto 15, 3) := by decide +kernel
theorem d1_22 : decode prog_4_method_2_code 22 = .ok (.lload_n 2, 1) := by decide +kernel
theorem d1_23 : decode prog_4_method_2_code 23 = .ok (.lload 6, 2) := by decide +kernel
theorem d1_25 : decode prog_4_method_2_code 25 = .ok (.lcmp, 1) := by decide +kernel
theorem d1_26 : decode prog_4_method_2_code 26 = .ok (.ifCond .ge 7, 3) := by decide +kernel
theorem d1_29 : decode prog_4_method_2_code 29 = .ok (.iconst 1, 1) := by decide +kernel
theorem d1_30 : decode prog_4_method_2_code 30 = .ok (.goto 4, 3) := by decide +kernel
theorem d1_33 : decode prog_4_method_2_code 33 = .ok (.iconst 0, 1) := by decide +kernel
theorem d1_34 : decode prog_4_method_2_code 34 = .ok (.ireturn, 1) := by decide +kernel
theorem pn_1 : plainName "com/example/spindle/spindle/EntryHeap" = true := by first | (simp [plainName, overriddenIn]; done) | decide +kernel
theorem ef_1_1 (m : MethodId) (x0 : Int64) (x1 : Int64) (x2 : Int64) (x3 : Int64) : entryFrame m #[(.long x0), (.long x1), (.long x2), (.long x3)] 8 = mkF m 0 #[.val (.long x0), .second, .val (.long x1), .second, .val (.long x2), .second, .val (.long x3), .second] [] := by first | (simp [entryFrame, mkF, argsToLocals, Value.category]; done) | rfl
def Q1_1 (Z : State) (j1 : Int64) (j2 : Int64) (j3 : Int64) (j4 : Int64) (h0 : Heap) (n0 : Nat) (v : Option Value) (h : Heap) (L : List Loc) : Prop := ∃ (z34_1 : Int32), v = some (.int z34_1) ∧ Fr n0 L ∧ h = h0 ∧ z34_1 = (if j1 = j3 then (if j2 < j4 then (1 : Int32) else (0 : Int32)) else (if j1 < j3 then (1 : Int32) else (0 : Int32)))
set_option maxRecDepth 65536 in
set_option maxHeartbeats 40000000 in
theorem rm1_1 (l : Launch) (Z : State) (a0 : Array Value) (hw : ∀ d ∈ tables_1, d.before a0 Z = true) (ws : List Jvm.Cond) (j1 : Int64) (j2 : Int64) (j3 : Int64) (j4 : Int64) (h0 : Heap) (n0 : Nat) (Z0 : n0 ≤ h0.size)  :
    MetFree l (⟨"com/example/spindle/spindle/EntryHeap", "leavesBefore", "(JJJJ)Z"⟩ : MethodName) (head1 (Jvm.Cond.code (⟨"com/example/spindle/spindle/EntryHeap", "leavesBefore", "(JJJJ)Z"⟩ : MethodName) prog_4_method_2_code 8 (some .boolean) :: ws) ({ frames := 0, cells := 0, slots := 0, locals := 0 } : Room)) (fun a U => a = #[(.long j1), (.long j2), (.long j3), (.long j4)] ∧ Z.Warmed39 U.vm ∧ U.heap = h0) (fun _ _ _ _ _ => True) (fun _ U o U' => ∃ v L, o = .returned v ∧ Q1_1 Z j1 j2 j3 j4 h0 n0 v U'.heap L ∧ FrameEnd U o U' L ({ frames := 0, cells := 0, slots := 0, locals := 0 } : Room).cells ({ frames := 0, cells := 0, slots := 0, locals := 0 } : Room).slots) := by
  refine own_body (plainFor_of_name pn_1) ?_
  intro p e s m below meth c s₁ G hx hby hml hZ hown hnm hret X0 e0 step fin
  replace hown : s.vm.findClass "com/example/spindle/spindle/EntryHeap" = some m.cls := hown
  replace hnm : meth.name = "leavesBefore" := hnm
  replace hret : meth.sig.returnType = some .boolean := hret
  replace hml : c.maxLocals = 8 := hml
  have N0 := Fr.nil n0
  refine step (s₁.setTop (mkF m 0 #[.val (.long j1), .second, .val (.long j2), .second, .val (.long j3), .second, .val (.long j4), .second] [])) (fun t k => castTop (ef_1_1 m j1 j2 j3 j4) k) ?_
  refine step (s₁.setTop (mkF m 1 #[.val (.long j1), .second, .val (.long j2), .second, .val (.long j3), .second, .val (.long j4), .second] [(.long j1)])) (fun t k => XS.lloadN X0.here hx rfl (hb hby d1_0) rfl k) ?_
  refine step (s₁.setTop (mkF m 3 #[.val (.long j1), .second, .val (.long j2), .second, .val (.long j3), .second, .val (.long j4), .second] [(.long j3), (.long j1)])) (fun t k => XS.lload X0.here hx rfl (hb hby d1_1) rfl k) ?_
  refine step (s₁.setTop (mkF m 4 #[.val (.long j1), .second, .val (.long j2), .second, .val (.long j3), .second, .val (.long j4), .second] [(.int (lcmpW j1 j3))])) (fun t k => XS.lcmp X0.here hx rfl (hb hby d1_3) rfl k) ?_
  suffices J34_2 : ∀ (z34_1 : Int32), z34_1 = (if j1 = j3 then (if j2 < j4 then (1 : Int32) else (0 : Int32)) else (if j1 < j3 then (1 : Int32) else (0 : Int32))) → G (s₁.setTop (mkF m 34 #[.val (.long j1), .second, .val (.long j2), .second, .val (.long j3), .second, .val (.long j4), .second] [(.int z34_1)])) by
    by_cases hc4_3 : j1 = j3
    · -- 4 True
      refine step (s₁.setTop (mkF m 22 #[.val (.long j1), .second, .val (.long j2), .second, .val (.long j3), .second, .val (.long j4), .second] [])) (fun t k => XS.ifYes X0.here hx rfl (pc0 := 4) (pc' := 22) rfl (hb hby d1_4) rfl ((if0 _ _).trans (teq ((lw_eq _ _).mpr hc4_3)).1) (by decide) (by decide) k) ?_
      refine step (s₁.setTop (mkF m 23 #[.val (.long j1), .second, .val (.long j2), .second, .val (.long j3), .second, .val (.long j4), .second] [(.long j2)])) (fun t k => XS.lloadN X0.here hx rfl (hb hby d1_22) rfl k) ?_
      refine step (s₁.setTop (mkF m 25 #[.val (.long j1), .second, .val (.long j2), .second, .val (.long j3), .second, .val (.long j4), .second] [(.long j4), (.long j2)])) (fun t k => XS.lload X0.here hx rfl (hb hby d1_23) rfl k) ?_
      refine step (s₁.setTop (mkF m 26 #[.val (.long j1), .second, .val (.long j2), .second, .val (.long j3), .second, .val (.long j4), .second] [(.int (lcmpW j2 j4))])) (fun t k => XS.lcmp X0.here hx rfl (hb hby d1_25) rfl k) ?_
      by_cases hc26_4 : j2 < j4
      · -- 26 True
        refine step (s₁.setTop (mkF m 29 #[.val (.long j1), .second, .val (.long j2), .second, .val (.long j3), .second, .val (.long j4), .second] [])) (fun t k => XS.ifNo X0.here hx rfl (hb hby d1_26) rfl ((if0 _ _).trans (tlt ((lw_lt _ _).mpr hc26_4)).2.1) k) ?_
        refine step (s₁.setTop (mkF m 30 #[.val (.long j1), .second, .val (.long j2), .second, .val (.long j3), .second, .val (.long j4), .second] [(.int (1 : Int32))])) (fun t k => XS.iconst X0.here hx rfl (hb hby d1_29) k) ?_
        refine step (s₁.setTop (mkF m 34 #[.val (.long j1), .second, .val (.long j2), .second, .val (.long j3), .second, .val (.long j4), .second] [(.int (1 : Int32))])) (fun t k => XS.goto X0.here hx rfl (pc0 := 30) (pc' := 34) rfl (hb hby d1_30) (by decide) (by decide) k) ?_
        exact J34_2 _ (by simp only [if_pos hc4_3, if_pos hc26_4, if_true, if_false])
      · -- 26 False
        refine step (s₁.setTop (mkF m 33 #[.val (.long j1), .second, .val (.long j2), .second, .val (.long j3), .second, .val (.long j4), .second] [])) (fun t k => XS.ifYes X0.here hx rfl (pc0 := 26) (pc' := 33) rfl (hb hby d1_26) rfl ((if0 _ _).trans (flt (fun q => hc26_4 ((lw_lt _ _).mp q))).2.1) (by decide) (by decide) k) ?_
        refine step (s₁.setTop (mkF m 34 #[.val (.long j1), .second, .val (.long j2), .second, .val (.long j3), .second, .val (.long j4), .second] [(.int (0 : Int32))])) (fun t k => XS.iconst X0.here hx rfl (hb hby d1_33) k) ?_
        exact J34_2 _ (by simp only [if_pos hc4_3, if_neg hc26_4, if_true, if_false])
    · -- 4 False
      refine step (s₁.setTop (mkF m 7 #[.val (.long j1), .second, .val (.long j2), .second, .val (.long j3), .second, .val (.long j4), .second] [])) (fun t k => XS.ifNo X0.here hx rfl (hb hby d1_4) rfl ((if0 _ _).trans (feq (fun q => hc4_3 ((lw_eq _ _).mp q))).1) k) ?_
      refine step (s₁.setTop (mkF m 8 #[.val (.long j1), .second, .val (.long j2), .second, .val (.long j3), .second, .val (.long j4), .second] [(.long j1)])) (fun t k => XS.lloadN X0.here hx rfl (hb hby d1_7) rfl k) ?_
      refine step (s₁.setTop (mkF m 10 #[.val (.long j1), .second, .val (.long j2), .second, .val (.long j3), .second, .val (.long j4), .second] [(.long j3), (.long j1)])) (fun t k => XS.lload X0.here hx rfl (hb hby d1_8) rfl k) ?_
      refine step (s₁.setTop (mkF m 11 #[.val (.long j1), .second, .val (.long j2), .second, .val (.long j3), .second, .val (.long j4), .second] [(.int (lcmpW j1 j3))])) (fun t k => XS.lcmp X0.here hx rfl (hb hby d1_10) rfl k) ?_
      by_cases hc11_5 : j1 < j3
      · -- 11 True
        refine step (s₁.setTop (mkF m 14 #[.val (.long j1), .second, .val (.long j2), .second, .val (.long j3), .second, .val (.long j4), .second] [])) (fun t k => XS.ifNo X0.here hx rfl (hb hby d1_11) rfl ((if0 _ _).trans (tlt ((lw_lt _ _).mpr hc11_5)).2.1) k) ?_
        refine step (s₁.setTop (mkF m 15 #[.val (.long j1), .second, .val (.long j2), .second, .val (.long j3), .second, .val (.long j4), .second] [(.int (1 : Int32))])) (fun t k => XS.iconst X0.here hx rfl (hb hby d1_14) k) ?_
        refine step (s₁.setTop (mkF m 34 #[.val (.long j1), .second, .val (.long j2), .second, .val (.long j3), .second, .val (.long j4), .second] [(.int (1 : Int32))])) (fun t k => XS.goto X0.here hx rfl (pc0 := 15) (pc' := 34) rfl (hb hby d1_15) (by decide) (by decide) k) ?_
        exact J34_2 _ (by simp only [if_neg hc4_3, if_pos hc11_5, if_true, if_false])
      · -- 11 False
        refine step (s₁.setTop (mkF m 18 #[.val (.long j1), .second, .val (.long j2), .second, .val (.long j3), .second, .val (.long j4), .second] [])) (fun t k => XS.ifYes X0.here hx rfl (pc0 := 11) (pc' := 18) rfl (hb hby d1_11) rfl ((if0 _ _).trans (flt (fun q => hc11_5 ((lw_lt _ _).mp q))).2.1) (by decide) (by decide) k) ?_
        refine step (s₁.setTop (mkF m 19 #[.val (.long j1), .second, .val (.long j2), .second, .val (.long j3), .second, .val (.long j4), .second] [(.int (0 : Int32))])) (fun t k => XS.iconst X0.here hx rfl (hb hby d1_18) k) ?_
        refine step (s₁.setTop (mkF m 34 #[.val (.long j1), .second, .val (.long j2), .second, .val (.long j3), .second, .val (.long j4), .second] [(.int (0 : Int32))])) (fun t k => XS.goto X0.here hx rfl (pc0 := 19) (pc' := 34) rfl (hb hby d1_19) (by decide) (by decide) k) ?_
        exact J34_2 _ (by simp only [if_neg hc4_3, if_neg hc11_5, if_true, if_false])
  intro z34_1 hz34_1
  refine fin (v := some (.int (nar .boolean z34_1))) X0 (fun h => by cases h) ?_ (by decide) (by decide) (fun fs hr => retN X0 hx (t := .boolean) hret (by simp) (hb hby d1_34) hr)
  show Q1_1 Z j1 j2 j3 j4 h0 n0 (some (.int (nar .boolean z34_1))) s₁.heap _
  rw [e0]
  exact ⟨z34_1, (congrArg (fun z => some (Value.int z)) (by rw [hz34_1]; (repeat' split) <;> rfl)), N0, rfl, hz34_1⟩
theorem own_plain1 (p0 : Int64) (p1 : Int64) (p2 : Int64) (p3 : Int64) (p4 : Int32) (z13_1 : Int64) (z28_4 : Int64) (z34_1_7 : Int32) (z34_1_8 : Int32) (z71_9 : Int32) (z113_13 : Int32) (z128_18 : Int32) (z150_22 : Int32) (z167_27 : Int32) (z196_31 : Int32) (hz13_1 : z13_1 = (if (p4 &&& (1 : Int32)) = (0 : Int32) then p2 else p0)) (hz28_4 : z28_4 = (if (p4 &&& (2 : Int32)) = (0 : Int32) then p3 else p1)) (hz34_1_7 : z34_1_7 = (if p0 = z13_1 then (if p1 < z28_4 then (1 : Int32) else (0 : Int32)) else (if p0 < z13_1 then (1 : Int32) else (0 : Int32)))) (hz34_1_8 : z34_1_8 = (if z13_1 = p0 then (if z28_4 < p1 then (1 : Int32) else (0 : Int32)) else (if z13_1 < p0 then (1 : Int32) else (0 : Int32)))) (hz71_9 : z71_9 = (if p0 = z13_1 then (if p1 = z28_4 then (1 : Int32) else (0 : Int32)) else (0 : Int32))) (hz113_13 : z113_13 = (if p0 < z13_1 then (1 : Int32) else (if z13_1 < p0 then (0 : Int32) else (if p1 < z28_4 then (1 : Int32) else (0 : Int32))))) (hz128_18 : z128_18 = (if z34_1_7 = (0 : Int32) then (1 : Int32) else (if z34_1_8 = (0 : Int32) then (1 : Int32) else (0 : Int32)))) (hz150_22 : z150_22 = (if z71_9 = (0 : Int32) then (if z34_1_7 = (0 : Int32) then (if z34_1_8 = (0 : Int32) then (0 : Int32) else (1 : Int32)) else (1 : Int32)) else (1 : Int32))) (hz167_27 : z167_27 = (if z71_9 = (0 : Int32) then (1 : Int32) else (if z34_1_7 = (0 : Int32) then (1 : Int32) else (0 : Int32)))) (hz196_31 : z196_31 = (if z34_1_7 = z113_13 then (if z128_18 = (0 : Int32) then (0 : Int32) else (if z150_22 = (0 : Int32) then (0 : Int32) else (if z167_27 = (0 : Int32) then (0 : Int32) else (1 : Int32)))) else (0 : Int32))) : z196_31 = 1 := by
  clear hz13_1 hz28_4
  subst hz34_1_7 hz34_1_8 hz71_9 hz113_13 hz128_18 hz150_22 hz167_27 hz196_31
  rcases own_tri p0 z13_1 with ⟨h1, h2, h3, h4⟩ | ⟨h1, h2, h3, h4⟩ | ⟨h1, h2, h3, h4⟩ <;> rcases own_tri p1 z28_4 with ⟨g1, g2, g3, g4⟩ | ⟨g1, g2, g3, g4⟩ | ⟨g1, g2, g3, g4⟩
  · simp only [if_pos h1, if_neg h2, if_neg h3, if_neg h4, if_pos g1, if_neg g2, if_neg g3, if_neg g4]; decide
  · simp only [if_pos h1, if_neg h2, if_neg h3, if_neg h4, if_neg g1, if_pos g2, if_pos g3, if_neg g4]; decide
  · simp only [if_pos h1, if_neg h2, if_neg h3, if_neg h4, if_neg g1, if_neg g2, if_neg g3, if_pos g4]; decide
  · simp only [if_neg h1, if_pos h2, if_pos h3, if_neg h4, if_pos g1, if_neg g2, if_neg g3, if_neg g4]; decide
  · simp only [if_neg h1, if_pos h2, if_pos h3, if_neg h4, if_neg g1, if_pos g2, if_pos g3, if_neg g4]; decide
  · simp only [if_neg h1, if_pos h2, if_pos h3, if_neg h4, if_neg g1, if_neg g2, if_neg g3, if_pos g4]; decide
  · simp only [if_neg h1, if_neg h2, if_neg h3, if_pos h4, if_pos g1, if_neg g2, if_neg g3, if_neg g4]; decide
  · simp only [if_neg h1, if_neg h2, if_neg h3, if_pos h4, if_neg g1, if_pos g2, if_pos g3, if_neg g4]; decide
  · simp only [if_neg h1, if_neg h2, if_neg h3, if_pos h4, if_neg g1, if_neg g2, if_neg g3, if_pos g4]; decide
theorem ef_0 (m : MethodId) (x0 : Int64) (x1 : Int64) (x2 : Int64) (x3 : Int64) (x4 : Int32) : entryFrame m #[(.long x0), (.long x1), (.long x2), (.long x3), (.int x4)] maxLocals = mkF m 0 #[.val (.long x0), .second, .val (.long x1), .second, .val (.long x2), .second, .val (.long x3), .second, .val (.int x4), .unset, .unset, .unset, .unset, .unset, .unset, .unset, .unset, .unset, .unset, .unset] [] := by first | (simp [entryFrame, mkF, argsToLocals, Value.category, maxLocals]; done) | rfl
def Q0 (Z : State) (p0 p1 p2 p3 : Int64) (p4 : Int32) (h0 : Heap) (n0 : Nat) (v : Option Value) (h : Heap) (L : List Loc) : Prop := v = some (.int 1) ∧ Fr n0 L
set_option maxRecDepth 65536 in
set_option maxHeartbeats 40000000 in
theorem rm0 (l : Launch) (Z : State) (a0 : Array Value) (hw : ∀ d ∈ tables_1, d.before a0 Z = true) (ws : List Jvm.Cond) (p0 p1 p2 p3 : Int64) (p4 : Int32) (h0 : Heap) (n0 : Nat) (Z0 : n0 ≤ h0.size)  :
    MetFree l x (head1 (Jvm.Cond.code x code maxLocals ret :: ws) room_1) (fun a U => a = #[(.long p0), (.long p1), (.long p2), (.long p3), (.int p4)] ∧ Z.Warmed39 U.vm ∧ U.heap = h0) (fun _ _ _ _ _ => True) (fun _ U o U' => ∃ v L, o = .returned v ∧ Q0 Z p0 p1 p2 p3 p4 h0 n0 v U'.heap L ∧ FrameEnd U o U' L room_1.cells room_1.slots) := by
  refine own_body (plainFor_of_name pn_0) ?_
  intro p e s m below meth c s₁ G hx hby hml hZ hown hnm hret X0 e0 step fin
  replace hown : s.vm.findClass "com/example/spindle/spindle/EntryHeapLeavesBeforePinLaw" = some m.cls := hown
  replace hnm : meth.name = "law" := hnm
  replace hret : meth.sig.returnType = some .boolean := hret
  replace hml : c.maxLocals = 20 := hml
  have N0 := Fr.nil n0
  refine step (s₁.setTop (mkF m 0 #[.val (.long p0), .second, .val (.long p1), .second, .val (.long p2), .second, .val (.long p3), .second, .val (.int p4), .unset, .unset, .unset, .unset, .unset, .unset, .unset, .unset, .unset, .unset, .unset] [])) (fun t k => castTop (ef_0 m p0 p1 p2 p3 p4) k) ?_
  refine step (s₁.setTop (mkF m 2 #[.val (.long p0), .second, .val (.long p1), .second, .val (.long p2), .second, .val (.long p3), .second, .val (.int p4), .unset, .unset, .unset, .unset, .unset, .unset, .unset, .unset, .unset, .unset, .unset] [(.int p4)])) (fun t k => XS.iload X0.here hx rfl (hb hby at_0) rfl k) ?_
  refine step (s₁.setTop (mkF m 3 #[.val (.long p0), .second, .val (.long p1), .second, .val (.long p2), .second, .val (.long p3), .second, .val (.int p4), .unset, .unset, .unset, .unset, .unset, .unset, .unset, .unset, .unset, .unset, .unset] [(.int (1 : Int32)), (.int p4)])) (fun t k => XS.iconst X0.here hx rfl (hb hby at_2) k) ?_
  refine step (s₁.setTop (mkF m 4 #[.val (.long p0), .second, .val (.long p1), .second, .val (.long p2), .second, .val (.long p3), .second, .val (.int p4), .unset, .unset, .unset, .unset, .unset, .unset, .unset, .unset, .unset, .unset, .unset] [(.int (p4 &&& (1 : Int32)))])) (fun t k => XS.iand X0.here hx rfl (hb hby at_3) rfl k) ?_
  suffices J13_2 : ∀ (z13_1 : Int64), z13_1 = (if (p4 &&& (1 : Int32)) = (0 : Int32) then p2 else p0) → G (s₁.setTop (mkF m 13 #[.val (.long p0), .second, .val (.long p1), .second, .val (.long p2), .second, .val (.long p3), .second, .val (.int p4), .unset, .unset, .unset, .unset, .unset, .unset, .unset, .unset, .unset, .unset, .unset] [(.long z13_1)])) by
    by_cases hc4_3 : (p4 &&& (1 : Int32)) = (0 : Int32)
    · -- 4 True
      refine step (s₁.setTop (mkF m 11 #[.val (.long p0), .second, .val (.long p1), .second, .val (.long p2), .second, .val (.long p3), .second, .val (.int p4), .unset, .unset, .unset, .unset, .unset, .unset, .unset, .unset, .unset, .unset, .unset] [])) (fun t k => XS.ifYes X0.here hx rfl (pc0 := 4) (pc' := 11) rfl (hb hby at_4) rfl ((if0 _ _).trans (teq hc4_3).1) (by decide) (by decide) k) ?_
      refine step (s₁.setTop (mkF m 13 #[.val (.long p0), .second, .val (.long p1), .second, .val (.long p2), .second, .val (.long p3), .second, .val (.int p4), .unset, .unset, .unset, .unset, .unset, .unset, .unset, .unset, .unset, .unset, .unset] [(.long p2)])) (fun t k => XS.lload X0.here hx rfl (hb hby at_11) rfl k) ?_
      exact J13_2 _ (by simp only [if_pos hc4_3, if_true, if_false])
    · -- 4 False
      refine step (s₁.setTop (mkF m 7 #[.val (.long p0), .second, .val (.long p1), .second, .val (.long p2), .second, .val (.long p3), .second, .val (.int p4), .unset, .unset, .unset, .unset, .unset, .unset, .unset, .unset, .unset, .unset, .unset] [])) (fun t k => XS.ifNo X0.here hx rfl (hb hby at_4) rfl ((if0 _ _).trans (feq hc4_3).1) k) ?_
      refine step (s₁.setTop (mkF m 8 #[.val (.long p0), .second, .val (.long p1), .second, .val (.long p2), .second, .val (.long p3), .second, .val (.int p4), .unset, .unset, .unset, .unset, .unset, .unset, .unset, .unset, .unset, .unset, .unset] [(.long p0)])) (fun t k => XS.lloadN X0.here hx rfl (hb hby at_7) rfl k) ?_
      refine step (s₁.setTop (mkF m 13 #[.val (.long p0), .second, .val (.long p1), .second, .val (.long p2), .second, .val (.long p3), .second, .val (.int p4), .unset, .unset, .unset, .unset, .unset, .unset, .unset, .unset, .unset, .unset, .unset] [(.long p0)])) (fun t k => XS.goto X0.here hx rfl (pc0 := 8) (pc' := 13) rfl (hb hby at_8) (by decide) (by decide) k) ?_
      exact J13_2 _ (by simp only [if_neg hc4_3, if_true, if_false])
  intro z13_1 hz13_1
  refine step (s₁.setTop (mkF m 15 #[.val (.long p0), .second, .val (.long p1), .second, .val (.long p2), .second, .val (.long p3), .second, .val (.int p4), .val (.long z13_1), .second, .unset, .unset, .unset, .unset, .unset, .unset, .unset, .unset, .unset] [])) (fun t k => XS.lstore X0.here hx rfl (hb hby at_13) rfl (l' := #[.val (.long p0), .second, .val (.long p1), .second, .val (.long p2), .second, .val (.long p3), .second, .val (.int p4), .val (.long z13_1), .second, .unset, .unset, .unset, .unset, .unset, .unset, .unset, .unset, .unset]) rfl k) ?_
  refine step (s₁.setTop (mkF m 17 #[.val (.long p0), .second, .val (.long p1), .second, .val (.long p2), .second, .val (.long p3), .second, .val (.int p4), .val (.long z13_1), .second, .unset, .unset, .unset, .unset, .unset, .unset, .unset, .unset, .unset] [(.int p4)])) (fun t k => XS.iload X0.here hx rfl (hb hby at_15) rfl k) ?_
  refine step (s₁.setTop (mkF m 18 #[.val (.long p0), .second, .val (.long p1), .second, .val (.long p2), .second, .val (.long p3), .second, .val (.int p4), .val (.long z13_1), .second, .unset, .unset, .unset, .unset, .unset, .unset, .unset, .unset, .unset] [(.int (2 : Int32)), (.int p4)])) (fun t k => XS.iconst X0.here hx rfl (hb hby at_17) k) ?_
  refine step (s₁.setTop (mkF m 19 #[.val (.long p0), .second, .val (.long p1), .second, .val (.long p2), .second, .val (.long p3), .second, .val (.int p4), .val (.long z13_1), .second, .unset, .unset, .unset, .unset, .unset, .unset, .unset, .unset, .unset] [(.int (p4 &&& (2 : Int32)))])) (fun t k => XS.iand X0.here hx rfl (hb hby at_18) rfl k) ?_
  suffices J28_5 : ∀ (z28_4 : Int64), z28_4 = (if (p4 &&& (2 : Int32)) = (0 : Int32) then p3 else p1) → G (s₁.setTop (mkF m 28 #[.val (.long p0), .second, .val (.long p1), .second, .val (.long p2), .second, .val (.long p3), .second, .val (.int p4), .val (.long z13_1), .second, .unset, .unset, .unset, .unset, .unset, .unset, .unset, .unset, .unset] [(.long z28_4)])) by
    by_cases hc19_6 : (p4 &&& (2 : Int32)) = (0 : Int32)
    · -- 19 True
      refine step (s₁.setTop (mkF m 26 #[.val (.long p0), .second, .val (.long p1), .second, .val (.long p2), .second, .val (.long p3), .second, .val (.int p4), .val (.long z13_1), .second, .unset, .unset, .unset, .unset, .unset, .unset, .unset, .unset, .unset] [])) (fun t k => XS.ifYes X0.here hx rfl (pc0 := 19) (pc' := 26) rfl (hb hby at_19) rfl ((if0 _ _).trans (teq hc19_6).1) (by decide) (by decide) k) ?_
      refine step (s₁.setTop (mkF m 28 #[.val (.long p0), .second, .val (.long p1), .second, .val (.long p2), .second, .val (.long p3), .second, .val (.int p4), .val (.long z13_1), .second, .unset, .unset, .unset, .unset, .unset, .unset, .unset, .unset, .unset] [(.long p3)])) (fun t k => XS.lload X0.here hx rfl (hb hby at_26) rfl k) ?_
      exact J28_5 _ (by simp only [if_pos hc19_6, if_true, if_false])
    · -- 19 False
      refine step (s₁.setTop (mkF m 22 #[.val (.long p0), .second, .val (.long p1), .second, .val (.long p2), .second, .val (.long p3), .second, .val (.int p4), .val (.long z13_1), .second, .unset, .unset, .unset, .unset, .unset, .unset, .unset, .unset, .unset] [])) (fun t k => XS.ifNo X0.here hx rfl (hb hby at_19) rfl ((if0 _ _).trans (feq hc19_6).1) k) ?_
      refine step (s₁.setTop (mkF m 23 #[.val (.long p0), .second, .val (.long p1), .second, .val (.long p2), .second, .val (.long p3), .second, .val (.int p4), .val (.long z13_1), .second, .unset, .unset, .unset, .unset, .unset, .unset, .unset, .unset, .unset] [(.long p1)])) (fun t k => XS.lloadN X0.here hx rfl (hb hby at_22) rfl k) ?_
      refine step (s₁.setTop (mkF m 28 #[.val (.long p0), .second, .val (.long p1), .second, .val (.long p2), .second, .val (.long p3), .second, .val (.int p4), .val (.long z13_1), .second, .unset, .unset, .unset, .unset, .unset, .unset, .unset, .unset, .unset] [(.long p1)])) (fun t k => XS.goto X0.here hx rfl (pc0 := 23) (pc' := 28) rfl (hb hby at_23) (by decide) (by decide) k) ?_
      exact J28_5 _ (by simp only [if_neg hc19_6, if_true, if_false])
  intro z28_4 hz28_4
  refine step (s₁.setTop (mkF m 30 #[.val (.long p0), .second, .val (.long p1), .second, .val (.long p2), .second, .val (.long p3), .second, .val (.int p4), .val (.long z13_1), .second, .val (.long z28_4), .second, .unset, .unset, .unset, .unset, .unset, .unset, .unset] [])) (fun t k => XS.lstore X0.here hx rfl (hb hby at_28) rfl (l' := #[.val (.long p0), .second, .val (.long p1), .second, .val (.long p2), .second, .val (.long p3), .second, .val (.int p4), .val (.long z13_1), .second, .val (.long z28_4), .second, .unset, .unset, .unset, .unset, .unset, .unset, .unset]) rfl k) ?_
  refine step (s₁.setTop (mkF m 31 #[.val (.long p0), .second, .val (.long p1), .second, .val (.long p2), .second, .val (.long p3), .second, .val (.int p4), .val (.long z13_1), .second, .val (.long z28_4), .second, .unset, .unset, .unset, .unset, .unset, .unset, .unset] [(.long p0)])) (fun t k => XS.lloadN X0.here hx rfl (hb hby at_30) rfl k) ?_
  refine step (s₁.setTop (mkF m 32 #[.val (.long p0), .second, .val (.long p1), .second, .val (.long p2), .second, .val (.long p3), .second, .val (.int p4), .val (.long z13_1), .second, .val (.long z28_4), .second, .unset, .unset, .unset, .unset, .unset, .unset, .unset] [(.long p1), (.long p0)])) (fun t k => XS.lloadN X0.here hx rfl (hb hby at_31) rfl k) ?_
  refine step (s₁.setTop (mkF m 34 #[.val (.long p0), .second, .val (.long p1), .second, .val (.long p2), .second, .val (.long p3), .second, .val (.int p4), .val (.long z13_1), .second, .val (.long z28_4), .second, .unset, .unset, .unset, .unset, .unset, .unset, .unset] [(.long z13_1), (.long p1), (.long p0)])) (fun t k => XS.lload X0.here hx rfl (hb hby at_32) rfl k) ?_
  refine step (s₁.setTop (mkF m 36 #[.val (.long p0), .second, .val (.long p1), .second, .val (.long p2), .second, .val (.long p3), .second, .val (.int p4), .val (.long z13_1), .second, .val (.long z28_4), .second, .unset, .unset, .unset, .unset, .unset, .unset, .unset] [(.long z28_4), (.long z13_1), (.long p1), (.long p0)])) (fun t k => XS.lload X0.here hx rfl (hb hby at_34) rfl k) ?_
  obtain ⟨_, _, ⟨T7, L7, k7, n7⟩, -, X7, ⟨Lc7, hQ7, l7, y7, z7⟩, st7⟩ := Jvm.LawKit.callS X0 hx (y := (⟨"com/example/spindle/spindle/EntryHeap", "leavesBefore", "(JJJJ)Z"⟩ : MethodName)) hown (mvT hZ (hw _ (List.mem_of_getElem? (i := 0) rfl))) (mvT hZ (hw _ (List.mem_of_getElem? (i := 1) rfl))) (mvT hZ (hw _ (List.mem_of_getElem? (i := 2) rfl))) (mvT hZ (hw _ (List.mem_of_getElem? (i := 3) rfl))) (by decide) (backOf (W := 0) (rm1_1 l Z a0 hw [] p0 p1 z13_1 z28_4 h0 n0 Z0 ) hZ (hw _ (List.mem_of_getElem? (i := 3) rfl)) (hw _ (List.mem_of_getElem? (i := 2) rfl)) (by decide) (by decide)) (g := (mkF m 36 #[.val (.long p0), .second, .val (.long p1), .second, .val (.long p2), .second, .val (.long p3), .second, .val (.int p4), .val (.long z13_1), .second, .val (.long z28_4), .second, .unset, .unset, .unset, .unset, .unset, .unset, .unset] [(.long z28_4), (.long z13_1), (.long p1), (.long p0)])) rfl (by rw [hml]; rfl) (argsL := [(.long p0), (.long p1), (.long z13_1), (.long z28_4)]) (rest := []) (lenOf pd_0 rfl) rfl (by show 2 * 0 + _ ≤ _; exact Nat.le_of_eq rfl) (hb hby at_36) (fun _ _ => ⟨rfl, e0, (by decide : 0 + 0 ≤ _), (by decide : 0 + 0 ≤ _)⟩)
  dsimp only [Pt.U, Pt.locs, Pt.cells, Pt.slots] at X7 l7 y7 z7 st7 hQ7
  subst l7 y7 z7
  obtain ⟨z34_1_7, rfl, N7q, e7q, hz34_1_7⟩ := hQ7
  have N7 := Fr.app N0 N7q
  refine step (T7.setTop (mkF m 39 #[.val (.long p0), .second, .val (.long p1), .second, .val (.long p2), .second, .val (.long p3), .second, .val (.int p4), .val (.long z13_1), .second, .val (.long z28_4), .second, .unset, .unset, .unset, .unset, .unset, .unset, .unset] [(.int z34_1_7)])) (fun t k => st7 t k) ?_
  refine step (T7.setTop (mkF m 41 #[.val (.long p0), .second, .val (.long p1), .second, .val (.long p2), .second, .val (.long p3), .second, .val (.int p4), .val (.long z13_1), .second, .val (.long z28_4), .second, .val (.int z34_1_7), .unset, .unset, .unset, .unset, .unset, .unset] [])) (fun t k => XS.istore X7.here hx rfl (hb hby at_39) rfl (l' := #[.val (.long p0), .second, .val (.long p1), .second, .val (.long p2), .second, .val (.long p3), .second, .val (.int p4), .val (.long z13_1), .second, .val (.long z28_4), .second, .val (.int z34_1_7), .unset, .unset, .unset, .unset, .unset, .unset]) rfl k) ?_
  refine step (T7.setTop (mkF m 43 #[.val (.long p0), .second, .val (.long p1), .second, .val (.long p2), .second, .val (.long p3), .second, .val (.int p4), .val (.long z13_1), .second, .val (.long z28_4), .second, .val (.int z34_1_7), .unset, .unset, .unset, .unset, .unset, .unset] [(.long z13_1)])) (fun t k => XS.lload X7.here hx rfl (hb hby at_41) rfl k) ?_
  refine step (T7.setTop (mkF m 45 #[.val (.long p0), .second, .val (.long p1), .second, .val (.long p2), .second, .val (.long p3), .second, .val (.int p4), .val (.long z13_1), .second, .val (.long z28_4), .second, .val (.int z34_1_7), .unset, .unset, .unset, .unset, .unset, .unset] [(.long z28_4), (.long z13_1)])) (fun t k => XS.lload X7.here hx rfl (hb hby at_43) rfl k) ?_
  refine step (T7.setTop (mkF m 46 #[.val (.long p0), .second, .val (.long p1), .second, .val (.long p2), .second, .val (.long p3), .second, .val (.int p4), .val (.long z13_1), .second, .val (.long z28_4), .second, .val (.int z34_1_7), .unset, .unset, .unset, .unset, .unset, .unset] [(.long p0), (.long z28_4), (.long z13_1)])) (fun t k => XS.lloadN X7.here hx rfl (hb hby at_45) rfl k) ?_
  refine step (T7.setTop (mkF m 47 #[.val (.long p0), .second, .val (.long p1), .second, .val (.long p2), .second, .val (.long p3), .second, .val (.int p4), .val (.long z13_1), .second, .val (.long z28_4), .second, .val (.int z34_1_7), .unset, .unset, .unset, .unset, .unset, .unset] [(.long p1), (.long p0), (.long z28_4), (.long z13_1)])) (fun t k => XS.lloadN X7.here hx rfl (hb hby at_46) rfl k) ?_
  obtain ⟨_, _, ⟨T8, L8, k8, n8⟩, -, X8, ⟨Lc8, hQ8, l8, y8, z8⟩, st8⟩ := Jvm.LawKit.callS X7 hx (y := (⟨"com/example/spindle/spindle/EntryHeap", "leavesBefore", "(JJJJ)Z"⟩ : MethodName)) hown (mvT hZ (hw _ (List.mem_of_getElem? (i := 0) rfl))) (mvT hZ (hw _ (List.mem_of_getElem? (i := 1) rfl))) (mvT hZ (hw _ (List.mem_of_getElem? (i := 2) rfl))) (mvT hZ (hw _ (List.mem_of_getElem? (i := 3) rfl))) (by decide) (backOf (W := 0) (rm1_1 l Z a0 hw [] z13_1 z28_4 p0 p1 h0 n0 Z0 ) hZ (hw _ (List.mem_of_getElem? (i := 3) rfl)) (hw _ (List.mem_of_getElem? (i := 2) rfl)) (by decide) (by decide)) (g := (mkF m 47 #[.val (.long p0), .second, .val (.long p1), .second, .val (.long p2), .second, .val (.long p3), .second, .val (.int p4), .val (.long z13_1), .second, .val (.long z28_4), .second, .val (.int z34_1_7), .unset, .unset, .unset, .unset, .unset, .unset] [(.long p1), (.long p0), (.long z28_4), (.long z13_1)])) rfl (by rw [hml]; rfl) (argsL := [(.long z13_1), (.long z28_4), (.long p0), (.long p1)]) (rest := []) (lenOf pd_0 rfl) rfl (by show 2 * 0 + _ ≤ _; exact Nat.le_of_eq rfl) (hb hby at_47) (fun _ _ => ⟨rfl, e7q, (by decide : 0 + 0 ≤ _), (by decide : 0 + 0 ≤ _)⟩)
  dsimp only [Pt.U, Pt.locs, Pt.cells, Pt.slots] at X8 l8 y8 z8 st8 hQ8
  subst l8 y8 z8
  obtain ⟨z34_1_8, rfl, N8q, e8q, hz34_1_8⟩ := hQ8
  have N8 := Fr.app N7 N8q
  refine step (T8.setTop (mkF m 50 #[.val (.long p0), .second, .val (.long p1), .second, .val (.long p2), .second, .val (.long p3), .second, .val (.int p4), .val (.long z13_1), .second, .val (.long z28_4), .second, .val (.int z34_1_7), .unset, .unset, .unset, .unset, .unset, .unset] [(.int z34_1_8)])) (fun t k => st8 t k) ?_
  refine step (T8.setTop (mkF m 52 #[.val (.long p0), .second, .val (.long p1), .second, .val (.long p2), .second, .val (.long p3), .second, .val (.int p4), .val (.long z13_1), .second, .val (.long z28_4), .second, .val (.int z34_1_7), .val (.int z34_1_8), .unset, .unset, .unset, .unset, .unset] [])) (fun t k => XS.istore X8.here hx rfl (hb hby at_50) rfl (l' := #[.val (.long p0), .second, .val (.long p1), .second, .val (.long p2), .second, .val (.long p3), .second, .val (.int p4), .val (.long z13_1), .second, .val (.long z28_4), .second, .val (.int z34_1_7), .val (.int z34_1_8), .unset, .unset, .unset, .unset, .unset]) rfl k) ?_
  refine step (T8.setTop (mkF m 53 #[.val (.long p0), .second, .val (.long p1), .second, .val (.long p2), .second, .val (.long p3), .second, .val (.int p4), .val (.long z13_1), .second, .val (.long z28_4), .second, .val (.int z34_1_7), .val (.int z34_1_8), .unset, .unset, .unset, .unset, .unset] [(.long p0)])) (fun t k => XS.lloadN X8.here hx rfl (hb hby at_52) rfl k) ?_
  refine step (T8.setTop (mkF m 55 #[.val (.long p0), .second, .val (.long p1), .second, .val (.long p2), .second, .val (.long p3), .second, .val (.int p4), .val (.long z13_1), .second, .val (.long z28_4), .second, .val (.int z34_1_7), .val (.int z34_1_8), .unset, .unset, .unset, .unset, .unset] [(.long z13_1), (.long p0)])) (fun t k => XS.lload X8.here hx rfl (hb hby at_53) rfl k) ?_
  refine step (T8.setTop (mkF m 56 #[.val (.long p0), .second, .val (.long p1), .second, .val (.long p2), .second, .val (.long p3), .second, .val (.int p4), .val (.long z13_1), .second, .val (.long z28_4), .second, .val (.int z34_1_7), .val (.int z34_1_8), .unset, .unset, .unset, .unset, .unset] [(.int (lcmpW p0 z13_1))])) (fun t k => XS.lcmp X8.here hx rfl (hb hby at_55) rfl k) ?_
  suffices J71_10 : ∀ (z71_9 : Int32), z71_9 = (if p0 = z13_1 then (if p1 = z28_4 then (1 : Int32) else (0 : Int32)) else (0 : Int32)) → G (T8.setTop (mkF m 71 #[.val (.long p0), .second, .val (.long p1), .second, .val (.long p2), .second, .val (.long p3), .second, .val (.int p4), .val (.long z13_1), .second, .val (.long z28_4), .second, .val (.int z34_1_7), .val (.int z34_1_8), .unset, .unset, .unset, .unset, .unset] [(.int z71_9)])) by
    by_cases hc56_11 : p0 = z13_1
    · -- 56 True
      refine step (T8.setTop (mkF m 59 #[.val (.long p0), .second, .val (.long p1), .second, .val (.long p2), .second, .val (.long p3), .second, .val (.int p4), .val (.long z13_1), .second, .val (.long z28_4), .second, .val (.int z34_1_7), .val (.int z34_1_8), .unset, .unset, .unset, .unset, .unset] [])) (fun t k => XS.ifNo X8.here hx rfl (hb hby at_56) rfl ((if0 _ _).trans (teq ((lw_eq _ _).mpr hc56_11)).2) k) ?_
      refine step (T8.setTop (mkF m 60 #[.val (.long p0), .second, .val (.long p1), .second, .val (.long p2), .second, .val (.long p3), .second, .val (.int p4), .val (.long z13_1), .second, .val (.long z28_4), .second, .val (.int z34_1_7), .val (.int z34_1_8), .unset, .unset, .unset, .unset, .unset] [(.long p1)])) (fun t k => XS.lloadN X8.here hx rfl (hb hby at_59) rfl k) ?_
      refine step (T8.setTop (mkF m 62 #[.val (.long p0), .second, .val (.long p1), .second, .val (.long p2), .second, .val (.long p3), .second, .val (.int p4), .val (.long z13_1), .second, .val (.long z28_4), .second, .val (.int z34_1_7), .val (.int z34_1_8), .unset, .unset, .unset, .unset, .unset] [(.long z28_4), (.long p1)])) (fun t k => XS.lload X8.here hx rfl (hb hby at_60) rfl k) ?_
      refine step (T8.setTop (mkF m 63 #[.val (.long p0), .second, .val (.long p1), .second, .val (.long p2), .second, .val (.long p3), .second, .val (.int p4), .val (.long z13_1), .second, .val (.long z28_4), .second, .val (.int z34_1_7), .val (.int z34_1_8), .unset, .unset, .unset, .unset, .unset] [(.int (lcmpW p1 z28_4))])) (fun t k => XS.lcmp X8.here hx rfl (hb hby at_62) rfl k) ?_
      by_cases hc63_12 : p1 = z28_4
      · -- 63 True
        refine step (T8.setTop (mkF m 66 #[.val (.long p0), .second, .val (.long p1), .second, .val (.long p2), .second, .val (.long p3), .second, .val (.int p4), .val (.long z13_1), .second, .val (.long z28_4), .second, .val (.int z34_1_7), .val (.int z34_1_8), .unset, .unset, .unset, .unset, .unset] [])) (fun t k => XS.ifNo X8.here hx rfl (hb hby at_63) rfl ((if0 _ _).trans (teq ((lw_eq _ _).mpr hc63_12)).2) k) ?_
        refine step (T8.setTop (mkF m 67 #[.val (.long p0), .second, .val (.long p1), .second, .val (.long p2), .second, .val (.long p3), .second, .val (.int p4), .val (.long z13_1), .second, .val (.long z28_4), .second, .val (.int z34_1_7), .val (.int z34_1_8), .unset, .unset, .unset, .unset, .unset] [(.int (1 : Int32))])) (fun t k => XS.iconst X8.here hx rfl (hb hby at_66) k) ?_
        refine step (T8.setTop (mkF m 71 #[.val (.long p0), .second, .val (.long p1), .second, .val (.long p2), .second, .val (.long p3), .second, .val (.int p4), .val (.long z13_1), .second, .val (.long z28_4), .second, .val (.int z34_1_7), .val (.int z34_1_8), .unset, .unset, .unset, .unset, .unset] [(.int (1 : Int32))])) (fun t k => XS.goto X8.here hx rfl (pc0 := 67) (pc' := 71) rfl (hb hby at_67) (by decide) (by decide) k) ?_
        exact J71_10 _ (by simp only [if_pos hc56_11, if_pos hc63_12, if_true, if_false])
      · -- 63 False
        refine step (T8.setTop (mkF m 70 #[.val (.long p0), .second, .val (.long p1), .second, .val (.long p2), .second, .val (.long p3), .second, .val (.int p4), .val (.long z13_1), .second, .val (.long z28_4), .second, .val (.int z34_1_7), .val (.int z34_1_8), .unset, .unset, .unset, .unset, .unset] [])) (fun t k => XS.ifYes X8.here hx rfl (pc0 := 63) (pc' := 70) rfl (hb hby at_63) rfl ((if0 _ _).trans (feq (fun q => hc63_12 ((lw_eq _ _).mp q))).2) (by decide) (by decide) k) ?_
        refine step (T8.setTop (mkF m 71 #[.val (.long p0), .second, .val (.long p1), .second, .val (.long p2), .second, .val (.long p3), .second, .val (.int p4), .val (.long z13_1), .second, .val (.long z28_4), .second, .val (.int z34_1_7), .val (.int z34_1_8), .unset, .unset, .unset, .unset, .unset] [(.int (0 : Int32))])) (fun t k => XS.iconst X8.here hx rfl (hb hby at_70) k) ?_
        exact J71_10 _ (by simp only [if_pos hc56_11, if_neg hc63_12, if_true, if_false])
    · -- 56 False
      refine step (T8.setTop (mkF m 70 #[.val (.long p0), .second, .val (.long p1), .second, .val (.long p2), .second, .val (.long p3), .second, .val (.int p4), .val (.long z13_1), .second, .val (.long z28_4), .second, .val (.int z34_1_7), .val (.int z34_1_8), .unset, .unset, .unset, .unset, .unset] [])) (fun t k => XS.ifYes X8.here hx rfl (pc0 := 56) (pc' := 70) rfl (hb hby at_56) rfl ((if0 _ _).trans (feq (fun q => hc56_11 ((lw_eq _ _).mp q))).2) (by decide) (by decide) k) ?_
      refine step (T8.setTop (mkF m 71 #[.val (.long p0), .second, .val (.long p1), .second, .val (.long p2), .second, .val (.long p3), .second, .val (.int p4), .val (.long z13_1), .second, .val (.long z28_4), .second, .val (.int z34_1_7), .val (.int z34_1_8), .unset, .unset, .unset, .unset, .unset] [(.int (0 : Int32))])) (fun t k => XS.iconst X8.here hx rfl (hb hby at_70) k) ?_
      exact J71_10 _ (by simp only [if_neg hc56_11, if_true, if_false])
  intro z71_9 hz71_9
  refine step (T8.setTop (mkF m 73 #[.val (.long p0), .second, .val (.long p1), .second, .val (.long p2), .second, .val (.long p3), .second, .val (.int p4), .val (.long z13_1), .second, .val (.long z28_4), .second, .val (.int z34_1_7), .val (.int z34_1_8), .val (.int z71_9), .unset, .unset, .unset, .unset] [])) (fun t k => XS.istore X8.here hx rfl (hb hby at_71) rfl (l' := #[.val (.long p0), .second, .val (.long p1), .second, .val (.long p2), .second, .val (.long p3), .second, .val (.int p4), .val (.long z13_1), .second, .val (.long z28_4), .second, .val (.int z34_1_7), .val (.int z34_1_8), .val (.int z71_9), .unset, .unset, .unset, .unset]) rfl k) ?_
  refine step (T8.setTop (mkF m 74 #[.val (.long p0), .second, .val (.long p1), .second, .val (.long p2), .second, .val (.long p3), .second, .val (.int p4), .val (.long z13_1), .second, .val (.long z28_4), .second, .val (.int z34_1_7), .val (.int z34_1_8), .val (.int z71_9), .unset, .unset, .unset, .unset] [(.long p0)])) (fun t k => XS.lloadN X8.here hx rfl (hb hby at_73) rfl k) ?_
  refine step (T8.setTop (mkF m 76 #[.val (.long p0), .second, .val (.long p1), .second, .val (.long p2), .second, .val (.long p3), .second, .val (.int p4), .val (.long z13_1), .second, .val (.long z28_4), .second, .val (.int z34_1_7), .val (.int z34_1_8), .val (.int z71_9), .unset, .unset, .unset, .unset] [(.long z13_1), (.long p0)])) (fun t k => XS.lload X8.here hx rfl (hb hby at_74) rfl k) ?_
  refine step (T8.setTop (mkF m 77 #[.val (.long p0), .second, .val (.long p1), .second, .val (.long p2), .second, .val (.long p3), .second, .val (.int p4), .val (.long z13_1), .second, .val (.long z28_4), .second, .val (.int z34_1_7), .val (.int z34_1_8), .val (.int z71_9), .unset, .unset, .unset, .unset] [(.int (lcmpW p0 z13_1))])) (fun t k => XS.lcmp X8.here hx rfl (hb hby at_76) rfl k) ?_
  suffices J113_14 : ∀ (z113_13 : Int32), z113_13 = (if p0 < z13_1 then (1 : Int32) else (if z13_1 < p0 then (0 : Int32) else (if p1 < z28_4 then (1 : Int32) else (0 : Int32)))) → G (T8.setTop (mkF m 113 #[.val (.long p0), .second, .val (.long p1), .second, .val (.long p2), .second, .val (.long p3), .second, .val (.int p4), .val (.long z13_1), .second, .val (.long z28_4), .second, .val (.int z34_1_7), .val (.int z34_1_8), .val (.int z71_9), .val (.int z113_13), .unset, .unset, .unset] [])) by
    by_cases hc77_15 : p0 < z13_1
    · -- 77 True
      refine step (T8.setTop (mkF m 80 #[.val (.long p0), .second, .val (.long p1), .second, .val (.long p2), .second, .val (.long p3), .second, .val (.int p4), .val (.long z13_1), .second, .val (.long z28_4), .second, .val (.int z34_1_7), .val (.int z34_1_8), .val (.int z71_9), .unset, .unset, .unset, .unset] [])) (fun t k => XS.ifNo X8.here hx rfl (hb hby at_77) rfl ((if0 _ _).trans (tlt ((lw_lt _ _).mpr hc77_15)).2.1) k) ?_
      refine step (T8.setTop (mkF m 81 #[.val (.long p0), .second, .val (.long p1), .second, .val (.long p2), .second, .val (.long p3), .second, .val (.int p4), .val (.long z13_1), .second, .val (.long z28_4), .second, .val (.int z34_1_7), .val (.int z34_1_8), .val (.int z71_9), .unset, .unset, .unset, .unset] [(.int (1 : Int32))])) (fun t k => XS.iconst X8.here hx rfl (hb hby at_80) k) ?_
      refine step (T8.setTop (mkF m 83 #[.val (.long p0), .second, .val (.long p1), .second, .val (.long p2), .second, .val (.long p3), .second, .val (.int p4), .val (.long z13_1), .second, .val (.long z28_4), .second, .val (.int z34_1_7), .val (.int z34_1_8), .val (.int z71_9), .val (.int (1 : Int32)), .unset, .unset, .unset] [])) (fun t k => XS.istore X8.here hx rfl (hb hby at_81) rfl (l' := #[.val (.long p0), .second, .val (.long p1), .second, .val (.long p2), .second, .val (.long p3), .second, .val (.int p4), .val (.long z13_1), .second, .val (.long z28_4), .second, .val (.int z34_1_7), .val (.int z34_1_8), .val (.int z71_9), .val (.int (1 : Int32)), .unset, .unset, .unset]) rfl k) ?_
      refine step (T8.setTop (mkF m 113 #[.val (.long p0), .second, .val (.long p1), .second, .val (.long p2), .second, .val (.long p3), .second, .val (.int p4), .val (.long z13_1), .second, .val (.long z28_4), .second, .val (.int z34_1_7), .val (.int z34_1_8), .val (.int z71_9), .val (.int (1 : Int32)), .unset, .unset, .unset] [])) (fun t k => XS.goto X8.here hx rfl (pc0 := 83) (pc' := 113) rfl (hb hby at_83) (by decide) (by decide) k) ?_
      exact J113_14 _ (by simp only [if_pos hc77_15, if_true, if_false])
    · -- 77 False
      refine step (T8.setTop (mkF m 86 #[.val (.long p0), .second, .val (.long p1), .second, .val (.long p2), .second, .val (.long p3), .second, .val (.int p4), .val (.long z13_1), .second, .val (.long z28_4), .second, .val (.int z34_1_7), .val (.int z34_1_8), .val (.int z71_9), .unset, .unset, .unset, .unset] [])) (fun t k => XS.ifYes X8.here hx rfl (pc0 := 77) (pc' := 86) rfl (hb hby at_77) rfl ((if0 _ _).trans (flt (fun q => hc77_15 ((lw_lt _ _).mp q))).2.1) (by decide) (by decide) k) ?_
      refine step (T8.setTop (mkF m 87 #[.val (.long p0), .second, .val (.long p1), .second, .val (.long p2), .second, .val (.long p3), .second, .val (.int p4), .val (.long z13_1), .second, .val (.long z28_4), .second, .val (.int z34_1_7), .val (.int z34_1_8), .val (.int z71_9), .unset, .unset, .unset, .unset] [(.long p0)])) (fun t k => XS.lloadN X8.here hx rfl (hb hby at_86) rfl k) ?_
      refine step (T8.setTop (mkF m 89 #[.val (.long p0), .second, .val (.long p1), .second, .val (.long p2), .second, .val (.long p3), .second, .val (.int p4), .val (.long z13_1), .second, .val (.long z28_4), .second, .val (.int z34_1_7), .val (.int z34_1_8), .val (.int z71_9), .unset, .unset, .unset, .unset] [(.long z13_1), (.long p0)])) (fun t k => XS.lload X8.here hx rfl (hb hby at_87) rfl k) ?_
      refine step (T8.setTop (mkF m 90 #[.val (.long p0), .second, .val (.long p1), .second, .val (.long p2), .second, .val (.long p3), .second, .val (.int p4), .val (.long z13_1), .second, .val (.long z28_4), .second, .val (.int z34_1_7), .val (.int z34_1_8), .val (.int z71_9), .unset, .unset, .unset, .unset] [(.int (lcmpW p0 z13_1))])) (fun t k => XS.lcmp X8.here hx rfl (hb hby at_89) rfl k) ?_
      by_cases hc90_16 : z13_1 < p0
      · -- 90 True
        refine step (T8.setTop (mkF m 93 #[.val (.long p0), .second, .val (.long p1), .second, .val (.long p2), .second, .val (.long p3), .second, .val (.int p4), .val (.long z13_1), .second, .val (.long z28_4), .second, .val (.int z34_1_7), .val (.int z34_1_8), .val (.int z71_9), .unset, .unset, .unset, .unset] [])) (fun t k => XS.ifNo X8.here hx rfl (hb hby at_90) rfl ((if0 _ _).trans (tlt ((lw_gt _ _).mpr hc90_16)).2.2.2) k) ?_
        refine step (T8.setTop (mkF m 94 #[.val (.long p0), .second, .val (.long p1), .second, .val (.long p2), .second, .val (.long p3), .second, .val (.int p4), .val (.long z13_1), .second, .val (.long z28_4), .second, .val (.int z34_1_7), .val (.int z34_1_8), .val (.int z71_9), .unset, .unset, .unset, .unset] [(.int (0 : Int32))])) (fun t k => XS.iconst X8.here hx rfl (hb hby at_93) k) ?_
        refine step (T8.setTop (mkF m 96 #[.val (.long p0), .second, .val (.long p1), .second, .val (.long p2), .second, .val (.long p3), .second, .val (.int p4), .val (.long z13_1), .second, .val (.long z28_4), .second, .val (.int z34_1_7), .val (.int z34_1_8), .val (.int z71_9), .val (.int (0 : Int32)), .unset, .unset, .unset] [])) (fun t k => XS.istore X8.here hx rfl (hb hby at_94) rfl (l' := #[.val (.long p0), .second, .val (.long p1), .second, .val (.long p2), .second, .val (.long p3), .second, .val (.int p4), .val (.long z13_1), .second, .val (.long z28_4), .second, .val (.int z34_1_7), .val (.int z34_1_8), .val (.int z71_9), .val (.int (0 : Int32)), .unset, .unset, .unset]) rfl k) ?_
        refine step (T8.setTop (mkF m 113 #[.val (.long p0), .second, .val (.long p1), .second, .val (.long p2), .second, .val (.long p3), .second, .val (.int p4), .val (.long z13_1), .second, .val (.long z28_4), .second, .val (.int z34_1_7), .val (.int z34_1_8), .val (.int z71_9), .val (.int (0 : Int32)), .unset, .unset, .unset] [])) (fun t k => XS.goto X8.here hx rfl (pc0 := 96) (pc' := 113) rfl (hb hby at_96) (by decide) (by decide) k) ?_
        exact J113_14 _ (by simp only [if_neg hc77_15, if_pos hc90_16, if_true, if_false])
      · -- 90 False
        refine step (T8.setTop (mkF m 99 #[.val (.long p0), .second, .val (.long p1), .second, .val (.long p2), .second, .val (.long p3), .second, .val (.int p4), .val (.long z13_1), .second, .val (.long z28_4), .second, .val (.int z34_1_7), .val (.int z34_1_8), .val (.int z71_9), .unset, .unset, .unset, .unset] [])) (fun t k => XS.ifYes X8.here hx rfl (pc0 := 90) (pc' := 99) rfl (hb hby at_90) rfl ((if0 _ _).trans (flt (fun q => hc90_16 ((lw_gt _ _).mp q))).2.2.2) (by decide) (by decide) k) ?_
        refine step (T8.setTop (mkF m 100 #[.val (.long p0), .second, .val (.long p1), .second, .val (.long p2), .second, .val (.long p3), .second, .val (.int p4), .val (.long z13_1), .second, .val (.long z28_4), .second, .val (.int z34_1_7), .val (.int z34_1_8), .val (.int z71_9), .unset, .unset, .unset, .unset] [(.long p1)])) (fun t k => XS.lloadN X8.here hx rfl (hb hby at_99) rfl k) ?_
        refine step (T8.setTop (mkF m 102 #[.val (.long p0), .second, .val (.long p1), .second, .val (.long p2), .second, .val (.long p3), .second, .val (.int p4), .val (.long z13_1), .second, .val (.long z28_4), .second, .val (.int z34_1_7), .val (.int z34_1_8), .val (.int z71_9), .unset, .unset, .unset, .unset] [(.long z28_4), (.long p1)])) (fun t k => XS.lload X8.here hx rfl (hb hby at_100) rfl k) ?_
        refine step (T8.setTop (mkF m 103 #[.val (.long p0), .second, .val (.long p1), .second, .val (.long p2), .second, .val (.long p3), .second, .val (.int p4), .val (.long z13_1), .second, .val (.long z28_4), .second, .val (.int z34_1_7), .val (.int z34_1_8), .val (.int z71_9), .unset, .unset, .unset, .unset] [(.int (lcmpW p1 z28_4))])) (fun t k => XS.lcmp X8.here hx rfl (hb hby at_102) rfl k) ?_
        by_cases hc103_17 : p1 < z28_4
        · -- 103 True
          refine step (T8.setTop (mkF m 106 #[.val (.long p0), .second, .val (.long p1), .second, .val (.long p2), .second, .val (.long p3), .second, .val (.int p4), .val (.long z13_1), .second, .val (.long z28_4), .second, .val (.int z34_1_7), .val (.int z34_1_8), .val (.int z71_9), .unset, .unset, .unset, .unset] [])) (fun t k => XS.ifNo X8.here hx rfl (hb hby at_103) rfl ((if0 _ _).trans (tlt ((lw_lt _ _).mpr hc103_17)).2.1) k) ?_
          refine step (T8.setTop (mkF m 107 #[.val (.long p0), .second, .val (.long p1), .second, .val (.long p2), .second, .val (.long p3), .second, .val (.int p4), .val (.long z13_1), .second, .val (.long z28_4), .second, .val (.int z34_1_7), .val (.int z34_1_8), .val (.int z71_9), .unset, .unset, .unset, .unset] [(.int (1 : Int32))])) (fun t k => XS.iconst X8.here hx rfl (hb hby at_106) k) ?_
          refine step (T8.setTop (mkF m 111 #[.val (.long p0), .second, .val (.long p1), .second, .val (.long p2), .second, .val (.long p3), .second, .val (.int p4), .val (.long z13_1), .second, .val (.long z28_4), .second, .val (.int z34_1_7), .val (.int z34_1_8), .val (.int z71_9), .unset, .unset, .unset, .unset] [(.int (1 : Int32))])) (fun t k => XS.goto X8.here hx rfl (pc0 := 107) (pc' := 111) rfl (hb hby at_107) (by decide) (by decide) k) ?_
          refine step (T8.setTop (mkF m 113 #[.val (.long p0), .second, .val (.long p1), .second, .val (.long p2), .second, .val (.long p3), .second, .val (.int p4), .val (.long z13_1), .second, .val (.long z28_4), .second, .val (.int z34_1_7), .val (.int z34_1_8), .val (.int z71_9), .val (.int (1 : Int32)), .unset, .unset, .unset] [])) (fun t k => XS.istore X8.here hx rfl (hb hby at_111) rfl (l' := #[.val (.long p0), .second, .val (.long p1), .second, .val (.long p2), .second, .val (.long p3), .second, .val (.int p4), .val (.long z13_1), .second, .val (.long z28_4), .second, .val (.int z34_1_7), .val (.int z34_1_8), .val (.int z71_9), .val (.int (1 : Int32)), .unset, .unset, .unset]) rfl k) ?_
          exact J113_14 _ (by simp only [if_neg hc77_15, if_neg hc90_16, if_pos hc103_17, if_true, if_false])
        · -- 103 False
          refine step (T8.setTop (mkF m 110 #[.val (.long p0), .second, .val (.long p1), .second, .val (.long p2), .second, .val (.long p3), .second, .val (.int p4), .val (.long z13_1), .second, .val (.long z28_4), .second, .val (.int z34_1_7), .val (.int z34_1_8), .val (.int z71_9), .unset, .unset, .unset, .unset] [])) (fun t k => XS.ifYes X8.here hx rfl (pc0 := 103) (pc' := 110) rfl (hb hby at_103) rfl ((if0 _ _).trans (flt (fun q => hc103_17 ((lw_lt _ _).mp q))).2.1) (by decide) (by decide) k) ?_
          refine step (T8.setTop (mkF m 111 #[.val (.long p0), .second, .val (.long p1), .second, .val (.long p2), .second, .val (.long p3), .second, .val (.int p4), .val (.long z13_1), .second, .val (.long z28_4), .second, .val (.int z34_1_7), .val (.int z34_1_8), .val (.int z71_9), .unset, .unset, .unset, .unset] [(.int (0 : Int32))])) (fun t k => XS.iconst X8.here hx rfl (hb hby at_110) k) ?_
          refine step (T8.setTop (mkF m 113 #[.val (.long p0), .second, .val (.long p1), .second, .val (.long p2), .second, .val (.long p3), .second, .val (.int p4), .val (.long z13_1), .second, .val (.long z28_4), .second, .val (.int z34_1_7), .val (.int z34_1_8), .val (.int z71_9), .val (.int (0 : Int32)), .unset, .unset, .unset] [])) (fun t k => XS.istore X8.here hx rfl (hb hby at_111) rfl (l' := #[.val (.long p0), .second, .val (.long p1), .second, .val (.long p2), .second, .val (.long p3), .second, .val (.int p4), .val (.long z13_1), .second, .val (.long z28_4), .second, .val (.int z34_1_7), .val (.int z34_1_8), .val (.int z71_9), .val (.int (0 : Int32)), .unset, .unset, .unset]) rfl k) ?_
          exact J113_14 _ (by simp only [if_neg hc77_15, if_neg hc90_16, if_neg hc103_17, if_true, if_false])
  intro z113_13 hz113_13
  refine step (T8.setTop (mkF m 115 #[.val (.long p0), .second, .val (.long p1), .second, .val (.long p2), .second, .val (.long p3), .second, .val (.int p4), .val (.long z13_1), .second, .val (.long z28_4), .second, .val (.int z34_1_7), .val (.int z34_1_8), .val (.int z71_9), .val (.int z113_13), .unset, .unset, .unset] [(.int z34_1_7)])) (fun t k => XS.iload X8.here hx rfl (hb hby at_113) rfl k) ?_
  suffices J128_19 : ∀ (z128_18 : Int32), z128_18 = (if z34_1_7 = (0 : Int32) then (1 : Int32) else (if z34_1_8 = (0 : Int32) then (1 : Int32) else (0 : Int32))) → G (T8.setTop (mkF m 128 #[.val (.long p0), .second, .val (.long p1), .second, .val (.long p2), .second, .val (.long p3), .second, .val (.int p4), .val (.long z13_1), .second, .val (.long z28_4), .second, .val (.int z34_1_7), .val (.int z34_1_8), .val (.int z71_9), .val (.int z113_13), .unset, .unset, .unset] [(.int z128_18)])) by
    by_cases hc115_20 : z34_1_7 = (0 : Int32)
    · -- 115 True
      refine step (T8.setTop (mkF m 123 #[.val (.long p0), .second, .val (.long p1), .second, .val (.long p2), .second, .val (.long p3), .second, .val (.int p4), .val (.long z13_1), .second, .val (.long z28_4), .second, .val (.int z34_1_7), .val (.int z34_1_8), .val (.int z71_9), .val (.int z113_13), .unset, .unset, .unset] [])) (fun t k => XS.ifYes X8.here hx rfl (pc0 := 115) (pc' := 123) rfl (hb hby at_115) rfl ((if0 _ _).trans (teq hc115_20).1) (by decide) (by decide) k) ?_
      refine step (T8.setTop (mkF m 124 #[.val (.long p0), .second, .val (.long p1), .second, .val (.long p2), .second, .val (.long p3), .second, .val (.int p4), .val (.long z13_1), .second, .val (.long z28_4), .second, .val (.int z34_1_7), .val (.int z34_1_8), .val (.int z71_9), .val (.int z113_13), .unset, .unset, .unset] [(.int (1 : Int32))])) (fun t k => XS.iconst X8.here hx rfl (hb hby at_123) k) ?_
      refine step (T8.setTop (mkF m 128 #[.val (.long p0), .second, .val (.long p1), .second, .val (.long p2), .second, .val (.long p3), .second, .val (.int p4), .val (.long z13_1), .second, .val (.long z28_4), .second, .val (.int z34_1_7), .val (.int z34_1_8), .val (.int z71_9), .val (.int z113_13), .unset, .unset, .unset] [(.int (1 : Int32))])) (fun t k => XS.goto X8.here hx rfl (pc0 := 124) (pc' := 128) rfl (hb hby at_124) (by decide) (by decide) k) ?_
      exact J128_19 _ (by simp only [if_pos hc115_20, if_true, if_false])
    · -- 115 False
      refine step (T8.setTop (mkF m 118 #[.val (.long p0), .second, .val (.long p1), .second, .val (.long p2), .second, .val (.long p3), .second, .val (.int p4), .val (.long z13_1), .second, .val (.long z28_4), .second, .val (.int z34_1_7), .val (.int z34_1_8), .val (.int z71_9), .val (.int z113_13), .unset, .unset, .unset] [])) (fun t k => XS.ifNo X8.here hx rfl (hb hby at_115) rfl ((if0 _ _).trans (feq hc115_20).1) k) ?_
      refine step (T8.setTop (mkF m 120 #[.val (.long p0), .second, .val (.long p1), .second, .val (.long p2), .second, .val (.long p3), .second, .val (.int p4), .val (.long z13_1), .second, .val (.long z28_4), .second, .val (.int z34_1_7), .val (.int z34_1_8), .val (.int z71_9), .val (.int z113_13), .unset, .unset, .unset] [(.int z34_1_8)])) (fun t k => XS.iload X8.here hx rfl (hb hby at_118) rfl k) ?_
      by_cases hc120_21 : z34_1_8 = (0 : Int32)
      · -- 120 True
        refine step (T8.setTop (mkF m 123 #[.val (.long p0), .second, .val (.long p1), .second, .val (.long p2), .second, .val (.long p3), .second, .val (.int p4), .val (.long z13_1), .second, .val (.long z28_4), .second, .val (.int z34_1_7), .val (.int z34_1_8), .val (.int z71_9), .val (.int z113_13), .unset, .unset, .unset] [])) (fun t k => XS.ifNo X8.here hx rfl (hb hby at_120) rfl ((if0 _ _).trans (teq hc120_21).2) k) ?_
        refine step (T8.setTop (mkF m 124 #[.val (.long p0), .second, .val (.long p1), .second, .val (.long p2), .second, .val (.long p3), .second, .val (.int p4), .val (.long z13_1), .second, .val (.long z28_4), .second, .val (.int z34_1_7), .val (.int z34_1_8), .val (.int z71_9), .val (.int z113_13), .unset, .unset, .unset] [(.int (1 : Int32))])) (fun t k => XS.iconst X8.here hx rfl (hb hby at_123) k) ?_
        refine step (T8.setTop (mkF m 128 #[.val (.long p0), .second, .val (.long p1), .second, .val (.long p2), .second, .val (.long p3), .second, .val (.int p4), .val (.long z13_1), .second, .val (.long z28_4), .second, .val (.int z34_1_7), .val (.int z34_1_8), .val (.int z71_9), .val (.int z113_13), .unset, .unset, .unset] [(.int (1 : Int32))])) (fun t k => XS.goto X8.here hx rfl (pc0 := 124) (pc' := 128) rfl (hb hby at_124) (by decide) (by decide) k) ?_
        exact J128_19 _ (by simp only [if_neg hc115_20, if_pos hc120_21, if_true, if_false])
      · -- 120 False
        refine step (T8.setTop (mkF m 127 #[.val (.long p0), .second, .val (.long p1), .second, .val (.long p2), .second, .val (.long p3), .second, .val (.int p4), .val (.long z13_1), .second, .val (.long z28_4), .second, .val (.int z34_1_7), .val (.int z34_1_8), .val (.int z71_9), .val (.int z113_13), .unset, .unset, .unset] [])) (fun t k => XS.ifYes X8.here hx rfl (pc0 := 120) (pc' := 127) rfl (hb hby at_120) rfl ((if0 _ _).trans (feq hc120_21).2) (by decide) (by decide) k) ?_
        refine step (T8.setTop (mkF m 128 #[.val (.long p0), .second, .val (.long p1), .second, .val (.long p2), .second, .val (.long p3), .second, .val (.int p4), .val (.long z13_1), .second, .val (.long z28_4), .second, .val (.int z34_1_7), .val (.int z34_1_8), .val (.int z71_9), .val (.int z113_13), .unset, .unset, .unset] [(.int (0 : Int32))])) (fun t k => XS.iconst X8.here hx rfl (hb hby at_127) k) ?_
        exact J128_19 _ (by simp only [if_neg hc115_20, if_neg hc120_21, if_true, if_false])
  intro z128_18 hz128_18
  refine step (T8.setTop (mkF m 130 #[.val (.long p0), .second, .val (.long p1), .second, .val (.long p2), .second, .val (.long p3), .second, .val (.int p4), .val (.long z13_1), .second, .val (.long z28_4), .second, .val (.int z34_1_7), .val (.int z34_1_8), .val (.int z71_9), .val (.int z113_13), .val (.int z128_18), .unset, .unset] [])) (fun t k => XS.istore X8.here hx rfl (hb hby at_128) rfl (l' := #[.val (.long p0), .second, .val (.long p1), .second, .val (.long p2), .second, .val (.long p3), .second, .val (.int p4), .val (.long z13_1), .second, .val (.long z28_4), .second, .val (.int z34_1_7), .val (.int z34_1_8), .val (.int z71_9), .val (.int z113_13), .val (.int z128_18), .unset, .unset]) rfl k) ?_
  refine step (T8.setTop (mkF m 132 #[.val (.long p0), .second, .val (.long p1), .second, .val (.long p2), .second, .val (.long p3), .second, .val (.int p4), .val (.long z13_1), .second, .val (.long z28_4), .second, .val (.int z34_1_7), .val (.int z34_1_8), .val (.int z71_9), .val (.int z113_13), .val (.int z128_18), .unset, .unset] [(.int z71_9)])) (fun t k => XS.iload X8.here hx rfl (hb hby at_130) rfl k) ?_
  suffices J150_23 : ∀ (z150_22 : Int32), z150_22 = (if z71_9 = (0 : Int32) then (if z34_1_7 = (0 : Int32) then (if z34_1_8 = (0 : Int32) then (0 : Int32) else (1 : Int32)) else (1 : Int32)) else (1 : Int32)) → G (T8.setTop (mkF m 150 #[.val (.long p0), .second, .val (.long p1), .second, .val (.long p2), .second, .val (.long p3), .second, .val (.int p4), .val (.long z13_1), .second, .val (.long z28_4), .second, .val (.int z34_1_7), .val (.int z34_1_8), .val (.int z71_9), .val (.int z113_13), .val (.int z128_18), .unset, .unset] [(.int z150_22)])) by
    by_cases hc132_24 : z71_9 = (0 : Int32)
    · -- 132 True
      refine step (T8.setTop (mkF m 135 #[.val (.long p0), .second, .val (.long p1), .second, .val (.long p2), .second, .val (.long p3), .second, .val (.int p4), .val (.long z13_1), .second, .val (.long z28_4), .second, .val (.int z34_1_7), .val (.int z34_1_8), .val (.int z71_9), .val (.int z113_13), .val (.int z128_18), .unset, .unset] [])) (fun t k => XS.ifNo X8.here hx rfl (hb hby at_132) rfl ((if0 _ _).trans (teq hc132_24).2) k) ?_
      refine step (T8.setTop (mkF m 137 #[.val (.long p0), .second, .val (.long p1), .second, .val (.long p2), .second, .val (.long p3), .second, .val (.int p4), .val (.long z13_1), .second, .val (.long z28_4), .second, .val (.int z34_1_7), .val (.int z34_1_8), .val (.int z71_9), .val (.int z113_13), .val (.int z128_18), .unset, .unset] [(.int z34_1_7)])) (fun t k => XS.iload X8.here hx rfl (hb hby at_135) rfl k) ?_
      by_cases hc137_25 : z34_1_7 = (0 : Int32)
      · -- 137 True
        refine step (T8.setTop (mkF m 140 #[.val (.long p0), .second, .val (.long p1), .second, .val (.long p2), .second, .val (.long p3), .second, .val (.int p4), .val (.long z13_1), .second, .val (.long z28_4), .second, .val (.int z34_1_7), .val (.int z34_1_8), .val (.int z71_9), .val (.int z113_13), .val (.int z128_18), .unset, .unset] [])) (fun t k => XS.ifNo X8.here hx rfl (hb hby at_137) rfl ((if0 _ _).trans (teq hc137_25).2) k) ?_
        refine step (T8.setTop (mkF m 142 #[.val (.long p0), .second, .val (.long p1), .second, .val (.long p2), .second, .val (.long p3), .second, .val (.int p4), .val (.long z13_1), .second, .val (.long z28_4), .second, .val (.int z34_1_7), .val (.int z34_1_8), .val (.int z71_9), .val (.int z113_13), .val (.int z128_18), .unset, .unset] [(.int z34_1_8)])) (fun t k => XS.iload X8.here hx rfl (hb hby at_140) rfl k) ?_
        by_cases hc142_26 : z34_1_8 = (0 : Int32)
        · -- 142 True
          refine step (T8.setTop (mkF m 149 #[.val (.long p0), .second, .val (.long p1), .second, .val (.long p2), .second, .val (.long p3), .second, .val (.int p4), .val (.long z13_1), .second, .val (.long z28_4), .second, .val (.int z34_1_7), .val (.int z34_1_8), .val (.int z71_9), .val (.int z113_13), .val (.int z128_18), .unset, .unset] [])) (fun t k => XS.ifYes X8.here hx rfl (pc0 := 142) (pc' := 149) rfl (hb hby at_142) rfl ((if0 _ _).trans (teq hc142_26).1) (by decide) (by decide) k) ?_
          refine step (T8.setTop (mkF m 150 #[.val (.long p0), .second, .val (.long p1), .second, .val (.long p2), .second, .val (.long p3), .second, .val (.int p4), .val (.long z13_1), .second, .val (.long z28_4), .second, .val (.int z34_1_7), .val (.int z34_1_8), .val (.int z71_9), .val (.int z113_13), .val (.int z128_18), .unset, .unset] [(.int (0 : Int32))])) (fun t k => XS.iconst X8.here hx rfl (hb hby at_149) k) ?_
          exact J150_23 _ (by simp only [if_pos hc132_24, if_pos hc137_25, if_pos hc142_26, if_true, if_false])
        · -- 142 False
          refine step (T8.setTop (mkF m 145 #[.val (.long p0), .second, .val (.long p1), .second, .val (.long p2), .second, .val (.long p3), .second, .val (.int p4), .val (.long z13_1), .second, .val (.long z28_4), .second, .val (.int z34_1_7), .val (.int z34_1_8), .val (.int z71_9), .val (.int z113_13), .val (.int z128_18), .unset, .unset] [])) (fun t k => XS.ifNo X8.here hx rfl (hb hby at_142) rfl ((if0 _ _).trans (feq hc142_26).1) k) ?_
          refine step (T8.setTop (mkF m 146 #[.val (.long p0), .second, .val (.long p1), .second, .val (.long p2), .second, .val (.long p3), .second, .val (.int p4), .val (.long z13_1), .second, .val (.long z28_4), .second, .val (.int z34_1_7), .val (.int z34_1_8), .val (.int z71_9), .val (.int z113_13), .val (.int z128_18), .unset, .unset] [(.int (1 : Int32))])) (fun t k => XS.iconst X8.here hx rfl (hb hby at_145) k) ?_
          refine step (T8.setTop (mkF m 150 #[.val (.long p0), .second, .val (.long p1), .second, .val (.long p2), .second, .val (.long p3), .second, .val (.int p4), .val (.long z13_1), .second, .val (.long z28_4), .second, .val (.int z34_1_7), .val (.int z34_1_8), .val (.int z71_9), .val (.int z113_13), .val (.int z128_18), .unset, .unset] [(.int (1 : Int32))])) (fun t k => XS.goto X8.here hx rfl (pc0 := 146) (pc' := 150) rfl (hb hby at_146) (by decide) (by decide) k) ?_
          exact J150_23 _ (by simp only [if_pos hc132_24, if_pos hc137_25, if_neg hc142_26, if_true, if_false])
      · -- 137 False
        refine step (T8.setTop (mkF m 145 #[.val (.long p0), .second, .val (.long p1), .second, .val (.long p2), .second, .val (.long p3), .second, .val (.int p4), .val (.long z13_1), .second, .val (.long z28_4), .second, .val (.int z34_1_7), .val (.int z34_1_8), .val (.int z71_9), .val (.int z113_13), .val (.int z128_18), .unset, .unset] [])) (fun t k => XS.ifYes X8.here hx rfl (pc0 := 137) (pc' := 145) rfl (hb hby at_137) rfl ((if0 _ _).trans (feq hc137_25).2) (by decide) (by decide) k) ?_
        refine step (T8.setTop (mkF m 146 #[.val (.long p0), .second, .val (.long p1), .second, .val (.long p2), .second, .val (.long p3), .second, .val (.int p4), .val (.long z13_1), .second, .val (.long z28_4), .second, .val (.int z34_1_7), .val (.int z34_1_8), .val (.int z71_9), .val (.int z113_13), .val (.int z128_18), .unset, .unset] [(.int (1 : Int32))])) (fun t k => XS.iconst X8.here hx rfl (hb hby at_145) k) ?_
        refine step (T8.setTop (mkF m 150 #[.val (.long p0), .second, .val (.long p1), .second, .val (.long p2), .second, .val (.long p3), .second, .val (.int p4), .val (.long z13_1), .second, .val (.long z28_4), .second, .val (.int z34_1_7), .val (.int z34_1_8), .val (.int z71_9), .val (.int z113_13), .val (.int z128_18), .unset, .unset] [(.int (1 : Int32))])) (fun t k => XS.goto X8.here hx rfl (pc0 := 146) (pc' := 150) rfl (hb hby at_146) (by decide) (by decide) k) ?_
        exact J150_23 _ (by simp only [if_pos hc132_24, if_neg hc137_25, if_true, if_false])
    · -- 132 False
      refine step (T8.setTop (mkF m 145 #[.val (.long p0), .second, .val (.long p1), .second, .val (.long p2), .second, .val (.long p3), .second, .val (.int p4), .val (.long z13_1), .second, .val (.long z28_4), .second, .val (.int z34_1_7), .val (.int z34_1_8), .val (.int z71_9), .val (.int z113_13), .val (.int z128_18), .unset, .unset] [])) (fun t k => XS.ifYes X8.here hx rfl (pc0 := 132) (pc' := 145) rfl (hb hby at_132) rfl ((if0 _ _).trans (feq hc132_24).2) (by decide) (by decide) k) ?_
      refine step (T8.setTop (mkF m 146 #[.val (.long p0), .second, .val (.long p1), .second, .val (.long p2), .second, .val (.long p3), .second, .val (.int p4), .val (.long z13_1), .second, .val (.long z28_4), .second, .val (.int z34_1_7), .val (.int z34_1_8), .val (.int z71_9), .val (.int z113_13), .val (.int z128_18), .unset, .unset] [(.int (1 : Int32))])) (fun t k => XS.iconst X8.here hx rfl (hb hby at_145) k) ?_
      refine step (T8.setTop (mkF m 150 #[.val (.long p0), .second, .val (.long p1), .second, .val (.long p2), .second, .val (.long p3), .second, .val (.int p4), .val (.long z13_1), .second, .val (.long z28_4), .second, .val (.int z34_1_7), .val (.int z34_1_8), .val (.int z71_9), .val (.int z113_13), .val (.int z128_18), .unset, .unset] [(.int (1 : Int32))])) (fun t k => XS.goto X8.here hx rfl (pc0 := 146) (pc' := 150) rfl (hb hby at_146) (by decide) (by decide) k) ?_
      exact J150_23 _ (by simp only [if_neg hc132_24, if_true, if_false])
  intro z150_22 hz150_22
  refine step (T8.setTop (mkF m 152 #[.val (.long p0), .second, .val (.long p1), .second, .val (.long p2), .second, .val (.long p3), .second, .val (.int p4), .val (.long z13_1), .second, .val (.long z28_4), .second, .val (.int z34_1_7), .val (.int z34_1_8), .val (.int z71_9), .val (.int z113_13), .val (.int z128_18), .val (.int z150_22), .unset] [])) (fun t k => XS.istore X8.here hx rfl (hb hby at_150) rfl (l' := #[.val (.long p0), .second, .val (.long p1), .second, .val (.long p2), .second, .val (.long p3), .second, .val (.int p4), .val (.long z13_1), .second, .val (.long z28_4), .second, .val (.int z34_1_7), .val (.int z34_1_8), .val (.int z71_9), .val (.int z113_13), .val (.int z128_18), .val (.int z150_22), .unset]) rfl k) ?_
  refine step (T8.setTop (mkF m 154 #[.val (.long p0), .second, .val (.long p1), .second, .val (.long p2), .second, .val (.long p3), .second, .val (.int p4), .val (.long z13_1), .second, .val (.long z28_4), .second, .val (.int z34_1_7), .val (.int z34_1_8), .val (.int z71_9), .val (.int z113_13), .val (.int z128_18), .val (.int z150_22), .unset] [(.int z71_9)])) (fun t k => XS.iload X8.here hx rfl (hb hby at_152) rfl k) ?_
  suffices J167_28 : ∀ (z167_27 : Int32), z167_27 = (if z71_9 = (0 : Int32) then (1 : Int32) else (if z34_1_7 = (0 : Int32) then (1 : Int32) else (0 : Int32))) → G (T8.setTop (mkF m 167 #[.val (.long p0), .second, .val (.long p1), .second, .val (.long p2), .second, .val (.long p3), .second, .val (.int p4), .val (.long z13_1), .second, .val (.long z28_4), .second, .val (.int z34_1_7), .val (.int z34_1_8), .val (.int z71_9), .val (.int z113_13), .val (.int z128_18), .val (.int z150_22), .unset] [(.int z167_27)])) by
    by_cases hc154_29 : z71_9 = (0 : Int32)
    · -- 154 True
      refine step (T8.setTop (mkF m 162 #[.val (.long p0), .second, .val (.long p1), .second, .val (.long p2), .second, .val (.long p3), .second, .val (.int p4), .val (.long z13_1), .second, .val (.long z28_4), .second, .val (.int z34_1_7), .val (.int z34_1_8), .val (.int z71_9), .val (.int z113_13), .val (.int z128_18), .val (.int z150_22), .unset] [])) (fun t k => XS.ifYes X8.here hx rfl (pc0 := 154) (pc' := 162) rfl (hb hby at_154) rfl ((if0 _ _).trans (teq hc154_29).1) (by decide) (by decide) k) ?_
      refine step (T8.setTop (mkF m 163 #[.val (.long p0), .second, .val (.long p1), .second, .val (.long p2), .second, .val (.long p3), .second, .val (.int p4), .val (.long z13_1), .second, .val (.long z28_4), .second, .val (.int z34_1_7), .val (.int z34_1_8), .val (.int z71_9), .val (.int z113_13), .val (.int z128_18), .val (.int z150_22), .unset] [(.int (1 : Int32))])) (fun t k => XS.iconst X8.here hx rfl (hb hby at_162) k) ?_
      refine step (T8.setTop (mkF m 167 #[.val (.long p0), .second, .val (.long p1), .second, .val (.long p2), .second, .val (.long p3), .second, .val (.int p4), .val (.long z13_1), .second, .val (.long z28_4), .second, .val (.int z34_1_7), .val (.int z34_1_8), .val (.int z71_9), .val (.int z113_13), .val (.int z128_18), .val (.int z150_22), .unset] [(.int (1 : Int32))])) (fun t k => XS.goto X8.here hx rfl (pc0 := 163) (pc' := 167) rfl (hb hby at_163) (by decide) (by decide) k) ?_
      exact J167_28 _ (by simp only [if_pos hc154_29, if_true, if_false])
    · -- 154 False
      refine step (T8.setTop (mkF m 157 #[.val (.long p0), .second, .val (.long p1), .second, .val (.long p2), .second, .val (.long p3), .second, .val (.int p4), .val (.long z13_1), .second, .val (.long z28_4), .second, .val (.int z34_1_7), .val (.int z34_1_8), .val (.int z71_9), .val (.int z113_13), .val (.int z128_18), .val (.int z150_22), .unset] [])) (fun t k => XS.ifNo X8.here hx rfl (hb hby at_154) rfl ((if0 _ _).trans (feq hc154_29).1) k) ?_
      refine step (T8.setTop (mkF m 159 #[.val (.long p0), .second, .val (.long p1), .second, .val (.long p2), .second, .val (.long p3), .second, .val (.int p4), .val (.long z13_1), .second, .val (.long z28_4), .second, .val (.int z34_1_7), .val (.int z34_1_8), .val (.int z71_9), .val (.int z113_13), .val (.int z128_18), .val (.int z150_22), .unset] [(.int z34_1_7)])) (fun t k => XS.iload X8.here hx rfl (hb hby at_157) rfl k) ?_
      by_cases hc159_30 : z34_1_7 = (0 : Int32)
      · -- 159 True
        refine step (T8.setTop (mkF m 162 #[.val (.long p0), .second, .val (.long p1), .second, .val (.long p2), .second, .val (.long p3), .second, .val (.int p4), .val (.long z13_1), .second, .val (.long z28_4), .second, .val (.int z34_1_7), .val (.int z34_1_8), .val (.int z71_9), .val (.int z113_13), .val (.int z128_18), .val (.int z150_22), .unset] [])) (fun t k => XS.ifNo X8.here hx rfl (hb hby at_159) rfl ((if0 _ _).trans (teq hc159_30).2) k) ?_
        refine step (T8.setTop (mkF m 163 #[.val (.long p0), .second, .val (.long p1), .second, .val (.long p2), .second, .val (.long p3), .second, .val (.int p4), .val (.long z13_1), .second, .val (.long z28_4), .second, .val (.int z34_1_7), .val (.int z34_1_8), .val (.int z71_9), .val (.int z113_13), .val (.int z128_18), .val (.int z150_22), .unset] [(.int (1 : Int32))])) (fun t k => XS.iconst X8.here hx rfl (hb hby at_162) k) ?_
        refine step (T8.setTop (mkF m 167 #[.val (.long p0), .second, .val (.long p1), .second, .val (.long p2), .second, .val (.long p3), .second, .val (.int p4), .val (.long z13_1), .second, .val (.long z28_4), .second, .val (.int z34_1_7), .val (.int z34_1_8), .val (.int z71_9), .val (.int z113_13), .val (.int z128_18), .val (.int z150_22), .unset] [(.int (1 : Int32))])) (fun t k => XS.goto X8.here hx rfl (pc0 := 163) (pc' := 167) rfl (hb hby at_163) (by decide) (by decide) k) ?_
        exact J167_28 _ (by simp only [if_neg hc154_29, if_pos hc159_30, if_true, if_false])
      · -- 159 False
        refine step (T8.setTop (mkF m 166 #[.val (.long p0), .second, .val (.long p1), .second, .val (.long p2), .second, .val (.long p3), .second, .val (.int p4), .val (.long z13_1), .second, .val (.long z28_4), .second, .val (.int z34_1_7), .val (.int z34_1_8), .val (.int z71_9), .val (.int z113_13), .val (.int z128_18), .val (.int z150_22), .unset] [])) (fun t k => XS.ifYes X8.here hx rfl (pc0 := 159) (pc' := 166) rfl (hb hby at_159) rfl ((if0 _ _).trans (feq hc159_30).2) (by decide) (by decide) k) ?_
        refine step (T8.setTop (mkF m 167 #[.val (.long p0), .second, .val (.long p1), .second, .val (.long p2), .second, .val (.long p3), .second, .val (.int p4), .val (.long z13_1), .second, .val (.long z28_4), .second, .val (.int z34_1_7), .val (.int z34_1_8), .val (.int z71_9), .val (.int z113_13), .val (.int z128_18), .val (.int z150_22), .unset] [(.int (0 : Int32))])) (fun t k => XS.iconst X8.here hx rfl (hb hby at_166) k) ?_
        exact J167_28 _ (by simp only [if_neg hc154_29, if_neg hc159_30, if_true, if_false])
  intro z167_27 hz167_27
  refine step (T8.setTop (mkF m 169 #[.val (.long p0), .second, .val (.long p1), .second, .val (.long p2), .second, .val (.long p3), .second, .val (.int p4), .val (.long z13_1), .second, .val (.long z28_4), .second, .val (.int z34_1_7), .val (.int z34_1_8), .val (.int z71_9), .val (.int z113_13), .val (.int z128_18), .val (.int z150_22), .val (.int z167_27)] [])) (fun t k => XS.istore X8.here hx rfl (hb hby at_167) rfl (l' := #[.val (.long p0), .second, .val (.long p1), .second, .val (.long p2), .second, .val (.long p3), .second, .val (.int p4), .val (.long z13_1), .second, .val (.long z28_4), .second, .val (.int z34_1_7), .val (.int z34_1_8), .val (.int z71_9), .val (.int z113_13), .val (.int z128_18), .val (.int z150_22), .val (.int z167_27)]) rfl k) ?_
  refine step (T8.setTop (mkF m 171 #[.val (.long p0), .second, .val (.long p1), .second, .val (.long p2), .second, .val (.long p3), .second, .val (.int p4), .val (.long z13_1), .second, .val (.long z28_4), .second, .val (.int z34_1_7), .val (.int z34_1_8), .val (.int z71_9), .val (.int z113_13), .val (.int z128_18), .val (.int z150_22), .val (.int z167_27)] [(.int z34_1_7)])) (fun t k => XS.iload X8.here hx rfl (hb hby at_169) rfl k) ?_
  refine step (T8.setTop (mkF m 173 #[.val (.long p0), .second, .val (.long p1), .second, .val (.long p2), .second, .val (.long p3), .second, .val (.int p4), .val (.long z13_1), .second, .val (.long z28_4), .second, .val (.int z34_1_7), .val (.int z34_1_8), .val (.int z71_9), .val (.int z113_13), .val (.int z128_18), .val (.int z150_22), .val (.int z167_27)] [(.int z113_13), (.int z34_1_7)])) (fun t k => XS.iload X8.here hx rfl (hb hby at_171) rfl k) ?_
  suffices J196_32 : ∀ (z196_31 : Int32), z196_31 = (if z34_1_7 = z113_13 then (if z128_18 = (0 : Int32) then (0 : Int32) else (if z150_22 = (0 : Int32) then (0 : Int32) else (if z167_27 = (0 : Int32) then (0 : Int32) else (1 : Int32)))) else (0 : Int32)) → G (T8.setTop (mkF m 196 #[.val (.long p0), .second, .val (.long p1), .second, .val (.long p2), .second, .val (.long p3), .second, .val (.int p4), .val (.long z13_1), .second, .val (.long z28_4), .second, .val (.int z34_1_7), .val (.int z34_1_8), .val (.int z71_9), .val (.int z113_13), .val (.int z128_18), .val (.int z150_22), .val (.int z167_27)] [(.int z196_31)])) by
    by_cases hc173_33 : z34_1_7 = z113_13
    · -- 173 True
      refine step (T8.setTop (mkF m 176 #[.val (.long p0), .second, .val (.long p1), .second, .val (.long p2), .second, .val (.long p3), .second, .val (.int p4), .val (.long z13_1), .second, .val (.long z28_4), .second, .val (.int z34_1_7), .val (.int z34_1_8), .val (.int z71_9), .val (.int z113_13), .val (.int z128_18), .val (.int z150_22), .val (.int z167_27)] [])) (fun t k => XS.icmpNo X8.here hx rfl (hb hby at_173) rfl (teq hc173_33).2 k) ?_
      refine step (T8.setTop (mkF m 178 #[.val (.long p0), .second, .val (.long p1), .second, .val (.long p2), .second, .val (.long p3), .second, .val (.int p4), .val (.long z13_1), .second, .val (.long z28_4), .second, .val (.int z34_1_7), .val (.int z34_1_8), .val (.int z71_9), .val (.int z113_13), .val (.int z128_18), .val (.int z150_22), .val (.int z167_27)] [(.int z128_18)])) (fun t k => XS.iload X8.here hx rfl (hb hby at_176) rfl k) ?_
      by_cases hc178_34 : z128_18 = (0 : Int32)
      · -- 178 True
        refine step (T8.setTop (mkF m 195 #[.val (.long p0), .second, .val (.long p1), .second, .val (.long p2), .second, .val (.long p3), .second, .val (.int p4), .val (.long z13_1), .second, .val (.long z28_4), .second, .val (.int z34_1_7), .val (.int z34_1_8), .val (.int z71_9), .val (.int z113_13), .val (.int z128_18), .val (.int z150_22), .val (.int z167_27)] [])) (fun t k => XS.ifYes X8.here hx rfl (pc0 := 178) (pc' := 195) rfl (hb hby at_178) rfl ((if0 _ _).trans (teq hc178_34).1) (by decide) (by decide) k) ?_
        refine step (T8.setTop (mkF m 196 #[.val (.long p0), .second, .val (.long p1), .second, .val (.long p2), .second, .val (.long p3), .second, .val (.int p4), .val (.long z13_1), .second, .val (.long z28_4), .second, .val (.int z34_1_7), .val (.int z34_1_8), .val (.int z71_9), .val (.int z113_13), .val (.int z128_18), .val (.int z150_22), .val (.int z167_27)] [(.int (0 : Int32))])) (fun t k => XS.iconst X8.here hx rfl (hb hby at_195) k) ?_
        exact J196_32 _ (by simp only [if_pos hc173_33, if_pos hc178_34, if_true, if_false])
      · -- 178 False
        refine step (T8.setTop (mkF m 181 #[.val (.long p0), .second, .val (.long p1), .second, .val (.long p2), .second, .val (.long p3), .second, .val (.int p4), .val (.long z13_1), .second, .val (.long z28_4), .second, .val (.int z34_1_7), .val (.int z34_1_8), .val (.int z71_9), .val (.int z113_13), .val (.int z128_18), .val (.int z150_22), .val (.int z167_27)] [])) (fun t k => XS.ifNo X8.here hx rfl (hb hby at_178) rfl ((if0 _ _).trans (feq hc178_34).1) k) ?_
        refine step (T8.setTop (mkF m 183 #[.val (.long p0), .second, .val (.long p1), .second, .val (.long p2), .second, .val (.long p3), .second, .val (.int p4), .val (.long z13_1), .second, .val (.long z28_4), .second, .val (.int z34_1_7), .val (.int z34_1_8), .val (.int z71_9), .val (.int z113_13), .val (.int z128_18), .val (.int z150_22), .val (.int z167_27)] [(.int z150_22)])) (fun t k => XS.iload X8.here hx rfl (hb hby at_181) rfl k) ?_
        by_cases hc183_35 : z150_22 = (0 : Int32)
        · -- 183 True
          refine step (T8.setTop (mkF m 195 #[.val (.long p0), .second, .val (.long p1), .second, .val (.long p2), .second, .val (.long p3), .second, .val (.int p4), .val (.long z13_1), .second, .val (.long z28_4), .second, .val (.int z34_1_7), .val (.int z34_1_8), .val (.int z71_9), .val (.int z113_13), .val (.int z128_18), .val (.int z150_22), .val (.int z167_27)] [])) (fun t k => XS.ifYes X8.here hx rfl (pc0 := 183) (pc' := 195) rfl (hb hby at_183) rfl ((if0 _ _).trans (teq hc183_35).1) (by decide) (by decide) k) ?_
          refine step (T8.setTop (mkF m 196 #[.val (.long p0), .second, .val (.long p1), .second, .val (.long p2), .second, .val (.long p3), .second, .val (.int p4), .val (.long z13_1), .second, .val (.long z28_4), .second, .val (.int z34_1_7), .val (.int z34_1_8), .val (.int z71_9), .val (.int z113_13), .val (.int z128_18), .val (.int z150_22), .val (.int z167_27)] [(.int (0 : Int32))])) (fun t k => XS.iconst X8.here hx rfl (hb hby at_195) k) ?_
          exact J196_32 _ (by simp only [if_pos hc173_33, if_neg hc178_34, if_pos hc183_35, if_true, if_false])
        · -- 183 False
          refine step (T8.setTop (mkF m 186 #[.val (.long p0), .second, .val (.long p1), .second, .val (.long p2), .second, .val (.long p3), .second, .val (.int p4), .val (.long z13_1), .second, .val (.long z28_4), .second, .val (.int z34_1_7), .val (.int z34_1_8), .val (.int z71_9), .val (.int z113_13), .val (.int z128_18), .val (.int z150_22), .val (.int z167_27)] [])) (fun t k => XS.ifNo X8.here hx rfl (hb hby at_183) rfl ((if0 _ _).trans (feq hc183_35).1) k) ?_
          refine step (T8.setTop (mkF m 188 #[.val (.long p0), .second, .val (.long p1), .second, .val (.long p2), .second, .val (.long p3), .second, .val (.int p4), .val (.long z13_1), .second, .val (.long z28_4), .second, .val (.int z34_1_7), .val (.int z34_1_8), .val (.int z71_9), .val (.int z113_13), .val (.int z128_18), .val (.int z150_22), .val (.int z167_27)] [(.int z167_27)])) (fun t k => XS.iload X8.here hx rfl (hb hby at_186) rfl k) ?_
          by_cases hc188_36 : z167_27 = (0 : Int32)
          · -- 188 True
            refine step (T8.setTop (mkF m 195 #[.val (.long p0), .second, .val (.long p1), .second, .val (.long p2), .second, .val (.long p3), .second, .val (.int p4), .val (.long z13_1), .second, .val (.long z28_4), .second, .val (.int z34_1_7), .val (.int z34_1_8), .val (.int z71_9), .val (.int z113_13), .val (.int z128_18), .val (.int z150_22), .val (.int z167_27)] [])) (fun t k => XS.ifYes X8.here hx rfl (pc0 := 188) (pc' := 195) rfl (hb hby at_188) rfl ((if0 _ _).trans (teq hc188_36).1) (by decide) (by decide) k) ?_
            refine step (T8.setTop (mkF m 196 #[.val (.long p0), .second, .val (.long p1), .second, .val (.long p2), .second, .val (.long p3), .second, .val (.int p4), .val (.long z13_1), .second, .val (.long z28_4), .second, .val (.int z34_1_7), .val (.int z34_1_8), .val (.int z71_9), .val (.int z113_13), .val (.int z128_18), .val (.int z150_22), .val (.int z167_27)] [(.int (0 : Int32))])) (fun t k => XS.iconst X8.here hx rfl (hb hby at_195) k) ?_
            exact J196_32 _ (by simp only [if_pos hc173_33, if_neg hc178_34, if_neg hc183_35, if_pos hc188_36, if_true, if_false])
          · -- 188 False
            refine step (T8.setTop (mkF m 191 #[.val (.long p0), .second, .val (.long p1), .second, .val (.long p2), .second, .val (.long p3), .second, .val (.int p4), .val (.long z13_1), .second, .val (.long z28_4), .second, .val (.int z34_1_7), .val (.int z34_1_8), .val (.int z71_9), .val (.int z113_13), .val (.int z128_18), .val (.int z150_22), .val (.int z167_27)] [])) (fun t k => XS.ifNo X8.here hx rfl (hb hby at_188) rfl ((if0 _ _).trans (feq hc188_36).1) k) ?_
            refine step (T8.setTop (mkF m 192 #[.val (.long p0), .second, .val (.long p1), .second, .val (.long p2), .second, .val (.long p3), .second, .val (.int p4), .val (.long z13_1), .second, .val (.long z28_4), .second, .val (.int z34_1_7), .val (.int z34_1_8), .val (.int z71_9), .val (.int z113_13), .val (.int z128_18), .val (.int z150_22), .val (.int z167_27)] [(.int (1 : Int32))])) (fun t k => XS.iconst X8.here hx rfl (hb hby at_191) k) ?_
            refine step (T8.setTop (mkF m 196 #[.val (.long p0), .second, .val (.long p1), .second, .val (.long p2), .second, .val (.long p3), .second, .val (.int p4), .val (.long z13_1), .second, .val (.long z28_4), .second, .val (.int z34_1_7), .val (.int z34_1_8), .val (.int z71_9), .val (.int z113_13), .val (.int z128_18), .val (.int z150_22), .val (.int z167_27)] [(.int (1 : Int32))])) (fun t k => XS.goto X8.here hx rfl (pc0 := 192) (pc' := 196) rfl (hb hby at_192) (by decide) (by decide) k) ?_
            exact J196_32 _ (by simp only [if_pos hc173_33, if_neg hc178_34, if_neg hc183_35, if_neg hc188_36, if_true, if_false])
    · -- 173 False
      refine step (T8.setTop (mkF m 195 #[.val (.long p0), .second, .val (.long p1), .second, .val (.long p2), .second, .val (.long p3), .second, .val (.int p4), .val (.long z13_1), .second, .val (.long z28_4), .second, .val (.int z34_1_7), .val (.int z34_1_8), .val (.int z71_9), .val (.int z113_13), .val (.int z128_18), .val (.int z150_22), .val (.int z167_27)] [])) (fun t k => XS.icmpYes X8.here hx rfl (pc0 := 173) (pc' := 195) rfl (hb hby at_173) rfl (feq hc173_33).2 (by decide) (by decide) k) ?_
      refine step (T8.setTop (mkF m 196 #[.val (.long p0), .second, .val (.long p1), .second, .val (.long p2), .second, .val (.long p3), .second, .val (.int p4), .val (.long z13_1), .second, .val (.long z28_4), .second, .val (.int z34_1_7), .val (.int z34_1_8), .val (.int z71_9), .val (.int z113_13), .val (.int z128_18), .val (.int z150_22), .val (.int z167_27)] [(.int (0 : Int32))])) (fun t k => XS.iconst X8.here hx rfl (hb hby at_195) k) ?_
      exact J196_32 _ (by simp only [if_neg hc173_33, if_true, if_false])
  intro z196_31 hz196_31
  refine fin (v := some (.int (nar .boolean z196_31))) X8 (fun h => by cases h) ?_ (by decide) (by decide) (fun fs hr => retN X8 hx (t := .boolean) hret (by simp) (hb hby at_196) hr)
  show Q0 Z p0 p1 p2 p3 p4 h0 n0 (some (.int (nar .boolean z196_31))) T8.heap _
  rw [e8q]
  exact ⟨own_fin (own_plain1 p0 p1 p2 p3 p4 z13_1 z28_4 z34_1_7 z34_1_8 z71_9 z113_13 z128_18 z150_22 z167_27 z196_31 hz13_1 hz28_4 hz34_1_7 hz34_1_8 hz71_9 hz113_13 hz128_18 hz150_22 hz167_27 hz196_31), N8⟩
set_option maxRecDepth 65536 in
set_option maxHeartbeats 40000000 in
theorem comes_1 {Post : Tables → Env → Array Value → State → Outcome → State → Prop} (hpost : ∀ tb e args s v u, (limb_1_1.after args s (.returned v) u = true ∧ limb_1_2.after args s (.returned v) u = true ∧ True) → FrameEnd s (.returned v) u (Jvm.fieldLocs frame_1_writes args s ++ Jvm.arrayLocs frame_1_arrays args s ++ Jvm.staticLocs frame_1_statics s) 0 0 → Post tb e args s (.returned v) u) :
    ArmFor flags0 classFile x code maxLocals ret World_1 tables_1 room_1 Calls_1 rest_1 Pre_1 Post := by
  intro l hfl _ _ p e ha hc hk s m args below hf hA hF happ hP
  obtain ⟨hcalls, hrest, hpre⟩ := hP
  obtain ⟨-, -, -, hnamed, -, -, -, hat⟩ := (Spec.applies_iff hf).mp happ
  obtain ⟨hg, hn⟩ := and_e (Cond.before_iff.mp (show (Jvm.Cond.and given_1 narrow_1).before args s = true from hpre))
  obtain ⟨hcount, hr0⟩ := and_e hg
  obtain ⟨ha0, hr1⟩ := and_e hr0
  obtain ⟨ha1, hr2⟩ := and_e hr1
  obtain ⟨ha2, hr3⟩ := and_e hr2
  obtain ⟨ha3, hr4⟩ := and_e hr3
  have ha4 := hr4
  obtain ⟨w0, w1, w2, w3, w4, rfl⟩ : ∃ w0 w1 w2 w3 w4 : Value, args = #[w0, w1, w2, w3, w4] := by
    have hs : args.size = 5 := by simpa [Cond.value, given_1] using hcount
    obtain ⟨L⟩ := args
    match L, hs with
    | [w0, w1, w2, w3, w4], _ => exact ⟨w0, w1, w2, w3, w4, rfl⟩
  have hw := fun d (hd : d ∈ tables_1) => atoms_spec (ws := Jvm.Cond.code x code maxLocals ret :: tables_1) hat d (List.mem_cons_of_mem _ hd)
  have hfit : Fit s := fun {y c} hc i hi => by
    obtain ⟨ha, rfl⟩ := Array.getElem?_eq_some_iff.mp hc
    have q := List.all_eq_true.mp ((Array.all_eq_true_iff_forall_mem.mp hF) _ (Array.getElem_mem ha)) i (List.mem_range.mpr hi)
    simpa [Array.getElem?_eq_getElem hi] using q
  obtain ⟨i0, ei0⟩ := isL_v ha0
  obtain rfl : w0 = (.long i0) := Option.some.inj ei0
  obtain ⟨i1, ei1⟩ := isL_v ha1
  obtain rfl : w1 = (.long i1) := Option.some.inj ei1
  obtain ⟨i2, ei2⟩ := isL_v ha2
  obtain rfl : w2 = (.long i2) := Option.some.inj ei2
  obtain ⟨i3, ei3⟩ := isL_v ha3
  obtain rfl : w3 = (.long i3) := Option.some.inj ei3
  obtain ⟨i4, ei4⟩ := is_v ha4
  obtain rfl : w4 = (.int i4) := Option.some.inj ei4
  obtain ⟨n, o, h1, h2, h3, _, L, rfl, ⟨rfl, N⟩, hq⟩ := rm0 l s _ hw tables_1 i0 i1 i2 i3 i4 s.heap s.heap.size (Nat.le_refl _) p e ha hc hk s m _ below hf ((Spec.applies_iff_loose hf).mp happ).1 ⟨rfl, State.Warmed39.refl s, rfl⟩ trivial
  refine ⟨n, _, h1, h2, h3, hpost _ _ _ _ _ _ ⟨Cond.after_iff.mpr rfl, Cond.after_iff.mpr (eq_i res_at (Term.int_eval (1)) rfl), trivial⟩ ⟨hq.1, hq.2.1, (hq.2.2.sift fun y hy => Or.inr (N y hy)).mono (by decide) (by decide)⟩⟩
theorem main_1_1 : Claimed_1_1 := comes_1 fun _ _ _ _ _ _ h hF => ⟨h.1, hF⟩
theorem main_1_2 : Claimed_1_2 := comes_1 fun _ _ _ _ _ _ h hF => ⟨h.2.1, hF⟩
end Jvm.Pilot.@@N@@
namespace Jvm.Pilot.@@N@@
open Jvm Jvm.ClassFile Sem Op Lib Jvm.Free Jvm.Stand Jvm.Pilot.@@N@@.Jvm.D
/-! MADE BY PROGRAM (witnessworld.py) out of the Statement's table words and the real class files: 7 classes; the members and pool entries that the words name. The judged class is class 1, her method 1. -/
namespace start1
open Jvm.ClassFile
def u (s : String) : CpInfo := .utf8 (stringToUtf16 s)
/-- a pool by its gaps: so many unusable entries, then the entry; so many at the end -/
def gap : Nat → List CpInfo → List CpInfo
  | 0, r => r
  | n + 1, r => .unusable :: gap n r
def poolList (es : List (Nat × CpInfo)) (last : Nat) : List CpInfo := es.foldr (fun e r => gap e.1 (e.2 :: r)) (gap last [])
def pool (es : List (Nat × CpInfo)) (last : Nat) : Array CpInfo := ⟨poolList es last⟩
def fileOf (pool : Array CpInfo) (this : Nat) (attrs : Array Attribute := #[]) (ms : Array MethodInfo := #[]) (fl : Nat := 33) (sup : Nat := 0) (ifs : Array Nat := #[]) (fds : Array FieldInfo := #[]) : ClassFile where
  minorVersion := 0
  majorVersion := 65
  constantPool := pool
  accessFlags := fl
  thisClass := this
  superClass := sup
  interfaces := ifs
  fields := fds
  methods := ms
  attributes := attrs
def plain (name : String) (sup : Option ClassId) : Class where
  name := name
  kind := .ordinary
  loader := none
  accessFlags := 33
  super := sup
  interfaces := #[]
  cf := none
  fields := #[]
  methods := #[]
  instanceTypes := #[]
  staticTypes := #[]
  resolved := #[]
  callSites := []
  init := .initialized
  statics := none
  mirror := none

def pool0 : Array CpInfo := pool [(5, u "<init>"), (0, u "()V"), (1, .class_ 10), (1, u "java/lang/Object")] 113

def k0m0 : Method := { name := "<init>", desc := "()V", sig := { parameters := [], returnType := none }, accessFlags := 1, code := none }
/-- java/lang/Object -/
def k0 : Class := { plain "java/lang/Object" none with
  accessFlags := 33
  interfaces := #[]
  cf := some (fileOf pool0 8 #[] #[{ accessFlags := 1, nameIndex := 5, descriptorIndex := 6, attributes := #[] }] 33 0 #[] #[])
  fields := #[]
  methods := #[k0m0]
  instanceTypes := #[]
  staticTypes := #[]
  resolved := Array.replicate 124 none
  statics := none }

def pool1 : Array CpInfo := pool [(2, .class_ 4), (1, u "java/lang/Object"), (0, u "<init>"), (0, u "()V"), (0, .methodref 8 9), (0, .class_ 10), (0, .nameAndType 11 12), (0, u "com/example/spindle/spindle/EntryHeap"), (0, u "leavesBefore"), (0, u "(JJJJ)Z"), (0, .class_ 14), (0, u "com/example/spindle/spindle/EntryHeapLeavesBeforePinLaw"), (2, u "law"), (0, u "(JJJJI)Z")] 3

def k1m0 : Method := { name := "<init>", desc := "()V", sig := { parameters := [], returnType := none }, accessFlags := 2, code := none }
def k1c1 : Code := { maxStack := 8, maxLocals := 20, code := code, exceptionTable := #[], attributes := #[] }
def k1m1 : Method := { name := "law", desc := "(JJJJI)Z", sig := { parameters := [.long, .long, .long, .long, .int], returnType := some .boolean }, accessFlags := 9, code := some k1c1 }
/-- com/example/spindle/spindle/EntryHeapLeavesBeforePinLaw -/
def k1 : Class := { plain "com/example/spindle/spindle/EntryHeapLeavesBeforePinLaw" (some 0) with
  accessFlags := 49
  interfaces := #[]
  cf := some (fileOf pool1 13 #[] #[{ accessFlags := 2, nameIndex := 5, descriptorIndex := 6, attributes := #[] }, { accessFlags := 9, nameIndex := 17, descriptorIndex := 18, attributes := #[] }] 49 2 #[] #[])
  fields := #[]
  methods := #[k1m0, k1m1]
  instanceTypes := #[]
  staticTypes := #[]
  resolved := Array.replicate 22 none
  statics := none }

def pool2 : Array CpInfo := pool [(1, .class_ 2), (0, u "com/example/spindle/spindle/EntryHeap"), (1, .class_ 6), (1, u "java/lang/Object"), (8, u "ids"), (0, u "[[I"), (4, u "keys"), (0, u "[[J"), (2, u "capacity"), (0, u "I"), (2, u "entries"), (0, u "Lcom/example/spindle/spindle/QueueEntries;"), (2, u "size"), (78, u "leavesBefore"), (0, u "(JJJJ)Z"), (3, u "ARITY_SHIFT"), (2, u "ARITY"), (1, u "ROOT")] 60

def k2c0 : Code := { maxStack := 4, maxLocals := 8, code := prog_4_method_2_code, exceptionTable := #[], attributes := #[] }
def k2m0 : Method := { name := "leavesBefore", desc := "(JJJJ)Z", sig := { parameters := [.long, .long, .long, .long], returnType := some .boolean }, accessFlags := 8, code := some k2c0 }
/-- com/example/spindle/spindle/EntryHeap -/
def k2 : Class := { plain "com/example/spindle/spindle/EntryHeap" (some 0) with
  accessFlags := 48
  interfaces := #[]
  cf := some (fileOf pool2 1 #[] #[{ accessFlags := 8, nameIndex := 112, descriptorIndex := 113, attributes := #[] }] 48 4 #[] #[{ accessFlags := 26, nameIndex := 117, descriptorIndex := 26, attributes := #[] }, { accessFlags := 26, nameIndex := 120, descriptorIndex := 26, attributes := #[] }, { accessFlags := 26, nameIndex := 122, descriptorIndex := 26, attributes := #[] }, { accessFlags := 18, nameIndex := 29, descriptorIndex := 30, attributes := #[] }, { accessFlags := 2, nameIndex := 15, descriptorIndex := 16, attributes := #[] }, { accessFlags := 2, nameIndex := 21, descriptorIndex := 22, attributes := #[] }, { accessFlags := 2, nameIndex := 25, descriptorIndex := 26, attributes := #[] }, { accessFlags := 2, nameIndex := 33, descriptorIndex := 26, attributes := #[] }])
  fields := #[{ name := "ARITY_SHIFT", type := .int, accessFlags := 26, slot := 0, constantValue := 0 }, { name := "ARITY", type := .int, accessFlags := 26, slot := 1, constantValue := 0 }, { name := "ROOT", type := .int, accessFlags := 26, slot := 2, constantValue := 0 }, { name := "entries", type := (.object "com/example/spindle/spindle/QueueEntries"), accessFlags := 18, slot := 0, constantValue := 0 }, { name := "ids", type := (.array (.array .int)), accessFlags := 2, slot := 1, constantValue := 0 }, { name := "keys", type := (.array (.array .long)), accessFlags := 2, slot := 2, constantValue := 0 }, { name := "capacity", type := .int, accessFlags := 2, slot := 3, constantValue := 0 }, { name := "size", type := .int, accessFlags := 2, slot := 4, constantValue := 0 }]
  methods := #[k2m0]
  instanceTypes := #[(.object "com/example/spindle/spindle/QueueEntries"), (.array (.array .int)), (.array (.array .long)), .int, .int]
  staticTypes := #[.int, .int, .int]
  resolved := Array.replicate 183 none
  statics := none }

def pool3 : Array CpInfo := pool [(1, u "java/lang/Cloneable"), (0, .class_ 1), (0, u "java/lang/Object"), (0, .class_ 3)] 3

/-- java/lang/Cloneable -/
def k3 : Class := { plain "java/lang/Cloneable" (some 0) with
  accessFlags := 1537
  interfaces := #[]
  cf := some (fileOf pool3 2 #[] #[] 1537 4 #[] #[])
  fields := #[]
  methods := #[]
  instanceTypes := #[]
  staticTypes := #[]
  resolved := Array.replicate 8 none
  statics := none }

def pool4 : Array CpInfo := pool [(1, u "java/io/Serializable"), (0, .class_ 1), (0, u "java/lang/Object"), (0, .class_ 3)] 3

/-- java/io/Serializable -/
def k4 : Class := { plain "java/io/Serializable" (some 0) with
  accessFlags := 1537
  interfaces := #[]
  cf := some (fileOf pool4 2 #[] #[] 1537 4 #[] #[])
  fields := #[]
  methods := #[]
  instanceTypes := #[]
  staticTypes := #[]
  resolved := Array.replicate 8 none
  statics := none }

/-- the primitive byte -/
def k5 : Class := { plain "byte" none with kind := .primitive 'B', accessFlags := 0x411 }
/-- [B -/
def k6 : Class := { plain "[B" (some 0) with kind := .array 5 .byte, interfaces := #[3, 4], accessFlags := 1041 }

def heap : Heap := #[]
def classes : Array Class := #[k0, k1, k2, k3, k4, k5, k6]
def interned : List (Array UInt16 × Addr) := []
def slotsUsed : Nat := 0
def theMethod : MethodId := ⟨1, 1⟩
def args0 : Array Value := #[.long 5, .long 6, .long 7, .long 8, .int 3]
def aboutOver (below : List Frame) : State where
  vm := { classes := classes, interned := interned.toArray }
  heap := heap
  slotsUsed := slotsUsed
  threads := #[{ frames := .invoking theMethod args0 :: below }]
def below0 : List Frame := [.native { method := ⟨0, 0⟩, args := #[] }]
def about1 : State := aboutOver below0
def p0 : Program := .bare "" "" ""
def e0 : Env := launch0.env 0 0 0
theorem w_frames : about1.frames = Frame.invoking theMethod args0 :: below0 := rfl
set_option maxRecDepth 65536 in
theorem w_args : argsFit about1.vm theMethod args0 = true := by decide +kernel
set_option maxRecDepth 65536 in
theorem w_heap : heapFits about1 = true := by decide +kernel
set_option maxRecDepth 65536 in
theorem w_runnable : about1.curStatus? = some .runnable := by decide +kernel
set_option maxRecDepth 65536 in
theorem w_alone : about1.alone = true := by decide +kernel
set_option maxRecDepth 65536 in
theorem w_named : about1.methodNamed? x = some theMethod := by decide +kernel
set_option maxRecDepth 65536 in
theorem w_hears : about1.hears theMethod below0 = true := by decide +kernel
set_option maxRecDepth 65536 in
theorem w_ripe : about1.ripe theMethod args0 below0 = true := by decide +kernel
theorem w_running : about1.status = .running := rfl
set_option maxRecDepth 65536 in
theorem w_room : about1.hasRoom e0.platform room_1 = true :=
  launch0.hasRoom_least _ room_1 (by decide +kernel) (by decide +kernel) (by decide +kernel) (by decide +kernel) (by decide +kernel) (by decide +kernel)
theorem allAtoms_all (ts : List Jvm.Cond) (a : Array Jvm.Value) (st : Jvm.State) : (allAtoms ts).before a st = ts.all (fun c => c.before a st) := by
  induction ts with
  | nil => rfl
  | cons c t ih =>
    show (Jvm.Cond.and c (allAtoms t)).before a st = _
    rw [Jvm.Cond.before_and, ih, List.all_cons]
def words1 : List Jvm.Cond := Jvm.Cond.code x code maxLocals ret :: tables_1
/-- a 'code' word, met by the world's own term for the bytes: nothing is compared byte by byte -/
theorem code_word {y : MethodName} {bytes : ByteArray} {mx : Nat} {rt : Option FieldType} {a : Array Value} {s : State} {m : MethodId} {meth : Method} {c : Code} (h1 : s.methodNamed? y = some m) (h2 : s.vm.method? m = some meth) (h3 : meth.code = some c) (h4 : c.code = bytes)
    (h5 : (c.maxLocals == mx && c.exceptionTable.isEmpty && decide (c.maxStack ≤ mostOperands) && decide (meth.sig.returnType = rt) && !meth.locks && decide (parseMethodDescriptor y.desc = some meth.sig)) = true) : (Jvm.Cond.code y bytes mx rt).before a s = true := by
  simp only [Bool.and_eq_true, beq_iff_eq, Bool.not_eq_true', decide_eq_true_eq] at h5
  obtain ⟨⟨⟨⟨⟨g1, g2⟩, g3⟩, g4⟩, g5⟩, g6⟩ := h5
  simp [Cond.before, Cond.holds, Cond.value, h1, h2, h3, h4, g1, g2, g3, g4, g5, g6]
def isCode : Jvm.Cond → Bool
  | .code _ _ _ _ => true
  | _ => false
theorem all_split {L : List Jvm.Cond} {P : Jvm.Cond → Bool} (h1 : L.all (fun c => isCode c || P c) = true) (h2 : ∀ c ∈ L.filter isCode, P c = true) : L.all P = true := by
  refine List.all_eq_true.mpr fun c hc => ?_
  have h := List.all_eq_true.mp h1 c hc
  rcases Bool.eq_false_or_eq_true (isCode c) with hi | hi
  · exact h2 c (List.mem_filter.mpr ⟨hc, hi⟩)
  · simpa [hi] using h
set_option maxRecDepth 65536 in
theorem w_c0 : (Jvm.Cond.code x code maxLocals ret).before args0 about1 = true := code_word (m := ⟨1, 1⟩) (meth := k1m1) (c := k1c1) (by decide +kernel) rfl rfl rfl (by decide +kernel)
set_option maxRecDepth 65536 in
theorem w_c1 : (Jvm.Cond.code ({ cls := "com/example/spindle/spindle/EntryHeap", name := "leavesBefore", desc := "(JJJJ)Z" } : Jvm.MethodName) prog_4_method_2_code (8 : Nat) (Option.some Jvm.ClassFile.FieldType.boolean)).before args0 about1 = true := code_word (m := ⟨2, 0⟩) (meth := k2m0) (c := k2c0) (by decide +kernel) rfl rfl rfl (by decide +kernel)
def codes1 : List Jvm.Cond := [Jvm.Cond.code x code maxLocals ret, Jvm.Cond.code ({ cls := "com/example/spindle/spindle/EntryHeap", name := "leavesBefore", desc := "(JJJJ)Z" } : Jvm.MethodName) prog_4_method_2_code (8 : Nat) (Option.some Jvm.ClassFile.FieldType.boolean)]
set_option maxRecDepth 65536 in
theorem codes_eq : words1.filter isCode = codes1 := rfl
theorem w_codes : ∀ c ∈ words1.filter isCode, c.before args0 about1 = true := by
  rw [codes_eq]
  intro c hc
  simp only [codes1, List.mem_cons, List.not_mem_nil, or_false] at hc
  rcases hc with rfl | rfl
  · exact w_c0
  · exact w_c1
set_option maxRecDepth 65536 in
theorem w_t1 : words1.all (fun c => isCode c || c.before args0 about1) = true := by decide +kernel
theorem w_tables : (allAtoms (Jvm.Cond.code x code maxLocals ret :: tables_1)).before args0 about1 = true := by
  rw [allAtoms_all]
  show words1.all (fun c => c.before args0 about1) = true
  refine all_split ?_ w_codes
  rw [w_t1]
set_option maxRecDepth 65536 in
theorem w_case : (Jvm.Cond.and given_1 narrow_1).before args0 about1 = true := by decide +kernel
theorem w_applies : (headSpec (Jvm.Cond.code x code maxLocals ret :: tables_1) room_1).applies x e0.platform about1 = true :=
  (Spec.applies_iff w_frames).mpr ⟨w_running, w_runnable, w_alone, w_named, w_hears, w_ripe, w_room, w_tables⟩
theorem atStart : AtStart classFile x code maxLocals ret World_1 tables_1 room_1 Calls_1 rest_1 Pre_1 launch0 p0 e0 about1 theMethod args0 below0 :=
  ⟨lists_1, trivial, launch0.admits_env _ _ _, launch0.least_env, fairChoices_fair.cas, fairChoices_fair.clock, w_frames, w_args, w_heap, w_applies, trivial, trivial, w_case⟩
end start1
theorem witness_1 : WitnessClaimed_1 := ⟨start1.p0, start1.e0, start1.about1, start1.theMethod, start1.args0, start1.below0, start1.atStart⟩
end Jvm.Pilot.@@N@@
