import JvmDerived
import JvmDerived.Pilot.@@N@@Statement
import JvmDerived.Pilot.@@N@@Code
set_option linter.unusedVariables false
set_option linter.unusedSimpArgs false
namespace Jvm.RoadKit
open Sem ClassFile Op Lib Jvm.Stand Jvm.Free Jvm.LawKit
section New
variable {p : Program} {l : Launch} {e : Env} {R : Room} {s : State} {m : MethodId} {args : Array Value} {below : List Frame} {meth : Method} {c : Code} {T : State} {locs : List Loc} {cells slots : Nat}
theorem retI (X : Stand p l e R s m args below meth c T locs cells slots) (hx : p.tables.exec = Jvm.exec) {pc : Nat} {Ls : Array Slot} {z : Int32} {rest : List Value} (hret : meth.sig.returnType = some .int) (hd : decode c.code pc = .ok (.ireturn, 1)) {fs : List Frame}
    (hl : ∀ (f : JFrame) (acts : List Action), f.method = m → f.locked = none → f.entered = [] → (doReturn e (T.setTop f) acts (some (.int z))).1 = T.setFrames fs) : Steps p.tables e below (T.setTop (mkF m pc Ls (.int z :: rest))) (T.setFrames fs) := by
  have hm' : T.vm.method? m = some meth := X.method'
  have hn : narrow .int (.int z) = .int z := rfl
  show Steps p.tables e below (T.setTop { method := m, pc := pc, locals := Ls, stack := _ :: rest, locked := none }) _
  jvm_step X.here [X.here.top, hx, hd, hm', hret, hn]
  first | (intro acts; rw [hl _ acts rfl rfl rfl]) | rw [hl _ _ rfl rfl rfl]
  exact Steps.refl _
end New
end Jvm.RoadKit
namespace Jvm.Pilot.@@N@@
open Jvm Jvm.ClassFile Sem Op Lib Jvm.Free Jvm.Stand Jvm.LawKit Jvm.RoadKit Bundle Jvm.Pilot.@@N@@.Jvm.D
/-- a body's contract, by a walk forwards: G U says that the run from U comes to an end that the contract allows -/
theorem own_body {l : Launch} {Z : State} {y : MethodName} {bytes : ByteArray} {maxL : Nat} {ret : Option FieldType} {ws : List Jvm.Cond} {rm : Room} {as' : Array Value} {h0 : Heap} {Q : Option Value → Heap → List Loc → Prop} (hpl : plainFor y = true)
    (body : ∀ (p : Program) (e : Env) (s : State) (m : MethodId) (below : List Frame) (meth : Method) (c : Code) (s₁ : State) (G : State → Prop),
      p.tables.exec = Jvm.exec → c.code = bytes → c.maxLocals = maxL → Z.Warmed39 s.vm → s.vm.findClass y.cls = some m.cls → meth.name = y.name → meth.sig.returnType = ret →
      Stand p l e rm s m as' below meth c s₁ [] 0 0 → s₁.heap = h0 →
      (∀ (U' : State) {U : State}, (∀ t, Steps p.tables e below U' t → Steps p.tables e below U t) → G U' → G U) →
      (∀ {U T : State} {locs : List Loc} {cells slots : Nat} {v : Option Value}, Stand p l e rm s m as' below meth c T locs cells slots → (ret = none → v = none) → Q v T.heap locs → cells ≤ rm.cells → slots ≤ rm.slots →
        (∀ fs, (∀ (f : JFrame) (acts : List Action), f.method = m → f.locked = none → f.entered = [] → (doReturn e (T.setTop f) acts v).1 = T.setFrames fs) → Steps p.tables e below U (T.setFrames fs)) → G U) →
      G (s₁.setTop (entryFrame m as' maxL))) :
    MetFree l y (head1 (Jvm.Cond.code y bytes maxL ret :: ws) rm) (fun a U => a = as' ∧ Z.Warmed39 U.vm ∧ U.heap = h0) (fun _ _ _ _ _ => True) (fun _ U o U' => ∃ v L, o = .returned v ∧ Q v U'.heap L ∧ FrameEnd U o U' L rm.cells rm.slots) := by
  refine MetFree.of_bodySF hpl hisR ?_
  intro p e s m args below meth c s₁ Bd hml0 hP hK
  obtain ⟨rfl, hZ, hh⟩ := hP
  have hnm := (name_of_methodNamed Bd.named Bd.method).1
  exact body p e s m below meth c s₁ (fun U => ∃ s₂ o, Steps p.tables e below U s₂ ∧ s₂.status = .running ∧ Ended s₂ below o ∧ ∃ v L, o = .returned v ∧ Q v s₂.heap L ∧ FrameEnd s o s₂ L rm.cells rm.slots)
    Bd.exec Bd.bytes hml0 hZ (findClass_of_methodNamed Bd.named) hnm Bd.returns (Stand.of_body Bd) (by rw [← hh, Bd.state]; rfl)
    (fun U' U h k => by obtain ⟨s₂, o, h1, h2⟩ := k; exact ⟨s₂, o, h _ h1, h2⟩)
    (fun {U T locs cells slots v} X hv hQ hc hs hst => by
      obtain ⟨fs, hr, hrun, hended, hW, hsame⟩ := X.leave (v := v) (fun h => hv (by rw [← Bd.returns]; exact h))
      exact ⟨_, _, hst fs hr, hrun, hended, v, locs, rfl, hQ, ⟨_, rfl⟩, hW, hsame.mono hc hs⟩)
/-- the same, of a body that may intern String constants on its way -/
theorem own_bodyW {l : Launch} {Z : State} {y : MethodName} {bytes : ByteArray} {maxL : Nat} {ret : Option FieldType} {ws : List Jvm.Cond} {rm : Room} {as' : Array Value} {h0 : Heap} {Q : Option Value → Heap → List Loc → Prop} (hpl : plainFor y = true)
    (body : ∀ (p : Program) (e : Env) (s : State) (m : MethodId) (below : List Frame) (meth : Method) (c : Code) (s₁ : State) (G : State → Prop) (vm0 : Vm) (k0 : Nat),
      p.tables.exec = Jvm.exec → c.code = bytes → c.maxLocals = maxL → Z.Warmed39 vm0 → vm0.findClass y.cls = some m.cls → meth.name = y.name → meth.sig.returnType = ret → s.Since vm0 k0 → k0 ≤ h0.size →
      Stand p l e rm (s.setVm vm0) m as' below meth c s₁ [] 0 0 → s₁.heap = h0 →
      (∀ (U' : State) {U : State}, (∀ t, Steps p.tables e below U' t → Steps p.tables e below U t) → G U' → G U) →
      (∀ {U T : State} {locs : List Loc} {cells slots : Nat} {v : Option Value} {vm1 : Vm} {k1 : Nat}, Stand p l e rm (s.setVm vm1) m as' below meth c T locs cells slots → s.Since vm1 k1 → k1 ≤ T.heap.size → (ret = none → v = none) → Q v T.heap locs → cells ≤ rm.cells → slots ≤ rm.slots →
        (∀ fs, (∀ (f : JFrame) (acts : List Action), f.method = m → f.locked = none → f.entered = [] → (doReturn e (T.setTop f) acts v).1 = T.setFrames fs) → Steps p.tables e below U (T.setFrames fs)) → G U) →
      G (s₁.setTop (entryFrame m as' maxL))) :
    MetFree l y (head1 (Jvm.Cond.code y bytes maxL ret :: ws) rm) (fun a U => a = as' ∧ Z.Warmed39 U.vm ∧ U.heap = h0) (fun _ _ _ _ _ => True) (fun _ U o U' => ∃ v L, o = .returned v ∧ Q v U'.heap L ∧ ReturnedEndW U o U' L rm.cells rm.slots) := by
  refine MetFree.of_bodySF hpl hisR ?_
  intro p e s m args below meth c s₁ Bd hml0 hP hK
  obtain ⟨rfl, hZ, hh⟩ := hP
  have hnm := (name_of_methodNamed Bd.named Bd.method).1
  have X0 := Stand.of_body Bd
  exact body p e s m below meth c s₁ (fun U => ∃ s₂ o, Steps p.tables e below U s₂ ∧ s₂.status = .running ∧ Ended s₂ below o ∧ ∃ v L, o = .returned v ∧ Q v s₂.heap L ∧ ReturnedEndW s o s₂ L rm.cells rm.slots)
    s.vm h0.size Bd.exec Bd.bytes hml0 hZ (findClass_of_methodNamed Bd.named) hnm Bd.returns ((State.WarmedH.refl s).since _) (Nat.le_refl _) X0 (by rw [← hh, Bd.state]; rfl)
    (fun U' U h k => by obtain ⟨s₂, o, h1, h2⟩ := k; exact ⟨s₂, o, h _ h1, h2⟩)
    (fun {U T locs cells slots v vm1 k1} X hS hk hv hQ hc hs hst => by
      obtain ⟨fs, hr, hrun, hended, hE⟩ := X.leaveW hS hk (v := v) (fun h => hv (by rw [← Bd.returns]; exact h))
      exact ⟨_, _, hst fs hr, hrun, hended, v, locs, rfl, hQ, hE.1, hE.2.1, hE.2.2.1, hE.2.2.2.mono hc hs⟩)
theorem own_fin {z : Int32} (h : z = 1) : some (Value.int (nar .boolean z)) = some (.int 1) := by subst h; rfl
theorem own_and3 (p : Int32) : p &&& 3 = 0 ∨ p &&& 3 = 1 ∨ p &&& 3 = 2 ∨ p &&& 3 = 3 := by
  have h := c_mask p 3 2 (by decide) (by decide)
  have h4 : (p &&& 3).toInt = 0 ∨ (p &&& 3).toInt = 1 ∨ (p &&& 3).toInt = 2 ∨ (p &&& 3).toInt = 3 := by omega
  rcases h4 with h | h | h | h
  · exact Or.inl (Int32.toInt_inj.mp h)
  · exact Or.inr (Or.inl (Int32.toInt_inj.mp h))
  · exact Or.inr (Or.inr (Or.inl (Int32.toInt_inj.mp h)))
  · exact Or.inr (Or.inr (Or.inr (Int32.toInt_inj.mp h)))
theorem own_eqi {args : Array Value} {s : State} {t : Term} {n : Int32} (h : (Jvm.Cond.eq t (.int n)).value args s none s [] = some true) : t.eval args s none [] s = some (.int n) := by
  simp only [Cond.value, Term.eval] at h
  cases ht : t.eval args s none [] s with
  | none => simp [ht] at h
  | some x => cases x <;> simp [ht] at h ⊢; exact h
theorem own_irr {x : Int32} : ¬ (x < x) := by rw [Int32.lt_iff_toInt_lt]; omega
theorem own_selP {args : Array Value} {s : State} {y : MethodName} {k : Nat} (hinst : (Jvm.Cond.instanceMethod y).before args s = true) (hi : (Jvm.Cond.instantiable y.cls k).before args s = true) (hp : s.PrivateAt y) (hy : y.cls ≠ "java/lang/invoke/MethodHandle" ∧ y.cls ≠ "java/lang/invoke/VarHandle") : (Jvm.Cond.selects y.cls y y).before args s = true := by
  obtain ⟨m, meth, hn, hm, -, -⟩ := Cond.instanceMethod_spec hinst
  obtain ⟨c, kk, h1, h2, -, h4, -⟩ := Cond.instantiable_spec hi
  have hf := State.methodFound?_of_named hn hy
  have hc := findClass_of_methodNamed hn
  cases h1.symm.trans hc
  have hs := selectMethod_private (p := {}) (c := m.cls) hm (hp m meth hn hm)
  have h5 : kk.isInterface = false := by simp only [Bool.or_eq_false_iff] at h4; exact h4.1
  simp [Cond.before, Cond.holds, Cond.value, hc, hf, hn, hs, h2, h5]
theorem own_add0 (x : Int32) : x = (x + (0 : Int32)) := (Int32.add_zero x).symm
theorem own_nn (x y : Int32) (h : (x &&& (2147483647 : Int32)) = y) : ¬ (y < (0 : Int32)) := by
  subst h
  have h := c_mask x 2147483647 31 (by decide) (by decide)
  rw [Int32.lt_iff_toInt_lt]
  have e : (0 : Int32).toInt = 0 := by decide
  omega
theorem own_255 (x y : Int32) (h : ((x &&& (255 : Int32)).toUInt32.toUInt16.toUInt32.toInt32) = y) : ¬ ((255 : Int32) < y) := by
  subst h
  have h := c_mask x 255 8 (by decide) (by decide)
  have h2 := c_i2c (x &&& 255)
  rw [Int32.lt_iff_toInt_lt]
  have e : (255 : Int32).toInt = 255 := by decide
  omega
theorem own_exaP {Z : State} {h : Heap} {a : Addr} {C : String} (F : Exa Z h a C) : ∀ cell : Cell, h[a]? = some cell → cell.vm.isStatics = false := fun cell q => by
  obtain ⟨c', _, h1, -, -, h4, -⟩ := F
  cases h1.symm.trans q
  exact h4
theorem own_arvP {Z : State} {h : Heap} {a : Addr} {k : ClassId} {ty : FieldType} {z : Int32} {vs : List Value} {dv : Value} (F : Arv Z h a k ty z vs dv) : ∀ cell : Cell, h[a]? = some cell → cell.vm.isStatics = false := fun cell q => by
  obtain ⟨c', A, -⟩ := F
  cases A.1.symm.trans q
  exact A.plain
theorem own_staK {Z : State} {h h' : Heap} {ws : List Addr} {C n d : String} {v : Value} (F : Sta Z h C n d v) (K : Keep h h' ws) (q : ∀ x ∈ ws, ∀ cell : Cell, h[x]? = some cell → cell.vm.isStatics = false) : Sta Z h' C n d v := by
  obtain ⟨cf, i, k, f, st, cell, h1, h2, h3, h4, h5, h6, h7⟩ := F
  exact ⟨cf, i, k, f, st, cell, h1, h2, h3, h4, K.2.1 st cell h5 (fun hm => by rw [q st hm cell h5] at h6; cases h6), h6, h7⟩
theorem own_arr0 {args : Array Value} {s : State} {t : Term} {a : Addr} {ty : FieldType} {dv : Value} (hf : Fit s) (ev : t.eval args s none [] s = some (.ref a)) (hA : (Jvm.Cond.arrayOf t ty).value args s none s [] = some true) (hl : (Jvm.Cond.eq (.length t) (.int 0)).value args s none s [] = some true) : ∃ k, Arv s s.heap a k ty 0 [] dv := by
  obtain ⟨c, A⟩ := Arr.start ev hA
  have h0 := own_eqi hl
  obtain ⟨a', cell, e1, e2, e3⟩ := Term.length_spec h0
  cases ev.symm.trans e1
  have e4 : s.arrayAt? a = some c := Arr.fin (U := s) (Vm.Alike.refl _) A
  cases e4.symm.trans e2
  have hq : c.slots.size < 2 ^ 31 := by
    by_cases q : c.slots.size < 2 ^ 31
    · exact q
    · simp [Term.eval, ev, e4, q] at h0
  have e5 : c.slots.size.toInt32 = 0 := by injection e3 with e; exact e.symm
  exact ⟨_, Arv.start hf A hq e5 (by decide) rfl trivial⟩
theorem own_255n (x y : Int32) (h : ((x &&& (255 : Int32)).toUInt32.toUInt16.toUInt32.toInt32) = y) : ¬ ((255 : Int32) < (nar .char y)) := by
  have h1 := own_255 x y h
  have h0 := (c_i2c (x &&& 255)).2.1
  rw [h] at h0
  have h2 : (nar .char y).toInt = (y.toUInt32.toUInt16.toUInt32.toInt32).toInt := rfl
  have h3 := c_i2c y
  rw [Int32.lt_iff_toInt_lt] at *
  have e : (255 : Int32).toInt = 255 := by decide
  omega
theorem own_tri (a b : Int64) : (a < b ∧ ¬ a = b ∧ ¬ b = a ∧ ¬ b < a) ∨ (¬ a < b ∧ a = b ∧ b = a ∧ ¬ b < a) ∨ (¬ a < b ∧ ¬ a = b ∧ ¬ b = a ∧ b < a) := by
  simp only [Int64.lt_iff_toInt_lt, ← Int64.toInt_inj]
  omega
theorem pn_0 : plainName "com/example/viewsmith/viewsmith/model/NamesIsNameCharPinLaw" = true := by first | (simp [plainName, overriddenIn]; done) | decide +kernel
theorem pd_0 : parseMethodDescriptor "(C)Z" = some ⟨[.char], some .boolean⟩ := by decide +kernel
theorem d1_0 : decode prog_22_method_2_code 0 = .ok (.iload_n 0, 1) := by decide +kernel
theorem d1_1 : decode prog_22_method_2_code 1 = .ok (.bipush 97, 2) := by decide +kernel
theorem d1_3 : decode prog_22_method_2_code 3 = .ok (.if_icmp .lt 9, 3) := by decide +kernel
theorem d1_6 : decode prog_22_method_2_code 6 = .ok (.iload_n 0, 1) := by decide +kernel
theorem d1_7 : decode prog_22_method_2_code 7 = .ok (.bipush 122, 2) := by decide +kernel
theorem d1_9 : decode prog_22_method_2_code 9 = .ok (.if_icmp .le 33, 3) := by decide +kernel
theorem d1_12 : decode prog_22_method_2_code 12 = .ok (.iload_n 0, 1) := by decide +kernel
theorem d1_13 : decode prog_22_method_2_code 13 = .ok (.bipush 65, 2) := by decide +kernel
theorem d1_15 : decode prog_22_method_2_code 15 = .ok (.if_icmp .lt 9, 3) := by decide +kernel
theorem d1_18 : decode prog_22_method_2_code 18 = .ok (.iload_n 0, 1) := by decide +kernel
theorem d1_19 : decode prog_22_method_2_code 19 = .ok (.bipush 90, 2) := by decide +kernel
theorem d1_21 : decode prog_22_method_2_code 21 = .ok (.if_icmp .le 21, 3) := by decide +kernel
theorem d1_24 : decode prog_22_method_2_code 24 = .ok (.iload_n 0, 1) := by decide +kernel
theorem d1_25 : decode prog_22_method_2_code 25 = .ok (.bipush 48, 2) := by decide +kernel
theorem d1_27 : decode prog_22_method_2_code 27 = .ok (.if_icmp .lt 9, 3) := by decide +kernel
theorem d1_30 : decode prog_22_method_2_code 30 = .ok (.iload_n 0, 1) := by decide +kernel
theorem d1_31 : decode prog_22_method_2_code 31 = .ok (.bipush 57, 2) := by decide +kernel
theorem d1_33 : decode prog_22_method_2_code 33 = .ok (.if_icmp .le 9, 3) := by decide +kernel
theorem d1_36 : decode prog_22_method_2_code 36 = .ok (.iload_n 0, 1) := by decide +kernel
theorem d1_37 : decode prog_22_method_2_code 37 = .ok (.bipush 95, 2) := by decide +kernel
theorem d1_39 : decode prog_22_method_2_code 39 = .ok (.if_icmp .ne 7, 3) := by decide +kernel
theorem d1_42 : decode prog_22_method_2_code 42 = .ok (.iconst 1, 1) := by decide +kernel
theorem d1_43 : decode prog_22_method_2_code 43 = .ok (.goto 4, 3) := by decide +kernel
theorem d1_46 : decode prog_22_method_2_code 46 = .ok (.iconst 0, 1) := by decide +kernel
theorem d1_47 : decode prog_22_method_2_code 47 = .ok (.ireturn, 1) := by decide +kernel
theorem pn_1 : plainName "com/example/viewsmith/viewsmith/model/Names" = true := by first | (simp [plainName, overriddenIn]; done) | decide +kernel
theorem ef_1_1 (m : MethodId) (x0 : Int32) : entryFrame m #[(.int x0)] 1 = mkF m 0 #[.val (.int x0)] [] := by first | (simp [entryFrame, mkF, argsToLocals, Value.category]; done) | rfl
def Q1_1 (Z : State) (i1 : Int32) (h0 : Heap) (n0 : Nat) (v : Option Value) (h : Heap) (L : List Loc) : Prop := ∃ (z47_1 : Int32), v = some (.int z47_1) ∧ Fr n0 L ∧ h = h0 ∧ z47_1 = (if i1 < (97 : Int32) then (if i1 < (65 : Int32) then (if i1 < (48 : Int32) then (if i1 = (95 : Int32) then (1 : Int32) else (0 : Int32)) else (if (57 : Int32) < i1 then (if i1 = (95 : Int32) then (1 : Int32) else (0 : Int32)) else (1 : Int32))) else (if (90 : Int32) < i1 then (if i1 < (48 : Int32) then (if i1 = (95 : Int32) then (1 : Int32) else (0 : Int32)) else (if (57 : Int32) < i1 then (if i1 = (95 : Int32) then (1 : Int32) else (0 : Int32)) else (1 : Int32))) else (1 : Int32))) else (if (122 : Int32) < i1 then (if i1 < (65 : Int32) then (if i1 < (48 : Int32) then (if i1 = (95 : Int32) then (1 : Int32) else (0 : Int32)) else (if (57 : Int32) < i1 then (if i1 = (95 : Int32) then (1 : Int32) else (0 : Int32)) else (1 : Int32))) else (if (90 : Int32) < i1 then (if i1 < (48 : Int32) then (if i1 = (95 : Int32) then (1 : Int32) else (0 : Int32)) else (if (57 : Int32) < i1 then (if i1 = (95 : Int32) then (1 : Int32) else (0 : Int32)) else (1 : Int32))) else (1 : Int32))) else (1 : Int32)))
set_option maxRecDepth 65536 in
set_option maxHeartbeats 40000000 in
theorem rm1_1 (l : Launch) (Z : State) (a0 : Array Value) (hw : ∀ d ∈ tables_1, d.before a0 Z = true) (ws : List Jvm.Cond) (i1 : Int32) (h0 : Heap) (n0 : Nat) (Z0 : n0 ≤ h0.size)  :
    MetFree l (⟨"com/example/viewsmith/viewsmith/model/Names", "isNameChar", "(C)Z"⟩ : MethodName) (head1 (Jvm.Cond.code (⟨"com/example/viewsmith/viewsmith/model/Names", "isNameChar", "(C)Z"⟩ : MethodName) prog_22_method_2_code 1 (some .boolean) :: ws) ({ frames := 0, cells := 0, slots := 0, locals := 0 } : Room)) (fun a U => a = #[(.int i1)] ∧ Z.Warmed39 U.vm ∧ U.heap = h0) (fun _ _ _ _ _ => True) (fun _ U o U' => ∃ v L, o = .returned v ∧ Q1_1 Z i1 h0 n0 v U'.heap L ∧ FrameEnd U o U' L ({ frames := 0, cells := 0, slots := 0, locals := 0 } : Room).cells ({ frames := 0, cells := 0, slots := 0, locals := 0 } : Room).slots) := by
  refine own_body (plainFor_of_name pn_1) ?_
  intro p e s m below meth c s₁ G hx hby hml hZ hown hnm hret X0 e0 step fin
  replace hown : s.vm.findClass "com/example/viewsmith/viewsmith/model/Names" = some m.cls := hown
  replace hnm : meth.name = "isNameChar" := hnm
  replace hret : meth.sig.returnType = some .boolean := hret
  replace hml : c.maxLocals = 1 := hml
  have N0 := Fr.nil n0
  refine step (s₁.setTop (mkF m 0 #[.val (.int i1)] [])) (fun t k => castTop (ef_1_1 m i1) k) ?_
  refine step (s₁.setTop (mkF m 1 #[.val (.int i1)] [(.int i1)])) (fun t k => XS.iloadN X0.here hx rfl (hb hby d1_0) rfl k) ?_
  refine step (s₁.setTop (mkF m 3 #[.val (.int i1)] [(.int (97 : Int32)), (.int i1)])) (fun t k => XS.bipush X0.here hx rfl (hb hby d1_1) k) ?_
  suffices J47_2 : ∀ (z47_1 : Int32), z47_1 = (if i1 < (97 : Int32) then (if i1 < (65 : Int32) then (if i1 < (48 : Int32) then (if i1 = (95 : Int32) then (1 : Int32) else (0 : Int32)) else (if (57 : Int32) < i1 then (if i1 = (95 : Int32) then (1 : Int32) else (0 : Int32)) else (1 : Int32))) else (if (90 : Int32) < i1 then (if i1 < (48 : Int32) then (if i1 = (95 : Int32) then (1 : Int32) else (0 : Int32)) else (if (57 : Int32) < i1 then (if i1 = (95 : Int32) then (1 : Int32) else (0 : Int32)) else (1 : Int32))) else (1 : Int32))) else (if (122 : Int32) < i1 then (if i1 < (65 : Int32) then (if i1 < (48 : Int32) then (if i1 = (95 : Int32) then (1 : Int32) else (0 : Int32)) else (if (57 : Int32) < i1 then (if i1 = (95 : Int32) then (1 : Int32) else (0 : Int32)) else (1 : Int32))) else (if (90 : Int32) < i1 then (if i1 < (48 : Int32) then (if i1 = (95 : Int32) then (1 : Int32) else (0 : Int32)) else (if (57 : Int32) < i1 then (if i1 = (95 : Int32) then (1 : Int32) else (0 : Int32)) else (1 : Int32))) else (1 : Int32))) else (1 : Int32))) → G (s₁.setTop (mkF m 47 #[.val (.int i1)] [(.int z47_1)])) by
    by_cases hc3_3 : i1 < (97 : Int32)
    · -- 3 True
      refine step (s₁.setTop (mkF m 12 #[.val (.int i1)] [])) (fun t k => XS.icmpYes X0.here hx rfl (pc0 := 3) (pc' := 12) rfl (hb hby d1_3) rfl (tlt hc3_3).1 (by decide) (by decide) k) ?_
      refine step (s₁.setTop (mkF m 13 #[.val (.int i1)] [(.int i1)])) (fun t k => XS.iloadN X0.here hx rfl (hb hby d1_12) rfl k) ?_
      refine step (s₁.setTop (mkF m 15 #[.val (.int i1)] [(.int (65 : Int32)), (.int i1)])) (fun t k => XS.bipush X0.here hx rfl (hb hby d1_13) k) ?_
      by_cases hc15_4 : i1 < (65 : Int32)
      · -- 15 True
        refine step (s₁.setTop (mkF m 24 #[.val (.int i1)] [])) (fun t k => XS.icmpYes X0.here hx rfl (pc0 := 15) (pc' := 24) rfl (hb hby d1_15) rfl (tlt hc15_4).1 (by decide) (by decide) k) ?_
        refine step (s₁.setTop (mkF m 25 #[.val (.int i1)] [(.int i1)])) (fun t k => XS.iloadN X0.here hx rfl (hb hby d1_24) rfl k) ?_
        refine step (s₁.setTop (mkF m 27 #[.val (.int i1)] [(.int (48 : Int32)), (.int i1)])) (fun t k => XS.bipush X0.here hx rfl (hb hby d1_25) k) ?_
        by_cases hc27_5 : i1 < (48 : Int32)
        · -- 27 True
          refine step (s₁.setTop (mkF m 36 #[.val (.int i1)] [])) (fun t k => XS.icmpYes X0.here hx rfl (pc0 := 27) (pc' := 36) rfl (hb hby d1_27) rfl (tlt hc27_5).1 (by decide) (by decide) k) ?_
          refine step (s₁.setTop (mkF m 37 #[.val (.int i1)] [(.int i1)])) (fun t k => XS.iloadN X0.here hx rfl (hb hby d1_36) rfl k) ?_
          refine step (s₁.setTop (mkF m 39 #[.val (.int i1)] [(.int (95 : Int32)), (.int i1)])) (fun t k => XS.bipush X0.here hx rfl (hb hby d1_37) k) ?_
          by_cases hc39_6 : i1 = (95 : Int32)
          · -- 39 True
            refine step (s₁.setTop (mkF m 42 #[.val (.int i1)] [])) (fun t k => XS.icmpNo X0.here hx rfl (hb hby d1_39) rfl (teq hc39_6).2 k) ?_
            refine step (s₁.setTop (mkF m 43 #[.val (.int i1)] [(.int (1 : Int32))])) (fun t k => XS.iconst X0.here hx rfl (hb hby d1_42) k) ?_
            refine step (s₁.setTop (mkF m 47 #[.val (.int i1)] [(.int (1 : Int32))])) (fun t k => XS.goto X0.here hx rfl (pc0 := 43) (pc' := 47) rfl (hb hby d1_43) (by decide) (by decide) k) ?_
            exact J47_2 _ (by simp only [if_pos hc3_3, if_pos hc15_4, if_pos hc27_5, if_pos hc39_6, if_true, if_false])
          · -- 39 False
            refine step (s₁.setTop (mkF m 46 #[.val (.int i1)] [])) (fun t k => XS.icmpYes X0.here hx rfl (pc0 := 39) (pc' := 46) rfl (hb hby d1_39) rfl (feq hc39_6).2 (by decide) (by decide) k) ?_
            refine step (s₁.setTop (mkF m 47 #[.val (.int i1)] [(.int (0 : Int32))])) (fun t k => XS.iconst X0.here hx rfl (hb hby d1_46) k) ?_
            exact J47_2 _ (by simp only [if_pos hc3_3, if_pos hc15_4, if_pos hc27_5, if_neg hc39_6, if_true, if_false])
        · -- 27 False
          refine step (s₁.setTop (mkF m 30 #[.val (.int i1)] [])) (fun t k => XS.icmpNo X0.here hx rfl (hb hby d1_27) rfl (flt hc27_5).1 k) ?_
          refine step (s₁.setTop (mkF m 31 #[.val (.int i1)] [(.int i1)])) (fun t k => XS.iloadN X0.here hx rfl (hb hby d1_30) rfl k) ?_
          refine step (s₁.setTop (mkF m 33 #[.val (.int i1)] [(.int (57 : Int32)), (.int i1)])) (fun t k => XS.bipush X0.here hx rfl (hb hby d1_31) k) ?_
          by_cases hc33_7 : (57 : Int32) < i1
          · -- 33 True
            refine step (s₁.setTop (mkF m 36 #[.val (.int i1)] [])) (fun t k => XS.icmpNo X0.here hx rfl (hb hby d1_33) rfl (tlt hc33_7).2.2.2 k) ?_
            refine step (s₁.setTop (mkF m 37 #[.val (.int i1)] [(.int i1)])) (fun t k => XS.iloadN X0.here hx rfl (hb hby d1_36) rfl k) ?_
            refine step (s₁.setTop (mkF m 39 #[.val (.int i1)] [(.int (95 : Int32)), (.int i1)])) (fun t k => XS.bipush X0.here hx rfl (hb hby d1_37) k) ?_
            by_cases hc39_8 : i1 = (95 : Int32)
            · -- 39 True
              refine step (s₁.setTop (mkF m 42 #[.val (.int i1)] [])) (fun t k => XS.icmpNo X0.here hx rfl (hb hby d1_39) rfl (teq hc39_8).2 k) ?_
              refine step (s₁.setTop (mkF m 43 #[.val (.int i1)] [(.int (1 : Int32))])) (fun t k => XS.iconst X0.here hx rfl (hb hby d1_42) k) ?_
              refine step (s₁.setTop (mkF m 47 #[.val (.int i1)] [(.int (1 : Int32))])) (fun t k => XS.goto X0.here hx rfl (pc0 := 43) (pc' := 47) rfl (hb hby d1_43) (by decide) (by decide) k) ?_
              exact J47_2 _ (by simp only [if_pos hc3_3, if_pos hc15_4, if_neg hc27_5, if_pos hc33_7, if_pos hc39_8, if_true, if_false])
            · -- 39 False
              refine step (s₁.setTop (mkF m 46 #[.val (.int i1)] [])) (fun t k => XS.icmpYes X0.here hx rfl (pc0 := 39) (pc' := 46) rfl (hb hby d1_39) rfl (feq hc39_8).2 (by decide) (by decide) k) ?_
              refine step (s₁.setTop (mkF m 47 #[.val (.int i1)] [(.int (0 : Int32))])) (fun t k => XS.iconst X0.here hx rfl (hb hby d1_46) k) ?_
              exact J47_2 _ (by simp only [if_pos hc3_3, if_pos hc15_4, if_neg hc27_5, if_pos hc33_7, if_neg hc39_8, if_true, if_false])
          · -- 33 False
            refine step (s₁.setTop (mkF m 42 #[.val (.int i1)] [])) (fun t k => XS.icmpYes X0.here hx rfl (pc0 := 33) (pc' := 42) rfl (hb hby d1_33) rfl (flt hc33_7).2.2.2 (by decide) (by decide) k) ?_
            refine step (s₁.setTop (mkF m 43 #[.val (.int i1)] [(.int (1 : Int32))])) (fun t k => XS.iconst X0.here hx rfl (hb hby d1_42) k) ?_
            refine step (s₁.setTop (mkF m 47 #[.val (.int i1)] [(.int (1 : Int32))])) (fun t k => XS.goto X0.here hx rfl (pc0 := 43) (pc' := 47) rfl (hb hby d1_43) (by decide) (by decide) k) ?_
            exact J47_2 _ (by simp only [if_pos hc3_3, if_pos hc15_4, if_neg hc27_5, if_neg hc33_7, if_true, if_false])
      · -- 15 False
        refine step (s₁.setTop (mkF m 18 #[.val (.int i1)] [])) (fun t k => XS.icmpNo X0.here hx rfl (hb hby d1_15) rfl (flt hc15_4).1 k) ?_
        refine step (s₁.setTop (mkF m 19 #[.val (.int i1)] [(.int i1)])) (fun t k => XS.iloadN X0.here hx rfl (hb hby d1_18) rfl k) ?_
        refine step (s₁.setTop (mkF m 21 #[.val (.int i1)] [(.int (90 : Int32)), (.int i1)])) (fun t k => XS.bipush X0.here hx rfl (hb hby d1_19) k) ?_
        by_cases hc21_9 : (90 : Int32) < i1
        · -- 21 True
          refine step (s₁.setTop (mkF m 24 #[.val (.int i1)] [])) (fun t k => XS.icmpNo X0.here hx rfl (hb hby d1_21) rfl (tlt hc21_9).2.2.2 k) ?_
          refine step (s₁.setTop (mkF m 25 #[.val (.int i1)] [(.int i1)])) (fun t k => XS.iloadN X0.here hx rfl (hb hby d1_24) rfl k) ?_
          refine step (s₁.setTop (mkF m 27 #[.val (.int i1)] [(.int (48 : Int32)), (.int i1)])) (fun t k => XS.bipush X0.here hx rfl (hb hby d1_25) k) ?_
          by_cases hc27_10 : i1 < (48 : Int32)
          · -- 27 True
            refine step (s₁.setTop (mkF m 36 #[.val (.int i1)] [])) (fun t k => XS.icmpYes X0.here hx rfl (pc0 := 27) (pc' := 36) rfl (hb hby d1_27) rfl (tlt hc27_10).1 (by decide) (by decide) k) ?_
            refine step (s₁.setTop (mkF m 37 #[.val (.int i1)] [(.int i1)])) (fun t k => XS.iloadN X0.here hx rfl (hb hby d1_36) rfl k) ?_
            refine step (s₁.setTop (mkF m 39 #[.val (.int i1)] [(.int (95 : Int32)), (.int i1)])) (fun t k => XS.bipush X0.here hx rfl (hb hby d1_37) k) ?_
            by_cases hc39_11 : i1 = (95 : Int32)
            · -- 39 True
              refine step (s₁.setTop (mkF m 42 #[.val (.int i1)] [])) (fun t k => XS.icmpNo X0.here hx rfl (hb hby d1_39) rfl (teq hc39_11).2 k) ?_
              refine step (s₁.setTop (mkF m 43 #[.val (.int i1)] [(.int (1 : Int32))])) (fun t k => XS.iconst X0.here hx rfl (hb hby d1_42) k) ?_
              refine step (s₁.setTop (mkF m 47 #[.val (.int i1)] [(.int (1 : Int32))])) (fun t k => XS.goto X0.here hx rfl (pc0 := 43) (pc' := 47) rfl (hb hby d1_43) (by decide) (by decide) k) ?_
              exact J47_2 _ (by simp only [if_pos hc3_3, if_neg hc15_4, if_pos hc21_9, if_pos hc27_10, if_pos hc39_11, if_true, if_false])
            · -- 39 False
              refine step (s₁.setTop (mkF m 46 #[.val (.int i1)] [])) (fun t k => XS.icmpYes X0.here hx rfl (pc0 := 39) (pc' := 46) rfl (hb hby d1_39) rfl (feq hc39_11).2 (by decide) (by decide) k) ?_
              refine step (s₁.setTop (mkF m 47 #[.val (.int i1)] [(.int (0 : Int32))])) (fun t k => XS.iconst X0.here hx rfl (hb hby d1_46) k) ?_
              exact J47_2 _ (by simp only [if_pos hc3_3, if_neg hc15_4, if_pos hc21_9, if_pos hc27_10, if_neg hc39_11, if_true, if_false])
          · -- 27 False
            refine step (s₁.setTop (mkF m 30 #[.val (.int i1)] [])) (fun t k => XS.icmpNo X0.here hx rfl (hb hby d1_27) rfl (flt hc27_10).1 k) ?_
            refine step (s₁.setTop (mkF m 31 #[.val (.int i1)] [(.int i1)])) (fun t k => XS.iloadN X0.here hx rfl (hb hby d1_30) rfl k) ?_
            refine step (s₁.setTop (mkF m 33 #[.val (.int i1)] [(.int (57 : Int32)), (.int i1)])) (fun t k => XS.bipush X0.here hx rfl (hb hby d1_31) k) ?_
            by_cases hc33_12 : (57 : Int32) < i1
            · -- 33 True
              refine step (s₁.setTop (mkF m 36 #[.val (.int i1)] [])) (fun t k => XS.icmpNo X0.here hx rfl (hb hby d1_33) rfl (tlt hc33_12).2.2.2 k) ?_
              refine step (s₁.setTop (mkF m 37 #[.val (.int i1)] [(.int i1)])) (fun t k => XS.iloadN X0.here hx rfl (hb hby d1_36) rfl k) ?_
              refine step (s₁.setTop (mkF m 39 #[.val (.int i1)] [(.int (95 : Int32)), (.int i1)])) (fun t k => XS.bipush X0.here hx rfl (hb hby d1_37) k) ?_
              by_cases hc39_13 : i1 = (95 : Int32)
              · -- 39 True
                refine step (s₁.setTop (mkF m 42 #[.val (.int i1)] [])) (fun t k => XS.icmpNo X0.here hx rfl (hb hby d1_39) rfl (teq hc39_13).2 k) ?_
                refine step (s₁.setTop (mkF m 43 #[.val (.int i1)] [(.int (1 : Int32))])) (fun t k => XS.iconst X0.here hx rfl (hb hby d1_42) k) ?_
                refine step (s₁.setTop (mkF m 47 #[.val (.int i1)] [(.int (1 : Int32))])) (fun t k => XS.goto X0.here hx rfl (pc0 := 43) (pc' := 47) rfl (hb hby d1_43) (by decide) (by decide) k) ?_
                exact J47_2 _ (by simp only [if_pos hc3_3, if_neg hc15_4, if_pos hc21_9, if_neg hc27_10, if_pos hc33_12, if_pos hc39_13, if_true, if_false])
              · -- 39 False
                refine step (s₁.setTop (mkF m 46 #[.val (.int i1)] [])) (fun t k => XS.icmpYes X0.here hx rfl (pc0 := 39) (pc' := 46) rfl (hb hby d1_39) rfl (feq hc39_13).2 (by decide) (by decide) k) ?_
                refine step (s₁.setTop (mkF m 47 #[.val (.int i1)] [(.int (0 : Int32))])) (fun t k => XS.iconst X0.here hx rfl (hb hby d1_46) k) ?_
                exact J47_2 _ (by simp only [if_pos hc3_3, if_neg hc15_4, if_pos hc21_9, if_neg hc27_10, if_pos hc33_12, if_neg hc39_13, if_true, if_false])
            · -- 33 False
              refine step (s₁.setTop (mkF m 42 #[.val (.int i1)] [])) (fun t k => XS.icmpYes X0.here hx rfl (pc0 := 33) (pc' := 42) rfl (hb hby d1_33) rfl (flt hc33_12).2.2.2 (by decide) (by decide) k) ?_
              refine step (s₁.setTop (mkF m 43 #[.val (.int i1)] [(.int (1 : Int32))])) (fun t k => XS.iconst X0.here hx rfl (hb hby d1_42) k) ?_
              refine step (s₁.setTop (mkF m 47 #[.val (.int i1)] [(.int (1 : Int32))])) (fun t k => XS.goto X0.here hx rfl (pc0 := 43) (pc' := 47) rfl (hb hby d1_43) (by decide) (by decide) k) ?_
              exact J47_2 _ (by simp only [if_pos hc3_3, if_neg hc15_4, if_pos hc21_9, if_neg hc27_10, if_neg hc33_12, if_true, if_false])
        · -- 21 False
          refine step (s₁.setTop (mkF m 42 #[.val (.int i1)] [])) (fun t k => XS.icmpYes X0.here hx rfl (pc0 := 21) (pc' := 42) rfl (hb hby d1_21) rfl (flt hc21_9).2.2.2 (by decide) (by decide) k) ?_
          refine step (s₁.setTop (mkF m 43 #[.val (.int i1)] [(.int (1 : Int32))])) (fun t k => XS.iconst X0.here hx rfl (hb hby d1_42) k) ?_
          refine step (s₁.setTop (mkF m 47 #[.val (.int i1)] [(.int (1 : Int32))])) (fun t k => XS.goto X0.here hx rfl (pc0 := 43) (pc' := 47) rfl (hb hby d1_43) (by decide) (by decide) k) ?_
          exact J47_2 _ (by simp only [if_pos hc3_3, if_neg hc15_4, if_neg hc21_9, if_true, if_false])
    · -- 3 False
      refine step (s₁.setTop (mkF m 6 #[.val (.int i1)] [])) (fun t k => XS.icmpNo X0.here hx rfl (hb hby d1_3) rfl (flt hc3_3).1 k) ?_
      refine step (s₁.setTop (mkF m 7 #[.val (.int i1)] [(.int i1)])) (fun t k => XS.iloadN X0.here hx rfl (hb hby d1_6) rfl k) ?_
      refine step (s₁.setTop (mkF m 9 #[.val (.int i1)] [(.int (122 : Int32)), (.int i1)])) (fun t k => XS.bipush X0.here hx rfl (hb hby d1_7) k) ?_
      by_cases hc9_14 : (122 : Int32) < i1
      · -- 9 True
        refine step (s₁.setTop (mkF m 12 #[.val (.int i1)] [])) (fun t k => XS.icmpNo X0.here hx rfl (hb hby d1_9) rfl (tlt hc9_14).2.2.2 k) ?_
        refine step (s₁.setTop (mkF m 13 #[.val (.int i1)] [(.int i1)])) (fun t k => XS.iloadN X0.here hx rfl (hb hby d1_12) rfl k) ?_
        refine step (s₁.setTop (mkF m 15 #[.val (.int i1)] [(.int (65 : Int32)), (.int i1)])) (fun t k => XS.bipush X0.here hx rfl (hb hby d1_13) k) ?_
        by_cases hc15_15 : i1 < (65 : Int32)
        · -- 15 True
          refine step (s₁.setTop (mkF m 24 #[.val (.int i1)] [])) (fun t k => XS.icmpYes X0.here hx rfl (pc0 := 15) (pc' := 24) rfl (hb hby d1_15) rfl (tlt hc15_15).1 (by decide) (by decide) k) ?_
          refine step (s₁.setTop (mkF m 25 #[.val (.int i1)] [(.int i1)])) (fun t k => XS.iloadN X0.here hx rfl (hb hby d1_24) rfl k) ?_
          refine step (s₁.setTop (mkF m 27 #[.val (.int i1)] [(.int (48 : Int32)), (.int i1)])) (fun t k => XS.bipush X0.here hx rfl (hb hby d1_25) k) ?_
          by_cases hc27_16 : i1 < (48 : Int32)
          · -- 27 True
            refine step (s₁.setTop (mkF m 36 #[.val (.int i1)] [])) (fun t k => XS.icmpYes X0.here hx rfl (pc0 := 27) (pc' := 36) rfl (hb hby d1_27) rfl (tlt hc27_16).1 (by decide) (by decide) k) ?_
            refine step (s₁.setTop (mkF m 37 #[.val (.int i1)] [(.int i1)])) (fun t k => XS.iloadN X0.here hx rfl (hb hby d1_36) rfl k) ?_
            refine step (s₁.setTop (mkF m 39 #[.val (.int i1)] [(.int (95 : Int32)), (.int i1)])) (fun t k => XS.bipush X0.here hx rfl (hb hby d1_37) k) ?_
            by_cases hc39_17 : i1 = (95 : Int32)
            · -- 39 True
              refine step (s₁.setTop (mkF m 42 #[.val (.int i1)] [])) (fun t k => XS.icmpNo X0.here hx rfl (hb hby d1_39) rfl (teq hc39_17).2 k) ?_
              refine step (s₁.setTop (mkF m 43 #[.val (.int i1)] [(.int (1 : Int32))])) (fun t k => XS.iconst X0.here hx rfl (hb hby d1_42) k) ?_
              refine step (s₁.setTop (mkF m 47 #[.val (.int i1)] [(.int (1 : Int32))])) (fun t k => XS.goto X0.here hx rfl (pc0 := 43) (pc' := 47) rfl (hb hby d1_43) (by decide) (by decide) k) ?_
              exact J47_2 _ (by simp only [if_neg hc3_3, if_pos hc9_14, if_pos hc15_15, if_pos hc27_16, if_pos hc39_17, if_true, if_false])
            · -- 39 False
              refine step (s₁.setTop (mkF m 46 #[.val (.int i1)] [])) (fun t k => XS.icmpYes X0.here hx rfl (pc0 := 39) (pc' := 46) rfl (hb hby d1_39) rfl (feq hc39_17).2 (by decide) (by decide) k) ?_
              refine step (s₁.setTop (mkF m 47 #[.val (.int i1)] [(.int (0 : Int32))])) (fun t k => XS.iconst X0.here hx rfl (hb hby d1_46) k) ?_
              exact J47_2 _ (by simp only [if_neg hc3_3, if_pos hc9_14, if_pos hc15_15, if_pos hc27_16, if_neg hc39_17, if_true, if_false])
          · -- 27 False
            refine step (s₁.setTop (mkF m 30 #[.val (.int i1)] [])) (fun t k => XS.icmpNo X0.here hx rfl (hb hby d1_27) rfl (flt hc27_16).1 k) ?_
            refine step (s₁.setTop (mkF m 31 #[.val (.int i1)] [(.int i1)])) (fun t k => XS.iloadN X0.here hx rfl (hb hby d1_30) rfl k) ?_
            refine step (s₁.setTop (mkF m 33 #[.val (.int i1)] [(.int (57 : Int32)), (.int i1)])) (fun t k => XS.bipush X0.here hx rfl (hb hby d1_31) k) ?_
            by_cases hc33_18 : (57 : Int32) < i1
            · -- 33 True
              refine step (s₁.setTop (mkF m 36 #[.val (.int i1)] [])) (fun t k => XS.icmpNo X0.here hx rfl (hb hby d1_33) rfl (tlt hc33_18).2.2.2 k) ?_
              refine step (s₁.setTop (mkF m 37 #[.val (.int i1)] [(.int i1)])) (fun t k => XS.iloadN X0.here hx rfl (hb hby d1_36) rfl k) ?_
              refine step (s₁.setTop (mkF m 39 #[.val (.int i1)] [(.int (95 : Int32)), (.int i1)])) (fun t k => XS.bipush X0.here hx rfl (hb hby d1_37) k) ?_
              by_cases hc39_19 : i1 = (95 : Int32)
              · -- 39 True
                refine step (s₁.setTop (mkF m 42 #[.val (.int i1)] [])) (fun t k => XS.icmpNo X0.here hx rfl (hb hby d1_39) rfl (teq hc39_19).2 k) ?_
                refine step (s₁.setTop (mkF m 43 #[.val (.int i1)] [(.int (1 : Int32))])) (fun t k => XS.iconst X0.here hx rfl (hb hby d1_42) k) ?_
                refine step (s₁.setTop (mkF m 47 #[.val (.int i1)] [(.int (1 : Int32))])) (fun t k => XS.goto X0.here hx rfl (pc0 := 43) (pc' := 47) rfl (hb hby d1_43) (by decide) (by decide) k) ?_
                exact J47_2 _ (by simp only [if_neg hc3_3, if_pos hc9_14, if_pos hc15_15, if_neg hc27_16, if_pos hc33_18, if_pos hc39_19, if_true, if_false])
              · -- 39 False
                refine step (s₁.setTop (mkF m 46 #[.val (.int i1)] [])) (fun t k => XS.icmpYes X0.here hx rfl (pc0 := 39) (pc' := 46) rfl (hb hby d1_39) rfl (feq hc39_19).2 (by decide) (by decide) k) ?_
                refine step (s₁.setTop (mkF m 47 #[.val (.int i1)] [(.int (0 : Int32))])) (fun t k => XS.iconst X0.here hx rfl (hb hby d1_46) k) ?_
                exact J47_2 _ (by simp only [if_neg hc3_3, if_pos hc9_14, if_pos hc15_15, if_neg hc27_16, if_pos hc33_18, if_neg hc39_19, if_true, if_false])
            · -- 33 False
              refine step (s₁.setTop (mkF m 42 #[.val (.int i1)] [])) (fun t k => XS.icmpYes X0.here hx rfl (pc0 := 33) (pc' := 42) rfl (hb hby d1_33) rfl (flt hc33_18).2.2.2 (by decide) (by decide) k) ?_
              refine step (s₁.setTop (mkF m 43 #[.val (.int i1)] [(.int (1 : Int32))])) (fun t k => XS.iconst X0.here hx rfl (hb hby d1_42) k) ?_
              refine step (s₁.setTop (mkF m 47 #[.val (.int i1)] [(.int (1 : Int32))])) (fun t k => XS.goto X0.here hx rfl (pc0 := 43) (pc' := 47) rfl (hb hby d1_43) (by decide) (by decide) k) ?_
              exact J47_2 _ (by simp only [if_neg hc3_3, if_pos hc9_14, if_pos hc15_15, if_neg hc27_16, if_neg hc33_18, if_true, if_false])
        · -- 15 False
          refine step (s₁.setTop (mkF m 18 #[.val (.int i1)] [])) (fun t k => XS.icmpNo X0.here hx rfl (hb hby d1_15) rfl (flt hc15_15).1 k) ?_
          refine step (s₁.setTop (mkF m 19 #[.val (.int i1)] [(.int i1)])) (fun t k => XS.iloadN X0.here hx rfl (hb hby d1_18) rfl k) ?_
          refine step (s₁.setTop (mkF m 21 #[.val (.int i1)] [(.int (90 : Int32)), (.int i1)])) (fun t k => XS.bipush X0.here hx rfl (hb hby d1_19) k) ?_
          by_cases hc21_20 : (90 : Int32) < i1
          · -- 21 True
            refine step (s₁.setTop (mkF m 24 #[.val (.int i1)] [])) (fun t k => XS.icmpNo X0.here hx rfl (hb hby d1_21) rfl (tlt hc21_20).2.2.2 k) ?_
            refine step (s₁.setTop (mkF m 25 #[.val (.int i1)] [(.int i1)])) (fun t k => XS.iloadN X0.here hx rfl (hb hby d1_24) rfl k) ?_
            refine step (s₁.setTop (mkF m 27 #[.val (.int i1)] [(.int (48 : Int32)), (.int i1)])) (fun t k => XS.bipush X0.here hx rfl (hb hby d1_25) k) ?_
            by_cases hc27_21 : i1 < (48 : Int32)
            · -- 27 True
              refine step (s₁.setTop (mkF m 36 #[.val (.int i1)] [])) (fun t k => XS.icmpYes X0.here hx rfl (pc0 := 27) (pc' := 36) rfl (hb hby d1_27) rfl (tlt hc27_21).1 (by decide) (by decide) k) ?_
              refine step (s₁.setTop (mkF m 37 #[.val (.int i1)] [(.int i1)])) (fun t k => XS.iloadN X0.here hx rfl (hb hby d1_36) rfl k) ?_
              refine step (s₁.setTop (mkF m 39 #[.val (.int i1)] [(.int (95 : Int32)), (.int i1)])) (fun t k => XS.bipush X0.here hx rfl (hb hby d1_37) k) ?_
              by_cases hc39_22 : i1 = (95 : Int32)
              · -- 39 True
                refine step (s₁.setTop (mkF m 42 #[.val (.int i1)] [])) (fun t k => XS.icmpNo X0.here hx rfl (hb hby d1_39) rfl (teq hc39_22).2 k) ?_
                refine step (s₁.setTop (mkF m 43 #[.val (.int i1)] [(.int (1 : Int32))])) (fun t k => XS.iconst X0.here hx rfl (hb hby d1_42) k) ?_
                refine step (s₁.setTop (mkF m 47 #[.val (.int i1)] [(.int (1 : Int32))])) (fun t k => XS.goto X0.here hx rfl (pc0 := 43) (pc' := 47) rfl (hb hby d1_43) (by decide) (by decide) k) ?_
                exact J47_2 _ (by simp only [if_neg hc3_3, if_pos hc9_14, if_neg hc15_15, if_pos hc21_20, if_pos hc27_21, if_pos hc39_22, if_true, if_false])
              · -- 39 False
                refine step (s₁.setTop (mkF m 46 #[.val (.int i1)] [])) (fun t k => XS.icmpYes X0.here hx rfl (pc0 := 39) (pc' := 46) rfl (hb hby d1_39) rfl (feq hc39_22).2 (by decide) (by decide) k) ?_
                refine step (s₁.setTop (mkF m 47 #[.val (.int i1)] [(.int (0 : Int32))])) (fun t k => XS.iconst X0.here hx rfl (hb hby d1_46) k) ?_
                exact J47_2 _ (by simp only [if_neg hc3_3, if_pos hc9_14, if_neg hc15_15, if_pos hc21_20, if_pos hc27_21, if_neg hc39_22, if_true, if_false])
            · -- 27 False
              refine step (s₁.setTop (mkF m 30 #[.val (.int i1)] [])) (fun t k => XS.icmpNo X0.here hx rfl (hb hby d1_27) rfl (flt hc27_21).1 k) ?_
              refine step (s₁.setTop (mkF m 31 #[.val (.int i1)] [(.int i1)])) (fun t k => XS.iloadN X0.here hx rfl (hb hby d1_30) rfl k) ?_
              refine step (s₁.setTop (mkF m 33 #[.val (.int i1)] [(.int (57 : Int32)), (.int i1)])) (fun t k => XS.bipush X0.here hx rfl (hb hby d1_31) k) ?_
              by_cases hc33_23 : (57 : Int32) < i1
              · -- 33 True
                refine step (s₁.setTop (mkF m 36 #[.val (.int i1)] [])) (fun t k => XS.icmpNo X0.here hx rfl (hb hby d1_33) rfl (tlt hc33_23).2.2.2 k) ?_
                refine step (s₁.setTop (mkF m 37 #[.val (.int i1)] [(.int i1)])) (fun t k => XS.iloadN X0.here hx rfl (hb hby d1_36) rfl k) ?_
                refine step (s₁.setTop (mkF m 39 #[.val (.int i1)] [(.int (95 : Int32)), (.int i1)])) (fun t k => XS.bipush X0.here hx rfl (hb hby d1_37) k) ?_
                by_cases hc39_24 : i1 = (95 : Int32)
                · -- 39 True
                  refine step (s₁.setTop (mkF m 42 #[.val (.int i1)] [])) (fun t k => XS.icmpNo X0.here hx rfl (hb hby d1_39) rfl (teq hc39_24).2 k) ?_
                  refine step (s₁.setTop (mkF m 43 #[.val (.int i1)] [(.int (1 : Int32))])) (fun t k => XS.iconst X0.here hx rfl (hb hby d1_42) k) ?_
                  refine step (s₁.setTop (mkF m 47 #[.val (.int i1)] [(.int (1 : Int32))])) (fun t k => XS.goto X0.here hx rfl (pc0 := 43) (pc' := 47) rfl (hb hby d1_43) (by decide) (by decide) k) ?_
                  exact J47_2 _ (by simp only [if_neg hc3_3, if_pos hc9_14, if_neg hc15_15, if_pos hc21_20, if_neg hc27_21, if_pos hc33_23, if_pos hc39_24, if_true, if_false])
                · -- 39 False
                  refine step (s₁.setTop (mkF m 46 #[.val (.int i1)] [])) (fun t k => XS.icmpYes X0.here hx rfl (pc0 := 39) (pc' := 46) rfl (hb hby d1_39) rfl (feq hc39_24).2 (by decide) (by decide) k) ?_
                  refine step (s₁.setTop (mkF m 47 #[.val (.int i1)] [(.int (0 : Int32))])) (fun t k => XS.iconst X0.here hx rfl (hb hby d1_46) k) ?_
                  exact J47_2 _ (by simp only [if_neg hc3_3, if_pos hc9_14, if_neg hc15_15, if_pos hc21_20, if_neg hc27_21, if_pos hc33_23, if_neg hc39_24, if_true, if_false])
              · -- 33 False
                refine step (s₁.setTop (mkF m 42 #[.val (.int i1)] [])) (fun t k => XS.icmpYes X0.here hx rfl (pc0 := 33) (pc' := 42) rfl (hb hby d1_33) rfl (flt hc33_23).2.2.2 (by decide) (by decide) k) ?_
                refine step (s₁.setTop (mkF m 43 #[.val (.int i1)] [(.int (1 : Int32))])) (fun t k => XS.iconst X0.here hx rfl (hb hby d1_42) k) ?_
                refine step (s₁.setTop (mkF m 47 #[.val (.int i1)] [(.int (1 : Int32))])) (fun t k => XS.goto X0.here hx rfl (pc0 := 43) (pc' := 47) rfl (hb hby d1_43) (by decide) (by decide) k) ?_
                exact J47_2 _ (by simp only [if_neg hc3_3, if_pos hc9_14, if_neg hc15_15, if_pos hc21_20, if_neg hc27_21, if_neg hc33_23, if_true, if_false])
          · -- 21 False
            refine step (s₁.setTop (mkF m 42 #[.val (.int i1)] [])) (fun t k => XS.icmpYes X0.here hx rfl (pc0 := 21) (pc' := 42) rfl (hb hby d1_21) rfl (flt hc21_20).2.2.2 (by decide) (by decide) k) ?_
            refine step (s₁.setTop (mkF m 43 #[.val (.int i1)] [(.int (1 : Int32))])) (fun t k => XS.iconst X0.here hx rfl (hb hby d1_42) k) ?_
            refine step (s₁.setTop (mkF m 47 #[.val (.int i1)] [(.int (1 : Int32))])) (fun t k => XS.goto X0.here hx rfl (pc0 := 43) (pc' := 47) rfl (hb hby d1_43) (by decide) (by decide) k) ?_
            exact J47_2 _ (by simp only [if_neg hc3_3, if_pos hc9_14, if_neg hc15_15, if_neg hc21_20, if_true, if_false])
      · -- 9 False
        refine step (s₁.setTop (mkF m 42 #[.val (.int i1)] [])) (fun t k => XS.icmpYes X0.here hx rfl (pc0 := 9) (pc' := 42) rfl (hb hby d1_9) rfl (flt hc9_14).2.2.2 (by decide) (by decide) k) ?_
        refine step (s₁.setTop (mkF m 43 #[.val (.int i1)] [(.int (1 : Int32))])) (fun t k => XS.iconst X0.here hx rfl (hb hby d1_42) k) ?_
        refine step (s₁.setTop (mkF m 47 #[.val (.int i1)] [(.int (1 : Int32))])) (fun t k => XS.goto X0.here hx rfl (pc0 := 43) (pc' := 47) rfl (hb hby d1_43) (by decide) (by decide) k) ?_
        exact J47_2 _ (by simp only [if_neg hc3_3, if_neg hc9_14, if_true, if_false])
  intro z47_1 hz47_1
  refine fin (v := some (.int (nar .boolean z47_1))) X0 (fun h => by cases h) ?_ (by decide) (by decide) (fun fs hr => retN X0 hx (t := .boolean) hret (by simp) (hb hby d1_47) hr)
  show Q1_1 Z i1 h0 n0 (some (.int (nar .boolean z47_1))) s₁.heap _
  rw [e0]
  exact ⟨z47_1, (congrArg (fun z => some (Value.int z)) (by rw [hz47_1]; (repeat' split) <;> rfl)), N0, rfl, hz47_1⟩
theorem own_plain1 (p0 : Int32) (c0 : Int32) (lo : Int32) (z30_1 : Int32) (z55_5 : Int32) (z68_9 : Int32) (z90_12 : Int32) (z47_1_17 : Int32) (z106_18 : Int32) (hc0 : ((p0 &&& (65535 : Int32)).toUInt32.toUInt16.toUInt32.toInt32) = c0) (hlo : (c0 ||| (32 : Int32)) = lo) (hz30_1 : z30_1 = (if lo < (97 : Int32) then (0 : Int32) else (if (122 : Int32) < lo then (0 : Int32) else (1 : Int32)))) (hz55_5 : z55_5 = (if (c0 - (48 : Int32)) < (0 : Int32) then (0 : Int32) else (if (c0 - (48 : Int32)) < (10 : Int32) then (1 : Int32) else (0 : Int32)))) (hz68_9 : z68_9 = (if c0 = (95 : Int32) then (1 : Int32) else (0 : Int32))) (hz90_12 : z90_12 = (if z30_1 = (0 : Int32) then (if z55_5 = (0 : Int32) then (if z68_9 = (0 : Int32) then (0 : Int32) else (1 : Int32)) else (1 : Int32)) else (1 : Int32))) (hz47_1_17 : z47_1_17 = (if c0 < (97 : Int32) then (if c0 < (65 : Int32) then (if c0 < (48 : Int32) then (if c0 = (95 : Int32) then (1 : Int32) else (0 : Int32)) else (if (57 : Int32) < c0 then (if c0 = (95 : Int32) then (1 : Int32) else (0 : Int32)) else (1 : Int32))) else (if (90 : Int32) < c0 then (if c0 < (48 : Int32) then (if c0 = (95 : Int32) then (1 : Int32) else (0 : Int32)) else (if (57 : Int32) < c0 then (if c0 = (95 : Int32) then (1 : Int32) else (0 : Int32)) else (1 : Int32))) else (1 : Int32))) else (if (122 : Int32) < c0 then (if c0 < (65 : Int32) then (if c0 < (48 : Int32) then (if c0 = (95 : Int32) then (1 : Int32) else (0 : Int32)) else (if (57 : Int32) < c0 then (if c0 = (95 : Int32) then (1 : Int32) else (0 : Int32)) else (1 : Int32))) else (if (90 : Int32) < c0 then (if c0 < (48 : Int32) then (if c0 = (95 : Int32) then (1 : Int32) else (0 : Int32)) else (if (57 : Int32) < c0 then (if c0 = (95 : Int32) then (1 : Int32) else (0 : Int32)) else (1 : Int32))) else (1 : Int32))) else (1 : Int32)))) (hz106_18 : z106_18 = (if z47_1_17 = z90_12 then (1 : Int32) else (0 : Int32))) : z106_18 = 1 := by
  have hb := c_i2c (p0 &&& (65535 : Int32))
  rw [hc0] at hb
  obtain ⟨-, hb0, hb1⟩ := hb
  clear hc0
  by_cases hs : c0.toInt < 128
  · obtain ⟨n, hn, rfl⟩ : ∃ n : Nat, n < 128 ∧ c0 = Int32.ofNat n := ⟨c0.toInt.toNat, by omega, Int32.toInt_inj.mp (by rw [Int32.toInt_ofNat_small (by omega)]; omega)⟩
    clear hb0 hb1 hs
    subst hlo hz30_1 hz55_5 hz68_9 hz90_12 hz47_1_17 hz106_18
    revert n
    decide +kernel
  · have ho := c_or0 c0 32 hb0 (by decide)
    rw [hlo] at ho
    have hd := c_isub c0 48
    have hr := rng32 (c0 - 48)
    have e48 : (48 : Int32).toInt = 48 := by decide
    have a1 : ¬ (lo < (97 : Int32)) := by rw [Int32.lt_iff_toInt_lt, show (97 : Int32).toInt = 97 by decide]; omega
    have a2 : (122 : Int32) < lo := by rw [Int32.lt_iff_toInt_lt, show (122 : Int32).toInt = 122 by decide]; omega
    have b1 : ¬ ((c0 - (48 : Int32)) < (0 : Int32)) := by rw [Int32.lt_iff_toInt_lt, show (0 : Int32).toInt = 0 by decide]; omega
    have b2 : ¬ ((c0 - (48 : Int32)) < (10 : Int32)) := by rw [Int32.lt_iff_toInt_lt, show (10 : Int32).toInt = 10 by decide]; omega
    have c1 : ¬ (c0 = (95 : Int32)) := by rw [← Int32.toInt_inj, show (95 : Int32).toInt = 95 by decide]; omega
    have d1 : ¬ (c0 < (97 : Int32)) := by rw [Int32.lt_iff_toInt_lt, show (97 : Int32).toInt = 97 by decide]; omega
    have d2 : (122 : Int32) < c0 := by rw [Int32.lt_iff_toInt_lt, show (122 : Int32).toInt = 122 by decide]; omega
    have d3 : ¬ (c0 < (65 : Int32)) := by rw [Int32.lt_iff_toInt_lt, show (65 : Int32).toInt = 65 by decide]; omega
    have d4 : (90 : Int32) < c0 := by rw [Int32.lt_iff_toInt_lt, show (90 : Int32).toInt = 90 by decide]; omega
    have d5 : ¬ (c0 < (48 : Int32)) := by rw [Int32.lt_iff_toInt_lt, e48]; omega
    have d6 : (57 : Int32) < c0 := by rw [Int32.lt_iff_toInt_lt, show (57 : Int32).toInt = 57 by decide]; omega
    subst hz30_1 hz55_5 hz68_9 hz90_12 hz47_1_17 hz106_18
    simp only [if_neg a1, if_pos a2, if_neg b1, if_neg b2, if_neg c1, if_neg d1, if_pos d2, if_neg d3, if_pos d4, if_neg d5, if_pos d6]
    decide
theorem ef_0 (m : MethodId) (x0 : Int32) : entryFrame m #[(.int x0)] maxLocals = mkF m 0 #[.val (.int x0), .unset, .unset, .unset, .unset, .unset, .unset, .unset, .unset] [] := by first | (simp [entryFrame, mkF, argsToLocals, Value.category, maxLocals]; done) | rfl
def Q0 (Z : State) (p0 : Int32) (h0 : Heap) (n0 : Nat) (v : Option Value) (h : Heap) (L : List Loc) : Prop := v = some (.int 1) ∧ Fr n0 L
set_option maxRecDepth 65536 in
set_option maxHeartbeats 40000000 in
theorem rm0 (l : Launch) (Z : State) (a0 : Array Value) (hw : ∀ d ∈ tables_1, d.before a0 Z = true) (ws : List Jvm.Cond) (p0 : Int32) (h0 : Heap) (n0 : Nat) (Z0 : n0 ≤ h0.size)  :
    MetFree l x (head1 (Jvm.Cond.code x code maxLocals ret :: ws) room_1) (fun a U => a = #[(.int p0)] ∧ Z.Warmed39 U.vm ∧ U.heap = h0) (fun _ _ _ _ _ => True) (fun _ U o U' => ∃ v L, o = .returned v ∧ Q0 Z p0 h0 n0 v U'.heap L ∧ FrameEnd U o U' L room_1.cells room_1.slots) := by
  refine own_body (plainFor_of_name pn_0) ?_
  intro p e s m below meth c s₁ G hx hby hml hZ hown hnm hret X0 e0 step fin
  replace hown : s.vm.findClass "com/example/viewsmith/viewsmith/model/NamesIsNameCharPinLaw" = some m.cls := hown
  replace hnm : meth.name = "law" := hnm
  replace hret : meth.sig.returnType = some .boolean := hret
  replace hml : c.maxLocals = 9 := hml
  have N0 := Fr.nil n0
  refine step (s₁.setTop (mkF m 0 #[.val (.int p0), .unset, .unset, .unset, .unset, .unset, .unset, .unset, .unset] [])) (fun t k => castTop (ef_0 m p0) k) ?_
  refine step (s₁.setTop (mkF m 1 #[.val (.int p0), .unset, .unset, .unset, .unset, .unset, .unset, .unset, .unset] [(.int p0)])) (fun t k => XS.iloadN X0.here hx rfl (hb hby at_0) rfl k) ?_
  refine step (s₁.setTop (mkF m 3 #[.val (.int p0), .unset, .unset, .unset, .unset, .unset, .unset, .unset, .unset] [(.int (65535 : Int32)), (.int p0)])) (fun t k => X0.ldcInt hx hown (mvT hZ (hw _ (List.mem_of_getElem? (i := 0) rfl))) (g := (mkF m 1 #[.val (.int p0), .unset, .unset, .unset, .unset, .unset, .unset, .unset, .unset] [(.int p0)])) rfl (hb hby at_1) t k) ?_
  refine step (s₁.setTop (mkF m 4 #[.val (.int p0), .unset, .unset, .unset, .unset, .unset, .unset, .unset, .unset] [(.int (p0 &&& (65535 : Int32)))])) (fun t k => XS.iand X0.here hx rfl (hb hby at_3) rfl k) ?_
  refine step (s₁.setTop (mkF m 5 #[.val (.int p0), .unset, .unset, .unset, .unset, .unset, .unset, .unset, .unset] [(.int ((p0 &&& (65535 : Int32)).toUInt32.toUInt16.toUInt32.toInt32))])) (fun t k => XS.i2c X0.here hx rfl (hb hby at_4) rfl k) ?_
  generalize hc0 : ((p0 &&& (65535 : Int32)).toUInt32.toUInt16.toUInt32.toInt32) = c0
  refine step (s₁.setTop (mkF m 6 #[.val (.int p0), .val (.int c0), .unset, .unset, .unset, .unset, .unset, .unset, .unset] [])) (fun t k => XS.istoreN X0.here hx rfl (hb hby at_5) rfl (l' := #[.val (.int p0), .val (.int c0), .unset, .unset, .unset, .unset, .unset, .unset, .unset]) rfl k) ?_
  refine step (s₁.setTop (mkF m 7 #[.val (.int p0), .val (.int c0), .unset, .unset, .unset, .unset, .unset, .unset, .unset] [(.int c0)])) (fun t k => XS.iloadN X0.here hx rfl (hb hby at_6) rfl k) ?_
  refine step (s₁.setTop (mkF m 8 #[.val (.int p0), .val (.int c0), .val (.int c0), .unset, .unset, .unset, .unset, .unset, .unset] [])) (fun t k => XS.istoreN X0.here hx rfl (hb hby at_7) rfl (l' := #[.val (.int p0), .val (.int c0), .val (.int c0), .unset, .unset, .unset, .unset, .unset, .unset]) rfl k) ?_
  refine step (s₁.setTop (mkF m 9 #[.val (.int p0), .val (.int c0), .val (.int c0), .unset, .unset, .unset, .unset, .unset, .unset] [(.int c0)])) (fun t k => XS.iloadN X0.here hx rfl (hb hby at_8) rfl k) ?_
  refine step (s₁.setTop (mkF m 11 #[.val (.int p0), .val (.int c0), .val (.int c0), .unset, .unset, .unset, .unset, .unset, .unset] [(.int (32 : Int32)), (.int c0)])) (fun t k => XS.bipush X0.here hx rfl (hb hby at_9) k) ?_
  refine step (s₁.setTop (mkF m 12 #[.val (.int p0), .val (.int c0), .val (.int c0), .unset, .unset, .unset, .unset, .unset, .unset] [(.int (c0 ||| (32 : Int32)))])) (fun t k => XS.ior X0.here hx rfl (hb hby at_11) rfl k) ?_
  generalize hlo : (c0 ||| (32 : Int32)) = lo
  refine step (s₁.setTop (mkF m 13 #[.val (.int p0), .val (.int c0), .val (.int c0), .val (.int lo), .unset, .unset, .unset, .unset, .unset] [])) (fun t k => XS.istoreN X0.here hx rfl (hb hby at_12) rfl (l' := #[.val (.int p0), .val (.int c0), .val (.int c0), .val (.int lo), .unset, .unset, .unset, .unset, .unset]) rfl k) ?_
  refine step (s₁.setTop (mkF m 14 #[.val (.int p0), .val (.int c0), .val (.int c0), .val (.int lo), .unset, .unset, .unset, .unset, .unset] [(.int lo)])) (fun t k => XS.iloadN X0.here hx rfl (hb hby at_13) rfl k) ?_
  refine step (s₁.setTop (mkF m 16 #[.val (.int p0), .val (.int c0), .val (.int c0), .val (.int lo), .unset, .unset, .unset, .unset, .unset] [(.int (97 : Int32)), (.int lo)])) (fun t k => XS.bipush X0.here hx rfl (hb hby at_14) k) ?_
  suffices J30_2 : ∀ (z30_1 : Int32), z30_1 = (if lo < (97 : Int32) then (0 : Int32) else (if (122 : Int32) < lo then (0 : Int32) else (1 : Int32))) → G (s₁.setTop (mkF m 30 #[.val (.int p0), .val (.int c0), .val (.int c0), .val (.int lo), .unset, .unset, .unset, .unset, .unset] [(.int z30_1)])) by
    by_cases hc16_3 : lo < (97 : Int32)
    · -- 16 True
      refine step (s₁.setTop (mkF m 29 #[.val (.int p0), .val (.int c0), .val (.int c0), .val (.int lo), .unset, .unset, .unset, .unset, .unset] [])) (fun t k => XS.icmpYes X0.here hx rfl (pc0 := 16) (pc' := 29) rfl (hb hby at_16) rfl (tlt hc16_3).1 (by decide) (by decide) k) ?_
      refine step (s₁.setTop (mkF m 30 #[.val (.int p0), .val (.int c0), .val (.int c0), .val (.int lo), .unset, .unset, .unset, .unset, .unset] [(.int (0 : Int32))])) (fun t k => XS.iconst X0.here hx rfl (hb hby at_29) k) ?_
      exact J30_2 _ (by simp only [if_pos hc16_3, if_true, if_false])
    · -- 16 False
      refine step (s₁.setTop (mkF m 19 #[.val (.int p0), .val (.int c0), .val (.int c0), .val (.int lo), .unset, .unset, .unset, .unset, .unset] [])) (fun t k => XS.icmpNo X0.here hx rfl (hb hby at_16) rfl (flt hc16_3).1 k) ?_
      refine step (s₁.setTop (mkF m 20 #[.val (.int p0), .val (.int c0), .val (.int c0), .val (.int lo), .unset, .unset, .unset, .unset, .unset] [(.int lo)])) (fun t k => XS.iloadN X0.here hx rfl (hb hby at_19) rfl k) ?_
      refine step (s₁.setTop (mkF m 22 #[.val (.int p0), .val (.int c0), .val (.int c0), .val (.int lo), .unset, .unset, .unset, .unset, .unset] [(.int (122 : Int32)), (.int lo)])) (fun t k => XS.bipush X0.here hx rfl (hb hby at_20) k) ?_
      by_cases hc22_4 : (122 : Int32) < lo
      · -- 22 True
        refine step (s₁.setTop (mkF m 29 #[.val (.int p0), .val (.int c0), .val (.int c0), .val (.int lo), .unset, .unset, .unset, .unset, .unset] [])) (fun t k => XS.icmpYes X0.here hx rfl (pc0 := 22) (pc' := 29) rfl (hb hby at_22) rfl (tlt hc22_4).2.2.1 (by decide) (by decide) k) ?_
        refine step (s₁.setTop (mkF m 30 #[.val (.int p0), .val (.int c0), .val (.int c0), .val (.int lo), .unset, .unset, .unset, .unset, .unset] [(.int (0 : Int32))])) (fun t k => XS.iconst X0.here hx rfl (hb hby at_29) k) ?_
        exact J30_2 _ (by simp only [if_neg hc16_3, if_pos hc22_4, if_true, if_false])
      · -- 22 False
        refine step (s₁.setTop (mkF m 25 #[.val (.int p0), .val (.int c0), .val (.int c0), .val (.int lo), .unset, .unset, .unset, .unset, .unset] [])) (fun t k => XS.icmpNo X0.here hx rfl (hb hby at_22) rfl (flt hc22_4).2.2.1 k) ?_
        refine step (s₁.setTop (mkF m 26 #[.val (.int p0), .val (.int c0), .val (.int c0), .val (.int lo), .unset, .unset, .unset, .unset, .unset] [(.int (1 : Int32))])) (fun t k => XS.iconst X0.here hx rfl (hb hby at_25) k) ?_
        refine step (s₁.setTop (mkF m 30 #[.val (.int p0), .val (.int c0), .val (.int c0), .val (.int lo), .unset, .unset, .unset, .unset, .unset] [(.int (1 : Int32))])) (fun t k => XS.goto X0.here hx rfl (pc0 := 26) (pc' := 30) rfl (hb hby at_26) (by decide) (by decide) k) ?_
        exact J30_2 _ (by simp only [if_neg hc16_3, if_neg hc22_4, if_true, if_false])
  intro z30_1 hz30_1
  refine step (s₁.setTop (mkF m 32 #[.val (.int p0), .val (.int c0), .val (.int c0), .val (.int lo), .val (.int z30_1), .unset, .unset, .unset, .unset] [])) (fun t k => XS.istore X0.here hx rfl (hb hby at_30) rfl (l' := #[.val (.int p0), .val (.int c0), .val (.int c0), .val (.int lo), .val (.int z30_1), .unset, .unset, .unset, .unset]) rfl k) ?_
  refine step (s₁.setTop (mkF m 33 #[.val (.int p0), .val (.int c0), .val (.int c0), .val (.int lo), .val (.int z30_1), .unset, .unset, .unset, .unset] [(.int c0)])) (fun t k => XS.iloadN X0.here hx rfl (hb hby at_32) rfl k) ?_
  refine step (s₁.setTop (mkF m 35 #[.val (.int p0), .val (.int c0), .val (.int c0), .val (.int lo), .val (.int z30_1), .unset, .unset, .unset, .unset] [(.int (48 : Int32)), (.int c0)])) (fun t k => XS.bipush X0.here hx rfl (hb hby at_33) k) ?_
  refine step (s₁.setTop (mkF m 36 #[.val (.int p0), .val (.int c0), .val (.int c0), .val (.int lo), .val (.int z30_1), .unset, .unset, .unset, .unset] [(.int (c0 - (48 : Int32)))])) (fun t k => XS.isub X0.here hx rfl (hb hby at_35) rfl k) ?_
  refine step (s₁.setTop (mkF m 38 #[.val (.int p0), .val (.int c0), .val (.int c0), .val (.int lo), .val (.int z30_1), .val (.int (c0 - (48 : Int32))), .unset, .unset, .unset] [])) (fun t k => XS.istore X0.here hx rfl (hb hby at_36) rfl (l' := #[.val (.int p0), .val (.int c0), .val (.int c0), .val (.int lo), .val (.int z30_1), .val (.int (c0 - (48 : Int32))), .unset, .unset, .unset]) rfl k) ?_
  refine step (s₁.setTop (mkF m 40 #[.val (.int p0), .val (.int c0), .val (.int c0), .val (.int lo), .val (.int z30_1), .val (.int (c0 - (48 : Int32))), .unset, .unset, .unset] [(.int (c0 - (48 : Int32)))])) (fun t k => XS.iload X0.here hx rfl (hb hby at_38) rfl k) ?_
  suffices J55_6 : ∀ (z55_5 : Int32), z55_5 = (if (c0 - (48 : Int32)) < (0 : Int32) then (0 : Int32) else (if (c0 - (48 : Int32)) < (10 : Int32) then (1 : Int32) else (0 : Int32))) → G (s₁.setTop (mkF m 55 #[.val (.int p0), .val (.int c0), .val (.int c0), .val (.int lo), .val (.int z30_1), .val (.int (c0 - (48 : Int32))), .unset, .unset, .unset] [(.int z55_5)])) by
    by_cases hc40_7 : (c0 - (48 : Int32)) < (0 : Int32)
    · -- 40 True
      refine step (s₁.setTop (mkF m 54 #[.val (.int p0), .val (.int c0), .val (.int c0), .val (.int lo), .val (.int z30_1), .val (.int (c0 - (48 : Int32))), .unset, .unset, .unset] [])) (fun t k => XS.ifYes X0.here hx rfl (pc0 := 40) (pc' := 54) rfl (hb hby at_40) rfl ((if0 _ _).trans (tlt hc40_7).1) (by decide) (by decide) k) ?_
      refine step (s₁.setTop (mkF m 55 #[.val (.int p0), .val (.int c0), .val (.int c0), .val (.int lo), .val (.int z30_1), .val (.int (c0 - (48 : Int32))), .unset, .unset, .unset] [(.int (0 : Int32))])) (fun t k => XS.iconst X0.here hx rfl (hb hby at_54) k) ?_
      exact J55_6 _ (by simp only [if_pos hc40_7, if_true, if_false])
    · -- 40 False
      refine step (s₁.setTop (mkF m 43 #[.val (.int p0), .val (.int c0), .val (.int c0), .val (.int lo), .val (.int z30_1), .val (.int (c0 - (48 : Int32))), .unset, .unset, .unset] [])) (fun t k => XS.ifNo X0.here hx rfl (hb hby at_40) rfl ((if0 _ _).trans (flt hc40_7).1) k) ?_
      refine step (s₁.setTop (mkF m 45 #[.val (.int p0), .val (.int c0), .val (.int c0), .val (.int lo), .val (.int z30_1), .val (.int (c0 - (48 : Int32))), .unset, .unset, .unset] [(.int (c0 - (48 : Int32)))])) (fun t k => XS.iload X0.here hx rfl (hb hby at_43) rfl k) ?_
      refine step (s₁.setTop (mkF m 47 #[.val (.int p0), .val (.int c0), .val (.int c0), .val (.int lo), .val (.int z30_1), .val (.int (c0 - (48 : Int32))), .unset, .unset, .unset] [(.int (10 : Int32)), (.int (c0 - (48 : Int32)))])) (fun t k => XS.bipush X0.here hx rfl (hb hby at_45) k) ?_
      by_cases hc47_8 : (c0 - (48 : Int32)) < (10 : Int32)
      · -- 47 True
        refine step (s₁.setTop (mkF m 50 #[.val (.int p0), .val (.int c0), .val (.int c0), .val (.int lo), .val (.int z30_1), .val (.int (c0 - (48 : Int32))), .unset, .unset, .unset] [])) (fun t k => XS.icmpNo X0.here hx rfl (hb hby at_47) rfl (tlt hc47_8).2.1 k) ?_
        refine step (s₁.setTop (mkF m 51 #[.val (.int p0), .val (.int c0), .val (.int c0), .val (.int lo), .val (.int z30_1), .val (.int (c0 - (48 : Int32))), .unset, .unset, .unset] [(.int (1 : Int32))])) (fun t k => XS.iconst X0.here hx rfl (hb hby at_50) k) ?_
        refine step (s₁.setTop (mkF m 55 #[.val (.int p0), .val (.int c0), .val (.int c0), .val (.int lo), .val (.int z30_1), .val (.int (c0 - (48 : Int32))), .unset, .unset, .unset] [(.int (1 : Int32))])) (fun t k => XS.goto X0.here hx rfl (pc0 := 51) (pc' := 55) rfl (hb hby at_51) (by decide) (by decide) k) ?_
        exact J55_6 _ (by simp only [if_neg hc40_7, if_pos hc47_8, if_true, if_false])
      · -- 47 False
        refine step (s₁.setTop (mkF m 54 #[.val (.int p0), .val (.int c0), .val (.int c0), .val (.int lo), .val (.int z30_1), .val (.int (c0 - (48 : Int32))), .unset, .unset, .unset] [])) (fun t k => XS.icmpYes X0.here hx rfl (pc0 := 47) (pc' := 54) rfl (hb hby at_47) rfl (flt hc47_8).2.1 (by decide) (by decide) k) ?_
        refine step (s₁.setTop (mkF m 55 #[.val (.int p0), .val (.int c0), .val (.int c0), .val (.int lo), .val (.int z30_1), .val (.int (c0 - (48 : Int32))), .unset, .unset, .unset] [(.int (0 : Int32))])) (fun t k => XS.iconst X0.here hx rfl (hb hby at_54) k) ?_
        exact J55_6 _ (by simp only [if_neg hc40_7, if_neg hc47_8, if_true, if_false])
  intro z55_5 hz55_5
  refine step (s₁.setTop (mkF m 57 #[.val (.int p0), .val (.int c0), .val (.int c0), .val (.int lo), .val (.int z30_1), .val (.int (c0 - (48 : Int32))), .val (.int z55_5), .unset, .unset] [])) (fun t k => XS.istore X0.here hx rfl (hb hby at_55) rfl (l' := #[.val (.int p0), .val (.int c0), .val (.int c0), .val (.int lo), .val (.int z30_1), .val (.int (c0 - (48 : Int32))), .val (.int z55_5), .unset, .unset]) rfl k) ?_
  refine step (s₁.setTop (mkF m 58 #[.val (.int p0), .val (.int c0), .val (.int c0), .val (.int lo), .val (.int z30_1), .val (.int (c0 - (48 : Int32))), .val (.int z55_5), .unset, .unset] [(.int c0)])) (fun t k => XS.iloadN X0.here hx rfl (hb hby at_57) rfl k) ?_
  refine step (s₁.setTop (mkF m 60 #[.val (.int p0), .val (.int c0), .val (.int c0), .val (.int lo), .val (.int z30_1), .val (.int (c0 - (48 : Int32))), .val (.int z55_5), .unset, .unset] [(.int (95 : Int32)), (.int c0)])) (fun t k => XS.bipush X0.here hx rfl (hb hby at_58) k) ?_
  suffices J68_10 : ∀ (z68_9 : Int32), z68_9 = (if c0 = (95 : Int32) then (1 : Int32) else (0 : Int32)) → G (s₁.setTop (mkF m 68 #[.val (.int p0), .val (.int c0), .val (.int c0), .val (.int lo), .val (.int z30_1), .val (.int (c0 - (48 : Int32))), .val (.int z55_5), .unset, .unset] [(.int z68_9)])) by
    by_cases hc60_11 : c0 = (95 : Int32)
    · -- 60 True
      refine step (s₁.setTop (mkF m 63 #[.val (.int p0), .val (.int c0), .val (.int c0), .val (.int lo), .val (.int z30_1), .val (.int (c0 - (48 : Int32))), .val (.int z55_5), .unset, .unset] [])) (fun t k => XS.icmpNo X0.here hx rfl (hb hby at_60) rfl (teq hc60_11).2 k) ?_
      refine step (s₁.setTop (mkF m 64 #[.val (.int p0), .val (.int c0), .val (.int c0), .val (.int lo), .val (.int z30_1), .val (.int (c0 - (48 : Int32))), .val (.int z55_5), .unset, .unset] [(.int (1 : Int32))])) (fun t k => XS.iconst X0.here hx rfl (hb hby at_63) k) ?_
      refine step (s₁.setTop (mkF m 68 #[.val (.int p0), .val (.int c0), .val (.int c0), .val (.int lo), .val (.int z30_1), .val (.int (c0 - (48 : Int32))), .val (.int z55_5), .unset, .unset] [(.int (1 : Int32))])) (fun t k => XS.goto X0.here hx rfl (pc0 := 64) (pc' := 68) rfl (hb hby at_64) (by decide) (by decide) k) ?_
      exact J68_10 _ (by simp only [if_pos hc60_11, if_true, if_false])
    · -- 60 False
      refine step (s₁.setTop (mkF m 67 #[.val (.int p0), .val (.int c0), .val (.int c0), .val (.int lo), .val (.int z30_1), .val (.int (c0 - (48 : Int32))), .val (.int z55_5), .unset, .unset] [])) (fun t k => XS.icmpYes X0.here hx rfl (pc0 := 60) (pc' := 67) rfl (hb hby at_60) rfl (feq hc60_11).2 (by decide) (by decide) k) ?_
      refine step (s₁.setTop (mkF m 68 #[.val (.int p0), .val (.int c0), .val (.int c0), .val (.int lo), .val (.int z30_1), .val (.int (c0 - (48 : Int32))), .val (.int z55_5), .unset, .unset] [(.int (0 : Int32))])) (fun t k => XS.iconst X0.here hx rfl (hb hby at_67) k) ?_
      exact J68_10 _ (by simp only [if_neg hc60_11, if_true, if_false])
  intro z68_9 hz68_9
  refine step (s₁.setTop (mkF m 70 #[.val (.int p0), .val (.int c0), .val (.int c0), .val (.int lo), .val (.int z30_1), .val (.int (c0 - (48 : Int32))), .val (.int z55_5), .val (.int z68_9), .unset] [])) (fun t k => XS.istore X0.here hx rfl (hb hby at_68) rfl (l' := #[.val (.int p0), .val (.int c0), .val (.int c0), .val (.int lo), .val (.int z30_1), .val (.int (c0 - (48 : Int32))), .val (.int z55_5), .val (.int z68_9), .unset]) rfl k) ?_
  refine step (s₁.setTop (mkF m 72 #[.val (.int p0), .val (.int c0), .val (.int c0), .val (.int lo), .val (.int z30_1), .val (.int (c0 - (48 : Int32))), .val (.int z55_5), .val (.int z68_9), .unset] [(.int z30_1)])) (fun t k => XS.iload X0.here hx rfl (hb hby at_70) rfl k) ?_
  suffices J90_13 : ∀ (z90_12 : Int32), z90_12 = (if z30_1 = (0 : Int32) then (if z55_5 = (0 : Int32) then (if z68_9 = (0 : Int32) then (0 : Int32) else (1 : Int32)) else (1 : Int32)) else (1 : Int32)) → G (s₁.setTop (mkF m 90 #[.val (.int p0), .val (.int c0), .val (.int c0), .val (.int lo), .val (.int z30_1), .val (.int (c0 - (48 : Int32))), .val (.int z55_5), .val (.int z68_9), .unset] [(.int z90_12)])) by
    by_cases hc72_14 : z30_1 = (0 : Int32)
    · -- 72 True
      refine step (s₁.setTop (mkF m 75 #[.val (.int p0), .val (.int c0), .val (.int c0), .val (.int lo), .val (.int z30_1), .val (.int (c0 - (48 : Int32))), .val (.int z55_5), .val (.int z68_9), .unset] [])) (fun t k => XS.ifNo X0.here hx rfl (hb hby at_72) rfl ((if0 _ _).trans (teq hc72_14).2) k) ?_
      refine step (s₁.setTop (mkF m 77 #[.val (.int p0), .val (.int c0), .val (.int c0), .val (.int lo), .val (.int z30_1), .val (.int (c0 - (48 : Int32))), .val (.int z55_5), .val (.int z68_9), .unset] [(.int z55_5)])) (fun t k => XS.iload X0.here hx rfl (hb hby at_75) rfl k) ?_
      by_cases hc77_15 : z55_5 = (0 : Int32)
      · -- 77 True
        refine step (s₁.setTop (mkF m 80 #[.val (.int p0), .val (.int c0), .val (.int c0), .val (.int lo), .val (.int z30_1), .val (.int (c0 - (48 : Int32))), .val (.int z55_5), .val (.int z68_9), .unset] [])) (fun t k => XS.ifNo X0.here hx rfl (hb hby at_77) rfl ((if0 _ _).trans (teq hc77_15).2) k) ?_
        refine step (s₁.setTop (mkF m 82 #[.val (.int p0), .val (.int c0), .val (.int c0), .val (.int lo), .val (.int z30_1), .val (.int (c0 - (48 : Int32))), .val (.int z55_5), .val (.int z68_9), .unset] [(.int z68_9)])) (fun t k => XS.iload X0.here hx rfl (hb hby at_80) rfl k) ?_
        by_cases hc82_16 : z68_9 = (0 : Int32)
        · -- 82 True
          refine step (s₁.setTop (mkF m 89 #[.val (.int p0), .val (.int c0), .val (.int c0), .val (.int lo), .val (.int z30_1), .val (.int (c0 - (48 : Int32))), .val (.int z55_5), .val (.int z68_9), .unset] [])) (fun t k => XS.ifYes X0.here hx rfl (pc0 := 82) (pc' := 89) rfl (hb hby at_82) rfl ((if0 _ _).trans (teq hc82_16).1) (by decide) (by decide) k) ?_
          refine step (s₁.setTop (mkF m 90 #[.val (.int p0), .val (.int c0), .val (.int c0), .val (.int lo), .val (.int z30_1), .val (.int (c0 - (48 : Int32))), .val (.int z55_5), .val (.int z68_9), .unset] [(.int (0 : Int32))])) (fun t k => XS.iconst X0.here hx rfl (hb hby at_89) k) ?_
          exact J90_13 _ (by simp only [if_pos hc72_14, if_pos hc77_15, if_pos hc82_16, if_true, if_false])
        · -- 82 False
          refine step (s₁.setTop (mkF m 85 #[.val (.int p0), .val (.int c0), .val (.int c0), .val (.int lo), .val (.int z30_1), .val (.int (c0 - (48 : Int32))), .val (.int z55_5), .val (.int z68_9), .unset] [])) (fun t k => XS.ifNo X0.here hx rfl (hb hby at_82) rfl ((if0 _ _).trans (feq hc82_16).1) k) ?_
          refine step (s₁.setTop (mkF m 86 #[.val (.int p0), .val (.int c0), .val (.int c0), .val (.int lo), .val (.int z30_1), .val (.int (c0 - (48 : Int32))), .val (.int z55_5), .val (.int z68_9), .unset] [(.int (1 : Int32))])) (fun t k => XS.iconst X0.here hx rfl (hb hby at_85) k) ?_
          refine step (s₁.setTop (mkF m 90 #[.val (.int p0), .val (.int c0), .val (.int c0), .val (.int lo), .val (.int z30_1), .val (.int (c0 - (48 : Int32))), .val (.int z55_5), .val (.int z68_9), .unset] [(.int (1 : Int32))])) (fun t k => XS.goto X0.here hx rfl (pc0 := 86) (pc' := 90) rfl (hb hby at_86) (by decide) (by decide) k) ?_
          exact J90_13 _ (by simp only [if_pos hc72_14, if_pos hc77_15, if_neg hc82_16, if_true, if_false])
      · -- 77 False
        refine step (s₁.setTop (mkF m 85 #[.val (.int p0), .val (.int c0), .val (.int c0), .val (.int lo), .val (.int z30_1), .val (.int (c0 - (48 : Int32))), .val (.int z55_5), .val (.int z68_9), .unset] [])) (fun t k => XS.ifYes X0.here hx rfl (pc0 := 77) (pc' := 85) rfl (hb hby at_77) rfl ((if0 _ _).trans (feq hc77_15).2) (by decide) (by decide) k) ?_
        refine step (s₁.setTop (mkF m 86 #[.val (.int p0), .val (.int c0), .val (.int c0), .val (.int lo), .val (.int z30_1), .val (.int (c0 - (48 : Int32))), .val (.int z55_5), .val (.int z68_9), .unset] [(.int (1 : Int32))])) (fun t k => XS.iconst X0.here hx rfl (hb hby at_85) k) ?_
        refine step (s₁.setTop (mkF m 90 #[.val (.int p0), .val (.int c0), .val (.int c0), .val (.int lo), .val (.int z30_1), .val (.int (c0 - (48 : Int32))), .val (.int z55_5), .val (.int z68_9), .unset] [(.int (1 : Int32))])) (fun t k => XS.goto X0.here hx rfl (pc0 := 86) (pc' := 90) rfl (hb hby at_86) (by decide) (by decide) k) ?_
        exact J90_13 _ (by simp only [if_pos hc72_14, if_neg hc77_15, if_true, if_false])
    · -- 72 False
      refine step (s₁.setTop (mkF m 85 #[.val (.int p0), .val (.int c0), .val (.int c0), .val (.int lo), .val (.int z30_1), .val (.int (c0 - (48 : Int32))), .val (.int z55_5), .val (.int z68_9), .unset] [])) (fun t k => XS.ifYes X0.here hx rfl (pc0 := 72) (pc' := 85) rfl (hb hby at_72) rfl ((if0 _ _).trans (feq hc72_14).2) (by decide) (by decide) k) ?_
      refine step (s₁.setTop (mkF m 86 #[.val (.int p0), .val (.int c0), .val (.int c0), .val (.int lo), .val (.int z30_1), .val (.int (c0 - (48 : Int32))), .val (.int z55_5), .val (.int z68_9), .unset] [(.int (1 : Int32))])) (fun t k => XS.iconst X0.here hx rfl (hb hby at_85) k) ?_
      refine step (s₁.setTop (mkF m 90 #[.val (.int p0), .val (.int c0), .val (.int c0), .val (.int lo), .val (.int z30_1), .val (.int (c0 - (48 : Int32))), .val (.int z55_5), .val (.int z68_9), .unset] [(.int (1 : Int32))])) (fun t k => XS.goto X0.here hx rfl (pc0 := 86) (pc' := 90) rfl (hb hby at_86) (by decide) (by decide) k) ?_
      exact J90_13 _ (by simp only [if_neg hc72_14, if_true, if_false])
  intro z90_12 hz90_12
  refine step (s₁.setTop (mkF m 92 #[.val (.int p0), .val (.int c0), .val (.int c0), .val (.int lo), .val (.int z30_1), .val (.int (c0 - (48 : Int32))), .val (.int z55_5), .val (.int z68_9), .val (.int z90_12)] [])) (fun t k => XS.istore X0.here hx rfl (hb hby at_90) rfl (l' := #[.val (.int p0), .val (.int c0), .val (.int c0), .val (.int lo), .val (.int z30_1), .val (.int (c0 - (48 : Int32))), .val (.int z55_5), .val (.int z68_9), .val (.int z90_12)]) rfl k) ?_
  refine step (s₁.setTop (mkF m 93 #[.val (.int p0), .val (.int c0), .val (.int c0), .val (.int lo), .val (.int z30_1), .val (.int (c0 - (48 : Int32))), .val (.int z55_5), .val (.int z68_9), .val (.int z90_12)] [(.int c0)])) (fun t k => XS.iloadN X0.here hx rfl (hb hby at_92) rfl k) ?_
  obtain ⟨_, _, ⟨T17, L17, k17, n17⟩, -, X17, ⟨Lc17, hQ17, l17, y17, z17⟩, st17⟩ := Jvm.LawKit.callS X0 hx (y := (⟨"com/example/viewsmith/viewsmith/model/Names", "isNameChar", "(C)Z"⟩ : MethodName)) hown (mvT hZ (hw _ (List.mem_of_getElem? (i := 1) rfl))) (mvT hZ (hw _ (List.mem_of_getElem? (i := 2) rfl))) (mvT hZ (hw _ (List.mem_of_getElem? (i := 3) rfl))) (mvT hZ (hw _ (List.mem_of_getElem? (i := 4) rfl))) (by decide) (backOf (W := 0) (rm1_1 l Z a0 hw [] c0 h0 n0 Z0 ) hZ (hw _ (List.mem_of_getElem? (i := 4) rfl)) (hw _ (List.mem_of_getElem? (i := 3) rfl)) (by decide) (by decide)) (g := (mkF m 93 #[.val (.int p0), .val (.int c0), .val (.int c0), .val (.int lo), .val (.int z30_1), .val (.int (c0 - (48 : Int32))), .val (.int z55_5), .val (.int z68_9), .val (.int z90_12)] [(.int c0)])) rfl (by rw [hml]; rfl) (argsL := [(.int c0)]) (rest := []) (lenOf pd_0 rfl) rfl (by show 2 * 0 + _ ≤ _; exact Nat.le_of_eq rfl) (hb hby at_93) (fun _ _ => ⟨rfl, e0, (by decide : 0 + 0 ≤ _), (by decide : 0 + 0 ≤ _)⟩)
  dsimp only [Pt.U, Pt.locs, Pt.cells, Pt.slots] at X17 l17 y17 z17 st17 hQ17
  subst l17 y17 z17
  obtain ⟨z47_1_17, rfl, N17q, e17q, hz47_1_17⟩ := hQ17
  have N17 := Fr.app N0 N17q
  refine step (T17.setTop (mkF m 96 #[.val (.int p0), .val (.int c0), .val (.int c0), .val (.int lo), .val (.int z30_1), .val (.int (c0 - (48 : Int32))), .val (.int z55_5), .val (.int z68_9), .val (.int z90_12)] [(.int z47_1_17)])) (fun t k => st17 t k) ?_
  refine step (T17.setTop (mkF m 98 #[.val (.int p0), .val (.int c0), .val (.int c0), .val (.int lo), .val (.int z30_1), .val (.int (c0 - (48 : Int32))), .val (.int z55_5), .val (.int z68_9), .val (.int z90_12)] [(.int z90_12), (.int z47_1_17)])) (fun t k => XS.iload X17.here hx rfl (hb hby at_96) rfl k) ?_
  suffices J106_19 : ∀ (z106_18 : Int32), z106_18 = (if z47_1_17 = z90_12 then (1 : Int32) else (0 : Int32)) → G (T17.setTop (mkF m 106 #[.val (.int p0), .val (.int c0), .val (.int c0), .val (.int lo), .val (.int z30_1), .val (.int (c0 - (48 : Int32))), .val (.int z55_5), .val (.int z68_9), .val (.int z90_12)] [(.int z106_18)])) by
    by_cases hc98_20 : z47_1_17 = z90_12
    · -- 98 True
      refine step (T17.setTop (mkF m 101 #[.val (.int p0), .val (.int c0), .val (.int c0), .val (.int lo), .val (.int z30_1), .val (.int (c0 - (48 : Int32))), .val (.int z55_5), .val (.int z68_9), .val (.int z90_12)] [])) (fun t k => XS.icmpNo X17.here hx rfl (hb hby at_98) rfl (teq hc98_20).2 k) ?_
      refine step (T17.setTop (mkF m 102 #[.val (.int p0), .val (.int c0), .val (.int c0), .val (.int lo), .val (.int z30_1), .val (.int (c0 - (48 : Int32))), .val (.int z55_5), .val (.int z68_9), .val (.int z90_12)] [(.int (1 : Int32))])) (fun t k => XS.iconst X17.here hx rfl (hb hby at_101) k) ?_
      refine step (T17.setTop (mkF m 106 #[.val (.int p0), .val (.int c0), .val (.int c0), .val (.int lo), .val (.int z30_1), .val (.int (c0 - (48 : Int32))), .val (.int z55_5), .val (.int z68_9), .val (.int z90_12)] [(.int (1 : Int32))])) (fun t k => XS.goto X17.here hx rfl (pc0 := 102) (pc' := 106) rfl (hb hby at_102) (by decide) (by decide) k) ?_
      exact J106_19 _ (by simp only [if_pos hc98_20, if_true, if_false])
    · -- 98 False
      refine step (T17.setTop (mkF m 105 #[.val (.int p0), .val (.int c0), .val (.int c0), .val (.int lo), .val (.int z30_1), .val (.int (c0 - (48 : Int32))), .val (.int z55_5), .val (.int z68_9), .val (.int z90_12)] [])) (fun t k => XS.icmpYes X17.here hx rfl (pc0 := 98) (pc' := 105) rfl (hb hby at_98) rfl (feq hc98_20).2 (by decide) (by decide) k) ?_
      refine step (T17.setTop (mkF m 106 #[.val (.int p0), .val (.int c0), .val (.int c0), .val (.int lo), .val (.int z30_1), .val (.int (c0 - (48 : Int32))), .val (.int z55_5), .val (.int z68_9), .val (.int z90_12)] [(.int (0 : Int32))])) (fun t k => XS.iconst X17.here hx rfl (hb hby at_105) k) ?_
      exact J106_19 _ (by simp only [if_neg hc98_20, if_true, if_false])
  intro z106_18 hz106_18
  refine fin (v := some (.int (nar .boolean z106_18))) X17 (fun h => by cases h) ?_ (by decide) (by decide) (fun fs hr => retN X17 hx (t := .boolean) hret (by simp) (hb hby at_106) hr)
  show Q0 Z p0 h0 n0 (some (.int (nar .boolean z106_18))) T17.heap _
  rw [e17q]
  exact ⟨own_fin (own_plain1 p0 c0 lo z30_1 z55_5 z68_9 z90_12 z47_1_17 z106_18 hc0 hlo hz30_1 hz55_5 hz68_9 hz90_12 hz47_1_17 hz106_18), N17⟩
set_option maxRecDepth 65536 in
set_option maxHeartbeats 40000000 in
theorem comes_1 {Post : Tables → Env → Array Value → State → Outcome → State → Prop} (hpost : ∀ tb e args s v u, (limb_1_1.after args s (.returned v) u = true ∧ limb_1_2.after args s (.returned v) u = true ∧ True) → FrameEnd s (.returned v) u (Jvm.fieldLocs frame_1_writes args s ++ Jvm.arrayLocs frame_1_arrays args s ++ Jvm.staticLocs frame_1_statics s) 0 0 → Post tb e args s (.returned v) u) :
    ArmFor flags0 classFile x code maxLocals ret World_1 tables_1 room_1 Calls_1 rest_1 Pre_1 Post := by
  intro l hfl _ _ p e ha hc hk s m args below hf hA hF happ hP
  obtain ⟨hcalls, hrest, hpre⟩ := hP
  obtain ⟨-, -, -, hnamed, -, -, -, hat⟩ := (Spec.applies_iff hf).mp happ
  obtain ⟨hg, hn⟩ := and_e (Cond.before_iff.mp (show (Jvm.Cond.and given_1 narrow_1).before args s = true from hpre))
  obtain ⟨hcount, hr0⟩ := and_e hg
  have ha0 := hr0
  obtain ⟨w0, rfl⟩ : ∃ w0 : Value, args = #[w0] := by
    have hs : args.size = 1 := by simpa [Cond.value, given_1] using hcount
    obtain ⟨L⟩ := args
    match L, hs with
    | [w0], _ => exact ⟨w0, rfl⟩
  have hw := fun d (hd : d ∈ tables_1) => atoms_spec (ws := Jvm.Cond.code x code maxLocals ret :: tables_1) hat d (List.mem_cons_of_mem _ hd)
  have hfit : Fit s := fun {y c} hc i hi => by
    obtain ⟨ha, rfl⟩ := Array.getElem?_eq_some_iff.mp hc
    have q := List.all_eq_true.mp ((Array.all_eq_true_iff_forall_mem.mp hF) _ (Array.getElem_mem ha)) i (List.mem_range.mpr hi)
    simpa [Array.getElem?_eq_getElem hi] using q
  obtain ⟨i0, ei0⟩ := is_v ha0
  obtain rfl : w0 = (.int i0) := Option.some.inj ei0
  obtain ⟨n, o, h1, h2, h3, _, L, rfl, ⟨rfl, N⟩, hq⟩ := rm0 l s _ hw tables_1 i0 s.heap s.heap.size (Nat.le_refl _) p e ha hc hk s m _ below hf ((Spec.applies_iff_loose hf).mp happ).1 ⟨rfl, State.Warmed39.refl s, rfl⟩ trivial
  refine ⟨n, _, h1, h2, h3, hpost _ _ _ _ _ _ ⟨Cond.after_iff.mpr rfl, Cond.after_iff.mpr (eq_i res_at (Term.int_eval (1)) rfl), trivial⟩ ⟨hq.1, hq.2.1, (hq.2.2.sift fun y hy => Or.inr (N y hy)).mono (by decide) (by decide)⟩⟩
theorem main_1_1 : Claimed_1_1 := comes_1 fun _ _ _ _ _ _ h hF => ⟨h.1, hF⟩
theorem main_1_2 : Claimed_1_2 := comes_1 fun _ _ _ _ _ _ h hF => ⟨h.2.1, hF⟩
end Jvm.Pilot.@@N@@
namespace Jvm.Pilot.@@N@@
open Jvm Jvm.ClassFile Sem Op Lib Jvm.Free Jvm.Stand Jvm.Pilot.@@N@@.Jvm.D
/-! MADE BY PROGRAM (witnessworld.py) out of the Statement's table words and the real class files: 7 classes; the members and pool entries that the words name. The judged class is class 1, her method 1. -/
namespace start1
open Jvm.ClassFile
def u (s : String) : CpInfo := .utf8 (stringToUtf16 s)
/-- a pool by its gaps: so many unusable entries, then the entry; so many at the end -/
def gap : Nat → List CpInfo → List CpInfo
  | 0, r => r
  | n + 1, r => .unusable :: gap n r
def poolList (es : List (Nat × CpInfo)) (last : Nat) : List CpInfo := es.foldr (fun e r => gap e.1 (e.2 :: r)) (gap last [])
def pool (es : List (Nat × CpInfo)) (last : Nat) : Array CpInfo := ⟨poolList es last⟩
def fileOf (pool : Array CpInfo) (this : Nat) (attrs : Array Attribute := #[]) (ms : Array MethodInfo := #[]) (fl : Nat := 33) (sup : Nat := 0) (ifs : Array Nat := #[]) (fds : Array FieldInfo := #[]) : ClassFile where
  minorVersion := 0
  majorVersion := 65
  constantPool := pool
  accessFlags := fl
  thisClass := this
  superClass := sup
  interfaces := ifs
  fields := fds
  methods := ms
  attributes := attrs
def plain (name : String) (sup : Option ClassId) : Class where
  name := name
  kind := .ordinary
  loader := none
  accessFlags := 33
  super := sup
  interfaces := #[]
  cf := none
  fields := #[]
  methods := #[]
  instanceTypes := #[]
  staticTypes := #[]
  resolved := #[]
  callSites := []
  init := .initialized
  statics := none
  mirror := none

def pool0 : Array CpInfo := pool [(5, u "<init>"), (0, u "()V"), (1, .class_ 10), (1, u "java/lang/Object")] 113

def k0m0 : Method := { name := "<init>", desc := "()V", sig := { parameters := [], returnType := none }, accessFlags := 1, code := none }
/-- java/lang/Object -/
def k0 : Class := { plain "java/lang/Object" none with
  accessFlags := 33
  interfaces := #[]
  cf := some (fileOf pool0 8 #[] #[{ accessFlags := 1, nameIndex := 5, descriptorIndex := 6, attributes := #[] }] 33 0 #[] #[])
  fields := #[]
  methods := #[k0m0]
  instanceTypes := #[]
  staticTypes := #[]
  resolved := Array.replicate 124 none
  statics := none }

def pool1 : Array CpInfo := pool [(2, .class_ 4), (1, u "java/lang/Object"), (0, u "<init>"), (0, u "()V"), (0, .integer 65535), (0, .methodref 9 10), (0, .class_ 11), (0, .nameAndType 12 13), (0, u "com/example/viewsmith/viewsmith/model/Names"), (0, u "isNameChar"), (0, u "(C)Z"), (0, .class_ 15), (0, u "com/example/viewsmith/viewsmith/model/NamesIsNameCharPinLaw"), (2, u "law"), (0, u "(I)Z")] 3

def k1m0 : Method := { name := "<init>", desc := "()V", sig := { parameters := [], returnType := none }, accessFlags := 2, code := none }
def k1c1 : Code := { maxStack := 2, maxLocals := 9, code := code, exceptionTable := #[], attributes := #[] }
def k1m1 : Method := { name := "law", desc := "(I)Z", sig := { parameters := [.int], returnType := some .boolean }, accessFlags := 9, code := some k1c1 }
/-- com/example/viewsmith/viewsmith/model/NamesIsNameCharPinLaw -/
def k1 : Class := { plain "com/example/viewsmith/viewsmith/model/NamesIsNameCharPinLaw" (some 0) with
  accessFlags := 49
  interfaces := #[]
  cf := some (fileOf pool1 14 #[] #[{ accessFlags := 2, nameIndex := 5, descriptorIndex := 6, attributes := #[] }, { accessFlags := 9, nameIndex := 18, descriptorIndex := 19, attributes := #[] }] 49 2 #[] #[])
  fields := #[]
  methods := #[k1m0, k1m1]
  instanceTypes := #[]
  staticTypes := #[]
  resolved := Array.replicate 23 none
  statics := none }

def pool2 : Array CpInfo := pool [(2, .class_ 4), (1, u "java/lang/Object"), (0, u "<init>"), (0, u "()V"), (15, .class_ 24), (1, u "com/example/viewsmith/viewsmith/model/Names"), (0, u "isNameChar"), (0, u "(C)Z")] 11

def k2m0 : Method := { name := "<init>", desc := "()V", sig := { parameters := [], returnType := none }, accessFlags := 2, code := none }
def k2c1 : Code := { maxStack := 2, maxLocals := 1, code := prog_22_method_2_code, exceptionTable := #[], attributes := #[] }
def k2m1 : Method := { name := "isNameChar", desc := "(C)Z", sig := { parameters := [.char], returnType := some .boolean }, accessFlags := 9, code := some k2c1 }
/-- com/example/viewsmith/viewsmith/model/Names -/
def k2 : Class := { plain "com/example/viewsmith/viewsmith/model/Names" (some 0) with
  accessFlags := 49
  interfaces := #[]
  cf := some (fileOf pool2 22 #[] #[{ accessFlags := 2, nameIndex := 5, descriptorIndex := 6, attributes := #[] }, { accessFlags := 9, nameIndex := 25, descriptorIndex := 26, attributes := #[] }] 49 2 #[] #[])
  fields := #[]
  methods := #[k2m0, k2m1]
  instanceTypes := #[]
  staticTypes := #[]
  resolved := Array.replicate 38 none
  statics := none }

def pool3 : Array CpInfo := pool [(1, u "java/lang/Cloneable"), (0, .class_ 1), (0, u "java/lang/Object"), (0, .class_ 3)] 3

/-- java/lang/Cloneable -/
def k3 : Class := { plain "java/lang/Cloneable" (some 0) with
  accessFlags := 1537
  interfaces := #[]
  cf := some (fileOf pool3 2 #[] #[] 1537 4 #[] #[])
  fields := #[]
  methods := #[]
  instanceTypes := #[]
  staticTypes := #[]
  resolved := Array.replicate 8 none
  statics := none }

def pool4 : Array CpInfo := pool [(1, u "java/io/Serializable"), (0, .class_ 1), (0, u "java/lang/Object"), (0, .class_ 3)] 3

/-- java/io/Serializable -/
def k4 : Class := { plain "java/io/Serializable" (some 0) with
  accessFlags := 1537
  interfaces := #[]
  cf := some (fileOf pool4 2 #[] #[] 1537 4 #[] #[])
  fields := #[]
  methods := #[]
  instanceTypes := #[]
  staticTypes := #[]
  resolved := Array.replicate 8 none
  statics := none }

/-- the primitive byte -/
def k5 : Class := { plain "byte" none with kind := .primitive 'B', accessFlags := 0x411 }
/-- [B -/
def k6 : Class := { plain "[B" (some 0) with kind := .array 5 .byte, interfaces := #[3, 4], accessFlags := 1041 }

def heap : Heap := #[]
def classes : Array Class := #[k0, k1, k2, k3, k4, k5, k6]
def interned : List (Array UInt16 × Addr) := []
def slotsUsed : Nat := 0
def theMethod : MethodId := ⟨1, 1⟩
def args0 : Array Value := #[.int 5]
def aboutOver (below : List Frame) : State where
  vm := { classes := classes, interned := interned.toArray }
  heap := heap
  slotsUsed := slotsUsed
  threads := #[{ frames := .invoking theMethod args0 :: below }]
def below0 : List Frame := [.native { method := ⟨0, 0⟩, args := #[] }]
def about1 : State := aboutOver below0
def p0 : Program := .bare "" "" ""
def e0 : Env := launch0.env 0 0 0
theorem w_frames : about1.frames = Frame.invoking theMethod args0 :: below0 := rfl
set_option maxRecDepth 65536 in
theorem w_args : argsFit about1.vm theMethod args0 = true := by decide +kernel
set_option maxRecDepth 65536 in
theorem w_heap : heapFits about1 = true := by decide +kernel
set_option maxRecDepth 65536 in
theorem w_runnable : about1.curStatus? = some .runnable := by decide +kernel
set_option maxRecDepth 65536 in
theorem w_alone : about1.alone = true := by decide +kernel
set_option maxRecDepth 65536 in
theorem w_named : about1.methodNamed? x = some theMethod := by decide +kernel
set_option maxRecDepth 65536 in
theorem w_hears : about1.hears theMethod below0 = true := by decide +kernel
set_option maxRecDepth 65536 in
theorem w_ripe : about1.ripe theMethod args0 below0 = true := by decide +kernel
theorem w_running : about1.status = .running := rfl
set_option maxRecDepth 65536 in
theorem w_room : about1.hasRoom e0.platform room_1 = true :=
  launch0.hasRoom_least _ room_1 (by decide +kernel) (by decide +kernel) (by decide +kernel) (by decide +kernel) (by decide +kernel) (by decide +kernel)
theorem allAtoms_all (ts : List Jvm.Cond) (a : Array Jvm.Value) (st : Jvm.State) : (allAtoms ts).before a st = ts.all (fun c => c.before a st) := by
  induction ts with
  | nil => rfl
  | cons c t ih =>
    show (Jvm.Cond.and c (allAtoms t)).before a st = _
    rw [Jvm.Cond.before_and, ih, List.all_cons]
def words1 : List Jvm.Cond := Jvm.Cond.code x code maxLocals ret :: tables_1
/-- a 'code' word, met by the world's own term for the bytes: nothing is compared byte by byte -/
theorem code_word {y : MethodName} {bytes : ByteArray} {mx : Nat} {rt : Option FieldType} {a : Array Value} {s : State} {m : MethodId} {meth : Method} {c : Code} (h1 : s.methodNamed? y = some m) (h2 : s.vm.method? m = some meth) (h3 : meth.code = some c) (h4 : c.code = bytes)
    (h5 : (c.maxLocals == mx && c.exceptionTable.isEmpty && decide (c.maxStack ≤ mostOperands) && decide (meth.sig.returnType = rt) && !meth.locks && decide (parseMethodDescriptor y.desc = some meth.sig)) = true) : (Jvm.Cond.code y bytes mx rt).before a s = true := by
  simp only [Bool.and_eq_true, beq_iff_eq, Bool.not_eq_true', decide_eq_true_eq] at h5
  obtain ⟨⟨⟨⟨⟨g1, g2⟩, g3⟩, g4⟩, g5⟩, g6⟩ := h5
  simp [Cond.before, Cond.holds, Cond.value, h1, h2, h3, h4, g1, g2, g3, g4, g5, g6]
def isCode : Jvm.Cond → Bool
  | .code _ _ _ _ => true
  | _ => false
theorem all_split {L : List Jvm.Cond} {P : Jvm.Cond → Bool} (h1 : L.all (fun c => isCode c || P c) = true) (h2 : ∀ c ∈ L.filter isCode, P c = true) : L.all P = true := by
  refine List.all_eq_true.mpr fun c hc => ?_
  have h := List.all_eq_true.mp h1 c hc
  rcases Bool.eq_false_or_eq_true (isCode c) with hi | hi
  · exact h2 c (List.mem_filter.mpr ⟨hc, hi⟩)
  · simpa [hi] using h
set_option maxRecDepth 65536 in
theorem w_c0 : (Jvm.Cond.code x code maxLocals ret).before args0 about1 = true := code_word (m := ⟨1, 1⟩) (meth := k1m1) (c := k1c1) (by decide +kernel) rfl rfl rfl (by decide +kernel)
set_option maxRecDepth 65536 in
theorem w_c1 : (Jvm.Cond.code ({ cls := "com/example/viewsmith/viewsmith/model/Names", name := "isNameChar", desc := "(C)Z" } : Jvm.MethodName) prog_22_method_2_code (1 : Nat) (Option.some Jvm.ClassFile.FieldType.boolean)).before args0 about1 = true := code_word (m := ⟨2, 1⟩) (meth := k2m1) (c := k2c1) (by decide +kernel) rfl rfl rfl (by decide +kernel)
def codes1 : List Jvm.Cond := [Jvm.Cond.code x code maxLocals ret, Jvm.Cond.code ({ cls := "com/example/viewsmith/viewsmith/model/Names", name := "isNameChar", desc := "(C)Z" } : Jvm.MethodName) prog_22_method_2_code (1 : Nat) (Option.some Jvm.ClassFile.FieldType.boolean)]
set_option maxRecDepth 65536 in
theorem codes_eq : words1.filter isCode = codes1 := rfl
theorem w_codes : ∀ c ∈ words1.filter isCode, c.before args0 about1 = true := by
  rw [codes_eq]
  intro c hc
  simp only [codes1, List.mem_cons, List.not_mem_nil, or_false] at hc
  rcases hc with rfl | rfl
  · exact w_c0
  · exact w_c1
set_option maxRecDepth 65536 in
theorem w_t1 : words1.all (fun c => isCode c || c.before args0 about1) = true := by decide +kernel
theorem w_tables : (allAtoms (Jvm.Cond.code x code maxLocals ret :: tables_1)).before args0 about1 = true := by
  rw [allAtoms_all]
  show words1.all (fun c => c.before args0 about1) = true
  refine all_split ?_ w_codes
  rw [w_t1]
set_option maxRecDepth 65536 in
theorem w_case : (Jvm.Cond.and given_1 narrow_1).before args0 about1 = true := by decide +kernel
theorem w_applies : (headSpec (Jvm.Cond.code x code maxLocals ret :: tables_1) room_1).applies x e0.platform about1 = true :=
  (Spec.applies_iff w_frames).mpr ⟨w_running, w_runnable, w_alone, w_named, w_hears, w_ripe, w_room, w_tables⟩
theorem atStart : AtStart classFile x code maxLocals ret World_1 tables_1 room_1 Calls_1 rest_1 Pre_1 launch0 p0 e0 about1 theMethod args0 below0 :=
  ⟨lists_1, trivial, launch0.admits_env _ _ _, launch0.least_env, fairChoices_fair.cas, fairChoices_fair.clock, w_frames, w_args, w_heap, w_applies, trivial, trivial, w_case⟩
end start1
theorem witness_1 : WitnessClaimed_1 := ⟨start1.p0, start1.e0, start1.about1, start1.theMethod, start1.args0, start1.below0, start1.atStart⟩
end Jvm.Pilot.@@N@@
