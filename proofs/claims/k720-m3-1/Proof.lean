import JvmDerived
import JvmDerived.Pilot.@@N@@Statement
import JvmDerived.Pilot.@@N@@Code
set_option linter.unusedVariables false
set_option linter.unusedSimpArgs false
namespace Jvm.RoadKit
open Sem ClassFile Op Lib Jvm.Stand Jvm.Free Jvm.LawKit
section New
variable {p : Program} {l : Launch} {e : Env} {R : Room} {s : State} {m : MethodId} {args : Array Value} {below : List Frame} {meth : Method} {c : Code} {T : State} {locs : List Loc} {cells slots : Nat}
theorem retI (X : Stand p l e R s m args below meth c T locs cells slots) (hx : p.tables.exec = Jvm.exec) {pc : Nat} {Ls : Array Slot} {z : Int32} {rest : List Value} (hret : meth.sig.returnType = some .int) (hd : decode c.code pc = .ok (.ireturn, 1)) {fs : List Frame}
    (hl : ∀ (f : JFrame) (acts : List Action), f.method = m → f.locked = none → f.entered = [] → (doReturn e (T.setTop f) acts (some (.int z))).1 = T.setFrames fs) : Steps p.tables e below (T.setTop (mkF m pc Ls (.int z :: rest))) (T.setFrames fs) := by
  have hm' : T.vm.method? m = some meth := X.method'
  have hn : narrow .int (.int z) = .int z := rfl
  show Steps p.tables e below (T.setTop { method := m, pc := pc, locals := Ls, stack := _ :: rest, locked := none }) _
  jvm_step X.here [X.here.top, hx, hd, hm', hret, hn]
  first | (intro acts; rw [hl _ acts rfl rfl rfl]) | rw [hl _ _ rfl rfl rfl]
  exact Steps.refl _
end New
end Jvm.RoadKit
namespace Jvm.Pilot.@@N@@
open Jvm Jvm.ClassFile Sem Op Lib Jvm.Free Jvm.Stand Jvm.LawKit Jvm.RoadKit Bundle Jvm.Pilot.@@N@@.Jvm.D
/-- a body's contract, by a walk forwards: G U says that the run from U comes to an end that the contract allows -/
theorem own_body {l : Launch} {Z : State} {y : MethodName} {bytes : ByteArray} {maxL : Nat} {ret : Option FieldType} {ws : List Jvm.Cond} {rm : Room} {as' : Array Value} {h0 : Heap} {Q : Option Value → Heap → List Loc → Prop} (hpl : plainFor y = true)
    (body : ∀ (p : Program) (e : Env) (s : State) (m : MethodId) (below : List Frame) (meth : Method) (c : Code) (s₁ : State) (G : State → Prop),
      p.tables.exec = Jvm.exec → c.code = bytes → c.maxLocals = maxL → Z.Warmed39 s.vm → s.vm.findClass y.cls = some m.cls → meth.name = y.name → meth.sig.returnType = ret →
      Stand p l e rm s m as' below meth c s₁ [] 0 0 → s₁.heap = h0 →
      (∀ (U' : State) {U : State}, (∀ t, Steps p.tables e below U' t → Steps p.tables e below U t) → G U' → G U) →
      (∀ {U T : State} {locs : List Loc} {cells slots : Nat} {v : Option Value}, Stand p l e rm s m as' below meth c T locs cells slots → (ret = none → v = none) → Q v T.heap locs → cells ≤ rm.cells → slots ≤ rm.slots →
        (∀ fs, (∀ (f : JFrame) (acts : List Action), f.method = m → f.locked = none → f.entered = [] → (doReturn e (T.setTop f) acts v).1 = T.setFrames fs) → Steps p.tables e below U (T.setFrames fs)) → G U) →
      G (s₁.setTop (entryFrame m as' maxL))) :
    MetFree l y (head1 (Jvm.Cond.code y bytes maxL ret :: ws) rm) (fun a U => a = as' ∧ Z.Warmed39 U.vm ∧ U.heap = h0) (fun _ _ _ _ _ => True) (fun _ U o U' => ∃ v L, o = .returned v ∧ Q v U'.heap L ∧ FrameEnd U o U' L rm.cells rm.slots) := by
  refine MetFree.of_bodySF hpl hisR ?_
  intro p e s m args below meth c s₁ Bd hml0 hP hK
  obtain ⟨rfl, hZ, hh⟩ := hP
  have hnm := (name_of_methodNamed Bd.named Bd.method).1
  exact body p e s m below meth c s₁ (fun U => ∃ s₂ o, Steps p.tables e below U s₂ ∧ s₂.status = .running ∧ Ended s₂ below o ∧ ∃ v L, o = .returned v ∧ Q v s₂.heap L ∧ FrameEnd s o s₂ L rm.cells rm.slots)
    Bd.exec Bd.bytes hml0 hZ (findClass_of_methodNamed Bd.named) hnm Bd.returns (Stand.of_body Bd) (by rw [← hh, Bd.state]; rfl)
    (fun U' U h k => by obtain ⟨s₂, o, h1, h2⟩ := k; exact ⟨s₂, o, h _ h1, h2⟩)
    (fun {U T locs cells slots v} X hv hQ hc hs hst => by
      obtain ⟨fs, hr, hrun, hended, hW, hsame⟩ := X.leave (v := v) (fun h => hv (by rw [← Bd.returns]; exact h))
      exact ⟨_, _, hst fs hr, hrun, hended, v, locs, rfl, hQ, ⟨_, rfl⟩, hW, hsame.mono hc hs⟩)
/-- the same, of a body that may intern String constants on its way -/
theorem own_bodyW {l : Launch} {Z : State} {y : MethodName} {bytes : ByteArray} {maxL : Nat} {ret : Option FieldType} {ws : List Jvm.Cond} {rm : Room} {as' : Array Value} {h0 : Heap} {Q : Option Value → Heap → List Loc → Prop} (hpl : plainFor y = true)
    (body : ∀ (p : Program) (e : Env) (s : State) (m : MethodId) (below : List Frame) (meth : Method) (c : Code) (s₁ : State) (G : State → Prop) (vm0 : Vm) (k0 : Nat),
      p.tables.exec = Jvm.exec → c.code = bytes → c.maxLocals = maxL → Z.Warmed39 vm0 → vm0.findClass y.cls = some m.cls → meth.name = y.name → meth.sig.returnType = ret → s.Since vm0 k0 → k0 ≤ h0.size →
      Stand p l e rm (s.setVm vm0) m as' below meth c s₁ [] 0 0 → s₁.heap = h0 →
      (∀ (U' : State) {U : State}, (∀ t, Steps p.tables e below U' t → Steps p.tables e below U t) → G U' → G U) →
      (∀ {U T : State} {locs : List Loc} {cells slots : Nat} {v : Option Value} {vm1 : Vm} {k1 : Nat}, Stand p l e rm (s.setVm vm1) m as' below meth c T locs cells slots → s.Since vm1 k1 → k1 ≤ T.heap.size → (ret = none → v = none) → Q v T.heap locs → cells ≤ rm.cells → slots ≤ rm.slots →
        (∀ fs, (∀ (f : JFrame) (acts : List Action), f.method = m → f.locked = none → f.entered = [] → (doReturn e (T.setTop f) acts v).1 = T.setFrames fs) → Steps p.tables e below U (T.setFrames fs)) → G U) →
      G (s₁.setTop (entryFrame m as' maxL))) :
    MetFree l y (head1 (Jvm.Cond.code y bytes maxL ret :: ws) rm) (fun a U => a = as' ∧ Z.Warmed39 U.vm ∧ U.heap = h0) (fun _ _ _ _ _ => True) (fun _ U o U' => ∃ v L, o = .returned v ∧ Q v U'.heap L ∧ ReturnedEndW U o U' L rm.cells rm.slots) := by
  refine MetFree.of_bodySF hpl hisR ?_
  intro p e s m args below meth c s₁ Bd hml0 hP hK
  obtain ⟨rfl, hZ, hh⟩ := hP
  have hnm := (name_of_methodNamed Bd.named Bd.method).1
  have X0 := Stand.of_body Bd
  exact body p e s m below meth c s₁ (fun U => ∃ s₂ o, Steps p.tables e below U s₂ ∧ s₂.status = .running ∧ Ended s₂ below o ∧ ∃ v L, o = .returned v ∧ Q v s₂.heap L ∧ ReturnedEndW s o s₂ L rm.cells rm.slots)
    s.vm h0.size Bd.exec Bd.bytes hml0 hZ (findClass_of_methodNamed Bd.named) hnm Bd.returns ((State.WarmedH.refl s).since _) (Nat.le_refl _) X0 (by rw [← hh, Bd.state]; rfl)
    (fun U' U h k => by obtain ⟨s₂, o, h1, h2⟩ := k; exact ⟨s₂, o, h _ h1, h2⟩)
    (fun {U T locs cells slots v vm1 k1} X hS hk hv hQ hc hs hst => by
      obtain ⟨fs, hr, hrun, hended, hE⟩ := X.leaveW hS hk (v := v) (fun h => hv (by rw [← Bd.returns]; exact h))
      exact ⟨_, _, hst fs hr, hrun, hended, v, locs, rfl, hQ, hE.1, hE.2.1, hE.2.2.1, hE.2.2.2.mono hc hs⟩)
theorem own_fin {z : Int32} (h : z = 1) : some (Value.int (nar .boolean z)) = some (.int 1) := by subst h; rfl
theorem own_and3 (p : Int32) : p &&& 3 = 0 ∨ p &&& 3 = 1 ∨ p &&& 3 = 2 ∨ p &&& 3 = 3 := by
  have h := c_mask p 3 2 (by decide) (by decide)
  have h4 : (p &&& 3).toInt = 0 ∨ (p &&& 3).toInt = 1 ∨ (p &&& 3).toInt = 2 ∨ (p &&& 3).toInt = 3 := by omega
  rcases h4 with h | h | h | h
  · exact Or.inl (Int32.toInt_inj.mp h)
  · exact Or.inr (Or.inl (Int32.toInt_inj.mp h))
  · exact Or.inr (Or.inr (Or.inl (Int32.toInt_inj.mp h)))
  · exact Or.inr (Or.inr (Or.inr (Int32.toInt_inj.mp h)))
theorem own_eqi {args : Array Value} {s : State} {t : Term} {n : Int32} (h : (Jvm.Cond.eq t (.int n)).value args s none s [] = some true) : t.eval args s none [] s = some (.int n) := by
  simp only [Cond.value, Term.eval] at h
  cases ht : t.eval args s none [] s with
  | none => simp [ht] at h
  | some x => cases x <;> simp [ht] at h ⊢; exact h
theorem own_irr {x : Int32} : ¬ (x < x) := by rw [Int32.lt_iff_toInt_lt]; omega
theorem own_selP {args : Array Value} {s : State} {y : MethodName} {k : Nat} (hinst : (Jvm.Cond.instanceMethod y).before args s = true) (hi : (Jvm.Cond.instantiable y.cls k).before args s = true) (hp : s.PrivateAt y) (hy : y.cls ≠ "java/lang/invoke/MethodHandle" ∧ y.cls ≠ "java/lang/invoke/VarHandle") : (Jvm.Cond.selects y.cls y y).before args s = true := by
  obtain ⟨m, meth, hn, hm, -, -⟩ := Cond.instanceMethod_spec hinst
  obtain ⟨c, kk, h1, h2, -, h4, -⟩ := Cond.instantiable_spec hi
  have hf := State.methodFound?_of_named hn hy
  have hc := findClass_of_methodNamed hn
  cases h1.symm.trans hc
  have hs := selectMethod_private (p := {}) (c := m.cls) hm (hp m meth hn hm)
  have h5 : kk.isInterface = false := by simp only [Bool.or_eq_false_iff] at h4; exact h4.1
  simp [Cond.before, Cond.holds, Cond.value, hc, hf, hn, hs, h2, h5]
theorem own_add0 (x : Int32) : x = (x + (0 : Int32)) := (Int32.add_zero x).symm
theorem own_nn (x y : Int32) (h : (x &&& (2147483647 : Int32)) = y) : ¬ (y < (0 : Int32)) := by
  subst h
  have h := c_mask x 2147483647 31 (by decide) (by decide)
  rw [Int32.lt_iff_toInt_lt]
  have e : (0 : Int32).toInt = 0 := by decide
  omega
theorem own_255 (x y : Int32) (h : ((x &&& (255 : Int32)).toUInt32.toUInt16.toUInt32.toInt32) = y) : ¬ ((255 : Int32) < y) := by
  subst h
  have h := c_mask x 255 8 (by decide) (by decide)
  have h2 := c_i2c (x &&& 255)
  rw [Int32.lt_iff_toInt_lt]
  have e : (255 : Int32).toInt = 255 := by decide
  omega
theorem own_exaP {Z : State} {h : Heap} {a : Addr} {C : String} (F : Exa Z h a C) : ∀ cell : Cell, h[a]? = some cell → cell.vm.isStatics = false := fun cell q => by
  obtain ⟨c', _, h1, -, -, h4, -⟩ := F
  cases h1.symm.trans q
  exact h4
theorem own_arvP {Z : State} {h : Heap} {a : Addr} {k : ClassId} {ty : FieldType} {z : Int32} {vs : List Value} {dv : Value} (F : Arv Z h a k ty z vs dv) : ∀ cell : Cell, h[a]? = some cell → cell.vm.isStatics = false := fun cell q => by
  obtain ⟨c', A, -⟩ := F
  cases A.1.symm.trans q
  exact A.plain
theorem own_staK {Z : State} {h h' : Heap} {ws : List Addr} {C n d : String} {v : Value} (F : Sta Z h C n d v) (K : Keep h h' ws) (q : ∀ x ∈ ws, ∀ cell : Cell, h[x]? = some cell → cell.vm.isStatics = false) : Sta Z h' C n d v := by
  obtain ⟨cf, i, k, f, st, cell, h1, h2, h3, h4, h5, h6, h7⟩ := F
  exact ⟨cf, i, k, f, st, cell, h1, h2, h3, h4, K.2.1 st cell h5 (fun hm => by rw [q st hm cell h5] at h6; cases h6), h6, h7⟩
theorem own_arr0 {args : Array Value} {s : State} {t : Term} {a : Addr} {ty : FieldType} {dv : Value} (hf : Fit s) (ev : t.eval args s none [] s = some (.ref a)) (hA : (Jvm.Cond.arrayOf t ty).value args s none s [] = some true) (hl : (Jvm.Cond.eq (.length t) (.int 0)).value args s none s [] = some true) : ∃ k, Arv s s.heap a k ty 0 [] dv := by
  obtain ⟨c, A⟩ := Arr.start ev hA
  have h0 := own_eqi hl
  obtain ⟨a', cell, e1, e2, e3⟩ := Term.length_spec h0
  cases ev.symm.trans e1
  have e4 : s.arrayAt? a = some c := Arr.fin (U := s) (Vm.Alike.refl _) A
  cases e4.symm.trans e2
  have hq : c.slots.size < 2 ^ 31 := by
    by_cases q : c.slots.size < 2 ^ 31
    · exact q
    · simp [Term.eval, ev, e4, q] at h0
  have e5 : c.slots.size.toInt32 = 0 := by injection e3 with e; exact e.symm
  exact ⟨_, Arv.start hf A hq e5 (by decide) rfl trivial⟩
theorem own_255n (x y : Int32) (h : ((x &&& (255 : Int32)).toUInt32.toUInt16.toUInt32.toInt32) = y) : ¬ ((255 : Int32) < (nar .char y)) := by
  have h1 := own_255 x y h
  have h0 := (c_i2c (x &&& 255)).2.1
  rw [h] at h0
  have h2 : (nar .char y).toInt = (y.toUInt32.toUInt16.toUInt32.toInt32).toInt := rfl
  have h3 := c_i2c y
  rw [Int32.lt_iff_toInt_lt] at *
  have e : (255 : Int32).toInt = 255 := by decide
  omega
theorem own_tri (a b : Int64) : (a < b ∧ ¬ a = b ∧ ¬ b = a ∧ ¬ b < a) ∨ (¬ a < b ∧ a = b ∧ b = a ∧ ¬ b < a) ∨ (¬ a < b ∧ ¬ a = b ∧ ¬ b = a ∧ b < a) := by
  simp only [Int64.lt_iff_toInt_lt, ← Int64.toInt_inj]
  omega
def own_ap {α β : Type} (e : α) (F : α → β) : β := F e
theorem own_let {α β : Type} {z e : α} {F : α → β} {g : β} (h : z = e) (k : g = F z) : g = own_ap e F := by subst h; exact k
theorem own_getD (xs : List Int32) (n : Nat) (d : Int32) : (xs.map Value.int).getD n (.int d) = .int (xs.getD n d) := by
  simp only [List.getD_eq_getElem?_getD, List.getElem?_map]
  cases xs[n]? <;> rfl
theorem own_ge {a : Int32} (h : ¬ (a < (-1 : Int32))) (h' : ¬ (a = (-1 : Int32))) : ¬ a < 0 := by
  rw [Int32.lt_iff_toInt_lt] at *
  rw [← Int32.toInt_inj] at h'
  have e1 : (-1 : Int32).toInt = -1 := by decide
  have e2 : (0 : Int32).toInt = 0 := by decide
  omega
theorem own_pick (x a : Int32) (h : (((x &&& (7 : Int32)) % (5 : Int32)) - (1 : Int32)) = a) : ¬ (a < (-1 : Int32)) ∧ a < (4 : Int32) := by
  subst h
  have h1 := c_mask x 7 3 (by decide) (by decide)
  have h2 := c_irem (x &&& 7) 5 5 (by decide)
  have h3 := c_isub ((x &&& 7) % 5) 1
  have e1 : (-1 : Int32).toInt = -1 := by decide
  have e2 : (1 : Int32).toInt = 1 := by decide
  have e3 : (4 : Int32).toInt = 4 := by decide
  have r := rng32 ((x &&& 7) % 5 - 1)
  rw [Int32.lt_iff_toInt_lt, Int32.lt_iff_toInt_lt]
  omega
theorem own_five {q : Int32} (h : ¬ (q < (-1 : Int32)) ∧ q < (4 : Int32)) : q = -1 ∨ q = 0 ∨ q = 1 ∨ q = 2 ∨ q = 3 := by
  obtain ⟨h1, h2⟩ := h
  have e1 : (-1 : Int32).toInt = -1 := by decide
  have e3 : (4 : Int32).toInt = 4 := by decide
  rw [Int32.lt_iff_toInt_lt] at h1 h2
  have h5 : q.toInt = -1 ∨ q.toInt = 0 ∨ q.toInt = 1 ∨ q.toInt = 2 ∨ q.toInt = 3 := by omega
  rcases h5 with h | h | h | h | h
  · exact Or.inl (Int32.toInt_inj.mp h)
  · exact Or.inr (Or.inl (Int32.toInt_inj.mp h))
  · exact Or.inr (Or.inr (Or.inl (Int32.toInt_inj.mp h)))
  · exact Or.inr (Or.inr (Or.inr (Or.inl (Int32.toInt_inj.mp h))))
  · exact Or.inr (Or.inr (Or.inr (Or.inr (Int32.toInt_inj.mp h))))
theorem pn_0 : plainName "com/example/qopa/qopa/model/ModelBuilderRenumberActionsPinLaw" = true := by first | (simp [plainName, overriddenIn]; done) | decide +kernel
theorem pd_0 : parseMethodDescriptor "(I)I" = some ⟨[.int], some .int⟩ := by decide +kernel
theorem pd_1 : parseMethodDescriptor "(ZIII)V" = some ⟨[.boolean, .int, .int, .int], none⟩ := by decide +kernel
theorem pd_2 : parseMethodDescriptor "(ILcom/example/qopa/qopa/math/Rational;I)V" = some ⟨[.int, (.object "com/example/qopa/qopa/math/Rational"), .int], none⟩ := by decide +kernel
theorem pd_3 : parseMethodDescriptor "([I)V" = some ⟨[(.array .int)], none⟩ := by decide +kernel
theorem pd_4 : parseMethodDescriptor "(Lcom/example/qopa/qopa/model/Model$Kind;[ILcom/example/qopa/qopa/model/Actions;Ljava/util/Map;)Lcom/example/qopa/qopa/model/Model;" = some ⟨[(.object "com/example/qopa/qopa/model/Model$Kind"), (.array .int), (.object "com/example/qopa/qopa/model/Actions"), (.object "java/util/Map")], some (.object "com/example/qopa/qopa/model/Model")⟩ := by decide +kernel
theorem pd_5 : parseMethodDescriptor "()I" = some ⟨[], some .int⟩ := by decide +kernel
theorem pd_6 : parseMethodDescriptor "(IIIII)I" = some ⟨[.int, .int, .int, .int, .int], some .int⟩ := by decide +kernel
theorem d1_0 : decode method_2_code 0 = .ok (.iload_n 0, 1) := by decide +kernel
theorem d1_1 : decode method_2_code 1 = .ok (.bipush 7, 2) := by decide +kernel
theorem d1_3 : decode method_2_code 3 = .ok (.iand, 1) := by decide +kernel
theorem d1_4 : decode method_2_code 4 = .ok (.iconst 5, 1) := by decide +kernel
theorem d1_5 : decode method_2_code 5 = .ok (.irem, 1) := by decide +kernel
theorem d1_6 : decode method_2_code 6 = .ok (.iconst 1, 1) := by decide +kernel
theorem d1_7 : decode method_2_code 7 = .ok (.isub, 1) := by decide +kernel
theorem d1_8 : decode method_2_code 8 = .ok (.ireturn, 1) := by decide +kernel
theorem ef_1_1 (m : MethodId) (x0 : Int32) : entryFrame m #[(.int x0)] 1 = mkF m 0 #[.val (.int x0)] [] := by first | (simp [entryFrame, mkF, argsToLocals, Value.category]; done) | rfl
def Q1_1 (Z : State) (i1 : Int32) (h0 : Heap) (n0 : Nat) (v : Option Value) (h : Heap) (L : List Loc) : Prop := v = some (.int (((i1 &&& (7 : Int32)) % (5 : Int32)) - (1 : Int32))) ∧ Fr n0 L ∧ h = h0
set_option maxRecDepth 65536 in
set_option maxHeartbeats 40000000 in
theorem rm1_1 (l : Launch) (Z : State) (a0 : Array Value) (hw : ∀ d ∈ tables_1, d.before a0 Z = true) (ws : List Jvm.Cond) (i1 : Int32) (h0 : Heap) (n0 : Nat) (Z0 : n0 ≤ h0.size)  :
    MetFree l (⟨"com/example/qopa/qopa/model/ModelBuilderRenumberActionsPinLaw", "pickAction", "(I)I"⟩ : MethodName) (head1 (Jvm.Cond.code (⟨"com/example/qopa/qopa/model/ModelBuilderRenumberActionsPinLaw", "pickAction", "(I)I"⟩ : MethodName) method_2_code 1 (some .int) :: ws) ({ frames := 0, cells := 0, slots := 0, locals := 0 } : Room)) (fun a U => a = #[(.int i1)] ∧ Z.Warmed39 U.vm ∧ U.heap = h0) (fun _ _ _ _ _ => True) (fun _ U o U' => ∃ v L, o = .returned v ∧ Q1_1 Z i1 h0 n0 v U'.heap L ∧ FrameEnd U o U' L ({ frames := 0, cells := 0, slots := 0, locals := 0 } : Room).cells ({ frames := 0, cells := 0, slots := 0, locals := 0 } : Room).slots) := by
  refine own_body (plainFor_of_name pn_0) ?_
  intro p e s m below meth c s₁ G hx hby hml hZ hown hnm hret X0 e0 step fin
  replace hown : s.vm.findClass "com/example/qopa/qopa/model/ModelBuilderRenumberActionsPinLaw" = some m.cls := hown
  replace hnm : meth.name = "pickAction" := hnm
  replace hret : meth.sig.returnType = some .int := hret
  replace hml : c.maxLocals = 1 := hml
  have N0 := Fr.nil n0
  refine step (s₁.setTop (mkF m 0 #[.val (.int i1)] [])) (fun t k => castTop (ef_1_1 m i1) k) ?_
  refine step (s₁.setTop (mkF m 1 #[.val (.int i1)] [(.int i1)])) (fun t k => XS.iloadN X0.here hx rfl (hb hby d1_0) rfl k) ?_
  refine step (s₁.setTop (mkF m 3 #[.val (.int i1)] [(.int (7 : Int32)), (.int i1)])) (fun t k => XS.bipush X0.here hx rfl (hb hby d1_1) k) ?_
  refine step (s₁.setTop (mkF m 4 #[.val (.int i1)] [(.int (i1 &&& (7 : Int32)))])) (fun t k => XS.iand X0.here hx rfl (hb hby d1_3) rfl k) ?_
  refine step (s₁.setTop (mkF m 5 #[.val (.int i1)] [(.int (5 : Int32)), (.int (i1 &&& (7 : Int32)))])) (fun t k => XS.iconst X0.here hx rfl (hb hby d1_4) k) ?_
  refine step (s₁.setTop (mkF m 6 #[.val (.int i1)] [(.int ((i1 &&& (7 : Int32)) % (5 : Int32)))])) (fun t k => iremM X0 hx rfl (hb hby d1_5) rfl (by decide) k) ?_
  refine step (s₁.setTop (mkF m 7 #[.val (.int i1)] [(.int (1 : Int32)), (.int ((i1 &&& (7 : Int32)) % (5 : Int32)))])) (fun t k => XS.iconst X0.here hx rfl (hb hby d1_6) k) ?_
  refine step (s₁.setTop (mkF m 8 #[.val (.int i1)] [(.int (((i1 &&& (7 : Int32)) % (5 : Int32)) - (1 : Int32)))])) (fun t k => XS.isub X0.here hx rfl (hb hby d1_7) rfl k) ?_
  refine fin (v := some (.int (((i1 &&& (7 : Int32)) % (5 : Int32)) - (1 : Int32)))) X0 (fun h => by cases h) ?_ (by decide) (by decide) (fun fs hr => retI X0 hx hret (hb hby d1_8) hr)
  show Q1_1 Z i1 h0 n0 (some (.int (((i1 &&& (7 : Int32)) % (5 : Int32)) - (1 : Int32)))) s₁.heap _
  rw [e0]
  exact ⟨rfl, N0, rfl⟩
theorem d2_0 : decode prog_73_method_1_code 0 = .ok (.aload_n 0, 1) := by decide +kernel
theorem d2_1 : decode prog_73_method_1_code 1 = .ok (.invokespecial 3, 3) := by decide +kernel
theorem d2_4 : decode prog_73_method_1_code 4 = .ok (.aload_n 0, 1) := by decide +kernel
theorem d2_5 : decode prog_73_method_1_code 5 = .ok (.new 9, 3) := by decide +kernel
theorem d2_8 : decode prog_73_method_1_code 8 = .ok (.dup, 1) := by decide +kernel
theorem d2_9 : decode prog_73_method_1_code 9 = .ok (.invokespecial 11, 3) := by decide +kernel
theorem d2_12 : decode prog_73_method_1_code 12 = .ok (.putfield 12, 3) := by decide +kernel
theorem d2_15 : decode prog_73_method_1_code 15 = .ok (.aload_n 0, 1) := by decide +kernel
theorem d2_16 : decode prog_73_method_1_code 16 = .ok (.iload_n 1, 1) := by decide +kernel
theorem d2_17 : decode prog_73_method_1_code 17 = .ok (.putfield 18, 3) := by decide +kernel
theorem d2_20 : decode prog_73_method_1_code 20 = .ok (.aload_n 0, 1) := by decide +kernel
theorem d2_21 : decode prog_73_method_1_code 21 = .ok (.iload_n 2, 1) := by decide +kernel
theorem d2_22 : decode prog_73_method_1_code 22 = .ok (.iconst 1, 1) := by decide +kernel
theorem d2_23 : decode prog_73_method_1_code 23 = .ok (.iadd, 1) := by decide +kernel
theorem d2_24 : decode prog_73_method_1_code 24 = .ok (.newarray .int, 2) := by decide +kernel
theorem d2_26 : decode prog_73_method_1_code 26 = .ok (.putfield 22, 3) := by decide +kernel
theorem d2_29 : decode prog_73_method_1_code 29 = .ok (.aload_n 0, 1) := by decide +kernel
theorem d2_30 : decode prog_73_method_1_code 30 = .ok (.iload_n 3, 1) := by decide +kernel
theorem d2_31 : decode prog_73_method_1_code 31 = .ok (.iconst 1, 1) := by decide +kernel
theorem d2_32 : decode prog_73_method_1_code 32 = .ok (.iadd, 1) := by decide +kernel
theorem d2_33 : decode prog_73_method_1_code 33 = .ok (.newarray .int, 2) := by decide +kernel
theorem d2_35 : decode prog_73_method_1_code 35 = .ok (.putfield 26, 3) := by decide +kernel
theorem d2_38 : decode prog_73_method_1_code 38 = .ok (.aload_n 0, 1) := by decide +kernel
theorem d2_39 : decode prog_73_method_1_code 39 = .ok (.iload 4, 2) := by decide +kernel
theorem d2_41 : decode prog_73_method_1_code 41 = .ok (.newarray .int, 2) := by decide +kernel
theorem d2_43 : decode prog_73_method_1_code 43 = .ok (.putfield 29, 3) := by decide +kernel
theorem d2_46 : decode prog_73_method_1_code 46 = .ok (.aload_n 0, 1) := by decide +kernel
theorem d2_47 : decode prog_73_method_1_code 47 = .ok (.iload 4, 2) := by decide +kernel
theorem d2_49 : decode prog_73_method_1_code 49 = .ok (.anewarray 32, 3) := by decide +kernel
theorem d2_52 : decode prog_73_method_1_code 52 = .ok (.putfield 34, 3) := by decide +kernel
theorem d2_55 : decode prog_73_method_1_code 55 = .ok (.aload_n 0, 1) := by decide +kernel
theorem d2_56 : decode prog_73_method_1_code 56 = .ok (.iload_n 1, 1) := by decide +kernel
theorem d2_57 : decode prog_73_method_1_code 57 = .ok (.ifCond .eq 11, 3) := by decide +kernel
theorem d2_60 : decode prog_73_method_1_code 60 = .ok (.iload 4, 2) := by decide +kernel
theorem d2_62 : decode prog_73_method_1_code 62 = .ok (.anewarray 32, 3) := by decide +kernel
theorem d2_65 : decode prog_73_method_1_code 65 = .ok (.goto 7, 3) := by decide +kernel
theorem d2_68 : decode prog_73_method_1_code 68 = .ok (.aload_n 0, 1) := by decide +kernel
theorem d2_69 : decode prog_73_method_1_code 69 = .ok (.getfield 34, 3) := by decide +kernel
theorem d2_72 : decode prog_73_method_1_code 72 = .ok (.putfield 38, 3) := by decide +kernel
theorem d2_75 : decode prog_73_method_1_code 75 = .ok (.aload_n 0, 1) := by decide +kernel
theorem d2_76 : decode prog_73_method_1_code 76 = .ok (.iload 4, 2) := by decide +kernel
theorem d2_78 : decode prog_73_method_1_code 78 = .ok (.newarray .int, 2) := by decide +kernel
theorem d2_80 : decode prog_73_method_1_code 80 = .ok (.putfield 41, 3) := by decide +kernel
theorem d2_83 : decode prog_73_method_1_code 83 = .ok (.return_, 1) := by decide +kernel
theorem pn_1 : plainName "com/example/qopa/qopa/model/ModelBuilder" = true := by first | (simp [plainName, overriddenIn]; done) | decide +kernel
theorem pd_7 : parseMethodDescriptor "()V" = some ⟨[], none⟩ := by decide +kernel
theorem d4_0 : decode jdk_69_method_7_code 0 = .ok (.aload_n 0, 1) := by decide +kernel
theorem d4_1 : decode jdk_69_method_7_code 1 = .ok (.invokespecial 43, 3) := by decide +kernel
theorem d4_4 : decode jdk_69_method_7_code 4 = .ok (.aload_n 0, 1) := by decide +kernel
theorem d4_5 : decode jdk_69_method_7_code 5 = .ok (.ldc 92, 2) := by decide +kernel
theorem d4_7 : decode jdk_69_method_7_code 7 = .ok (.putfield 81, 3) := by decide +kernel
theorem d4_10 : decode jdk_69_method_7_code 10 = .ok (.return_, 1) := by decide +kernel
theorem pn_2 : plainName "java/util/HashMap" = true := by first | (simp [plainName, overriddenIn]; done) | decide +kernel
theorem d5_0 : decode jdk_71_method_1_code 0 = .ok (.aload_n 0, 1) := by decide +kernel
theorem d5_1 : decode jdk_71_method_1_code 1 = .ok (.invokespecial 1, 3) := by decide +kernel
theorem d5_4 : decode jdk_71_method_1_code 4 = .ok (.return_, 1) := by decide +kernel
theorem pn_3 : plainName "java/util/AbstractMap" = true := by first | (simp [plainName, overriddenIn]; done) | decide +kernel
theorem ef_5_4 (m : MethodId) (x0 : Addr) : entryFrame m #[(.ref x0)] 1 = mkF m 0 #[.val (.ref x0)] [] := by first | (simp [entryFrame, mkF, argsToLocals, Value.category]; done) | rfl
def Q5_4 (Z : State) (o1 : Addr) (h0 : Heap) (n0 : Nat) (v : Option Value) (h : Heap) (L : List Loc) : Prop := v = none ∧ Fr n0 L ∧ h = h0
set_option maxRecDepth 65536 in
set_option maxHeartbeats 40000000 in
theorem rm5_4 (l : Launch) (Z : State) (a0 : Array Value) (hw : ∀ d ∈ tables_1, d.before a0 Z = true) (ws : List Jvm.Cond) (o1 : Addr) (h0 : Heap) (n0 : Nat) (Z0 : n0 ≤ h0.size) (Pm0 : Exa Z h0 o1 "java/util/HashMap") (Pm1 : Fld Z h0 o1 "java/util/HashMap" "loadFactor" "F" (.float (0 : UInt32))) (gn_o1 : n0 ≤ o1)  :
    MetFree l (⟨"java/util/AbstractMap", "<init>", "()V"⟩ : MethodName) (head1 (Jvm.Cond.code (⟨"java/util/AbstractMap", "<init>", "()V"⟩ : MethodName) jdk_71_method_1_code 1 none :: ws) ({ frames := 1, cells := 0, slots := 0, locals := 12 } : Room)) (fun a U => a = #[(.ref o1)] ∧ Z.Warmed39 U.vm ∧ U.heap = h0) (fun _ _ _ _ _ => True) (fun _ U o U' => ∃ v L, o = .returned v ∧ Q5_4 Z o1 h0 n0 v U'.heap L ∧ FrameEnd U o U' L ({ frames := 1, cells := 0, slots := 0, locals := 12 } : Room).cells ({ frames := 1, cells := 0, slots := 0, locals := 12 } : Room).slots) := by
  refine own_body (plainFor_of_name pn_3) ?_
  intro p e s m below meth c s₁ G hx hby hml hZ hown hnm hret X0 e0 step fin
  replace hown : s.vm.findClass "java/util/AbstractMap" = some m.cls := hown
  replace hnm : meth.name = "<init>" := hnm
  replace hret : meth.sig.returnType = none := hret
  replace hml : c.maxLocals = 1 := hml
  have N0 := Fr.nil n0
  refine step (s₁.setTop (mkF m 0 #[.val (.ref o1)] [])) (fun t k => castTop (ef_5_4 m o1) k) ?_
  refine step (s₁.setTop (mkF m 1 #[.val (.ref o1)] [(.ref o1)])) (fun t k => XS.aloadN X0.here hx rfl (hb hby d5_0) rfl rfl k) ?_
  obtain ⟨T1, X1, e1, st1⟩ := initO X0 hx hZ hown (hw _ (List.mem_of_getElem? (i := 26) rfl)) (hw _ (List.mem_of_getElem? (i := 12) rfl)) (hw _ (List.mem_of_getElem? (i := 13) rfl)) e0 (g := (mkF m 1 #[.val (.ref o1)] [(.ref o1)])) rfl (by rw [hml]; rfl) rfl (hb hby d5_1) (by decide) (W := 0) (by show 2 * 0 + _ ≤ _; exact Nat.le_of_eq rfl) (by decide)
  refine step (T1.setTop (mkF m 4 #[.val (.ref o1)] [])) (fun t k => st1 t k) ?_
  refine fin (v := none) X1 (fun _ => rfl) ?_ (by decide) (by decide) (fun fs hr => X1.returnOut hx hret (hb hby d5_4) hr)
  show Q5_4 Z o1 h0 n0 (none) T1.heap _
  rw [e1]
  exact ⟨rfl, N0, rfl⟩
theorem ef_4_3 (m : MethodId) (x0 : Addr) : entryFrame m #[(.ref x0)] 1 = mkF m 0 #[.val (.ref x0)] [] := by first | (simp [entryFrame, mkF, argsToLocals, Value.category]; done) | rfl
def Q4_3 (Z : State) (o1 : Addr) (h0 : Heap) (n0 : Nat) (v : Option Value) (h : Heap) (L : List Loc) : Prop := v = none ∧ Fr n0 L ∧ Keep h0 h [o1] ∧ Fld Z h o1 "java/util/HashMap" "loadFactor" "F" (.float (1061158912 : UInt32))
set_option maxRecDepth 65536 in
set_option maxHeartbeats 40000000 in
theorem rm4_3 (l : Launch) (Z : State) (a0 : Array Value) (hw : ∀ d ∈ tables_1, d.before a0 Z = true) (ws : List Jvm.Cond) (o1 : Addr) (h0 : Heap) (n0 : Nat) (Z0 : n0 ≤ h0.size) (Pm0 : Exa Z h0 o1 "java/util/HashMap") (Pm1 : Fld Z h0 o1 "java/util/HashMap" "loadFactor" "F" (.float (0 : UInt32))) (gn_o1 : n0 ≤ o1)  :
    MetFree l (⟨"java/util/HashMap", "<init>", "()V"⟩ : MethodName) (head1 (Jvm.Cond.code (⟨"java/util/HashMap", "<init>", "()V"⟩ : MethodName) jdk_69_method_7_code 1 none :: ws) ({ frames := 2, cells := 0, slots := 0, locals := 24 } : Room)) (fun a U => a = #[(.ref o1)] ∧ Z.Warmed39 U.vm ∧ U.heap = h0) (fun _ _ _ _ _ => True) (fun _ U o U' => ∃ v L, o = .returned v ∧ Q4_3 Z o1 h0 n0 v U'.heap L ∧ FrameEnd U o U' L ({ frames := 2, cells := 0, slots := 0, locals := 24 } : Room).cells ({ frames := 2, cells := 0, slots := 0, locals := 24 } : Room).slots) := by
  refine own_body (plainFor_of_name pn_2) ?_
  intro p e s m below meth c s₁ G hx hby hml hZ hown hnm hret X0 e0 step fin
  replace hown : s.vm.findClass "java/util/HashMap" = some m.cls := hown
  replace hnm : meth.name = "<init>" := hnm
  replace hret : meth.sig.returnType = none := hret
  replace hml : c.maxLocals = 1 := hml
  have N0 := Fr.nil n0
  refine step (s₁.setTop (mkF m 0 #[.val (.ref o1)] [])) (fun t k => castTop (ef_4_3 m o1) k) ?_
  refine step (s₁.setTop (mkF m 1 #[.val (.ref o1)] [(.ref o1)])) (fun t k => XS.aloadN X0.here hx rfl (hb hby d4_0) rfl rfl k) ?_
  obtain ⟨_, _, ⟨T1, L1, k1, n1⟩, -, X1, ⟨Lc1, hQ1, l1, y1, z1⟩, st1⟩ := X0.specialBack hx (y := (⟨"java/util/AbstractMap", "<init>", "()V"⟩ : MethodName)) rfl hown (mvT hZ (hw _ (List.mem_of_getElem? (i := 20) rfl))) (mvT hZ (hw _ (List.mem_of_getElem? (i := 21) rfl))) (mvT hZ (hw _ (List.mem_of_getElem? (i := 25) rfl))) (by decide) (backOf (W := 0) (rm5_4 l Z a0 hw [] o1 h0 n0 Z0 Pm0 Pm1 gn_o1) hZ (hw _ (List.mem_of_getElem? (i := 25) rfl)) (hw _ (List.mem_of_getElem? (i := 24) rfl)) (by decide) (by decide)) (g := (mkF m 1 #[.val (.ref o1)] [(.ref o1)])) rfl (by rw [hml]; rfl) (Steps.refl _) (a := o1) (argsL := []) (rest := []) (lenOf pd_7 rfl) rfl (by show 2 * 0 + _ ≤ _; exact Nat.le_of_eq rfl) (hb hby d4_1) (fun _ _ => ⟨rfl, e0, (by decide : 0 + 0 ≤ _), (by decide : 0 + 0 ≤ _)⟩)
  dsimp only [Pt.U, Pt.locs, Pt.cells, Pt.slots] at X1 l1 y1 z1 st1 hQ1
  subst l1 y1 z1
  obtain ⟨rfl, N1q, e1q⟩ := hQ1
  have N1 := Fr.app N0 N1q
  refine step (T1.setTop (mkF m 4 #[.val (.ref o1)] [])) (fun t k => st1.trans k) ?_
  refine step (T1.setTop (mkF m 5 #[.val (.ref o1)] [(.ref o1)])) (fun t k => XS.aloadN X1.here hx rfl (hb hby d4_4) rfl rfl k) ?_
  refine step (T1.setTop (mkF m 7 #[.val (.ref o1)] [(.float (1061158912 : UInt32)), (.ref o1)])) (fun t k => X1.ldcFloatC hx hown (mvT hZ (hw _ (List.mem_of_getElem? (i := 27) rfl))) (g := (mkF m 5 #[.val (.ref o1)] [(.ref o1)])) rfl (hb hby d4_5) t k) ?_
  obtain ⟨T2, h2, X2, e2, W2, st2⟩ := putF X1 hx hZ hown (host := "") (Or.inl (hw _ (List.mem_of_getElem? (i := 28) rfl))) Via.refl e1q Pm1 Pm0 (Or.inr ⟨(hw _ (List.mem_of_getElem? (i := 29) rfl)), rfl, hnm⟩) (hw _ (List.mem_of_getElem? (i := 15) rfl)) (ty := .float) (by decide) rfl rfl (g := (mkF m 7 #[.val (.ref o1)] [(.float (1061158912 : UInt32)), (.ref o1)])) rfl rfl (hb hby d4_7)
  have N2 := Fr.snoc X2 N1 gn_o1
  have K2 : Keep h0 h2 [o1] := (Keep.refl h0 [o1]).wr W2 (Or.inl (List.mem_of_getElem? (i := 0) rfl))
  have F2 := Pm1.same W2
  refine step (T2.setTop (mkF m 10 #[.val (.ref o1)] [])) (fun t k => st2 t k) ?_
  refine fin (v := none) X2 (fun _ => rfl) ?_ (by decide) (by decide) (fun fs hr => X2.returnOut hx hret (hb hby d4_10) hr)
  show Q4_3 Z o1 h0 n0 (none) T2.heap _
  rw [e2]
  exact ⟨rfl, N2, K2, F2⟩
theorem ef_2_2 (m : MethodId) (x0 : Addr) : entryFrame m #[(.ref x0), (.int (0 : Int32)), (.int (0 : Int32)), (.int (0 : Int32)), (.int (3 : Int32))] 5 = mkF m 0 #[.val (.ref x0), .val (.int (0 : Int32)), .val (.int (0 : Int32)), .val (.int (0 : Int32)), .val (.int (3 : Int32))] [] := by first | (simp [entryFrame, mkF, argsToLocals, Value.category]; done) | rfl
def Q2_2 (Z : State) (o1 : Addr) (h0 : Heap) (n0 : Nat) (v : Option Value) (h : Heap) (L : List Loc) : Prop := ∃ (b2 : Addr) (b10 : Addr) (b16 : Addr) (b23 : Addr) (b31 : Addr) (b44 : Addr) (k10 : ClassId) (k16 : ClassId) (k23 : ClassId) (k31 : ClassId) (k44 : ClassId), v = none ∧ Fr n0 L ∧ Keep h0 h [o1] ∧ h0.size ≤ b2 ∧ h0.size ≤ b10 ∧ h0.size ≤ b16 ∧ h0.size ≤ b23 ∧ h0.size ≤ b31 ∧ h0.size ≤ b44 ∧ b2 ≠ b23 ∧ b2 ≠ b31 ∧ b2 ≠ b44 ∧ b10 ≠ b2 ∧ b10 ≠ b16 ∧ b10 ≠ b23 ∧ b10 ≠ b31 ∧ b10 ≠ b44 ∧ b16 ≠ b2 ∧ b16 ≠ b23 ∧ b16 ≠ b31 ∧ b16 ≠ b44 ∧ b23 ≠ b31 ∧ b23 ≠ b44 ∧ b31 ≠ b44 ∧ Fld Z h o1 "com/example/qopa/qopa/model/ModelBuilder" "action" "[I" (.ref b44) ∧ Fld Z h o1 "com/example/qopa/qopa/model/ModelBuilder" "bounded" "Z" (.int (0 : Int32)) ∧ Fld Z h o1 "com/example/qopa/qopa/model/ModelBuilder" "choiceCount" "I" (.int (0 : Int32)) ∧ Fld Z h o1 "com/example/qopa/qopa/model/ModelBuilder" "firstChoice" "[I" (.ref b10) ∧ Fld Z h o1 "com/example/qopa/qopa/model/ModelBuilder" "firstTransition" "[I" (.ref b16) ∧ Fld Z h o1 "com/example/qopa/qopa/model/ModelBuilder" "lower" "[Lcom/example/qopa/qopa/math/Rational;" (.ref b31) ∧ Fld Z h o1 "com/example/qopa/qopa/model/ModelBuilder" "merged" "Ljava/util/Map;" (.ref b2) ∧ Fld Z h o1 "com/example/qopa/qopa/model/ModelBuilder" "stateCount" "I" (.int (0 : Int32)) ∧ Fld Z h o1 "com/example/qopa/qopa/model/ModelBuilder" "target" "[I" (.ref b23) ∧ Fld Z h o1 "com/example/qopa/qopa/model/ModelBuilder" "transitionCount" "I" (.int (0 : Int32)) ∧ Fld Z h o1 "com/example/qopa/qopa/model/ModelBuilder" "upper" "[Lcom/example/qopa/qopa/math/Rational;" (.ref b31) ∧ Exa Z h b2 "java/util/HashMap" ∧ Fld Z h b2 "java/util/HashMap" "loadFactor" "F" (.float (1061158912 : UInt32)) ∧ Arv Z h b10 k10 .int (1 : Int32) [(.int (0 : Int32))] (.int (0 : Int32)) ∧ Arv Z h b16 k16 .int (1 : Int32) [(.int (0 : Int32))] (.int (0 : Int32)) ∧ Arv Z h b23 k23 .int (3 : Int32) [(.int (0 : Int32)), (.int (0 : Int32)), (.int (0 : Int32))] (.int (0 : Int32)) ∧ Arv Z h b31 k31 (.object "com/example/qopa/qopa/math/Rational") (3 : Int32) [.null, .null, .null] .null ∧ Ovr Z k31 "com/example/qopa/qopa/math/Rational" ∧ Arv Z h b44 k44 .int (3 : Int32) [(.int (0 : Int32)), (.int (0 : Int32)), (.int (0 : Int32))] (.int (0 : Int32))
set_option maxRecDepth 65536 in
set_option maxHeartbeats 40000000 in
theorem rm2_2 (l : Launch) (Z : State) (a0 : Array Value) (hw : ∀ d ∈ tables_1, d.before a0 Z = true) (ws : List Jvm.Cond) (o1 : Addr) (h0 : Heap) (n0 : Nat) (Z0 : n0 ≤ h0.size) (Pm0 : Exa Z h0 o1 "com/example/qopa/qopa/model/ModelBuilder") (Pm1 : Fld Z h0 o1 "com/example/qopa/qopa/model/ModelBuilder" "action" "[I" .null) (Pm2 : Fld Z h0 o1 "com/example/qopa/qopa/model/ModelBuilder" "bounded" "Z" (.int (0 : Int32))) (Pm3 : Fld Z h0 o1 "com/example/qopa/qopa/model/ModelBuilder" "choiceCount" "I" (.int (0 : Int32))) (Pm4 : Fld Z h0 o1 "com/example/qopa/qopa/model/ModelBuilder" "firstChoice" "[I" .null) (Pm5 : Fld Z h0 o1 "com/example/qopa/qopa/model/ModelBuilder" "firstTransition" "[I" .null) (Pm6 : Fld Z h0 o1 "com/example/qopa/qopa/model/ModelBuilder" "lower" "[Lcom/example/qopa/qopa/math/Rational;" .null) (Pm7 : Fld Z h0 o1 "com/example/qopa/qopa/model/ModelBuilder" "merged" "Ljava/util/Map;" .null) (Pm8 : Fld Z h0 o1 "com/example/qopa/qopa/model/ModelBuilder" "stateCount" "I" (.int (0 : Int32))) (Pm9 : Fld Z h0 o1 "com/example/qopa/qopa/model/ModelBuilder" "target" "[I" .null) (Pm10 : Fld Z h0 o1 "com/example/qopa/qopa/model/ModelBuilder" "transitionCount" "I" (.int (0 : Int32))) (Pm11 : Fld Z h0 o1 "com/example/qopa/qopa/model/ModelBuilder" "upper" "[Lcom/example/qopa/qopa/math/Rational;" .null) (gn_o1 : n0 ≤ o1)  :
    MetFree l (⟨"com/example/qopa/qopa/model/ModelBuilder", "<init>", "(ZIII)V"⟩ : MethodName) (head1 (Jvm.Cond.code (⟨"com/example/qopa/qopa/model/ModelBuilder", "<init>", "(ZIII)V"⟩ : MethodName) prog_73_method_1_code 5 none :: ws) ({ frames := 3, cells := 6, slots := 19, locals := 38 } : Room)) (fun a U => a = #[(.ref o1), (.int (0 : Int32)), (.int (0 : Int32)), (.int (0 : Int32)), (.int (3 : Int32))] ∧ Z.Warmed39 U.vm ∧ U.heap = h0) (fun _ _ _ _ _ => True) (fun _ U o U' => ∃ v L, o = .returned v ∧ Q2_2 Z o1 h0 n0 v U'.heap L ∧ FrameEnd U o U' L ({ frames := 3, cells := 6, slots := 19, locals := 38 } : Room).cells ({ frames := 3, cells := 6, slots := 19, locals := 38 } : Room).slots) := by
  refine own_body (plainFor_of_name pn_1) ?_
  intro p e s m below meth c s₁ G hx hby hml hZ hown hnm hret X0 e0 step fin
  replace hown : s.vm.findClass "com/example/qopa/qopa/model/ModelBuilder" = some m.cls := hown
  replace hnm : meth.name = "<init>" := hnm
  replace hret : meth.sig.returnType = none := hret
  replace hml : c.maxLocals = 5 := hml
  have N0 := Fr.nil n0
  refine step (s₁.setTop (mkF m 0 #[.val (.ref o1), .val (.int (0 : Int32)), .val (.int (0 : Int32)), .val (.int (0 : Int32)), .val (.int (3 : Int32))] [])) (fun t k => castTop (ef_2_2 m o1) k) ?_
  refine step (s₁.setTop (mkF m 1 #[.val (.ref o1), .val (.int (0 : Int32)), .val (.int (0 : Int32)), .val (.int (0 : Int32)), .val (.int (3 : Int32))] [(.ref o1)])) (fun t k => XS.aloadN X0.here hx rfl (hb hby d2_0) rfl rfl k) ?_
  obtain ⟨T1, X1, e1, st1⟩ := initO X0 hx hZ hown (hw _ (List.mem_of_getElem? (i := 11) rfl)) (hw _ (List.mem_of_getElem? (i := 12) rfl)) (hw _ (List.mem_of_getElem? (i := 13) rfl)) e0 (g := (mkF m 1 #[.val (.ref o1), .val (.int (0 : Int32)), .val (.int (0 : Int32)), .val (.int (0 : Int32)), .val (.int (3 : Int32))] [(.ref o1)])) rfl (by rw [hml]; rfl) rfl (hb hby d2_1) (by decide) (W := 0) (by show 2 * 0 + _ ≤ _; exact Nat.le_of_eq rfl) (by decide)
  refine step (T1.setTop (mkF m 4 #[.val (.ref o1), .val (.int (0 : Int32)), .val (.int (0 : Int32)), .val (.int (0 : Int32)), .val (.int (3 : Int32))] [])) (fun t k => st1 t k) ?_
  refine step (T1.setTop (mkF m 5 #[.val (.ref o1), .val (.int (0 : Int32)), .val (.int (0 : Int32)), .val (.int (0 : Int32)), .val (.int (3 : Int32))] [(.ref o1)])) (fun t k => XS.aloadN X1.here hx rfl (hb hby d2_4) rfl rfl k) ?_
  obtain ⟨T2, h2, X2, e2, E2, A2, D2, -, st2⟩ := newO X1 hx hZ hown (hw _ (List.mem_of_getElem? (i := 14) rfl)) (hw _ (List.mem_of_getElem? (i := 15) rfl)) (hw _ (List.mem_of_getElem? (i := 16) rfl)) e1 (g := (mkF m 5 #[.val (.ref o1), .val (.int (0 : Int32)), .val (.int (0 : Int32)), .val (.int (0 : Int32)), .val (.int (3 : Int32))] [(.ref o1)])) rfl (hb hby d2_5) (by decide) (by decide)
  obtain ⟨b2, g2⟩ : ∃ z, z = h0.size := ⟨_, rfl⟩
  rw [← g2] at A2 D2 st2
  have ne_o1_b2 : o1 ≠ b2 := Nat.ne_of_lt (Nat.lt_of_lt_of_le Pm0.lt (Nat.le_of_eq g2.symm))
  have gn_b2 : n0 ≤ b2 := Nat.le_trans Z0 (Nat.le_of_eq g2.symm)
  have sz_b2 : h0.size ≤ b2 := Nat.le_of_eq g2.symm
  have K2 : Keep h0 h2 [o1] := (Keep.refl h0 [o1]).ext E2
  have F_loadFactor_b2 : Fld Z h2 b2 "java/util/HashMap" "loadFactor" "F" (.float (0 : UInt32)) := D2 (Or.inr (hw _ (List.mem_of_getElem? (i := 29) rfl))) (ty := .float) (by decide)
  refine step (T2.setTop (mkF m 8 #[.val (.ref o1), .val (.int (0 : Int32)), .val (.int (0 : Int32)), .val (.int (0 : Int32)), .val (.int (3 : Int32))] [(.ref b2), (.ref o1)])) (fun t k => st2 t k) ?_
  refine step (T2.setTop (mkF m 9 #[.val (.ref o1), .val (.int (0 : Int32)), .val (.int (0 : Int32)), .val (.int (0 : Int32)), .val (.int (3 : Int32))] [(.ref b2), (.ref b2), (.ref o1)])) (fun t k => XS.dup X2.here hx rfl (hb hby d2_8) rfl rfl k) ?_
  obtain ⟨_, _, ⟨T3, L3, k3, n3⟩, -, X3, ⟨Lc3, hQ3, l3, y3, z3⟩, st3⟩ := X2.specialBack hx (y := (⟨"java/util/HashMap", "<init>", "()V"⟩ : MethodName)) rfl hown (mvT hZ (hw _ (List.mem_of_getElem? (i := 17) rfl))) (mvT hZ (hw _ (List.mem_of_getElem? (i := 18) rfl))) (mvT hZ (hw _ (List.mem_of_getElem? (i := 19) rfl))) (by decide) (backOf (W := 2) (rm4_3 l Z a0 hw [] b2 h2 n0 (Nat.le_trans Z0 K2.1) A2 F_loadFactor_b2 gn_b2) hZ (hw _ (List.mem_of_getElem? (i := 19) rfl)) (hw _ (List.mem_of_getElem? (i := 16) rfl)) (by decide) (by decide)) (g := (mkF m 9 #[.val (.ref o1), .val (.int (0 : Int32)), .val (.int (0 : Int32)), .val (.int (0 : Int32)), .val (.int (3 : Int32))] [(.ref b2), (.ref b2), (.ref o1)])) rfl (by rw [hml]; rfl) (Steps.refl _) (a := b2) (argsL := []) (rest := [(.ref b2), (.ref o1)]) (lenOf pd_7 rfl) rfl (by show 2 * 0 + _ ≤ _; exact Nat.le_of_eq rfl) (hb hby d2_9) (fun _ _ => ⟨rfl, e2, (by decide : 1 + 0 ≤ _), (by decide : 8 + 0 ≤ _)⟩)
  dsimp only [Pt.U, Pt.locs, Pt.cells, Pt.slots] at X3 l3 y3 z3 st3 hQ3
  subst l3 y3 z3
  obtain ⟨h3, e3⟩ : ∃ z, T3.heap = z := ⟨_, rfl⟩
  rw [e3] at hQ3
  obtain ⟨rfl, N3q, K3q, q0_3⟩ := hQ3
  have N3 := Fr.app N0 N3q
  have K3 : Keep h0 h3 [o1] := K2.trans K3q (allS (Or.inr sz_b2) all0)
  refine step (T3.setTop (mkF m 12 #[.val (.ref o1), .val (.int (0 : Int32)), .val (.int (0 : Int32)), .val (.int (0 : Int32)), .val (.int (3 : Int32))] [(.ref b2), (.ref o1)])) (fun t k => st3.trans k) ?_
  have f4 := ((Pm0.ext E2).keep K3q)
  have f5 := ((Pm7.ext E2).keep K3q (ninS ne_o1_b2 nin0))
  obtain ⟨T6, h6, X6, e6, W6, st6⟩ := putF X3 hx hZ hown (host := "") (Or.inl (hw _ (List.mem_of_getElem? (i := 30) rfl))) Via.refl e3 f5 f4 (Or.inr ⟨(hw _ (List.mem_of_getElem? (i := 31) rfl)), rfl, hnm⟩) (hw _ (List.mem_of_getElem? (i := 6) rfl)) (ty := (.object "java/util/Map")) (by decide) rfl rfl (g := (mkF m 12 #[.val (.ref o1), .val (.int (0 : Int32)), .val (.int (0 : Int32)), .val (.int (0 : Int32)), .val (.int (3 : Int32))] [(.ref b2), (.ref o1)])) rfl rfl (hb hby d2_12)
  have N6 := Fr.snoc X6 N3 gn_o1
  have K6 : Keep h0 h6 [o1] := K3.wr W6 (Or.inl (List.mem_of_getElem? (i := 0) rfl))
  have F6 := f5.same W6
  refine step (T6.setTop (mkF m 15 #[.val (.ref o1), .val (.int (0 : Int32)), .val (.int (0 : Int32)), .val (.int (0 : Int32)), .val (.int (3 : Int32))] [])) (fun t k => st6 t k) ?_
  refine step (T6.setTop (mkF m 16 #[.val (.ref o1), .val (.int (0 : Int32)), .val (.int (0 : Int32)), .val (.int (0 : Int32)), .val (.int (3 : Int32))] [(.ref o1)])) (fun t k => XS.aloadN X6.here hx rfl (hb hby d2_15) rfl rfl k) ?_
  refine step (T6.setTop (mkF m 17 #[.val (.ref o1), .val (.int (0 : Int32)), .val (.int (0 : Int32)), .val (.int (0 : Int32)), .val (.int (3 : Int32))] [(.int (0 : Int32)), (.ref o1)])) (fun t k => XS.iloadN X6.here hx rfl (hb hby d2_16) rfl k) ?_
  have f7 := (f4.wr W6)
  have f8 := (((Pm2.ext E2).keep K3q (ninS ne_o1_b2 nin0)).other W6 (Or.inr (slot_ne (Or.inr (hw _ (List.mem_of_getElem? (i := 33) rfl))) (Or.inr (hw _ (List.mem_of_getElem? (i := 31) rfl))) (by decide) (t := .boolean) (t' := (.object "java/util/Map")) (by decide) (by decide))))
  obtain ⟨T9, h9, X9, e9, W9, st9⟩ := putFN X6 hx hZ hown (hw _ (List.mem_of_getElem? (i := 32) rfl)) Via.refl e6 f8 f7 (Or.inr ⟨(hw _ (List.mem_of_getElem? (i := 33) rfl)), rfl, hnm⟩) (hw _ (List.mem_of_getElem? (i := 6) rfl)) (ty := .boolean) (v' := (.int (0 : Int32))) (by decide) rfl (fits_nar_bool (0 : Int32)) (g := (mkF m 17 #[.val (.ref o1), .val (.int (0 : Int32)), .val (.int (0 : Int32)), .val (.int (0 : Int32)), .val (.int (3 : Int32))] [(.int (0 : Int32)), (.ref o1)])) rfl rfl (hb hby d2_17)
  have N9 := Fr.snoc X9 N6 gn_o1
  have K9 : Keep h0 h9 [o1] := K6.wr W9 (Or.inl (List.mem_of_getElem? (i := 0) rfl))
  have F9 := f8.same W9
  refine step (T9.setTop (mkF m 20 #[.val (.ref o1), .val (.int (0 : Int32)), .val (.int (0 : Int32)), .val (.int (0 : Int32)), .val (.int (3 : Int32))] [])) (fun t k => st9 t k) ?_
  refine step (T9.setTop (mkF m 21 #[.val (.ref o1), .val (.int (0 : Int32)), .val (.int (0 : Int32)), .val (.int (0 : Int32)), .val (.int (3 : Int32))] [(.ref o1)])) (fun t k => XS.aloadN X9.here hx rfl (hb hby d2_20) rfl rfl k) ?_
  refine step (T9.setTop (mkF m 22 #[.val (.ref o1), .val (.int (0 : Int32)), .val (.int (0 : Int32)), .val (.int (0 : Int32)), .val (.int (3 : Int32))] [(.int (0 : Int32)), (.ref o1)])) (fun t k => XS.iloadN X9.here hx rfl (hb hby d2_21) rfl k) ?_
  refine step (T9.setTop (mkF m 23 #[.val (.ref o1), .val (.int (0 : Int32)), .val (.int (0 : Int32)), .val (.int (0 : Int32)), .val (.int (3 : Int32))] [(.int (1 : Int32)), (.int (0 : Int32)), (.ref o1)])) (fun t k => XS.iconst X9.here hx rfl (hb hby d2_22) k) ?_
  refine step (T9.setTop (mkF m 24 #[.val (.ref o1), .val (.int (0 : Int32)), .val (.int (0 : Int32)), .val (.int (0 : Int32)), .val (.int (3 : Int32))] [(.int (1 : Int32)), (.ref o1)])) (fun t k => XS.iadd X9.here hx rfl (hb hby d2_23) rfl k) ?_
  obtain ⟨T10, h10, k10, X10, e10, E10, A10, st10⟩ := newP X9 hx hZ (hw _ (List.mem_of_getElem? (i := 4) rfl)) e9 (g := (mkF m 24 #[.val (.ref o1), .val (.int (0 : Int32)), .val (.int (0 : Int32)), .val (.int (0 : Int32)), .val (.int (3 : Int32))] [(.int (1 : Int32)), (.ref o1)])) rfl (hb hby d2_24) rfl (by decide) (cap := 1) (by decide) (by decide) (by decide) (by decide)
  obtain ⟨b10, g10⟩ : ∃ z, z = h9.size := ⟨_, rfl⟩
  rw [← g10] at A10 st10
  have f11 := (f7.wr W9)
  have ne_o1_b10 : o1 ≠ b10 := Nat.ne_of_lt (Nat.lt_of_lt_of_le f11.lt (Nat.le_of_eq g10.symm))
  have f12 := (((A2.keep K3q).wr W6).wr W9)
  have ne_b2_b10 : b2 ≠ b10 := Nat.ne_of_lt (Nat.lt_of_lt_of_le f12.lt (Nat.le_of_eq g10.symm))
  have gn_b10 : n0 ≤ b10 := Nat.le_trans (Nat.le_trans Z0 K9.1) (Nat.le_of_eq g10.symm)
  have sz_b10 : h0.size ≤ b10 := Nat.le_trans K9.1 (Nat.le_of_eq g10.symm)
  have K10 : Keep h0 h10 [o1] := K9.ext E10
  have V10 : Arv Z h10 b10 k10 .int (1 : Int32) [(.int (0 : Int32))] (.int (0 : Int32)) := (Arv.new A10 (by decide)).pad (pad_rep [] (.int (0 : Int32)) 1)
  refine step (T10.setTop (mkF m 26 #[.val (.ref o1), .val (.int (0 : Int32)), .val (.int (0 : Int32)), .val (.int (0 : Int32)), .val (.int (3 : Int32))] [(.ref b10), (.ref o1)])) (fun t k => st10 t k) ?_
  have f13 := (f11.ext E10)
  have f14 := (((((Pm4.ext E2).keep K3q (ninS ne_o1_b2 nin0)).other W6 (Or.inr (slot_ne (Or.inl (hw _ (List.mem_of_getElem? (i := 35) rfl))) (Or.inr (hw _ (List.mem_of_getElem? (i := 31) rfl))) (by decide) (t := (.array .int)) (t' := (.object "java/util/Map")) (by decide) (by decide)))).other W9 (Or.inr (slot_ne (Or.inl (hw _ (List.mem_of_getElem? (i := 35) rfl))) (Or.inr (hw _ (List.mem_of_getElem? (i := 33) rfl))) (by decide) (t := (.array .int)) (t' := .boolean) (by decide) (by decide)))).ext E10)
  obtain ⟨T15, h15, X15, e15, W15, st15⟩ := putF X10 hx hZ hown (host := "") (Or.inl (hw _ (List.mem_of_getElem? (i := 34) rfl))) Via.refl e10 f14 f13 (Or.inl (hw _ (List.mem_of_getElem? (i := 35) rfl))) (hw _ (List.mem_of_getElem? (i := 6) rfl)) (ty := (.array .int)) (by decide) rfl rfl (g := (mkF m 26 #[.val (.ref o1), .val (.int (0 : Int32)), .val (.int (0 : Int32)), .val (.int (0 : Int32)), .val (.int (3 : Int32))] [(.ref b10), (.ref o1)])) rfl rfl (hb hby d2_26)
  have N15 := Fr.snoc X15 N9 gn_o1
  have K15 : Keep h0 h15 [o1] := K10.wr W15 (Or.inl (List.mem_of_getElem? (i := 0) rfl))
  have F15 := f14.same W15
  refine step (T15.setTop (mkF m 29 #[.val (.ref o1), .val (.int (0 : Int32)), .val (.int (0 : Int32)), .val (.int (0 : Int32)), .val (.int (3 : Int32))] [])) (fun t k => st15 t k) ?_
  refine step (T15.setTop (mkF m 30 #[.val (.ref o1), .val (.int (0 : Int32)), .val (.int (0 : Int32)), .val (.int (0 : Int32)), .val (.int (3 : Int32))] [(.ref o1)])) (fun t k => XS.aloadN X15.here hx rfl (hb hby d2_29) rfl rfl k) ?_
  refine step (T15.setTop (mkF m 31 #[.val (.ref o1), .val (.int (0 : Int32)), .val (.int (0 : Int32)), .val (.int (0 : Int32)), .val (.int (3 : Int32))] [(.int (0 : Int32)), (.ref o1)])) (fun t k => XS.iloadN X15.here hx rfl (hb hby d2_30) rfl k) ?_
  refine step (T15.setTop (mkF m 32 #[.val (.ref o1), .val (.int (0 : Int32)), .val (.int (0 : Int32)), .val (.int (0 : Int32)), .val (.int (3 : Int32))] [(.int (1 : Int32)), (.int (0 : Int32)), (.ref o1)])) (fun t k => XS.iconst X15.here hx rfl (hb hby d2_31) k) ?_
  refine step (T15.setTop (mkF m 33 #[.val (.ref o1), .val (.int (0 : Int32)), .val (.int (0 : Int32)), .val (.int (0 : Int32)), .val (.int (3 : Int32))] [(.int (1 : Int32)), (.ref o1)])) (fun t k => XS.iadd X15.here hx rfl (hb hby d2_32) rfl k) ?_
  obtain ⟨T16, h16, k16, X16, e16, E16, A16, st16⟩ := newP X15 hx hZ (hw _ (List.mem_of_getElem? (i := 4) rfl)) e15 (g := (mkF m 33 #[.val (.ref o1), .val (.int (0 : Int32)), .val (.int (0 : Int32)), .val (.int (0 : Int32)), .val (.int (3 : Int32))] [(.int (1 : Int32)), (.ref o1)])) rfl (hb hby d2_33) rfl (by decide) (cap := 1) (by decide) (by decide) (by decide) (by decide)
  obtain ⟨b16, g16⟩ : ∃ z, z = h15.size := ⟨_, rfl⟩
  rw [← g16] at A16 st16
  have f17 := (f13.wr W15)
  have ne_o1_b16 : o1 ≠ b16 := Nat.ne_of_lt (Nat.lt_of_lt_of_le f17.lt (Nat.le_of_eq g16.symm))
  have f18 := ((f12.ext E10).wr W15)
  have ne_b2_b16 : b2 ≠ b16 := Nat.ne_of_lt (Nat.lt_of_lt_of_le f18.lt (Nat.le_of_eq g16.symm))
  have f19 := (V10.other W15 (Ne.symm ne_o1_b10))
  have ne_b10_b16 : b10 ≠ b16 := Nat.ne_of_lt (Nat.lt_of_lt_of_le f19.lt (Nat.le_of_eq g16.symm))
  have gn_b16 : n0 ≤ b16 := Nat.le_trans (Nat.le_trans Z0 K15.1) (Nat.le_of_eq g16.symm)
  have sz_b16 : h0.size ≤ b16 := Nat.le_trans K15.1 (Nat.le_of_eq g16.symm)
  have K16 : Keep h0 h16 [o1] := K15.ext E16
  have V16 : Arv Z h16 b16 k16 .int (1 : Int32) [(.int (0 : Int32))] (.int (0 : Int32)) := (Arv.new A16 (by decide)).pad (pad_rep [] (.int (0 : Int32)) 1)
  refine step (T16.setTop (mkF m 35 #[.val (.ref o1), .val (.int (0 : Int32)), .val (.int (0 : Int32)), .val (.int (0 : Int32)), .val (.int (3 : Int32))] [(.ref b16), (.ref o1)])) (fun t k => st16 t k) ?_
  have f20 := (f17.ext E16)
  have f21 := (((((((Pm5.ext E2).keep K3q (ninS ne_o1_b2 nin0)).other W6 (Or.inr (slot_ne (Or.inl (hw _ (List.mem_of_getElem? (i := 37) rfl))) (Or.inr (hw _ (List.mem_of_getElem? (i := 31) rfl))) (by decide) (t := (.array .int)) (t' := (.object "java/util/Map")) (by decide) (by decide)))).other W9 (Or.inr (slot_ne (Or.inl (hw _ (List.mem_of_getElem? (i := 37) rfl))) (Or.inr (hw _ (List.mem_of_getElem? (i := 33) rfl))) (by decide) (t := (.array .int)) (t' := .boolean) (by decide) (by decide)))).ext E10).other W15 (Or.inr (slot_ne (Or.inl (hw _ (List.mem_of_getElem? (i := 37) rfl))) (Or.inl (hw _ (List.mem_of_getElem? (i := 35) rfl))) (by decide) (t := (.array .int)) (t' := (.array .int)) (by decide) (by decide)))).ext E16)
  obtain ⟨T22, h22, X22, e22, W22, st22⟩ := putF X16 hx hZ hown (host := "") (Or.inl (hw _ (List.mem_of_getElem? (i := 36) rfl))) Via.refl e16 f21 f20 (Or.inl (hw _ (List.mem_of_getElem? (i := 37) rfl))) (hw _ (List.mem_of_getElem? (i := 6) rfl)) (ty := (.array .int)) (by decide) rfl rfl (g := (mkF m 35 #[.val (.ref o1), .val (.int (0 : Int32)), .val (.int (0 : Int32)), .val (.int (0 : Int32)), .val (.int (3 : Int32))] [(.ref b16), (.ref o1)])) rfl rfl (hb hby d2_35)
  have N22 := Fr.snoc X22 N15 gn_o1
  have K22 : Keep h0 h22 [o1] := K16.wr W22 (Or.inl (List.mem_of_getElem? (i := 0) rfl))
  have F22 := f21.same W22
  refine step (T22.setTop (mkF m 38 #[.val (.ref o1), .val (.int (0 : Int32)), .val (.int (0 : Int32)), .val (.int (0 : Int32)), .val (.int (3 : Int32))] [])) (fun t k => st22 t k) ?_
  refine step (T22.setTop (mkF m 39 #[.val (.ref o1), .val (.int (0 : Int32)), .val (.int (0 : Int32)), .val (.int (0 : Int32)), .val (.int (3 : Int32))] [(.ref o1)])) (fun t k => XS.aloadN X22.here hx rfl (hb hby d2_38) rfl rfl k) ?_
  refine step (T22.setTop (mkF m 41 #[.val (.ref o1), .val (.int (0 : Int32)), .val (.int (0 : Int32)), .val (.int (0 : Int32)), .val (.int (3 : Int32))] [(.int (3 : Int32)), (.ref o1)])) (fun t k => XS.iload X22.here hx rfl (hb hby d2_39) rfl k) ?_
  obtain ⟨T23, h23, k23, X23, e23, E23, A23, st23⟩ := newP X22 hx hZ (hw _ (List.mem_of_getElem? (i := 4) rfl)) e22 (g := (mkF m 41 #[.val (.ref o1), .val (.int (0 : Int32)), .val (.int (0 : Int32)), .val (.int (0 : Int32)), .val (.int (3 : Int32))] [(.int (3 : Int32)), (.ref o1)])) rfl (hb hby d2_41) rfl (by decide) (cap := 3) (by decide) (by decide) (by decide) (by decide)
  obtain ⟨b23, g23⟩ : ∃ z, z = h22.size := ⟨_, rfl⟩
  rw [← g23] at A23 st23
  have f24 := (f20.wr W22)
  have ne_o1_b23 : o1 ≠ b23 := Nat.ne_of_lt (Nat.lt_of_lt_of_le f24.lt (Nat.le_of_eq g23.symm))
  have f25 := ((f18.ext E16).wr W22)
  have ne_b2_b23 : b2 ≠ b23 := Nat.ne_of_lt (Nat.lt_of_lt_of_le f25.lt (Nat.le_of_eq g23.symm))
  have f26 := ((f19.ext E16).other W22 (Ne.symm ne_o1_b10))
  have ne_b10_b23 : b10 ≠ b23 := Nat.ne_of_lt (Nat.lt_of_lt_of_le f26.lt (Nat.le_of_eq g23.symm))
  have f27 := (V16.other W22 (Ne.symm ne_o1_b16))
  have ne_b16_b23 : b16 ≠ b23 := Nat.ne_of_lt (Nat.lt_of_lt_of_le f27.lt (Nat.le_of_eq g23.symm))
  have gn_b23 : n0 ≤ b23 := Nat.le_trans (Nat.le_trans Z0 K22.1) (Nat.le_of_eq g23.symm)
  have sz_b23 : h0.size ≤ b23 := Nat.le_trans K22.1 (Nat.le_of_eq g23.symm)
  have K23 : Keep h0 h23 [o1] := K22.ext E23
  have V23 : Arv Z h23 b23 k23 .int (3 : Int32) [(.int (0 : Int32)), (.int (0 : Int32)), (.int (0 : Int32))] (.int (0 : Int32)) := (Arv.new A23 (by decide)).pad (pad_rep [] (.int (0 : Int32)) 3)
  refine step (T23.setTop (mkF m 43 #[.val (.ref o1), .val (.int (0 : Int32)), .val (.int (0 : Int32)), .val (.int (0 : Int32)), .val (.int (3 : Int32))] [(.ref b23), (.ref o1)])) (fun t k => st23 t k) ?_
  have f28 := (f24.ext E23)
  have f29 := (((((((((Pm9.ext E2).keep K3q (ninS ne_o1_b2 nin0)).other W6 (Or.inr (slot_ne (Or.inl (hw _ (List.mem_of_getElem? (i := 39) rfl))) (Or.inr (hw _ (List.mem_of_getElem? (i := 31) rfl))) (by decide) (t := (.array .int)) (t' := (.object "java/util/Map")) (by decide) (by decide)))).other W9 (Or.inr (slot_ne (Or.inl (hw _ (List.mem_of_getElem? (i := 39) rfl))) (Or.inr (hw _ (List.mem_of_getElem? (i := 33) rfl))) (by decide) (t := (.array .int)) (t' := .boolean) (by decide) (by decide)))).ext E10).other W15 (Or.inr (slot_ne (Or.inl (hw _ (List.mem_of_getElem? (i := 39) rfl))) (Or.inl (hw _ (List.mem_of_getElem? (i := 35) rfl))) (by decide) (t := (.array .int)) (t' := (.array .int)) (by decide) (by decide)))).ext E16).other W22 (Or.inr (slot_ne (Or.inl (hw _ (List.mem_of_getElem? (i := 39) rfl))) (Or.inl (hw _ (List.mem_of_getElem? (i := 37) rfl))) (by decide) (t := (.array .int)) (t' := (.array .int)) (by decide) (by decide)))).ext E23)
  obtain ⟨T30, h30, X30, e30, W30, st30⟩ := putF X23 hx hZ hown (host := "") (Or.inl (hw _ (List.mem_of_getElem? (i := 38) rfl))) Via.refl e23 f29 f28 (Or.inl (hw _ (List.mem_of_getElem? (i := 39) rfl))) (hw _ (List.mem_of_getElem? (i := 6) rfl)) (ty := (.array .int)) (by decide) rfl rfl (g := (mkF m 43 #[.val (.ref o1), .val (.int (0 : Int32)), .val (.int (0 : Int32)), .val (.int (0 : Int32)), .val (.int (3 : Int32))] [(.ref b23), (.ref o1)])) rfl rfl (hb hby d2_43)
  have N30 := Fr.snoc X30 N22 gn_o1
  have K30 : Keep h0 h30 [o1] := K23.wr W30 (Or.inl (List.mem_of_getElem? (i := 0) rfl))
  have F30 := f29.same W30
  refine step (T30.setTop (mkF m 46 #[.val (.ref o1), .val (.int (0 : Int32)), .val (.int (0 : Int32)), .val (.int (0 : Int32)), .val (.int (3 : Int32))] [])) (fun t k => st30 t k) ?_
  refine step (T30.setTop (mkF m 47 #[.val (.ref o1), .val (.int (0 : Int32)), .val (.int (0 : Int32)), .val (.int (0 : Int32)), .val (.int (3 : Int32))] [(.ref o1)])) (fun t k => XS.aloadN X30.here hx rfl (hb hby d2_46) rfl rfl k) ?_
  refine step (T30.setTop (mkF m 49 #[.val (.ref o1), .val (.int (0 : Int32)), .val (.int (0 : Int32)), .val (.int (0 : Int32)), .val (.int (3 : Int32))] [(.int (3 : Int32)), (.ref o1)])) (fun t k => XS.iload X30.here hx rfl (hb hby d2_47) rfl k) ?_
  obtain ⟨T31, h31, k31, X31, e31, E31, A31, O31, st31⟩ := newR X30 hx hZ hown (hw _ (List.mem_of_getElem? (i := 40) rfl)) (hw _ (List.mem_of_getElem? (i := 41) rfl)) e30 (g := (mkF m 49 #[.val (.ref o1), .val (.int (0 : Int32)), .val (.int (0 : Int32)), .val (.int (0 : Int32)), .val (.int (3 : Int32))] [(.int (3 : Int32)), (.ref o1)])) rfl (hb hby d2_49) rfl (by decide) (cap := 3) (by decide) (by decide) (by decide) (by decide)
  obtain ⟨b31, g31⟩ : ∃ z, z = h30.size := ⟨_, rfl⟩
  rw [← g31] at A31 st31
  have f32 := (f28.wr W30)
  have ne_o1_b31 : o1 ≠ b31 := Nat.ne_of_lt (Nat.lt_of_lt_of_le f32.lt (Nat.le_of_eq g31.symm))
  have f33 := ((f25.ext E23).wr W30)
  have ne_b2_b31 : b2 ≠ b31 := Nat.ne_of_lt (Nat.lt_of_lt_of_le f33.lt (Nat.le_of_eq g31.symm))
  have f34 := ((f26.ext E23).other W30 (Ne.symm ne_o1_b10))
  have ne_b10_b31 : b10 ≠ b31 := Nat.ne_of_lt (Nat.lt_of_lt_of_le f34.lt (Nat.le_of_eq g31.symm))
  have f35 := ((f27.ext E23).other W30 (Ne.symm ne_o1_b16))
  have ne_b16_b31 : b16 ≠ b31 := Nat.ne_of_lt (Nat.lt_of_lt_of_le f35.lt (Nat.le_of_eq g31.symm))
  have f36 := (V23.other W30 (Ne.symm ne_o1_b23))
  have ne_b23_b31 : b23 ≠ b31 := Nat.ne_of_lt (Nat.lt_of_lt_of_le f36.lt (Nat.le_of_eq g31.symm))
  have gn_b31 : n0 ≤ b31 := Nat.le_trans (Nat.le_trans Z0 K30.1) (Nat.le_of_eq g31.symm)
  have sz_b31 : h0.size ≤ b31 := Nat.le_trans K30.1 (Nat.le_of_eq g31.symm)
  have K31 : Keep h0 h31 [o1] := K30.ext E31
  have V31 : Arv Z h31 b31 k31 (.object "com/example/qopa/qopa/math/Rational") (3 : Int32) [.null, .null, .null] .null := (Arv.new A31 (by decide)).pad (pad_rep [] .null 3)
  refine step (T31.setTop (mkF m 52 #[.val (.ref o1), .val (.int (0 : Int32)), .val (.int (0 : Int32)), .val (.int (0 : Int32)), .val (.int (3 : Int32))] [(.ref b31), (.ref o1)])) (fun t k => st31 t k) ?_
  have f37 := (f32.ext E31)
  have f38 := (((((((((((Pm6.ext E2).keep K3q (ninS ne_o1_b2 nin0)).other W6 (Or.inr (slot_ne (Or.inl (hw _ (List.mem_of_getElem? (i := 43) rfl))) (Or.inr (hw _ (List.mem_of_getElem? (i := 31) rfl))) (by decide) (t := (.array (.object "com/example/qopa/qopa/math/Rational"))) (t' := (.object "java/util/Map")) (by decide) (by decide)))).other W9 (Or.inr (slot_ne (Or.inl (hw _ (List.mem_of_getElem? (i := 43) rfl))) (Or.inr (hw _ (List.mem_of_getElem? (i := 33) rfl))) (by decide) (t := (.array (.object "com/example/qopa/qopa/math/Rational"))) (t' := .boolean) (by decide) (by decide)))).ext E10).other W15 (Or.inr (slot_ne (Or.inl (hw _ (List.mem_of_getElem? (i := 43) rfl))) (Or.inl (hw _ (List.mem_of_getElem? (i := 35) rfl))) (by decide) (t := (.array (.object "com/example/qopa/qopa/math/Rational"))) (t' := (.array .int)) (by decide) (by decide)))).ext E16).other W22 (Or.inr (slot_ne (Or.inl (hw _ (List.mem_of_getElem? (i := 43) rfl))) (Or.inl (hw _ (List.mem_of_getElem? (i := 37) rfl))) (by decide) (t := (.array (.object "com/example/qopa/qopa/math/Rational"))) (t' := (.array .int)) (by decide) (by decide)))).ext E23).other W30 (Or.inr (slot_ne (Or.inl (hw _ (List.mem_of_getElem? (i := 43) rfl))) (Or.inl (hw _ (List.mem_of_getElem? (i := 39) rfl))) (by decide) (t := (.array (.object "com/example/qopa/qopa/math/Rational"))) (t' := (.array .int)) (by decide) (by decide)))).ext E31)
  obtain ⟨T39, h39, X39, e39, W39, st39⟩ := putF X31 hx hZ hown (host := "") (Or.inl (hw _ (List.mem_of_getElem? (i := 42) rfl))) Via.refl e31 f38 f37 (Or.inl (hw _ (List.mem_of_getElem? (i := 43) rfl))) (hw _ (List.mem_of_getElem? (i := 6) rfl)) (ty := (.array (.object "com/example/qopa/qopa/math/Rational"))) (by decide) rfl rfl (g := (mkF m 52 #[.val (.ref o1), .val (.int (0 : Int32)), .val (.int (0 : Int32)), .val (.int (0 : Int32)), .val (.int (3 : Int32))] [(.ref b31), (.ref o1)])) rfl rfl (hb hby d2_52)
  have N39 := Fr.snoc X39 N30 gn_o1
  have K39 : Keep h0 h39 [o1] := K31.wr W39 (Or.inl (List.mem_of_getElem? (i := 0) rfl))
  have F39 := f38.same W39
  refine step (T39.setTop (mkF m 55 #[.val (.ref o1), .val (.int (0 : Int32)), .val (.int (0 : Int32)), .val (.int (0 : Int32)), .val (.int (3 : Int32))] [])) (fun t k => st39 t k) ?_
  refine step (T39.setTop (mkF m 56 #[.val (.ref o1), .val (.int (0 : Int32)), .val (.int (0 : Int32)), .val (.int (0 : Int32)), .val (.int (3 : Int32))] [(.ref o1)])) (fun t k => XS.aloadN X39.here hx rfl (hb hby d2_55) rfl rfl k) ?_
  refine step (T39.setTop (mkF m 57 #[.val (.ref o1), .val (.int (0 : Int32)), .val (.int (0 : Int32)), .val (.int (0 : Int32)), .val (.int (3 : Int32))] [(.int (0 : Int32)), (.ref o1)])) (fun t k => XS.iloadN X39.here hx rfl (hb hby d2_56) rfl k) ?_
  refine step (T39.setTop (mkF m 68 #[.val (.ref o1), .val (.int (0 : Int32)), .val (.int (0 : Int32)), .val (.int (0 : Int32)), .val (.int (3 : Int32))] [(.ref o1)])) (fun t k => XS.ifYes X39.here hx rfl (pc0 := 57) (pc' := 68) rfl (hb hby d2_57) rfl ((if0 _ _).trans (teq (by decide : (0 : Int32) = (0 : Int32))).1) (by decide) (by decide) k) ?_
  refine step (T39.setTop (mkF m 69 #[.val (.ref o1), .val (.int (0 : Int32)), .val (.int (0 : Int32)), .val (.int (0 : Int32)), .val (.int (3 : Int32))] [(.ref o1), (.ref o1)])) (fun t k => XS.aloadN X39.here hx rfl (hb hby d2_68) rfl rfl k) ?_
  obtain ⟨T40, X40, e40, st40⟩ := getF X39 hx hZ hown (host := "") (Or.inl (hw _ (List.mem_of_getElem? (i := 42) rfl))) Via.refl e39 F39 (g := (mkF m 69 #[.val (.ref o1), .val (.int (0 : Int32)), .val (.int (0 : Int32)), .val (.int (0 : Int32)), .val (.int (3 : Int32))] [(.ref o1), (.ref o1)])) rfl rfl (hb hby d2_69)
  refine step (T40.setTop (mkF m 72 #[.val (.ref o1), .val (.int (0 : Int32)), .val (.int (0 : Int32)), .val (.int (0 : Int32)), .val (.int (3 : Int32))] [(.ref b31), (.ref o1)])) (fun t k => st40 t k) ?_
  have f41 := (f37.wr W39)
  have f42 := ((((((((((((Pm11.ext E2).keep K3q (ninS ne_o1_b2 nin0)).other W6 (Or.inr (slot_ne (Or.inl (hw _ (List.mem_of_getElem? (i := 45) rfl))) (Or.inr (hw _ (List.mem_of_getElem? (i := 31) rfl))) (by decide) (t := (.array (.object "com/example/qopa/qopa/math/Rational"))) (t' := (.object "java/util/Map")) (by decide) (by decide)))).other W9 (Or.inr (slot_ne (Or.inl (hw _ (List.mem_of_getElem? (i := 45) rfl))) (Or.inr (hw _ (List.mem_of_getElem? (i := 33) rfl))) (by decide) (t := (.array (.object "com/example/qopa/qopa/math/Rational"))) (t' := .boolean) (by decide) (by decide)))).ext E10).other W15 (Or.inr (slot_ne (Or.inl (hw _ (List.mem_of_getElem? (i := 45) rfl))) (Or.inl (hw _ (List.mem_of_getElem? (i := 35) rfl))) (by decide) (t := (.array (.object "com/example/qopa/qopa/math/Rational"))) (t' := (.array .int)) (by decide) (by decide)))).ext E16).other W22 (Or.inr (slot_ne (Or.inl (hw _ (List.mem_of_getElem? (i := 45) rfl))) (Or.inl (hw _ (List.mem_of_getElem? (i := 37) rfl))) (by decide) (t := (.array (.object "com/example/qopa/qopa/math/Rational"))) (t' := (.array .int)) (by decide) (by decide)))).ext E23).other W30 (Or.inr (slot_ne (Or.inl (hw _ (List.mem_of_getElem? (i := 45) rfl))) (Or.inl (hw _ (List.mem_of_getElem? (i := 39) rfl))) (by decide) (t := (.array (.object "com/example/qopa/qopa/math/Rational"))) (t' := (.array .int)) (by decide) (by decide)))).ext E31).other W39 (Or.inr (slot_ne (Or.inl (hw _ (List.mem_of_getElem? (i := 45) rfl))) (Or.inl (hw _ (List.mem_of_getElem? (i := 43) rfl))) (by decide) (t := (.array (.object "com/example/qopa/qopa/math/Rational"))) (t' := (.array (.object "com/example/qopa/qopa/math/Rational"))) (by decide) (by decide))))
  obtain ⟨T43, h43, X43, e43, W43, st43⟩ := putF X40 hx hZ hown (host := "") (Or.inl (hw _ (List.mem_of_getElem? (i := 44) rfl))) Via.refl e40 f42 f41 (Or.inl (hw _ (List.mem_of_getElem? (i := 45) rfl))) (hw _ (List.mem_of_getElem? (i := 6) rfl)) (ty := (.array (.object "com/example/qopa/qopa/math/Rational"))) (by decide) rfl rfl (g := (mkF m 72 #[.val (.ref o1), .val (.int (0 : Int32)), .val (.int (0 : Int32)), .val (.int (0 : Int32)), .val (.int (3 : Int32))] [(.ref b31), (.ref o1)])) rfl rfl (hb hby d2_72)
  have N43 := Fr.snoc X43 N39 gn_o1
  have K43 : Keep h0 h43 [o1] := K39.wr W43 (Or.inl (List.mem_of_getElem? (i := 0) rfl))
  have F43 := f42.same W43
  refine step (T43.setTop (mkF m 75 #[.val (.ref o1), .val (.int (0 : Int32)), .val (.int (0 : Int32)), .val (.int (0 : Int32)), .val (.int (3 : Int32))] [])) (fun t k => st43 t k) ?_
  refine step (T43.setTop (mkF m 76 #[.val (.ref o1), .val (.int (0 : Int32)), .val (.int (0 : Int32)), .val (.int (0 : Int32)), .val (.int (3 : Int32))] [(.ref o1)])) (fun t k => XS.aloadN X43.here hx rfl (hb hby d2_75) rfl rfl k) ?_
  refine step (T43.setTop (mkF m 78 #[.val (.ref o1), .val (.int (0 : Int32)), .val (.int (0 : Int32)), .val (.int (0 : Int32)), .val (.int (3 : Int32))] [(.int (3 : Int32)), (.ref o1)])) (fun t k => XS.iload X43.here hx rfl (hb hby d2_76) rfl k) ?_
  obtain ⟨T44, h44, k44, X44, e44, E44, A44, st44⟩ := newP X43 hx hZ (hw _ (List.mem_of_getElem? (i := 4) rfl)) e43 (g := (mkF m 78 #[.val (.ref o1), .val (.int (0 : Int32)), .val (.int (0 : Int32)), .val (.int (0 : Int32)), .val (.int (3 : Int32))] [(.int (3 : Int32)), (.ref o1)])) rfl (hb hby d2_78) rfl (by decide) (cap := 3) (by decide) (by decide) (by decide) (by decide)
  obtain ⟨b44, g44⟩ : ∃ z, z = h43.size := ⟨_, rfl⟩
  rw [← g44] at A44 st44
  have f45 := (f41.wr W43)
  have ne_o1_b44 : o1 ≠ b44 := Nat.ne_of_lt (Nat.lt_of_lt_of_le f45.lt (Nat.le_of_eq g44.symm))
  have f46 := (((f33.ext E31).wr W39).wr W43)
  have ne_b2_b44 : b2 ≠ b44 := Nat.ne_of_lt (Nat.lt_of_lt_of_le f46.lt (Nat.le_of_eq g44.symm))
  have f47 := (((f34.ext E31).other W39 (Ne.symm ne_o1_b10)).other W43 (Ne.symm ne_o1_b10))
  have ne_b10_b44 : b10 ≠ b44 := Nat.ne_of_lt (Nat.lt_of_lt_of_le f47.lt (Nat.le_of_eq g44.symm))
  have f48 := (((f35.ext E31).other W39 (Ne.symm ne_o1_b16)).other W43 (Ne.symm ne_o1_b16))
  have ne_b16_b44 : b16 ≠ b44 := Nat.ne_of_lt (Nat.lt_of_lt_of_le f48.lt (Nat.le_of_eq g44.symm))
  have f49 := (((f36.ext E31).other W39 (Ne.symm ne_o1_b23)).other W43 (Ne.symm ne_o1_b23))
  have ne_b23_b44 : b23 ≠ b44 := Nat.ne_of_lt (Nat.lt_of_lt_of_le f49.lt (Nat.le_of_eq g44.symm))
  have f50 := ((V31.other W39 (Ne.symm ne_o1_b31)).other W43 (Ne.symm ne_o1_b31))
  have ne_b31_b44 : b31 ≠ b44 := Nat.ne_of_lt (Nat.lt_of_lt_of_le f50.lt (Nat.le_of_eq g44.symm))
  have gn_b44 : n0 ≤ b44 := Nat.le_trans (Nat.le_trans Z0 K43.1) (Nat.le_of_eq g44.symm)
  have sz_b44 : h0.size ≤ b44 := Nat.le_trans K43.1 (Nat.le_of_eq g44.symm)
  have K44 : Keep h0 h44 [o1] := K43.ext E44
  have V44 : Arv Z h44 b44 k44 .int (3 : Int32) [(.int (0 : Int32)), (.int (0 : Int32)), (.int (0 : Int32))] (.int (0 : Int32)) := (Arv.new A44 (by decide)).pad (pad_rep [] (.int (0 : Int32)) 3)
  refine step (T44.setTop (mkF m 80 #[.val (.ref o1), .val (.int (0 : Int32)), .val (.int (0 : Int32)), .val (.int (0 : Int32)), .val (.int (3 : Int32))] [(.ref b44), (.ref o1)])) (fun t k => st44 t k) ?_
  have f51 := (f45.ext E44)
  have f52 := ((((((((((((((Pm1.ext E2).keep K3q (ninS ne_o1_b2 nin0)).other W6 (Or.inr (slot_ne (Or.inl (hw _ (List.mem_of_getElem? (i := 47) rfl))) (Or.inr (hw _ (List.mem_of_getElem? (i := 31) rfl))) (by decide) (t := (.array .int)) (t' := (.object "java/util/Map")) (by decide) (by decide)))).other W9 (Or.inr (slot_ne (Or.inl (hw _ (List.mem_of_getElem? (i := 47) rfl))) (Or.inr (hw _ (List.mem_of_getElem? (i := 33) rfl))) (by decide) (t := (.array .int)) (t' := .boolean) (by decide) (by decide)))).ext E10).other W15 (Or.inr (slot_ne (Or.inl (hw _ (List.mem_of_getElem? (i := 47) rfl))) (Or.inl (hw _ (List.mem_of_getElem? (i := 35) rfl))) (by decide) (t := (.array .int)) (t' := (.array .int)) (by decide) (by decide)))).ext E16).other W22 (Or.inr (slot_ne (Or.inl (hw _ (List.mem_of_getElem? (i := 47) rfl))) (Or.inl (hw _ (List.mem_of_getElem? (i := 37) rfl))) (by decide) (t := (.array .int)) (t' := (.array .int)) (by decide) (by decide)))).ext E23).other W30 (Or.inr (slot_ne (Or.inl (hw _ (List.mem_of_getElem? (i := 47) rfl))) (Or.inl (hw _ (List.mem_of_getElem? (i := 39) rfl))) (by decide) (t := (.array .int)) (t' := (.array .int)) (by decide) (by decide)))).ext E31).other W39 (Or.inr (slot_ne (Or.inl (hw _ (List.mem_of_getElem? (i := 47) rfl))) (Or.inl (hw _ (List.mem_of_getElem? (i := 43) rfl))) (by decide) (t := (.array .int)) (t' := (.array (.object "com/example/qopa/qopa/math/Rational"))) (by decide) (by decide)))).other W43 (Or.inr (slot_ne (Or.inl (hw _ (List.mem_of_getElem? (i := 47) rfl))) (Or.inl (hw _ (List.mem_of_getElem? (i := 45) rfl))) (by decide) (t := (.array .int)) (t' := (.array (.object "com/example/qopa/qopa/math/Rational"))) (by decide) (by decide)))).ext E44)
  obtain ⟨T53, h53, X53, e53, W53, st53⟩ := putF X44 hx hZ hown (host := "") (Or.inl (hw _ (List.mem_of_getElem? (i := 46) rfl))) Via.refl e44 f52 f51 (Or.inl (hw _ (List.mem_of_getElem? (i := 47) rfl))) (hw _ (List.mem_of_getElem? (i := 6) rfl)) (ty := (.array .int)) (by decide) rfl rfl (g := (mkF m 80 #[.val (.ref o1), .val (.int (0 : Int32)), .val (.int (0 : Int32)), .val (.int (0 : Int32)), .val (.int (3 : Int32))] [(.ref b44), (.ref o1)])) rfl rfl (hb hby d2_80)
  have N53 := Fr.snoc X53 N43 gn_o1
  have K53 : Keep h0 h53 [o1] := K44.wr W53 (Or.inl (List.mem_of_getElem? (i := 0) rfl))
  have F53 := f52.same W53
  refine step (T53.setTop (mkF m 83 #[.val (.ref o1), .val (.int (0 : Int32)), .val (.int (0 : Int32)), .val (.int (0 : Int32)), .val (.int (3 : Int32))] [])) (fun t k => st53 t k) ?_
  have f54 := (((((((((((F9.ext E10).other W15 (Or.inr (slot_ne (Or.inr (hw _ (List.mem_of_getElem? (i := 33) rfl))) (Or.inl (hw _ (List.mem_of_getElem? (i := 35) rfl))) (by decide) (t := .boolean) (t' := (.array .int)) (by decide) (by decide)))).ext E16).other W22 (Or.inr (slot_ne (Or.inr (hw _ (List.mem_of_getElem? (i := 33) rfl))) (Or.inl (hw _ (List.mem_of_getElem? (i := 37) rfl))) (by decide) (t := .boolean) (t' := (.array .int)) (by decide) (by decide)))).ext E23).other W30 (Or.inr (slot_ne (Or.inr (hw _ (List.mem_of_getElem? (i := 33) rfl))) (Or.inl (hw _ (List.mem_of_getElem? (i := 39) rfl))) (by decide) (t := .boolean) (t' := (.array .int)) (by decide) (by decide)))).ext E31).other W39 (Or.inr (slot_ne (Or.inr (hw _ (List.mem_of_getElem? (i := 33) rfl))) (Or.inl (hw _ (List.mem_of_getElem? (i := 43) rfl))) (by decide) (t := .boolean) (t' := (.array (.object "com/example/qopa/qopa/math/Rational"))) (by decide) (by decide)))).other W43 (Or.inr (slot_ne (Or.inr (hw _ (List.mem_of_getElem? (i := 33) rfl))) (Or.inl (hw _ (List.mem_of_getElem? (i := 45) rfl))) (by decide) (t := .boolean) (t' := (.array (.object "com/example/qopa/qopa/math/Rational"))) (by decide) (by decide)))).ext E44).other W53 (Or.inr (slot_ne (Or.inr (hw _ (List.mem_of_getElem? (i := 33) rfl))) (Or.inl (hw _ (List.mem_of_getElem? (i := 47) rfl))) (by decide) (t := .boolean) (t' := (.array .int)) (by decide) (by decide))))
  have f55 := (((((((((((((((Pm3.ext E2).keep K3q (ninS ne_o1_b2 nin0)).other W6 (Or.inr (slot_ne (Or.inl (hw _ (List.mem_of_getElem? (i := 85) rfl))) (Or.inr (hw _ (List.mem_of_getElem? (i := 31) rfl))) (by decide) (t := .int) (t' := (.object "java/util/Map")) (by decide) (by decide)))).other W9 (Or.inr (slot_ne (Or.inl (hw _ (List.mem_of_getElem? (i := 85) rfl))) (Or.inr (hw _ (List.mem_of_getElem? (i := 33) rfl))) (by decide) (t := .int) (t' := .boolean) (by decide) (by decide)))).ext E10).other W15 (Or.inr (slot_ne (Or.inl (hw _ (List.mem_of_getElem? (i := 85) rfl))) (Or.inl (hw _ (List.mem_of_getElem? (i := 35) rfl))) (by decide) (t := .int) (t' := (.array .int)) (by decide) (by decide)))).ext E16).other W22 (Or.inr (slot_ne (Or.inl (hw _ (List.mem_of_getElem? (i := 85) rfl))) (Or.inl (hw _ (List.mem_of_getElem? (i := 37) rfl))) (by decide) (t := .int) (t' := (.array .int)) (by decide) (by decide)))).ext E23).other W30 (Or.inr (slot_ne (Or.inl (hw _ (List.mem_of_getElem? (i := 85) rfl))) (Or.inl (hw _ (List.mem_of_getElem? (i := 39) rfl))) (by decide) (t := .int) (t' := (.array .int)) (by decide) (by decide)))).ext E31).other W39 (Or.inr (slot_ne (Or.inl (hw _ (List.mem_of_getElem? (i := 85) rfl))) (Or.inl (hw _ (List.mem_of_getElem? (i := 43) rfl))) (by decide) (t := .int) (t' := (.array (.object "com/example/qopa/qopa/math/Rational"))) (by decide) (by decide)))).other W43 (Or.inr (slot_ne (Or.inl (hw _ (List.mem_of_getElem? (i := 85) rfl))) (Or.inl (hw _ (List.mem_of_getElem? (i := 45) rfl))) (by decide) (t := .int) (t' := (.array (.object "com/example/qopa/qopa/math/Rational"))) (by decide) (by decide)))).ext E44).other W53 (Or.inr (slot_ne (Or.inl (hw _ (List.mem_of_getElem? (i := 85) rfl))) (Or.inl (hw _ (List.mem_of_getElem? (i := 47) rfl))) (by decide) (t := .int) (t' := (.array .int)) (by decide) (by decide))))
  have f56 := (((((((((F15.ext E16).other W22 (Or.inr (slot_ne (Or.inl (hw _ (List.mem_of_getElem? (i := 35) rfl))) (Or.inl (hw _ (List.mem_of_getElem? (i := 37) rfl))) (by decide) (t := (.array .int)) (t' := (.array .int)) (by decide) (by decide)))).ext E23).other W30 (Or.inr (slot_ne (Or.inl (hw _ (List.mem_of_getElem? (i := 35) rfl))) (Or.inl (hw _ (List.mem_of_getElem? (i := 39) rfl))) (by decide) (t := (.array .int)) (t' := (.array .int)) (by decide) (by decide)))).ext E31).other W39 (Or.inr (slot_ne (Or.inl (hw _ (List.mem_of_getElem? (i := 35) rfl))) (Or.inl (hw _ (List.mem_of_getElem? (i := 43) rfl))) (by decide) (t := (.array .int)) (t' := (.array (.object "com/example/qopa/qopa/math/Rational"))) (by decide) (by decide)))).other W43 (Or.inr (slot_ne (Or.inl (hw _ (List.mem_of_getElem? (i := 35) rfl))) (Or.inl (hw _ (List.mem_of_getElem? (i := 45) rfl))) (by decide) (t := (.array .int)) (t' := (.array (.object "com/example/qopa/qopa/math/Rational"))) (by decide) (by decide)))).ext E44).other W53 (Or.inr (slot_ne (Or.inl (hw _ (List.mem_of_getElem? (i := 35) rfl))) (Or.inl (hw _ (List.mem_of_getElem? (i := 47) rfl))) (by decide) (t := (.array .int)) (t' := (.array .int)) (by decide) (by decide))))
  have f57 := (((((((F22.ext E23).other W30 (Or.inr (slot_ne (Or.inl (hw _ (List.mem_of_getElem? (i := 37) rfl))) (Or.inl (hw _ (List.mem_of_getElem? (i := 39) rfl))) (by decide) (t := (.array .int)) (t' := (.array .int)) (by decide) (by decide)))).ext E31).other W39 (Or.inr (slot_ne (Or.inl (hw _ (List.mem_of_getElem? (i := 37) rfl))) (Or.inl (hw _ (List.mem_of_getElem? (i := 43) rfl))) (by decide) (t := (.array .int)) (t' := (.array (.object "com/example/qopa/qopa/math/Rational"))) (by decide) (by decide)))).other W43 (Or.inr (slot_ne (Or.inl (hw _ (List.mem_of_getElem? (i := 37) rfl))) (Or.inl (hw _ (List.mem_of_getElem? (i := 45) rfl))) (by decide) (t := (.array .int)) (t' := (.array (.object "com/example/qopa/qopa/math/Rational"))) (by decide) (by decide)))).ext E44).other W53 (Or.inr (slot_ne (Or.inl (hw _ (List.mem_of_getElem? (i := 37) rfl))) (Or.inl (hw _ (List.mem_of_getElem? (i := 47) rfl))) (by decide) (t := (.array .int)) (t' := (.array .int)) (by decide) (by decide))))
  have f58 := (((F39.other W43 (Or.inr (slot_ne (Or.inl (hw _ (List.mem_of_getElem? (i := 43) rfl))) (Or.inl (hw _ (List.mem_of_getElem? (i := 45) rfl))) (by decide) (t := (.array (.object "com/example/qopa/qopa/math/Rational"))) (t' := (.array (.object "com/example/qopa/qopa/math/Rational"))) (by decide) (by decide)))).ext E44).other W53 (Or.inr (slot_ne (Or.inl (hw _ (List.mem_of_getElem? (i := 43) rfl))) (Or.inl (hw _ (List.mem_of_getElem? (i := 47) rfl))) (by decide) (t := (.array (.object "com/example/qopa/qopa/math/Rational"))) (t' := (.array .int)) (by decide) (by decide))))
  have f59 := ((((((((((((F6.other W9 (Or.inr (slot_ne (Or.inr (hw _ (List.mem_of_getElem? (i := 31) rfl))) (Or.inr (hw _ (List.mem_of_getElem? (i := 33) rfl))) (by decide) (t := (.object "java/util/Map")) (t' := .boolean) (by decide) (by decide)))).ext E10).other W15 (Or.inr (slot_ne (Or.inr (hw _ (List.mem_of_getElem? (i := 31) rfl))) (Or.inl (hw _ (List.mem_of_getElem? (i := 35) rfl))) (by decide) (t := (.object "java/util/Map")) (t' := (.array .int)) (by decide) (by decide)))).ext E16).other W22 (Or.inr (slot_ne (Or.inr (hw _ (List.mem_of_getElem? (i := 31) rfl))) (Or.inl (hw _ (List.mem_of_getElem? (i := 37) rfl))) (by decide) (t := (.object "java/util/Map")) (t' := (.array .int)) (by decide) (by decide)))).ext E23).other W30 (Or.inr (slot_ne (Or.inr (hw _ (List.mem_of_getElem? (i := 31) rfl))) (Or.inl (hw _ (List.mem_of_getElem? (i := 39) rfl))) (by decide) (t := (.object "java/util/Map")) (t' := (.array .int)) (by decide) (by decide)))).ext E31).other W39 (Or.inr (slot_ne (Or.inr (hw _ (List.mem_of_getElem? (i := 31) rfl))) (Or.inl (hw _ (List.mem_of_getElem? (i := 43) rfl))) (by decide) (t := (.object "java/util/Map")) (t' := (.array (.object "com/example/qopa/qopa/math/Rational"))) (by decide) (by decide)))).other W43 (Or.inr (slot_ne (Or.inr (hw _ (List.mem_of_getElem? (i := 31) rfl))) (Or.inl (hw _ (List.mem_of_getElem? (i := 45) rfl))) (by decide) (t := (.object "java/util/Map")) (t' := (.array (.object "com/example/qopa/qopa/math/Rational"))) (by decide) (by decide)))).ext E44).other W53 (Or.inr (slot_ne (Or.inr (hw _ (List.mem_of_getElem? (i := 31) rfl))) (Or.inl (hw _ (List.mem_of_getElem? (i := 47) rfl))) (by decide) (t := (.object "java/util/Map")) (t' := (.array .int)) (by decide) (by decide))))
  have f60 := (((((((((((((((Pm8.ext E2).keep K3q (ninS ne_o1_b2 nin0)).other W6 (Or.inr (slot_ne (Or.inl (hw _ (List.mem_of_getElem? (i := 80) rfl))) (Or.inr (hw _ (List.mem_of_getElem? (i := 31) rfl))) (by decide) (t := .int) (t' := (.object "java/util/Map")) (by decide) (by decide)))).other W9 (Or.inr (slot_ne (Or.inl (hw _ (List.mem_of_getElem? (i := 80) rfl))) (Or.inr (hw _ (List.mem_of_getElem? (i := 33) rfl))) (by decide) (t := .int) (t' := .boolean) (by decide) (by decide)))).ext E10).other W15 (Or.inr (slot_ne (Or.inl (hw _ (List.mem_of_getElem? (i := 80) rfl))) (Or.inl (hw _ (List.mem_of_getElem? (i := 35) rfl))) (by decide) (t := .int) (t' := (.array .int)) (by decide) (by decide)))).ext E16).other W22 (Or.inr (slot_ne (Or.inl (hw _ (List.mem_of_getElem? (i := 80) rfl))) (Or.inl (hw _ (List.mem_of_getElem? (i := 37) rfl))) (by decide) (t := .int) (t' := (.array .int)) (by decide) (by decide)))).ext E23).other W30 (Or.inr (slot_ne (Or.inl (hw _ (List.mem_of_getElem? (i := 80) rfl))) (Or.inl (hw _ (List.mem_of_getElem? (i := 39) rfl))) (by decide) (t := .int) (t' := (.array .int)) (by decide) (by decide)))).ext E31).other W39 (Or.inr (slot_ne (Or.inl (hw _ (List.mem_of_getElem? (i := 80) rfl))) (Or.inl (hw _ (List.mem_of_getElem? (i := 43) rfl))) (by decide) (t := .int) (t' := (.array (.object "com/example/qopa/qopa/math/Rational"))) (by decide) (by decide)))).other W43 (Or.inr (slot_ne (Or.inl (hw _ (List.mem_of_getElem? (i := 80) rfl))) (Or.inl (hw _ (List.mem_of_getElem? (i := 45) rfl))) (by decide) (t := .int) (t' := (.array (.object "com/example/qopa/qopa/math/Rational"))) (by decide) (by decide)))).ext E44).other W53 (Or.inr (slot_ne (Or.inl (hw _ (List.mem_of_getElem? (i := 80) rfl))) (Or.inl (hw _ (List.mem_of_getElem? (i := 47) rfl))) (by decide) (t := .int) (t' := (.array .int)) (by decide) (by decide))))
  have f61 := (((((F30.ext E31).other W39 (Or.inr (slot_ne (Or.inl (hw _ (List.mem_of_getElem? (i := 39) rfl))) (Or.inl (hw _ (List.mem_of_getElem? (i := 43) rfl))) (by decide) (t := (.array .int)) (t' := (.array (.object "com/example/qopa/qopa/math/Rational"))) (by decide) (by decide)))).other W43 (Or.inr (slot_ne (Or.inl (hw _ (List.mem_of_getElem? (i := 39) rfl))) (Or.inl (hw _ (List.mem_of_getElem? (i := 45) rfl))) (by decide) (t := (.array .int)) (t' := (.array (.object "com/example/qopa/qopa/math/Rational"))) (by decide) (by decide)))).ext E44).other W53 (Or.inr (slot_ne (Or.inl (hw _ (List.mem_of_getElem? (i := 39) rfl))) (Or.inl (hw _ (List.mem_of_getElem? (i := 47) rfl))) (by decide) (t := (.array .int)) (t' := (.array .int)) (by decide) (by decide))))
  have f62 := (((((((((((((((Pm10.ext E2).keep K3q (ninS ne_o1_b2 nin0)).other W6 (Or.inr (slot_ne (Or.inl (hw _ (List.mem_of_getElem? (i := 59) rfl))) (Or.inr (hw _ (List.mem_of_getElem? (i := 31) rfl))) (by decide) (t := .int) (t' := (.object "java/util/Map")) (by decide) (by decide)))).other W9 (Or.inr (slot_ne (Or.inl (hw _ (List.mem_of_getElem? (i := 59) rfl))) (Or.inr (hw _ (List.mem_of_getElem? (i := 33) rfl))) (by decide) (t := .int) (t' := .boolean) (by decide) (by decide)))).ext E10).other W15 (Or.inr (slot_ne (Or.inl (hw _ (List.mem_of_getElem? (i := 59) rfl))) (Or.inl (hw _ (List.mem_of_getElem? (i := 35) rfl))) (by decide) (t := .int) (t' := (.array .int)) (by decide) (by decide)))).ext E16).other W22 (Or.inr (slot_ne (Or.inl (hw _ (List.mem_of_getElem? (i := 59) rfl))) (Or.inl (hw _ (List.mem_of_getElem? (i := 37) rfl))) (by decide) (t := .int) (t' := (.array .int)) (by decide) (by decide)))).ext E23).other W30 (Or.inr (slot_ne (Or.inl (hw _ (List.mem_of_getElem? (i := 59) rfl))) (Or.inl (hw _ (List.mem_of_getElem? (i := 39) rfl))) (by decide) (t := .int) (t' := (.array .int)) (by decide) (by decide)))).ext E31).other W39 (Or.inr (slot_ne (Or.inl (hw _ (List.mem_of_getElem? (i := 59) rfl))) (Or.inl (hw _ (List.mem_of_getElem? (i := 43) rfl))) (by decide) (t := .int) (t' := (.array (.object "com/example/qopa/qopa/math/Rational"))) (by decide) (by decide)))).other W43 (Or.inr (slot_ne (Or.inl (hw _ (List.mem_of_getElem? (i := 59) rfl))) (Or.inl (hw _ (List.mem_of_getElem? (i := 45) rfl))) (by decide) (t := .int) (t' := (.array (.object "com/example/qopa/qopa/math/Rational"))) (by decide) (by decide)))).ext E44).other W53 (Or.inr (slot_ne (Or.inl (hw _ (List.mem_of_getElem? (i := 59) rfl))) (Or.inl (hw _ (List.mem_of_getElem? (i := 47) rfl))) (by decide) (t := .int) (t' := (.array .int)) (by decide) (by decide))))
  have f63 := ((F43.ext E44).other W53 (Or.inr (slot_ne (Or.inl (hw _ (List.mem_of_getElem? (i := 45) rfl))) (Or.inl (hw _ (List.mem_of_getElem? (i := 47) rfl))) (by decide) (t := (.array (.object "com/example/qopa/qopa/math/Rational"))) (t' := (.array .int)) (by decide) (by decide))))
  have f64 := ((f46.ext E44).wr W53)
  have f65 := (((((((((((((q0_3.other W6 (Or.inl (Ne.symm ne_o1_b2))).other W9 (Or.inl (Ne.symm ne_o1_b2))).ext E10).other W15 (Or.inl (Ne.symm ne_o1_b2))).ext E16).other W22 (Or.inl (Ne.symm ne_o1_b2))).ext E23).other W30 (Or.inl (Ne.symm ne_o1_b2))).ext E31).other W39 (Or.inl (Ne.symm ne_o1_b2))).other W43 (Or.inl (Ne.symm ne_o1_b2))).ext E44).other W53 (Or.inl (Ne.symm ne_o1_b2)))
  have f66 := ((f47.ext E44).other W53 (Ne.symm ne_o1_b10))
  have f67 := ((f48.ext E44).other W53 (Ne.symm ne_o1_b16))
  have f68 := ((f49.ext E44).other W53 (Ne.symm ne_o1_b23))
  have f69 := ((f50.ext E44).other W53 (Ne.symm ne_o1_b31))
  have f70 := (V44.other W53 (Ne.symm ne_o1_b44))
  refine fin (v := none) X53 (fun _ => rfl) ?_ (by decide) (by decide) (fun fs hr => X53.returnOut hx hret (hb hby d2_83) hr)
  show Q2_2 Z o1 h0 n0 (none) T53.heap _
  rw [e53]
  exact ⟨b2, b10, b16, b23, b31, b44, k10, k16, k23, k31, k44, rfl, N53, K53, sz_b2, sz_b10, sz_b16, sz_b23, sz_b31, sz_b44, ne_b2_b23, ne_b2_b31, ne_b2_b44, (Ne.symm ne_b2_b10), ne_b10_b16, ne_b10_b23, ne_b10_b31, ne_b10_b44, (Ne.symm ne_b2_b16), ne_b16_b23, ne_b16_b31, ne_b16_b44, ne_b23_b31, ne_b23_b44, ne_b31_b44, F53, f54, f55, f56, f57, f58, f59, f60, f61, f62, f63, f64, f65, f66, f67, f68, f69, O31, f70⟩
theorem d6_0 : decode prog_73_method_3_code 0 = .ok (.aload_n 0, 1) := by decide +kernel
theorem d6_1 : decode prog_73_method_3_code 1 = .ok (.iload_n 1, 1) := by decide +kernel
theorem d6_2 : decode prog_73_method_3_code 2 = .ok (.aload_n 2, 1) := by decide +kernel
theorem d6_3 : decode prog_73_method_3_code 3 = .ok (.aload_n 2, 1) := by decide +kernel
theorem d6_4 : decode prog_73_method_3_code 4 = .ok (.iload_n 3, 1) := by decide +kernel
theorem d6_5 : decode prog_73_method_3_code 5 = .ok (.invokevirtual 62, 3) := by decide +kernel
theorem d6_8 : decode prog_73_method_3_code 8 = .ok (.return_, 1) := by decide +kernel
theorem pd_8 : parseMethodDescriptor "(ILcom/example/qopa/qopa/math/Rational;Lcom/example/qopa/qopa/math/Rational;I)V" = some ⟨[.int, (.object "com/example/qopa/qopa/math/Rational"), (.object "com/example/qopa/qopa/math/Rational"), .int], none⟩ := by decide +kernel
theorem d7_0 : decode prog_73_method_2_code 0 = .ok (.aload_n 0, 1) := by decide +kernel
theorem d7_1 : decode prog_73_method_2_code 1 = .ok (.getfield 44, 3) := by decide +kernel
theorem d7_4 : decode prog_73_method_2_code 4 = .ok (.aload_n 0, 1) := by decide +kernel
theorem d7_5 : decode prog_73_method_2_code 5 = .ok (.getfield 29, 3) := by decide +kernel
theorem d7_8 : decode prog_73_method_2_code 8 = .ok (.arraylength, 1) := by decide +kernel
theorem d7_9 : decode prog_73_method_2_code 9 = .ok (.if_icmp .ne 84, 3) := by decide +kernel
theorem d7_12 : decode prog_73_method_2_code 12 = .ok (.aload_n 0, 1) := by decide +kernel
theorem d7_13 : decode prog_73_method_2_code 13 = .ok (.getfield 44, 3) := by decide +kernel
theorem d7_16 : decode prog_73_method_2_code 16 = .ok (.invokestatic 48, 3) := by decide +kernel
theorem d7_19 : decode prog_73_method_2_code 19 = .ok (.istore 5, 2) := by decide +kernel
theorem d7_21 : decode prog_73_method_2_code 21 = .ok (.aload_n 0, 1) := by decide +kernel
theorem d7_22 : decode prog_73_method_2_code 22 = .ok (.aload_n 0, 1) := by decide +kernel
theorem d7_23 : decode prog_73_method_2_code 23 = .ok (.getfield 29, 3) := by decide +kernel
theorem d7_26 : decode prog_73_method_2_code 26 = .ok (.iload 5, 2) := by decide +kernel
theorem d7_28 : decode prog_73_method_2_code 28 = .ok (.invokestatic 52, 3) := by decide +kernel
theorem d7_31 : decode prog_73_method_2_code 31 = .ok (.putfield 29, 3) := by decide +kernel
theorem d7_34 : decode prog_73_method_2_code 34 = .ok (.aload_n 0, 1) := by decide +kernel
theorem d7_35 : decode prog_73_method_2_code 35 = .ok (.aload_n 0, 1) := by decide +kernel
theorem d7_36 : decode prog_73_method_2_code 36 = .ok (.getfield 34, 3) := by decide +kernel
theorem d7_39 : decode prog_73_method_2_code 39 = .ok (.iload 5, 2) := by decide +kernel
theorem d7_41 : decode prog_73_method_2_code 41 = .ok (.invokestatic 58, 3) := by decide +kernel
theorem d7_44 : decode prog_73_method_2_code 44 = .ok (.checkcast 61, 3) := by decide +kernel
theorem d7_47 : decode prog_73_method_2_code 47 = .ok (.putfield 34, 3) := by decide +kernel
theorem d7_50 : decode prog_73_method_2_code 50 = .ok (.aload_n 0, 1) := by decide +kernel
theorem d7_51 : decode prog_73_method_2_code 51 = .ok (.aload_n 0, 1) := by decide +kernel
theorem d7_52 : decode prog_73_method_2_code 52 = .ok (.getfield 18, 3) := by decide +kernel
theorem d7_55 : decode prog_73_method_2_code 55 = .ok (.ifCond .eq 18, 3) := by decide +kernel
theorem d7_58 : decode prog_73_method_2_code 58 = .ok (.aload_n 0, 1) := by decide +kernel
theorem d7_59 : decode prog_73_method_2_code 59 = .ok (.getfield 38, 3) := by decide +kernel
theorem d7_62 : decode prog_73_method_2_code 62 = .ok (.iload 5, 2) := by decide +kernel
theorem d7_64 : decode prog_73_method_2_code 64 = .ok (.invokestatic 58, 3) := by decide +kernel
theorem d7_67 : decode prog_73_method_2_code 67 = .ok (.checkcast 61, 3) := by decide +kernel
theorem d7_70 : decode prog_73_method_2_code 70 = .ok (.goto 7, 3) := by decide +kernel
theorem d7_73 : decode prog_73_method_2_code 73 = .ok (.aload_n 0, 1) := by decide +kernel
theorem d7_74 : decode prog_73_method_2_code 74 = .ok (.getfield 34, 3) := by decide +kernel
theorem d7_77 : decode prog_73_method_2_code 77 = .ok (.putfield 38, 3) := by decide +kernel
theorem d7_80 : decode prog_73_method_2_code 80 = .ok (.aload_n 0, 1) := by decide +kernel
theorem d7_81 : decode prog_73_method_2_code 81 = .ok (.aload_n 0, 1) := by decide +kernel
theorem d7_82 : decode prog_73_method_2_code 82 = .ok (.getfield 41, 3) := by decide +kernel
theorem d7_85 : decode prog_73_method_2_code 85 = .ok (.iload 5, 2) := by decide +kernel
theorem d7_87 : decode prog_73_method_2_code 87 = .ok (.invokestatic 52, 3) := by decide +kernel
theorem d7_90 : decode prog_73_method_2_code 90 = .ok (.putfield 41, 3) := by decide +kernel
theorem d7_93 : decode prog_73_method_2_code 93 = .ok (.aload_n 0, 1) := by decide +kernel
theorem d7_94 : decode prog_73_method_2_code 94 = .ok (.getfield 29, 3) := by decide +kernel
theorem d7_97 : decode prog_73_method_2_code 97 = .ok (.aload_n 0, 1) := by decide +kernel
theorem d7_98 : decode prog_73_method_2_code 98 = .ok (.getfield 44, 3) := by decide +kernel
theorem d7_101 : decode prog_73_method_2_code 101 = .ok (.iload_n 1, 1) := by decide +kernel
theorem d7_102 : decode prog_73_method_2_code 102 = .ok (.iastore, 1) := by decide +kernel
theorem d7_103 : decode prog_73_method_2_code 103 = .ok (.aload_n 0, 1) := by decide +kernel
theorem d7_104 : decode prog_73_method_2_code 104 = .ok (.getfield 34, 3) := by decide +kernel
theorem d7_107 : decode prog_73_method_2_code 107 = .ok (.aload_n 0, 1) := by decide +kernel
theorem d7_108 : decode prog_73_method_2_code 108 = .ok (.getfield 44, 3) := by decide +kernel
theorem d7_111 : decode prog_73_method_2_code 111 = .ok (.aload_n 2, 1) := by decide +kernel
theorem d7_112 : decode prog_73_method_2_code 112 = .ok (.aastore, 1) := by decide +kernel
theorem d7_113 : decode prog_73_method_2_code 113 = .ok (.aload_n 0, 1) := by decide +kernel
theorem d7_114 : decode prog_73_method_2_code 114 = .ok (.getfield 38, 3) := by decide +kernel
theorem d7_117 : decode prog_73_method_2_code 117 = .ok (.aload_n 0, 1) := by decide +kernel
theorem d7_118 : decode prog_73_method_2_code 118 = .ok (.getfield 44, 3) := by decide +kernel
theorem d7_121 : decode prog_73_method_2_code 121 = .ok (.aload_n 3, 1) := by decide +kernel
theorem d7_122 : decode prog_73_method_2_code 122 = .ok (.aastore, 1) := by decide +kernel
theorem d7_123 : decode prog_73_method_2_code 123 = .ok (.aload_n 0, 1) := by decide +kernel
theorem d7_124 : decode prog_73_method_2_code 124 = .ok (.getfield 41, 3) := by decide +kernel
theorem d7_127 : decode prog_73_method_2_code 127 = .ok (.aload_n 0, 1) := by decide +kernel
theorem d7_128 : decode prog_73_method_2_code 128 = .ok (.getfield 44, 3) := by decide +kernel
theorem d7_131 : decode prog_73_method_2_code 131 = .ok (.iload 4, 2) := by decide +kernel
theorem d7_133 : decode prog_73_method_2_code 133 = .ok (.iastore, 1) := by decide +kernel
theorem d7_134 : decode prog_73_method_2_code 134 = .ok (.aload_n 0, 1) := by decide +kernel
theorem d7_135 : decode prog_73_method_2_code 135 = .ok (.dup, 1) := by decide +kernel
theorem d7_136 : decode prog_73_method_2_code 136 = .ok (.getfield 44, 3) := by decide +kernel
theorem d7_139 : decode prog_73_method_2_code 139 = .ok (.iconst 1, 1) := by decide +kernel
theorem d7_140 : decode prog_73_method_2_code 140 = .ok (.iadd, 1) := by decide +kernel
theorem d7_141 : decode prog_73_method_2_code 141 = .ok (.putfield 44, 3) := by decide +kernel
theorem d7_144 : decode prog_73_method_2_code 144 = .ok (.return_, 1) := by decide +kernel
theorem ef_7_6 (m : MethodId) (x0 : Addr) (x4 : Int32) : entryFrame m #[(.ref x0), (.int (0 : Int32)), .null, .null, (.int x4)] 6 = mkF m 0 #[.val (.ref x0), .val (.int (0 : Int32)), .val .null, .val .null, .val (.int x4), .unset] [] := by first | (simp [entryFrame, mkF, argsToLocals, Value.category]; done) | rfl
def Q7_6 (Z : State) (o1 : Addr) (i1 : Int32) (o2 : Addr) (o3 : Addr) (o4 : Addr) (o5 : Addr) (o6 : Addr) (o7 : Addr) (kc2 : ClassId) (kc3 : ClassId) (kc4 : ClassId) (kc5 : ClassId) (kc6 : ClassId) (h0 : Heap) (n0 : Nat) (v : Option Value) (h : Heap) (L : List Loc) : Prop := v = none ∧ Fr n0 L ∧ Keep h0 h [o7, o5, o2, o1] ∧ Arv Z h o7 kc6 .int (3 : Int32) [(.int (0 : Int32)), (.int (0 : Int32)), (.int (0 : Int32))] (.int (0 : Int32)) ∧ Arv Z h o5 kc5 (.object "com/example/qopa/qopa/math/Rational") (3 : Int32) [.null, .null, .null] .null ∧ Arv Z h o2 kc2 .int (3 : Int32) [(.int i1), (.int (0 : Int32)), (.int (0 : Int32))] (.int (0 : Int32)) ∧ Fld Z h o1 "com/example/qopa/qopa/model/ModelBuilder" "action" "[I" (.ref o2) ∧ Fld Z h o1 "com/example/qopa/qopa/model/ModelBuilder" "bounded" "Z" (.int (0 : Int32)) ∧ Fld Z h o1 "com/example/qopa/qopa/model/ModelBuilder" "choiceCount" "I" (.int (0 : Int32)) ∧ Fld Z h o1 "com/example/qopa/qopa/model/ModelBuilder" "firstChoice" "[I" (.ref o3) ∧ Fld Z h o1 "com/example/qopa/qopa/model/ModelBuilder" "firstTransition" "[I" (.ref o4) ∧ Fld Z h o1 "com/example/qopa/qopa/model/ModelBuilder" "lower" "[Lcom/example/qopa/qopa/math/Rational;" (.ref o5) ∧ Fld Z h o1 "com/example/qopa/qopa/model/ModelBuilder" "merged" "Ljava/util/Map;" (.ref o6) ∧ Fld Z h o1 "com/example/qopa/qopa/model/ModelBuilder" "stateCount" "I" (.int (0 : Int32)) ∧ Fld Z h o1 "com/example/qopa/qopa/model/ModelBuilder" "target" "[I" (.ref o7) ∧ Fld Z h o1 "com/example/qopa/qopa/model/ModelBuilder" "transitionCount" "I" (.int (1 : Int32)) ∧ Fld Z h o1 "com/example/qopa/qopa/model/ModelBuilder" "upper" "[Lcom/example/qopa/qopa/math/Rational;" (.ref o5)
set_option maxRecDepth 65536 in
set_option maxHeartbeats 40000000 in
theorem rm7_6 (l : Launch) (Z : State) (a0 : Array Value) (hw : ∀ d ∈ tables_1, d.before a0 Z = true) (ws : List Jvm.Cond) (o1 : Addr) (i1 : Int32) (o2 : Addr) (o3 : Addr) (o4 : Addr) (o5 : Addr) (o6 : Addr) (o7 : Addr) (kc2 : ClassId) (kc3 : ClassId) (kc4 : ClassId) (kc5 : ClassId) (kc6 : ClassId) (h0 : Heap) (n0 : Nat) (Z0 : n0 ≤ h0.size) (Pm0 : Exa Z h0 o1 "com/example/qopa/qopa/model/ModelBuilder") (Pm1 : Fld Z h0 o1 "com/example/qopa/qopa/model/ModelBuilder" "action" "[I" (.ref o2)) (Pm2 : Fld Z h0 o1 "com/example/qopa/qopa/model/ModelBuilder" "bounded" "Z" (.int (0 : Int32))) (Pm3 : Fld Z h0 o1 "com/example/qopa/qopa/model/ModelBuilder" "choiceCount" "I" (.int (0 : Int32))) (Pm4 : Fld Z h0 o1 "com/example/qopa/qopa/model/ModelBuilder" "firstChoice" "[I" (.ref o3)) (Pm5 : Fld Z h0 o1 "com/example/qopa/qopa/model/ModelBuilder" "firstTransition" "[I" (.ref o4)) (Pm6 : Fld Z h0 o1 "com/example/qopa/qopa/model/ModelBuilder" "lower" "[Lcom/example/qopa/qopa/math/Rational;" (.ref o5)) (Pm7 : Fld Z h0 o1 "com/example/qopa/qopa/model/ModelBuilder" "merged" "Ljava/util/Map;" (.ref o6)) (Pm8 : Fld Z h0 o1 "com/example/qopa/qopa/model/ModelBuilder" "stateCount" "I" (.int (0 : Int32))) (Pm9 : Fld Z h0 o1 "com/example/qopa/qopa/model/ModelBuilder" "target" "[I" (.ref o7)) (Pm10 : Fld Z h0 o1 "com/example/qopa/qopa/model/ModelBuilder" "transitionCount" "I" (.int (0 : Int32))) (Pm11 : Fld Z h0 o1 "com/example/qopa/qopa/model/ModelBuilder" "upper" "[Lcom/example/qopa/qopa/math/Rational;" (.ref o5)) (Pm12 : Arv Z h0 o2 kc2 .int (3 : Int32) [(.int (0 : Int32)), (.int (0 : Int32)), (.int (0 : Int32))] (.int (0 : Int32))) (Pm13 : Arv Z h0 o3 kc3 .int (1 : Int32) [(.int (0 : Int32))] (.int (0 : Int32))) (Pm14 : Arv Z h0 o4 kc4 .int (1 : Int32) [(.int (0 : Int32))] (.int (0 : Int32))) (Pm15 : Arv Z h0 o5 kc5 (.object "com/example/qopa/qopa/math/Rational") (3 : Int32) [.null, .null, .null] .null) (O16 : Ovr Z kc5 "com/example/qopa/qopa/math/Rational") (Pm17 : Exa Z h0 o6 "java/util/HashMap") (Pm18 : Arv Z h0 o7 kc6 .int (3 : Int32) [(.int (0 : Int32)), (.int (0 : Int32)), (.int (0 : Int32))] (.int (0 : Int32))) (gn_o1 : n0 ≤ o1) (ne_o1_o2 : o1 ≠ o2) (ne_o1_o3 : o1 ≠ o3) (ne_o1_o4 : o1 ≠ o4) (ne_o1_o5 : o1 ≠ o5) (ne_o1_o6 : o1 ≠ o6) (ne_o1_o7 : o1 ≠ o7) (gn_o2 : n0 ≤ o2) (ne_o2_o3 : o2 ≠ o3) (ne_o2_o4 : o2 ≠ o4) (ne_o2_o5 : o2 ≠ o5) (ne_o2_o6 : o2 ≠ o6) (ne_o2_o7 : o2 ≠ o7) (gn_o3 : n0 ≤ o3) (ne_o3_o4 : o3 ≠ o4) (ne_o3_o5 : o3 ≠ o5) (ne_o3_o6 : o3 ≠ o6) (ne_o3_o7 : o3 ≠ o7) (gn_o4 : n0 ≤ o4) (ne_o4_o5 : o4 ≠ o5) (ne_o4_o6 : o4 ≠ o6) (ne_o4_o7 : o4 ≠ o7) (gn_o5 : n0 ≤ o5) (ne_o5_o6 : o5 ≠ o6) (ne_o5_o7 : o5 ≠ o7) (gn_o6 : n0 ≤ o6) (ne_o6_o7 : o6 ≠ o7) (gn_o7 : n0 ≤ o7) (hy47 : ¬ (i1 < (-1 : Int32))) (hy48 : i1 < (4 : Int32))  :
    MetFree l (⟨"com/example/qopa/qopa/model/ModelBuilder", "add", "(ILcom/example/qopa/qopa/math/Rational;Lcom/example/qopa/qopa/math/Rational;I)V"⟩ : MethodName) (head1 (Jvm.Cond.code (⟨"com/example/qopa/qopa/model/ModelBuilder", "add", "(ILcom/example/qopa/qopa/math/Rational;Lcom/example/qopa/qopa/math/Rational;I)V"⟩ : MethodName) prog_73_method_2_code 6 none :: ws) ({ frames := 0, cells := 0, slots := 0, locals := 0 } : Room)) (fun a U => a = #[(.ref o1), (.int (0 : Int32)), .null, .null, (.int i1)] ∧ Z.Warmed39 U.vm ∧ U.heap = h0) (fun _ _ _ _ _ => True) (fun _ U o U' => ∃ v L, o = .returned v ∧ Q7_6 Z o1 i1 o2 o3 o4 o5 o6 o7 kc2 kc3 kc4 kc5 kc6 h0 n0 v U'.heap L ∧ FrameEnd U o U' L ({ frames := 0, cells := 0, slots := 0, locals := 0 } : Room).cells ({ frames := 0, cells := 0, slots := 0, locals := 0 } : Room).slots) := by
  refine own_body (plainFor_of_name pn_1) ?_
  intro p e s m below meth c s₁ G hx hby hml hZ hown hnm hret X0 e0 step fin
  replace hown : s.vm.findClass "com/example/qopa/qopa/model/ModelBuilder" = some m.cls := hown
  replace hnm : meth.name = "add" := hnm
  replace hret : meth.sig.returnType = none := hret
  replace hml : c.maxLocals = 6 := hml
  have N0 := Fr.nil n0
  refine step (s₁.setTop (mkF m 0 #[.val (.ref o1), .val (.int (0 : Int32)), .val .null, .val .null, .val (.int i1), .unset] [])) (fun t k => castTop (ef_7_6 m o1 i1) k) ?_
  refine step (s₁.setTop (mkF m 1 #[.val (.ref o1), .val (.int (0 : Int32)), .val .null, .val .null, .val (.int i1), .unset] [(.ref o1)])) (fun t k => XS.aloadN X0.here hx rfl (hb hby d7_0) rfl rfl k) ?_
  obtain ⟨T1, X1, e1, st1⟩ := getF X0 hx hZ hown (host := "") (Or.inl (hw _ (List.mem_of_getElem? (i := 58) rfl))) Via.refl e0 Pm10 (g := (mkF m 1 #[.val (.ref o1), .val (.int (0 : Int32)), .val .null, .val .null, .val (.int i1), .unset] [(.ref o1)])) rfl rfl (hb hby d7_1)
  refine step (T1.setTop (mkF m 4 #[.val (.ref o1), .val (.int (0 : Int32)), .val .null, .val .null, .val (.int i1), .unset] [(.int (0 : Int32))])) (fun t k => st1 t k) ?_
  refine step (T1.setTop (mkF m 5 #[.val (.ref o1), .val (.int (0 : Int32)), .val .null, .val .null, .val (.int i1), .unset] [(.ref o1), (.int (0 : Int32))])) (fun t k => XS.aloadN X1.here hx rfl (hb hby d7_4) rfl rfl k) ?_
  obtain ⟨T2, X2, e2, st2⟩ := getF X1 hx hZ hown (host := "") (Or.inl (hw _ (List.mem_of_getElem? (i := 38) rfl))) Via.refl e1 Pm9 (g := (mkF m 5 #[.val (.ref o1), .val (.int (0 : Int32)), .val .null, .val .null, .val (.int i1), .unset] [(.ref o1), (.int (0 : Int32))])) rfl rfl (hb hby d7_5)
  refine step (T2.setTop (mkF m 8 #[.val (.ref o1), .val (.int (0 : Int32)), .val .null, .val .null, .val (.int i1), .unset] [(.ref o7), (.int (0 : Int32))])) (fun t k => st2 t k) ?_
  obtain ⟨cl3, Ar3, q3, S3, N3n, H3, G3⟩ := id Pm18
  refine step (T2.setTop (mkF m 9 #[.val (.ref o1), .val (.int (0 : Int32)), .val .null, .val .null, .val (.int i1), .unset] [(.int (3 : Int32)), (.int (0 : Int32))])) (fun t k => X2.arraylength hx (by rw [e2]; exact Ar3.1) (State.isArrayOf_alike hZ.alike Ar3.2.1) (g := (mkF m 8 #[.val (.ref o1), .val (.int (0 : Int32)), .val .null, .val .null, .val (.int i1), .unset] [(.ref o7), (.int (0 : Int32))])) rfl rfl (hb hby d7_8) t (by rw [len_of S3 N3n]; exact k)) ?_
  refine step (T2.setTop (mkF m 93 #[.val (.ref o1), .val (.int (0 : Int32)), .val .null, .val .null, .val (.int i1), .unset] [])) (fun t k => XS.icmpYes X2.here hx rfl (pc0 := 9) (pc' := 93) rfl (hb hby d7_9) rfl (feq (by decide : ¬ ((0 : Int32) = (3 : Int32)))).2 (by decide) (by decide) k) ?_
  refine step (T2.setTop (mkF m 94 #[.val (.ref o1), .val (.int (0 : Int32)), .val .null, .val .null, .val (.int i1), .unset] [(.ref o1)])) (fun t k => XS.aloadN X2.here hx rfl (hb hby d7_93) rfl rfl k) ?_
  obtain ⟨T4, X4, e4, st4⟩ := getF X2 hx hZ hown (host := "") (Or.inl (hw _ (List.mem_of_getElem? (i := 38) rfl))) Via.refl e2 Pm9 (g := (mkF m 94 #[.val (.ref o1), .val (.int (0 : Int32)), .val .null, .val .null, .val (.int i1), .unset] [(.ref o1)])) rfl rfl (hb hby d7_94)
  refine step (T4.setTop (mkF m 97 #[.val (.ref o1), .val (.int (0 : Int32)), .val .null, .val .null, .val (.int i1), .unset] [(.ref o7)])) (fun t k => st4 t k) ?_
  refine step (T4.setTop (mkF m 98 #[.val (.ref o1), .val (.int (0 : Int32)), .val .null, .val .null, .val (.int i1), .unset] [(.ref o1), (.ref o7)])) (fun t k => XS.aloadN X4.here hx rfl (hb hby d7_97) rfl rfl k) ?_
  obtain ⟨T5, X5, e5, st5⟩ := getF X4 hx hZ hown (host := "") (Or.inl (hw _ (List.mem_of_getElem? (i := 58) rfl))) Via.refl e4 Pm10 (g := (mkF m 98 #[.val (.ref o1), .val (.int (0 : Int32)), .val .null, .val .null, .val (.int i1), .unset] [(.ref o1), (.ref o7)])) rfl rfl (hb hby d7_98)
  refine step (T5.setTop (mkF m 101 #[.val (.ref o1), .val (.int (0 : Int32)), .val .null, .val .null, .val (.int i1), .unset] [(.int (0 : Int32)), (.ref o7)])) (fun t k => st5 t k) ?_
  refine step (T5.setTop (mkF m 102 #[.val (.ref o1), .val (.int (0 : Int32)), .val .null, .val .null, .val (.int i1), .unset] [(.int (0 : Int32)), (.int (0 : Int32)), (.ref o7)])) (fun t k => XS.iloadN X5.here hx rfl (hb hby d7_101) rfl k) ?_
  obtain ⟨cl6, Ar6, q6, S6, N6n, H6, G6⟩ := id Pm18
  have hin6 : ¬ ((0 : Int32) < 0 ∨ cl6.slots.size ≤ ((0 : Int32)).toNatClampNeg) := inb_of S6 ⟨by decide, by decide⟩
  obtain ⟨T6, h6, X6, e6, W6, st6⟩ := stI X5 hx hZ e5 Ar6 (j := (0 : Int32)) hin6 (g := (mkF m 102 #[.val (.ref o1), .val (.int (0 : Int32)), .val .null, .val .null, .val (.int i1), .unset] [(.int (0 : Int32)), (.int (0 : Int32)), (.ref o7)])) rfl rfl (hb hby d7_102)
  have N6 := Fr.snoc X6 N0 gn_o7
  have K6 : Keep h0 h6 [o7, o5, o2, o1] := (Keep.refl h0 [o7, o5, o2, o1]).wr W6 (Or.inl (List.mem_of_getElem? (i := 0) rfl))
  have V6 : Arv Z h6 o7 kc6 .int (3 : Int32) [(.int (0 : Int32)), (.int (0 : Int32)), (.int (0 : Int32))] (.int (0 : Int32)) := Arv.set Ar6 q6 S6 N6n H6 G6 rfl W6 0 rfl (Nat.le_of_ble_eq_true rfl)
  refine step (T6.setTop (mkF m 103 #[.val (.ref o1), .val (.int (0 : Int32)), .val .null, .val .null, .val (.int i1), .unset] [])) (fun t k => st6 t k) ?_
  refine step (T6.setTop (mkF m 104 #[.val (.ref o1), .val (.int (0 : Int32)), .val .null, .val .null, .val (.int i1), .unset] [(.ref o1)])) (fun t k => XS.aloadN X6.here hx rfl (hb hby d7_103) rfl rfl k) ?_
  have f7 := (Pm6.other W6 (Or.inl ne_o1_o7))
  obtain ⟨T8, X8, e8, st8⟩ := getF X6 hx hZ hown (host := "") (Or.inl (hw _ (List.mem_of_getElem? (i := 42) rfl))) Via.refl e6 f7 (g := (mkF m 104 #[.val (.ref o1), .val (.int (0 : Int32)), .val .null, .val .null, .val (.int i1), .unset] [(.ref o1)])) rfl rfl (hb hby d7_104)
  refine step (T8.setTop (mkF m 107 #[.val (.ref o1), .val (.int (0 : Int32)), .val .null, .val .null, .val (.int i1), .unset] [(.ref o5)])) (fun t k => st8 t k) ?_
  refine step (T8.setTop (mkF m 108 #[.val (.ref o1), .val (.int (0 : Int32)), .val .null, .val .null, .val (.int i1), .unset] [(.ref o1), (.ref o5)])) (fun t k => XS.aloadN X8.here hx rfl (hb hby d7_107) rfl rfl k) ?_
  have f9 := (Pm10.other W6 (Or.inl ne_o1_o7))
  obtain ⟨T10, X10, e10, st10⟩ := getF X8 hx hZ hown (host := "") (Or.inl (hw _ (List.mem_of_getElem? (i := 58) rfl))) Via.refl e8 f9 (g := (mkF m 108 #[.val (.ref o1), .val (.int (0 : Int32)), .val .null, .val .null, .val (.int i1), .unset] [(.ref o1), (.ref o5)])) rfl rfl (hb hby d7_108)
  refine step (T10.setTop (mkF m 111 #[.val (.ref o1), .val (.int (0 : Int32)), .val .null, .val .null, .val (.int i1), .unset] [(.int (0 : Int32)), (.ref o5)])) (fun t k => st10 t k) ?_
  refine step (T10.setTop (mkF m 112 #[.val (.ref o1), .val (.int (0 : Int32)), .val .null, .val .null, .val (.int i1), .unset] [.null, (.int (0 : Int32)), (.ref o5)])) (fun t k => XS.aloadN X10.here hx rfl (hb hby d7_111) rfl rfl k) ?_
  have f11 := (Pm15.other W6 ne_o5_o7)
  obtain ⟨cl12, Ar12, q12, S12, N12n, H12, G12⟩ := id f11
  have hin12 : ¬ ((0 : Int32) < 0 ∨ cl12.slots.size ≤ ((0 : Int32)).toNatClampNeg) := inb_of S12 ⟨by decide, by decide⟩
  obtain ⟨T12, h12, X12, e12, W12, st12⟩ := stR X10 hx hZ e10 Ar12 (j := (0 : Int32)) (v := .null) hin12 rfl (Or.inl rfl) (g := (mkF m 112 #[.val (.ref o1), .val (.int (0 : Int32)), .val .null, .val .null, .val (.int i1), .unset] [.null, (.int (0 : Int32)), (.ref o5)])) rfl rfl (hb hby d7_112)
  have N12 := Fr.snoc X12 N6 gn_o5
  have K12 : Keep h0 h12 [o7, o5, o2, o1] := K6.wr W12 (Or.inl (List.mem_of_getElem? (i := 1) rfl))
  have V12 : Arv Z h12 o5 kc5 (.object "com/example/qopa/qopa/math/Rational") (3 : Int32) [.null, .null, .null] .null := Arv.set Ar12 q12 S12 N12n H12 G12 rfl W12 0 rfl (Nat.le_of_ble_eq_true rfl)
  refine step (T12.setTop (mkF m 113 #[.val (.ref o1), .val (.int (0 : Int32)), .val .null, .val .null, .val (.int i1), .unset] [])) (fun t k => st12 t k) ?_
  refine step (T12.setTop (mkF m 114 #[.val (.ref o1), .val (.int (0 : Int32)), .val .null, .val .null, .val (.int i1), .unset] [(.ref o1)])) (fun t k => XS.aloadN X12.here hx rfl (hb hby d7_113) rfl rfl k) ?_
  have f13 := ((Pm11.other W6 (Or.inl ne_o1_o7)).other W12 (Or.inl ne_o1_o5))
  obtain ⟨T14, X14, e14, st14⟩ := getF X12 hx hZ hown (host := "") (Or.inl (hw _ (List.mem_of_getElem? (i := 44) rfl))) Via.refl e12 f13 (g := (mkF m 114 #[.val (.ref o1), .val (.int (0 : Int32)), .val .null, .val .null, .val (.int i1), .unset] [(.ref o1)])) rfl rfl (hb hby d7_114)
  refine step (T14.setTop (mkF m 117 #[.val (.ref o1), .val (.int (0 : Int32)), .val .null, .val .null, .val (.int i1), .unset] [(.ref o5)])) (fun t k => st14 t k) ?_
  refine step (T14.setTop (mkF m 118 #[.val (.ref o1), .val (.int (0 : Int32)), .val .null, .val .null, .val (.int i1), .unset] [(.ref o1), (.ref o5)])) (fun t k => XS.aloadN X14.here hx rfl (hb hby d7_117) rfl rfl k) ?_
  have f15 := (f9.other W12 (Or.inl ne_o1_o5))
  obtain ⟨T16, X16, e16, st16⟩ := getF X14 hx hZ hown (host := "") (Or.inl (hw _ (List.mem_of_getElem? (i := 58) rfl))) Via.refl e14 f15 (g := (mkF m 118 #[.val (.ref o1), .val (.int (0 : Int32)), .val .null, .val .null, .val (.int i1), .unset] [(.ref o1), (.ref o5)])) rfl rfl (hb hby d7_118)
  refine step (T16.setTop (mkF m 121 #[.val (.ref o1), .val (.int (0 : Int32)), .val .null, .val .null, .val (.int i1), .unset] [(.int (0 : Int32)), (.ref o5)])) (fun t k => st16 t k) ?_
  refine step (T16.setTop (mkF m 122 #[.val (.ref o1), .val (.int (0 : Int32)), .val .null, .val .null, .val (.int i1), .unset] [.null, (.int (0 : Int32)), (.ref o5)])) (fun t k => XS.aloadN X16.here hx rfl (hb hby d7_121) rfl rfl k) ?_
  obtain ⟨cl17, Ar17, q17, S17, N17n, H17, G17⟩ := id V12
  have hin17 : ¬ ((0 : Int32) < 0 ∨ cl17.slots.size ≤ ((0 : Int32)).toNatClampNeg) := inb_of S17 ⟨by decide, by decide⟩
  obtain ⟨T17, h17, X17, e17, W17, st17⟩ := stR X16 hx hZ e16 Ar17 (j := (0 : Int32)) (v := .null) hin17 rfl (Or.inl rfl) (g := (mkF m 122 #[.val (.ref o1), .val (.int (0 : Int32)), .val .null, .val .null, .val (.int i1), .unset] [.null, (.int (0 : Int32)), (.ref o5)])) rfl rfl (hb hby d7_122)
  have N17 := Fr.snoc X17 N12 gn_o5
  have K17 : Keep h0 h17 [o7, o5, o2, o1] := K12.wr W17 (Or.inl (List.mem_of_getElem? (i := 1) rfl))
  have V17 : Arv Z h17 o5 kc5 (.object "com/example/qopa/qopa/math/Rational") (3 : Int32) [.null, .null, .null] .null := Arv.set Ar17 q17 S17 N17n H17 G17 rfl W17 0 rfl (Nat.le_of_ble_eq_true rfl)
  refine step (T17.setTop (mkF m 123 #[.val (.ref o1), .val (.int (0 : Int32)), .val .null, .val .null, .val (.int i1), .unset] [])) (fun t k => st17 t k) ?_
  refine step (T17.setTop (mkF m 124 #[.val (.ref o1), .val (.int (0 : Int32)), .val .null, .val .null, .val (.int i1), .unset] [(.ref o1)])) (fun t k => XS.aloadN X17.here hx rfl (hb hby d7_123) rfl rfl k) ?_
  have f18 := (((Pm1.other W6 (Or.inl ne_o1_o7)).other W12 (Or.inl ne_o1_o5)).other W17 (Or.inl ne_o1_o5))
  obtain ⟨T19, X19, e19, st19⟩ := getF X17 hx hZ hown (host := "") (Or.inl (hw _ (List.mem_of_getElem? (i := 46) rfl))) Via.refl e17 f18 (g := (mkF m 124 #[.val (.ref o1), .val (.int (0 : Int32)), .val .null, .val .null, .val (.int i1), .unset] [(.ref o1)])) rfl rfl (hb hby d7_124)
  refine step (T19.setTop (mkF m 127 #[.val (.ref o1), .val (.int (0 : Int32)), .val .null, .val .null, .val (.int i1), .unset] [(.ref o2)])) (fun t k => st19 t k) ?_
  refine step (T19.setTop (mkF m 128 #[.val (.ref o1), .val (.int (0 : Int32)), .val .null, .val .null, .val (.int i1), .unset] [(.ref o1), (.ref o2)])) (fun t k => XS.aloadN X19.here hx rfl (hb hby d7_127) rfl rfl k) ?_
  have f20 := (f15.other W17 (Or.inl ne_o1_o5))
  obtain ⟨T21, X21, e21, st21⟩ := getF X19 hx hZ hown (host := "") (Or.inl (hw _ (List.mem_of_getElem? (i := 58) rfl))) Via.refl e19 f20 (g := (mkF m 128 #[.val (.ref o1), .val (.int (0 : Int32)), .val .null, .val .null, .val (.int i1), .unset] [(.ref o1), (.ref o2)])) rfl rfl (hb hby d7_128)
  refine step (T21.setTop (mkF m 131 #[.val (.ref o1), .val (.int (0 : Int32)), .val .null, .val .null, .val (.int i1), .unset] [(.int (0 : Int32)), (.ref o2)])) (fun t k => st21 t k) ?_
  refine step (T21.setTop (mkF m 133 #[.val (.ref o1), .val (.int (0 : Int32)), .val .null, .val .null, .val (.int i1), .unset] [(.int i1), (.int (0 : Int32)), (.ref o2)])) (fun t k => XS.iload X21.here hx rfl (hb hby d7_131) rfl k) ?_
  have f22 := (((Pm12.other W6 ne_o2_o7).other W12 ne_o2_o5).other W17 ne_o2_o5)
  obtain ⟨cl23, Ar23, q23, S23, N23n, H23, G23⟩ := id f22
  have hin23 : ¬ ((0 : Int32) < 0 ∨ cl23.slots.size ≤ ((0 : Int32)).toNatClampNeg) := inb_of S23 ⟨by decide, by decide⟩
  obtain ⟨T23, h23, X23, e23, W23, st23⟩ := stI X21 hx hZ e21 Ar23 (j := (0 : Int32)) hin23 (g := (mkF m 133 #[.val (.ref o1), .val (.int (0 : Int32)), .val .null, .val .null, .val (.int i1), .unset] [(.int i1), (.int (0 : Int32)), (.ref o2)])) rfl rfl (hb hby d7_133)
  have N23 := Fr.snoc X23 N17 gn_o2
  have K23 : Keep h0 h23 [o7, o5, o2, o1] := K17.wr W23 (Or.inl (List.mem_of_getElem? (i := 2) rfl))
  have V23 : Arv Z h23 o2 kc2 .int (3 : Int32) [(.int i1), (.int (0 : Int32)), (.int (0 : Int32))] (.int (0 : Int32)) := Arv.set Ar23 q23 S23 N23n H23 G23 rfl W23 0 rfl (Nat.le_of_ble_eq_true rfl)
  refine step (T23.setTop (mkF m 134 #[.val (.ref o1), .val (.int (0 : Int32)), .val .null, .val .null, .val (.int i1), .unset] [])) (fun t k => st23 t k) ?_
  refine step (T23.setTop (mkF m 135 #[.val (.ref o1), .val (.int (0 : Int32)), .val .null, .val .null, .val (.int i1), .unset] [(.ref o1)])) (fun t k => XS.aloadN X23.here hx rfl (hb hby d7_134) rfl rfl k) ?_
  refine step (T23.setTop (mkF m 136 #[.val (.ref o1), .val (.int (0 : Int32)), .val .null, .val .null, .val (.int i1), .unset] [(.ref o1), (.ref o1)])) (fun t k => XS.dup X23.here hx rfl (hb hby d7_135) rfl rfl k) ?_
  have f24 := (f20.other W23 (Or.inl ne_o1_o2))
  obtain ⟨T25, X25, e25, st25⟩ := getF X23 hx hZ hown (host := "") (Or.inl (hw _ (List.mem_of_getElem? (i := 58) rfl))) Via.refl e23 f24 (g := (mkF m 136 #[.val (.ref o1), .val (.int (0 : Int32)), .val .null, .val .null, .val (.int i1), .unset] [(.ref o1), (.ref o1)])) rfl rfl (hb hby d7_136)
  refine step (T25.setTop (mkF m 139 #[.val (.ref o1), .val (.int (0 : Int32)), .val .null, .val .null, .val (.int i1), .unset] [(.int (0 : Int32)), (.ref o1)])) (fun t k => st25 t k) ?_
  refine step (T25.setTop (mkF m 140 #[.val (.ref o1), .val (.int (0 : Int32)), .val .null, .val .null, .val (.int i1), .unset] [(.int (1 : Int32)), (.int (0 : Int32)), (.ref o1)])) (fun t k => XS.iconst X25.here hx rfl (hb hby d7_139) k) ?_
  refine step (T25.setTop (mkF m 141 #[.val (.ref o1), .val (.int (0 : Int32)), .val .null, .val .null, .val (.int i1), .unset] [(.int (1 : Int32)), (.ref o1)])) (fun t k => XS.iadd X25.here hx rfl (hb hby d7_140) rfl k) ?_
  have f26 := ((((Pm0.wr W6).wr W12).wr W17).wr W23)
  obtain ⟨T27, h27, X27, e27, W27, st27⟩ := putF X25 hx hZ hown (host := "") (Or.inl (hw _ (List.mem_of_getElem? (i := 58) rfl))) Via.refl e25 f24 f26 (Or.inl (hw _ (List.mem_of_getElem? (i := 59) rfl))) (hw _ (List.mem_of_getElem? (i := 6) rfl)) (ty := .int) (by decide) rfl rfl (g := (mkF m 141 #[.val (.ref o1), .val (.int (0 : Int32)), .val .null, .val .null, .val (.int i1), .unset] [(.int (1 : Int32)), (.ref o1)])) rfl rfl (hb hby d7_141)
  have N27 := Fr.snoc X27 N23 gn_o1
  have K27 : Keep h0 h27 [o7, o5, o2, o1] := K23.wr W27 (Or.inl (List.mem_of_getElem? (i := 3) rfl))
  have F27 := f24.same W27
  refine step (T27.setTop (mkF m 144 #[.val (.ref o1), .val (.int (0 : Int32)), .val .null, .val .null, .val (.int i1), .unset] [])) (fun t k => st27 t k) ?_
  have f28 := ((((V6.other W12 (Ne.symm ne_o5_o7)).other W17 (Ne.symm ne_o5_o7)).other W23 (Ne.symm ne_o2_o7)).other W27 (Ne.symm ne_o1_o7))
  have f29 := ((V17.other W23 (Ne.symm ne_o2_o5)).other W27 (Ne.symm ne_o1_o5))
  have f30 := (V23.other W27 (Ne.symm ne_o1_o2))
  have f31 := ((f18.other W23 (Or.inl ne_o1_o2)).other W27 (Or.inr (slot_ne (Or.inl (hw _ (List.mem_of_getElem? (i := 47) rfl))) (Or.inl (hw _ (List.mem_of_getElem? (i := 59) rfl))) (by decide) (t := (.array .int)) (t' := .int) (by decide) (by decide))))
  have f32 := (((((Pm2.other W6 (Or.inl ne_o1_o7)).other W12 (Or.inl ne_o1_o5)).other W17 (Or.inl ne_o1_o5)).other W23 (Or.inl ne_o1_o2)).other W27 (Or.inr (slot_ne (Or.inr (hw _ (List.mem_of_getElem? (i := 33) rfl))) (Or.inl (hw _ (List.mem_of_getElem? (i := 59) rfl))) (by decide) (t := .boolean) (t' := .int) (by decide) (by decide))))
  have f33 := (((((Pm3.other W6 (Or.inl ne_o1_o7)).other W12 (Or.inl ne_o1_o5)).other W17 (Or.inl ne_o1_o5)).other W23 (Or.inl ne_o1_o2)).other W27 (Or.inr (slot_ne (Or.inl (hw _ (List.mem_of_getElem? (i := 85) rfl))) (Or.inl (hw _ (List.mem_of_getElem? (i := 59) rfl))) (by decide) (t := .int) (t' := .int) (by decide) (by decide))))
  have f34 := (((((Pm4.other W6 (Or.inl ne_o1_o7)).other W12 (Or.inl ne_o1_o5)).other W17 (Or.inl ne_o1_o5)).other W23 (Or.inl ne_o1_o2)).other W27 (Or.inr (slot_ne (Or.inl (hw _ (List.mem_of_getElem? (i := 35) rfl))) (Or.inl (hw _ (List.mem_of_getElem? (i := 59) rfl))) (by decide) (t := (.array .int)) (t' := .int) (by decide) (by decide))))
  have f35 := (((((Pm5.other W6 (Or.inl ne_o1_o7)).other W12 (Or.inl ne_o1_o5)).other W17 (Or.inl ne_o1_o5)).other W23 (Or.inl ne_o1_o2)).other W27 (Or.inr (slot_ne (Or.inl (hw _ (List.mem_of_getElem? (i := 37) rfl))) (Or.inl (hw _ (List.mem_of_getElem? (i := 59) rfl))) (by decide) (t := (.array .int)) (t' := .int) (by decide) (by decide))))
  have f36 := ((((f7.other W12 (Or.inl ne_o1_o5)).other W17 (Or.inl ne_o1_o5)).other W23 (Or.inl ne_o1_o2)).other W27 (Or.inr (slot_ne (Or.inl (hw _ (List.mem_of_getElem? (i := 43) rfl))) (Or.inl (hw _ (List.mem_of_getElem? (i := 59) rfl))) (by decide) (t := (.array (.object "com/example/qopa/qopa/math/Rational"))) (t' := .int) (by decide) (by decide))))
  have f37 := (((((Pm7.other W6 (Or.inl ne_o1_o7)).other W12 (Or.inl ne_o1_o5)).other W17 (Or.inl ne_o1_o5)).other W23 (Or.inl ne_o1_o2)).other W27 (Or.inr (slot_ne (Or.inr (hw _ (List.mem_of_getElem? (i := 31) rfl))) (Or.inl (hw _ (List.mem_of_getElem? (i := 59) rfl))) (by decide) (t := (.object "java/util/Map")) (t' := .int) (by decide) (by decide))))
  have f38 := (((((Pm8.other W6 (Or.inl ne_o1_o7)).other W12 (Or.inl ne_o1_o5)).other W17 (Or.inl ne_o1_o5)).other W23 (Or.inl ne_o1_o2)).other W27 (Or.inr (slot_ne (Or.inl (hw _ (List.mem_of_getElem? (i := 80) rfl))) (Or.inl (hw _ (List.mem_of_getElem? (i := 59) rfl))) (by decide) (t := .int) (t' := .int) (by decide) (by decide))))
  have f39 := (((((Pm9.other W6 (Or.inl ne_o1_o7)).other W12 (Or.inl ne_o1_o5)).other W17 (Or.inl ne_o1_o5)).other W23 (Or.inl ne_o1_o2)).other W27 (Or.inr (slot_ne (Or.inl (hw _ (List.mem_of_getElem? (i := 39) rfl))) (Or.inl (hw _ (List.mem_of_getElem? (i := 59) rfl))) (by decide) (t := (.array .int)) (t' := .int) (by decide) (by decide))))
  have f40 := (((f13.other W17 (Or.inl ne_o1_o5)).other W23 (Or.inl ne_o1_o2)).other W27 (Or.inr (slot_ne (Or.inl (hw _ (List.mem_of_getElem? (i := 45) rfl))) (Or.inl (hw _ (List.mem_of_getElem? (i := 59) rfl))) (by decide) (t := (.array (.object "com/example/qopa/qopa/math/Rational"))) (t' := .int) (by decide) (by decide))))
  refine fin (v := none) X27 (fun _ => rfl) ?_ (by decide) (by decide) (fun fs hr => X27.returnOut hx hret (hb hby d7_144) hr)
  show Q7_6 Z o1 i1 o2 o3 o4 o5 o6 o7 kc2 kc3 kc4 kc5 kc6 h0 n0 (none) T27.heap _
  rw [e27]
  exact ⟨rfl, N27, K27, f28, f29, f30, f31, f32, f33, f34, f35, f36, f37, f38, f39, F27, f40⟩
theorem ef_6_5 (m : MethodId) (x0 : Addr) (x3 : Int32) : entryFrame m #[(.ref x0), (.int (0 : Int32)), .null, (.int x3)] 4 = mkF m 0 #[.val (.ref x0), .val (.int (0 : Int32)), .val .null, .val (.int x3)] [] := by first | (simp [entryFrame, mkF, argsToLocals, Value.category]; done) | rfl
def Q6_5 (Z : State) (o1 : Addr) (i1 : Int32) (o2 : Addr) (o3 : Addr) (o4 : Addr) (o5 : Addr) (o6 : Addr) (o7 : Addr) (kc2 : ClassId) (kc3 : ClassId) (kc4 : ClassId) (kc5 : ClassId) (kc6 : ClassId) (h0 : Heap) (n0 : Nat) (v : Option Value) (h : Heap) (L : List Loc) : Prop := v = none ∧ Fr n0 L ∧ Keep h0 h [o7, o5, o2, o1] ∧ Arv Z h o7 kc6 .int (3 : Int32) [(.int (0 : Int32)), (.int (0 : Int32)), (.int (0 : Int32))] (.int (0 : Int32)) ∧ Arv Z h o5 kc5 (.object "com/example/qopa/qopa/math/Rational") (3 : Int32) [.null, .null, .null] .null ∧ Arv Z h o2 kc2 .int (3 : Int32) [(.int i1), (.int (0 : Int32)), (.int (0 : Int32))] (.int (0 : Int32)) ∧ Fld Z h o1 "com/example/qopa/qopa/model/ModelBuilder" "action" "[I" (.ref o2) ∧ Fld Z h o1 "com/example/qopa/qopa/model/ModelBuilder" "bounded" "Z" (.int (0 : Int32)) ∧ Fld Z h o1 "com/example/qopa/qopa/model/ModelBuilder" "choiceCount" "I" (.int (0 : Int32)) ∧ Fld Z h o1 "com/example/qopa/qopa/model/ModelBuilder" "firstChoice" "[I" (.ref o3) ∧ Fld Z h o1 "com/example/qopa/qopa/model/ModelBuilder" "firstTransition" "[I" (.ref o4) ∧ Fld Z h o1 "com/example/qopa/qopa/model/ModelBuilder" "lower" "[Lcom/example/qopa/qopa/math/Rational;" (.ref o5) ∧ Fld Z h o1 "com/example/qopa/qopa/model/ModelBuilder" "merged" "Ljava/util/Map;" (.ref o6) ∧ Fld Z h o1 "com/example/qopa/qopa/model/ModelBuilder" "stateCount" "I" (.int (0 : Int32)) ∧ Fld Z h o1 "com/example/qopa/qopa/model/ModelBuilder" "target" "[I" (.ref o7) ∧ Fld Z h o1 "com/example/qopa/qopa/model/ModelBuilder" "transitionCount" "I" (.int (1 : Int32)) ∧ Fld Z h o1 "com/example/qopa/qopa/model/ModelBuilder" "upper" "[Lcom/example/qopa/qopa/math/Rational;" (.ref o5)
set_option maxRecDepth 65536 in
set_option maxHeartbeats 40000000 in
theorem rm6_5 (l : Launch) (Z : State) (a0 : Array Value) (hw : ∀ d ∈ tables_1, d.before a0 Z = true) (ws : List Jvm.Cond) (o1 : Addr) (i1 : Int32) (o2 : Addr) (o3 : Addr) (o4 : Addr) (o5 : Addr) (o6 : Addr) (o7 : Addr) (kc2 : ClassId) (kc3 : ClassId) (kc4 : ClassId) (kc5 : ClassId) (kc6 : ClassId) (h0 : Heap) (n0 : Nat) (Z0 : n0 ≤ h0.size) (Pm0 : Exa Z h0 o1 "com/example/qopa/qopa/model/ModelBuilder") (Pm1 : Fld Z h0 o1 "com/example/qopa/qopa/model/ModelBuilder" "action" "[I" (.ref o2)) (Pm2 : Fld Z h0 o1 "com/example/qopa/qopa/model/ModelBuilder" "bounded" "Z" (.int (0 : Int32))) (Pm3 : Fld Z h0 o1 "com/example/qopa/qopa/model/ModelBuilder" "choiceCount" "I" (.int (0 : Int32))) (Pm4 : Fld Z h0 o1 "com/example/qopa/qopa/model/ModelBuilder" "firstChoice" "[I" (.ref o3)) (Pm5 : Fld Z h0 o1 "com/example/qopa/qopa/model/ModelBuilder" "firstTransition" "[I" (.ref o4)) (Pm6 : Fld Z h0 o1 "com/example/qopa/qopa/model/ModelBuilder" "lower" "[Lcom/example/qopa/qopa/math/Rational;" (.ref o5)) (Pm7 : Fld Z h0 o1 "com/example/qopa/qopa/model/ModelBuilder" "merged" "Ljava/util/Map;" (.ref o6)) (Pm8 : Fld Z h0 o1 "com/example/qopa/qopa/model/ModelBuilder" "stateCount" "I" (.int (0 : Int32))) (Pm9 : Fld Z h0 o1 "com/example/qopa/qopa/model/ModelBuilder" "target" "[I" (.ref o7)) (Pm10 : Fld Z h0 o1 "com/example/qopa/qopa/model/ModelBuilder" "transitionCount" "I" (.int (0 : Int32))) (Pm11 : Fld Z h0 o1 "com/example/qopa/qopa/model/ModelBuilder" "upper" "[Lcom/example/qopa/qopa/math/Rational;" (.ref o5)) (Pm12 : Arv Z h0 o2 kc2 .int (3 : Int32) [(.int (0 : Int32)), (.int (0 : Int32)), (.int (0 : Int32))] (.int (0 : Int32))) (Pm13 : Arv Z h0 o3 kc3 .int (1 : Int32) [(.int (0 : Int32))] (.int (0 : Int32))) (Pm14 : Arv Z h0 o4 kc4 .int (1 : Int32) [(.int (0 : Int32))] (.int (0 : Int32))) (Pm15 : Arv Z h0 o5 kc5 (.object "com/example/qopa/qopa/math/Rational") (3 : Int32) [.null, .null, .null] .null) (O16 : Ovr Z kc5 "com/example/qopa/qopa/math/Rational") (Pm17 : Exa Z h0 o6 "java/util/HashMap") (Pm18 : Arv Z h0 o7 kc6 .int (3 : Int32) [(.int (0 : Int32)), (.int (0 : Int32)), (.int (0 : Int32))] (.int (0 : Int32))) (gn_o1 : n0 ≤ o1) (ne_o1_o2 : o1 ≠ o2) (ne_o1_o3 : o1 ≠ o3) (ne_o1_o4 : o1 ≠ o4) (ne_o1_o5 : o1 ≠ o5) (ne_o1_o6 : o1 ≠ o6) (ne_o1_o7 : o1 ≠ o7) (gn_o2 : n0 ≤ o2) (ne_o2_o3 : o2 ≠ o3) (ne_o2_o4 : o2 ≠ o4) (ne_o2_o5 : o2 ≠ o5) (ne_o2_o6 : o2 ≠ o6) (ne_o2_o7 : o2 ≠ o7) (gn_o3 : n0 ≤ o3) (ne_o3_o4 : o3 ≠ o4) (ne_o3_o5 : o3 ≠ o5) (ne_o3_o6 : o3 ≠ o6) (ne_o3_o7 : o3 ≠ o7) (gn_o4 : n0 ≤ o4) (ne_o4_o5 : o4 ≠ o5) (ne_o4_o6 : o4 ≠ o6) (ne_o4_o7 : o4 ≠ o7) (gn_o5 : n0 ≤ o5) (ne_o5_o6 : o5 ≠ o6) (ne_o5_o7 : o5 ≠ o7) (gn_o6 : n0 ≤ o6) (ne_o6_o7 : o6 ≠ o7) (gn_o7 : n0 ≤ o7) (hy47 : ¬ (i1 < (-1 : Int32))) (hy48 : i1 < (4 : Int32))  :
    MetFree l (⟨"com/example/qopa/qopa/model/ModelBuilder", "add", "(ILcom/example/qopa/qopa/math/Rational;I)V"⟩ : MethodName) (head1 (Jvm.Cond.code (⟨"com/example/qopa/qopa/model/ModelBuilder", "add", "(ILcom/example/qopa/qopa/math/Rational;I)V"⟩ : MethodName) prog_73_method_3_code 4 none :: ws) ({ frames := 1, cells := 0, slots := 0, locals := 17 } : Room)) (fun a U => a = #[(.ref o1), (.int (0 : Int32)), .null, (.int i1)] ∧ Z.Warmed39 U.vm ∧ U.heap = h0) (fun _ _ _ _ _ => True) (fun _ U o U' => ∃ v L, o = .returned v ∧ Q6_5 Z o1 i1 o2 o3 o4 o5 o6 o7 kc2 kc3 kc4 kc5 kc6 h0 n0 v U'.heap L ∧ FrameEnd U o U' L ({ frames := 1, cells := 0, slots := 0, locals := 17 } : Room).cells ({ frames := 1, cells := 0, slots := 0, locals := 17 } : Room).slots) := by
  refine own_body (plainFor_of_name pn_1) ?_
  intro p e s m below meth c s₁ G hx hby hml hZ hown hnm hret X0 e0 step fin
  replace hown : s.vm.findClass "com/example/qopa/qopa/model/ModelBuilder" = some m.cls := hown
  replace hnm : meth.name = "add" := hnm
  replace hret : meth.sig.returnType = none := hret
  replace hml : c.maxLocals = 4 := hml
  have N0 := Fr.nil n0
  refine step (s₁.setTop (mkF m 0 #[.val (.ref o1), .val (.int (0 : Int32)), .val .null, .val (.int i1)] [])) (fun t k => castTop (ef_6_5 m o1 i1) k) ?_
  refine step (s₁.setTop (mkF m 1 #[.val (.ref o1), .val (.int (0 : Int32)), .val .null, .val (.int i1)] [(.ref o1)])) (fun t k => XS.aloadN X0.here hx rfl (hb hby d6_0) rfl rfl k) ?_
  refine step (s₁.setTop (mkF m 2 #[.val (.ref o1), .val (.int (0 : Int32)), .val .null, .val (.int i1)] [(.int (0 : Int32)), (.ref o1)])) (fun t k => XS.iloadN X0.here hx rfl (hb hby d6_1) rfl k) ?_
  refine step (s₁.setTop (mkF m 3 #[.val (.ref o1), .val (.int (0 : Int32)), .val .null, .val (.int i1)] [.null, (.int (0 : Int32)), (.ref o1)])) (fun t k => XS.aloadN X0.here hx rfl (hb hby d6_2) rfl rfl k) ?_
  refine step (s₁.setTop (mkF m 4 #[.val (.ref o1), .val (.int (0 : Int32)), .val .null, .val (.int i1)] [.null, .null, (.int (0 : Int32)), (.ref o1)])) (fun t k => XS.aloadN X0.here hx rfl (hb hby d6_3) rfl rfl k) ?_
  refine step (s₁.setTop (mkF m 5 #[.val (.ref o1), .val (.int (0 : Int32)), .val .null, .val (.int i1)] [(.int i1), .null, .null, (.int (0 : Int32)), (.ref o1)])) (fun t k => XS.iloadN X0.here hx rfl (hb hby d6_4) rfl k) ?_
  obtain ⟨cq1, kq1, q1a, q1b, q1c⟩ := isOf hZ e0 Pm0
  obtain ⟨_, _, ⟨T1, L1, k1, n1⟩, -, X1, ⟨Lc1, hQ1, l1, y1, z1⟩, st1⟩ := X0.virtualBack hx (y := (⟨"com/example/qopa/qopa/model/ModelBuilder", "add", "(ILcom/example/qopa/qopa/math/Rational;Lcom/example/qopa/qopa/math/Rational;I)V"⟩ : MethodName)) (z := (⟨"com/example/qopa/qopa/model/ModelBuilder", "add", "(ILcom/example/qopa/qopa/math/Rational;Lcom/example/qopa/qopa/math/Rational;I)V"⟩ : MethodName)) hown (mvT hZ (hw _ (List.mem_of_getElem? (i := 53) rfl))) (mvT hZ (hw _ (List.mem_of_getElem? (i := 54) rfl))) (notFace_of_selects (args := #[]) (mvT hZ (hw _ (List.mem_of_getElem? (i := 56) rfl)))) (mvT hZ (hw _ (List.mem_of_getElem? (i := 56) rfl))) (mvT hZ (hw _ (List.mem_of_getElem? (i := 55) rfl))) (by decide) (backOf (W := 0) (rm7_6 l Z a0 hw [] o1 i1 o2 o3 o4 o5 o6 o7 kc2 kc3 kc4 kc5 kc6 h0 n0 Z0 Pm0 Pm1 Pm2 Pm3 Pm4 Pm5 Pm6 Pm7 Pm8 Pm9 Pm10 Pm11 Pm12 Pm13 Pm14 Pm15 O16 Pm17 Pm18 gn_o1 ne_o1_o2 ne_o1_o3 ne_o1_o4 ne_o1_o5 ne_o1_o6 ne_o1_o7 gn_o2 ne_o2_o3 ne_o2_o4 ne_o2_o5 ne_o2_o6 ne_o2_o7 gn_o3 ne_o3_o4 ne_o3_o5 ne_o3_o6 ne_o3_o7 gn_o4 ne_o4_o5 ne_o4_o6 ne_o4_o7 gn_o5 ne_o5_o6 ne_o5_o7 gn_o6 ne_o6_o7 gn_o7 hy47 hy48) hZ (hw _ (List.mem_of_getElem? (i := 57) rfl)) (hw _ (List.mem_of_getElem? (i := 7) rfl)) (by decide) (by decide)) q1a q1c (g := (mkF m 5 #[.val (.ref o1), .val (.int (0 : Int32)), .val .null, .val (.int i1)] [(.int i1), .null, .null, (.int (0 : Int32)), (.ref o1)])) rfl (by rw [hml]; rfl) (Steps.refl _) (argsL := [(.int (0 : Int32)), .null, .null, (.int i1)]) (rest := []) (lenOf pd_8 rfl) rfl (by show 2 * 0 + _ ≤ _; exact Nat.le_of_eq rfl) (hb hby d6_5) (fun _ _ => ⟨rfl, e0, (by decide : 0 + 0 ≤ _), (by decide : 0 + 0 ≤ _)⟩)
  dsimp only [Pt.U, Pt.locs, Pt.cells, Pt.slots] at X1 l1 y1 z1 st1 hQ1
  subst l1 y1 z1
  obtain ⟨h1, e1⟩ : ∃ z, T1.heap = z := ⟨_, rfl⟩
  rw [e1] at hQ1
  obtain ⟨rfl, N1q, K1q, q0_1, q1_1, q2_1, q3_1, q4_1, q5_1, q6_1, q7_1, q8_1, q9_1, q10_1, q11_1, q12_1, q13_1⟩ := hQ1
  have N1 := Fr.app N0 N1q
  have K1 : Keep h0 h1 [o7, o5, o2, o1] := (Keep.refl h0 [o7, o5, o2, o1]).trans K1q (allS (Or.inl (List.mem_of_getElem? (i := 0) rfl)) (allS (Or.inl (List.mem_of_getElem? (i := 1) rfl)) (allS (Or.inl (List.mem_of_getElem? (i := 2) rfl)) (allS (Or.inl (List.mem_of_getElem? (i := 3) rfl)) all0))))
  refine step (T1.setTop (mkF m 8 #[.val (.ref o1), .val (.int (0 : Int32)), .val .null, .val (.int i1)] [])) (fun t k => st1.trans k) ?_
  refine fin (v := none) X1 (fun _ => rfl) ?_ (by decide) (by decide) (fun fs hr => X1.returnOut hx hret (hb hby d6_8) hr)
  show Q6_5 Z o1 i1 o2 o3 o4 o5 o6 o7 kc2 kc3 kc4 kc5 kc6 h0 n0 (none) T1.heap _
  rw [e1]
  exact ⟨rfl, N1, K1, q0_1, q1_1, q2_1, q3_1, q4_1, q5_1, q6_1, q7_1, q8_1, q9_1, q10_1, q11_1, q12_1, q13_1⟩
theorem ef_7_8 (m : MethodId) (x0 : Addr) (x4 : Int32) : entryFrame m #[(.ref x0), (.int (0 : Int32)), .null, .null, (.int x4)] 6 = mkF m 0 #[.val (.ref x0), .val (.int (0 : Int32)), .val .null, .val .null, .val (.int x4), .unset] [] := by first | (simp [entryFrame, mkF, argsToLocals, Value.category]; done) | rfl
def Q7_8 (Z : State) (o1 : Addr) (i1 : Int32) (o2 : Addr) (o3 : Addr) (o4 : Addr) (o5 : Addr) (o6 : Addr) (o7 : Addr) (kc2 : ClassId) (i3 : Int32) (kc4 : ClassId) (kc5 : ClassId) (kc6 : ClassId) (kc7 : ClassId) (h0 : Heap) (n0 : Nat) (v : Option Value) (h : Heap) (L : List Loc) : Prop := v = none ∧ Fr n0 L ∧ Keep h0 h [o7, o5, o2, o1] ∧ Arv Z h o7 kc7 .int (3 : Int32) [(.int (0 : Int32)), (.int (0 : Int32)), (.int (0 : Int32))] (.int (0 : Int32)) ∧ Arv Z h o5 kc6 (.object "com/example/qopa/qopa/math/Rational") (3 : Int32) [.null, .null, .null] .null ∧ Arv Z h o2 kc2 .int (3 : Int32) [(.int i3), (.int i1), (.int (0 : Int32))] (.int (0 : Int32)) ∧ Fld Z h o1 "com/example/qopa/qopa/model/ModelBuilder" "action" "[I" (.ref o2) ∧ Fld Z h o1 "com/example/qopa/qopa/model/ModelBuilder" "bounded" "Z" (.int (0 : Int32)) ∧ Fld Z h o1 "com/example/qopa/qopa/model/ModelBuilder" "choiceCount" "I" (.int (0 : Int32)) ∧ Fld Z h o1 "com/example/qopa/qopa/model/ModelBuilder" "firstChoice" "[I" (.ref o3) ∧ Fld Z h o1 "com/example/qopa/qopa/model/ModelBuilder" "firstTransition" "[I" (.ref o4) ∧ Fld Z h o1 "com/example/qopa/qopa/model/ModelBuilder" "lower" "[Lcom/example/qopa/qopa/math/Rational;" (.ref o5) ∧ Fld Z h o1 "com/example/qopa/qopa/model/ModelBuilder" "merged" "Ljava/util/Map;" (.ref o6) ∧ Fld Z h o1 "com/example/qopa/qopa/model/ModelBuilder" "stateCount" "I" (.int (0 : Int32)) ∧ Fld Z h o1 "com/example/qopa/qopa/model/ModelBuilder" "target" "[I" (.ref o7) ∧ Fld Z h o1 "com/example/qopa/qopa/model/ModelBuilder" "transitionCount" "I" (.int (2 : Int32)) ∧ Fld Z h o1 "com/example/qopa/qopa/model/ModelBuilder" "upper" "[Lcom/example/qopa/qopa/math/Rational;" (.ref o5)
set_option maxRecDepth 65536 in
set_option maxHeartbeats 40000000 in
theorem rm7_8 (l : Launch) (Z : State) (a0 : Array Value) (hw : ∀ d ∈ tables_1, d.before a0 Z = true) (ws : List Jvm.Cond) (o1 : Addr) (i1 : Int32) (o2 : Addr) (o3 : Addr) (o4 : Addr) (o5 : Addr) (o6 : Addr) (o7 : Addr) (kc2 : ClassId) (i3 : Int32) (kc4 : ClassId) (kc5 : ClassId) (kc6 : ClassId) (kc7 : ClassId) (h0 : Heap) (n0 : Nat) (Z0 : n0 ≤ h0.size) (Pm0 : Exa Z h0 o1 "com/example/qopa/qopa/model/ModelBuilder") (Pm1 : Fld Z h0 o1 "com/example/qopa/qopa/model/ModelBuilder" "action" "[I" (.ref o2)) (Pm2 : Fld Z h0 o1 "com/example/qopa/qopa/model/ModelBuilder" "bounded" "Z" (.int (0 : Int32))) (Pm3 : Fld Z h0 o1 "com/example/qopa/qopa/model/ModelBuilder" "choiceCount" "I" (.int (0 : Int32))) (Pm4 : Fld Z h0 o1 "com/example/qopa/qopa/model/ModelBuilder" "firstChoice" "[I" (.ref o3)) (Pm5 : Fld Z h0 o1 "com/example/qopa/qopa/model/ModelBuilder" "firstTransition" "[I" (.ref o4)) (Pm6 : Fld Z h0 o1 "com/example/qopa/qopa/model/ModelBuilder" "lower" "[Lcom/example/qopa/qopa/math/Rational;" (.ref o5)) (Pm7 : Fld Z h0 o1 "com/example/qopa/qopa/model/ModelBuilder" "merged" "Ljava/util/Map;" (.ref o6)) (Pm8 : Fld Z h0 o1 "com/example/qopa/qopa/model/ModelBuilder" "stateCount" "I" (.int (0 : Int32))) (Pm9 : Fld Z h0 o1 "com/example/qopa/qopa/model/ModelBuilder" "target" "[I" (.ref o7)) (Pm10 : Fld Z h0 o1 "com/example/qopa/qopa/model/ModelBuilder" "transitionCount" "I" (.int (1 : Int32))) (Pm11 : Fld Z h0 o1 "com/example/qopa/qopa/model/ModelBuilder" "upper" "[Lcom/example/qopa/qopa/math/Rational;" (.ref o5)) (Pm12 : Arv Z h0 o2 kc2 .int (3 : Int32) [(.int i3), (.int (0 : Int32)), (.int (0 : Int32))] (.int (0 : Int32))) (Pm13 : Arv Z h0 o3 kc4 .int (1 : Int32) [(.int (0 : Int32))] (.int (0 : Int32))) (Pm14 : Arv Z h0 o4 kc5 .int (1 : Int32) [(.int (0 : Int32))] (.int (0 : Int32))) (Pm15 : Arv Z h0 o5 kc6 (.object "com/example/qopa/qopa/math/Rational") (3 : Int32) [.null, .null, .null] .null) (O16 : Ovr Z kc6 "com/example/qopa/qopa/math/Rational") (Pm17 : Exa Z h0 o6 "java/util/HashMap") (Pm18 : Arv Z h0 o7 kc7 .int (3 : Int32) [(.int (0 : Int32)), (.int (0 : Int32)), (.int (0 : Int32))] (.int (0 : Int32))) (gn_o1 : n0 ≤ o1) (ne_o1_o2 : o1 ≠ o2) (ne_o1_o3 : o1 ≠ o3) (ne_o1_o4 : o1 ≠ o4) (ne_o1_o5 : o1 ≠ o5) (ne_o1_o6 : o1 ≠ o6) (ne_o1_o7 : o1 ≠ o7) (gn_o2 : n0 ≤ o2) (ne_o2_o3 : o2 ≠ o3) (ne_o2_o4 : o2 ≠ o4) (ne_o2_o5 : o2 ≠ o5) (ne_o2_o6 : o2 ≠ o6) (ne_o2_o7 : o2 ≠ o7) (gn_o3 : n0 ≤ o3) (ne_o3_o4 : o3 ≠ o4) (ne_o3_o5 : o3 ≠ o5) (ne_o3_o6 : o3 ≠ o6) (ne_o3_o7 : o3 ≠ o7) (gn_o4 : n0 ≤ o4) (ne_o4_o5 : o4 ≠ o5) (ne_o4_o6 : o4 ≠ o6) (ne_o4_o7 : o4 ≠ o7) (gn_o5 : n0 ≤ o5) (ne_o5_o6 : o5 ≠ o6) (ne_o5_o7 : o5 ≠ o7) (gn_o6 : n0 ≤ o6) (ne_o6_o7 : o6 ≠ o7) (gn_o7 : n0 ≤ o7) (hy47 : ¬ (i1 < (-1 : Int32))) (hy48 : i1 < (4 : Int32)) (hy49 : ¬ (i3 < (-1 : Int32))) (hy50 : i3 < (4 : Int32))  :
    MetFree l (⟨"com/example/qopa/qopa/model/ModelBuilder", "add", "(ILcom/example/qopa/qopa/math/Rational;Lcom/example/qopa/qopa/math/Rational;I)V"⟩ : MethodName) (head1 (Jvm.Cond.code (⟨"com/example/qopa/qopa/model/ModelBuilder", "add", "(ILcom/example/qopa/qopa/math/Rational;Lcom/example/qopa/qopa/math/Rational;I)V"⟩ : MethodName) prog_73_method_2_code 6 none :: ws) ({ frames := 0, cells := 0, slots := 0, locals := 0 } : Room)) (fun a U => a = #[(.ref o1), (.int (0 : Int32)), .null, .null, (.int i1)] ∧ Z.Warmed39 U.vm ∧ U.heap = h0) (fun _ _ _ _ _ => True) (fun _ U o U' => ∃ v L, o = .returned v ∧ Q7_8 Z o1 i1 o2 o3 o4 o5 o6 o7 kc2 i3 kc4 kc5 kc6 kc7 h0 n0 v U'.heap L ∧ FrameEnd U o U' L ({ frames := 0, cells := 0, slots := 0, locals := 0 } : Room).cells ({ frames := 0, cells := 0, slots := 0, locals := 0 } : Room).slots) := by
  refine own_body (plainFor_of_name pn_1) ?_
  intro p e s m below meth c s₁ G hx hby hml hZ hown hnm hret X0 e0 step fin
  replace hown : s.vm.findClass "com/example/qopa/qopa/model/ModelBuilder" = some m.cls := hown
  replace hnm : meth.name = "add" := hnm
  replace hret : meth.sig.returnType = none := hret
  replace hml : c.maxLocals = 6 := hml
  have N0 := Fr.nil n0
  refine step (s₁.setTop (mkF m 0 #[.val (.ref o1), .val (.int (0 : Int32)), .val .null, .val .null, .val (.int i1), .unset] [])) (fun t k => castTop (ef_7_8 m o1 i1) k) ?_
  refine step (s₁.setTop (mkF m 1 #[.val (.ref o1), .val (.int (0 : Int32)), .val .null, .val .null, .val (.int i1), .unset] [(.ref o1)])) (fun t k => XS.aloadN X0.here hx rfl (hb hby d7_0) rfl rfl k) ?_
  obtain ⟨T1, X1, e1, st1⟩ := getF X0 hx hZ hown (host := "") (Or.inl (hw _ (List.mem_of_getElem? (i := 58) rfl))) Via.refl e0 Pm10 (g := (mkF m 1 #[.val (.ref o1), .val (.int (0 : Int32)), .val .null, .val .null, .val (.int i1), .unset] [(.ref o1)])) rfl rfl (hb hby d7_1)
  refine step (T1.setTop (mkF m 4 #[.val (.ref o1), .val (.int (0 : Int32)), .val .null, .val .null, .val (.int i1), .unset] [(.int (1 : Int32))])) (fun t k => st1 t k) ?_
  refine step (T1.setTop (mkF m 5 #[.val (.ref o1), .val (.int (0 : Int32)), .val .null, .val .null, .val (.int i1), .unset] [(.ref o1), (.int (1 : Int32))])) (fun t k => XS.aloadN X1.here hx rfl (hb hby d7_4) rfl rfl k) ?_
  obtain ⟨T2, X2, e2, st2⟩ := getF X1 hx hZ hown (host := "") (Or.inl (hw _ (List.mem_of_getElem? (i := 38) rfl))) Via.refl e1 Pm9 (g := (mkF m 5 #[.val (.ref o1), .val (.int (0 : Int32)), .val .null, .val .null, .val (.int i1), .unset] [(.ref o1), (.int (1 : Int32))])) rfl rfl (hb hby d7_5)
  refine step (T2.setTop (mkF m 8 #[.val (.ref o1), .val (.int (0 : Int32)), .val .null, .val .null, .val (.int i1), .unset] [(.ref o7), (.int (1 : Int32))])) (fun t k => st2 t k) ?_
  obtain ⟨cl3, Ar3, q3, S3, N3n, H3, G3⟩ := id Pm18
  refine step (T2.setTop (mkF m 9 #[.val (.ref o1), .val (.int (0 : Int32)), .val .null, .val .null, .val (.int i1), .unset] [(.int (3 : Int32)), (.int (1 : Int32))])) (fun t k => X2.arraylength hx (by rw [e2]; exact Ar3.1) (State.isArrayOf_alike hZ.alike Ar3.2.1) (g := (mkF m 8 #[.val (.ref o1), .val (.int (0 : Int32)), .val .null, .val .null, .val (.int i1), .unset] [(.ref o7), (.int (1 : Int32))])) rfl rfl (hb hby d7_8) t (by rw [len_of S3 N3n]; exact k)) ?_
  refine step (T2.setTop (mkF m 93 #[.val (.ref o1), .val (.int (0 : Int32)), .val .null, .val .null, .val (.int i1), .unset] [])) (fun t k => XS.icmpYes X2.here hx rfl (pc0 := 9) (pc' := 93) rfl (hb hby d7_9) rfl (feq (by decide : ¬ ((1 : Int32) = (3 : Int32)))).2 (by decide) (by decide) k) ?_
  refine step (T2.setTop (mkF m 94 #[.val (.ref o1), .val (.int (0 : Int32)), .val .null, .val .null, .val (.int i1), .unset] [(.ref o1)])) (fun t k => XS.aloadN X2.here hx rfl (hb hby d7_93) rfl rfl k) ?_
  obtain ⟨T4, X4, e4, st4⟩ := getF X2 hx hZ hown (host := "") (Or.inl (hw _ (List.mem_of_getElem? (i := 38) rfl))) Via.refl e2 Pm9 (g := (mkF m 94 #[.val (.ref o1), .val (.int (0 : Int32)), .val .null, .val .null, .val (.int i1), .unset] [(.ref o1)])) rfl rfl (hb hby d7_94)
  refine step (T4.setTop (mkF m 97 #[.val (.ref o1), .val (.int (0 : Int32)), .val .null, .val .null, .val (.int i1), .unset] [(.ref o7)])) (fun t k => st4 t k) ?_
  refine step (T4.setTop (mkF m 98 #[.val (.ref o1), .val (.int (0 : Int32)), .val .null, .val .null, .val (.int i1), .unset] [(.ref o1), (.ref o7)])) (fun t k => XS.aloadN X4.here hx rfl (hb hby d7_97) rfl rfl k) ?_
  obtain ⟨T5, X5, e5, st5⟩ := getF X4 hx hZ hown (host := "") (Or.inl (hw _ (List.mem_of_getElem? (i := 58) rfl))) Via.refl e4 Pm10 (g := (mkF m 98 #[.val (.ref o1), .val (.int (0 : Int32)), .val .null, .val .null, .val (.int i1), .unset] [(.ref o1), (.ref o7)])) rfl rfl (hb hby d7_98)
  refine step (T5.setTop (mkF m 101 #[.val (.ref o1), .val (.int (0 : Int32)), .val .null, .val .null, .val (.int i1), .unset] [(.int (1 : Int32)), (.ref o7)])) (fun t k => st5 t k) ?_
  refine step (T5.setTop (mkF m 102 #[.val (.ref o1), .val (.int (0 : Int32)), .val .null, .val .null, .val (.int i1), .unset] [(.int (0 : Int32)), (.int (1 : Int32)), (.ref o7)])) (fun t k => XS.iloadN X5.here hx rfl (hb hby d7_101) rfl k) ?_
  obtain ⟨cl6, Ar6, q6, S6, N6n, H6, G6⟩ := id Pm18
  have hin6 : ¬ ((1 : Int32) < 0 ∨ cl6.slots.size ≤ ((1 : Int32)).toNatClampNeg) := inb_of S6 ⟨by decide, by decide⟩
  obtain ⟨T6, h6, X6, e6, W6, st6⟩ := stI X5 hx hZ e5 Ar6 (j := (1 : Int32)) hin6 (g := (mkF m 102 #[.val (.ref o1), .val (.int (0 : Int32)), .val .null, .val .null, .val (.int i1), .unset] [(.int (0 : Int32)), (.int (1 : Int32)), (.ref o7)])) rfl rfl (hb hby d7_102)
  have N6 := Fr.snoc X6 N0 gn_o7
  have K6 : Keep h0 h6 [o7, o5, o2, o1] := (Keep.refl h0 [o7, o5, o2, o1]).wr W6 (Or.inl (List.mem_of_getElem? (i := 0) rfl))
  have V6 : Arv Z h6 o7 kc7 .int (3 : Int32) [(.int (0 : Int32)), (.int (0 : Int32)), (.int (0 : Int32))] (.int (0 : Int32)) := Arv.set Ar6 q6 S6 N6n H6 G6 rfl W6 1 rfl (Nat.le_of_ble_eq_true rfl)
  refine step (T6.setTop (mkF m 103 #[.val (.ref o1), .val (.int (0 : Int32)), .val .null, .val .null, .val (.int i1), .unset] [])) (fun t k => st6 t k) ?_
  refine step (T6.setTop (mkF m 104 #[.val (.ref o1), .val (.int (0 : Int32)), .val .null, .val .null, .val (.int i1), .unset] [(.ref o1)])) (fun t k => XS.aloadN X6.here hx rfl (hb hby d7_103) rfl rfl k) ?_
  have f7 := (Pm6.other W6 (Or.inl ne_o1_o7))
  obtain ⟨T8, X8, e8, st8⟩ := getF X6 hx hZ hown (host := "") (Or.inl (hw _ (List.mem_of_getElem? (i := 42) rfl))) Via.refl e6 f7 (g := (mkF m 104 #[.val (.ref o1), .val (.int (0 : Int32)), .val .null, .val .null, .val (.int i1), .unset] [(.ref o1)])) rfl rfl (hb hby d7_104)
  refine step (T8.setTop (mkF m 107 #[.val (.ref o1), .val (.int (0 : Int32)), .val .null, .val .null, .val (.int i1), .unset] [(.ref o5)])) (fun t k => st8 t k) ?_
  refine step (T8.setTop (mkF m 108 #[.val (.ref o1), .val (.int (0 : Int32)), .val .null, .val .null, .val (.int i1), .unset] [(.ref o1), (.ref o5)])) (fun t k => XS.aloadN X8.here hx rfl (hb hby d7_107) rfl rfl k) ?_
  have f9 := (Pm10.other W6 (Or.inl ne_o1_o7))
  obtain ⟨T10, X10, e10, st10⟩ := getF X8 hx hZ hown (host := "") (Or.inl (hw _ (List.mem_of_getElem? (i := 58) rfl))) Via.refl e8 f9 (g := (mkF m 108 #[.val (.ref o1), .val (.int (0 : Int32)), .val .null, .val .null, .val (.int i1), .unset] [(.ref o1), (.ref o5)])) rfl rfl (hb hby d7_108)
  refine step (T10.setTop (mkF m 111 #[.val (.ref o1), .val (.int (0 : Int32)), .val .null, .val .null, .val (.int i1), .unset] [(.int (1 : Int32)), (.ref o5)])) (fun t k => st10 t k) ?_
  refine step (T10.setTop (mkF m 112 #[.val (.ref o1), .val (.int (0 : Int32)), .val .null, .val .null, .val (.int i1), .unset] [.null, (.int (1 : Int32)), (.ref o5)])) (fun t k => XS.aloadN X10.here hx rfl (hb hby d7_111) rfl rfl k) ?_
  have f11 := (Pm15.other W6 ne_o5_o7)
  obtain ⟨cl12, Ar12, q12, S12, N12n, H12, G12⟩ := id f11
  have hin12 : ¬ ((1 : Int32) < 0 ∨ cl12.slots.size ≤ ((1 : Int32)).toNatClampNeg) := inb_of S12 ⟨by decide, by decide⟩
  obtain ⟨T12, h12, X12, e12, W12, st12⟩ := stR X10 hx hZ e10 Ar12 (j := (1 : Int32)) (v := .null) hin12 rfl (Or.inl rfl) (g := (mkF m 112 #[.val (.ref o1), .val (.int (0 : Int32)), .val .null, .val .null, .val (.int i1), .unset] [.null, (.int (1 : Int32)), (.ref o5)])) rfl rfl (hb hby d7_112)
  have N12 := Fr.snoc X12 N6 gn_o5
  have K12 : Keep h0 h12 [o7, o5, o2, o1] := K6.wr W12 (Or.inl (List.mem_of_getElem? (i := 1) rfl))
  have V12 : Arv Z h12 o5 kc6 (.object "com/example/qopa/qopa/math/Rational") (3 : Int32) [.null, .null, .null] .null := Arv.set Ar12 q12 S12 N12n H12 G12 rfl W12 1 rfl (Nat.le_of_ble_eq_true rfl)
  refine step (T12.setTop (mkF m 113 #[.val (.ref o1), .val (.int (0 : Int32)), .val .null, .val .null, .val (.int i1), .unset] [])) (fun t k => st12 t k) ?_
  refine step (T12.setTop (mkF m 114 #[.val (.ref o1), .val (.int (0 : Int32)), .val .null, .val .null, .val (.int i1), .unset] [(.ref o1)])) (fun t k => XS.aloadN X12.here hx rfl (hb hby d7_113) rfl rfl k) ?_
  have f13 := ((Pm11.other W6 (Or.inl ne_o1_o7)).other W12 (Or.inl ne_o1_o5))
  obtain ⟨T14, X14, e14, st14⟩ := getF X12 hx hZ hown (host := "") (Or.inl (hw _ (List.mem_of_getElem? (i := 44) rfl))) Via.refl e12 f13 (g := (mkF m 114 #[.val (.ref o1), .val (.int (0 : Int32)), .val .null, .val .null, .val (.int i1), .unset] [(.ref o1)])) rfl rfl (hb hby d7_114)
  refine step (T14.setTop (mkF m 117 #[.val (.ref o1), .val (.int (0 : Int32)), .val .null, .val .null, .val (.int i1), .unset] [(.ref o5)])) (fun t k => st14 t k) ?_
  refine step (T14.setTop (mkF m 118 #[.val (.ref o1), .val (.int (0 : Int32)), .val .null, .val .null, .val (.int i1), .unset] [(.ref o1), (.ref o5)])) (fun t k => XS.aloadN X14.here hx rfl (hb hby d7_117) rfl rfl k) ?_
  have f15 := (f9.other W12 (Or.inl ne_o1_o5))
  obtain ⟨T16, X16, e16, st16⟩ := getF X14 hx hZ hown (host := "") (Or.inl (hw _ (List.mem_of_getElem? (i := 58) rfl))) Via.refl e14 f15 (g := (mkF m 118 #[.val (.ref o1), .val (.int (0 : Int32)), .val .null, .val .null, .val (.int i1), .unset] [(.ref o1), (.ref o5)])) rfl rfl (hb hby d7_118)
  refine step (T16.setTop (mkF m 121 #[.val (.ref o1), .val (.int (0 : Int32)), .val .null, .val .null, .val (.int i1), .unset] [(.int (1 : Int32)), (.ref o5)])) (fun t k => st16 t k) ?_
  refine step (T16.setTop (mkF m 122 #[.val (.ref o1), .val (.int (0 : Int32)), .val .null, .val .null, .val (.int i1), .unset] [.null, (.int (1 : Int32)), (.ref o5)])) (fun t k => XS.aloadN X16.here hx rfl (hb hby d7_121) rfl rfl k) ?_
  obtain ⟨cl17, Ar17, q17, S17, N17n, H17, G17⟩ := id V12
  have hin17 : ¬ ((1 : Int32) < 0 ∨ cl17.slots.size ≤ ((1 : Int32)).toNatClampNeg) := inb_of S17 ⟨by decide, by decide⟩
  obtain ⟨T17, h17, X17, e17, W17, st17⟩ := stR X16 hx hZ e16 Ar17 (j := (1 : Int32)) (v := .null) hin17 rfl (Or.inl rfl) (g := (mkF m 122 #[.val (.ref o1), .val (.int (0 : Int32)), .val .null, .val .null, .val (.int i1), .unset] [.null, (.int (1 : Int32)), (.ref o5)])) rfl rfl (hb hby d7_122)
  have N17 := Fr.snoc X17 N12 gn_o5
  have K17 : Keep h0 h17 [o7, o5, o2, o1] := K12.wr W17 (Or.inl (List.mem_of_getElem? (i := 1) rfl))
  have V17 : Arv Z h17 o5 kc6 (.object "com/example/qopa/qopa/math/Rational") (3 : Int32) [.null, .null, .null] .null := Arv.set Ar17 q17 S17 N17n H17 G17 rfl W17 1 rfl (Nat.le_of_ble_eq_true rfl)
  refine step (T17.setTop (mkF m 123 #[.val (.ref o1), .val (.int (0 : Int32)), .val .null, .val .null, .val (.int i1), .unset] [])) (fun t k => st17 t k) ?_
  refine step (T17.setTop (mkF m 124 #[.val (.ref o1), .val (.int (0 : Int32)), .val .null, .val .null, .val (.int i1), .unset] [(.ref o1)])) (fun t k => XS.aloadN X17.here hx rfl (hb hby d7_123) rfl rfl k) ?_
  have f18 := (((Pm1.other W6 (Or.inl ne_o1_o7)).other W12 (Or.inl ne_o1_o5)).other W17 (Or.inl ne_o1_o5))
  obtain ⟨T19, X19, e19, st19⟩ := getF X17 hx hZ hown (host := "") (Or.inl (hw _ (List.mem_of_getElem? (i := 46) rfl))) Via.refl e17 f18 (g := (mkF m 124 #[.val (.ref o1), .val (.int (0 : Int32)), .val .null, .val .null, .val (.int i1), .unset] [(.ref o1)])) rfl rfl (hb hby d7_124)
  refine step (T19.setTop (mkF m 127 #[.val (.ref o1), .val (.int (0 : Int32)), .val .null, .val .null, .val (.int i1), .unset] [(.ref o2)])) (fun t k => st19 t k) ?_
  refine step (T19.setTop (mkF m 128 #[.val (.ref o1), .val (.int (0 : Int32)), .val .null, .val .null, .val (.int i1), .unset] [(.ref o1), (.ref o2)])) (fun t k => XS.aloadN X19.here hx rfl (hb hby d7_127) rfl rfl k) ?_
  have f20 := (f15.other W17 (Or.inl ne_o1_o5))
  obtain ⟨T21, X21, e21, st21⟩ := getF X19 hx hZ hown (host := "") (Or.inl (hw _ (List.mem_of_getElem? (i := 58) rfl))) Via.refl e19 f20 (g := (mkF m 128 #[.val (.ref o1), .val (.int (0 : Int32)), .val .null, .val .null, .val (.int i1), .unset] [(.ref o1), (.ref o2)])) rfl rfl (hb hby d7_128)
  refine step (T21.setTop (mkF m 131 #[.val (.ref o1), .val (.int (0 : Int32)), .val .null, .val .null, .val (.int i1), .unset] [(.int (1 : Int32)), (.ref o2)])) (fun t k => st21 t k) ?_
  refine step (T21.setTop (mkF m 133 #[.val (.ref o1), .val (.int (0 : Int32)), .val .null, .val .null, .val (.int i1), .unset] [(.int i1), (.int (1 : Int32)), (.ref o2)])) (fun t k => XS.iload X21.here hx rfl (hb hby d7_131) rfl k) ?_
  have f22 := (((Pm12.other W6 ne_o2_o7).other W12 ne_o2_o5).other W17 ne_o2_o5)
  obtain ⟨cl23, Ar23, q23, S23, N23n, H23, G23⟩ := id f22
  have hin23 : ¬ ((1 : Int32) < 0 ∨ cl23.slots.size ≤ ((1 : Int32)).toNatClampNeg) := inb_of S23 ⟨by decide, by decide⟩
  obtain ⟨T23, h23, X23, e23, W23, st23⟩ := stI X21 hx hZ e21 Ar23 (j := (1 : Int32)) hin23 (g := (mkF m 133 #[.val (.ref o1), .val (.int (0 : Int32)), .val .null, .val .null, .val (.int i1), .unset] [(.int i1), (.int (1 : Int32)), (.ref o2)])) rfl rfl (hb hby d7_133)
  have N23 := Fr.snoc X23 N17 gn_o2
  have K23 : Keep h0 h23 [o7, o5, o2, o1] := K17.wr W23 (Or.inl (List.mem_of_getElem? (i := 2) rfl))
  have V23 : Arv Z h23 o2 kc2 .int (3 : Int32) [(.int i3), (.int i1), (.int (0 : Int32))] (.int (0 : Int32)) := Arv.set Ar23 q23 S23 N23n H23 G23 rfl W23 1 rfl (Nat.le_of_ble_eq_true rfl)
  refine step (T23.setTop (mkF m 134 #[.val (.ref o1), .val (.int (0 : Int32)), .val .null, .val .null, .val (.int i1), .unset] [])) (fun t k => st23 t k) ?_
  refine step (T23.setTop (mkF m 135 #[.val (.ref o1), .val (.int (0 : Int32)), .val .null, .val .null, .val (.int i1), .unset] [(.ref o1)])) (fun t k => XS.aloadN X23.here hx rfl (hb hby d7_134) rfl rfl k) ?_
  refine step (T23.setTop (mkF m 136 #[.val (.ref o1), .val (.int (0 : Int32)), .val .null, .val .null, .val (.int i1), .unset] [(.ref o1), (.ref o1)])) (fun t k => XS.dup X23.here hx rfl (hb hby d7_135) rfl rfl k) ?_
  have f24 := (f20.other W23 (Or.inl ne_o1_o2))
  obtain ⟨T25, X25, e25, st25⟩ := getF X23 hx hZ hown (host := "") (Or.inl (hw _ (List.mem_of_getElem? (i := 58) rfl))) Via.refl e23 f24 (g := (mkF m 136 #[.val (.ref o1), .val (.int (0 : Int32)), .val .null, .val .null, .val (.int i1), .unset] [(.ref o1), (.ref o1)])) rfl rfl (hb hby d7_136)
  refine step (T25.setTop (mkF m 139 #[.val (.ref o1), .val (.int (0 : Int32)), .val .null, .val .null, .val (.int i1), .unset] [(.int (1 : Int32)), (.ref o1)])) (fun t k => st25 t k) ?_
  refine step (T25.setTop (mkF m 140 #[.val (.ref o1), .val (.int (0 : Int32)), .val .null, .val .null, .val (.int i1), .unset] [(.int (1 : Int32)), (.int (1 : Int32)), (.ref o1)])) (fun t k => XS.iconst X25.here hx rfl (hb hby d7_139) k) ?_
  refine step (T25.setTop (mkF m 141 #[.val (.ref o1), .val (.int (0 : Int32)), .val .null, .val .null, .val (.int i1), .unset] [(.int (2 : Int32)), (.ref o1)])) (fun t k => XS.iadd X25.here hx rfl (hb hby d7_140) rfl k) ?_
  have f26 := ((((Pm0.wr W6).wr W12).wr W17).wr W23)
  obtain ⟨T27, h27, X27, e27, W27, st27⟩ := putF X25 hx hZ hown (host := "") (Or.inl (hw _ (List.mem_of_getElem? (i := 58) rfl))) Via.refl e25 f24 f26 (Or.inl (hw _ (List.mem_of_getElem? (i := 59) rfl))) (hw _ (List.mem_of_getElem? (i := 6) rfl)) (ty := .int) (by decide) rfl rfl (g := (mkF m 141 #[.val (.ref o1), .val (.int (0 : Int32)), .val .null, .val .null, .val (.int i1), .unset] [(.int (2 : Int32)), (.ref o1)])) rfl rfl (hb hby d7_141)
  have N27 := Fr.snoc X27 N23 gn_o1
  have K27 : Keep h0 h27 [o7, o5, o2, o1] := K23.wr W27 (Or.inl (List.mem_of_getElem? (i := 3) rfl))
  have F27 := f24.same W27
  refine step (T27.setTop (mkF m 144 #[.val (.ref o1), .val (.int (0 : Int32)), .val .null, .val .null, .val (.int i1), .unset] [])) (fun t k => st27 t k) ?_
  have f28 := ((((V6.other W12 (Ne.symm ne_o5_o7)).other W17 (Ne.symm ne_o5_o7)).other W23 (Ne.symm ne_o2_o7)).other W27 (Ne.symm ne_o1_o7))
  have f29 := ((V17.other W23 (Ne.symm ne_o2_o5)).other W27 (Ne.symm ne_o1_o5))
  have f30 := (V23.other W27 (Ne.symm ne_o1_o2))
  have f31 := ((f18.other W23 (Or.inl ne_o1_o2)).other W27 (Or.inr (slot_ne (Or.inl (hw _ (List.mem_of_getElem? (i := 47) rfl))) (Or.inl (hw _ (List.mem_of_getElem? (i := 59) rfl))) (by decide) (t := (.array .int)) (t' := .int) (by decide) (by decide))))
  have f32 := (((((Pm2.other W6 (Or.inl ne_o1_o7)).other W12 (Or.inl ne_o1_o5)).other W17 (Or.inl ne_o1_o5)).other W23 (Or.inl ne_o1_o2)).other W27 (Or.inr (slot_ne (Or.inr (hw _ (List.mem_of_getElem? (i := 33) rfl))) (Or.inl (hw _ (List.mem_of_getElem? (i := 59) rfl))) (by decide) (t := .boolean) (t' := .int) (by decide) (by decide))))
  have f33 := (((((Pm3.other W6 (Or.inl ne_o1_o7)).other W12 (Or.inl ne_o1_o5)).other W17 (Or.inl ne_o1_o5)).other W23 (Or.inl ne_o1_o2)).other W27 (Or.inr (slot_ne (Or.inl (hw _ (List.mem_of_getElem? (i := 85) rfl))) (Or.inl (hw _ (List.mem_of_getElem? (i := 59) rfl))) (by decide) (t := .int) (t' := .int) (by decide) (by decide))))
  have f34 := (((((Pm4.other W6 (Or.inl ne_o1_o7)).other W12 (Or.inl ne_o1_o5)).other W17 (Or.inl ne_o1_o5)).other W23 (Or.inl ne_o1_o2)).other W27 (Or.inr (slot_ne (Or.inl (hw _ (List.mem_of_getElem? (i := 35) rfl))) (Or.inl (hw _ (List.mem_of_getElem? (i := 59) rfl))) (by decide) (t := (.array .int)) (t' := .int) (by decide) (by decide))))
  have f35 := (((((Pm5.other W6 (Or.inl ne_o1_o7)).other W12 (Or.inl ne_o1_o5)).other W17 (Or.inl ne_o1_o5)).other W23 (Or.inl ne_o1_o2)).other W27 (Or.inr (slot_ne (Or.inl (hw _ (List.mem_of_getElem? (i := 37) rfl))) (Or.inl (hw _ (List.mem_of_getElem? (i := 59) rfl))) (by decide) (t := (.array .int)) (t' := .int) (by decide) (by decide))))
  have f36 := ((((f7.other W12 (Or.inl ne_o1_o5)).other W17 (Or.inl ne_o1_o5)).other W23 (Or.inl ne_o1_o2)).other W27 (Or.inr (slot_ne (Or.inl (hw _ (List.mem_of_getElem? (i := 43) rfl))) (Or.inl (hw _ (List.mem_of_getElem? (i := 59) rfl))) (by decide) (t := (.array (.object "com/example/qopa/qopa/math/Rational"))) (t' := .int) (by decide) (by decide))))
  have f37 := (((((Pm7.other W6 (Or.inl ne_o1_o7)).other W12 (Or.inl ne_o1_o5)).other W17 (Or.inl ne_o1_o5)).other W23 (Or.inl ne_o1_o2)).other W27 (Or.inr (slot_ne (Or.inr (hw _ (List.mem_of_getElem? (i := 31) rfl))) (Or.inl (hw _ (List.mem_of_getElem? (i := 59) rfl))) (by decide) (t := (.object "java/util/Map")) (t' := .int) (by decide) (by decide))))
  have f38 := (((((Pm8.other W6 (Or.inl ne_o1_o7)).other W12 (Or.inl ne_o1_o5)).other W17 (Or.inl ne_o1_o5)).other W23 (Or.inl ne_o1_o2)).other W27 (Or.inr (slot_ne (Or.inl (hw _ (List.mem_of_getElem? (i := 80) rfl))) (Or.inl (hw _ (List.mem_of_getElem? (i := 59) rfl))) (by decide) (t := .int) (t' := .int) (by decide) (by decide))))
  have f39 := (((((Pm9.other W6 (Or.inl ne_o1_o7)).other W12 (Or.inl ne_o1_o5)).other W17 (Or.inl ne_o1_o5)).other W23 (Or.inl ne_o1_o2)).other W27 (Or.inr (slot_ne (Or.inl (hw _ (List.mem_of_getElem? (i := 39) rfl))) (Or.inl (hw _ (List.mem_of_getElem? (i := 59) rfl))) (by decide) (t := (.array .int)) (t' := .int) (by decide) (by decide))))
  have f40 := (((f13.other W17 (Or.inl ne_o1_o5)).other W23 (Or.inl ne_o1_o2)).other W27 (Or.inr (slot_ne (Or.inl (hw _ (List.mem_of_getElem? (i := 45) rfl))) (Or.inl (hw _ (List.mem_of_getElem? (i := 59) rfl))) (by decide) (t := (.array (.object "com/example/qopa/qopa/math/Rational"))) (t' := .int) (by decide) (by decide))))
  refine fin (v := none) X27 (fun _ => rfl) ?_ (by decide) (by decide) (fun fs hr => X27.returnOut hx hret (hb hby d7_144) hr)
  show Q7_8 Z o1 i1 o2 o3 o4 o5 o6 o7 kc2 i3 kc4 kc5 kc6 kc7 h0 n0 (none) T27.heap _
  rw [e27]
  exact ⟨rfl, N27, K27, f28, f29, f30, f31, f32, f33, f34, f35, f36, f37, f38, f39, F27, f40⟩
theorem ef_6_7 (m : MethodId) (x0 : Addr) (x3 : Int32) : entryFrame m #[(.ref x0), (.int (0 : Int32)), .null, (.int x3)] 4 = mkF m 0 #[.val (.ref x0), .val (.int (0 : Int32)), .val .null, .val (.int x3)] [] := by first | (simp [entryFrame, mkF, argsToLocals, Value.category]; done) | rfl
def Q6_7 (Z : State) (o1 : Addr) (i1 : Int32) (o2 : Addr) (o3 : Addr) (o4 : Addr) (o5 : Addr) (o6 : Addr) (o7 : Addr) (kc2 : ClassId) (i3 : Int32) (kc4 : ClassId) (kc5 : ClassId) (kc6 : ClassId) (kc7 : ClassId) (h0 : Heap) (n0 : Nat) (v : Option Value) (h : Heap) (L : List Loc) : Prop := v = none ∧ Fr n0 L ∧ Keep h0 h [o7, o5, o2, o1] ∧ Arv Z h o7 kc7 .int (3 : Int32) [(.int (0 : Int32)), (.int (0 : Int32)), (.int (0 : Int32))] (.int (0 : Int32)) ∧ Arv Z h o5 kc6 (.object "com/example/qopa/qopa/math/Rational") (3 : Int32) [.null, .null, .null] .null ∧ Arv Z h o2 kc2 .int (3 : Int32) [(.int i3), (.int i1), (.int (0 : Int32))] (.int (0 : Int32)) ∧ Fld Z h o1 "com/example/qopa/qopa/model/ModelBuilder" "action" "[I" (.ref o2) ∧ Fld Z h o1 "com/example/qopa/qopa/model/ModelBuilder" "bounded" "Z" (.int (0 : Int32)) ∧ Fld Z h o1 "com/example/qopa/qopa/model/ModelBuilder" "choiceCount" "I" (.int (0 : Int32)) ∧ Fld Z h o1 "com/example/qopa/qopa/model/ModelBuilder" "firstChoice" "[I" (.ref o3) ∧ Fld Z h o1 "com/example/qopa/qopa/model/ModelBuilder" "firstTransition" "[I" (.ref o4) ∧ Fld Z h o1 "com/example/qopa/qopa/model/ModelBuilder" "lower" "[Lcom/example/qopa/qopa/math/Rational;" (.ref o5) ∧ Fld Z h o1 "com/example/qopa/qopa/model/ModelBuilder" "merged" "Ljava/util/Map;" (.ref o6) ∧ Fld Z h o1 "com/example/qopa/qopa/model/ModelBuilder" "stateCount" "I" (.int (0 : Int32)) ∧ Fld Z h o1 "com/example/qopa/qopa/model/ModelBuilder" "target" "[I" (.ref o7) ∧ Fld Z h o1 "com/example/qopa/qopa/model/ModelBuilder" "transitionCount" "I" (.int (2 : Int32)) ∧ Fld Z h o1 "com/example/qopa/qopa/model/ModelBuilder" "upper" "[Lcom/example/qopa/qopa/math/Rational;" (.ref o5)
set_option maxRecDepth 65536 in
set_option maxHeartbeats 40000000 in
theorem rm6_7 (l : Launch) (Z : State) (a0 : Array Value) (hw : ∀ d ∈ tables_1, d.before a0 Z = true) (ws : List Jvm.Cond) (o1 : Addr) (i1 : Int32) (o2 : Addr) (o3 : Addr) (o4 : Addr) (o5 : Addr) (o6 : Addr) (o7 : Addr) (kc2 : ClassId) (i3 : Int32) (kc4 : ClassId) (kc5 : ClassId) (kc6 : ClassId) (kc7 : ClassId) (h0 : Heap) (n0 : Nat) (Z0 : n0 ≤ h0.size) (Pm0 : Exa Z h0 o1 "com/example/qopa/qopa/model/ModelBuilder") (Pm1 : Fld Z h0 o1 "com/example/qopa/qopa/model/ModelBuilder" "action" "[I" (.ref o2)) (Pm2 : Fld Z h0 o1 "com/example/qopa/qopa/model/ModelBuilder" "bounded" "Z" (.int (0 : Int32))) (Pm3 : Fld Z h0 o1 "com/example/qopa/qopa/model/ModelBuilder" "choiceCount" "I" (.int (0 : Int32))) (Pm4 : Fld Z h0 o1 "com/example/qopa/qopa/model/ModelBuilder" "firstChoice" "[I" (.ref o3)) (Pm5 : Fld Z h0 o1 "com/example/qopa/qopa/model/ModelBuilder" "firstTransition" "[I" (.ref o4)) (Pm6 : Fld Z h0 o1 "com/example/qopa/qopa/model/ModelBuilder" "lower" "[Lcom/example/qopa/qopa/math/Rational;" (.ref o5)) (Pm7 : Fld Z h0 o1 "com/example/qopa/qopa/model/ModelBuilder" "merged" "Ljava/util/Map;" (.ref o6)) (Pm8 : Fld Z h0 o1 "com/example/qopa/qopa/model/ModelBuilder" "stateCount" "I" (.int (0 : Int32))) (Pm9 : Fld Z h0 o1 "com/example/qopa/qopa/model/ModelBuilder" "target" "[I" (.ref o7)) (Pm10 : Fld Z h0 o1 "com/example/qopa/qopa/model/ModelBuilder" "transitionCount" "I" (.int (1 : Int32))) (Pm11 : Fld Z h0 o1 "com/example/qopa/qopa/model/ModelBuilder" "upper" "[Lcom/example/qopa/qopa/math/Rational;" (.ref o5)) (Pm12 : Arv Z h0 o2 kc2 .int (3 : Int32) [(.int i3), (.int (0 : Int32)), (.int (0 : Int32))] (.int (0 : Int32))) (Pm13 : Arv Z h0 o3 kc4 .int (1 : Int32) [(.int (0 : Int32))] (.int (0 : Int32))) (Pm14 : Arv Z h0 o4 kc5 .int (1 : Int32) [(.int (0 : Int32))] (.int (0 : Int32))) (Pm15 : Arv Z h0 o5 kc6 (.object "com/example/qopa/qopa/math/Rational") (3 : Int32) [.null, .null, .null] .null) (O16 : Ovr Z kc6 "com/example/qopa/qopa/math/Rational") (Pm17 : Exa Z h0 o6 "java/util/HashMap") (Pm18 : Arv Z h0 o7 kc7 .int (3 : Int32) [(.int (0 : Int32)), (.int (0 : Int32)), (.int (0 : Int32))] (.int (0 : Int32))) (gn_o1 : n0 ≤ o1) (ne_o1_o2 : o1 ≠ o2) (ne_o1_o3 : o1 ≠ o3) (ne_o1_o4 : o1 ≠ o4) (ne_o1_o5 : o1 ≠ o5) (ne_o1_o6 : o1 ≠ o6) (ne_o1_o7 : o1 ≠ o7) (gn_o2 : n0 ≤ o2) (ne_o2_o3 : o2 ≠ o3) (ne_o2_o4 : o2 ≠ o4) (ne_o2_o5 : o2 ≠ o5) (ne_o2_o6 : o2 ≠ o6) (ne_o2_o7 : o2 ≠ o7) (gn_o3 : n0 ≤ o3) (ne_o3_o4 : o3 ≠ o4) (ne_o3_o5 : o3 ≠ o5) (ne_o3_o6 : o3 ≠ o6) (ne_o3_o7 : o3 ≠ o7) (gn_o4 : n0 ≤ o4) (ne_o4_o5 : o4 ≠ o5) (ne_o4_o6 : o4 ≠ o6) (ne_o4_o7 : o4 ≠ o7) (gn_o5 : n0 ≤ o5) (ne_o5_o6 : o5 ≠ o6) (ne_o5_o7 : o5 ≠ o7) (gn_o6 : n0 ≤ o6) (ne_o6_o7 : o6 ≠ o7) (gn_o7 : n0 ≤ o7) (hy47 : ¬ (i3 < (-1 : Int32))) (hy48 : i3 < (4 : Int32)) (hy49 : ¬ (i1 < (-1 : Int32))) (hy50 : i1 < (4 : Int32))  :
    MetFree l (⟨"com/example/qopa/qopa/model/ModelBuilder", "add", "(ILcom/example/qopa/qopa/math/Rational;I)V"⟩ : MethodName) (head1 (Jvm.Cond.code (⟨"com/example/qopa/qopa/model/ModelBuilder", "add", "(ILcom/example/qopa/qopa/math/Rational;I)V"⟩ : MethodName) prog_73_method_3_code 4 none :: ws) ({ frames := 1, cells := 0, slots := 0, locals := 17 } : Room)) (fun a U => a = #[(.ref o1), (.int (0 : Int32)), .null, (.int i1)] ∧ Z.Warmed39 U.vm ∧ U.heap = h0) (fun _ _ _ _ _ => True) (fun _ U o U' => ∃ v L, o = .returned v ∧ Q6_7 Z o1 i1 o2 o3 o4 o5 o6 o7 kc2 i3 kc4 kc5 kc6 kc7 h0 n0 v U'.heap L ∧ FrameEnd U o U' L ({ frames := 1, cells := 0, slots := 0, locals := 17 } : Room).cells ({ frames := 1, cells := 0, slots := 0, locals := 17 } : Room).slots) := by
  refine own_body (plainFor_of_name pn_1) ?_
  intro p e s m below meth c s₁ G hx hby hml hZ hown hnm hret X0 e0 step fin
  replace hown : s.vm.findClass "com/example/qopa/qopa/model/ModelBuilder" = some m.cls := hown
  replace hnm : meth.name = "add" := hnm
  replace hret : meth.sig.returnType = none := hret
  replace hml : c.maxLocals = 4 := hml
  have N0 := Fr.nil n0
  refine step (s₁.setTop (mkF m 0 #[.val (.ref o1), .val (.int (0 : Int32)), .val .null, .val (.int i1)] [])) (fun t k => castTop (ef_6_7 m o1 i1) k) ?_
  refine step (s₁.setTop (mkF m 1 #[.val (.ref o1), .val (.int (0 : Int32)), .val .null, .val (.int i1)] [(.ref o1)])) (fun t k => XS.aloadN X0.here hx rfl (hb hby d6_0) rfl rfl k) ?_
  refine step (s₁.setTop (mkF m 2 #[.val (.ref o1), .val (.int (0 : Int32)), .val .null, .val (.int i1)] [(.int (0 : Int32)), (.ref o1)])) (fun t k => XS.iloadN X0.here hx rfl (hb hby d6_1) rfl k) ?_
  refine step (s₁.setTop (mkF m 3 #[.val (.ref o1), .val (.int (0 : Int32)), .val .null, .val (.int i1)] [.null, (.int (0 : Int32)), (.ref o1)])) (fun t k => XS.aloadN X0.here hx rfl (hb hby d6_2) rfl rfl k) ?_
  refine step (s₁.setTop (mkF m 4 #[.val (.ref o1), .val (.int (0 : Int32)), .val .null, .val (.int i1)] [.null, .null, (.int (0 : Int32)), (.ref o1)])) (fun t k => XS.aloadN X0.here hx rfl (hb hby d6_3) rfl rfl k) ?_
  refine step (s₁.setTop (mkF m 5 #[.val (.ref o1), .val (.int (0 : Int32)), .val .null, .val (.int i1)] [(.int i1), .null, .null, (.int (0 : Int32)), (.ref o1)])) (fun t k => XS.iloadN X0.here hx rfl (hb hby d6_4) rfl k) ?_
  obtain ⟨cq1, kq1, q1a, q1b, q1c⟩ := isOf hZ e0 Pm0
  obtain ⟨_, _, ⟨T1, L1, k1, n1⟩, -, X1, ⟨Lc1, hQ1, l1, y1, z1⟩, st1⟩ := X0.virtualBack hx (y := (⟨"com/example/qopa/qopa/model/ModelBuilder", "add", "(ILcom/example/qopa/qopa/math/Rational;Lcom/example/qopa/qopa/math/Rational;I)V"⟩ : MethodName)) (z := (⟨"com/example/qopa/qopa/model/ModelBuilder", "add", "(ILcom/example/qopa/qopa/math/Rational;Lcom/example/qopa/qopa/math/Rational;I)V"⟩ : MethodName)) hown (mvT hZ (hw _ (List.mem_of_getElem? (i := 53) rfl))) (mvT hZ (hw _ (List.mem_of_getElem? (i := 54) rfl))) (notFace_of_selects (args := #[]) (mvT hZ (hw _ (List.mem_of_getElem? (i := 56) rfl)))) (mvT hZ (hw _ (List.mem_of_getElem? (i := 56) rfl))) (mvT hZ (hw _ (List.mem_of_getElem? (i := 55) rfl))) (by decide) (backOf (W := 0) (rm7_8 l Z a0 hw [] o1 i1 o2 o3 o4 o5 o6 o7 kc2 i3 kc4 kc5 kc6 kc7 h0 n0 Z0 Pm0 Pm1 Pm2 Pm3 Pm4 Pm5 Pm6 Pm7 Pm8 Pm9 Pm10 Pm11 Pm12 Pm13 Pm14 Pm15 O16 Pm17 Pm18 gn_o1 ne_o1_o2 ne_o1_o3 ne_o1_o4 ne_o1_o5 ne_o1_o6 ne_o1_o7 gn_o2 ne_o2_o3 ne_o2_o4 ne_o2_o5 ne_o2_o6 ne_o2_o7 gn_o3 ne_o3_o4 ne_o3_o5 ne_o3_o6 ne_o3_o7 gn_o4 ne_o4_o5 ne_o4_o6 ne_o4_o7 gn_o5 ne_o5_o6 ne_o5_o7 gn_o6 ne_o6_o7 gn_o7 hy49 hy50 hy47 hy48) hZ (hw _ (List.mem_of_getElem? (i := 57) rfl)) (hw _ (List.mem_of_getElem? (i := 7) rfl)) (by decide) (by decide)) q1a q1c (g := (mkF m 5 #[.val (.ref o1), .val (.int (0 : Int32)), .val .null, .val (.int i1)] [(.int i1), .null, .null, (.int (0 : Int32)), (.ref o1)])) rfl (by rw [hml]; rfl) (Steps.refl _) (argsL := [(.int (0 : Int32)), .null, .null, (.int i1)]) (rest := []) (lenOf pd_8 rfl) rfl (by show 2 * 0 + _ ≤ _; exact Nat.le_of_eq rfl) (hb hby d6_5) (fun _ _ => ⟨rfl, e0, (by decide : 0 + 0 ≤ _), (by decide : 0 + 0 ≤ _)⟩)
  dsimp only [Pt.U, Pt.locs, Pt.cells, Pt.slots] at X1 l1 y1 z1 st1 hQ1
  subst l1 y1 z1
  obtain ⟨h1, e1⟩ : ∃ z, T1.heap = z := ⟨_, rfl⟩
  rw [e1] at hQ1
  obtain ⟨rfl, N1q, K1q, q0_1, q1_1, q2_1, q3_1, q4_1, q5_1, q6_1, q7_1, q8_1, q9_1, q10_1, q11_1, q12_1, q13_1⟩ := hQ1
  have N1 := Fr.app N0 N1q
  have K1 : Keep h0 h1 [o7, o5, o2, o1] := (Keep.refl h0 [o7, o5, o2, o1]).trans K1q (allS (Or.inl (List.mem_of_getElem? (i := 0) rfl)) (allS (Or.inl (List.mem_of_getElem? (i := 1) rfl)) (allS (Or.inl (List.mem_of_getElem? (i := 2) rfl)) (allS (Or.inl (List.mem_of_getElem? (i := 3) rfl)) all0))))
  refine step (T1.setTop (mkF m 8 #[.val (.ref o1), .val (.int (0 : Int32)), .val .null, .val (.int i1)] [])) (fun t k => st1.trans k) ?_
  refine fin (v := none) X1 (fun _ => rfl) ?_ (by decide) (by decide) (fun fs hr => X1.returnOut hx hret (hb hby d6_8) hr)
  show Q6_7 Z o1 i1 o2 o3 o4 o5 o6 o7 kc2 i3 kc4 kc5 kc6 kc7 h0 n0 (none) T1.heap _
  rw [e1]
  exact ⟨rfl, N1, K1, q0_1, q1_1, q2_1, q3_1, q4_1, q5_1, q6_1, q7_1, q8_1, q9_1, q10_1, q11_1, q12_1, q13_1⟩
theorem ef_7_10 (m : MethodId) (x0 : Addr) (x4 : Int32) : entryFrame m #[(.ref x0), (.int (0 : Int32)), .null, .null, (.int x4)] 6 = mkF m 0 #[.val (.ref x0), .val (.int (0 : Int32)), .val .null, .val .null, .val (.int x4), .unset] [] := by first | (simp [entryFrame, mkF, argsToLocals, Value.category]; done) | rfl
def Q7_10 (Z : State) (o1 : Addr) (i1 : Int32) (o2 : Addr) (o3 : Addr) (o4 : Addr) (o5 : Addr) (o6 : Addr) (o7 : Addr) (kc2 : ClassId) (i3 : Int32) (i4 : Int32) (kc5 : ClassId) (kc6 : ClassId) (kc7 : ClassId) (kc8 : ClassId) (h0 : Heap) (n0 : Nat) (v : Option Value) (h : Heap) (L : List Loc) : Prop := v = none ∧ Fr n0 L ∧ Keep h0 h [o7, o5, o2, o1] ∧ Arv Z h o7 kc8 .int (3 : Int32) [(.int (0 : Int32)), (.int (0 : Int32)), (.int (0 : Int32))] (.int (0 : Int32)) ∧ Arv Z h o5 kc7 (.object "com/example/qopa/qopa/math/Rational") (3 : Int32) [.null, .null, .null] .null ∧ Arv Z h o2 kc2 .int (3 : Int32) [(.int i3), (.int i4), (.int i1)] (.int (0 : Int32)) ∧ Fld Z h o1 "com/example/qopa/qopa/model/ModelBuilder" "action" "[I" (.ref o2) ∧ Fld Z h o1 "com/example/qopa/qopa/model/ModelBuilder" "bounded" "Z" (.int (0 : Int32)) ∧ Fld Z h o1 "com/example/qopa/qopa/model/ModelBuilder" "choiceCount" "I" (.int (0 : Int32)) ∧ Fld Z h o1 "com/example/qopa/qopa/model/ModelBuilder" "firstChoice" "[I" (.ref o3) ∧ Fld Z h o1 "com/example/qopa/qopa/model/ModelBuilder" "firstTransition" "[I" (.ref o4) ∧ Fld Z h o1 "com/example/qopa/qopa/model/ModelBuilder" "lower" "[Lcom/example/qopa/qopa/math/Rational;" (.ref o5) ∧ Fld Z h o1 "com/example/qopa/qopa/model/ModelBuilder" "merged" "Ljava/util/Map;" (.ref o6) ∧ Fld Z h o1 "com/example/qopa/qopa/model/ModelBuilder" "stateCount" "I" (.int (0 : Int32)) ∧ Fld Z h o1 "com/example/qopa/qopa/model/ModelBuilder" "target" "[I" (.ref o7) ∧ Fld Z h o1 "com/example/qopa/qopa/model/ModelBuilder" "transitionCount" "I" (.int (3 : Int32)) ∧ Fld Z h o1 "com/example/qopa/qopa/model/ModelBuilder" "upper" "[Lcom/example/qopa/qopa/math/Rational;" (.ref o5)
set_option maxRecDepth 65536 in
set_option maxHeartbeats 40000000 in
theorem rm7_10 (l : Launch) (Z : State) (a0 : Array Value) (hw : ∀ d ∈ tables_1, d.before a0 Z = true) (ws : List Jvm.Cond) (o1 : Addr) (i1 : Int32) (o2 : Addr) (o3 : Addr) (o4 : Addr) (o5 : Addr) (o6 : Addr) (o7 : Addr) (kc2 : ClassId) (i3 : Int32) (i4 : Int32) (kc5 : ClassId) (kc6 : ClassId) (kc7 : ClassId) (kc8 : ClassId) (h0 : Heap) (n0 : Nat) (Z0 : n0 ≤ h0.size) (Pm0 : Exa Z h0 o1 "com/example/qopa/qopa/model/ModelBuilder") (Pm1 : Fld Z h0 o1 "com/example/qopa/qopa/model/ModelBuilder" "action" "[I" (.ref o2)) (Pm2 : Fld Z h0 o1 "com/example/qopa/qopa/model/ModelBuilder" "bounded" "Z" (.int (0 : Int32))) (Pm3 : Fld Z h0 o1 "com/example/qopa/qopa/model/ModelBuilder" "choiceCount" "I" (.int (0 : Int32))) (Pm4 : Fld Z h0 o1 "com/example/qopa/qopa/model/ModelBuilder" "firstChoice" "[I" (.ref o3)) (Pm5 : Fld Z h0 o1 "com/example/qopa/qopa/model/ModelBuilder" "firstTransition" "[I" (.ref o4)) (Pm6 : Fld Z h0 o1 "com/example/qopa/qopa/model/ModelBuilder" "lower" "[Lcom/example/qopa/qopa/math/Rational;" (.ref o5)) (Pm7 : Fld Z h0 o1 "com/example/qopa/qopa/model/ModelBuilder" "merged" "Ljava/util/Map;" (.ref o6)) (Pm8 : Fld Z h0 o1 "com/example/qopa/qopa/model/ModelBuilder" "stateCount" "I" (.int (0 : Int32))) (Pm9 : Fld Z h0 o1 "com/example/qopa/qopa/model/ModelBuilder" "target" "[I" (.ref o7)) (Pm10 : Fld Z h0 o1 "com/example/qopa/qopa/model/ModelBuilder" "transitionCount" "I" (.int (2 : Int32))) (Pm11 : Fld Z h0 o1 "com/example/qopa/qopa/model/ModelBuilder" "upper" "[Lcom/example/qopa/qopa/math/Rational;" (.ref o5)) (Pm12 : Arv Z h0 o2 kc2 .int (3 : Int32) [(.int i3), (.int i4), (.int (0 : Int32))] (.int (0 : Int32))) (Pm13 : Arv Z h0 o3 kc5 .int (1 : Int32) [(.int (0 : Int32))] (.int (0 : Int32))) (Pm14 : Arv Z h0 o4 kc6 .int (1 : Int32) [(.int (0 : Int32))] (.int (0 : Int32))) (Pm15 : Arv Z h0 o5 kc7 (.object "com/example/qopa/qopa/math/Rational") (3 : Int32) [.null, .null, .null] .null) (O16 : Ovr Z kc7 "com/example/qopa/qopa/math/Rational") (Pm17 : Exa Z h0 o6 "java/util/HashMap") (Pm18 : Arv Z h0 o7 kc8 .int (3 : Int32) [(.int (0 : Int32)), (.int (0 : Int32)), (.int (0 : Int32))] (.int (0 : Int32))) (gn_o1 : n0 ≤ o1) (ne_o1_o2 : o1 ≠ o2) (ne_o1_o3 : o1 ≠ o3) (ne_o1_o4 : o1 ≠ o4) (ne_o1_o5 : o1 ≠ o5) (ne_o1_o6 : o1 ≠ o6) (ne_o1_o7 : o1 ≠ o7) (gn_o2 : n0 ≤ o2) (ne_o2_o3 : o2 ≠ o3) (ne_o2_o4 : o2 ≠ o4) (ne_o2_o5 : o2 ≠ o5) (ne_o2_o6 : o2 ≠ o6) (ne_o2_o7 : o2 ≠ o7) (gn_o3 : n0 ≤ o3) (ne_o3_o4 : o3 ≠ o4) (ne_o3_o5 : o3 ≠ o5) (ne_o3_o6 : o3 ≠ o6) (ne_o3_o7 : o3 ≠ o7) (gn_o4 : n0 ≤ o4) (ne_o4_o5 : o4 ≠ o5) (ne_o4_o6 : o4 ≠ o6) (ne_o4_o7 : o4 ≠ o7) (gn_o5 : n0 ≤ o5) (ne_o5_o6 : o5 ≠ o6) (ne_o5_o7 : o5 ≠ o7) (gn_o6 : n0 ≤ o6) (ne_o6_o7 : o6 ≠ o7) (gn_o7 : n0 ≤ o7) (hy47 : ¬ (i1 < (-1 : Int32))) (hy48 : i1 < (4 : Int32)) (hy49 : ¬ (i3 < (-1 : Int32))) (hy50 : i3 < (4 : Int32)) (hy51 : ¬ (i4 < (-1 : Int32))) (hy52 : i4 < (4 : Int32))  :
    MetFree l (⟨"com/example/qopa/qopa/model/ModelBuilder", "add", "(ILcom/example/qopa/qopa/math/Rational;Lcom/example/qopa/qopa/math/Rational;I)V"⟩ : MethodName) (head1 (Jvm.Cond.code (⟨"com/example/qopa/qopa/model/ModelBuilder", "add", "(ILcom/example/qopa/qopa/math/Rational;Lcom/example/qopa/qopa/math/Rational;I)V"⟩ : MethodName) prog_73_method_2_code 6 none :: ws) ({ frames := 0, cells := 0, slots := 0, locals := 0 } : Room)) (fun a U => a = #[(.ref o1), (.int (0 : Int32)), .null, .null, (.int i1)] ∧ Z.Warmed39 U.vm ∧ U.heap = h0) (fun _ _ _ _ _ => True) (fun _ U o U' => ∃ v L, o = .returned v ∧ Q7_10 Z o1 i1 o2 o3 o4 o5 o6 o7 kc2 i3 i4 kc5 kc6 kc7 kc8 h0 n0 v U'.heap L ∧ FrameEnd U o U' L ({ frames := 0, cells := 0, slots := 0, locals := 0 } : Room).cells ({ frames := 0, cells := 0, slots := 0, locals := 0 } : Room).slots) := by
  refine own_body (plainFor_of_name pn_1) ?_
  intro p e s m below meth c s₁ G hx hby hml hZ hown hnm hret X0 e0 step fin
  replace hown : s.vm.findClass "com/example/qopa/qopa/model/ModelBuilder" = some m.cls := hown
  replace hnm : meth.name = "add" := hnm
  replace hret : meth.sig.returnType = none := hret
  replace hml : c.maxLocals = 6 := hml
  have N0 := Fr.nil n0
  refine step (s₁.setTop (mkF m 0 #[.val (.ref o1), .val (.int (0 : Int32)), .val .null, .val .null, .val (.int i1), .unset] [])) (fun t k => castTop (ef_7_10 m o1 i1) k) ?_
  refine step (s₁.setTop (mkF m 1 #[.val (.ref o1), .val (.int (0 : Int32)), .val .null, .val .null, .val (.int i1), .unset] [(.ref o1)])) (fun t k => XS.aloadN X0.here hx rfl (hb hby d7_0) rfl rfl k) ?_
  obtain ⟨T1, X1, e1, st1⟩ := getF X0 hx hZ hown (host := "") (Or.inl (hw _ (List.mem_of_getElem? (i := 58) rfl))) Via.refl e0 Pm10 (g := (mkF m 1 #[.val (.ref o1), .val (.int (0 : Int32)), .val .null, .val .null, .val (.int i1), .unset] [(.ref o1)])) rfl rfl (hb hby d7_1)
  refine step (T1.setTop (mkF m 4 #[.val (.ref o1), .val (.int (0 : Int32)), .val .null, .val .null, .val (.int i1), .unset] [(.int (2 : Int32))])) (fun t k => st1 t k) ?_
  refine step (T1.setTop (mkF m 5 #[.val (.ref o1), .val (.int (0 : Int32)), .val .null, .val .null, .val (.int i1), .unset] [(.ref o1), (.int (2 : Int32))])) (fun t k => XS.aloadN X1.here hx rfl (hb hby d7_4) rfl rfl k) ?_
  obtain ⟨T2, X2, e2, st2⟩ := getF X1 hx hZ hown (host := "") (Or.inl (hw _ (List.mem_of_getElem? (i := 38) rfl))) Via.refl e1 Pm9 (g := (mkF m 5 #[.val (.ref o1), .val (.int (0 : Int32)), .val .null, .val .null, .val (.int i1), .unset] [(.ref o1), (.int (2 : Int32))])) rfl rfl (hb hby d7_5)
  refine step (T2.setTop (mkF m 8 #[.val (.ref o1), .val (.int (0 : Int32)), .val .null, .val .null, .val (.int i1), .unset] [(.ref o7), (.int (2 : Int32))])) (fun t k => st2 t k) ?_
  obtain ⟨cl3, Ar3, q3, S3, N3n, H3, G3⟩ := id Pm18
  refine step (T2.setTop (mkF m 9 #[.val (.ref o1), .val (.int (0 : Int32)), .val .null, .val .null, .val (.int i1), .unset] [(.int (3 : Int32)), (.int (2 : Int32))])) (fun t k => X2.arraylength hx (by rw [e2]; exact Ar3.1) (State.isArrayOf_alike hZ.alike Ar3.2.1) (g := (mkF m 8 #[.val (.ref o1), .val (.int (0 : Int32)), .val .null, .val .null, .val (.int i1), .unset] [(.ref o7), (.int (2 : Int32))])) rfl rfl (hb hby d7_8) t (by rw [len_of S3 N3n]; exact k)) ?_
  refine step (T2.setTop (mkF m 93 #[.val (.ref o1), .val (.int (0 : Int32)), .val .null, .val .null, .val (.int i1), .unset] [])) (fun t k => XS.icmpYes X2.here hx rfl (pc0 := 9) (pc' := 93) rfl (hb hby d7_9) rfl (feq (by decide : ¬ ((2 : Int32) = (3 : Int32)))).2 (by decide) (by decide) k) ?_
  refine step (T2.setTop (mkF m 94 #[.val (.ref o1), .val (.int (0 : Int32)), .val .null, .val .null, .val (.int i1), .unset] [(.ref o1)])) (fun t k => XS.aloadN X2.here hx rfl (hb hby d7_93) rfl rfl k) ?_
  obtain ⟨T4, X4, e4, st4⟩ := getF X2 hx hZ hown (host := "") (Or.inl (hw _ (List.mem_of_getElem? (i := 38) rfl))) Via.refl e2 Pm9 (g := (mkF m 94 #[.val (.ref o1), .val (.int (0 : Int32)), .val .null, .val .null, .val (.int i1), .unset] [(.ref o1)])) rfl rfl (hb hby d7_94)
  refine step (T4.setTop (mkF m 97 #[.val (.ref o1), .val (.int (0 : Int32)), .val .null, .val .null, .val (.int i1), .unset] [(.ref o7)])) (fun t k => st4 t k) ?_
  refine step (T4.setTop (mkF m 98 #[.val (.ref o1), .val (.int (0 : Int32)), .val .null, .val .null, .val (.int i1), .unset] [(.ref o1), (.ref o7)])) (fun t k => XS.aloadN X4.here hx rfl (hb hby d7_97) rfl rfl k) ?_
  obtain ⟨T5, X5, e5, st5⟩ := getF X4 hx hZ hown (host := "") (Or.inl (hw _ (List.mem_of_getElem? (i := 58) rfl))) Via.refl e4 Pm10 (g := (mkF m 98 #[.val (.ref o1), .val (.int (0 : Int32)), .val .null, .val .null, .val (.int i1), .unset] [(.ref o1), (.ref o7)])) rfl rfl (hb hby d7_98)
  refine step (T5.setTop (mkF m 101 #[.val (.ref o1), .val (.int (0 : Int32)), .val .null, .val .null, .val (.int i1), .unset] [(.int (2 : Int32)), (.ref o7)])) (fun t k => st5 t k) ?_
  refine step (T5.setTop (mkF m 102 #[.val (.ref o1), .val (.int (0 : Int32)), .val .null, .val .null, .val (.int i1), .unset] [(.int (0 : Int32)), (.int (2 : Int32)), (.ref o7)])) (fun t k => XS.iloadN X5.here hx rfl (hb hby d7_101) rfl k) ?_
  obtain ⟨cl6, Ar6, q6, S6, N6n, H6, G6⟩ := id Pm18
  have hin6 : ¬ ((2 : Int32) < 0 ∨ cl6.slots.size ≤ ((2 : Int32)).toNatClampNeg) := inb_of S6 ⟨by decide, by decide⟩
  obtain ⟨T6, h6, X6, e6, W6, st6⟩ := stI X5 hx hZ e5 Ar6 (j := (2 : Int32)) hin6 (g := (mkF m 102 #[.val (.ref o1), .val (.int (0 : Int32)), .val .null, .val .null, .val (.int i1), .unset] [(.int (0 : Int32)), (.int (2 : Int32)), (.ref o7)])) rfl rfl (hb hby d7_102)
  have N6 := Fr.snoc X6 N0 gn_o7
  have K6 : Keep h0 h6 [o7, o5, o2, o1] := (Keep.refl h0 [o7, o5, o2, o1]).wr W6 (Or.inl (List.mem_of_getElem? (i := 0) rfl))
  have V6 : Arv Z h6 o7 kc8 .int (3 : Int32) [(.int (0 : Int32)), (.int (0 : Int32)), (.int (0 : Int32))] (.int (0 : Int32)) := Arv.set Ar6 q6 S6 N6n H6 G6 rfl W6 2 rfl (Nat.le_of_ble_eq_true rfl)
  refine step (T6.setTop (mkF m 103 #[.val (.ref o1), .val (.int (0 : Int32)), .val .null, .val .null, .val (.int i1), .unset] [])) (fun t k => st6 t k) ?_
  refine step (T6.setTop (mkF m 104 #[.val (.ref o1), .val (.int (0 : Int32)), .val .null, .val .null, .val (.int i1), .unset] [(.ref o1)])) (fun t k => XS.aloadN X6.here hx rfl (hb hby d7_103) rfl rfl k) ?_
  have f7 := (Pm6.other W6 (Or.inl ne_o1_o7))
  obtain ⟨T8, X8, e8, st8⟩ := getF X6 hx hZ hown (host := "") (Or.inl (hw _ (List.mem_of_getElem? (i := 42) rfl))) Via.refl e6 f7 (g := (mkF m 104 #[.val (.ref o1), .val (.int (0 : Int32)), .val .null, .val .null, .val (.int i1), .unset] [(.ref o1)])) rfl rfl (hb hby d7_104)
  refine step (T8.setTop (mkF m 107 #[.val (.ref o1), .val (.int (0 : Int32)), .val .null, .val .null, .val (.int i1), .unset] [(.ref o5)])) (fun t k => st8 t k) ?_
  refine step (T8.setTop (mkF m 108 #[.val (.ref o1), .val (.int (0 : Int32)), .val .null, .val .null, .val (.int i1), .unset] [(.ref o1), (.ref o5)])) (fun t k => XS.aloadN X8.here hx rfl (hb hby d7_107) rfl rfl k) ?_
  have f9 := (Pm10.other W6 (Or.inl ne_o1_o7))
  obtain ⟨T10, X10, e10, st10⟩ := getF X8 hx hZ hown (host := "") (Or.inl (hw _ (List.mem_of_getElem? (i := 58) rfl))) Via.refl e8 f9 (g := (mkF m 108 #[.val (.ref o1), .val (.int (0 : Int32)), .val .null, .val .null, .val (.int i1), .unset] [(.ref o1), (.ref o5)])) rfl rfl (hb hby d7_108)
  refine step (T10.setTop (mkF m 111 #[.val (.ref o1), .val (.int (0 : Int32)), .val .null, .val .null, .val (.int i1), .unset] [(.int (2 : Int32)), (.ref o5)])) (fun t k => st10 t k) ?_
  refine step (T10.setTop (mkF m 112 #[.val (.ref o1), .val (.int (0 : Int32)), .val .null, .val .null, .val (.int i1), .unset] [.null, (.int (2 : Int32)), (.ref o5)])) (fun t k => XS.aloadN X10.here hx rfl (hb hby d7_111) rfl rfl k) ?_
  have f11 := (Pm15.other W6 ne_o5_o7)
  obtain ⟨cl12, Ar12, q12, S12, N12n, H12, G12⟩ := id f11
  have hin12 : ¬ ((2 : Int32) < 0 ∨ cl12.slots.size ≤ ((2 : Int32)).toNatClampNeg) := inb_of S12 ⟨by decide, by decide⟩
  obtain ⟨T12, h12, X12, e12, W12, st12⟩ := stR X10 hx hZ e10 Ar12 (j := (2 : Int32)) (v := .null) hin12 rfl (Or.inl rfl) (g := (mkF m 112 #[.val (.ref o1), .val (.int (0 : Int32)), .val .null, .val .null, .val (.int i1), .unset] [.null, (.int (2 : Int32)), (.ref o5)])) rfl rfl (hb hby d7_112)
  have N12 := Fr.snoc X12 N6 gn_o5
  have K12 : Keep h0 h12 [o7, o5, o2, o1] := K6.wr W12 (Or.inl (List.mem_of_getElem? (i := 1) rfl))
  have V12 : Arv Z h12 o5 kc7 (.object "com/example/qopa/qopa/math/Rational") (3 : Int32) [.null, .null, .null] .null := Arv.set Ar12 q12 S12 N12n H12 G12 rfl W12 2 rfl (Nat.le_of_ble_eq_true rfl)
  refine step (T12.setTop (mkF m 113 #[.val (.ref o1), .val (.int (0 : Int32)), .val .null, .val .null, .val (.int i1), .unset] [])) (fun t k => st12 t k) ?_
  refine step (T12.setTop (mkF m 114 #[.val (.ref o1), .val (.int (0 : Int32)), .val .null, .val .null, .val (.int i1), .unset] [(.ref o1)])) (fun t k => XS.aloadN X12.here hx rfl (hb hby d7_113) rfl rfl k) ?_
  have f13 := ((Pm11.other W6 (Or.inl ne_o1_o7)).other W12 (Or.inl ne_o1_o5))
  obtain ⟨T14, X14, e14, st14⟩ := getF X12 hx hZ hown (host := "") (Or.inl (hw _ (List.mem_of_getElem? (i := 44) rfl))) Via.refl e12 f13 (g := (mkF m 114 #[.val (.ref o1), .val (.int (0 : Int32)), .val .null, .val .null, .val (.int i1), .unset] [(.ref o1)])) rfl rfl (hb hby d7_114)
  refine step (T14.setTop (mkF m 117 #[.val (.ref o1), .val (.int (0 : Int32)), .val .null, .val .null, .val (.int i1), .unset] [(.ref o5)])) (fun t k => st14 t k) ?_
  refine step (T14.setTop (mkF m 118 #[.val (.ref o1), .val (.int (0 : Int32)), .val .null, .val .null, .val (.int i1), .unset] [(.ref o1), (.ref o5)])) (fun t k => XS.aloadN X14.here hx rfl (hb hby d7_117) rfl rfl k) ?_
  have f15 := (f9.other W12 (Or.inl ne_o1_o5))
  obtain ⟨T16, X16, e16, st16⟩ := getF X14 hx hZ hown (host := "") (Or.inl (hw _ (List.mem_of_getElem? (i := 58) rfl))) Via.refl e14 f15 (g := (mkF m 118 #[.val (.ref o1), .val (.int (0 : Int32)), .val .null, .val .null, .val (.int i1), .unset] [(.ref o1), (.ref o5)])) rfl rfl (hb hby d7_118)
  refine step (T16.setTop (mkF m 121 #[.val (.ref o1), .val (.int (0 : Int32)), .val .null, .val .null, .val (.int i1), .unset] [(.int (2 : Int32)), (.ref o5)])) (fun t k => st16 t k) ?_
  refine step (T16.setTop (mkF m 122 #[.val (.ref o1), .val (.int (0 : Int32)), .val .null, .val .null, .val (.int i1), .unset] [.null, (.int (2 : Int32)), (.ref o5)])) (fun t k => XS.aloadN X16.here hx rfl (hb hby d7_121) rfl rfl k) ?_
  obtain ⟨cl17, Ar17, q17, S17, N17n, H17, G17⟩ := id V12
  have hin17 : ¬ ((2 : Int32) < 0 ∨ cl17.slots.size ≤ ((2 : Int32)).toNatClampNeg) := inb_of S17 ⟨by decide, by decide⟩
  obtain ⟨T17, h17, X17, e17, W17, st17⟩ := stR X16 hx hZ e16 Ar17 (j := (2 : Int32)) (v := .null) hin17 rfl (Or.inl rfl) (g := (mkF m 122 #[.val (.ref o1), .val (.int (0 : Int32)), .val .null, .val .null, .val (.int i1), .unset] [.null, (.int (2 : Int32)), (.ref o5)])) rfl rfl (hb hby d7_122)
  have N17 := Fr.snoc X17 N12 gn_o5
  have K17 : Keep h0 h17 [o7, o5, o2, o1] := K12.wr W17 (Or.inl (List.mem_of_getElem? (i := 1) rfl))
  have V17 : Arv Z h17 o5 kc7 (.object "com/example/qopa/qopa/math/Rational") (3 : Int32) [.null, .null, .null] .null := Arv.set Ar17 q17 S17 N17n H17 G17 rfl W17 2 rfl (Nat.le_of_ble_eq_true rfl)
  refine step (T17.setTop (mkF m 123 #[.val (.ref o1), .val (.int (0 : Int32)), .val .null, .val .null, .val (.int i1), .unset] [])) (fun t k => st17 t k) ?_
  refine step (T17.setTop (mkF m 124 #[.val (.ref o1), .val (.int (0 : Int32)), .val .null, .val .null, .val (.int i1), .unset] [(.ref o1)])) (fun t k => XS.aloadN X17.here hx rfl (hb hby d7_123) rfl rfl k) ?_
  have f18 := (((Pm1.other W6 (Or.inl ne_o1_o7)).other W12 (Or.inl ne_o1_o5)).other W17 (Or.inl ne_o1_o5))
  obtain ⟨T19, X19, e19, st19⟩ := getF X17 hx hZ hown (host := "") (Or.inl (hw _ (List.mem_of_getElem? (i := 46) rfl))) Via.refl e17 f18 (g := (mkF m 124 #[.val (.ref o1), .val (.int (0 : Int32)), .val .null, .val .null, .val (.int i1), .unset] [(.ref o1)])) rfl rfl (hb hby d7_124)
  refine step (T19.setTop (mkF m 127 #[.val (.ref o1), .val (.int (0 : Int32)), .val .null, .val .null, .val (.int i1), .unset] [(.ref o2)])) (fun t k => st19 t k) ?_
  refine step (T19.setTop (mkF m 128 #[.val (.ref o1), .val (.int (0 : Int32)), .val .null, .val .null, .val (.int i1), .unset] [(.ref o1), (.ref o2)])) (fun t k => XS.aloadN X19.here hx rfl (hb hby d7_127) rfl rfl k) ?_
  have f20 := (f15.other W17 (Or.inl ne_o1_o5))
  obtain ⟨T21, X21, e21, st21⟩ := getF X19 hx hZ hown (host := "") (Or.inl (hw _ (List.mem_of_getElem? (i := 58) rfl))) Via.refl e19 f20 (g := (mkF m 128 #[.val (.ref o1), .val (.int (0 : Int32)), .val .null, .val .null, .val (.int i1), .unset] [(.ref o1), (.ref o2)])) rfl rfl (hb hby d7_128)
  refine step (T21.setTop (mkF m 131 #[.val (.ref o1), .val (.int (0 : Int32)), .val .null, .val .null, .val (.int i1), .unset] [(.int (2 : Int32)), (.ref o2)])) (fun t k => st21 t k) ?_
  refine step (T21.setTop (mkF m 133 #[.val (.ref o1), .val (.int (0 : Int32)), .val .null, .val .null, .val (.int i1), .unset] [(.int i1), (.int (2 : Int32)), (.ref o2)])) (fun t k => XS.iload X21.here hx rfl (hb hby d7_131) rfl k) ?_
  have f22 := (((Pm12.other W6 ne_o2_o7).other W12 ne_o2_o5).other W17 ne_o2_o5)
  obtain ⟨cl23, Ar23, q23, S23, N23n, H23, G23⟩ := id f22
  have hin23 : ¬ ((2 : Int32) < 0 ∨ cl23.slots.size ≤ ((2 : Int32)).toNatClampNeg) := inb_of S23 ⟨by decide, by decide⟩
  obtain ⟨T23, h23, X23, e23, W23, st23⟩ := stI X21 hx hZ e21 Ar23 (j := (2 : Int32)) hin23 (g := (mkF m 133 #[.val (.ref o1), .val (.int (0 : Int32)), .val .null, .val .null, .val (.int i1), .unset] [(.int i1), (.int (2 : Int32)), (.ref o2)])) rfl rfl (hb hby d7_133)
  have N23 := Fr.snoc X23 N17 gn_o2
  have K23 : Keep h0 h23 [o7, o5, o2, o1] := K17.wr W23 (Or.inl (List.mem_of_getElem? (i := 2) rfl))
  have V23 : Arv Z h23 o2 kc2 .int (3 : Int32) [(.int i3), (.int i4), (.int i1)] (.int (0 : Int32)) := Arv.set Ar23 q23 S23 N23n H23 G23 rfl W23 2 rfl (Nat.le_of_ble_eq_true rfl)
  refine step (T23.setTop (mkF m 134 #[.val (.ref o1), .val (.int (0 : Int32)), .val .null, .val .null, .val (.int i1), .unset] [])) (fun t k => st23 t k) ?_
  refine step (T23.setTop (mkF m 135 #[.val (.ref o1), .val (.int (0 : Int32)), .val .null, .val .null, .val (.int i1), .unset] [(.ref o1)])) (fun t k => XS.aloadN X23.here hx rfl (hb hby d7_134) rfl rfl k) ?_
  refine step (T23.setTop (mkF m 136 #[.val (.ref o1), .val (.int (0 : Int32)), .val .null, .val .null, .val (.int i1), .unset] [(.ref o1), (.ref o1)])) (fun t k => XS.dup X23.here hx rfl (hb hby d7_135) rfl rfl k) ?_
  have f24 := (f20.other W23 (Or.inl ne_o1_o2))
  obtain ⟨T25, X25, e25, st25⟩ := getF X23 hx hZ hown (host := "") (Or.inl (hw _ (List.mem_of_getElem? (i := 58) rfl))) Via.refl e23 f24 (g := (mkF m 136 #[.val (.ref o1), .val (.int (0 : Int32)), .val .null, .val .null, .val (.int i1), .unset] [(.ref o1), (.ref o1)])) rfl rfl (hb hby d7_136)
  refine step (T25.setTop (mkF m 139 #[.val (.ref o1), .val (.int (0 : Int32)), .val .null, .val .null, .val (.int i1), .unset] [(.int (2 : Int32)), (.ref o1)])) (fun t k => st25 t k) ?_
  refine step (T25.setTop (mkF m 140 #[.val (.ref o1), .val (.int (0 : Int32)), .val .null, .val .null, .val (.int i1), .unset] [(.int (1 : Int32)), (.int (2 : Int32)), (.ref o1)])) (fun t k => XS.iconst X25.here hx rfl (hb hby d7_139) k) ?_
  refine step (T25.setTop (mkF m 141 #[.val (.ref o1), .val (.int (0 : Int32)), .val .null, .val .null, .val (.int i1), .unset] [(.int (3 : Int32)), (.ref o1)])) (fun t k => XS.iadd X25.here hx rfl (hb hby d7_140) rfl k) ?_
  have f26 := ((((Pm0.wr W6).wr W12).wr W17).wr W23)
  obtain ⟨T27, h27, X27, e27, W27, st27⟩ := putF X25 hx hZ hown (host := "") (Or.inl (hw _ (List.mem_of_getElem? (i := 58) rfl))) Via.refl e25 f24 f26 (Or.inl (hw _ (List.mem_of_getElem? (i := 59) rfl))) (hw _ (List.mem_of_getElem? (i := 6) rfl)) (ty := .int) (by decide) rfl rfl (g := (mkF m 141 #[.val (.ref o1), .val (.int (0 : Int32)), .val .null, .val .null, .val (.int i1), .unset] [(.int (3 : Int32)), (.ref o1)])) rfl rfl (hb hby d7_141)
  have N27 := Fr.snoc X27 N23 gn_o1
  have K27 : Keep h0 h27 [o7, o5, o2, o1] := K23.wr W27 (Or.inl (List.mem_of_getElem? (i := 3) rfl))
  have F27 := f24.same W27
  refine step (T27.setTop (mkF m 144 #[.val (.ref o1), .val (.int (0 : Int32)), .val .null, .val .null, .val (.int i1), .unset] [])) (fun t k => st27 t k) ?_
  have f28 := ((((V6.other W12 (Ne.symm ne_o5_o7)).other W17 (Ne.symm ne_o5_o7)).other W23 (Ne.symm ne_o2_o7)).other W27 (Ne.symm ne_o1_o7))
  have f29 := ((V17.other W23 (Ne.symm ne_o2_o5)).other W27 (Ne.symm ne_o1_o5))
  have f30 := (V23.other W27 (Ne.symm ne_o1_o2))
  have f31 := ((f18.other W23 (Or.inl ne_o1_o2)).other W27 (Or.inr (slot_ne (Or.inl (hw _ (List.mem_of_getElem? (i := 47) rfl))) (Or.inl (hw _ (List.mem_of_getElem? (i := 59) rfl))) (by decide) (t := (.array .int)) (t' := .int) (by decide) (by decide))))
  have f32 := (((((Pm2.other W6 (Or.inl ne_o1_o7)).other W12 (Or.inl ne_o1_o5)).other W17 (Or.inl ne_o1_o5)).other W23 (Or.inl ne_o1_o2)).other W27 (Or.inr (slot_ne (Or.inr (hw _ (List.mem_of_getElem? (i := 33) rfl))) (Or.inl (hw _ (List.mem_of_getElem? (i := 59) rfl))) (by decide) (t := .boolean) (t' := .int) (by decide) (by decide))))
  have f33 := (((((Pm3.other W6 (Or.inl ne_o1_o7)).other W12 (Or.inl ne_o1_o5)).other W17 (Or.inl ne_o1_o5)).other W23 (Or.inl ne_o1_o2)).other W27 (Or.inr (slot_ne (Or.inl (hw _ (List.mem_of_getElem? (i := 85) rfl))) (Or.inl (hw _ (List.mem_of_getElem? (i := 59) rfl))) (by decide) (t := .int) (t' := .int) (by decide) (by decide))))
  have f34 := (((((Pm4.other W6 (Or.inl ne_o1_o7)).other W12 (Or.inl ne_o1_o5)).other W17 (Or.inl ne_o1_o5)).other W23 (Or.inl ne_o1_o2)).other W27 (Or.inr (slot_ne (Or.inl (hw _ (List.mem_of_getElem? (i := 35) rfl))) (Or.inl (hw _ (List.mem_of_getElem? (i := 59) rfl))) (by decide) (t := (.array .int)) (t' := .int) (by decide) (by decide))))
  have f35 := (((((Pm5.other W6 (Or.inl ne_o1_o7)).other W12 (Or.inl ne_o1_o5)).other W17 (Or.inl ne_o1_o5)).other W23 (Or.inl ne_o1_o2)).other W27 (Or.inr (slot_ne (Or.inl (hw _ (List.mem_of_getElem? (i := 37) rfl))) (Or.inl (hw _ (List.mem_of_getElem? (i := 59) rfl))) (by decide) (t := (.array .int)) (t' := .int) (by decide) (by decide))))
  have f36 := ((((f7.other W12 (Or.inl ne_o1_o5)).other W17 (Or.inl ne_o1_o5)).other W23 (Or.inl ne_o1_o2)).other W27 (Or.inr (slot_ne (Or.inl (hw _ (List.mem_of_getElem? (i := 43) rfl))) (Or.inl (hw _ (List.mem_of_getElem? (i := 59) rfl))) (by decide) (t := (.array (.object "com/example/qopa/qopa/math/Rational"))) (t' := .int) (by decide) (by decide))))
  have f37 := (((((Pm7.other W6 (Or.inl ne_o1_o7)).other W12 (Or.inl ne_o1_o5)).other W17 (Or.inl ne_o1_o5)).other W23 (Or.inl ne_o1_o2)).other W27 (Or.inr (slot_ne (Or.inr (hw _ (List.mem_of_getElem? (i := 31) rfl))) (Or.inl (hw _ (List.mem_of_getElem? (i := 59) rfl))) (by decide) (t := (.object "java/util/Map")) (t' := .int) (by decide) (by decide))))
  have f38 := (((((Pm8.other W6 (Or.inl ne_o1_o7)).other W12 (Or.inl ne_o1_o5)).other W17 (Or.inl ne_o1_o5)).other W23 (Or.inl ne_o1_o2)).other W27 (Or.inr (slot_ne (Or.inl (hw _ (List.mem_of_getElem? (i := 80) rfl))) (Or.inl (hw _ (List.mem_of_getElem? (i := 59) rfl))) (by decide) (t := .int) (t' := .int) (by decide) (by decide))))
  have f39 := (((((Pm9.other W6 (Or.inl ne_o1_o7)).other W12 (Or.inl ne_o1_o5)).other W17 (Or.inl ne_o1_o5)).other W23 (Or.inl ne_o1_o2)).other W27 (Or.inr (slot_ne (Or.inl (hw _ (List.mem_of_getElem? (i := 39) rfl))) (Or.inl (hw _ (List.mem_of_getElem? (i := 59) rfl))) (by decide) (t := (.array .int)) (t' := .int) (by decide) (by decide))))
  have f40 := (((f13.other W17 (Or.inl ne_o1_o5)).other W23 (Or.inl ne_o1_o2)).other W27 (Or.inr (slot_ne (Or.inl (hw _ (List.mem_of_getElem? (i := 45) rfl))) (Or.inl (hw _ (List.mem_of_getElem? (i := 59) rfl))) (by decide) (t := (.array (.object "com/example/qopa/qopa/math/Rational"))) (t' := .int) (by decide) (by decide))))
  refine fin (v := none) X27 (fun _ => rfl) ?_ (by decide) (by decide) (fun fs hr => X27.returnOut hx hret (hb hby d7_144) hr)
  show Q7_10 Z o1 i1 o2 o3 o4 o5 o6 o7 kc2 i3 i4 kc5 kc6 kc7 kc8 h0 n0 (none) T27.heap _
  rw [e27]
  exact ⟨rfl, N27, K27, f28, f29, f30, f31, f32, f33, f34, f35, f36, f37, f38, f39, F27, f40⟩
theorem ef_6_9 (m : MethodId) (x0 : Addr) (x3 : Int32) : entryFrame m #[(.ref x0), (.int (0 : Int32)), .null, (.int x3)] 4 = mkF m 0 #[.val (.ref x0), .val (.int (0 : Int32)), .val .null, .val (.int x3)] [] := by first | (simp [entryFrame, mkF, argsToLocals, Value.category]; done) | rfl
def Q6_9 (Z : State) (o1 : Addr) (i1 : Int32) (o2 : Addr) (o3 : Addr) (o4 : Addr) (o5 : Addr) (o6 : Addr) (o7 : Addr) (kc2 : ClassId) (i3 : Int32) (i4 : Int32) (kc5 : ClassId) (kc6 : ClassId) (kc7 : ClassId) (kc8 : ClassId) (h0 : Heap) (n0 : Nat) (v : Option Value) (h : Heap) (L : List Loc) : Prop := v = none ∧ Fr n0 L ∧ Keep h0 h [o7, o5, o2, o1] ∧ Arv Z h o7 kc8 .int (3 : Int32) [(.int (0 : Int32)), (.int (0 : Int32)), (.int (0 : Int32))] (.int (0 : Int32)) ∧ Arv Z h o5 kc7 (.object "com/example/qopa/qopa/math/Rational") (3 : Int32) [.null, .null, .null] .null ∧ Arv Z h o2 kc2 .int (3 : Int32) [(.int i3), (.int i4), (.int i1)] (.int (0 : Int32)) ∧ Fld Z h o1 "com/example/qopa/qopa/model/ModelBuilder" "action" "[I" (.ref o2) ∧ Fld Z h o1 "com/example/qopa/qopa/model/ModelBuilder" "bounded" "Z" (.int (0 : Int32)) ∧ Fld Z h o1 "com/example/qopa/qopa/model/ModelBuilder" "choiceCount" "I" (.int (0 : Int32)) ∧ Fld Z h o1 "com/example/qopa/qopa/model/ModelBuilder" "firstChoice" "[I" (.ref o3) ∧ Fld Z h o1 "com/example/qopa/qopa/model/ModelBuilder" "firstTransition" "[I" (.ref o4) ∧ Fld Z h o1 "com/example/qopa/qopa/model/ModelBuilder" "lower" "[Lcom/example/qopa/qopa/math/Rational;" (.ref o5) ∧ Fld Z h o1 "com/example/qopa/qopa/model/ModelBuilder" "merged" "Ljava/util/Map;" (.ref o6) ∧ Fld Z h o1 "com/example/qopa/qopa/model/ModelBuilder" "stateCount" "I" (.int (0 : Int32)) ∧ Fld Z h o1 "com/example/qopa/qopa/model/ModelBuilder" "target" "[I" (.ref o7) ∧ Fld Z h o1 "com/example/qopa/qopa/model/ModelBuilder" "transitionCount" "I" (.int (3 : Int32)) ∧ Fld Z h o1 "com/example/qopa/qopa/model/ModelBuilder" "upper" "[Lcom/example/qopa/qopa/math/Rational;" (.ref o5)
set_option maxRecDepth 65536 in
set_option maxHeartbeats 40000000 in
theorem rm6_9 (l : Launch) (Z : State) (a0 : Array Value) (hw : ∀ d ∈ tables_1, d.before a0 Z = true) (ws : List Jvm.Cond) (o1 : Addr) (i1 : Int32) (o2 : Addr) (o3 : Addr) (o4 : Addr) (o5 : Addr) (o6 : Addr) (o7 : Addr) (kc2 : ClassId) (i3 : Int32) (i4 : Int32) (kc5 : ClassId) (kc6 : ClassId) (kc7 : ClassId) (kc8 : ClassId) (h0 : Heap) (n0 : Nat) (Z0 : n0 ≤ h0.size) (Pm0 : Exa Z h0 o1 "com/example/qopa/qopa/model/ModelBuilder") (Pm1 : Fld Z h0 o1 "com/example/qopa/qopa/model/ModelBuilder" "action" "[I" (.ref o2)) (Pm2 : Fld Z h0 o1 "com/example/qopa/qopa/model/ModelBuilder" "bounded" "Z" (.int (0 : Int32))) (Pm3 : Fld Z h0 o1 "com/example/qopa/qopa/model/ModelBuilder" "choiceCount" "I" (.int (0 : Int32))) (Pm4 : Fld Z h0 o1 "com/example/qopa/qopa/model/ModelBuilder" "firstChoice" "[I" (.ref o3)) (Pm5 : Fld Z h0 o1 "com/example/qopa/qopa/model/ModelBuilder" "firstTransition" "[I" (.ref o4)) (Pm6 : Fld Z h0 o1 "com/example/qopa/qopa/model/ModelBuilder" "lower" "[Lcom/example/qopa/qopa/math/Rational;" (.ref o5)) (Pm7 : Fld Z h0 o1 "com/example/qopa/qopa/model/ModelBuilder" "merged" "Ljava/util/Map;" (.ref o6)) (Pm8 : Fld Z h0 o1 "com/example/qopa/qopa/model/ModelBuilder" "stateCount" "I" (.int (0 : Int32))) (Pm9 : Fld Z h0 o1 "com/example/qopa/qopa/model/ModelBuilder" "target" "[I" (.ref o7)) (Pm10 : Fld Z h0 o1 "com/example/qopa/qopa/model/ModelBuilder" "transitionCount" "I" (.int (2 : Int32))) (Pm11 : Fld Z h0 o1 "com/example/qopa/qopa/model/ModelBuilder" "upper" "[Lcom/example/qopa/qopa/math/Rational;" (.ref o5)) (Pm12 : Arv Z h0 o2 kc2 .int (3 : Int32) [(.int i3), (.int i4), (.int (0 : Int32))] (.int (0 : Int32))) (Pm13 : Arv Z h0 o3 kc5 .int (1 : Int32) [(.int (0 : Int32))] (.int (0 : Int32))) (Pm14 : Arv Z h0 o4 kc6 .int (1 : Int32) [(.int (0 : Int32))] (.int (0 : Int32))) (Pm15 : Arv Z h0 o5 kc7 (.object "com/example/qopa/qopa/math/Rational") (3 : Int32) [.null, .null, .null] .null) (O16 : Ovr Z kc7 "com/example/qopa/qopa/math/Rational") (Pm17 : Exa Z h0 o6 "java/util/HashMap") (Pm18 : Arv Z h0 o7 kc8 .int (3 : Int32) [(.int (0 : Int32)), (.int (0 : Int32)), (.int (0 : Int32))] (.int (0 : Int32))) (gn_o1 : n0 ≤ o1) (ne_o1_o2 : o1 ≠ o2) (ne_o1_o3 : o1 ≠ o3) (ne_o1_o4 : o1 ≠ o4) (ne_o1_o5 : o1 ≠ o5) (ne_o1_o6 : o1 ≠ o6) (ne_o1_o7 : o1 ≠ o7) (gn_o2 : n0 ≤ o2) (ne_o2_o3 : o2 ≠ o3) (ne_o2_o4 : o2 ≠ o4) (ne_o2_o5 : o2 ≠ o5) (ne_o2_o6 : o2 ≠ o6) (ne_o2_o7 : o2 ≠ o7) (gn_o3 : n0 ≤ o3) (ne_o3_o4 : o3 ≠ o4) (ne_o3_o5 : o3 ≠ o5) (ne_o3_o6 : o3 ≠ o6) (ne_o3_o7 : o3 ≠ o7) (gn_o4 : n0 ≤ o4) (ne_o4_o5 : o4 ≠ o5) (ne_o4_o6 : o4 ≠ o6) (ne_o4_o7 : o4 ≠ o7) (gn_o5 : n0 ≤ o5) (ne_o5_o6 : o5 ≠ o6) (ne_o5_o7 : o5 ≠ o7) (gn_o6 : n0 ≤ o6) (ne_o6_o7 : o6 ≠ o7) (gn_o7 : n0 ≤ o7) (hy47 : ¬ (i3 < (-1 : Int32))) (hy48 : i3 < (4 : Int32)) (hy49 : ¬ (i4 < (-1 : Int32))) (hy50 : i4 < (4 : Int32)) (hy51 : ¬ (i1 < (-1 : Int32))) (hy52 : i1 < (4 : Int32))  :
    MetFree l (⟨"com/example/qopa/qopa/model/ModelBuilder", "add", "(ILcom/example/qopa/qopa/math/Rational;I)V"⟩ : MethodName) (head1 (Jvm.Cond.code (⟨"com/example/qopa/qopa/model/ModelBuilder", "add", "(ILcom/example/qopa/qopa/math/Rational;I)V"⟩ : MethodName) prog_73_method_3_code 4 none :: ws) ({ frames := 1, cells := 0, slots := 0, locals := 17 } : Room)) (fun a U => a = #[(.ref o1), (.int (0 : Int32)), .null, (.int i1)] ∧ Z.Warmed39 U.vm ∧ U.heap = h0) (fun _ _ _ _ _ => True) (fun _ U o U' => ∃ v L, o = .returned v ∧ Q6_9 Z o1 i1 o2 o3 o4 o5 o6 o7 kc2 i3 i4 kc5 kc6 kc7 kc8 h0 n0 v U'.heap L ∧ FrameEnd U o U' L ({ frames := 1, cells := 0, slots := 0, locals := 17 } : Room).cells ({ frames := 1, cells := 0, slots := 0, locals := 17 } : Room).slots) := by
  refine own_body (plainFor_of_name pn_1) ?_
  intro p e s m below meth c s₁ G hx hby hml hZ hown hnm hret X0 e0 step fin
  replace hown : s.vm.findClass "com/example/qopa/qopa/model/ModelBuilder" = some m.cls := hown
  replace hnm : meth.name = "add" := hnm
  replace hret : meth.sig.returnType = none := hret
  replace hml : c.maxLocals = 4 := hml
  have N0 := Fr.nil n0
  refine step (s₁.setTop (mkF m 0 #[.val (.ref o1), .val (.int (0 : Int32)), .val .null, .val (.int i1)] [])) (fun t k => castTop (ef_6_9 m o1 i1) k) ?_
  refine step (s₁.setTop (mkF m 1 #[.val (.ref o1), .val (.int (0 : Int32)), .val .null, .val (.int i1)] [(.ref o1)])) (fun t k => XS.aloadN X0.here hx rfl (hb hby d6_0) rfl rfl k) ?_
  refine step (s₁.setTop (mkF m 2 #[.val (.ref o1), .val (.int (0 : Int32)), .val .null, .val (.int i1)] [(.int (0 : Int32)), (.ref o1)])) (fun t k => XS.iloadN X0.here hx rfl (hb hby d6_1) rfl k) ?_
  refine step (s₁.setTop (mkF m 3 #[.val (.ref o1), .val (.int (0 : Int32)), .val .null, .val (.int i1)] [.null, (.int (0 : Int32)), (.ref o1)])) (fun t k => XS.aloadN X0.here hx rfl (hb hby d6_2) rfl rfl k) ?_
  refine step (s₁.setTop (mkF m 4 #[.val (.ref o1), .val (.int (0 : Int32)), .val .null, .val (.int i1)] [.null, .null, (.int (0 : Int32)), (.ref o1)])) (fun t k => XS.aloadN X0.here hx rfl (hb hby d6_3) rfl rfl k) ?_
  refine step (s₁.setTop (mkF m 5 #[.val (.ref o1), .val (.int (0 : Int32)), .val .null, .val (.int i1)] [(.int i1), .null, .null, (.int (0 : Int32)), (.ref o1)])) (fun t k => XS.iloadN X0.here hx rfl (hb hby d6_4) rfl k) ?_
  obtain ⟨cq1, kq1, q1a, q1b, q1c⟩ := isOf hZ e0 Pm0
  obtain ⟨_, _, ⟨T1, L1, k1, n1⟩, -, X1, ⟨Lc1, hQ1, l1, y1, z1⟩, st1⟩ := X0.virtualBack hx (y := (⟨"com/example/qopa/qopa/model/ModelBuilder", "add", "(ILcom/example/qopa/qopa/math/Rational;Lcom/example/qopa/qopa/math/Rational;I)V"⟩ : MethodName)) (z := (⟨"com/example/qopa/qopa/model/ModelBuilder", "add", "(ILcom/example/qopa/qopa/math/Rational;Lcom/example/qopa/qopa/math/Rational;I)V"⟩ : MethodName)) hown (mvT hZ (hw _ (List.mem_of_getElem? (i := 53) rfl))) (mvT hZ (hw _ (List.mem_of_getElem? (i := 54) rfl))) (notFace_of_selects (args := #[]) (mvT hZ (hw _ (List.mem_of_getElem? (i := 56) rfl)))) (mvT hZ (hw _ (List.mem_of_getElem? (i := 56) rfl))) (mvT hZ (hw _ (List.mem_of_getElem? (i := 55) rfl))) (by decide) (backOf (W := 0) (rm7_10 l Z a0 hw [] o1 i1 o2 o3 o4 o5 o6 o7 kc2 i3 i4 kc5 kc6 kc7 kc8 h0 n0 Z0 Pm0 Pm1 Pm2 Pm3 Pm4 Pm5 Pm6 Pm7 Pm8 Pm9 Pm10 Pm11 Pm12 Pm13 Pm14 Pm15 O16 Pm17 Pm18 gn_o1 ne_o1_o2 ne_o1_o3 ne_o1_o4 ne_o1_o5 ne_o1_o6 ne_o1_o7 gn_o2 ne_o2_o3 ne_o2_o4 ne_o2_o5 ne_o2_o6 ne_o2_o7 gn_o3 ne_o3_o4 ne_o3_o5 ne_o3_o6 ne_o3_o7 gn_o4 ne_o4_o5 ne_o4_o6 ne_o4_o7 gn_o5 ne_o5_o6 ne_o5_o7 gn_o6 ne_o6_o7 gn_o7 hy51 hy52 hy47 hy48 hy49 hy50) hZ (hw _ (List.mem_of_getElem? (i := 57) rfl)) (hw _ (List.mem_of_getElem? (i := 7) rfl)) (by decide) (by decide)) q1a q1c (g := (mkF m 5 #[.val (.ref o1), .val (.int (0 : Int32)), .val .null, .val (.int i1)] [(.int i1), .null, .null, (.int (0 : Int32)), (.ref o1)])) rfl (by rw [hml]; rfl) (Steps.refl _) (argsL := [(.int (0 : Int32)), .null, .null, (.int i1)]) (rest := []) (lenOf pd_8 rfl) rfl (by show 2 * 0 + _ ≤ _; exact Nat.le_of_eq rfl) (hb hby d6_5) (fun _ _ => ⟨rfl, e0, (by decide : 0 + 0 ≤ _), (by decide : 0 + 0 ≤ _)⟩)
  dsimp only [Pt.U, Pt.locs, Pt.cells, Pt.slots] at X1 l1 y1 z1 st1 hQ1
  subst l1 y1 z1
  obtain ⟨h1, e1⟩ : ∃ z, T1.heap = z := ⟨_, rfl⟩
  rw [e1] at hQ1
  obtain ⟨rfl, N1q, K1q, q0_1, q1_1, q2_1, q3_1, q4_1, q5_1, q6_1, q7_1, q8_1, q9_1, q10_1, q11_1, q12_1, q13_1⟩ := hQ1
  have N1 := Fr.app N0 N1q
  have K1 : Keep h0 h1 [o7, o5, o2, o1] := (Keep.refl h0 [o7, o5, o2, o1]).trans K1q (allS (Or.inl (List.mem_of_getElem? (i := 0) rfl)) (allS (Or.inl (List.mem_of_getElem? (i := 1) rfl)) (allS (Or.inl (List.mem_of_getElem? (i := 2) rfl)) (allS (Or.inl (List.mem_of_getElem? (i := 3) rfl)) all0))))
  refine step (T1.setTop (mkF m 8 #[.val (.ref o1), .val (.int (0 : Int32)), .val .null, .val (.int i1)] [])) (fun t k => st1.trans k) ?_
  refine fin (v := none) X1 (fun _ => rfl) ?_ (by decide) (by decide) (fun fs hr => X1.returnOut hx hret (hb hby d6_8) hr)
  show Q6_9 Z o1 i1 o2 o3 o4 o5 o6 o7 kc2 i3 i4 kc5 kc6 kc7 kc8 h0 n0 (none) T1.heap _
  rw [e1]
  exact ⟨rfl, N1, K1, q0_1, q1_1, q2_1, q3_1, q4_1, q5_1, q6_1, q7_1, q8_1, q9_1, q10_1, q11_1, q12_1, q13_1⟩
theorem d8_0 : decode prog_73_method_7_code 0 = .ok (.iconst 0, 1) := by decide +kernel
theorem d8_1 : decode prog_73_method_7_code 1 = .ok (.istore_n 2, 1) := by decide +kernel
theorem d8_2 : decode prog_73_method_7_code 2 = .ok (.iload_n 2, 1) := by decide +kernel
theorem d8_3 : decode prog_73_method_7_code 3 = .ok (.aload_n 0, 1) := by decide +kernel
theorem d8_4 : decode prog_73_method_7_code 4 = .ok (.getfield 44, 3) := by decide +kernel
theorem d8_7 : decode prog_73_method_7_code 7 = .ok (.if_icmp .ge 33, 3) := by decide +kernel
theorem d8_10 : decode prog_73_method_7_code 10 = .ok (.aload_n 0, 1) := by decide +kernel
theorem d8_11 : decode prog_73_method_7_code 11 = .ok (.getfield 41, 3) := by decide +kernel
theorem d8_14 : decode prog_73_method_7_code 14 = .ok (.iload_n 2, 1) := by decide +kernel
theorem d8_15 : decode prog_73_method_7_code 15 = .ok (.iaload, 1) := by decide +kernel
theorem d8_16 : decode prog_73_method_7_code 16 = .ok (.iconst (-1), 1) := by decide +kernel
theorem d8_17 : decode prog_73_method_7_code 17 = .ok (.if_icmp .eq 17, 3) := by decide +kernel
theorem d8_20 : decode prog_73_method_7_code 20 = .ok (.aload_n 0, 1) := by decide +kernel
theorem d8_21 : decode prog_73_method_7_code 21 = .ok (.getfield 41, 3) := by decide +kernel
theorem d8_24 : decode prog_73_method_7_code 24 = .ok (.iload_n 2, 1) := by decide +kernel
theorem d8_25 : decode prog_73_method_7_code 25 = .ok (.aload_n 1, 1) := by decide +kernel
theorem d8_26 : decode prog_73_method_7_code 26 = .ok (.aload_n 0, 1) := by decide +kernel
theorem d8_27 : decode prog_73_method_7_code 27 = .ok (.getfield 41, 3) := by decide +kernel
theorem d8_30 : decode prog_73_method_7_code 30 = .ok (.iload_n 2, 1) := by decide +kernel
theorem d8_31 : decode prog_73_method_7_code 31 = .ok (.iaload, 1) := by decide +kernel
theorem d8_32 : decode prog_73_method_7_code 32 = .ok (.iaload, 1) := by decide +kernel
theorem d8_33 : decode prog_73_method_7_code 33 = .ok (.iastore, 1) := by decide +kernel
theorem d8_34 : decode prog_73_method_7_code 34 = .ok (.iinc 2 1, 3) := by decide +kernel
theorem d8_37 : decode prog_73_method_7_code 37 = .ok (.goto (-35), 3) := by decide +kernel
theorem d8_40 : decode prog_73_method_7_code 40 = .ok (.return_, 1) := by decide +kernel
theorem ef_8_11 (m : MethodId) (x0 : Addr) (x1 : Addr) : entryFrame m #[(.ref x0), (.ref x1)] 3 = mkF m 0 #[.val (.ref x0), .val (.ref x1), .unset] [] := by first | (simp [entryFrame, mkF, argsToLocals, Value.category]; done) | rfl
def Q8_11 (Z : State) (o1 : Addr) (o2 : Addr) (o3 : Addr) (kc1 : ClassId) (i2 : Int32) (i3 : Int32) (i4 : Int32) (i5 : Int32) (kc6 : ClassId) (i7 : Int32) (i8 : Int32) (i9 : Int32) (h0 : Heap) (n0 : Nat) (v : Option Value) (h : Heap) (L : List Loc) : Prop := ∃ (y1 : Int32) (y2 : Int32) (y3 : Int32), v = none ∧ Fr n0 L ∧ Keep h0 h [o3] ∧ y1 = (if i7 = (-1 : Int32) then i7 else (List.getD [i2, i3, i4, i5] (i7).toNatClampNeg (0 : Int32))) ∧ y2 = (if i8 = (-1 : Int32) then i8 else (List.getD [i2, i3, i4, i5] (i8).toNatClampNeg (0 : Int32))) ∧ y3 = (if i9 = (-1 : Int32) then i9 else (List.getD [i2, i3, i4, i5] (i9).toNatClampNeg (0 : Int32))) ∧ Arv Z h o3 kc6 .int (3 : Int32) [(.int y1), (.int y2), (.int y3)] (.int (0 : Int32))
set_option maxRecDepth 65536 in
set_option maxHeartbeats 40000000 in
theorem rm8_11 (l : Launch) (Z : State) (a0 : Array Value) (hw : ∀ d ∈ tables_1, d.before a0 Z = true) (ws : List Jvm.Cond) (o1 : Addr) (o2 : Addr) (o3 : Addr) (kc1 : ClassId) (i2 : Int32) (i3 : Int32) (i4 : Int32) (i5 : Int32) (kc6 : ClassId) (i7 : Int32) (i8 : Int32) (i9 : Int32) (h0 : Heap) (n0 : Nat) (Z0 : n0 ≤ h0.size) (Pm0 : Exa Z h0 o1 "com/example/qopa/qopa/model/ModelBuilder") (Pm1 : Fld Z h0 o1 "com/example/qopa/qopa/model/ModelBuilder" "action" "[I" (.ref o3)) (Pm2 : Fld Z h0 o1 "com/example/qopa/qopa/model/ModelBuilder" "transitionCount" "I" (.int (3 : Int32))) (Pm3 : Arv Z h0 o2 kc1 .int (4 : Int32) [(.int i2), (.int i3), (.int i4), (.int i5)] (.int (0 : Int32))) (Pm4 : Arv Z h0 o3 kc6 .int (3 : Int32) [(.int i7), (.int i8), (.int i9)] (.int (0 : Int32))) (gn_o1 : n0 ≤ o1) (ne_o1_o2 : o1 ≠ o2) (ne_o1_o3 : o1 ≠ o3) (gn_o2 : n0 ≤ o2) (ne_o2_o3 : o2 ≠ o3) (gn_o3 : n0 ≤ o3) (hy11 : ¬ (i7 < (-1 : Int32))) (hy12 : i7 < (4 : Int32)) (hy13 : ¬ (i8 < (-1 : Int32))) (hy14 : i8 < (4 : Int32)) (hy15 : ¬ (i9 < (-1 : Int32))) (hy16 : i9 < (4 : Int32))  :
    MetFree l (⟨"com/example/qopa/qopa/model/ModelBuilder", "renumberActions", "([I)V"⟩ : MethodName) (head1 (Jvm.Cond.code (⟨"com/example/qopa/qopa/model/ModelBuilder", "renumberActions", "([I)V"⟩ : MethodName) prog_73_method_7_code 3 none :: ws) ({ frames := 0, cells := 0, slots := 0, locals := 0 } : Room)) (fun a U => a = #[(.ref o1), (.ref o2)] ∧ Z.Warmed39 U.vm ∧ U.heap = h0) (fun _ _ _ _ _ => True) (fun _ U o U' => ∃ v L, o = .returned v ∧ Q8_11 Z o1 o2 o3 kc1 i2 i3 i4 i5 kc6 i7 i8 i9 h0 n0 v U'.heap L ∧ FrameEnd U o U' L ({ frames := 0, cells := 0, slots := 0, locals := 0 } : Room).cells ({ frames := 0, cells := 0, slots := 0, locals := 0 } : Room).slots) := by
  refine own_body (plainFor_of_name pn_1) ?_
  intro p e s m below meth c s₁ G hx hby hml hZ hown hnm hret X0 e0 step fin
  replace hown : s.vm.findClass "com/example/qopa/qopa/model/ModelBuilder" = some m.cls := hown
  replace hnm : meth.name = "renumberActions" := hnm
  replace hret : meth.sig.returnType = none := hret
  replace hml : c.maxLocals = 3 := hml
  have N0 := Fr.nil n0
  refine step (s₁.setTop (mkF m 0 #[.val (.ref o1), .val (.ref o2), .unset] [])) (fun t k => castTop (ef_8_11 m o1 o2) k) ?_
  refine step (s₁.setTop (mkF m 1 #[.val (.ref o1), .val (.ref o2), .unset] [(.int (0 : Int32))])) (fun t k => XS.iconst X0.here hx rfl (hb hby d8_0) k) ?_
  refine step (s₁.setTop (mkF m 2 #[.val (.ref o1), .val (.ref o2), .val (.int (0 : Int32))] [])) (fun t k => XS.istoreN X0.here hx rfl (hb hby d8_1) rfl (l' := #[.val (.ref o1), .val (.ref o2), .val (.int (0 : Int32))]) rfl k) ?_
  refine step (s₁.setTop (mkF m 3 #[.val (.ref o1), .val (.ref o2), .val (.int (0 : Int32))] [(.int (0 : Int32))])) (fun t k => XS.iloadN X0.here hx rfl (hb hby d8_2) rfl k) ?_
  refine step (s₁.setTop (mkF m 4 #[.val (.ref o1), .val (.ref o2), .val (.int (0 : Int32))] [(.ref o1), (.int (0 : Int32))])) (fun t k => XS.aloadN X0.here hx rfl (hb hby d8_3) rfl rfl k) ?_
  obtain ⟨T1, X1, e1, st1⟩ := getF X0 hx hZ hown (host := "") (Or.inl (hw _ (List.mem_of_getElem? (i := 58) rfl))) Via.refl e0 Pm2 (g := (mkF m 4 #[.val (.ref o1), .val (.ref o2), .val (.int (0 : Int32))] [(.ref o1), (.int (0 : Int32))])) rfl rfl (hb hby d8_4)
  refine step (T1.setTop (mkF m 7 #[.val (.ref o1), .val (.ref o2), .val (.int (0 : Int32))] [(.int (3 : Int32)), (.int (0 : Int32))])) (fun t k => st1 t k) ?_
  refine step (T1.setTop (mkF m 10 #[.val (.ref o1), .val (.ref o2), .val (.int (0 : Int32))] [])) (fun t k => XS.icmpNo X1.here hx rfl (hb hby d8_7) rfl (tlt (by decide : (0 : Int32) < (3 : Int32))).2.1 k) ?_
  refine step (T1.setTop (mkF m 11 #[.val (.ref o1), .val (.ref o2), .val (.int (0 : Int32))] [(.ref o1)])) (fun t k => XS.aloadN X1.here hx rfl (hb hby d8_10) rfl rfl k) ?_
  obtain ⟨T2, X2, e2, st2⟩ := getF X1 hx hZ hown (host := "") (Or.inl (hw _ (List.mem_of_getElem? (i := 46) rfl))) Via.refl e1 Pm1 (g := (mkF m 11 #[.val (.ref o1), .val (.ref o2), .val (.int (0 : Int32))] [(.ref o1)])) rfl rfl (hb hby d8_11)
  refine step (T2.setTop (mkF m 14 #[.val (.ref o1), .val (.ref o2), .val (.int (0 : Int32))] [(.ref o3)])) (fun t k => st2 t k) ?_
  refine step (T2.setTop (mkF m 15 #[.val (.ref o1), .val (.ref o2), .val (.int (0 : Int32))] [(.int (0 : Int32)), (.ref o3)])) (fun t k => XS.iloadN X2.here hx rfl (hb hby d8_14) rfl k) ?_
  obtain ⟨cl3, Ar3, q3, S3, N3n, H3, G3⟩ := id Pm4
  have hin3 : ¬ ((0 : Int32) < 0 ∨ cl3.slots.size ≤ ((0 : Int32)).toNatClampNeg) := inb_of S3 ⟨by decide, by decide⟩
  have hat3 : cl3.slots[((0 : Int32)).toNatClampNeg]? = some (.int i7) := H3.at hin3 rfl
  refine step (T2.setTop (mkF m 16 #[.val (.ref o1), .val (.ref o2), .val (.int (0 : Int32))] [(.int i7)])) (fun t k => X2.iaload hx (j := (0 : Int32)) (v := (.int i7)) (by rw [e2]; exact Ar3.1) (State.isArrayOf_alike hZ.alike Ar3.2.1) Ar3.2.2 hin3 hat3 (g := (mkF m 15 #[.val (.ref o1), .val (.ref o2), .val (.int (0 : Int32))] [(.int (0 : Int32)), (.ref o3)])) rfl rfl (hb hby d8_15) t k) ?_
  refine step (T2.setTop (mkF m 17 #[.val (.ref o1), .val (.ref o2), .val (.int (0 : Int32))] [(.int (-1 : Int32)), (.int i7)])) (fun t k => XS.iconst X2.here hx rfl (hb hby d8_16) k) ?_
  by_cases hc17_4 : i7 = (-1 : Int32)
  · -- pc 17: i7 = (-1 : Int32) True
    refine step (T2.setTop (mkF m 34 #[.val (.ref o1), .val (.ref o2), .val (.int (0 : Int32))] [])) (fun t k => XS.icmpYes X2.here hx rfl (pc0 := 17) (pc' := 34) rfl (hb hby d8_17) rfl (teq hc17_4).1 (by decide) (by decide) k) ?_
    refine step (T2.setTop (mkF m 37 #[.val (.ref o1), .val (.ref o2), .val (.int (1 : Int32))] [])) (fun t k => XS.iinc X2.here hx rfl (hb hby d8_34) rfl (l' := #[.val (.ref o1), .val (.ref o2), .val (.int (1 : Int32))]) rfl k) ?_
    refine step (T2.setTop (mkF m 2 #[.val (.ref o1), .val (.ref o2), .val (.int (1 : Int32))] [])) (fun t k => XS.goto X2.here hx rfl (pc0 := 37) (pc' := 2) rfl (hb hby d8_37) (by decide) (by decide) k) ?_
    refine step (T2.setTop (mkF m 3 #[.val (.ref o1), .val (.ref o2), .val (.int (1 : Int32))] [(.int (1 : Int32))])) (fun t k => XS.iloadN X2.here hx rfl (hb hby d8_2) rfl k) ?_
    refine step (T2.setTop (mkF m 4 #[.val (.ref o1), .val (.ref o2), .val (.int (1 : Int32))] [(.ref o1), (.int (1 : Int32))])) (fun t k => XS.aloadN X2.here hx rfl (hb hby d8_3) rfl rfl k) ?_
    obtain ⟨T5, X5, e5, st5⟩ := getF X2 hx hZ hown (host := "") (Or.inl (hw _ (List.mem_of_getElem? (i := 58) rfl))) Via.refl e2 Pm2 (g := (mkF m 4 #[.val (.ref o1), .val (.ref o2), .val (.int (1 : Int32))] [(.ref o1), (.int (1 : Int32))])) rfl rfl (hb hby d8_4)
    refine step (T5.setTop (mkF m 7 #[.val (.ref o1), .val (.ref o2), .val (.int (1 : Int32))] [(.int (3 : Int32)), (.int (1 : Int32))])) (fun t k => st5 t k) ?_
    refine step (T5.setTop (mkF m 10 #[.val (.ref o1), .val (.ref o2), .val (.int (1 : Int32))] [])) (fun t k => XS.icmpNo X5.here hx rfl (hb hby d8_7) rfl (tlt (by decide : (1 : Int32) < (3 : Int32))).2.1 k) ?_
    refine step (T5.setTop (mkF m 11 #[.val (.ref o1), .val (.ref o2), .val (.int (1 : Int32))] [(.ref o1)])) (fun t k => XS.aloadN X5.here hx rfl (hb hby d8_10) rfl rfl k) ?_
    obtain ⟨T6, X6, e6, st6⟩ := getF X5 hx hZ hown (host := "") (Or.inl (hw _ (List.mem_of_getElem? (i := 46) rfl))) Via.refl e5 Pm1 (g := (mkF m 11 #[.val (.ref o1), .val (.ref o2), .val (.int (1 : Int32))] [(.ref o1)])) rfl rfl (hb hby d8_11)
    refine step (T6.setTop (mkF m 14 #[.val (.ref o1), .val (.ref o2), .val (.int (1 : Int32))] [(.ref o3)])) (fun t k => st6 t k) ?_
    refine step (T6.setTop (mkF m 15 #[.val (.ref o1), .val (.ref o2), .val (.int (1 : Int32))] [(.int (1 : Int32)), (.ref o3)])) (fun t k => XS.iloadN X6.here hx rfl (hb hby d8_14) rfl k) ?_
    obtain ⟨cl7, Ar7, q7, S7, N7n, H7, G7⟩ := id Pm4
    have hin7 : ¬ ((1 : Int32) < 0 ∨ cl7.slots.size ≤ ((1 : Int32)).toNatClampNeg) := inb_of S7 ⟨by decide, by decide⟩
    have hat7 : cl7.slots[((1 : Int32)).toNatClampNeg]? = some (.int i8) := H7.at hin7 rfl
    refine step (T6.setTop (mkF m 16 #[.val (.ref o1), .val (.ref o2), .val (.int (1 : Int32))] [(.int i8)])) (fun t k => X6.iaload hx (j := (1 : Int32)) (v := (.int i8)) (by rw [e6]; exact Ar7.1) (State.isArrayOf_alike hZ.alike Ar7.2.1) Ar7.2.2 hin7 hat7 (g := (mkF m 15 #[.val (.ref o1), .val (.ref o2), .val (.int (1 : Int32))] [(.int (1 : Int32)), (.ref o3)])) rfl rfl (hb hby d8_15) t k) ?_
    refine step (T6.setTop (mkF m 17 #[.val (.ref o1), .val (.ref o2), .val (.int (1 : Int32))] [(.int (-1 : Int32)), (.int i8)])) (fun t k => XS.iconst X6.here hx rfl (hb hby d8_16) k) ?_
    by_cases hc17_8 : i8 = (-1 : Int32)
    · -- pc 17: i8 = (-1 : Int32) True
      refine step (T6.setTop (mkF m 34 #[.val (.ref o1), .val (.ref o2), .val (.int (1 : Int32))] [])) (fun t k => XS.icmpYes X6.here hx rfl (pc0 := 17) (pc' := 34) rfl (hb hby d8_17) rfl (teq hc17_8).1 (by decide) (by decide) k) ?_
      refine step (T6.setTop (mkF m 37 #[.val (.ref o1), .val (.ref o2), .val (.int (2 : Int32))] [])) (fun t k => XS.iinc X6.here hx rfl (hb hby d8_34) rfl (l' := #[.val (.ref o1), .val (.ref o2), .val (.int (2 : Int32))]) rfl k) ?_
      refine step (T6.setTop (mkF m 2 #[.val (.ref o1), .val (.ref o2), .val (.int (2 : Int32))] [])) (fun t k => XS.goto X6.here hx rfl (pc0 := 37) (pc' := 2) rfl (hb hby d8_37) (by decide) (by decide) k) ?_
      refine step (T6.setTop (mkF m 3 #[.val (.ref o1), .val (.ref o2), .val (.int (2 : Int32))] [(.int (2 : Int32))])) (fun t k => XS.iloadN X6.here hx rfl (hb hby d8_2) rfl k) ?_
      refine step (T6.setTop (mkF m 4 #[.val (.ref o1), .val (.ref o2), .val (.int (2 : Int32))] [(.ref o1), (.int (2 : Int32))])) (fun t k => XS.aloadN X6.here hx rfl (hb hby d8_3) rfl rfl k) ?_
      obtain ⟨T9, X9, e9, st9⟩ := getF X6 hx hZ hown (host := "") (Or.inl (hw _ (List.mem_of_getElem? (i := 58) rfl))) Via.refl e6 Pm2 (g := (mkF m 4 #[.val (.ref o1), .val (.ref o2), .val (.int (2 : Int32))] [(.ref o1), (.int (2 : Int32))])) rfl rfl (hb hby d8_4)
      refine step (T9.setTop (mkF m 7 #[.val (.ref o1), .val (.ref o2), .val (.int (2 : Int32))] [(.int (3 : Int32)), (.int (2 : Int32))])) (fun t k => st9 t k) ?_
      refine step (T9.setTop (mkF m 10 #[.val (.ref o1), .val (.ref o2), .val (.int (2 : Int32))] [])) (fun t k => XS.icmpNo X9.here hx rfl (hb hby d8_7) rfl (tlt (by decide : (2 : Int32) < (3 : Int32))).2.1 k) ?_
      refine step (T9.setTop (mkF m 11 #[.val (.ref o1), .val (.ref o2), .val (.int (2 : Int32))] [(.ref o1)])) (fun t k => XS.aloadN X9.here hx rfl (hb hby d8_10) rfl rfl k) ?_
      obtain ⟨T10, X10, e10, st10⟩ := getF X9 hx hZ hown (host := "") (Or.inl (hw _ (List.mem_of_getElem? (i := 46) rfl))) Via.refl e9 Pm1 (g := (mkF m 11 #[.val (.ref o1), .val (.ref o2), .val (.int (2 : Int32))] [(.ref o1)])) rfl rfl (hb hby d8_11)
      refine step (T10.setTop (mkF m 14 #[.val (.ref o1), .val (.ref o2), .val (.int (2 : Int32))] [(.ref o3)])) (fun t k => st10 t k) ?_
      refine step (T10.setTop (mkF m 15 #[.val (.ref o1), .val (.ref o2), .val (.int (2 : Int32))] [(.int (2 : Int32)), (.ref o3)])) (fun t k => XS.iloadN X10.here hx rfl (hb hby d8_14) rfl k) ?_
      obtain ⟨cl11, Ar11, q11, S11, N11n, H11, G11⟩ := id Pm4
      have hin11 : ¬ ((2 : Int32) < 0 ∨ cl11.slots.size ≤ ((2 : Int32)).toNatClampNeg) := inb_of S11 ⟨by decide, by decide⟩
      have hat11 : cl11.slots[((2 : Int32)).toNatClampNeg]? = some (.int i9) := H11.at hin11 rfl
      refine step (T10.setTop (mkF m 16 #[.val (.ref o1), .val (.ref o2), .val (.int (2 : Int32))] [(.int i9)])) (fun t k => X10.iaload hx (j := (2 : Int32)) (v := (.int i9)) (by rw [e10]; exact Ar11.1) (State.isArrayOf_alike hZ.alike Ar11.2.1) Ar11.2.2 hin11 hat11 (g := (mkF m 15 #[.val (.ref o1), .val (.ref o2), .val (.int (2 : Int32))] [(.int (2 : Int32)), (.ref o3)])) rfl rfl (hb hby d8_15) t k) ?_
      refine step (T10.setTop (mkF m 17 #[.val (.ref o1), .val (.ref o2), .val (.int (2 : Int32))] [(.int (-1 : Int32)), (.int i9)])) (fun t k => XS.iconst X10.here hx rfl (hb hby d8_16) k) ?_
      by_cases hc17_12 : i9 = (-1 : Int32)
      · -- pc 17: i9 = (-1 : Int32) True
        refine step (T10.setTop (mkF m 34 #[.val (.ref o1), .val (.ref o2), .val (.int (2 : Int32))] [])) (fun t k => XS.icmpYes X10.here hx rfl (pc0 := 17) (pc' := 34) rfl (hb hby d8_17) rfl (teq hc17_12).1 (by decide) (by decide) k) ?_
        refine step (T10.setTop (mkF m 37 #[.val (.ref o1), .val (.ref o2), .val (.int (3 : Int32))] [])) (fun t k => XS.iinc X10.here hx rfl (hb hby d8_34) rfl (l' := #[.val (.ref o1), .val (.ref o2), .val (.int (3 : Int32))]) rfl k) ?_
        refine step (T10.setTop (mkF m 2 #[.val (.ref o1), .val (.ref o2), .val (.int (3 : Int32))] [])) (fun t k => XS.goto X10.here hx rfl (pc0 := 37) (pc' := 2) rfl (hb hby d8_37) (by decide) (by decide) k) ?_
        refine step (T10.setTop (mkF m 3 #[.val (.ref o1), .val (.ref o2), .val (.int (3 : Int32))] [(.int (3 : Int32))])) (fun t k => XS.iloadN X10.here hx rfl (hb hby d8_2) rfl k) ?_
        refine step (T10.setTop (mkF m 4 #[.val (.ref o1), .val (.ref o2), .val (.int (3 : Int32))] [(.ref o1), (.int (3 : Int32))])) (fun t k => XS.aloadN X10.here hx rfl (hb hby d8_3) rfl rfl k) ?_
        obtain ⟨T13, X13, e13, st13⟩ := getF X10 hx hZ hown (host := "") (Or.inl (hw _ (List.mem_of_getElem? (i := 58) rfl))) Via.refl e10 Pm2 (g := (mkF m 4 #[.val (.ref o1), .val (.ref o2), .val (.int (3 : Int32))] [(.ref o1), (.int (3 : Int32))])) rfl rfl (hb hby d8_4)
        refine step (T13.setTop (mkF m 7 #[.val (.ref o1), .val (.ref o2), .val (.int (3 : Int32))] [(.int (3 : Int32)), (.int (3 : Int32))])) (fun t k => st13 t k) ?_
        refine step (T13.setTop (mkF m 40 #[.val (.ref o1), .val (.ref o2), .val (.int (3 : Int32))] [])) (fun t k => XS.icmpYes X13.here hx rfl (pc0 := 7) (pc' := 40) rfl (hb hby d8_7) rfl (flt (by decide : ¬ ((3 : Int32) < (3 : Int32)))).2.1 (by decide) (by decide) k) ?_
        have K0q : Keep h0 h0 [o3] := Keep.refl _ _
        refine fin (v := none) X13 (fun _ => rfl) ?_ (by decide) (by decide) (fun fs hr => X13.returnOut hx hret (hb hby d8_40) hr)
        show Q8_11 Z o1 o2 o3 kc1 i2 i3 i4 i5 kc6 i7 i8 i9 h0 n0 (none) T13.heap _
        rw [e13]
        exact ⟨_, _, _, rfl, N0, K0q, (by simp only [if_pos hc17_4, if_pos hc17_8, if_pos hc17_12, if_true, if_false] <;> rfl), (by simp only [if_pos hc17_4, if_pos hc17_8, if_pos hc17_12, if_true, if_false] <;> rfl), (by simp only [if_pos hc17_4, if_pos hc17_8, if_pos hc17_12, if_true, if_false] <;> rfl), Pm4⟩
      · -- pc 17: i9 = (-1 : Int32) False
        refine step (T10.setTop (mkF m 20 #[.val (.ref o1), .val (.ref o2), .val (.int (2 : Int32))] [])) (fun t k => XS.icmpNo X10.here hx rfl (hb hby d8_17) rfl (feq hc17_12).1 k) ?_
        refine step (T10.setTop (mkF m 21 #[.val (.ref o1), .val (.ref o2), .val (.int (2 : Int32))] [(.ref o1)])) (fun t k => XS.aloadN X10.here hx rfl (hb hby d8_20) rfl rfl k) ?_
        obtain ⟨T14, X14, e14, st14⟩ := getF X10 hx hZ hown (host := "") (Or.inl (hw _ (List.mem_of_getElem? (i := 46) rfl))) Via.refl e10 Pm1 (g := (mkF m 21 #[.val (.ref o1), .val (.ref o2), .val (.int (2 : Int32))] [(.ref o1)])) rfl rfl (hb hby d8_21)
        refine step (T14.setTop (mkF m 24 #[.val (.ref o1), .val (.ref o2), .val (.int (2 : Int32))] [(.ref o3)])) (fun t k => st14 t k) ?_
        refine step (T14.setTop (mkF m 25 #[.val (.ref o1), .val (.ref o2), .val (.int (2 : Int32))] [(.int (2 : Int32)), (.ref o3)])) (fun t k => XS.iloadN X14.here hx rfl (hb hby d8_24) rfl k) ?_
        refine step (T14.setTop (mkF m 26 #[.val (.ref o1), .val (.ref o2), .val (.int (2 : Int32))] [(.ref o2), (.int (2 : Int32)), (.ref o3)])) (fun t k => XS.aloadN X14.here hx rfl (hb hby d8_25) rfl rfl k) ?_
        refine step (T14.setTop (mkF m 27 #[.val (.ref o1), .val (.ref o2), .val (.int (2 : Int32))] [(.ref o1), (.ref o2), (.int (2 : Int32)), (.ref o3)])) (fun t k => XS.aloadN X14.here hx rfl (hb hby d8_26) rfl rfl k) ?_
        obtain ⟨T15, X15, e15, st15⟩ := getF X14 hx hZ hown (host := "") (Or.inl (hw _ (List.mem_of_getElem? (i := 46) rfl))) Via.refl e14 Pm1 (g := (mkF m 27 #[.val (.ref o1), .val (.ref o2), .val (.int (2 : Int32))] [(.ref o1), (.ref o2), (.int (2 : Int32)), (.ref o3)])) rfl rfl (hb hby d8_27)
        refine step (T15.setTop (mkF m 30 #[.val (.ref o1), .val (.ref o2), .val (.int (2 : Int32))] [(.ref o3), (.ref o2), (.int (2 : Int32)), (.ref o3)])) (fun t k => st15 t k) ?_
        refine step (T15.setTop (mkF m 31 #[.val (.ref o1), .val (.ref o2), .val (.int (2 : Int32))] [(.int (2 : Int32)), (.ref o3), (.ref o2), (.int (2 : Int32)), (.ref o3)])) (fun t k => XS.iloadN X15.here hx rfl (hb hby d8_30) rfl k) ?_
        obtain ⟨cl16, Ar16, q16, S16, N16n, H16, G16⟩ := id Pm4
        have hin16 : ¬ ((2 : Int32) < 0 ∨ cl16.slots.size ≤ ((2 : Int32)).toNatClampNeg) := inb_of S16 ⟨by decide, by decide⟩
        have hat16 : cl16.slots[((2 : Int32)).toNatClampNeg]? = some (.int i9) := H16.at hin16 rfl
        refine step (T15.setTop (mkF m 32 #[.val (.ref o1), .val (.ref o2), .val (.int (2 : Int32))] [(.int i9), (.ref o2), (.int (2 : Int32)), (.ref o3)])) (fun t k => X15.iaload hx (j := (2 : Int32)) (v := (.int i9)) (by rw [e15]; exact Ar16.1) (State.isArrayOf_alike hZ.alike Ar16.2.1) Ar16.2.2 hin16 hat16 (g := (mkF m 31 #[.val (.ref o1), .val (.ref o2), .val (.int (2 : Int32))] [(.int (2 : Int32)), (.ref o3), (.ref o2), (.int (2 : Int32)), (.ref o3)])) rfl rfl (hb hby d8_31) t k) ?_
        obtain ⟨cl17, Ar17, q17, S17, N17n, H17, G17⟩ := id Pm3
        have hin17 : ¬ (i9 < 0 ∨ cl17.slots.size ≤ (i9).toNatClampNeg) := inb_of S17 ⟨own_ge hy15 hc17_12, hy16⟩
        have hat17 : cl17.slots[(i9).toNatClampNeg]? = some (.int (List.getD [i2, i3, i4, i5] (i9).toNatClampNeg (0 : Int32))) := H17.at hin17 (own_getD [i2, i3, i4, i5] _ _)
        refine step (T15.setTop (mkF m 33 #[.val (.ref o1), .val (.ref o2), .val (.int (2 : Int32))] [(.int (List.getD [i2, i3, i4, i5] (i9).toNatClampNeg (0 : Int32))), (.int (2 : Int32)), (.ref o3)])) (fun t k => X15.iaload hx (j := i9) (v := (.int (List.getD [i2, i3, i4, i5] (i9).toNatClampNeg (0 : Int32)))) (by rw [e15]; exact Ar17.1) (State.isArrayOf_alike hZ.alike Ar17.2.1) Ar17.2.2 hin17 hat17 (g := (mkF m 32 #[.val (.ref o1), .val (.ref o2), .val (.int (2 : Int32))] [(.int i9), (.ref o2), (.int (2 : Int32)), (.ref o3)])) rfl rfl (hb hby d8_32) t k) ?_
        obtain ⟨cl18, Ar18, q18, S18, N18n, H18, G18⟩ := id Pm4
        have hin18 : ¬ ((2 : Int32) < 0 ∨ cl18.slots.size ≤ ((2 : Int32)).toNatClampNeg) := inb_of S18 ⟨by decide, by decide⟩
        obtain ⟨T18, h18, X18, e18, W18, st18⟩ := stI X15 hx hZ e15 Ar18 (j := (2 : Int32)) hin18 (g := (mkF m 33 #[.val (.ref o1), .val (.ref o2), .val (.int (2 : Int32))] [(.int (List.getD [i2, i3, i4, i5] (i9).toNatClampNeg (0 : Int32))), (.int (2 : Int32)), (.ref o3)])) rfl rfl (hb hby d8_33)
        have N18 := Fr.snoc X18 N0 gn_o3
        have K18 : Keep h0 h18 [o3] := (Keep.refl h0 [o3]).wr W18 (Or.inl (List.mem_of_getElem? (i := 0) rfl))
        have V18 : Arv Z h18 o3 kc6 .int (3 : Int32) [(.int i7), (.int i8), (.int (List.getD [i2, i3, i4, i5] (i9).toNatClampNeg (0 : Int32)))] (.int (0 : Int32)) := Arv.set Ar18 q18 S18 N18n H18 G18 rfl W18 2 rfl (Nat.le_of_ble_eq_true rfl)
        refine step (T18.setTop (mkF m 34 #[.val (.ref o1), .val (.ref o2), .val (.int (2 : Int32))] [])) (fun t k => st18 t k) ?_
        refine step (T18.setTop (mkF m 37 #[.val (.ref o1), .val (.ref o2), .val (.int (3 : Int32))] [])) (fun t k => XS.iinc X18.here hx rfl (hb hby d8_34) rfl (l' := #[.val (.ref o1), .val (.ref o2), .val (.int (3 : Int32))]) rfl k) ?_
        refine step (T18.setTop (mkF m 2 #[.val (.ref o1), .val (.ref o2), .val (.int (3 : Int32))] [])) (fun t k => XS.goto X18.here hx rfl (pc0 := 37) (pc' := 2) rfl (hb hby d8_37) (by decide) (by decide) k) ?_
        refine step (T18.setTop (mkF m 3 #[.val (.ref o1), .val (.ref o2), .val (.int (3 : Int32))] [(.int (3 : Int32))])) (fun t k => XS.iloadN X18.here hx rfl (hb hby d8_2) rfl k) ?_
        refine step (T18.setTop (mkF m 4 #[.val (.ref o1), .val (.ref o2), .val (.int (3 : Int32))] [(.ref o1), (.int (3 : Int32))])) (fun t k => XS.aloadN X18.here hx rfl (hb hby d8_3) rfl rfl k) ?_
        have f19 := (Pm2.other W18 (Or.inl ne_o1_o3))
        obtain ⟨T20, X20, e20, st20⟩ := getF X18 hx hZ hown (host := "") (Or.inl (hw _ (List.mem_of_getElem? (i := 58) rfl))) Via.refl e18 f19 (g := (mkF m 4 #[.val (.ref o1), .val (.ref o2), .val (.int (3 : Int32))] [(.ref o1), (.int (3 : Int32))])) rfl rfl (hb hby d8_4)
        refine step (T20.setTop (mkF m 7 #[.val (.ref o1), .val (.ref o2), .val (.int (3 : Int32))] [(.int (3 : Int32)), (.int (3 : Int32))])) (fun t k => st20 t k) ?_
        refine step (T20.setTop (mkF m 40 #[.val (.ref o1), .val (.ref o2), .val (.int (3 : Int32))] [])) (fun t k => XS.icmpYes X20.here hx rfl (pc0 := 7) (pc' := 40) rfl (hb hby d8_7) rfl (flt (by decide : ¬ ((3 : Int32) < (3 : Int32)))).2.1 (by decide) (by decide) k) ?_
        refine fin (v := none) X20 (fun _ => rfl) ?_ (by decide) (by decide) (fun fs hr => X20.returnOut hx hret (hb hby d8_40) hr)
        show Q8_11 Z o1 o2 o3 kc1 i2 i3 i4 i5 kc6 i7 i8 i9 h0 n0 (none) T20.heap _
        rw [e20]
        exact ⟨_, _, _, rfl, N18, K18, (by simp only [if_pos hc17_4, if_pos hc17_8, if_neg hc17_12, if_true, if_false] <;> rfl), (by simp only [if_pos hc17_4, if_pos hc17_8, if_neg hc17_12, if_true, if_false] <;> rfl), (by simp only [if_pos hc17_4, if_pos hc17_8, if_neg hc17_12, if_true, if_false] <;> rfl), V18⟩
    · -- pc 17: i8 = (-1 : Int32) False
      refine step (T6.setTop (mkF m 20 #[.val (.ref o1), .val (.ref o2), .val (.int (1 : Int32))] [])) (fun t k => XS.icmpNo X6.here hx rfl (hb hby d8_17) rfl (feq hc17_8).1 k) ?_
      refine step (T6.setTop (mkF m 21 #[.val (.ref o1), .val (.ref o2), .val (.int (1 : Int32))] [(.ref o1)])) (fun t k => XS.aloadN X6.here hx rfl (hb hby d8_20) rfl rfl k) ?_
      obtain ⟨T21, X21, e21, st21⟩ := getF X6 hx hZ hown (host := "") (Or.inl (hw _ (List.mem_of_getElem? (i := 46) rfl))) Via.refl e6 Pm1 (g := (mkF m 21 #[.val (.ref o1), .val (.ref o2), .val (.int (1 : Int32))] [(.ref o1)])) rfl rfl (hb hby d8_21)
      refine step (T21.setTop (mkF m 24 #[.val (.ref o1), .val (.ref o2), .val (.int (1 : Int32))] [(.ref o3)])) (fun t k => st21 t k) ?_
      refine step (T21.setTop (mkF m 25 #[.val (.ref o1), .val (.ref o2), .val (.int (1 : Int32))] [(.int (1 : Int32)), (.ref o3)])) (fun t k => XS.iloadN X21.here hx rfl (hb hby d8_24) rfl k) ?_
      refine step (T21.setTop (mkF m 26 #[.val (.ref o1), .val (.ref o2), .val (.int (1 : Int32))] [(.ref o2), (.int (1 : Int32)), (.ref o3)])) (fun t k => XS.aloadN X21.here hx rfl (hb hby d8_25) rfl rfl k) ?_
      refine step (T21.setTop (mkF m 27 #[.val (.ref o1), .val (.ref o2), .val (.int (1 : Int32))] [(.ref o1), (.ref o2), (.int (1 : Int32)), (.ref o3)])) (fun t k => XS.aloadN X21.here hx rfl (hb hby d8_26) rfl rfl k) ?_
      obtain ⟨T22, X22, e22, st22⟩ := getF X21 hx hZ hown (host := "") (Or.inl (hw _ (List.mem_of_getElem? (i := 46) rfl))) Via.refl e21 Pm1 (g := (mkF m 27 #[.val (.ref o1), .val (.ref o2), .val (.int (1 : Int32))] [(.ref o1), (.ref o2), (.int (1 : Int32)), (.ref o3)])) rfl rfl (hb hby d8_27)
      refine step (T22.setTop (mkF m 30 #[.val (.ref o1), .val (.ref o2), .val (.int (1 : Int32))] [(.ref o3), (.ref o2), (.int (1 : Int32)), (.ref o3)])) (fun t k => st22 t k) ?_
      refine step (T22.setTop (mkF m 31 #[.val (.ref o1), .val (.ref o2), .val (.int (1 : Int32))] [(.int (1 : Int32)), (.ref o3), (.ref o2), (.int (1 : Int32)), (.ref o3)])) (fun t k => XS.iloadN X22.here hx rfl (hb hby d8_30) rfl k) ?_
      obtain ⟨cl23, Ar23, q23, S23, N23n, H23, G23⟩ := id Pm4
      have hin23 : ¬ ((1 : Int32) < 0 ∨ cl23.slots.size ≤ ((1 : Int32)).toNatClampNeg) := inb_of S23 ⟨by decide, by decide⟩
      have hat23 : cl23.slots[((1 : Int32)).toNatClampNeg]? = some (.int i8) := H23.at hin23 rfl
      refine step (T22.setTop (mkF m 32 #[.val (.ref o1), .val (.ref o2), .val (.int (1 : Int32))] [(.int i8), (.ref o2), (.int (1 : Int32)), (.ref o3)])) (fun t k => X22.iaload hx (j := (1 : Int32)) (v := (.int i8)) (by rw [e22]; exact Ar23.1) (State.isArrayOf_alike hZ.alike Ar23.2.1) Ar23.2.2 hin23 hat23 (g := (mkF m 31 #[.val (.ref o1), .val (.ref o2), .val (.int (1 : Int32))] [(.int (1 : Int32)), (.ref o3), (.ref o2), (.int (1 : Int32)), (.ref o3)])) rfl rfl (hb hby d8_31) t k) ?_
      obtain ⟨cl24, Ar24, q24, S24, N24n, H24, G24⟩ := id Pm3
      have hin24 : ¬ (i8 < 0 ∨ cl24.slots.size ≤ (i8).toNatClampNeg) := inb_of S24 ⟨own_ge hy13 hc17_8, hy14⟩
      have hat24 : cl24.slots[(i8).toNatClampNeg]? = some (.int (List.getD [i2, i3, i4, i5] (i8).toNatClampNeg (0 : Int32))) := H24.at hin24 (own_getD [i2, i3, i4, i5] _ _)
      refine step (T22.setTop (mkF m 33 #[.val (.ref o1), .val (.ref o2), .val (.int (1 : Int32))] [(.int (List.getD [i2, i3, i4, i5] (i8).toNatClampNeg (0 : Int32))), (.int (1 : Int32)), (.ref o3)])) (fun t k => X22.iaload hx (j := i8) (v := (.int (List.getD [i2, i3, i4, i5] (i8).toNatClampNeg (0 : Int32)))) (by rw [e22]; exact Ar24.1) (State.isArrayOf_alike hZ.alike Ar24.2.1) Ar24.2.2 hin24 hat24 (g := (mkF m 32 #[.val (.ref o1), .val (.ref o2), .val (.int (1 : Int32))] [(.int i8), (.ref o2), (.int (1 : Int32)), (.ref o3)])) rfl rfl (hb hby d8_32) t k) ?_
      obtain ⟨cl25, Ar25, q25, S25, N25n, H25, G25⟩ := id Pm4
      have hin25 : ¬ ((1 : Int32) < 0 ∨ cl25.slots.size ≤ ((1 : Int32)).toNatClampNeg) := inb_of S25 ⟨by decide, by decide⟩
      obtain ⟨T25, h25, X25, e25, W25, st25⟩ := stI X22 hx hZ e22 Ar25 (j := (1 : Int32)) hin25 (g := (mkF m 33 #[.val (.ref o1), .val (.ref o2), .val (.int (1 : Int32))] [(.int (List.getD [i2, i3, i4, i5] (i8).toNatClampNeg (0 : Int32))), (.int (1 : Int32)), (.ref o3)])) rfl rfl (hb hby d8_33)
      have N25 := Fr.snoc X25 N0 gn_o3
      have K25 : Keep h0 h25 [o3] := (Keep.refl h0 [o3]).wr W25 (Or.inl (List.mem_of_getElem? (i := 0) rfl))
      have V25 : Arv Z h25 o3 kc6 .int (3 : Int32) [(.int i7), (.int (List.getD [i2, i3, i4, i5] (i8).toNatClampNeg (0 : Int32))), (.int i9)] (.int (0 : Int32)) := Arv.set Ar25 q25 S25 N25n H25 G25 rfl W25 1 rfl (Nat.le_of_ble_eq_true rfl)
      refine step (T25.setTop (mkF m 34 #[.val (.ref o1), .val (.ref o2), .val (.int (1 : Int32))] [])) (fun t k => st25 t k) ?_
      refine step (T25.setTop (mkF m 37 #[.val (.ref o1), .val (.ref o2), .val (.int (2 : Int32))] [])) (fun t k => XS.iinc X25.here hx rfl (hb hby d8_34) rfl (l' := #[.val (.ref o1), .val (.ref o2), .val (.int (2 : Int32))]) rfl k) ?_
      refine step (T25.setTop (mkF m 2 #[.val (.ref o1), .val (.ref o2), .val (.int (2 : Int32))] [])) (fun t k => XS.goto X25.here hx rfl (pc0 := 37) (pc' := 2) rfl (hb hby d8_37) (by decide) (by decide) k) ?_
      refine step (T25.setTop (mkF m 3 #[.val (.ref o1), .val (.ref o2), .val (.int (2 : Int32))] [(.int (2 : Int32))])) (fun t k => XS.iloadN X25.here hx rfl (hb hby d8_2) rfl k) ?_
      refine step (T25.setTop (mkF m 4 #[.val (.ref o1), .val (.ref o2), .val (.int (2 : Int32))] [(.ref o1), (.int (2 : Int32))])) (fun t k => XS.aloadN X25.here hx rfl (hb hby d8_3) rfl rfl k) ?_
      have f26 := (Pm2.other W25 (Or.inl ne_o1_o3))
      obtain ⟨T27, X27, e27, st27⟩ := getF X25 hx hZ hown (host := "") (Or.inl (hw _ (List.mem_of_getElem? (i := 58) rfl))) Via.refl e25 f26 (g := (mkF m 4 #[.val (.ref o1), .val (.ref o2), .val (.int (2 : Int32))] [(.ref o1), (.int (2 : Int32))])) rfl rfl (hb hby d8_4)
      refine step (T27.setTop (mkF m 7 #[.val (.ref o1), .val (.ref o2), .val (.int (2 : Int32))] [(.int (3 : Int32)), (.int (2 : Int32))])) (fun t k => st27 t k) ?_
      refine step (T27.setTop (mkF m 10 #[.val (.ref o1), .val (.ref o2), .val (.int (2 : Int32))] [])) (fun t k => XS.icmpNo X27.here hx rfl (hb hby d8_7) rfl (tlt (by decide : (2 : Int32) < (3 : Int32))).2.1 k) ?_
      refine step (T27.setTop (mkF m 11 #[.val (.ref o1), .val (.ref o2), .val (.int (2 : Int32))] [(.ref o1)])) (fun t k => XS.aloadN X27.here hx rfl (hb hby d8_10) rfl rfl k) ?_
      have f28 := (Pm1.other W25 (Or.inl ne_o1_o3))
      obtain ⟨T29, X29, e29, st29⟩ := getF X27 hx hZ hown (host := "") (Or.inl (hw _ (List.mem_of_getElem? (i := 46) rfl))) Via.refl e27 f28 (g := (mkF m 11 #[.val (.ref o1), .val (.ref o2), .val (.int (2 : Int32))] [(.ref o1)])) rfl rfl (hb hby d8_11)
      refine step (T29.setTop (mkF m 14 #[.val (.ref o1), .val (.ref o2), .val (.int (2 : Int32))] [(.ref o3)])) (fun t k => st29 t k) ?_
      refine step (T29.setTop (mkF m 15 #[.val (.ref o1), .val (.ref o2), .val (.int (2 : Int32))] [(.int (2 : Int32)), (.ref o3)])) (fun t k => XS.iloadN X29.here hx rfl (hb hby d8_14) rfl k) ?_
      obtain ⟨cl30, Ar30, q30, S30, N30n, H30, G30⟩ := id V25
      have hin30 : ¬ ((2 : Int32) < 0 ∨ cl30.slots.size ≤ ((2 : Int32)).toNatClampNeg) := inb_of S30 ⟨by decide, by decide⟩
      have hat30 : cl30.slots[((2 : Int32)).toNatClampNeg]? = some (.int i9) := H30.at hin30 rfl
      refine step (T29.setTop (mkF m 16 #[.val (.ref o1), .val (.ref o2), .val (.int (2 : Int32))] [(.int i9)])) (fun t k => X29.iaload hx (j := (2 : Int32)) (v := (.int i9)) (by rw [e29]; exact Ar30.1) (State.isArrayOf_alike hZ.alike Ar30.2.1) Ar30.2.2 hin30 hat30 (g := (mkF m 15 #[.val (.ref o1), .val (.ref o2), .val (.int (2 : Int32))] [(.int (2 : Int32)), (.ref o3)])) rfl rfl (hb hby d8_15) t k) ?_
      refine step (T29.setTop (mkF m 17 #[.val (.ref o1), .val (.ref o2), .val (.int (2 : Int32))] [(.int (-1 : Int32)), (.int i9)])) (fun t k => XS.iconst X29.here hx rfl (hb hby d8_16) k) ?_
      by_cases hc17_31 : i9 = (-1 : Int32)
      · -- pc 17: i9 = (-1 : Int32) True
        refine step (T29.setTop (mkF m 34 #[.val (.ref o1), .val (.ref o2), .val (.int (2 : Int32))] [])) (fun t k => XS.icmpYes X29.here hx rfl (pc0 := 17) (pc' := 34) rfl (hb hby d8_17) rfl (teq hc17_31).1 (by decide) (by decide) k) ?_
        refine step (T29.setTop (mkF m 37 #[.val (.ref o1), .val (.ref o2), .val (.int (3 : Int32))] [])) (fun t k => XS.iinc X29.here hx rfl (hb hby d8_34) rfl (l' := #[.val (.ref o1), .val (.ref o2), .val (.int (3 : Int32))]) rfl k) ?_
        refine step (T29.setTop (mkF m 2 #[.val (.ref o1), .val (.ref o2), .val (.int (3 : Int32))] [])) (fun t k => XS.goto X29.here hx rfl (pc0 := 37) (pc' := 2) rfl (hb hby d8_37) (by decide) (by decide) k) ?_
        refine step (T29.setTop (mkF m 3 #[.val (.ref o1), .val (.ref o2), .val (.int (3 : Int32))] [(.int (3 : Int32))])) (fun t k => XS.iloadN X29.here hx rfl (hb hby d8_2) rfl k) ?_
        refine step (T29.setTop (mkF m 4 #[.val (.ref o1), .val (.ref o2), .val (.int (3 : Int32))] [(.ref o1), (.int (3 : Int32))])) (fun t k => XS.aloadN X29.here hx rfl (hb hby d8_3) rfl rfl k) ?_
        obtain ⟨T32, X32, e32, st32⟩ := getF X29 hx hZ hown (host := "") (Or.inl (hw _ (List.mem_of_getElem? (i := 58) rfl))) Via.refl e29 f26 (g := (mkF m 4 #[.val (.ref o1), .val (.ref o2), .val (.int (3 : Int32))] [(.ref o1), (.int (3 : Int32))])) rfl rfl (hb hby d8_4)
        refine step (T32.setTop (mkF m 7 #[.val (.ref o1), .val (.ref o2), .val (.int (3 : Int32))] [(.int (3 : Int32)), (.int (3 : Int32))])) (fun t k => st32 t k) ?_
        refine step (T32.setTop (mkF m 40 #[.val (.ref o1), .val (.ref o2), .val (.int (3 : Int32))] [])) (fun t k => XS.icmpYes X32.here hx rfl (pc0 := 7) (pc' := 40) rfl (hb hby d8_7) rfl (flt (by decide : ¬ ((3 : Int32) < (3 : Int32)))).2.1 (by decide) (by decide) k) ?_
        refine fin (v := none) X32 (fun _ => rfl) ?_ (by decide) (by decide) (fun fs hr => X32.returnOut hx hret (hb hby d8_40) hr)
        show Q8_11 Z o1 o2 o3 kc1 i2 i3 i4 i5 kc6 i7 i8 i9 h0 n0 (none) T32.heap _
        rw [e32]
        exact ⟨_, _, _, rfl, N25, K25, (by simp only [if_pos hc17_4, if_neg hc17_8, if_pos hc17_31, if_true, if_false] <;> rfl), (by simp only [if_pos hc17_4, if_neg hc17_8, if_pos hc17_31, if_true, if_false] <;> rfl), (by simp only [if_pos hc17_4, if_neg hc17_8, if_pos hc17_31, if_true, if_false] <;> rfl), V25⟩
      · -- pc 17: i9 = (-1 : Int32) False
        refine step (T29.setTop (mkF m 20 #[.val (.ref o1), .val (.ref o2), .val (.int (2 : Int32))] [])) (fun t k => XS.icmpNo X29.here hx rfl (hb hby d8_17) rfl (feq hc17_31).1 k) ?_
        refine step (T29.setTop (mkF m 21 #[.val (.ref o1), .val (.ref o2), .val (.int (2 : Int32))] [(.ref o1)])) (fun t k => XS.aloadN X29.here hx rfl (hb hby d8_20) rfl rfl k) ?_
        obtain ⟨T33, X33, e33, st33⟩ := getF X29 hx hZ hown (host := "") (Or.inl (hw _ (List.mem_of_getElem? (i := 46) rfl))) Via.refl e29 f28 (g := (mkF m 21 #[.val (.ref o1), .val (.ref o2), .val (.int (2 : Int32))] [(.ref o1)])) rfl rfl (hb hby d8_21)
        refine step (T33.setTop (mkF m 24 #[.val (.ref o1), .val (.ref o2), .val (.int (2 : Int32))] [(.ref o3)])) (fun t k => st33 t k) ?_
        refine step (T33.setTop (mkF m 25 #[.val (.ref o1), .val (.ref o2), .val (.int (2 : Int32))] [(.int (2 : Int32)), (.ref o3)])) (fun t k => XS.iloadN X33.here hx rfl (hb hby d8_24) rfl k) ?_
        refine step (T33.setTop (mkF m 26 #[.val (.ref o1), .val (.ref o2), .val (.int (2 : Int32))] [(.ref o2), (.int (2 : Int32)), (.ref o3)])) (fun t k => XS.aloadN X33.here hx rfl (hb hby d8_25) rfl rfl k) ?_
        refine step (T33.setTop (mkF m 27 #[.val (.ref o1), .val (.ref o2), .val (.int (2 : Int32))] [(.ref o1), (.ref o2), (.int (2 : Int32)), (.ref o3)])) (fun t k => XS.aloadN X33.here hx rfl (hb hby d8_26) rfl rfl k) ?_
        obtain ⟨T34, X34, e34, st34⟩ := getF X33 hx hZ hown (host := "") (Or.inl (hw _ (List.mem_of_getElem? (i := 46) rfl))) Via.refl e33 f28 (g := (mkF m 27 #[.val (.ref o1), .val (.ref o2), .val (.int (2 : Int32))] [(.ref o1), (.ref o2), (.int (2 : Int32)), (.ref o3)])) rfl rfl (hb hby d8_27)
        refine step (T34.setTop (mkF m 30 #[.val (.ref o1), .val (.ref o2), .val (.int (2 : Int32))] [(.ref o3), (.ref o2), (.int (2 : Int32)), (.ref o3)])) (fun t k => st34 t k) ?_
        refine step (T34.setTop (mkF m 31 #[.val (.ref o1), .val (.ref o2), .val (.int (2 : Int32))] [(.int (2 : Int32)), (.ref o3), (.ref o2), (.int (2 : Int32)), (.ref o3)])) (fun t k => XS.iloadN X34.here hx rfl (hb hby d8_30) rfl k) ?_
        obtain ⟨cl35, Ar35, q35, S35, N35n, H35, G35⟩ := id V25
        have hin35 : ¬ ((2 : Int32) < 0 ∨ cl35.slots.size ≤ ((2 : Int32)).toNatClampNeg) := inb_of S35 ⟨by decide, by decide⟩
        have hat35 : cl35.slots[((2 : Int32)).toNatClampNeg]? = some (.int i9) := H35.at hin35 rfl
        refine step (T34.setTop (mkF m 32 #[.val (.ref o1), .val (.ref o2), .val (.int (2 : Int32))] [(.int i9), (.ref o2), (.int (2 : Int32)), (.ref o3)])) (fun t k => X34.iaload hx (j := (2 : Int32)) (v := (.int i9)) (by rw [e34]; exact Ar35.1) (State.isArrayOf_alike hZ.alike Ar35.2.1) Ar35.2.2 hin35 hat35 (g := (mkF m 31 #[.val (.ref o1), .val (.ref o2), .val (.int (2 : Int32))] [(.int (2 : Int32)), (.ref o3), (.ref o2), (.int (2 : Int32)), (.ref o3)])) rfl rfl (hb hby d8_31) t k) ?_
        have f36 := (Pm3.other W25 ne_o2_o3)
        obtain ⟨cl37, Ar37, q37, S37, N37n, H37, G37⟩ := id f36
        have hin37 : ¬ (i9 < 0 ∨ cl37.slots.size ≤ (i9).toNatClampNeg) := inb_of S37 ⟨own_ge hy15 hc17_31, hy16⟩
        have hat37 : cl37.slots[(i9).toNatClampNeg]? = some (.int (List.getD [i2, i3, i4, i5] (i9).toNatClampNeg (0 : Int32))) := H37.at hin37 (own_getD [i2, i3, i4, i5] _ _)
        refine step (T34.setTop (mkF m 33 #[.val (.ref o1), .val (.ref o2), .val (.int (2 : Int32))] [(.int (List.getD [i2, i3, i4, i5] (i9).toNatClampNeg (0 : Int32))), (.int (2 : Int32)), (.ref o3)])) (fun t k => X34.iaload hx (j := i9) (v := (.int (List.getD [i2, i3, i4, i5] (i9).toNatClampNeg (0 : Int32)))) (by rw [e34]; exact Ar37.1) (State.isArrayOf_alike hZ.alike Ar37.2.1) Ar37.2.2 hin37 hat37 (g := (mkF m 32 #[.val (.ref o1), .val (.ref o2), .val (.int (2 : Int32))] [(.int i9), (.ref o2), (.int (2 : Int32)), (.ref o3)])) rfl rfl (hb hby d8_32) t k) ?_
        obtain ⟨cl38, Ar38, q38, S38, N38n, H38, G38⟩ := id V25
        have hin38 : ¬ ((2 : Int32) < 0 ∨ cl38.slots.size ≤ ((2 : Int32)).toNatClampNeg) := inb_of S38 ⟨by decide, by decide⟩
        obtain ⟨T38, h38, X38, e38, W38, st38⟩ := stI X34 hx hZ e34 Ar38 (j := (2 : Int32)) hin38 (g := (mkF m 33 #[.val (.ref o1), .val (.ref o2), .val (.int (2 : Int32))] [(.int (List.getD [i2, i3, i4, i5] (i9).toNatClampNeg (0 : Int32))), (.int (2 : Int32)), (.ref o3)])) rfl rfl (hb hby d8_33)
        have N38 := Fr.snoc X38 N25 gn_o3
        have K38 : Keep h0 h38 [o3] := K25.wr W38 (Or.inl (List.mem_of_getElem? (i := 0) rfl))
        have V38 : Arv Z h38 o3 kc6 .int (3 : Int32) [(.int i7), (.int (List.getD [i2, i3, i4, i5] (i8).toNatClampNeg (0 : Int32))), (.int (List.getD [i2, i3, i4, i5] (i9).toNatClampNeg (0 : Int32)))] (.int (0 : Int32)) := Arv.set Ar38 q38 S38 N38n H38 G38 rfl W38 2 rfl (Nat.le_of_ble_eq_true rfl)
        refine step (T38.setTop (mkF m 34 #[.val (.ref o1), .val (.ref o2), .val (.int (2 : Int32))] [])) (fun t k => st38 t k) ?_
        refine step (T38.setTop (mkF m 37 #[.val (.ref o1), .val (.ref o2), .val (.int (3 : Int32))] [])) (fun t k => XS.iinc X38.here hx rfl (hb hby d8_34) rfl (l' := #[.val (.ref o1), .val (.ref o2), .val (.int (3 : Int32))]) rfl k) ?_
        refine step (T38.setTop (mkF m 2 #[.val (.ref o1), .val (.ref o2), .val (.int (3 : Int32))] [])) (fun t k => XS.goto X38.here hx rfl (pc0 := 37) (pc' := 2) rfl (hb hby d8_37) (by decide) (by decide) k) ?_
        refine step (T38.setTop (mkF m 3 #[.val (.ref o1), .val (.ref o2), .val (.int (3 : Int32))] [(.int (3 : Int32))])) (fun t k => XS.iloadN X38.here hx rfl (hb hby d8_2) rfl k) ?_
        refine step (T38.setTop (mkF m 4 #[.val (.ref o1), .val (.ref o2), .val (.int (3 : Int32))] [(.ref o1), (.int (3 : Int32))])) (fun t k => XS.aloadN X38.here hx rfl (hb hby d8_3) rfl rfl k) ?_
        have f39 := (f26.other W38 (Or.inl ne_o1_o3))
        obtain ⟨T40, X40, e40, st40⟩ := getF X38 hx hZ hown (host := "") (Or.inl (hw _ (List.mem_of_getElem? (i := 58) rfl))) Via.refl e38 f39 (g := (mkF m 4 #[.val (.ref o1), .val (.ref o2), .val (.int (3 : Int32))] [(.ref o1), (.int (3 : Int32))])) rfl rfl (hb hby d8_4)
        refine step (T40.setTop (mkF m 7 #[.val (.ref o1), .val (.ref o2), .val (.int (3 : Int32))] [(.int (3 : Int32)), (.int (3 : Int32))])) (fun t k => st40 t k) ?_
        refine step (T40.setTop (mkF m 40 #[.val (.ref o1), .val (.ref o2), .val (.int (3 : Int32))] [])) (fun t k => XS.icmpYes X40.here hx rfl (pc0 := 7) (pc' := 40) rfl (hb hby d8_7) rfl (flt (by decide : ¬ ((3 : Int32) < (3 : Int32)))).2.1 (by decide) (by decide) k) ?_
        refine fin (v := none) X40 (fun _ => rfl) ?_ (by decide) (by decide) (fun fs hr => X40.returnOut hx hret (hb hby d8_40) hr)
        show Q8_11 Z o1 o2 o3 kc1 i2 i3 i4 i5 kc6 i7 i8 i9 h0 n0 (none) T40.heap _
        rw [e40]
        exact ⟨_, _, _, rfl, N38, K38, (by simp only [if_pos hc17_4, if_neg hc17_8, if_neg hc17_31, if_true, if_false] <;> rfl), (by simp only [if_pos hc17_4, if_neg hc17_8, if_neg hc17_31, if_true, if_false] <;> rfl), (by simp only [if_pos hc17_4, if_neg hc17_8, if_neg hc17_31, if_true, if_false] <;> rfl), V38⟩
  · -- pc 17: i7 = (-1 : Int32) False
    refine step (T2.setTop (mkF m 20 #[.val (.ref o1), .val (.ref o2), .val (.int (0 : Int32))] [])) (fun t k => XS.icmpNo X2.here hx rfl (hb hby d8_17) rfl (feq hc17_4).1 k) ?_
    refine step (T2.setTop (mkF m 21 #[.val (.ref o1), .val (.ref o2), .val (.int (0 : Int32))] [(.ref o1)])) (fun t k => XS.aloadN X2.here hx rfl (hb hby d8_20) rfl rfl k) ?_
    obtain ⟨T41, X41, e41, st41⟩ := getF X2 hx hZ hown (host := "") (Or.inl (hw _ (List.mem_of_getElem? (i := 46) rfl))) Via.refl e2 Pm1 (g := (mkF m 21 #[.val (.ref o1), .val (.ref o2), .val (.int (0 : Int32))] [(.ref o1)])) rfl rfl (hb hby d8_21)
    refine step (T41.setTop (mkF m 24 #[.val (.ref o1), .val (.ref o2), .val (.int (0 : Int32))] [(.ref o3)])) (fun t k => st41 t k) ?_
    refine step (T41.setTop (mkF m 25 #[.val (.ref o1), .val (.ref o2), .val (.int (0 : Int32))] [(.int (0 : Int32)), (.ref o3)])) (fun t k => XS.iloadN X41.here hx rfl (hb hby d8_24) rfl k) ?_
    refine step (T41.setTop (mkF m 26 #[.val (.ref o1), .val (.ref o2), .val (.int (0 : Int32))] [(.ref o2), (.int (0 : Int32)), (.ref o3)])) (fun t k => XS.aloadN X41.here hx rfl (hb hby d8_25) rfl rfl k) ?_
    refine step (T41.setTop (mkF m 27 #[.val (.ref o1), .val (.ref o2), .val (.int (0 : Int32))] [(.ref o1), (.ref o2), (.int (0 : Int32)), (.ref o3)])) (fun t k => XS.aloadN X41.here hx rfl (hb hby d8_26) rfl rfl k) ?_
    obtain ⟨T42, X42, e42, st42⟩ := getF X41 hx hZ hown (host := "") (Or.inl (hw _ (List.mem_of_getElem? (i := 46) rfl))) Via.refl e41 Pm1 (g := (mkF m 27 #[.val (.ref o1), .val (.ref o2), .val (.int (0 : Int32))] [(.ref o1), (.ref o2), (.int (0 : Int32)), (.ref o3)])) rfl rfl (hb hby d8_27)
    refine step (T42.setTop (mkF m 30 #[.val (.ref o1), .val (.ref o2), .val (.int (0 : Int32))] [(.ref o3), (.ref o2), (.int (0 : Int32)), (.ref o3)])) (fun t k => st42 t k) ?_
    refine step (T42.setTop (mkF m 31 #[.val (.ref o1), .val (.ref o2), .val (.int (0 : Int32))] [(.int (0 : Int32)), (.ref o3), (.ref o2), (.int (0 : Int32)), (.ref o3)])) (fun t k => XS.iloadN X42.here hx rfl (hb hby d8_30) rfl k) ?_
    obtain ⟨cl43, Ar43, q43, S43, N43n, H43, G43⟩ := id Pm4
    have hin43 : ¬ ((0 : Int32) < 0 ∨ cl43.slots.size ≤ ((0 : Int32)).toNatClampNeg) := inb_of S43 ⟨by decide, by decide⟩
    have hat43 : cl43.slots[((0 : Int32)).toNatClampNeg]? = some (.int i7) := H43.at hin43 rfl
    refine step (T42.setTop (mkF m 32 #[.val (.ref o1), .val (.ref o2), .val (.int (0 : Int32))] [(.int i7), (.ref o2), (.int (0 : Int32)), (.ref o3)])) (fun t k => X42.iaload hx (j := (0 : Int32)) (v := (.int i7)) (by rw [e42]; exact Ar43.1) (State.isArrayOf_alike hZ.alike Ar43.2.1) Ar43.2.2 hin43 hat43 (g := (mkF m 31 #[.val (.ref o1), .val (.ref o2), .val (.int (0 : Int32))] [(.int (0 : Int32)), (.ref o3), (.ref o2), (.int (0 : Int32)), (.ref o3)])) rfl rfl (hb hby d8_31) t k) ?_
    obtain ⟨cl44, Ar44, q44, S44, N44n, H44, G44⟩ := id Pm3
    have hin44 : ¬ (i7 < 0 ∨ cl44.slots.size ≤ (i7).toNatClampNeg) := inb_of S44 ⟨own_ge hy11 hc17_4, hy12⟩
    have hat44 : cl44.slots[(i7).toNatClampNeg]? = some (.int (List.getD [i2, i3, i4, i5] (i7).toNatClampNeg (0 : Int32))) := H44.at hin44 (own_getD [i2, i3, i4, i5] _ _)
    refine step (T42.setTop (mkF m 33 #[.val (.ref o1), .val (.ref o2), .val (.int (0 : Int32))] [(.int (List.getD [i2, i3, i4, i5] (i7).toNatClampNeg (0 : Int32))), (.int (0 : Int32)), (.ref o3)])) (fun t k => X42.iaload hx (j := i7) (v := (.int (List.getD [i2, i3, i4, i5] (i7).toNatClampNeg (0 : Int32)))) (by rw [e42]; exact Ar44.1) (State.isArrayOf_alike hZ.alike Ar44.2.1) Ar44.2.2 hin44 hat44 (g := (mkF m 32 #[.val (.ref o1), .val (.ref o2), .val (.int (0 : Int32))] [(.int i7), (.ref o2), (.int (0 : Int32)), (.ref o3)])) rfl rfl (hb hby d8_32) t k) ?_
    obtain ⟨cl45, Ar45, q45, S45, N45n, H45, G45⟩ := id Pm4
    have hin45 : ¬ ((0 : Int32) < 0 ∨ cl45.slots.size ≤ ((0 : Int32)).toNatClampNeg) := inb_of S45 ⟨by decide, by decide⟩
    obtain ⟨T45, h45, X45, e45, W45, st45⟩ := stI X42 hx hZ e42 Ar45 (j := (0 : Int32)) hin45 (g := (mkF m 33 #[.val (.ref o1), .val (.ref o2), .val (.int (0 : Int32))] [(.int (List.getD [i2, i3, i4, i5] (i7).toNatClampNeg (0 : Int32))), (.int (0 : Int32)), (.ref o3)])) rfl rfl (hb hby d8_33)
    have N45 := Fr.snoc X45 N0 gn_o3
    have K45 : Keep h0 h45 [o3] := (Keep.refl h0 [o3]).wr W45 (Or.inl (List.mem_of_getElem? (i := 0) rfl))
    have V45 : Arv Z h45 o3 kc6 .int (3 : Int32) [(.int (List.getD [i2, i3, i4, i5] (i7).toNatClampNeg (0 : Int32))), (.int i8), (.int i9)] (.int (0 : Int32)) := Arv.set Ar45 q45 S45 N45n H45 G45 rfl W45 0 rfl (Nat.le_of_ble_eq_true rfl)
    refine step (T45.setTop (mkF m 34 #[.val (.ref o1), .val (.ref o2), .val (.int (0 : Int32))] [])) (fun t k => st45 t k) ?_
    refine step (T45.setTop (mkF m 37 #[.val (.ref o1), .val (.ref o2), .val (.int (1 : Int32))] [])) (fun t k => XS.iinc X45.here hx rfl (hb hby d8_34) rfl (l' := #[.val (.ref o1), .val (.ref o2), .val (.int (1 : Int32))]) rfl k) ?_
    refine step (T45.setTop (mkF m 2 #[.val (.ref o1), .val (.ref o2), .val (.int (1 : Int32))] [])) (fun t k => XS.goto X45.here hx rfl (pc0 := 37) (pc' := 2) rfl (hb hby d8_37) (by decide) (by decide) k) ?_
    refine step (T45.setTop (mkF m 3 #[.val (.ref o1), .val (.ref o2), .val (.int (1 : Int32))] [(.int (1 : Int32))])) (fun t k => XS.iloadN X45.here hx rfl (hb hby d8_2) rfl k) ?_
    refine step (T45.setTop (mkF m 4 #[.val (.ref o1), .val (.ref o2), .val (.int (1 : Int32))] [(.ref o1), (.int (1 : Int32))])) (fun t k => XS.aloadN X45.here hx rfl (hb hby d8_3) rfl rfl k) ?_
    have f46 := (Pm2.other W45 (Or.inl ne_o1_o3))
    obtain ⟨T47, X47, e47, st47⟩ := getF X45 hx hZ hown (host := "") (Or.inl (hw _ (List.mem_of_getElem? (i := 58) rfl))) Via.refl e45 f46 (g := (mkF m 4 #[.val (.ref o1), .val (.ref o2), .val (.int (1 : Int32))] [(.ref o1), (.int (1 : Int32))])) rfl rfl (hb hby d8_4)
    refine step (T47.setTop (mkF m 7 #[.val (.ref o1), .val (.ref o2), .val (.int (1 : Int32))] [(.int (3 : Int32)), (.int (1 : Int32))])) (fun t k => st47 t k) ?_
    refine step (T47.setTop (mkF m 10 #[.val (.ref o1), .val (.ref o2), .val (.int (1 : Int32))] [])) (fun t k => XS.icmpNo X47.here hx rfl (hb hby d8_7) rfl (tlt (by decide : (1 : Int32) < (3 : Int32))).2.1 k) ?_
    refine step (T47.setTop (mkF m 11 #[.val (.ref o1), .val (.ref o2), .val (.int (1 : Int32))] [(.ref o1)])) (fun t k => XS.aloadN X47.here hx rfl (hb hby d8_10) rfl rfl k) ?_
    have f48 := (Pm1.other W45 (Or.inl ne_o1_o3))
    obtain ⟨T49, X49, e49, st49⟩ := getF X47 hx hZ hown (host := "") (Or.inl (hw _ (List.mem_of_getElem? (i := 46) rfl))) Via.refl e47 f48 (g := (mkF m 11 #[.val (.ref o1), .val (.ref o2), .val (.int (1 : Int32))] [(.ref o1)])) rfl rfl (hb hby d8_11)
    refine step (T49.setTop (mkF m 14 #[.val (.ref o1), .val (.ref o2), .val (.int (1 : Int32))] [(.ref o3)])) (fun t k => st49 t k) ?_
    refine step (T49.setTop (mkF m 15 #[.val (.ref o1), .val (.ref o2), .val (.int (1 : Int32))] [(.int (1 : Int32)), (.ref o3)])) (fun t k => XS.iloadN X49.here hx rfl (hb hby d8_14) rfl k) ?_
    obtain ⟨cl50, Ar50, q50, S50, N50n, H50, G50⟩ := id V45
    have hin50 : ¬ ((1 : Int32) < 0 ∨ cl50.slots.size ≤ ((1 : Int32)).toNatClampNeg) := inb_of S50 ⟨by decide, by decide⟩
    have hat50 : cl50.slots[((1 : Int32)).toNatClampNeg]? = some (.int i8) := H50.at hin50 rfl
    refine step (T49.setTop (mkF m 16 #[.val (.ref o1), .val (.ref o2), .val (.int (1 : Int32))] [(.int i8)])) (fun t k => X49.iaload hx (j := (1 : Int32)) (v := (.int i8)) (by rw [e49]; exact Ar50.1) (State.isArrayOf_alike hZ.alike Ar50.2.1) Ar50.2.2 hin50 hat50 (g := (mkF m 15 #[.val (.ref o1), .val (.ref o2), .val (.int (1 : Int32))] [(.int (1 : Int32)), (.ref o3)])) rfl rfl (hb hby d8_15) t k) ?_
    refine step (T49.setTop (mkF m 17 #[.val (.ref o1), .val (.ref o2), .val (.int (1 : Int32))] [(.int (-1 : Int32)), (.int i8)])) (fun t k => XS.iconst X49.here hx rfl (hb hby d8_16) k) ?_
    by_cases hc17_51 : i8 = (-1 : Int32)
    · -- pc 17: i8 = (-1 : Int32) True
      refine step (T49.setTop (mkF m 34 #[.val (.ref o1), .val (.ref o2), .val (.int (1 : Int32))] [])) (fun t k => XS.icmpYes X49.here hx rfl (pc0 := 17) (pc' := 34) rfl (hb hby d8_17) rfl (teq hc17_51).1 (by decide) (by decide) k) ?_
      refine step (T49.setTop (mkF m 37 #[.val (.ref o1), .val (.ref o2), .val (.int (2 : Int32))] [])) (fun t k => XS.iinc X49.here hx rfl (hb hby d8_34) rfl (l' := #[.val (.ref o1), .val (.ref o2), .val (.int (2 : Int32))]) rfl k) ?_
      refine step (T49.setTop (mkF m 2 #[.val (.ref o1), .val (.ref o2), .val (.int (2 : Int32))] [])) (fun t k => XS.goto X49.here hx rfl (pc0 := 37) (pc' := 2) rfl (hb hby d8_37) (by decide) (by decide) k) ?_
      refine step (T49.setTop (mkF m 3 #[.val (.ref o1), .val (.ref o2), .val (.int (2 : Int32))] [(.int (2 : Int32))])) (fun t k => XS.iloadN X49.here hx rfl (hb hby d8_2) rfl k) ?_
      refine step (T49.setTop (mkF m 4 #[.val (.ref o1), .val (.ref o2), .val (.int (2 : Int32))] [(.ref o1), (.int (2 : Int32))])) (fun t k => XS.aloadN X49.here hx rfl (hb hby d8_3) rfl rfl k) ?_
      obtain ⟨T52, X52, e52, st52⟩ := getF X49 hx hZ hown (host := "") (Or.inl (hw _ (List.mem_of_getElem? (i := 58) rfl))) Via.refl e49 f46 (g := (mkF m 4 #[.val (.ref o1), .val (.ref o2), .val (.int (2 : Int32))] [(.ref o1), (.int (2 : Int32))])) rfl rfl (hb hby d8_4)
      refine step (T52.setTop (mkF m 7 #[.val (.ref o1), .val (.ref o2), .val (.int (2 : Int32))] [(.int (3 : Int32)), (.int (2 : Int32))])) (fun t k => st52 t k) ?_
      refine step (T52.setTop (mkF m 10 #[.val (.ref o1), .val (.ref o2), .val (.int (2 : Int32))] [])) (fun t k => XS.icmpNo X52.here hx rfl (hb hby d8_7) rfl (tlt (by decide : (2 : Int32) < (3 : Int32))).2.1 k) ?_
      refine step (T52.setTop (mkF m 11 #[.val (.ref o1), .val (.ref o2), .val (.int (2 : Int32))] [(.ref o1)])) (fun t k => XS.aloadN X52.here hx rfl (hb hby d8_10) rfl rfl k) ?_
      obtain ⟨T53, X53, e53, st53⟩ := getF X52 hx hZ hown (host := "") (Or.inl (hw _ (List.mem_of_getElem? (i := 46) rfl))) Via.refl e52 f48 (g := (mkF m 11 #[.val (.ref o1), .val (.ref o2), .val (.int (2 : Int32))] [(.ref o1)])) rfl rfl (hb hby d8_11)
      refine step (T53.setTop (mkF m 14 #[.val (.ref o1), .val (.ref o2), .val (.int (2 : Int32))] [(.ref o3)])) (fun t k => st53 t k) ?_
      refine step (T53.setTop (mkF m 15 #[.val (.ref o1), .val (.ref o2), .val (.int (2 : Int32))] [(.int (2 : Int32)), (.ref o3)])) (fun t k => XS.iloadN X53.here hx rfl (hb hby d8_14) rfl k) ?_
      obtain ⟨cl54, Ar54, q54, S54, N54n, H54, G54⟩ := id V45
      have hin54 : ¬ ((2 : Int32) < 0 ∨ cl54.slots.size ≤ ((2 : Int32)).toNatClampNeg) := inb_of S54 ⟨by decide, by decide⟩
      have hat54 : cl54.slots[((2 : Int32)).toNatClampNeg]? = some (.int i9) := H54.at hin54 rfl
      refine step (T53.setTop (mkF m 16 #[.val (.ref o1), .val (.ref o2), .val (.int (2 : Int32))] [(.int i9)])) (fun t k => X53.iaload hx (j := (2 : Int32)) (v := (.int i9)) (by rw [e53]; exact Ar54.1) (State.isArrayOf_alike hZ.alike Ar54.2.1) Ar54.2.2 hin54 hat54 (g := (mkF m 15 #[.val (.ref o1), .val (.ref o2), .val (.int (2 : Int32))] [(.int (2 : Int32)), (.ref o3)])) rfl rfl (hb hby d8_15) t k) ?_
      refine step (T53.setTop (mkF m 17 #[.val (.ref o1), .val (.ref o2), .val (.int (2 : Int32))] [(.int (-1 : Int32)), (.int i9)])) (fun t k => XS.iconst X53.here hx rfl (hb hby d8_16) k) ?_
      by_cases hc17_55 : i9 = (-1 : Int32)
      · -- pc 17: i9 = (-1 : Int32) True
        refine step (T53.setTop (mkF m 34 #[.val (.ref o1), .val (.ref o2), .val (.int (2 : Int32))] [])) (fun t k => XS.icmpYes X53.here hx rfl (pc0 := 17) (pc' := 34) rfl (hb hby d8_17) rfl (teq hc17_55).1 (by decide) (by decide) k) ?_
        refine step (T53.setTop (mkF m 37 #[.val (.ref o1), .val (.ref o2), .val (.int (3 : Int32))] [])) (fun t k => XS.iinc X53.here hx rfl (hb hby d8_34) rfl (l' := #[.val (.ref o1), .val (.ref o2), .val (.int (3 : Int32))]) rfl k) ?_
        refine step (T53.setTop (mkF m 2 #[.val (.ref o1), .val (.ref o2), .val (.int (3 : Int32))] [])) (fun t k => XS.goto X53.here hx rfl (pc0 := 37) (pc' := 2) rfl (hb hby d8_37) (by decide) (by decide) k) ?_
        refine step (T53.setTop (mkF m 3 #[.val (.ref o1), .val (.ref o2), .val (.int (3 : Int32))] [(.int (3 : Int32))])) (fun t k => XS.iloadN X53.here hx rfl (hb hby d8_2) rfl k) ?_
        refine step (T53.setTop (mkF m 4 #[.val (.ref o1), .val (.ref o2), .val (.int (3 : Int32))] [(.ref o1), (.int (3 : Int32))])) (fun t k => XS.aloadN X53.here hx rfl (hb hby d8_3) rfl rfl k) ?_
        obtain ⟨T56, X56, e56, st56⟩ := getF X53 hx hZ hown (host := "") (Or.inl (hw _ (List.mem_of_getElem? (i := 58) rfl))) Via.refl e53 f46 (g := (mkF m 4 #[.val (.ref o1), .val (.ref o2), .val (.int (3 : Int32))] [(.ref o1), (.int (3 : Int32))])) rfl rfl (hb hby d8_4)
        refine step (T56.setTop (mkF m 7 #[.val (.ref o1), .val (.ref o2), .val (.int (3 : Int32))] [(.int (3 : Int32)), (.int (3 : Int32))])) (fun t k => st56 t k) ?_
        refine step (T56.setTop (mkF m 40 #[.val (.ref o1), .val (.ref o2), .val (.int (3 : Int32))] [])) (fun t k => XS.icmpYes X56.here hx rfl (pc0 := 7) (pc' := 40) rfl (hb hby d8_7) rfl (flt (by decide : ¬ ((3 : Int32) < (3 : Int32)))).2.1 (by decide) (by decide) k) ?_
        refine fin (v := none) X56 (fun _ => rfl) ?_ (by decide) (by decide) (fun fs hr => X56.returnOut hx hret (hb hby d8_40) hr)
        show Q8_11 Z o1 o2 o3 kc1 i2 i3 i4 i5 kc6 i7 i8 i9 h0 n0 (none) T56.heap _
        rw [e56]
        exact ⟨_, _, _, rfl, N45, K45, (by simp only [if_neg hc17_4, if_pos hc17_51, if_pos hc17_55, if_true, if_false] <;> rfl), (by simp only [if_neg hc17_4, if_pos hc17_51, if_pos hc17_55, if_true, if_false] <;> rfl), (by simp only [if_neg hc17_4, if_pos hc17_51, if_pos hc17_55, if_true, if_false] <;> rfl), V45⟩
      · -- pc 17: i9 = (-1 : Int32) False
        refine step (T53.setTop (mkF m 20 #[.val (.ref o1), .val (.ref o2), .val (.int (2 : Int32))] [])) (fun t k => XS.icmpNo X53.here hx rfl (hb hby d8_17) rfl (feq hc17_55).1 k) ?_
        refine step (T53.setTop (mkF m 21 #[.val (.ref o1), .val (.ref o2), .val (.int (2 : Int32))] [(.ref o1)])) (fun t k => XS.aloadN X53.here hx rfl (hb hby d8_20) rfl rfl k) ?_
        obtain ⟨T57, X57, e57, st57⟩ := getF X53 hx hZ hown (host := "") (Or.inl (hw _ (List.mem_of_getElem? (i := 46) rfl))) Via.refl e53 f48 (g := (mkF m 21 #[.val (.ref o1), .val (.ref o2), .val (.int (2 : Int32))] [(.ref o1)])) rfl rfl (hb hby d8_21)
        refine step (T57.setTop (mkF m 24 #[.val (.ref o1), .val (.ref o2), .val (.int (2 : Int32))] [(.ref o3)])) (fun t k => st57 t k) ?_
        refine step (T57.setTop (mkF m 25 #[.val (.ref o1), .val (.ref o2), .val (.int (2 : Int32))] [(.int (2 : Int32)), (.ref o3)])) (fun t k => XS.iloadN X57.here hx rfl (hb hby d8_24) rfl k) ?_
        refine step (T57.setTop (mkF m 26 #[.val (.ref o1), .val (.ref o2), .val (.int (2 : Int32))] [(.ref o2), (.int (2 : Int32)), (.ref o3)])) (fun t k => XS.aloadN X57.here hx rfl (hb hby d8_25) rfl rfl k) ?_
        refine step (T57.setTop (mkF m 27 #[.val (.ref o1), .val (.ref o2), .val (.int (2 : Int32))] [(.ref o1), (.ref o2), (.int (2 : Int32)), (.ref o3)])) (fun t k => XS.aloadN X57.here hx rfl (hb hby d8_26) rfl rfl k) ?_
        obtain ⟨T58, X58, e58, st58⟩ := getF X57 hx hZ hown (host := "") (Or.inl (hw _ (List.mem_of_getElem? (i := 46) rfl))) Via.refl e57 f48 (g := (mkF m 27 #[.val (.ref o1), .val (.ref o2), .val (.int (2 : Int32))] [(.ref o1), (.ref o2), (.int (2 : Int32)), (.ref o3)])) rfl rfl (hb hby d8_27)
        refine step (T58.setTop (mkF m 30 #[.val (.ref o1), .val (.ref o2), .val (.int (2 : Int32))] [(.ref o3), (.ref o2), (.int (2 : Int32)), (.ref o3)])) (fun t k => st58 t k) ?_
        refine step (T58.setTop (mkF m 31 #[.val (.ref o1), .val (.ref o2), .val (.int (2 : Int32))] [(.int (2 : Int32)), (.ref o3), (.ref o2), (.int (2 : Int32)), (.ref o3)])) (fun t k => XS.iloadN X58.here hx rfl (hb hby d8_30) rfl k) ?_
        obtain ⟨cl59, Ar59, q59, S59, N59n, H59, G59⟩ := id V45
        have hin59 : ¬ ((2 : Int32) < 0 ∨ cl59.slots.size ≤ ((2 : Int32)).toNatClampNeg) := inb_of S59 ⟨by decide, by decide⟩
        have hat59 : cl59.slots[((2 : Int32)).toNatClampNeg]? = some (.int i9) := H59.at hin59 rfl
        refine step (T58.setTop (mkF m 32 #[.val (.ref o1), .val (.ref o2), .val (.int (2 : Int32))] [(.int i9), (.ref o2), (.int (2 : Int32)), (.ref o3)])) (fun t k => X58.iaload hx (j := (2 : Int32)) (v := (.int i9)) (by rw [e58]; exact Ar59.1) (State.isArrayOf_alike hZ.alike Ar59.2.1) Ar59.2.2 hin59 hat59 (g := (mkF m 31 #[.val (.ref o1), .val (.ref o2), .val (.int (2 : Int32))] [(.int (2 : Int32)), (.ref o3), (.ref o2), (.int (2 : Int32)), (.ref o3)])) rfl rfl (hb hby d8_31) t k) ?_
        have f60 := (Pm3.other W45 ne_o2_o3)
        obtain ⟨cl61, Ar61, q61, S61, N61n, H61, G61⟩ := id f60
        have hin61 : ¬ (i9 < 0 ∨ cl61.slots.size ≤ (i9).toNatClampNeg) := inb_of S61 ⟨own_ge hy15 hc17_55, hy16⟩
        have hat61 : cl61.slots[(i9).toNatClampNeg]? = some (.int (List.getD [i2, i3, i4, i5] (i9).toNatClampNeg (0 : Int32))) := H61.at hin61 (own_getD [i2, i3, i4, i5] _ _)
        refine step (T58.setTop (mkF m 33 #[.val (.ref o1), .val (.ref o2), .val (.int (2 : Int32))] [(.int (List.getD [i2, i3, i4, i5] (i9).toNatClampNeg (0 : Int32))), (.int (2 : Int32)), (.ref o3)])) (fun t k => X58.iaload hx (j := i9) (v := (.int (List.getD [i2, i3, i4, i5] (i9).toNatClampNeg (0 : Int32)))) (by rw [e58]; exact Ar61.1) (State.isArrayOf_alike hZ.alike Ar61.2.1) Ar61.2.2 hin61 hat61 (g := (mkF m 32 #[.val (.ref o1), .val (.ref o2), .val (.int (2 : Int32))] [(.int i9), (.ref o2), (.int (2 : Int32)), (.ref o3)])) rfl rfl (hb hby d8_32) t k) ?_
        obtain ⟨cl62, Ar62, q62, S62, N62n, H62, G62⟩ := id V45
        have hin62 : ¬ ((2 : Int32) < 0 ∨ cl62.slots.size ≤ ((2 : Int32)).toNatClampNeg) := inb_of S62 ⟨by decide, by decide⟩
        obtain ⟨T62, h62, X62, e62, W62, st62⟩ := stI X58 hx hZ e58 Ar62 (j := (2 : Int32)) hin62 (g := (mkF m 33 #[.val (.ref o1), .val (.ref o2), .val (.int (2 : Int32))] [(.int (List.getD [i2, i3, i4, i5] (i9).toNatClampNeg (0 : Int32))), (.int (2 : Int32)), (.ref o3)])) rfl rfl (hb hby d8_33)
        have N62 := Fr.snoc X62 N45 gn_o3
        have K62 : Keep h0 h62 [o3] := K45.wr W62 (Or.inl (List.mem_of_getElem? (i := 0) rfl))
        have V62 : Arv Z h62 o3 kc6 .int (3 : Int32) [(.int (List.getD [i2, i3, i4, i5] (i7).toNatClampNeg (0 : Int32))), (.int i8), (.int (List.getD [i2, i3, i4, i5] (i9).toNatClampNeg (0 : Int32)))] (.int (0 : Int32)) := Arv.set Ar62 q62 S62 N62n H62 G62 rfl W62 2 rfl (Nat.le_of_ble_eq_true rfl)
        refine step (T62.setTop (mkF m 34 #[.val (.ref o1), .val (.ref o2), .val (.int (2 : Int32))] [])) (fun t k => st62 t k) ?_
        refine step (T62.setTop (mkF m 37 #[.val (.ref o1), .val (.ref o2), .val (.int (3 : Int32))] [])) (fun t k => XS.iinc X62.here hx rfl (hb hby d8_34) rfl (l' := #[.val (.ref o1), .val (.ref o2), .val (.int (3 : Int32))]) rfl k) ?_
        refine step (T62.setTop (mkF m 2 #[.val (.ref o1), .val (.ref o2), .val (.int (3 : Int32))] [])) (fun t k => XS.goto X62.here hx rfl (pc0 := 37) (pc' := 2) rfl (hb hby d8_37) (by decide) (by decide) k) ?_
        refine step (T62.setTop (mkF m 3 #[.val (.ref o1), .val (.ref o2), .val (.int (3 : Int32))] [(.int (3 : Int32))])) (fun t k => XS.iloadN X62.here hx rfl (hb hby d8_2) rfl k) ?_
        refine step (T62.setTop (mkF m 4 #[.val (.ref o1), .val (.ref o2), .val (.int (3 : Int32))] [(.ref o1), (.int (3 : Int32))])) (fun t k => XS.aloadN X62.here hx rfl (hb hby d8_3) rfl rfl k) ?_
        have f63 := (f46.other W62 (Or.inl ne_o1_o3))
        obtain ⟨T64, X64, e64, st64⟩ := getF X62 hx hZ hown (host := "") (Or.inl (hw _ (List.mem_of_getElem? (i := 58) rfl))) Via.refl e62 f63 (g := (mkF m 4 #[.val (.ref o1), .val (.ref o2), .val (.int (3 : Int32))] [(.ref o1), (.int (3 : Int32))])) rfl rfl (hb hby d8_4)
        refine step (T64.setTop (mkF m 7 #[.val (.ref o1), .val (.ref o2), .val (.int (3 : Int32))] [(.int (3 : Int32)), (.int (3 : Int32))])) (fun t k => st64 t k) ?_
        refine step (T64.setTop (mkF m 40 #[.val (.ref o1), .val (.ref o2), .val (.int (3 : Int32))] [])) (fun t k => XS.icmpYes X64.here hx rfl (pc0 := 7) (pc' := 40) rfl (hb hby d8_7) rfl (flt (by decide : ¬ ((3 : Int32) < (3 : Int32)))).2.1 (by decide) (by decide) k) ?_
        refine fin (v := none) X64 (fun _ => rfl) ?_ (by decide) (by decide) (fun fs hr => X64.returnOut hx hret (hb hby d8_40) hr)
        show Q8_11 Z o1 o2 o3 kc1 i2 i3 i4 i5 kc6 i7 i8 i9 h0 n0 (none) T64.heap _
        rw [e64]
        exact ⟨_, _, _, rfl, N62, K62, (by simp only [if_neg hc17_4, if_pos hc17_51, if_neg hc17_55, if_true, if_false] <;> rfl), (by simp only [if_neg hc17_4, if_pos hc17_51, if_neg hc17_55, if_true, if_false] <;> rfl), (by simp only [if_neg hc17_4, if_pos hc17_51, if_neg hc17_55, if_true, if_false] <;> rfl), V62⟩
    · -- pc 17: i8 = (-1 : Int32) False
      refine step (T49.setTop (mkF m 20 #[.val (.ref o1), .val (.ref o2), .val (.int (1 : Int32))] [])) (fun t k => XS.icmpNo X49.here hx rfl (hb hby d8_17) rfl (feq hc17_51).1 k) ?_
      refine step (T49.setTop (mkF m 21 #[.val (.ref o1), .val (.ref o2), .val (.int (1 : Int32))] [(.ref o1)])) (fun t k => XS.aloadN X49.here hx rfl (hb hby d8_20) rfl rfl k) ?_
      obtain ⟨T65, X65, e65, st65⟩ := getF X49 hx hZ hown (host := "") (Or.inl (hw _ (List.mem_of_getElem? (i := 46) rfl))) Via.refl e49 f48 (g := (mkF m 21 #[.val (.ref o1), .val (.ref o2), .val (.int (1 : Int32))] [(.ref o1)])) rfl rfl (hb hby d8_21)
      refine step (T65.setTop (mkF m 24 #[.val (.ref o1), .val (.ref o2), .val (.int (1 : Int32))] [(.ref o3)])) (fun t k => st65 t k) ?_
      refine step (T65.setTop (mkF m 25 #[.val (.ref o1), .val (.ref o2), .val (.int (1 : Int32))] [(.int (1 : Int32)), (.ref o3)])) (fun t k => XS.iloadN X65.here hx rfl (hb hby d8_24) rfl k) ?_
      refine step (T65.setTop (mkF m 26 #[.val (.ref o1), .val (.ref o2), .val (.int (1 : Int32))] [(.ref o2), (.int (1 : Int32)), (.ref o3)])) (fun t k => XS.aloadN X65.here hx rfl (hb hby d8_25) rfl rfl k) ?_
      refine step (T65.setTop (mkF m 27 #[.val (.ref o1), .val (.ref o2), .val (.int (1 : Int32))] [(.ref o1), (.ref o2), (.int (1 : Int32)), (.ref o3)])) (fun t k => XS.aloadN X65.here hx rfl (hb hby d8_26) rfl rfl k) ?_
      obtain ⟨T66, X66, e66, st66⟩ := getF X65 hx hZ hown (host := "") (Or.inl (hw _ (List.mem_of_getElem? (i := 46) rfl))) Via.refl e65 f48 (g := (mkF m 27 #[.val (.ref o1), .val (.ref o2), .val (.int (1 : Int32))] [(.ref o1), (.ref o2), (.int (1 : Int32)), (.ref o3)])) rfl rfl (hb hby d8_27)
      refine step (T66.setTop (mkF m 30 #[.val (.ref o1), .val (.ref o2), .val (.int (1 : Int32))] [(.ref o3), (.ref o2), (.int (1 : Int32)), (.ref o3)])) (fun t k => st66 t k) ?_
      refine step (T66.setTop (mkF m 31 #[.val (.ref o1), .val (.ref o2), .val (.int (1 : Int32))] [(.int (1 : Int32)), (.ref o3), (.ref o2), (.int (1 : Int32)), (.ref o3)])) (fun t k => XS.iloadN X66.here hx rfl (hb hby d8_30) rfl k) ?_
      obtain ⟨cl67, Ar67, q67, S67, N67n, H67, G67⟩ := id V45
      have hin67 : ¬ ((1 : Int32) < 0 ∨ cl67.slots.size ≤ ((1 : Int32)).toNatClampNeg) := inb_of S67 ⟨by decide, by decide⟩
      have hat67 : cl67.slots[((1 : Int32)).toNatClampNeg]? = some (.int i8) := H67.at hin67 rfl
      refine step (T66.setTop (mkF m 32 #[.val (.ref o1), .val (.ref o2), .val (.int (1 : Int32))] [(.int i8), (.ref o2), (.int (1 : Int32)), (.ref o3)])) (fun t k => X66.iaload hx (j := (1 : Int32)) (v := (.int i8)) (by rw [e66]; exact Ar67.1) (State.isArrayOf_alike hZ.alike Ar67.2.1) Ar67.2.2 hin67 hat67 (g := (mkF m 31 #[.val (.ref o1), .val (.ref o2), .val (.int (1 : Int32))] [(.int (1 : Int32)), (.ref o3), (.ref o2), (.int (1 : Int32)), (.ref o3)])) rfl rfl (hb hby d8_31) t k) ?_
      have f68 := (Pm3.other W45 ne_o2_o3)
      obtain ⟨cl69, Ar69, q69, S69, N69n, H69, G69⟩ := id f68
      have hin69 : ¬ (i8 < 0 ∨ cl69.slots.size ≤ (i8).toNatClampNeg) := inb_of S69 ⟨own_ge hy13 hc17_51, hy14⟩
      have hat69 : cl69.slots[(i8).toNatClampNeg]? = some (.int (List.getD [i2, i3, i4, i5] (i8).toNatClampNeg (0 : Int32))) := H69.at hin69 (own_getD [i2, i3, i4, i5] _ _)
      refine step (T66.setTop (mkF m 33 #[.val (.ref o1), .val (.ref o2), .val (.int (1 : Int32))] [(.int (List.getD [i2, i3, i4, i5] (i8).toNatClampNeg (0 : Int32))), (.int (1 : Int32)), (.ref o3)])) (fun t k => X66.iaload hx (j := i8) (v := (.int (List.getD [i2, i3, i4, i5] (i8).toNatClampNeg (0 : Int32)))) (by rw [e66]; exact Ar69.1) (State.isArrayOf_alike hZ.alike Ar69.2.1) Ar69.2.2 hin69 hat69 (g := (mkF m 32 #[.val (.ref o1), .val (.ref o2), .val (.int (1 : Int32))] [(.int i8), (.ref o2), (.int (1 : Int32)), (.ref o3)])) rfl rfl (hb hby d8_32) t k) ?_
      obtain ⟨cl70, Ar70, q70, S70, N70n, H70, G70⟩ := id V45
      have hin70 : ¬ ((1 : Int32) < 0 ∨ cl70.slots.size ≤ ((1 : Int32)).toNatClampNeg) := inb_of S70 ⟨by decide, by decide⟩
      obtain ⟨T70, h70, X70, e70, W70, st70⟩ := stI X66 hx hZ e66 Ar70 (j := (1 : Int32)) hin70 (g := (mkF m 33 #[.val (.ref o1), .val (.ref o2), .val (.int (1 : Int32))] [(.int (List.getD [i2, i3, i4, i5] (i8).toNatClampNeg (0 : Int32))), (.int (1 : Int32)), (.ref o3)])) rfl rfl (hb hby d8_33)
      have N70 := Fr.snoc X70 N45 gn_o3
      have K70 : Keep h0 h70 [o3] := K45.wr W70 (Or.inl (List.mem_of_getElem? (i := 0) rfl))
      have V70 : Arv Z h70 o3 kc6 .int (3 : Int32) [(.int (List.getD [i2, i3, i4, i5] (i7).toNatClampNeg (0 : Int32))), (.int (List.getD [i2, i3, i4, i5] (i8).toNatClampNeg (0 : Int32))), (.int i9)] (.int (0 : Int32)) := Arv.set Ar70 q70 S70 N70n H70 G70 rfl W70 1 rfl (Nat.le_of_ble_eq_true rfl)
      refine step (T70.setTop (mkF m 34 #[.val (.ref o1), .val (.ref o2), .val (.int (1 : Int32))] [])) (fun t k => st70 t k) ?_
      refine step (T70.setTop (mkF m 37 #[.val (.ref o1), .val (.ref o2), .val (.int (2 : Int32))] [])) (fun t k => XS.iinc X70.here hx rfl (hb hby d8_34) rfl (l' := #[.val (.ref o1), .val (.ref o2), .val (.int (2 : Int32))]) rfl k) ?_
      refine step (T70.setTop (mkF m 2 #[.val (.ref o1), .val (.ref o2), .val (.int (2 : Int32))] [])) (fun t k => XS.goto X70.here hx rfl (pc0 := 37) (pc' := 2) rfl (hb hby d8_37) (by decide) (by decide) k) ?_
      refine step (T70.setTop (mkF m 3 #[.val (.ref o1), .val (.ref o2), .val (.int (2 : Int32))] [(.int (2 : Int32))])) (fun t k => XS.iloadN X70.here hx rfl (hb hby d8_2) rfl k) ?_
      refine step (T70.setTop (mkF m 4 #[.val (.ref o1), .val (.ref o2), .val (.int (2 : Int32))] [(.ref o1), (.int (2 : Int32))])) (fun t k => XS.aloadN X70.here hx rfl (hb hby d8_3) rfl rfl k) ?_
      have f71 := (f46.other W70 (Or.inl ne_o1_o3))
      obtain ⟨T72, X72, e72, st72⟩ := getF X70 hx hZ hown (host := "") (Or.inl (hw _ (List.mem_of_getElem? (i := 58) rfl))) Via.refl e70 f71 (g := (mkF m 4 #[.val (.ref o1), .val (.ref o2), .val (.int (2 : Int32))] [(.ref o1), (.int (2 : Int32))])) rfl rfl (hb hby d8_4)
      refine step (T72.setTop (mkF m 7 #[.val (.ref o1), .val (.ref o2), .val (.int (2 : Int32))] [(.int (3 : Int32)), (.int (2 : Int32))])) (fun t k => st72 t k) ?_
      refine step (T72.setTop (mkF m 10 #[.val (.ref o1), .val (.ref o2), .val (.int (2 : Int32))] [])) (fun t k => XS.icmpNo X72.here hx rfl (hb hby d8_7) rfl (tlt (by decide : (2 : Int32) < (3 : Int32))).2.1 k) ?_
      refine step (T72.setTop (mkF m 11 #[.val (.ref o1), .val (.ref o2), .val (.int (2 : Int32))] [(.ref o1)])) (fun t k => XS.aloadN X72.here hx rfl (hb hby d8_10) rfl rfl k) ?_
      have f73 := (f48.other W70 (Or.inl ne_o1_o3))
      obtain ⟨T74, X74, e74, st74⟩ := getF X72 hx hZ hown (host := "") (Or.inl (hw _ (List.mem_of_getElem? (i := 46) rfl))) Via.refl e72 f73 (g := (mkF m 11 #[.val (.ref o1), .val (.ref o2), .val (.int (2 : Int32))] [(.ref o1)])) rfl rfl (hb hby d8_11)
      refine step (T74.setTop (mkF m 14 #[.val (.ref o1), .val (.ref o2), .val (.int (2 : Int32))] [(.ref o3)])) (fun t k => st74 t k) ?_
      refine step (T74.setTop (mkF m 15 #[.val (.ref o1), .val (.ref o2), .val (.int (2 : Int32))] [(.int (2 : Int32)), (.ref o3)])) (fun t k => XS.iloadN X74.here hx rfl (hb hby d8_14) rfl k) ?_
      obtain ⟨cl75, Ar75, q75, S75, N75n, H75, G75⟩ := id V70
      have hin75 : ¬ ((2 : Int32) < 0 ∨ cl75.slots.size ≤ ((2 : Int32)).toNatClampNeg) := inb_of S75 ⟨by decide, by decide⟩
      have hat75 : cl75.slots[((2 : Int32)).toNatClampNeg]? = some (.int i9) := H75.at hin75 rfl
      refine step (T74.setTop (mkF m 16 #[.val (.ref o1), .val (.ref o2), .val (.int (2 : Int32))] [(.int i9)])) (fun t k => X74.iaload hx (j := (2 : Int32)) (v := (.int i9)) (by rw [e74]; exact Ar75.1) (State.isArrayOf_alike hZ.alike Ar75.2.1) Ar75.2.2 hin75 hat75 (g := (mkF m 15 #[.val (.ref o1), .val (.ref o2), .val (.int (2 : Int32))] [(.int (2 : Int32)), (.ref o3)])) rfl rfl (hb hby d8_15) t k) ?_
      refine step (T74.setTop (mkF m 17 #[.val (.ref o1), .val (.ref o2), .val (.int (2 : Int32))] [(.int (-1 : Int32)), (.int i9)])) (fun t k => XS.iconst X74.here hx rfl (hb hby d8_16) k) ?_
      by_cases hc17_76 : i9 = (-1 : Int32)
      · -- pc 17: i9 = (-1 : Int32) True
        refine step (T74.setTop (mkF m 34 #[.val (.ref o1), .val (.ref o2), .val (.int (2 : Int32))] [])) (fun t k => XS.icmpYes X74.here hx rfl (pc0 := 17) (pc' := 34) rfl (hb hby d8_17) rfl (teq hc17_76).1 (by decide) (by decide) k) ?_
        refine step (T74.setTop (mkF m 37 #[.val (.ref o1), .val (.ref o2), .val (.int (3 : Int32))] [])) (fun t k => XS.iinc X74.here hx rfl (hb hby d8_34) rfl (l' := #[.val (.ref o1), .val (.ref o2), .val (.int (3 : Int32))]) rfl k) ?_
        refine step (T74.setTop (mkF m 2 #[.val (.ref o1), .val (.ref o2), .val (.int (3 : Int32))] [])) (fun t k => XS.goto X74.here hx rfl (pc0 := 37) (pc' := 2) rfl (hb hby d8_37) (by decide) (by decide) k) ?_
        refine step (T74.setTop (mkF m 3 #[.val (.ref o1), .val (.ref o2), .val (.int (3 : Int32))] [(.int (3 : Int32))])) (fun t k => XS.iloadN X74.here hx rfl (hb hby d8_2) rfl k) ?_
        refine step (T74.setTop (mkF m 4 #[.val (.ref o1), .val (.ref o2), .val (.int (3 : Int32))] [(.ref o1), (.int (3 : Int32))])) (fun t k => XS.aloadN X74.here hx rfl (hb hby d8_3) rfl rfl k) ?_
        obtain ⟨T77, X77, e77, st77⟩ := getF X74 hx hZ hown (host := "") (Or.inl (hw _ (List.mem_of_getElem? (i := 58) rfl))) Via.refl e74 f71 (g := (mkF m 4 #[.val (.ref o1), .val (.ref o2), .val (.int (3 : Int32))] [(.ref o1), (.int (3 : Int32))])) rfl rfl (hb hby d8_4)
        refine step (T77.setTop (mkF m 7 #[.val (.ref o1), .val (.ref o2), .val (.int (3 : Int32))] [(.int (3 : Int32)), (.int (3 : Int32))])) (fun t k => st77 t k) ?_
        refine step (T77.setTop (mkF m 40 #[.val (.ref o1), .val (.ref o2), .val (.int (3 : Int32))] [])) (fun t k => XS.icmpYes X77.here hx rfl (pc0 := 7) (pc' := 40) rfl (hb hby d8_7) rfl (flt (by decide : ¬ ((3 : Int32) < (3 : Int32)))).2.1 (by decide) (by decide) k) ?_
        refine fin (v := none) X77 (fun _ => rfl) ?_ (by decide) (by decide) (fun fs hr => X77.returnOut hx hret (hb hby d8_40) hr)
        show Q8_11 Z o1 o2 o3 kc1 i2 i3 i4 i5 kc6 i7 i8 i9 h0 n0 (none) T77.heap _
        rw [e77]
        exact ⟨_, _, _, rfl, N70, K70, (by simp only [if_neg hc17_4, if_neg hc17_51, if_pos hc17_76, if_true, if_false] <;> rfl), (by simp only [if_neg hc17_4, if_neg hc17_51, if_pos hc17_76, if_true, if_false] <;> rfl), (by simp only [if_neg hc17_4, if_neg hc17_51, if_pos hc17_76, if_true, if_false] <;> rfl), V70⟩
      · -- pc 17: i9 = (-1 : Int32) False
        refine step (T74.setTop (mkF m 20 #[.val (.ref o1), .val (.ref o2), .val (.int (2 : Int32))] [])) (fun t k => XS.icmpNo X74.here hx rfl (hb hby d8_17) rfl (feq hc17_76).1 k) ?_
        refine step (T74.setTop (mkF m 21 #[.val (.ref o1), .val (.ref o2), .val (.int (2 : Int32))] [(.ref o1)])) (fun t k => XS.aloadN X74.here hx rfl (hb hby d8_20) rfl rfl k) ?_
        obtain ⟨T78, X78, e78, st78⟩ := getF X74 hx hZ hown (host := "") (Or.inl (hw _ (List.mem_of_getElem? (i := 46) rfl))) Via.refl e74 f73 (g := (mkF m 21 #[.val (.ref o1), .val (.ref o2), .val (.int (2 : Int32))] [(.ref o1)])) rfl rfl (hb hby d8_21)
        refine step (T78.setTop (mkF m 24 #[.val (.ref o1), .val (.ref o2), .val (.int (2 : Int32))] [(.ref o3)])) (fun t k => st78 t k) ?_
        refine step (T78.setTop (mkF m 25 #[.val (.ref o1), .val (.ref o2), .val (.int (2 : Int32))] [(.int (2 : Int32)), (.ref o3)])) (fun t k => XS.iloadN X78.here hx rfl (hb hby d8_24) rfl k) ?_
        refine step (T78.setTop (mkF m 26 #[.val (.ref o1), .val (.ref o2), .val (.int (2 : Int32))] [(.ref o2), (.int (2 : Int32)), (.ref o3)])) (fun t k => XS.aloadN X78.here hx rfl (hb hby d8_25) rfl rfl k) ?_
        refine step (T78.setTop (mkF m 27 #[.val (.ref o1), .val (.ref o2), .val (.int (2 : Int32))] [(.ref o1), (.ref o2), (.int (2 : Int32)), (.ref o3)])) (fun t k => XS.aloadN X78.here hx rfl (hb hby d8_26) rfl rfl k) ?_
        obtain ⟨T79, X79, e79, st79⟩ := getF X78 hx hZ hown (host := "") (Or.inl (hw _ (List.mem_of_getElem? (i := 46) rfl))) Via.refl e78 f73 (g := (mkF m 27 #[.val (.ref o1), .val (.ref o2), .val (.int (2 : Int32))] [(.ref o1), (.ref o2), (.int (2 : Int32)), (.ref o3)])) rfl rfl (hb hby d8_27)
        refine step (T79.setTop (mkF m 30 #[.val (.ref o1), .val (.ref o2), .val (.int (2 : Int32))] [(.ref o3), (.ref o2), (.int (2 : Int32)), (.ref o3)])) (fun t k => st79 t k) ?_
        refine step (T79.setTop (mkF m 31 #[.val (.ref o1), .val (.ref o2), .val (.int (2 : Int32))] [(.int (2 : Int32)), (.ref o3), (.ref o2), (.int (2 : Int32)), (.ref o3)])) (fun t k => XS.iloadN X79.here hx rfl (hb hby d8_30) rfl k) ?_
        obtain ⟨cl80, Ar80, q80, S80, N80n, H80, G80⟩ := id V70
        have hin80 : ¬ ((2 : Int32) < 0 ∨ cl80.slots.size ≤ ((2 : Int32)).toNatClampNeg) := inb_of S80 ⟨by decide, by decide⟩
        have hat80 : cl80.slots[((2 : Int32)).toNatClampNeg]? = some (.int i9) := H80.at hin80 rfl
        refine step (T79.setTop (mkF m 32 #[.val (.ref o1), .val (.ref o2), .val (.int (2 : Int32))] [(.int i9), (.ref o2), (.int (2 : Int32)), (.ref o3)])) (fun t k => X79.iaload hx (j := (2 : Int32)) (v := (.int i9)) (by rw [e79]; exact Ar80.1) (State.isArrayOf_alike hZ.alike Ar80.2.1) Ar80.2.2 hin80 hat80 (g := (mkF m 31 #[.val (.ref o1), .val (.ref o2), .val (.int (2 : Int32))] [(.int (2 : Int32)), (.ref o3), (.ref o2), (.int (2 : Int32)), (.ref o3)])) rfl rfl (hb hby d8_31) t k) ?_
        have f81 := (f68.other W70 ne_o2_o3)
        obtain ⟨cl82, Ar82, q82, S82, N82n, H82, G82⟩ := id f81
        have hin82 : ¬ (i9 < 0 ∨ cl82.slots.size ≤ (i9).toNatClampNeg) := inb_of S82 ⟨own_ge hy15 hc17_76, hy16⟩
        have hat82 : cl82.slots[(i9).toNatClampNeg]? = some (.int (List.getD [i2, i3, i4, i5] (i9).toNatClampNeg (0 : Int32))) := H82.at hin82 (own_getD [i2, i3, i4, i5] _ _)
        refine step (T79.setTop (mkF m 33 #[.val (.ref o1), .val (.ref o2), .val (.int (2 : Int32))] [(.int (List.getD [i2, i3, i4, i5] (i9).toNatClampNeg (0 : Int32))), (.int (2 : Int32)), (.ref o3)])) (fun t k => X79.iaload hx (j := i9) (v := (.int (List.getD [i2, i3, i4, i5] (i9).toNatClampNeg (0 : Int32)))) (by rw [e79]; exact Ar82.1) (State.isArrayOf_alike hZ.alike Ar82.2.1) Ar82.2.2 hin82 hat82 (g := (mkF m 32 #[.val (.ref o1), .val (.ref o2), .val (.int (2 : Int32))] [(.int i9), (.ref o2), (.int (2 : Int32)), (.ref o3)])) rfl rfl (hb hby d8_32) t k) ?_
        obtain ⟨cl83, Ar83, q83, S83, N83n, H83, G83⟩ := id V70
        have hin83 : ¬ ((2 : Int32) < 0 ∨ cl83.slots.size ≤ ((2 : Int32)).toNatClampNeg) := inb_of S83 ⟨by decide, by decide⟩
        obtain ⟨T83, h83, X83, e83, W83, st83⟩ := stI X79 hx hZ e79 Ar83 (j := (2 : Int32)) hin83 (g := (mkF m 33 #[.val (.ref o1), .val (.ref o2), .val (.int (2 : Int32))] [(.int (List.getD [i2, i3, i4, i5] (i9).toNatClampNeg (0 : Int32))), (.int (2 : Int32)), (.ref o3)])) rfl rfl (hb hby d8_33)
        have N83 := Fr.snoc X83 N70 gn_o3
        have K83 : Keep h0 h83 [o3] := K70.wr W83 (Or.inl (List.mem_of_getElem? (i := 0) rfl))
        have V83 : Arv Z h83 o3 kc6 .int (3 : Int32) [(.int (List.getD [i2, i3, i4, i5] (i7).toNatClampNeg (0 : Int32))), (.int (List.getD [i2, i3, i4, i5] (i8).toNatClampNeg (0 : Int32))), (.int (List.getD [i2, i3, i4, i5] (i9).toNatClampNeg (0 : Int32)))] (.int (0 : Int32)) := Arv.set Ar83 q83 S83 N83n H83 G83 rfl W83 2 rfl (Nat.le_of_ble_eq_true rfl)
        refine step (T83.setTop (mkF m 34 #[.val (.ref o1), .val (.ref o2), .val (.int (2 : Int32))] [])) (fun t k => st83 t k) ?_
        refine step (T83.setTop (mkF m 37 #[.val (.ref o1), .val (.ref o2), .val (.int (3 : Int32))] [])) (fun t k => XS.iinc X83.here hx rfl (hb hby d8_34) rfl (l' := #[.val (.ref o1), .val (.ref o2), .val (.int (3 : Int32))]) rfl k) ?_
        refine step (T83.setTop (mkF m 2 #[.val (.ref o1), .val (.ref o2), .val (.int (3 : Int32))] [])) (fun t k => XS.goto X83.here hx rfl (pc0 := 37) (pc' := 2) rfl (hb hby d8_37) (by decide) (by decide) k) ?_
        refine step (T83.setTop (mkF m 3 #[.val (.ref o1), .val (.ref o2), .val (.int (3 : Int32))] [(.int (3 : Int32))])) (fun t k => XS.iloadN X83.here hx rfl (hb hby d8_2) rfl k) ?_
        refine step (T83.setTop (mkF m 4 #[.val (.ref o1), .val (.ref o2), .val (.int (3 : Int32))] [(.ref o1), (.int (3 : Int32))])) (fun t k => XS.aloadN X83.here hx rfl (hb hby d8_3) rfl rfl k) ?_
        have f84 := (f71.other W83 (Or.inl ne_o1_o3))
        obtain ⟨T85, X85, e85, st85⟩ := getF X83 hx hZ hown (host := "") (Or.inl (hw _ (List.mem_of_getElem? (i := 58) rfl))) Via.refl e83 f84 (g := (mkF m 4 #[.val (.ref o1), .val (.ref o2), .val (.int (3 : Int32))] [(.ref o1), (.int (3 : Int32))])) rfl rfl (hb hby d8_4)
        refine step (T85.setTop (mkF m 7 #[.val (.ref o1), .val (.ref o2), .val (.int (3 : Int32))] [(.int (3 : Int32)), (.int (3 : Int32))])) (fun t k => st85 t k) ?_
        refine step (T85.setTop (mkF m 40 #[.val (.ref o1), .val (.ref o2), .val (.int (3 : Int32))] [])) (fun t k => XS.icmpYes X85.here hx rfl (pc0 := 7) (pc' := 40) rfl (hb hby d8_7) rfl (flt (by decide : ¬ ((3 : Int32) < (3 : Int32)))).2.1 (by decide) (by decide) k) ?_
        refine fin (v := none) X85 (fun _ => rfl) ?_ (by decide) (by decide) (fun fs hr => X85.returnOut hx hret (hb hby d8_40) hr)
        show Q8_11 Z o1 o2 o3 kc1 i2 i3 i4 i5 kc6 i7 i8 i9 h0 n0 (none) T85.heap _
        rw [e85]
        exact ⟨_, _, _, rfl, N83, K83, (by simp only [if_neg hc17_4, if_neg hc17_51, if_neg hc17_76, if_true, if_false] <;> rfl), (by simp only [if_neg hc17_4, if_neg hc17_51, if_neg hc17_76, if_true, if_false] <;> rfl), (by simp only [if_neg hc17_4, if_neg hc17_51, if_neg hc17_76, if_true, if_false] <;> rfl), V83⟩
theorem d9_0 : decode prog_73_method_8_code 0 = .ok (.aload_n 0, 1) := by decide +kernel
theorem d9_1 : decode prog_73_method_8_code 1 = .ok (.getfield 34, 3) := by decide +kernel
theorem d9_4 : decode prog_73_method_8_code 4 = .ok (.aload_n 0, 1) := by decide +kernel
theorem d9_5 : decode prog_73_method_8_code 5 = .ok (.getfield 44, 3) := by decide +kernel
theorem d9_8 : decode prog_73_method_8_code 8 = .ok (.invokestatic 108, 3) := by decide +kernel
theorem d9_11 : decode prog_73_method_8_code 11 = .ok (.astore 5, 2) := by decide +kernel
theorem d9_13 : decode prog_73_method_8_code 13 = .ok (.aload_n 0, 1) := by decide +kernel
theorem d9_14 : decode prog_73_method_8_code 14 = .ok (.getfield 18, 3) := by decide +kernel
theorem d9_17 : decode prog_73_method_8_code 17 = .ok (.ifCond .eq 17, 3) := by decide +kernel
theorem d9_20 : decode prog_73_method_8_code 20 = .ok (.aload_n 0, 1) := by decide +kernel
theorem d9_21 : decode prog_73_method_8_code 21 = .ok (.getfield 38, 3) := by decide +kernel
theorem d9_24 : decode prog_73_method_8_code 24 = .ok (.aload_n 0, 1) := by decide +kernel
theorem d9_25 : decode prog_73_method_8_code 25 = .ok (.getfield 44, 3) := by decide +kernel
theorem d9_28 : decode prog_73_method_8_code 28 = .ok (.invokestatic 108, 3) := by decide +kernel
theorem d9_31 : decode prog_73_method_8_code 31 = .ok (.goto 5, 3) := by decide +kernel
theorem d9_34 : decode prog_73_method_8_code 34 = .ok (.aload 5, 2) := by decide +kernel
theorem d9_36 : decode prog_73_method_8_code 36 = .ok (.astore 6, 2) := by decide +kernel
theorem d9_38 : decode prog_73_method_8_code 38 = .ok (.new 106, 3) := by decide +kernel
theorem d9_41 : decode prog_73_method_8_code 41 = .ok (.dup, 1) := by decide +kernel
theorem d9_42 : decode prog_73_method_8_code 42 = .ok (.aload_n 1, 1) := by decide +kernel
theorem d9_43 : decode prog_73_method_8_code 43 = .ok (.aload_n 2, 1) := by decide +kernel
theorem d9_44 : decode prog_73_method_8_code 44 = .ok (.aload_n 3, 1) := by decide +kernel
theorem d9_45 : decode prog_73_method_8_code 45 = .ok (.aload 4, 2) := by decide +kernel
theorem d9_47 : decode prog_73_method_8_code 47 = .ok (.aload_n 0, 1) := by decide +kernel
theorem d9_48 : decode prog_73_method_8_code 48 = .ok (.getfield 22, 3) := by decide +kernel
theorem d9_51 : decode prog_73_method_8_code 51 = .ok (.aload_n 0, 1) := by decide +kernel
theorem d9_52 : decode prog_73_method_8_code 52 = .ok (.getfield 103, 3) := by decide +kernel
theorem d9_55 : decode prog_73_method_8_code 55 = .ok (.iconst 1, 1) := by decide +kernel
theorem d9_56 : decode prog_73_method_8_code 56 = .ok (.iadd, 1) := by decide +kernel
theorem d9_57 : decode prog_73_method_8_code 57 = .ok (.invokestatic 112, 3) := by decide +kernel
theorem d9_60 : decode prog_73_method_8_code 60 = .ok (.aload_n 0, 1) := by decide +kernel
theorem d9_61 : decode prog_73_method_8_code 61 = .ok (.getfield 26, 3) := by decide +kernel
theorem d9_64 : decode prog_73_method_8_code 64 = .ok (.aload_n 0, 1) := by decide +kernel
theorem d9_65 : decode prog_73_method_8_code 65 = .ok (.getfield 97, 3) := by decide +kernel
theorem d9_68 : decode prog_73_method_8_code 68 = .ok (.iconst 1, 1) := by decide +kernel
theorem d9_69 : decode prog_73_method_8_code 69 = .ok (.iadd, 1) := by decide +kernel
theorem d9_70 : decode prog_73_method_8_code 70 = .ok (.invokestatic 112, 3) := by decide +kernel
theorem d9_73 : decode prog_73_method_8_code 73 = .ok (.aload_n 0, 1) := by decide +kernel
theorem d9_74 : decode prog_73_method_8_code 74 = .ok (.getfield 29, 3) := by decide +kernel
theorem d9_77 : decode prog_73_method_8_code 77 = .ok (.aload_n 0, 1) := by decide +kernel
theorem d9_78 : decode prog_73_method_8_code 78 = .ok (.getfield 44, 3) := by decide +kernel
theorem d9_81 : decode prog_73_method_8_code 81 = .ok (.invokestatic 112, 3) := by decide +kernel
theorem d9_84 : decode prog_73_method_8_code 84 = .ok (.aload 5, 2) := by decide +kernel
theorem d9_86 : decode prog_73_method_8_code 86 = .ok (.aload 6, 2) := by decide +kernel
theorem d9_88 : decode prog_73_method_8_code 88 = .ok (.aload_n 0, 1) := by decide +kernel
theorem d9_89 : decode prog_73_method_8_code 89 = .ok (.getfield 41, 3) := by decide +kernel
theorem d9_92 : decode prog_73_method_8_code 92 = .ok (.aload_n 0, 1) := by decide +kernel
theorem d9_93 : decode prog_73_method_8_code 93 = .ok (.getfield 44, 3) := by decide +kernel
theorem d9_96 : decode prog_73_method_8_code 96 = .ok (.invokestatic 112, 3) := by decide +kernel
theorem d9_99 : decode prog_73_method_8_code 99 = .ok (.invokespecial 114, 3) := by decide +kernel
theorem d9_102 : decode prog_73_method_8_code 102 = .ok (.areturn, 1) := by decide +kernel
theorem pd_9 : parseMethodDescriptor "([Lcom/example/qopa/qopa/math/Rational;I)[Lcom/example/qopa/qopa/math/Rational;" = some ⟨[(.array (.object "com/example/qopa/qopa/math/Rational")), .int], some (.array (.object "com/example/qopa/qopa/math/Rational"))⟩ := by decide +kernel
theorem pd_10 : parseMethodDescriptor "([II)[I" = some ⟨[(.array .int), .int], some (.array .int)⟩ := by decide +kernel
theorem pd_11 : parseMethodDescriptor "(Lcom/example/qopa/qopa/model/Model$Kind;[ILcom/example/qopa/qopa/model/Actions;Ljava/util/Map;[I[I[I[Lcom/example/qopa/qopa/math/Rational;[Lcom/example/qopa/qopa/math/Rational;[I)V" = some ⟨[(.object "com/example/qopa/qopa/model/Model$Kind"), (.array .int), (.object "com/example/qopa/qopa/model/Actions"), (.object "java/util/Map"), (.array .int), (.array .int), (.array .int), (.array (.object "com/example/qopa/qopa/math/Rational")), (.array (.object "com/example/qopa/qopa/math/Rational")), (.array .int)], none⟩ := by decide +kernel
theorem d10_0 : decode prog_73_method_11_code 0 = .ok (.aload_n 0, 1) := by decide +kernel
theorem d10_1 : decode prog_73_method_11_code 1 = .ok (.arraylength, 1) := by decide +kernel
theorem d10_2 : decode prog_73_method_11_code 2 = .ok (.iload_n 1, 1) := by decide +kernel
theorem d10_3 : decode prog_73_method_11_code 3 = .ok (.if_icmp .ne 7, 3) := by decide +kernel
theorem d10_6 : decode prog_73_method_11_code 6 = .ok (.aload_n 0, 1) := by decide +kernel
theorem d10_7 : decode prog_73_method_11_code 7 = .ok (.goto 11, 3) := by decide +kernel
theorem d10_10 : decode prog_73_method_11_code 10 = .ok (.aload_n 0, 1) := by decide +kernel
theorem d10_11 : decode prog_73_method_11_code 11 = .ok (.iload_n 1, 1) := by decide +kernel
theorem d10_12 : decode prog_73_method_11_code 12 = .ok (.invokestatic 58, 3) := by decide +kernel
theorem d10_15 : decode prog_73_method_11_code 15 = .ok (.checkcast 61, 3) := by decide +kernel
theorem d10_18 : decode prog_73_method_11_code 18 = .ok (.areturn, 1) := by decide +kernel
theorem ef_10_13 (m : MethodId) (x0 : Addr) : entryFrame m #[(.ref x0), (.int (3 : Int32))] 2 = mkF m 0 #[.val (.ref x0), .val (.int (3 : Int32))] [] := by first | (simp [entryFrame, mkF, argsToLocals, Value.category]; done) | rfl
def Q10_13 (Z : State) (o1 : Addr) (kc1 : ClassId) (h0 : Heap) (n0 : Nat) (v : Option Value) (h : Heap) (L : List Loc) : Prop := v = some (.ref o1) ∧ Fr n0 L ∧ h = h0
set_option maxRecDepth 65536 in
set_option maxHeartbeats 40000000 in
theorem rm10_13 (l : Launch) (Z : State) (a0 : Array Value) (hw : ∀ d ∈ tables_1, d.before a0 Z = true) (ws : List Jvm.Cond) (o1 : Addr) (kc1 : ClassId) (h0 : Heap) (n0 : Nat) (Z0 : n0 ≤ h0.size) (Pm0 : Arv Z h0 o1 kc1 (.object "com/example/qopa/qopa/math/Rational") (3 : Int32) [.null, .null, .null] .null) (O1 : Ovr Z kc1 "com/example/qopa/qopa/math/Rational") (gn_o1 : n0 ≤ o1)  :
    MetFree l (⟨"com/example/qopa/qopa/model/ModelBuilder", "trim", "([Lcom/example/qopa/qopa/math/Rational;I)[Lcom/example/qopa/qopa/math/Rational;"⟩ : MethodName) (head1 (Jvm.Cond.code (⟨"com/example/qopa/qopa/model/ModelBuilder", "trim", "([Lcom/example/qopa/qopa/math/Rational;I)[Lcom/example/qopa/qopa/math/Rational;"⟩ : MethodName) prog_73_method_11_code 2 (some (.array (.object "com/example/qopa/qopa/math/Rational"))) :: ws) ({ frames := 0, cells := 0, slots := 0, locals := 0 } : Room)) (fun a U => a = #[(.ref o1), (.int (3 : Int32))] ∧ Z.Warmed39 U.vm ∧ U.heap = h0) (fun _ _ _ _ _ => True) (fun _ U o U' => ∃ v L, o = .returned v ∧ Q10_13 Z o1 kc1 h0 n0 v U'.heap L ∧ FrameEnd U o U' L ({ frames := 0, cells := 0, slots := 0, locals := 0 } : Room).cells ({ frames := 0, cells := 0, slots := 0, locals := 0 } : Room).slots) := by
  refine own_body (plainFor_of_name pn_1) ?_
  intro p e s m below meth c s₁ G hx hby hml hZ hown hnm hret X0 e0 step fin
  replace hown : s.vm.findClass "com/example/qopa/qopa/model/ModelBuilder" = some m.cls := hown
  replace hnm : meth.name = "trim" := hnm
  replace hret : meth.sig.returnType = some (.array (.object "com/example/qopa/qopa/math/Rational")) := hret
  replace hml : c.maxLocals = 2 := hml
  have N0 := Fr.nil n0
  refine step (s₁.setTop (mkF m 0 #[.val (.ref o1), .val (.int (3 : Int32))] [])) (fun t k => castTop (ef_10_13 m o1) k) ?_
  refine step (s₁.setTop (mkF m 1 #[.val (.ref o1), .val (.int (3 : Int32))] [(.ref o1)])) (fun t k => XS.aloadN X0.here hx rfl (hb hby d10_0) rfl rfl k) ?_
  obtain ⟨cl1, Ar1, q1, S1, N1n, H1, G1⟩ := id Pm0
  refine step (s₁.setTop (mkF m 2 #[.val (.ref o1), .val (.int (3 : Int32))] [(.int (3 : Int32))])) (fun t k => X0.arraylength hx (by rw [e0]; exact Ar1.1) (State.isArrayOf_alike hZ.alike Ar1.2.1) (g := (mkF m 1 #[.val (.ref o1), .val (.int (3 : Int32))] [(.ref o1)])) rfl rfl (hb hby d10_1) t (by rw [len_of S1 N1n]; exact k)) ?_
  refine step (s₁.setTop (mkF m 3 #[.val (.ref o1), .val (.int (3 : Int32))] [(.int (3 : Int32)), (.int (3 : Int32))])) (fun t k => XS.iloadN X0.here hx rfl (hb hby d10_2) rfl k) ?_
  refine step (s₁.setTop (mkF m 6 #[.val (.ref o1), .val (.int (3 : Int32))] [])) (fun t k => XS.icmpNo X0.here hx rfl (hb hby d10_3) rfl (teq (by decide : (3 : Int32) = (3 : Int32))).2 k) ?_
  refine step (s₁.setTop (mkF m 7 #[.val (.ref o1), .val (.int (3 : Int32))] [(.ref o1)])) (fun t k => XS.aloadN X0.here hx rfl (hb hby d10_6) rfl rfl k) ?_
  refine step (s₁.setTop (mkF m 18 #[.val (.ref o1), .val (.int (3 : Int32))] [(.ref o1)])) (fun t k => XS.goto X0.here hx rfl (pc0 := 7) (pc' := 18) rfl (hb hby d10_7) (by decide) (by decide) k) ?_
  refine fin (v := some (.ref o1)) X0 (fun h => by cases h) ?_ (by decide) (by decide) (fun fs hr => X0.areturnOut hx rfl hret rfl (hb hby d10_18) hr)
  show Q10_13 Z o1 kc1 h0 n0 (some (.ref o1)) s₁.heap _
  rw [e0]
  exact ⟨rfl, N0, rfl⟩
theorem d11_0 : decode prog_73_method_10_code 0 = .ok (.aload_n 0, 1) := by decide +kernel
theorem d11_1 : decode prog_73_method_10_code 1 = .ok (.arraylength, 1) := by decide +kernel
theorem d11_2 : decode prog_73_method_10_code 2 = .ok (.iload_n 1, 1) := by decide +kernel
theorem d11_3 : decode prog_73_method_10_code 3 = .ok (.if_icmp .ne 7, 3) := by decide +kernel
theorem d11_6 : decode prog_73_method_10_code 6 = .ok (.aload_n 0, 1) := by decide +kernel
theorem d11_7 : decode prog_73_method_10_code 7 = .ok (.goto 8, 3) := by decide +kernel
theorem d11_10 : decode prog_73_method_10_code 10 = .ok (.aload_n 0, 1) := by decide +kernel
theorem d11_11 : decode prog_73_method_10_code 11 = .ok (.iload_n 1, 1) := by decide +kernel
theorem d11_12 : decode prog_73_method_10_code 12 = .ok (.invokestatic 52, 3) := by decide +kernel
theorem d11_15 : decode prog_73_method_10_code 15 = .ok (.areturn, 1) := by decide +kernel
theorem ef_11_14 (m : MethodId) (x0 : Addr) : entryFrame m #[(.ref x0), (.int (1 : Int32))] 2 = mkF m 0 #[.val (.ref x0), .val (.int (1 : Int32))] [] := by first | (simp [entryFrame, mkF, argsToLocals, Value.category]; done) | rfl
def Q11_14 (Z : State) (o1 : Addr) (kc1 : ClassId) (h0 : Heap) (n0 : Nat) (v : Option Value) (h : Heap) (L : List Loc) : Prop := v = some (.ref o1) ∧ Fr n0 L ∧ h = h0
set_option maxRecDepth 65536 in
set_option maxHeartbeats 40000000 in
theorem rm11_14 (l : Launch) (Z : State) (a0 : Array Value) (hw : ∀ d ∈ tables_1, d.before a0 Z = true) (ws : List Jvm.Cond) (o1 : Addr) (kc1 : ClassId) (h0 : Heap) (n0 : Nat) (Z0 : n0 ≤ h0.size) (Pm0 : Arv Z h0 o1 kc1 .int (1 : Int32) [(.int (0 : Int32))] (.int (0 : Int32))) (gn_o1 : n0 ≤ o1)  :
    MetFree l (⟨"com/example/qopa/qopa/model/ModelBuilder", "trim", "([II)[I"⟩ : MethodName) (head1 (Jvm.Cond.code (⟨"com/example/qopa/qopa/model/ModelBuilder", "trim", "([II)[I"⟩ : MethodName) prog_73_method_10_code 2 (some (.array .int)) :: ws) ({ frames := 0, cells := 0, slots := 0, locals := 0 } : Room)) (fun a U => a = #[(.ref o1), (.int (1 : Int32))] ∧ Z.Warmed39 U.vm ∧ U.heap = h0) (fun _ _ _ _ _ => True) (fun _ U o U' => ∃ v L, o = .returned v ∧ Q11_14 Z o1 kc1 h0 n0 v U'.heap L ∧ FrameEnd U o U' L ({ frames := 0, cells := 0, slots := 0, locals := 0 } : Room).cells ({ frames := 0, cells := 0, slots := 0, locals := 0 } : Room).slots) := by
  refine own_body (plainFor_of_name pn_1) ?_
  intro p e s m below meth c s₁ G hx hby hml hZ hown hnm hret X0 e0 step fin
  replace hown : s.vm.findClass "com/example/qopa/qopa/model/ModelBuilder" = some m.cls := hown
  replace hnm : meth.name = "trim" := hnm
  replace hret : meth.sig.returnType = some (.array .int) := hret
  replace hml : c.maxLocals = 2 := hml
  have N0 := Fr.nil n0
  refine step (s₁.setTop (mkF m 0 #[.val (.ref o1), .val (.int (1 : Int32))] [])) (fun t k => castTop (ef_11_14 m o1) k) ?_
  refine step (s₁.setTop (mkF m 1 #[.val (.ref o1), .val (.int (1 : Int32))] [(.ref o1)])) (fun t k => XS.aloadN X0.here hx rfl (hb hby d11_0) rfl rfl k) ?_
  obtain ⟨cl1, Ar1, q1, S1, N1n, H1, G1⟩ := id Pm0
  refine step (s₁.setTop (mkF m 2 #[.val (.ref o1), .val (.int (1 : Int32))] [(.int (1 : Int32))])) (fun t k => X0.arraylength hx (by rw [e0]; exact Ar1.1) (State.isArrayOf_alike hZ.alike Ar1.2.1) (g := (mkF m 1 #[.val (.ref o1), .val (.int (1 : Int32))] [(.ref o1)])) rfl rfl (hb hby d11_1) t (by rw [len_of S1 N1n]; exact k)) ?_
  refine step (s₁.setTop (mkF m 3 #[.val (.ref o1), .val (.int (1 : Int32))] [(.int (1 : Int32)), (.int (1 : Int32))])) (fun t k => XS.iloadN X0.here hx rfl (hb hby d11_2) rfl k) ?_
  refine step (s₁.setTop (mkF m 6 #[.val (.ref o1), .val (.int (1 : Int32))] [])) (fun t k => XS.icmpNo X0.here hx rfl (hb hby d11_3) rfl (teq (by decide : (1 : Int32) = (1 : Int32))).2 k) ?_
  refine step (s₁.setTop (mkF m 7 #[.val (.ref o1), .val (.int (1 : Int32))] [(.ref o1)])) (fun t k => XS.aloadN X0.here hx rfl (hb hby d11_6) rfl rfl k) ?_
  refine step (s₁.setTop (mkF m 15 #[.val (.ref o1), .val (.int (1 : Int32))] [(.ref o1)])) (fun t k => XS.goto X0.here hx rfl (pc0 := 7) (pc' := 15) rfl (hb hby d11_7) (by decide) (by decide) k) ?_
  refine fin (v := some (.ref o1)) X0 (fun h => by cases h) ?_ (by decide) (by decide) (fun fs hr => X0.areturnOut hx rfl hret rfl (hb hby d11_15) hr)
  show Q11_14 Z o1 kc1 h0 n0 (some (.ref o1)) s₁.heap _
  rw [e0]
  exact ⟨rfl, N0, rfl⟩
theorem ef_11_15 (m : MethodId) (x0 : Addr) : entryFrame m #[(.ref x0), (.int (3 : Int32))] 2 = mkF m 0 #[.val (.ref x0), .val (.int (3 : Int32))] [] := by first | (simp [entryFrame, mkF, argsToLocals, Value.category]; done) | rfl
def Q11_15 (Z : State) (o1 : Addr) (kc1 : ClassId) (h0 : Heap) (n0 : Nat) (v : Option Value) (h : Heap) (L : List Loc) : Prop := v = some (.ref o1) ∧ Fr n0 L ∧ h = h0
set_option maxRecDepth 65536 in
set_option maxHeartbeats 40000000 in
theorem rm11_15 (l : Launch) (Z : State) (a0 : Array Value) (hw : ∀ d ∈ tables_1, d.before a0 Z = true) (ws : List Jvm.Cond) (o1 : Addr) (kc1 : ClassId) (h0 : Heap) (n0 : Nat) (Z0 : n0 ≤ h0.size) (Pm0 : Arv Z h0 o1 kc1 .int (3 : Int32) [(.int (0 : Int32)), (.int (0 : Int32)), (.int (0 : Int32))] (.int (0 : Int32))) (gn_o1 : n0 ≤ o1)  :
    MetFree l (⟨"com/example/qopa/qopa/model/ModelBuilder", "trim", "([II)[I"⟩ : MethodName) (head1 (Jvm.Cond.code (⟨"com/example/qopa/qopa/model/ModelBuilder", "trim", "([II)[I"⟩ : MethodName) prog_73_method_10_code 2 (some (.array .int)) :: ws) ({ frames := 0, cells := 0, slots := 0, locals := 0 } : Room)) (fun a U => a = #[(.ref o1), (.int (3 : Int32))] ∧ Z.Warmed39 U.vm ∧ U.heap = h0) (fun _ _ _ _ _ => True) (fun _ U o U' => ∃ v L, o = .returned v ∧ Q11_15 Z o1 kc1 h0 n0 v U'.heap L ∧ FrameEnd U o U' L ({ frames := 0, cells := 0, slots := 0, locals := 0 } : Room).cells ({ frames := 0, cells := 0, slots := 0, locals := 0 } : Room).slots) := by
  refine own_body (plainFor_of_name pn_1) ?_
  intro p e s m below meth c s₁ G hx hby hml hZ hown hnm hret X0 e0 step fin
  replace hown : s.vm.findClass "com/example/qopa/qopa/model/ModelBuilder" = some m.cls := hown
  replace hnm : meth.name = "trim" := hnm
  replace hret : meth.sig.returnType = some (.array .int) := hret
  replace hml : c.maxLocals = 2 := hml
  have N0 := Fr.nil n0
  refine step (s₁.setTop (mkF m 0 #[.val (.ref o1), .val (.int (3 : Int32))] [])) (fun t k => castTop (ef_11_15 m o1) k) ?_
  refine step (s₁.setTop (mkF m 1 #[.val (.ref o1), .val (.int (3 : Int32))] [(.ref o1)])) (fun t k => XS.aloadN X0.here hx rfl (hb hby d11_0) rfl rfl k) ?_
  obtain ⟨cl1, Ar1, q1, S1, N1n, H1, G1⟩ := id Pm0
  refine step (s₁.setTop (mkF m 2 #[.val (.ref o1), .val (.int (3 : Int32))] [(.int (3 : Int32))])) (fun t k => X0.arraylength hx (by rw [e0]; exact Ar1.1) (State.isArrayOf_alike hZ.alike Ar1.2.1) (g := (mkF m 1 #[.val (.ref o1), .val (.int (3 : Int32))] [(.ref o1)])) rfl rfl (hb hby d11_1) t (by rw [len_of S1 N1n]; exact k)) ?_
  refine step (s₁.setTop (mkF m 3 #[.val (.ref o1), .val (.int (3 : Int32))] [(.int (3 : Int32)), (.int (3 : Int32))])) (fun t k => XS.iloadN X0.here hx rfl (hb hby d11_2) rfl k) ?_
  refine step (s₁.setTop (mkF m 6 #[.val (.ref o1), .val (.int (3 : Int32))] [])) (fun t k => XS.icmpNo X0.here hx rfl (hb hby d11_3) rfl (teq (by decide : (3 : Int32) = (3 : Int32))).2 k) ?_
  refine step (s₁.setTop (mkF m 7 #[.val (.ref o1), .val (.int (3 : Int32))] [(.ref o1)])) (fun t k => XS.aloadN X0.here hx rfl (hb hby d11_6) rfl rfl k) ?_
  refine step (s₁.setTop (mkF m 15 #[.val (.ref o1), .val (.int (3 : Int32))] [(.ref o1)])) (fun t k => XS.goto X0.here hx rfl (pc0 := 7) (pc' := 15) rfl (hb hby d11_7) (by decide) (by decide) k) ?_
  refine fin (v := some (.ref o1)) X0 (fun h => by cases h) ?_ (by decide) (by decide) (fun fs hr => X0.areturnOut hx rfl hret rfl (hb hby d11_15) hr)
  show Q11_15 Z o1 kc1 h0 n0 (some (.ref o1)) s₁.heap _
  rw [e0]
  exact ⟨rfl, N0, rfl⟩
theorem ef_11_16 (m : MethodId) (x0 : Addr) : entryFrame m #[(.ref x0), (.int (3 : Int32))] 2 = mkF m 0 #[.val (.ref x0), .val (.int (3 : Int32))] [] := by first | (simp [entryFrame, mkF, argsToLocals, Value.category]; done) | rfl
def Q11_16 (Z : State) (o1 : Addr) (kc1 : ClassId) (i2 : Int32) (i3 : Int32) (i4 : Int32) (h0 : Heap) (n0 : Nat) (v : Option Value) (h : Heap) (L : List Loc) : Prop := v = some (.ref o1) ∧ Fr n0 L ∧ h = h0
set_option maxRecDepth 65536 in
set_option maxHeartbeats 40000000 in
theorem rm11_16 (l : Launch) (Z : State) (a0 : Array Value) (hw : ∀ d ∈ tables_1, d.before a0 Z = true) (ws : List Jvm.Cond) (o1 : Addr) (kc1 : ClassId) (i2 : Int32) (i3 : Int32) (i4 : Int32) (h0 : Heap) (n0 : Nat) (Z0 : n0 ≤ h0.size) (Pm0 : Arv Z h0 o1 kc1 .int (3 : Int32) [(.int i2), (.int i3), (.int i4)] (.int (0 : Int32))) (gn_o1 : n0 ≤ o1)  :
    MetFree l (⟨"com/example/qopa/qopa/model/ModelBuilder", "trim", "([II)[I"⟩ : MethodName) (head1 (Jvm.Cond.code (⟨"com/example/qopa/qopa/model/ModelBuilder", "trim", "([II)[I"⟩ : MethodName) prog_73_method_10_code 2 (some (.array .int)) :: ws) ({ frames := 0, cells := 0, slots := 0, locals := 0 } : Room)) (fun a U => a = #[(.ref o1), (.int (3 : Int32))] ∧ Z.Warmed39 U.vm ∧ U.heap = h0) (fun _ _ _ _ _ => True) (fun _ U o U' => ∃ v L, o = .returned v ∧ Q11_16 Z o1 kc1 i2 i3 i4 h0 n0 v U'.heap L ∧ FrameEnd U o U' L ({ frames := 0, cells := 0, slots := 0, locals := 0 } : Room).cells ({ frames := 0, cells := 0, slots := 0, locals := 0 } : Room).slots) := by
  refine own_body (plainFor_of_name pn_1) ?_
  intro p e s m below meth c s₁ G hx hby hml hZ hown hnm hret X0 e0 step fin
  replace hown : s.vm.findClass "com/example/qopa/qopa/model/ModelBuilder" = some m.cls := hown
  replace hnm : meth.name = "trim" := hnm
  replace hret : meth.sig.returnType = some (.array .int) := hret
  replace hml : c.maxLocals = 2 := hml
  have N0 := Fr.nil n0
  refine step (s₁.setTop (mkF m 0 #[.val (.ref o1), .val (.int (3 : Int32))] [])) (fun t k => castTop (ef_11_16 m o1) k) ?_
  refine step (s₁.setTop (mkF m 1 #[.val (.ref o1), .val (.int (3 : Int32))] [(.ref o1)])) (fun t k => XS.aloadN X0.here hx rfl (hb hby d11_0) rfl rfl k) ?_
  obtain ⟨cl1, Ar1, q1, S1, N1n, H1, G1⟩ := id Pm0
  refine step (s₁.setTop (mkF m 2 #[.val (.ref o1), .val (.int (3 : Int32))] [(.int (3 : Int32))])) (fun t k => X0.arraylength hx (by rw [e0]; exact Ar1.1) (State.isArrayOf_alike hZ.alike Ar1.2.1) (g := (mkF m 1 #[.val (.ref o1), .val (.int (3 : Int32))] [(.ref o1)])) rfl rfl (hb hby d11_1) t (by rw [len_of S1 N1n]; exact k)) ?_
  refine step (s₁.setTop (mkF m 3 #[.val (.ref o1), .val (.int (3 : Int32))] [(.int (3 : Int32)), (.int (3 : Int32))])) (fun t k => XS.iloadN X0.here hx rfl (hb hby d11_2) rfl k) ?_
  refine step (s₁.setTop (mkF m 6 #[.val (.ref o1), .val (.int (3 : Int32))] [])) (fun t k => XS.icmpNo X0.here hx rfl (hb hby d11_3) rfl (teq (by decide : (3 : Int32) = (3 : Int32))).2 k) ?_
  refine step (s₁.setTop (mkF m 7 #[.val (.ref o1), .val (.int (3 : Int32))] [(.ref o1)])) (fun t k => XS.aloadN X0.here hx rfl (hb hby d11_6) rfl rfl k) ?_
  refine step (s₁.setTop (mkF m 15 #[.val (.ref o1), .val (.int (3 : Int32))] [(.ref o1)])) (fun t k => XS.goto X0.here hx rfl (pc0 := 7) (pc' := 15) rfl (hb hby d11_7) (by decide) (by decide) k) ?_
  refine fin (v := some (.ref o1)) X0 (fun h => by cases h) ?_ (by decide) (by decide) (fun fs hr => X0.areturnOut hx rfl hret rfl (hb hby d11_15) hr)
  show Q11_16 Z o1 kc1 i2 i3 i4 h0 n0 (some (.ref o1)) s₁.heap _
  rw [e0]
  exact ⟨rfl, N0, rfl⟩
theorem d12_0 : decode prog_71_method_1_code 0 = .ok (.aload_n 0, 1) := by decide +kernel
theorem d12_1 : decode prog_71_method_1_code 1 = .ok (.invokespecial 1, 3) := by decide +kernel
theorem d12_4 : decode prog_71_method_1_code 4 = .ok (.aload_n 0, 1) := by decide +kernel
theorem d12_5 : decode prog_71_method_1_code 5 = .ok (.new 7, 3) := by decide +kernel
theorem d12_8 : decode prog_71_method_1_code 8 = .ok (.dup, 1) := by decide +kernel
theorem d12_9 : decode prog_71_method_1_code 9 = .ok (.invokespecial 9, 3) := by decide +kernel
theorem d12_12 : decode prog_71_method_1_code 12 = .ok (.putfield 10, 3) := by decide +kernel
theorem d12_15 : decode prog_71_method_1_code 15 = .ok (.aload_n 1, 1) := by decide +kernel
theorem d12_16 : decode prog_71_method_1_code 16 = .ok (.invokevirtual 16, 3) := by decide +kernel
theorem d12_19 : decode prog_71_method_1_code 19 = .ok (.ifCond .eq 24, 3) := by decide +kernel
theorem d12_22 : decode prog_71_method_1_code 22 = .ok (.aload_n 2, 1) := by decide +kernel
theorem d12_23 : decode prog_71_method_1_code 23 = .ok (.arraylength, 1) := by decide +kernel
theorem d12_24 : decode prog_71_method_1_code 24 = .ok (.iconst 1, 1) := by decide +kernel
theorem d12_25 : decode prog_71_method_1_code 25 = .ok (.if_icmp .eq 18, 3) := by decide +kernel
theorem d12_28 : decode prog_71_method_1_code 28 = .ok (.new 22, 3) := by decide +kernel
theorem d12_31 : decode prog_71_method_1_code 31 = .ok (.dup, 1) := by decide +kernel
theorem d12_32 : decode prog_71_method_1_code 32 = .ok (.aload_n 2, 1) := by decide +kernel
theorem d12_33 : decode prog_71_method_1_code 33 = .ok (.arraylength, 1) := by decide +kernel
theorem d12_34 : decode prog_71_method_1_code 34 = .ok (.invokedynamic 24, 5) := by decide +kernel
theorem d12_39 : decode prog_71_method_1_code 39 = .ok (.invokespecial 28, 3) := by decide +kernel
theorem d12_42 : decode prog_71_method_1_code 42 = .ok (.athrow, 1) := by decide +kernel
theorem d12_43 : decode prog_71_method_1_code 43 = .ok (.iconst 0, 1) := by decide +kernel
theorem d12_44 : decode prog_71_method_1_code 44 = .ok (.istore 11, 2) := by decide +kernel
theorem d12_46 : decode prog_71_method_1_code 46 = .ok (.iload 11, 2) := by decide +kernel
theorem d12_48 : decode prog_71_method_1_code 48 = .ok (.iconst 1, 1) := by decide +kernel
theorem d12_49 : decode prog_71_method_1_code 49 = .ok (.iadd, 1) := by decide +kernel
theorem d12_50 : decode prog_71_method_1_code 50 = .ok (.aload 5, 2) := by decide +kernel
theorem d12_52 : decode prog_71_method_1_code 52 = .ok (.arraylength, 1) := by decide +kernel
theorem d12_53 : decode prog_71_method_1_code 53 = .ok (.if_icmp .ge 48, 3) := by decide +kernel
theorem d12_56 : decode prog_71_method_1_code 56 = .ok (.aload_n 1, 1) := by decide +kernel
theorem d12_57 : decode prog_71_method_1_code 57 = .ok (.invokevirtual 16, 3) := by decide +kernel
theorem d12_60 : decode prog_71_method_1_code 60 = .ok (.ifCond .eq 35, 3) := by decide +kernel
theorem d12_63 : decode prog_71_method_1_code 63 = .ok (.aload 5, 2) := by decide +kernel
theorem d12_65 : decode prog_71_method_1_code 65 = .ok (.iload 11, 2) := by decide +kernel
theorem d12_67 : decode prog_71_method_1_code 67 = .ok (.iconst 1, 1) := by decide +kernel
theorem d12_68 : decode prog_71_method_1_code 68 = .ok (.iadd, 1) := by decide +kernel
theorem d12_69 : decode prog_71_method_1_code 69 = .ok (.iaload, 1) := by decide +kernel
theorem d12_70 : decode prog_71_method_1_code 70 = .ok (.aload 5, 2) := by decide +kernel
theorem d12_72 : decode prog_71_method_1_code 72 = .ok (.iload 11, 2) := by decide +kernel
theorem d12_74 : decode prog_71_method_1_code 74 = .ok (.iaload, 1) := by decide +kernel
theorem d12_75 : decode prog_71_method_1_code 75 = .ok (.isub, 1) := by decide +kernel
theorem d12_76 : decode prog_71_method_1_code 76 = .ok (.iconst 1, 1) := by decide +kernel
theorem d12_77 : decode prog_71_method_1_code 77 = .ok (.if_icmp .le 18, 3) := by decide +kernel
theorem d12_80 : decode prog_71_method_1_code 80 = .ok (.new 22, 3) := by decide +kernel
theorem d12_83 : decode prog_71_method_1_code 83 = .ok (.dup, 1) := by decide +kernel
theorem d12_84 : decode prog_71_method_1_code 84 = .ok (.iload 11, 2) := by decide +kernel
theorem d12_86 : decode prog_71_method_1_code 86 = .ok (.invokedynamic 31, 5) := by decide +kernel
theorem d12_91 : decode prog_71_method_1_code 91 = .ok (.invokespecial 28, 3) := by decide +kernel
theorem d12_94 : decode prog_71_method_1_code 94 = .ok (.athrow, 1) := by decide +kernel
theorem d12_95 : decode prog_71_method_1_code 95 = .ok (.iinc 11 1, 3) := by decide +kernel
theorem d12_98 : decode prog_71_method_1_code 98 = .ok (.goto (-52), 3) := by decide +kernel
theorem d12_101 : decode prog_71_method_1_code 101 = .ok (.aload_n 0, 1) := by decide +kernel
theorem d12_102 : decode prog_71_method_1_code 102 = .ok (.aload_n 1, 1) := by decide +kernel
theorem d12_103 : decode prog_71_method_1_code 103 = .ok (.putfield 32, 3) := by decide +kernel
theorem d12_106 : decode prog_71_method_1_code 106 = .ok (.aload_n 0, 1) := by decide +kernel
theorem d12_107 : decode prog_71_method_1_code 107 = .ok (.aload_n 2, 1) := by decide +kernel
theorem d12_108 : decode prog_71_method_1_code 108 = .ok (.putfield 36, 3) := by decide +kernel
theorem d12_111 : decode prog_71_method_1_code 111 = .ok (.aload_n 0, 1) := by decide +kernel
theorem d12_112 : decode prog_71_method_1_code 112 = .ok (.aload_n 3, 1) := by decide +kernel
theorem d12_113 : decode prog_71_method_1_code 113 = .ok (.putfield 40, 3) := by decide +kernel
theorem d12_116 : decode prog_71_method_1_code 116 = .ok (.aload_n 0, 1) := by decide +kernel
theorem d12_117 : decode prog_71_method_1_code 117 = .ok (.aload 4, 2) := by decide +kernel
theorem d12_119 : decode prog_71_method_1_code 119 = .ok (.putfield 44, 3) := by decide +kernel
theorem d12_122 : decode prog_71_method_1_code 122 = .ok (.aload_n 0, 1) := by decide +kernel
theorem d12_123 : decode prog_71_method_1_code 123 = .ok (.aload 5, 2) := by decide +kernel
theorem d12_125 : decode prog_71_method_1_code 125 = .ok (.putfield 48, 3) := by decide +kernel
theorem d12_128 : decode prog_71_method_1_code 128 = .ok (.aload_n 0, 1) := by decide +kernel
theorem d12_129 : decode prog_71_method_1_code 129 = .ok (.aload 6, 2) := by decide +kernel
theorem d12_131 : decode prog_71_method_1_code 131 = .ok (.putfield 51, 3) := by decide +kernel
theorem d12_134 : decode prog_71_method_1_code 134 = .ok (.aload_n 0, 1) := by decide +kernel
theorem d12_135 : decode prog_71_method_1_code 135 = .ok (.aload 7, 2) := by decide +kernel
theorem d12_137 : decode prog_71_method_1_code 137 = .ok (.putfield 54, 3) := by decide +kernel
theorem d12_140 : decode prog_71_method_1_code 140 = .ok (.aload_n 0, 1) := by decide +kernel
theorem d12_141 : decode prog_71_method_1_code 141 = .ok (.aload 8, 2) := by decide +kernel
theorem d12_143 : decode prog_71_method_1_code 143 = .ok (.putfield 57, 3) := by decide +kernel
theorem d12_146 : decode prog_71_method_1_code 146 = .ok (.aload_n 0, 1) := by decide +kernel
theorem d12_147 : decode prog_71_method_1_code 147 = .ok (.aload 9, 2) := by decide +kernel
theorem d12_149 : decode prog_71_method_1_code 149 = .ok (.putfield 61, 3) := by decide +kernel
theorem d12_152 : decode prog_71_method_1_code 152 = .ok (.aload_n 0, 1) := by decide +kernel
theorem d12_153 : decode prog_71_method_1_code 153 = .ok (.aload 10, 2) := by decide +kernel
theorem d12_155 : decode prog_71_method_1_code 155 = .ok (.putfield 64, 3) := by decide +kernel
theorem d12_158 : decode prog_71_method_1_code 158 = .ok (.aload_n 0, 1) := by decide +kernel
theorem d12_159 : decode prog_71_method_1_code 159 = .ok (.aload_n 1, 1) := by decide +kernel
theorem d12_160 : decode prog_71_method_1_code 160 = .ok (.invokevirtual 67, 3) := by decide +kernel
theorem d12_163 : decode prog_71_method_1_code 163 = .ok (.ifCond .eq 13, 3) := by decide +kernel
theorem d12_166 : decode prog_71_method_1_code 166 = .ok (.aload_n 0, 1) := by decide +kernel
theorem d12_167 : decode prog_71_method_1_code 167 = .ok (.invokevirtual 70, 3) := by decide +kernel
theorem d12_170 : decode prog_71_method_1_code 170 = .ok (.anewarray 74, 3) := by decide +kernel
theorem d12_173 : decode prog_71_method_1_code 173 = .ok (.goto 4, 3) := by decide +kernel
theorem d12_176 : decode prog_71_method_1_code 176 = .ok (.aconst_null, 1) := by decide +kernel
theorem d12_177 : decode prog_71_method_1_code 177 = .ok (.putfield 76, 3) := by decide +kernel
theorem d12_180 : decode prog_71_method_1_code 180 = .ok (.iconst 0, 1) := by decide +kernel
theorem d12_181 : decode prog_71_method_1_code 181 = .ok (.istore 11, 2) := by decide +kernel
theorem d12_183 : decode prog_71_method_1_code 183 = .ok (.aload_n 0, 1) := by decide +kernel
theorem d12_184 : decode prog_71_method_1_code 184 = .ok (.getfield 76, 3) := by decide +kernel
theorem d12_187 : decode prog_71_method_1_code 187 = .ok (.ifnull 76, 3) := by decide +kernel
theorem d12_190 : decode prog_71_method_1_code 190 = .ok (.iload 11, 2) := by decide +kernel
theorem d12_192 : decode prog_71_method_1_code 192 = .ok (.aload_n 0, 1) := by decide +kernel
theorem d12_193 : decode prog_71_method_1_code 193 = .ok (.getfield 76, 3) := by decide +kernel
theorem d12_196 : decode prog_71_method_1_code 196 = .ok (.arraylength, 1) := by decide +kernel
theorem d12_197 : decode prog_71_method_1_code 197 = .ok (.if_icmp .ge 66, 3) := by decide +kernel
theorem d12_200 : decode prog_71_method_1_code 200 = .ok (.getstatic 79, 3) := by decide +kernel
theorem d12_203 : decode prog_71_method_1_code 203 = .ok (.astore 12, 2) := by decide +kernel
theorem d12_205 : decode prog_71_method_1_code 205 = .ok (.aload 6, 2) := by decide +kernel
theorem d12_207 : decode prog_71_method_1_code 207 = .ok (.iload 11, 2) := by decide +kernel
theorem d12_209 : decode prog_71_method_1_code 209 = .ok (.iaload, 1) := by decide +kernel
theorem d12_210 : decode prog_71_method_1_code 210 = .ok (.istore 13, 2) := by decide +kernel
theorem d12_212 : decode prog_71_method_1_code 212 = .ok (.iload 13, 2) := by decide +kernel
theorem d12_214 : decode prog_71_method_1_code 214 = .ok (.aload 6, 2) := by decide +kernel
theorem d12_216 : decode prog_71_method_1_code 216 = .ok (.iload 11, 2) := by decide +kernel
theorem d12_218 : decode prog_71_method_1_code 218 = .ok (.iconst 1, 1) := by decide +kernel
theorem d12_219 : decode prog_71_method_1_code 219 = .ok (.iadd, 1) := by decide +kernel
theorem d12_220 : decode prog_71_method_1_code 220 = .ok (.iaload, 1) := by decide +kernel
theorem d12_221 : decode prog_71_method_1_code 221 = .ok (.if_icmp .ge 21, 3) := by decide +kernel
theorem d12_224 : decode prog_71_method_1_code 224 = .ok (.aload 12, 2) := by decide +kernel
theorem d12_226 : decode prog_71_method_1_code 226 = .ok (.aload 8, 2) := by decide +kernel
theorem d12_228 : decode prog_71_method_1_code 228 = .ok (.iload 13, 2) := by decide +kernel
theorem d12_230 : decode prog_71_method_1_code 230 = .ok (.aaload, 1) := by decide +kernel
theorem d12_231 : decode prog_71_method_1_code 231 = .ok (.invokevirtual 83, 3) := by decide +kernel
theorem d12_234 : decode prog_71_method_1_code 234 = .ok (.astore 12, 2) := by decide +kernel
theorem d12_236 : decode prog_71_method_1_code 236 = .ok (.iinc 13 1, 3) := by decide +kernel
theorem d12_239 : decode prog_71_method_1_code 239 = .ok (.goto (-27), 3) := by decide +kernel
theorem d12_242 : decode prog_71_method_1_code 242 = .ok (.aload_n 0, 1) := by decide +kernel
theorem d12_243 : decode prog_71_method_1_code 243 = .ok (.getfield 76, 3) := by decide +kernel
theorem d12_246 : decode prog_71_method_1_code 246 = .ok (.iload 11, 2) := by decide +kernel
theorem d12_248 : decode prog_71_method_1_code 248 = .ok (.getstatic 87, 3) := by decide +kernel
theorem d12_251 : decode prog_71_method_1_code 251 = .ok (.aload 12, 2) := by decide +kernel
theorem d12_253 : decode prog_71_method_1_code 253 = .ok (.invokevirtual 90, 3) := by decide +kernel
theorem d12_256 : decode prog_71_method_1_code 256 = .ok (.aastore, 1) := by decide +kernel
theorem d12_257 : decode prog_71_method_1_code 257 = .ok (.iinc 11 1, 3) := by decide +kernel
theorem d12_260 : decode prog_71_method_1_code 260 = .ok (.goto (-77), 3) := by decide +kernel
theorem d12_263 : decode prog_71_method_1_code 263 = .ok (.iconst 0, 1) := by decide +kernel
theorem d12_264 : decode prog_71_method_1_code 264 = .ok (.istore 11, 2) := by decide +kernel
theorem d12_266 : decode prog_71_method_1_code 266 = .ok (.iload 11, 2) := by decide +kernel
theorem d12_268 : decode prog_71_method_1_code 268 = .ok (.aload_n 0, 1) := by decide +kernel
theorem d12_269 : decode prog_71_method_1_code 269 = .ok (.invokevirtual 93, 3) := by decide +kernel
theorem d12_272 : decode prog_71_method_1_code 272 = .ok (.if_icmp .ge 74, 3) := by decide +kernel
theorem d12_275 : decode prog_71_method_1_code 275 = .ok (.iconst 1, 1) := by decide +kernel
theorem d12_276 : decode prog_71_method_1_code 276 = .ok (.istore 12, 2) := by decide +kernel
theorem d12_278 : decode prog_71_method_1_code 278 = .ok (.aload 6, 2) := by decide +kernel
theorem d12_280 : decode prog_71_method_1_code 280 = .ok (.aload 5, 2) := by decide +kernel
theorem d12_282 : decode prog_71_method_1_code 282 = .ok (.iload 11, 2) := by decide +kernel
theorem d12_284 : decode prog_71_method_1_code 284 = .ok (.iaload, 1) := by decide +kernel
theorem d12_285 : decode prog_71_method_1_code 285 = .ok (.iaload, 1) := by decide +kernel
theorem d12_286 : decode prog_71_method_1_code 286 = .ok (.istore 13, 2) := by decide +kernel
theorem d12_288 : decode prog_71_method_1_code 288 = .ok (.iload 13, 2) := by decide +kernel
theorem d12_290 : decode prog_71_method_1_code 290 = .ok (.aload 6, 2) := by decide +kernel
theorem d12_292 : decode prog_71_method_1_code 292 = .ok (.aload 5, 2) := by decide +kernel
theorem d12_294 : decode prog_71_method_1_code 294 = .ok (.iload 11, 2) := by decide +kernel
theorem d12_296 : decode prog_71_method_1_code 296 = .ok (.iconst 1, 1) := by decide +kernel
theorem d12_297 : decode prog_71_method_1_code 297 = .ok (.iadd, 1) := by decide +kernel
theorem d12_298 : decode prog_71_method_1_code 298 = .ok (.iaload, 1) := by decide +kernel
theorem d12_299 : decode prog_71_method_1_code 299 = .ok (.iaload, 1) := by decide +kernel
theorem d12_300 : decode prog_71_method_1_code 300 = .ok (.if_icmp .ge 29, 3) := by decide +kernel
theorem d12_303 : decode prog_71_method_1_code 303 = .ok (.iload 12, 2) := by decide +kernel
theorem d12_305 : decode prog_71_method_1_code 305 = .ok (.aload 7, 2) := by decide +kernel
theorem d12_307 : decode prog_71_method_1_code 307 = .ok (.iload 13, 2) := by decide +kernel
theorem d12_309 : decode prog_71_method_1_code 309 = .ok (.iaload, 1) := by decide +kernel
theorem d12_310 : decode prog_71_method_1_code 310 = .ok (.iload 11, 2) := by decide +kernel
theorem d12_312 : decode prog_71_method_1_code 312 = .ok (.if_icmp .ne 7, 3) := by decide +kernel
theorem d12_315 : decode prog_71_method_1_code 315 = .ok (.iconst 1, 1) := by decide +kernel
theorem d12_316 : decode prog_71_method_1_code 316 = .ok (.goto 4, 3) := by decide +kernel
theorem d12_319 : decode prog_71_method_1_code 319 = .ok (.iconst 0, 1) := by decide +kernel
theorem d12_320 : decode prog_71_method_1_code 320 = .ok (.iand, 1) := by decide +kernel
theorem d12_321 : decode prog_71_method_1_code 321 = .ok (.istore 12, 2) := by decide +kernel
theorem d12_323 : decode prog_71_method_1_code 323 = .ok (.iinc 13 1, 3) := by decide +kernel
theorem d12_326 : decode prog_71_method_1_code 326 = .ok (.goto (-38), 3) := by decide +kernel
theorem d12_329 : decode prog_71_method_1_code 329 = .ok (.aload_n 0, 1) := by decide +kernel
theorem d12_330 : decode prog_71_method_1_code 330 = .ok (.getfield 10, 3) := by decide +kernel
theorem d12_333 : decode prog_71_method_1_code 333 = .ok (.iload 11, 2) := by decide +kernel
theorem d12_335 : decode prog_71_method_1_code 335 = .ok (.iload 12, 2) := by decide +kernel
theorem d12_337 : decode prog_71_method_1_code 337 = .ok (.invokevirtual 96, 3) := by decide +kernel
theorem d12_340 : decode prog_71_method_1_code 340 = .ok (.iinc 11 1, 3) := by decide +kernel
theorem d12_343 : decode prog_71_method_1_code 343 = .ok (.goto (-77), 3) := by decide +kernel
theorem d12_346 : decode prog_71_method_1_code 346 = .ok (.return_, 1) := by decide +kernel
theorem pn_4 : plainName "com/example/qopa/qopa/model/Model" = true := by first | (simp [plainName, overriddenIn]; done) | decide +kernel
theorem pd_12 : parseMethodDescriptor "()Z" = some ⟨[], some .boolean⟩ := by decide +kernel
theorem d13_0 : decode jdk_92_method_4_code 0 = .ok (.aload_n 0, 1) := by decide +kernel
theorem d13_1 : decode jdk_92_method_4_code 1 = .ok (.invokespecial 21, 3) := by decide +kernel
theorem d13_4 : decode jdk_92_method_4_code 4 = .ok (.aload_n 0, 1) := by decide +kernel
theorem d13_5 : decode jdk_92_method_4_code 5 = .ok (.iconst 0, 1) := by decide +kernel
theorem d13_6 : decode jdk_92_method_4_code 6 = .ok (.putfield 7, 3) := by decide +kernel
theorem d13_9 : decode jdk_92_method_4_code 9 = .ok (.aload_n 0, 1) := by decide +kernel
theorem d13_10 : decode jdk_92_method_4_code 10 = .ok (.iconst 0, 1) := by decide +kernel
theorem d13_11 : decode jdk_92_method_4_code 11 = .ok (.putfield 24, 3) := by decide +kernel
theorem d13_14 : decode jdk_92_method_4_code 14 = .ok (.aload_n 0, 1) := by decide +kernel
theorem d13_15 : decode jdk_92_method_4_code 15 = .ok (.bipush 64, 2) := by decide +kernel
theorem d13_17 : decode jdk_92_method_4_code 17 = .ok (.invokevirtual 27, 3) := by decide +kernel
theorem d13_20 : decode jdk_92_method_4_code 20 = .ok (.aload_n 0, 1) := by decide +kernel
theorem d13_21 : decode jdk_92_method_4_code 21 = .ok (.iconst 0, 1) := by decide +kernel
theorem d13_22 : decode jdk_92_method_4_code 22 = .ok (.putfield 24, 3) := by decide +kernel
theorem d13_25 : decode jdk_92_method_4_code 25 = .ok (.return_, 1) := by decide +kernel
theorem pn_5 : plainName "java/util/BitSet" = true := by first | (simp [plainName, overriddenIn]; done) | decide +kernel
theorem pd_13 : parseMethodDescriptor "(I)V" = some ⟨[.int], none⟩ := by decide +kernel
theorem d14_0 : decode jdk_92_method_6_code 0 = .ok (.aload_n 0, 1) := by decide +kernel
theorem d14_1 : decode jdk_92_method_6_code 1 = .ok (.iload_n 1, 1) := by decide +kernel
theorem d14_2 : decode jdk_92_method_6_code 2 = .ok (.iconst 1, 1) := by decide +kernel
theorem d14_3 : decode jdk_92_method_6_code 3 = .ok (.isub, 1) := by decide +kernel
theorem d14_4 : decode jdk_92_method_6_code 4 = .ok (.invokestatic 52, 3) := by decide +kernel
theorem d14_7 : decode jdk_92_method_6_code 7 = .ok (.iconst 1, 1) := by decide +kernel
theorem d14_8 : decode jdk_92_method_6_code 8 = .ok (.iadd, 1) := by decide +kernel
theorem d14_9 : decode jdk_92_method_6_code 9 = .ok (.newarray .long, 2) := by decide +kernel
theorem d14_11 : decode jdk_92_method_6_code 11 = .ok (.putfield 11, 3) := by decide +kernel
theorem d14_14 : decode jdk_92_method_6_code 14 = .ok (.return_, 1) := by decide +kernel
theorem d15_0 : decode jdk_92_method_1_code 0 = .ok (.iload_n 0, 1) := by decide +kernel
theorem d15_1 : decode jdk_92_method_1_code 1 = .ok (.bipush 6, 2) := by decide +kernel
theorem d15_3 : decode jdk_92_method_1_code 3 = .ok (.ishr, 1) := by decide +kernel
theorem d15_4 : decode jdk_92_method_1_code 4 = .ok (.ireturn, 1) := by decide +kernel
theorem ef_15_20 (m : MethodId)  : entryFrame m #[(.int (63 : Int32))] 1 = mkF m 0 #[.val (.int (63 : Int32))] [] := by first | (simp [entryFrame, mkF, argsToLocals, Value.category]; done) | rfl
def Q15_20 (Z : State)  (h0 : Heap) (n0 : Nat) (v : Option Value) (h : Heap) (L : List Loc) : Prop := v = some (.int (0 : Int32)) ∧ Fr n0 L ∧ h = h0
set_option maxRecDepth 65536 in
set_option maxHeartbeats 40000000 in
theorem rm15_20 (l : Launch) (Z : State) (a0 : Array Value) (hw : ∀ d ∈ tables_1, d.before a0 Z = true) (ws : List Jvm.Cond)  (h0 : Heap) (n0 : Nat) (Z0 : n0 ≤ h0.size)  :
    MetFree l (⟨"java/util/BitSet", "wordIndex", "(I)I"⟩ : MethodName) (head1 (Jvm.Cond.code (⟨"java/util/BitSet", "wordIndex", "(I)I"⟩ : MethodName) jdk_92_method_1_code 1 (some .int) :: ws) ({ frames := 0, cells := 0, slots := 0, locals := 0 } : Room)) (fun a U => a = #[(.int (63 : Int32))] ∧ Z.Warmed39 U.vm ∧ U.heap = h0) (fun _ _ _ _ _ => True) (fun _ U o U' => ∃ v L, o = .returned v ∧ Q15_20 Z  h0 n0 v U'.heap L ∧ FrameEnd U o U' L ({ frames := 0, cells := 0, slots := 0, locals := 0 } : Room).cells ({ frames := 0, cells := 0, slots := 0, locals := 0 } : Room).slots) := by
  refine own_body (plainFor_of_name pn_5) ?_
  intro p e s m below meth c s₁ G hx hby hml hZ hown hnm hret X0 e0 step fin
  replace hown : s.vm.findClass "java/util/BitSet" = some m.cls := hown
  replace hnm : meth.name = "wordIndex" := hnm
  replace hret : meth.sig.returnType = some .int := hret
  replace hml : c.maxLocals = 1 := hml
  have N0 := Fr.nil n0
  refine step (s₁.setTop (mkF m 0 #[.val (.int (63 : Int32))] [])) (fun t k => castTop (ef_15_20 m ) k) ?_
  refine step (s₁.setTop (mkF m 1 #[.val (.int (63 : Int32))] [(.int (63 : Int32))])) (fun t k => XS.iloadN X0.here hx rfl (hb hby d15_0) rfl k) ?_
  refine step (s₁.setTop (mkF m 3 #[.val (.int (63 : Int32))] [(.int (6 : Int32)), (.int (63 : Int32))])) (fun t k => XS.bipush X0.here hx rfl (hb hby d15_1) k) ?_
  refine step (s₁.setTop (mkF m 4 #[.val (.int (63 : Int32))] [(.int (0 : Int32))])) (fun t k => XS.ishr X0.here hx rfl (hb hby d15_3) rfl k) ?_
  refine fin (v := some (.int (0 : Int32))) X0 (fun h => by cases h) ?_ (by decide) (by decide) (fun fs hr => retI X0 hx hret (hb hby d15_4) hr)
  show Q15_20 Z  h0 n0 (some (.int (0 : Int32))) s₁.heap _
  rw [e0]
  exact ⟨rfl, N0, rfl⟩
theorem ef_14_19 (m : MethodId) (x0 : Addr) : entryFrame m #[(.ref x0), (.int (64 : Int32))] 2 = mkF m 0 #[.val (.ref x0), .val (.int (64 : Int32))] [] := by first | (simp [entryFrame, mkF, argsToLocals, Value.category]; done) | rfl
def Q14_19 (Z : State) (o1 : Addr) (h0 : Heap) (n0 : Nat) (v : Option Value) (h : Heap) (L : List Loc) : Prop := ∃ (b2 : Addr) (k2 : ClassId), v = none ∧ Fr n0 L ∧ Keep h0 h [o1] ∧ h0.size ≤ b2 ∧ Fld Z h o1 "java/util/BitSet" "sizeIsSticky" "Z" (.int (0 : Int32)) ∧ Fld Z h o1 "java/util/BitSet" "words" "[J" (.ref b2) ∧ Fld Z h o1 "java/util/BitSet" "wordsInUse" "I" (.int (0 : Int32)) ∧ Arv Z h b2 k2 .long (1 : Int32) [(.long (0 : Int64))] (.long (0 : Int64))
set_option maxRecDepth 65536 in
set_option maxHeartbeats 40000000 in
theorem rm14_19 (l : Launch) (Z : State) (a0 : Array Value) (hw : ∀ d ∈ tables_1, d.before a0 Z = true) (ws : List Jvm.Cond) (o1 : Addr) (h0 : Heap) (n0 : Nat) (Z0 : n0 ≤ h0.size) (Pm0 : Exa Z h0 o1 "java/util/BitSet") (Pm1 : Fld Z h0 o1 "java/util/BitSet" "sizeIsSticky" "Z" (.int (0 : Int32))) (Pm2 : Fld Z h0 o1 "java/util/BitSet" "words" "[J" .null) (Pm3 : Fld Z h0 o1 "java/util/BitSet" "wordsInUse" "I" (.int (0 : Int32))) (gn_o1 : n0 ≤ o1)  :
    MetFree l (⟨"java/util/BitSet", "initWords", "(I)V"⟩ : MethodName) (head1 (Jvm.Cond.code (⟨"java/util/BitSet", "initWords", "(I)V"⟩ : MethodName) jdk_92_method_6_code 2 none :: ws) ({ frames := 1, cells := 1, slots := 1, locals := 13 } : Room)) (fun a U => a = #[(.ref o1), (.int (64 : Int32))] ∧ Z.Warmed39 U.vm ∧ U.heap = h0) (fun _ _ _ _ _ => True) (fun _ U o U' => ∃ v L, o = .returned v ∧ Q14_19 Z o1 h0 n0 v U'.heap L ∧ FrameEnd U o U' L ({ frames := 1, cells := 1, slots := 1, locals := 13 } : Room).cells ({ frames := 1, cells := 1, slots := 1, locals := 13 } : Room).slots) := by
  refine own_body (plainFor_of_name pn_5) ?_
  intro p e s m below meth c s₁ G hx hby hml hZ hown hnm hret X0 e0 step fin
  replace hown : s.vm.findClass "java/util/BitSet" = some m.cls := hown
  replace hnm : meth.name = "initWords" := hnm
  replace hret : meth.sig.returnType = none := hret
  replace hml : c.maxLocals = 2 := hml
  have N0 := Fr.nil n0
  refine step (s₁.setTop (mkF m 0 #[.val (.ref o1), .val (.int (64 : Int32))] [])) (fun t k => castTop (ef_14_19 m o1) k) ?_
  refine step (s₁.setTop (mkF m 1 #[.val (.ref o1), .val (.int (64 : Int32))] [(.ref o1)])) (fun t k => XS.aloadN X0.here hx rfl (hb hby d14_0) rfl rfl k) ?_
  refine step (s₁.setTop (mkF m 2 #[.val (.ref o1), .val (.int (64 : Int32))] [(.int (64 : Int32)), (.ref o1)])) (fun t k => XS.iloadN X0.here hx rfl (hb hby d14_1) rfl k) ?_
  refine step (s₁.setTop (mkF m 3 #[.val (.ref o1), .val (.int (64 : Int32))] [(.int (1 : Int32)), (.int (64 : Int32)), (.ref o1)])) (fun t k => XS.iconst X0.here hx rfl (hb hby d14_2) k) ?_
  refine step (s₁.setTop (mkF m 4 #[.val (.ref o1), .val (.int (64 : Int32))] [(.int (63 : Int32)), (.ref o1)])) (fun t k => XS.isub X0.here hx rfl (hb hby d14_3) rfl k) ?_
  obtain ⟨_, _, ⟨T1, L1, k1, n1⟩, -, X1, ⟨Lc1, hQ1, l1, y1, z1⟩, st1⟩ := Jvm.LawKit.callS X0 hx (y := (⟨"java/util/BitSet", "wordIndex", "(I)I"⟩ : MethodName)) hown (mvT hZ (hw _ (List.mem_of_getElem? (i := 106) rfl))) (mvT hZ (hw _ (List.mem_of_getElem? (i := 107) rfl))) (mvT hZ (hw _ (List.mem_of_getElem? (i := 92) rfl))) (mvT hZ (hw _ (List.mem_of_getElem? (i := 108) rfl))) (by decide) (backOf (W := 1) (rm15_20 l Z a0 hw []  h0 n0 Z0 ) hZ (hw _ (List.mem_of_getElem? (i := 108) rfl)) (hw _ (List.mem_of_getElem? (i := 92) rfl)) (by decide) (by decide)) (g := (mkF m 4 #[.val (.ref o1), .val (.int (64 : Int32))] [(.int (63 : Int32)), (.ref o1)])) rfl (by rw [hml]; rfl) (argsL := [(.int (63 : Int32))]) (rest := [(.ref o1)]) (lenOf pd_0 rfl) rfl (by show 2 * 0 + _ ≤ _; exact Nat.le_of_eq rfl) (hb hby d14_4) (fun _ _ => ⟨rfl, e0, (by decide : 0 + 0 ≤ _), (by decide : 0 + 0 ≤ _)⟩)
  dsimp only [Pt.U, Pt.locs, Pt.cells, Pt.slots] at X1 l1 y1 z1 st1 hQ1
  subst l1 y1 z1
  obtain ⟨rfl, N1q, e1q⟩ := hQ1
  have N1 := Fr.app N0 N1q
  refine step (T1.setTop (mkF m 7 #[.val (.ref o1), .val (.int (64 : Int32))] [(.int (0 : Int32)), (.ref o1)])) (fun t k => st1 t k) ?_
  refine step (T1.setTop (mkF m 8 #[.val (.ref o1), .val (.int (64 : Int32))] [(.int (1 : Int32)), (.int (0 : Int32)), (.ref o1)])) (fun t k => XS.iconst X1.here hx rfl (hb hby d14_7) k) ?_
  refine step (T1.setTop (mkF m 9 #[.val (.ref o1), .val (.int (64 : Int32))] [(.int (1 : Int32)), (.ref o1)])) (fun t k => XS.iadd X1.here hx rfl (hb hby d14_8) rfl k) ?_
  obtain ⟨T2, h2, k2, X2, e2, E2, A2, st2⟩ := newP X1 hx hZ (hw _ (List.mem_of_getElem? (i := 109) rfl)) e1q (g := (mkF m 9 #[.val (.ref o1), .val (.int (64 : Int32))] [(.int (1 : Int32)), (.ref o1)])) rfl (hb hby d14_9) rfl (by decide) (cap := 1) (by decide) (by decide) (by decide) (by decide)
  obtain ⟨b2, g2⟩ : ∃ z, z = h0.size := ⟨_, rfl⟩
  rw [← g2] at A2 st2
  have ne_o1_b2 : o1 ≠ b2 := Nat.ne_of_lt (Nat.lt_of_lt_of_le Pm0.lt (Nat.le_of_eq g2.symm))
  have gn_b2 : n0 ≤ b2 := Nat.le_trans Z0 (Nat.le_of_eq g2.symm)
  have sz_b2 : h0.size ≤ b2 := Nat.le_of_eq g2.symm
  have K2 : Keep h0 h2 [o1] := (Keep.refl h0 [o1]).ext E2
  have V2 : Arv Z h2 b2 k2 .long (1 : Int32) [(.long (0 : Int64))] (.long (0 : Int64)) := (Arv.new A2 (by decide)).pad (pad_rep [] (.long (0 : Int64)) 1)
  refine step (T2.setTop (mkF m 11 #[.val (.ref o1), .val (.int (64 : Int32))] [(.ref b2), (.ref o1)])) (fun t k => st2 t k) ?_
  have f3 := (Pm0.ext E2)
  have f4 := (Pm2.ext E2)
  obtain ⟨T5, h5, X5, e5, W5, st5⟩ := putF X2 hx hZ hown (host := "") (Or.inl (hw _ (List.mem_of_getElem? (i := 110) rfl))) Via.refl e2 f4 f3 (Or.inl (hw _ (List.mem_of_getElem? (i := 111) rfl))) (hw _ (List.mem_of_getElem? (i := 91) rfl)) (ty := (.array .long)) (by decide) rfl rfl (g := (mkF m 11 #[.val (.ref o1), .val (.int (64 : Int32))] [(.ref b2), (.ref o1)])) rfl rfl (hb hby d14_11)
  have N5 := Fr.snoc X5 N1 gn_o1
  have K5 : Keep h0 h5 [o1] := K2.wr W5 (Or.inl (List.mem_of_getElem? (i := 0) rfl))
  have F5 := f4.same W5
  refine step (T5.setTop (mkF m 14 #[.val (.ref o1), .val (.int (64 : Int32))] [])) (fun t k => st5 t k) ?_
  have f6 := ((Pm1.ext E2).other W5 (Or.inr (slot_ne (Or.inl (hw _ (List.mem_of_getElem? (i := 100) rfl))) (Or.inl (hw _ (List.mem_of_getElem? (i := 111) rfl))) (by decide) (t := .boolean) (t' := (.array .long)) (by decide) (by decide))))
  have f7 := ((Pm3.ext E2).other W5 (Or.inr (slot_ne (Or.inl (hw _ (List.mem_of_getElem? (i := 98) rfl))) (Or.inl (hw _ (List.mem_of_getElem? (i := 111) rfl))) (by decide) (t := .int) (t' := (.array .long)) (by decide) (by decide))))
  have f8 := (V2.other W5 (Ne.symm ne_o1_b2))
  refine fin (v := none) X5 (fun _ => rfl) ?_ (by decide) (by decide) (fun fs hr => X5.returnOut hx hret (hb hby d14_14) hr)
  show Q14_19 Z o1 h0 n0 (none) T5.heap _
  rw [e5]
  exact ⟨b2, k2, rfl, N5, K5, sz_b2, f6, F5, f7, f8⟩
theorem ef_13_18 (m : MethodId) (x0 : Addr) : entryFrame m #[(.ref x0)] 1 = mkF m 0 #[.val (.ref x0)] [] := by first | (simp [entryFrame, mkF, argsToLocals, Value.category]; done) | rfl
def Q13_18 (Z : State) (o1 : Addr) (h0 : Heap) (n0 : Nat) (v : Option Value) (h : Heap) (L : List Loc) : Prop := ∃ (b2_9 : Addr) (k2_9 : ClassId), v = none ∧ Fr n0 L ∧ Keep h0 h [o1] ∧ h0.size ≤ b2_9 ∧ Fld Z h o1 "java/util/BitSet" "sizeIsSticky" "Z" (.int (0 : Int32)) ∧ Fld Z h o1 "java/util/BitSet" "words" "[J" (.ref b2_9) ∧ Fld Z h o1 "java/util/BitSet" "wordsInUse" "I" (.int (0 : Int32)) ∧ Arv Z h b2_9 k2_9 .long (1 : Int32) [(.long (0 : Int64))] (.long (0 : Int64))
set_option maxRecDepth 65536 in
set_option maxHeartbeats 40000000 in
theorem rm13_18 (l : Launch) (Z : State) (a0 : Array Value) (hw : ∀ d ∈ tables_1, d.before a0 Z = true) (ws : List Jvm.Cond) (o1 : Addr) (h0 : Heap) (n0 : Nat) (Z0 : n0 ≤ h0.size) (Pm0 : Exa Z h0 o1 "java/util/BitSet") (Pm1 : Fld Z h0 o1 "java/util/BitSet" "sizeIsSticky" "Z" (.int (0 : Int32))) (Pm2 : Fld Z h0 o1 "java/util/BitSet" "words" "[J" .null) (Pm3 : Fld Z h0 o1 "java/util/BitSet" "wordsInUse" "I" (.int (0 : Int32))) (gn_o1 : n0 ≤ o1)  :
    MetFree l (⟨"java/util/BitSet", "<init>", "()V"⟩ : MethodName) (head1 (Jvm.Cond.code (⟨"java/util/BitSet", "<init>", "()V"⟩ : MethodName) jdk_92_method_4_code 1 none :: ws) ({ frames := 2, cells := 1, slots := 1, locals := 26 } : Room)) (fun a U => a = #[(.ref o1)] ∧ Z.Warmed39 U.vm ∧ U.heap = h0) (fun _ _ _ _ _ => True) (fun _ U o U' => ∃ v L, o = .returned v ∧ Q13_18 Z o1 h0 n0 v U'.heap L ∧ FrameEnd U o U' L ({ frames := 2, cells := 1, slots := 1, locals := 26 } : Room).cells ({ frames := 2, cells := 1, slots := 1, locals := 26 } : Room).slots) := by
  refine own_body (plainFor_of_name pn_5) ?_
  intro p e s m below meth c s₁ G hx hby hml hZ hown hnm hret X0 e0 step fin
  replace hown : s.vm.findClass "java/util/BitSet" = some m.cls := hown
  replace hnm : meth.name = "<init>" := hnm
  replace hret : meth.sig.returnType = none := hret
  replace hml : c.maxLocals = 1 := hml
  have N0 := Fr.nil n0
  refine step (s₁.setTop (mkF m 0 #[.val (.ref o1)] [])) (fun t k => castTop (ef_13_18 m o1) k) ?_
  refine step (s₁.setTop (mkF m 1 #[.val (.ref o1)] [(.ref o1)])) (fun t k => XS.aloadN X0.here hx rfl (hb hby d13_0) rfl rfl k) ?_
  obtain ⟨T1, X1, e1, st1⟩ := initO X0 hx hZ hown (hw _ (List.mem_of_getElem? (i := 96) rfl)) (hw _ (List.mem_of_getElem? (i := 12) rfl)) (hw _ (List.mem_of_getElem? (i := 13) rfl)) e0 (g := (mkF m 1 #[.val (.ref o1)] [(.ref o1)])) rfl (by rw [hml]; rfl) rfl (hb hby d13_1) (by decide) (W := 0) (by show 2 * 0 + _ ≤ _; exact Nat.le_of_eq rfl) (by decide)
  refine step (T1.setTop (mkF m 4 #[.val (.ref o1)] [])) (fun t k => st1 t k) ?_
  refine step (T1.setTop (mkF m 5 #[.val (.ref o1)] [(.ref o1)])) (fun t k => XS.aloadN X1.here hx rfl (hb hby d13_4) rfl rfl k) ?_
  refine step (T1.setTop (mkF m 6 #[.val (.ref o1)] [(.int (0 : Int32)), (.ref o1)])) (fun t k => XS.iconst X1.here hx rfl (hb hby d13_5) k) ?_
  obtain ⟨T2, h2, X2, e2, W2, st2⟩ := putF X1 hx hZ hown (host := "") (Or.inl (hw _ (List.mem_of_getElem? (i := 97) rfl))) Via.refl e1 Pm3 Pm0 (Or.inl (hw _ (List.mem_of_getElem? (i := 98) rfl))) (hw _ (List.mem_of_getElem? (i := 91) rfl)) (ty := .int) (by decide) rfl rfl (g := (mkF m 6 #[.val (.ref o1)] [(.int (0 : Int32)), (.ref o1)])) rfl rfl (hb hby d13_6)
  have N2 := Fr.snoc X2 N0 gn_o1
  have K2 : Keep h0 h2 [o1] := (Keep.refl h0 [o1]).wr W2 (Or.inl (List.mem_of_getElem? (i := 0) rfl))
  have F2 := Pm3.same W2
  refine step (T2.setTop (mkF m 9 #[.val (.ref o1)] [])) (fun t k => st2 t k) ?_
  refine step (T2.setTop (mkF m 10 #[.val (.ref o1)] [(.ref o1)])) (fun t k => XS.aloadN X2.here hx rfl (hb hby d13_9) rfl rfl k) ?_
  refine step (T2.setTop (mkF m 11 #[.val (.ref o1)] [(.int (0 : Int32)), (.ref o1)])) (fun t k => XS.iconst X2.here hx rfl (hb hby d13_10) k) ?_
  have f3 := (Pm0.wr W2)
  have f4 := (Pm1.other W2 (Or.inr (slot_ne (Or.inl (hw _ (List.mem_of_getElem? (i := 100) rfl))) (Or.inl (hw _ (List.mem_of_getElem? (i := 98) rfl))) (by decide) (t := .boolean) (t' := .int) (by decide) (by decide))))
  obtain ⟨T5, h5, X5, e5, W5, st5⟩ := putFN X2 hx hZ hown (hw _ (List.mem_of_getElem? (i := 99) rfl)) Via.refl e2 f4 f3 (Or.inl (hw _ (List.mem_of_getElem? (i := 100) rfl))) (hw _ (List.mem_of_getElem? (i := 91) rfl)) (ty := .boolean) (v' := (.int (0 : Int32))) (by decide) rfl (fits_nar_bool (0 : Int32)) (g := (mkF m 11 #[.val (.ref o1)] [(.int (0 : Int32)), (.ref o1)])) rfl rfl (hb hby d13_11)
  have N5 := Fr.snoc X5 N2 gn_o1
  have K5 : Keep h0 h5 [o1] := K2.wr W5 (Or.inl (List.mem_of_getElem? (i := 0) rfl))
  have F5 := f4.same W5
  refine step (T5.setTop (mkF m 14 #[.val (.ref o1)] [])) (fun t k => st5 t k) ?_
  refine step (T5.setTop (mkF m 15 #[.val (.ref o1)] [(.ref o1)])) (fun t k => XS.aloadN X5.here hx rfl (hb hby d13_14) rfl rfl k) ?_
  refine step (T5.setTop (mkF m 17 #[.val (.ref o1)] [(.int (64 : Int32)), (.ref o1)])) (fun t k => XS.bipush X5.here hx rfl (hb hby d13_15) k) ?_
  have f6 := (f3.wr W5)
  have f7 := ((Pm2.other W2 (Or.inr (slot_ne (Or.inl (hw _ (List.mem_of_getElem? (i := 111) rfl))) (Or.inl (hw _ (List.mem_of_getElem? (i := 98) rfl))) (by decide) (t := (.array .long)) (t' := .int) (by decide) (by decide)))).other W5 (Or.inr (slot_ne (Or.inl (hw _ (List.mem_of_getElem? (i := 111) rfl))) (Or.inl (hw _ (List.mem_of_getElem? (i := 100) rfl))) (by decide) (t := (.array .long)) (t' := .boolean) (by decide) (by decide))))
  have f8 := (F2.other W5 (Or.inr (slot_ne (Or.inl (hw _ (List.mem_of_getElem? (i := 98) rfl))) (Or.inl (hw _ (List.mem_of_getElem? (i := 100) rfl))) (by decide) (t := .int) (t' := .boolean) (by decide) (by decide))))
  obtain ⟨cq9, q9, q9'⟩ := f6.cell
  obtain ⟨_, _, ⟨T9, L9, k9, n9⟩, -, X9, ⟨Lc9, hQ9, l9, y9, z9⟩, st9⟩ := X5.privateBack hx (y := (⟨"java/util/BitSet", "initWords", "(I)V"⟩ : MethodName)) hown (mvT hZ (hw _ (List.mem_of_getElem? (i := 101) rfl))) (mvT hZ (hw _ (List.mem_of_getElem? (i := 102) rfl))) (mvT hZ (hw _ (List.mem_of_getElem? (i := 104) rfl))) (Cond.privateMethod_at (mvP hZ (hw _ (List.mem_of_getElem? (i := 103) rfl)) (args := #[]))) (mvT hZ (hw _ (List.mem_of_getElem? (i := 105) rfl))) (by decide) (backOf (W := 0) (rm14_19 l Z a0 hw [] o1 h5 n0 (Nat.le_trans Z0 K5.1) f6 F5 f7 f8 gn_o1) hZ (hw _ (List.mem_of_getElem? (i := 105) rfl)) (hw _ (List.mem_of_getElem? (i := 92) rfl)) (by decide) (by decide)) (g := (mkF m 17 #[.val (.ref o1)] [(.int (64 : Int32)), (.ref o1)])) rfl (by rw [hml]; rfl) (Steps.refl _) (a := o1) (by rw [e5]; exact q9) q9' (argsL := [(.int (64 : Int32))]) (rest := []) (lenOf pd_13 rfl) rfl (by show 2 * 0 + _ ≤ _; exact Nat.le_of_eq rfl) (hb hby d13_17) (fun _ _ => ⟨rfl, e5, (by decide : 0 + 1 ≤ _), (by decide : 0 + 1 ≤ _)⟩)
  dsimp only [Pt.U, Pt.locs, Pt.cells, Pt.slots] at X9 l9 y9 z9 st9 hQ9
  subst l9 y9 z9
  obtain ⟨h9, e9⟩ : ∃ z, T9.heap = z := ⟨_, rfl⟩
  rw [e9] at hQ9
  obtain ⟨b2_9, k2_9, rfl, N9q, K9q, sz_b2_9, q0_9, q1_9, q2_9, q3_9⟩ := hQ9
  have N9 := Fr.app N5 N9q
  have lt9_o1 := f6.lt
  have ne_o1_b2_9 : o1 ≠ b2_9 := Nat.ne_of_lt (Nat.lt_of_lt_of_le lt9_o1 sz_b2_9)
  have gn_b2_9 : n0 ≤ b2_9 := Nat.le_trans (Nat.le_trans Z0 K5.1) sz_b2_9
  have sz_b2_9' := Nat.le_trans K5.1 sz_b2_9
  replace sz_b2_9 := sz_b2_9'
  have K9 : Keep h0 h9 [o1] := K5.trans K9q (allS (Or.inl (List.mem_of_getElem? (i := 0) rfl)) all0)
  refine step (T9.setTop (mkF m 20 #[.val (.ref o1)] [])) (fun t k => st9.trans k) ?_
  refine step (T9.setTop (mkF m 21 #[.val (.ref o1)] [(.ref o1)])) (fun t k => XS.aloadN X9.here hx rfl (hb hby d13_20) rfl rfl k) ?_
  refine step (T9.setTop (mkF m 22 #[.val (.ref o1)] [(.int (0 : Int32)), (.ref o1)])) (fun t k => XS.iconst X9.here hx rfl (hb hby d13_21) k) ?_
  have f10 := (f6.keep K9q)
  obtain ⟨T11, h11, X11, e11, W11, st11⟩ := putFN X9 hx hZ hown (hw _ (List.mem_of_getElem? (i := 99) rfl)) Via.refl e9 q0_9 f10 (Or.inl (hw _ (List.mem_of_getElem? (i := 100) rfl))) (hw _ (List.mem_of_getElem? (i := 91) rfl)) (ty := .boolean) (v' := (.int (0 : Int32))) (by decide) rfl (fits_nar_bool (0 : Int32)) (g := (mkF m 22 #[.val (.ref o1)] [(.int (0 : Int32)), (.ref o1)])) rfl rfl (hb hby d13_22)
  have N11 := Fr.snoc X11 N9 gn_o1
  have K11 : Keep h0 h11 [o1] := K9.wr W11 (Or.inl (List.mem_of_getElem? (i := 0) rfl))
  have F11 := q0_9.same W11
  refine step (T11.setTop (mkF m 25 #[.val (.ref o1)] [])) (fun t k => st11 t k) ?_
  have f12 := (q1_9.other W11 (Or.inr (slot_ne (Or.inl (hw _ (List.mem_of_getElem? (i := 111) rfl))) (Or.inl (hw _ (List.mem_of_getElem? (i := 100) rfl))) (by decide) (t := (.array .long)) (t' := .boolean) (by decide) (by decide))))
  have f13 := (q2_9.other W11 (Or.inr (slot_ne (Or.inl (hw _ (List.mem_of_getElem? (i := 98) rfl))) (Or.inl (hw _ (List.mem_of_getElem? (i := 100) rfl))) (by decide) (t := .int) (t' := .boolean) (by decide) (by decide))))
  have f14 := (q3_9.other W11 (Ne.symm ne_o1_b2_9))
  refine fin (v := none) X11 (fun _ => rfl) ?_ (by decide) (by decide) (fun fs hr => X11.returnOut hx hret (hb hby d13_25) hr)
  show Q13_18 Z o1 h0 n0 (none) T11.heap _
  rw [e11]
  exact ⟨b2_9, k2_9, rfl, N11, K11, sz_b2_9, F11, f12, f13, f14⟩
theorem d16_0 : decode prog_72_method_4_code 0 = .ok (.aload_n 0, 1) := by decide +kernel
theorem d16_1 : decode prog_72_method_4_code 1 = .ok (.getstatic 7, 3) := by decide +kernel
theorem d16_4 : decode prog_72_method_4_code 4 = .ok (.if_acmp .eq 7, 3) := by decide +kernel
theorem d16_7 : decode prog_72_method_4_code 7 = .ok (.iconst 1, 1) := by decide +kernel
theorem d16_8 : decode prog_72_method_4_code 8 = .ok (.goto 4, 3) := by decide +kernel
theorem d16_11 : decode prog_72_method_4_code 11 = .ok (.iconst 0, 1) := by decide +kernel
theorem d16_12 : decode prog_72_method_4_code 12 = .ok (.ireturn, 1) := by decide +kernel
theorem pn_6 : plainName "com/example/qopa/qopa/model/Model$Kind" = true := by first | (simp [plainName, overriddenIn]; done) | decide +kernel
theorem ef_16_21 (m : MethodId) (x0 : Addr) : entryFrame m #[(.ref x0)] 1 = mkF m 0 #[.val (.ref x0)] [] := by first | (simp [entryFrame, mkF, argsToLocals, Value.category]; done) | rfl
def Q16_21 (Z : State) (o1 : Addr) (h0 : Heap) (n0 : Nat) (v : Option Value) (h : Heap) (L : List Loc) : Prop := v = some (.int (0 : Int32)) ∧ Fr n0 L ∧ h = h0
set_option maxRecDepth 65536 in
set_option maxHeartbeats 40000000 in
theorem rm16_21 (l : Launch) (Z : State) (a0 : Array Value) (hw : ∀ d ∈ tables_1, d.before a0 Z = true) (ws : List Jvm.Cond) (o1 : Addr) (h0 : Heap) (n0 : Nat) (Z0 : n0 ≤ h0.size) (S0 : Sta Z h0 "com/example/qopa/qopa/model/Model$Kind" "MDP" "Lcom/example/qopa/qopa/model/Model$Kind;" (.ref o1)) (Pm1 : Exa Z h0 o1 "com/example/qopa/qopa/model/Model$Kind")  :
    MetFree l (⟨"com/example/qopa/qopa/model/Model$Kind", "isChain", "()Z"⟩ : MethodName) (head1 (Jvm.Cond.code (⟨"com/example/qopa/qopa/model/Model$Kind", "isChain", "()Z"⟩ : MethodName) prog_72_method_4_code 1 (some .boolean) :: ws) ({ frames := 0, cells := 0, slots := 0, locals := 0 } : Room)) (fun a U => a = #[(.ref o1)] ∧ Z.Warmed39 U.vm ∧ U.heap = h0) (fun _ _ _ _ _ => True) (fun _ U o U' => ∃ v L, o = .returned v ∧ Q16_21 Z o1 h0 n0 v U'.heap L ∧ FrameEnd U o U' L ({ frames := 0, cells := 0, slots := 0, locals := 0 } : Room).cells ({ frames := 0, cells := 0, slots := 0, locals := 0 } : Room).slots) := by
  refine own_body (plainFor_of_name pn_6) ?_
  intro p e s m below meth c s₁ G hx hby hml hZ hown hnm hret X0 e0 step fin
  replace hown : s.vm.findClass "com/example/qopa/qopa/model/Model$Kind" = some m.cls := hown
  replace hnm : meth.name = "isChain" := hnm
  replace hret : meth.sig.returnType = some .boolean := hret
  replace hml : c.maxLocals = 1 := hml
  have N0 := Fr.nil n0
  refine step (s₁.setTop (mkF m 0 #[.val (.ref o1)] [])) (fun t k => castTop (ef_16_21 m o1) k) ?_
  refine step (s₁.setTop (mkF m 1 #[.val (.ref o1)] [(.ref o1)])) (fun t k => XS.aloadN X0.here hx rfl (hb hby d16_0) rfl rfl k) ?_
  obtain ⟨T1, X1, e1, st1⟩ := getS2 X0 hx hZ hown (host := "") (Or.inl (hw _ (List.mem_of_getElem? (i := 119) rfl))) Via.refl e0 S0 (g := (mkF m 1 #[.val (.ref o1)] [(.ref o1)])) rfl (hb hby d16_1)
  refine step (T1.setTop (mkF m 4 #[.val (.ref o1)] [(.ref o1), (.ref o1)])) (fun t k => st1 t k) ?_
  refine step (T1.setTop (mkF m 11 #[.val (.ref o1)] [])) (fun t k => Jvm.RoadKit.acmp (g := (mkF m 4 #[.val (.ref o1)] [(.ref o1), (.ref o1)])) X1 hx rfl rfl rfl (pc0 := 4) (pc' := 11) (same := true) rfl (hb hby d16_4) rfl (decide_eq_true rfl) (by decide) (by decide) k) ?_
  refine step (T1.setTop (mkF m 12 #[.val (.ref o1)] [(.int (0 : Int32))])) (fun t k => XS.iconst X1.here hx rfl (hb hby d16_11) k) ?_
  refine fin (v := some (.int (nar .boolean (0 : Int32)))) X1 (fun h => by cases h) ?_ (by decide) (by decide) (fun fs hr => retN X1 hx (t := .boolean) hret (by simp) (hb hby d16_12) hr)
  show Q16_21 Z o1 h0 n0 (some (.int (nar .boolean (0 : Int32)))) T1.heap _
  rw [e1]
  exact ⟨rfl, N0, rfl⟩
theorem d17_0 : decode prog_72_method_6_code 0 = .ok (.aload_n 0, 1) := by decide +kernel
theorem d17_1 : decode prog_72_method_6_code 1 = .ok (.getstatic 10, 3) := by decide +kernel
theorem d17_4 : decode prog_72_method_6_code 4 = .ok (.if_acmp .ne 7, 3) := by decide +kernel
theorem d17_7 : decode prog_72_method_6_code 7 = .ok (.iconst 1, 1) := by decide +kernel
theorem d17_8 : decode prog_72_method_6_code 8 = .ok (.goto 4, 3) := by decide +kernel
theorem d17_11 : decode prog_72_method_6_code 11 = .ok (.iconst 0, 1) := by decide +kernel
theorem d17_12 : decode prog_72_method_6_code 12 = .ok (.ireturn, 1) := by decide +kernel
theorem ef_17_22 (m : MethodId) (x0 : Addr) : entryFrame m #[(.ref x0)] 1 = mkF m 0 #[.val (.ref x0)] [] := by first | (simp [entryFrame, mkF, argsToLocals, Value.category]; done) | rfl
def Q17_22 (Z : State) (o1 : Addr) (o2 : Addr) (h0 : Heap) (n0 : Nat) (v : Option Value) (h : Heap) (L : List Loc) : Prop := v = some (.int (0 : Int32)) ∧ Fr n0 L ∧ h = h0
set_option maxRecDepth 65536 in
set_option maxHeartbeats 40000000 in
theorem rm17_22 (l : Launch) (Z : State) (a0 : Array Value) (hw : ∀ d ∈ tables_1, d.before a0 Z = true) (ws : List Jvm.Cond) (o1 : Addr) (o2 : Addr) (h0 : Heap) (n0 : Nat) (Z0 : n0 ≤ h0.size) (S0 : Sta Z h0 "com/example/qopa/qopa/model/Model$Kind" "IDTMC" "Lcom/example/qopa/qopa/model/Model$Kind;" (.ref o2)) (Pm1 : Exa Z h0 o1 "com/example/qopa/qopa/model/Model$Kind") (Pm2 : Exa Z h0 o2 "com/example/qopa/qopa/model/Model$Kind") (ne_o1_o2 : o1 ≠ o2)  :
    MetFree l (⟨"com/example/qopa/qopa/model/Model$Kind", "hasBounds", "()Z"⟩ : MethodName) (head1 (Jvm.Cond.code (⟨"com/example/qopa/qopa/model/Model$Kind", "hasBounds", "()Z"⟩ : MethodName) prog_72_method_6_code 1 (some .boolean) :: ws) ({ frames := 0, cells := 0, slots := 0, locals := 0 } : Room)) (fun a U => a = #[(.ref o1)] ∧ Z.Warmed39 U.vm ∧ U.heap = h0) (fun _ _ _ _ _ => True) (fun _ U o U' => ∃ v L, o = .returned v ∧ Q17_22 Z o1 o2 h0 n0 v U'.heap L ∧ FrameEnd U o U' L ({ frames := 0, cells := 0, slots := 0, locals := 0 } : Room).cells ({ frames := 0, cells := 0, slots := 0, locals := 0 } : Room).slots) := by
  refine own_body (plainFor_of_name pn_6) ?_
  intro p e s m below meth c s₁ G hx hby hml hZ hown hnm hret X0 e0 step fin
  replace hown : s.vm.findClass "com/example/qopa/qopa/model/Model$Kind" = some m.cls := hown
  replace hnm : meth.name = "hasBounds" := hnm
  replace hret : meth.sig.returnType = some .boolean := hret
  replace hml : c.maxLocals = 1 := hml
  have N0 := Fr.nil n0
  refine step (s₁.setTop (mkF m 0 #[.val (.ref o1)] [])) (fun t k => castTop (ef_17_22 m o1) k) ?_
  refine step (s₁.setTop (mkF m 1 #[.val (.ref o1)] [(.ref o1)])) (fun t k => XS.aloadN X0.here hx rfl (hb hby d17_0) rfl rfl k) ?_
  obtain ⟨T1, X1, e1, st1⟩ := getS2 X0 hx hZ hown (host := "") (Or.inl (hw _ (List.mem_of_getElem? (i := 145) rfl))) Via.refl e0 S0 (g := (mkF m 1 #[.val (.ref o1)] [(.ref o1)])) rfl (hb hby d17_1)
  refine step (T1.setTop (mkF m 4 #[.val (.ref o1)] [(.ref o2), (.ref o1)])) (fun t k => st1 t k) ?_
  have hc4_2 : ¬ (o1 = o2) := ne_o1_o2
  refine step (T1.setTop (mkF m 11 #[.val (.ref o1)] [])) (fun t k => Jvm.RoadKit.acmp (g := (mkF m 4 #[.val (.ref o1)] [(.ref o2), (.ref o1)])) X1 hx rfl rfl rfl (pc0 := 4) (pc' := 11) (same := false) rfl (hb hby d17_4) rfl (decide_eq_false fun q => hc4_2 (Value.ref.inj q)) (by decide) (by decide) k) ?_
  refine step (T1.setTop (mkF m 12 #[.val (.ref o1)] [(.int (0 : Int32))])) (fun t k => XS.iconst X1.here hx rfl (hb hby d17_11) k) ?_
  refine fin (v := some (.int (nar .boolean (0 : Int32)))) X1 (fun h => by cases h) ?_ (by decide) (by decide) (fun fs hr => retN X1 hx (t := .boolean) hret (by simp) (hb hby d17_12) hr)
  show Q17_22 Z o1 o2 h0 n0 (some (.int (nar .boolean (0 : Int32)))) T1.heap _
  rw [e1]
  exact ⟨rfl, N0, rfl⟩
theorem d18_0 : decode prog_71_method_5_code 0 = .ok (.aload_n 0, 1) := by decide +kernel
theorem d18_1 : decode prog_71_method_5_code 1 = .ok (.getfield 48, 3) := by decide +kernel
theorem d18_4 : decode prog_71_method_5_code 4 = .ok (.arraylength, 1) := by decide +kernel
theorem d18_5 : decode prog_71_method_5_code 5 = .ok (.iconst 1, 1) := by decide +kernel
theorem d18_6 : decode prog_71_method_5_code 6 = .ok (.isub, 1) := by decide +kernel
theorem d18_7 : decode prog_71_method_5_code 7 = .ok (.ireturn, 1) := by decide +kernel
theorem ef_18_23 (m : MethodId) (x0 : Addr) : entryFrame m #[(.ref x0)] 1 = mkF m 0 #[.val (.ref x0)] [] := by first | (simp [entryFrame, mkF, argsToLocals, Value.category]; done) | rfl
def Q18_23 (Z : State) (o1 : Addr) (o2 : Addr) (kc1 : ClassId) (h0 : Heap) (n0 : Nat) (v : Option Value) (h : Heap) (L : List Loc) : Prop := v = some (.int (0 : Int32)) ∧ Fr n0 L ∧ h = h0
set_option maxRecDepth 65536 in
set_option maxHeartbeats 40000000 in
theorem rm18_23 (l : Launch) (Z : State) (a0 : Array Value) (hw : ∀ d ∈ tables_1, d.before a0 Z = true) (ws : List Jvm.Cond) (o1 : Addr) (o2 : Addr) (kc1 : ClassId) (h0 : Heap) (n0 : Nat) (Z0 : n0 ≤ h0.size) (Pm0 : Exa Z h0 o1 "com/example/qopa/qopa/model/Model") (Pm1 : Fld Z h0 o1 "com/example/qopa/qopa/model/Model" "firstChoice" "[I" (.ref o2)) (Pm2 : Arv Z h0 o2 kc1 .int (1 : Int32) [(.int (0 : Int32))] (.int (0 : Int32))) (gn_o1 : n0 ≤ o1) (ne_o1_o2 : o1 ≠ o2) (gn_o2 : n0 ≤ o2)  :
    MetFree l (⟨"com/example/qopa/qopa/model/Model", "stateCount", "()I"⟩ : MethodName) (head1 (Jvm.Cond.code (⟨"com/example/qopa/qopa/model/Model", "stateCount", "()I"⟩ : MethodName) prog_71_method_5_code 1 (some .int) :: ws) ({ frames := 0, cells := 0, slots := 0, locals := 0 } : Room)) (fun a U => a = #[(.ref o1)] ∧ Z.Warmed39 U.vm ∧ U.heap = h0) (fun _ _ _ _ _ => True) (fun _ U o U' => ∃ v L, o = .returned v ∧ Q18_23 Z o1 o2 kc1 h0 n0 v U'.heap L ∧ FrameEnd U o U' L ({ frames := 0, cells := 0, slots := 0, locals := 0 } : Room).cells ({ frames := 0, cells := 0, slots := 0, locals := 0 } : Room).slots) := by
  refine own_body (plainFor_of_name pn_4) ?_
  intro p e s m below meth c s₁ G hx hby hml hZ hown hnm hret X0 e0 step fin
  replace hown : s.vm.findClass "com/example/qopa/qopa/model/Model" = some m.cls := hown
  replace hnm : meth.name = "stateCount" := hnm
  replace hret : meth.sig.returnType = some .int := hret
  replace hml : c.maxLocals = 1 := hml
  have N0 := Fr.nil n0
  refine step (s₁.setTop (mkF m 0 #[.val (.ref o1)] [])) (fun t k => castTop (ef_18_23 m o1) k) ?_
  refine step (s₁.setTop (mkF m 1 #[.val (.ref o1)] [(.ref o1)])) (fun t k => XS.aloadN X0.here hx rfl (hb hby d18_0) rfl rfl k) ?_
  obtain ⟨T1, X1, e1, st1⟩ := getF X0 hx hZ hown (host := "") (Or.inl (hw _ (List.mem_of_getElem? (i := 128) rfl))) Via.refl e0 Pm1 (g := (mkF m 1 #[.val (.ref o1)] [(.ref o1)])) rfl rfl (hb hby d18_1)
  refine step (T1.setTop (mkF m 4 #[.val (.ref o1)] [(.ref o2)])) (fun t k => st1 t k) ?_
  obtain ⟨cl2, Ar2, q2, S2, N2n, H2, G2⟩ := id Pm2
  refine step (T1.setTop (mkF m 5 #[.val (.ref o1)] [(.int (1 : Int32))])) (fun t k => X1.arraylength hx (by rw [e1]; exact Ar2.1) (State.isArrayOf_alike hZ.alike Ar2.2.1) (g := (mkF m 4 #[.val (.ref o1)] [(.ref o2)])) rfl rfl (hb hby d18_4) t (by rw [len_of S2 N2n]; exact k)) ?_
  refine step (T1.setTop (mkF m 6 #[.val (.ref o1)] [(.int (1 : Int32)), (.int (1 : Int32))])) (fun t k => XS.iconst X1.here hx rfl (hb hby d18_5) k) ?_
  refine step (T1.setTop (mkF m 7 #[.val (.ref o1)] [(.int (0 : Int32))])) (fun t k => XS.isub X1.here hx rfl (hb hby d18_6) rfl k) ?_
  refine fin (v := some (.int (0 : Int32))) X1 (fun h => by cases h) ?_ (by decide) (by decide) (fun fs hr => retI X1 hx hret (hb hby d18_7) hr)
  show Q18_23 Z o1 o2 kc1 h0 n0 (some (.int (0 : Int32))) T1.heap _
  rw [e1]
  exact ⟨rfl, N0, rfl⟩
theorem ef_12_17 (m : MethodId) (x0 : Addr) (x1 : Addr) (x2 : Addr) (x5 : Addr) (x6 : Addr) (x7 : Addr) (x8 : Addr) (x9 : Addr) (x10 : Addr) : entryFrame m #[(.ref x0), (.ref x1), (.ref x2), .null, .null, (.ref x5), (.ref x6), (.ref x7), (.ref x8), (.ref x9), (.ref x10)] 14 = mkF m 0 #[.val (.ref x0), .val (.ref x1), .val (.ref x2), .val .null, .val .null, .val (.ref x5), .val (.ref x6), .val (.ref x7), .val (.ref x8), .val (.ref x9), .val (.ref x10), .unset, .unset, .unset] [] := by first | (simp [entryFrame, mkF, argsToLocals, Value.category]; done) | rfl
def Q12_17 (Z : State) (o1 : Addr) (o2 : Addr) (o3 : Addr) (o4 : Addr) (o5 : Addr) (o6 : Addr) (o7 : Addr) (o8 : Addr) (o9 : Addr) (kc1 : ClassId) (kc2 : ClassId) (kc3 : ClassId) (kc4 : ClassId) (kc5 : ClassId) (kc6 : ClassId) (i7 : Int32) (i8 : Int32) (i9 : Int32) (h0 : Heap) (n0 : Nat) (v : Option Value) (h : Heap) (L : List Loc) : Prop := ∃ (b2 : Addr) (b2_9_3 : Addr) (k2_9_3 : ClassId), v = none ∧ Fr n0 L ∧ Keep h0 h [o1] ∧ h0.size ≤ b2 ∧ h0.size ≤ b2_9_3 ∧ b2 ≠ b2_9_3 ∧ Fld Z h o1 "com/example/qopa/qopa/model/Model" "action" "[I" (.ref o8) ∧ Fld Z h o1 "com/example/qopa/qopa/model/Model" "actions" "Lcom/example/qopa/qopa/model/Actions;" .null ∧ Fld Z h o1 "com/example/qopa/qopa/model/Model" "firstChoice" "[I" (.ref o4) ∧ Fld Z h o1 "com/example/qopa/qopa/model/Model" "firstTransition" "[I" (.ref o5) ∧ Fld Z h o1 "com/example/qopa/qopa/model/Model" "initialStates" "[I" (.ref o3) ∧ Fld Z h o1 "com/example/qopa/qopa/model/Model" "kind" "Lcom/example/qopa/qopa/model/Model$Kind;" (.ref o2) ∧ Fld Z h o1 "com/example/qopa/qopa/model/Model" "labels" "Ljava/util/Map;" .null ∧ Fld Z h o1 "com/example/qopa/qopa/model/Model" "lower" "[Lcom/example/qopa/qopa/math/Rational;" (.ref o7) ∧ Fld Z h o1 "com/example/qopa/qopa/model/Model" "slack" "[Lcom/example/qopa/qopa/math/Rational;" .null ∧ Fld Z h o1 "com/example/qopa/qopa/model/Model" "target" "[I" (.ref o6) ∧ Fld Z h o1 "com/example/qopa/qopa/model/Model" "terminal" "Ljava/util/BitSet;" (.ref b2) ∧ Fld Z h o1 "com/example/qopa/qopa/model/Model" "upper" "[Lcom/example/qopa/qopa/math/Rational;" (.ref o7) ∧ Exa Z h b2 "java/util/BitSet" ∧ Fld Z h b2 "java/util/BitSet" "sizeIsSticky" "Z" (.int (0 : Int32)) ∧ Fld Z h b2 "java/util/BitSet" "words" "[J" (.ref b2_9_3) ∧ Fld Z h b2 "java/util/BitSet" "wordsInUse" "I" (.int (0 : Int32)) ∧ Arv Z h b2_9_3 k2_9_3 .long (1 : Int32) [(.long (0 : Int64))] (.long (0 : Int64))
set_option maxRecDepth 65536 in
set_option maxHeartbeats 40000000 in
theorem rm12_17 (l : Launch) (Z : State) (a0 : Array Value) (hw : ∀ d ∈ tables_1, d.before a0 Z = true) (ws : List Jvm.Cond) (o1 : Addr) (o2 : Addr) (o3 : Addr) (o4 : Addr) (o5 : Addr) (o6 : Addr) (o7 : Addr) (o8 : Addr) (o9 : Addr) (kc1 : ClassId) (kc2 : ClassId) (kc3 : ClassId) (kc4 : ClassId) (kc5 : ClassId) (kc6 : ClassId) (i7 : Int32) (i8 : Int32) (i9 : Int32) (h0 : Heap) (n0 : Nat) (Z0 : n0 ≤ h0.size) (S0 : Sta Z h0 "com/example/qopa/qopa/model/Model$Kind" "MDP" "Lcom/example/qopa/qopa/model/Model$Kind;" (.ref o2)) (S1 : Sta Z h0 "com/example/qopa/qopa/model/Model$Kind" "IDTMC" "Lcom/example/qopa/qopa/model/Model$Kind;" (.ref o9)) (Pm2 : Exa Z h0 o1 "com/example/qopa/qopa/model/Model") (Pm3 : Fld Z h0 o1 "com/example/qopa/qopa/model/Model" "action" "[I" .null) (Pm4 : Fld Z h0 o1 "com/example/qopa/qopa/model/Model" "actions" "Lcom/example/qopa/qopa/model/Actions;" .null) (Pm5 : Fld Z h0 o1 "com/example/qopa/qopa/model/Model" "firstChoice" "[I" .null) (Pm6 : Fld Z h0 o1 "com/example/qopa/qopa/model/Model" "firstTransition" "[I" .null) (Pm7 : Fld Z h0 o1 "com/example/qopa/qopa/model/Model" "initialStates" "[I" .null) (Pm8 : Fld Z h0 o1 "com/example/qopa/qopa/model/Model" "kind" "Lcom/example/qopa/qopa/model/Model$Kind;" .null) (Pm9 : Fld Z h0 o1 "com/example/qopa/qopa/model/Model" "labels" "Ljava/util/Map;" .null) (Pm10 : Fld Z h0 o1 "com/example/qopa/qopa/model/Model" "lower" "[Lcom/example/qopa/qopa/math/Rational;" .null) (Pm11 : Fld Z h0 o1 "com/example/qopa/qopa/model/Model" "slack" "[Lcom/example/qopa/qopa/math/Rational;" .null) (Pm12 : Fld Z h0 o1 "com/example/qopa/qopa/model/Model" "target" "[I" .null) (Pm13 : Fld Z h0 o1 "com/example/qopa/qopa/model/Model" "terminal" "Ljava/util/BitSet;" .null) (Pm14 : Fld Z h0 o1 "com/example/qopa/qopa/model/Model" "upper" "[Lcom/example/qopa/qopa/math/Rational;" .null) (Pm15 : Exa Z h0 o2 "com/example/qopa/qopa/model/Model$Kind") (Pm16 : Arv Z h0 o3 kc1 .int (0 : Int32) [] (.int (0 : Int32))) (Pm17 : Arv Z h0 o4 kc2 .int (1 : Int32) [(.int (0 : Int32))] (.int (0 : Int32))) (Pm18 : Arv Z h0 o5 kc3 .int (1 : Int32) [(.int (0 : Int32))] (.int (0 : Int32))) (Pm19 : Arv Z h0 o6 kc4 .int (3 : Int32) [(.int (0 : Int32)), (.int (0 : Int32)), (.int (0 : Int32))] (.int (0 : Int32))) (Pm20 : Arv Z h0 o7 kc5 (.object "com/example/qopa/qopa/math/Rational") (3 : Int32) [.null, .null, .null] .null) (O21 : Ovr Z kc5 "com/example/qopa/qopa/math/Rational") (Pm22 : Arv Z h0 o8 kc6 .int (3 : Int32) [(.int i7), (.int i8), (.int i9)] (.int (0 : Int32))) (Pm23 : Exa Z h0 o9 "com/example/qopa/qopa/model/Model$Kind") (gn_o1 : n0 ≤ o1) (ne_o1_o2 : o1 ≠ o2) (ne_o1_o3 : o1 ≠ o3) (ne_o1_o4 : o1 ≠ o4) (ne_o1_o5 : o1 ≠ o5) (ne_o1_o6 : o1 ≠ o6) (ne_o1_o7 : o1 ≠ o7) (ne_o1_o8 : o1 ≠ o8) (ne_o1_o9 : o1 ≠ o9) (ne_o2_o3 : o2 ≠ o3) (ne_o2_o4 : o2 ≠ o4) (ne_o2_o5 : o2 ≠ o5) (ne_o2_o6 : o2 ≠ o6) (ne_o2_o7 : o2 ≠ o7) (ne_o2_o8 : o2 ≠ o8) (ne_o2_o9 : o2 ≠ o9) (gn_o3 : n0 ≤ o3) (ne_o3_o4 : o3 ≠ o4) (ne_o3_o5 : o3 ≠ o5) (ne_o3_o6 : o3 ≠ o6) (ne_o3_o7 : o3 ≠ o7) (ne_o3_o8 : o3 ≠ o8) (ne_o3_o9 : o3 ≠ o9) (gn_o4 : n0 ≤ o4) (ne_o4_o5 : o4 ≠ o5) (ne_o4_o6 : o4 ≠ o6) (ne_o4_o7 : o4 ≠ o7) (ne_o4_o8 : o4 ≠ o8) (ne_o4_o9 : o4 ≠ o9) (gn_o5 : n0 ≤ o5) (ne_o5_o6 : o5 ≠ o6) (ne_o5_o7 : o5 ≠ o7) (ne_o5_o8 : o5 ≠ o8) (ne_o5_o9 : o5 ≠ o9) (gn_o6 : n0 ≤ o6) (ne_o6_o7 : o6 ≠ o7) (ne_o6_o8 : o6 ≠ o8) (ne_o6_o9 : o6 ≠ o9) (gn_o7 : n0 ≤ o7) (ne_o7_o8 : o7 ≠ o8) (ne_o7_o9 : o7 ≠ o9) (gn_o8 : n0 ≤ o8) (ne_o8_o9 : o8 ≠ o9)  :
    MetFree l (⟨"com/example/qopa/qopa/model/Model", "<init>", "(Lcom/example/qopa/qopa/model/Model$Kind;[ILcom/example/qopa/qopa/model/Actions;Ljava/util/Map;[I[I[I[Lcom/example/qopa/qopa/math/Rational;[Lcom/example/qopa/qopa/math/Rational;[I)V"⟩ : MethodName) (head1 (Jvm.Cond.code (⟨"com/example/qopa/qopa/model/Model", "<init>", "(Lcom/example/qopa/qopa/model/Model$Kind;[ILcom/example/qopa/qopa/model/Actions;Ljava/util/Map;[I[I[I[Lcom/example/qopa/qopa/math/Rational;[Lcom/example/qopa/qopa/math/Rational;[I)V"⟩ : MethodName) prog_71_method_1_code 14 none :: ws) ({ frames := 3, cells := 2, slots := 4, locals := 40 } : Room)) (fun a U => a = #[(.ref o1), (.ref o2), (.ref o3), .null, .null, (.ref o4), (.ref o5), (.ref o6), (.ref o7), (.ref o7), (.ref o8)] ∧ Z.Warmed39 U.vm ∧ U.heap = h0) (fun _ _ _ _ _ => True) (fun _ U o U' => ∃ v L, o = .returned v ∧ Q12_17 Z o1 o2 o3 o4 o5 o6 o7 o8 o9 kc1 kc2 kc3 kc4 kc5 kc6 i7 i8 i9 h0 n0 v U'.heap L ∧ FrameEnd U o U' L ({ frames := 3, cells := 2, slots := 4, locals := 40 } : Room).cells ({ frames := 3, cells := 2, slots := 4, locals := 40 } : Room).slots) := by
  refine own_body (plainFor_of_name pn_4) ?_
  intro p e s m below meth c s₁ G hx hby hml hZ hown hnm hret X0 e0 step fin
  replace hown : s.vm.findClass "com/example/qopa/qopa/model/Model" = some m.cls := hown
  replace hnm : meth.name = "<init>" := hnm
  replace hret : meth.sig.returnType = none := hret
  replace hml : c.maxLocals = 14 := hml
  have N0 := Fr.nil n0
  refine step (s₁.setTop (mkF m 0 #[.val (.ref o1), .val (.ref o2), .val (.ref o3), .val .null, .val .null, .val (.ref o4), .val (.ref o5), .val (.ref o6), .val (.ref o7), .val (.ref o7), .val (.ref o8), .unset, .unset, .unset] [])) (fun t k => castTop (ef_12_17 m o1 o2 o3 o4 o5 o6 o7 o7 o8) k) ?_
  refine step (s₁.setTop (mkF m 1 #[.val (.ref o1), .val (.ref o2), .val (.ref o3), .val .null, .val .null, .val (.ref o4), .val (.ref o5), .val (.ref o6), .val (.ref o7), .val (.ref o7), .val (.ref o8), .unset, .unset, .unset] [(.ref o1)])) (fun t k => XS.aloadN X0.here hx rfl (hb hby d12_0) rfl rfl k) ?_
  obtain ⟨T1, X1, e1, st1⟩ := initO X0 hx hZ hown (hw _ (List.mem_of_getElem? (i := 89) rfl)) (hw _ (List.mem_of_getElem? (i := 12) rfl)) (hw _ (List.mem_of_getElem? (i := 13) rfl)) e0 (g := (mkF m 1 #[.val (.ref o1), .val (.ref o2), .val (.ref o3), .val .null, .val .null, .val (.ref o4), .val (.ref o5), .val (.ref o6), .val (.ref o7), .val (.ref o7), .val (.ref o8), .unset, .unset, .unset] [(.ref o1)])) rfl (by rw [hml]; rfl) rfl (hb hby d12_1) (by decide) (W := 0) (by show 2 * 0 + _ ≤ _; exact Nat.le_of_eq rfl) (by decide)
  refine step (T1.setTop (mkF m 4 #[.val (.ref o1), .val (.ref o2), .val (.ref o3), .val .null, .val .null, .val (.ref o4), .val (.ref o5), .val (.ref o6), .val (.ref o7), .val (.ref o7), .val (.ref o8), .unset, .unset, .unset] [])) (fun t k => st1 t k) ?_
  refine step (T1.setTop (mkF m 5 #[.val (.ref o1), .val (.ref o2), .val (.ref o3), .val .null, .val .null, .val (.ref o4), .val (.ref o5), .val (.ref o6), .val (.ref o7), .val (.ref o7), .val (.ref o8), .unset, .unset, .unset] [(.ref o1)])) (fun t k => XS.aloadN X1.here hx rfl (hb hby d12_4) rfl rfl k) ?_
  obtain ⟨T2, h2, X2, e2, E2, A2, D2, -, st2⟩ := newO X1 hx hZ hown (hw _ (List.mem_of_getElem? (i := 90) rfl)) (hw _ (List.mem_of_getElem? (i := 91) rfl)) (hw _ (List.mem_of_getElem? (i := 92) rfl)) e1 (g := (mkF m 5 #[.val (.ref o1), .val (.ref o2), .val (.ref o3), .val .null, .val .null, .val (.ref o4), .val (.ref o5), .val (.ref o6), .val (.ref o7), .val (.ref o7), .val (.ref o8), .unset, .unset, .unset] [(.ref o1)])) rfl (hb hby d12_5) (by decide) (by decide)
  obtain ⟨b2, g2⟩ : ∃ z, z = h0.size := ⟨_, rfl⟩
  rw [← g2] at A2 D2 st2
  have ne_o1_b2 : o1 ≠ b2 := Nat.ne_of_lt (Nat.lt_of_lt_of_le Pm2.lt (Nat.le_of_eq g2.symm))
  have ne_o2_b2 : o2 ≠ b2 := Nat.ne_of_lt (Nat.lt_of_lt_of_le Pm15.lt (Nat.le_of_eq g2.symm))
  have ne_o3_b2 : o3 ≠ b2 := Nat.ne_of_lt (Nat.lt_of_lt_of_le Pm16.lt (Nat.le_of_eq g2.symm))
  have ne_o4_b2 : o4 ≠ b2 := Nat.ne_of_lt (Nat.lt_of_lt_of_le Pm17.lt (Nat.le_of_eq g2.symm))
  have ne_o5_b2 : o5 ≠ b2 := Nat.ne_of_lt (Nat.lt_of_lt_of_le Pm18.lt (Nat.le_of_eq g2.symm))
  have ne_o6_b2 : o6 ≠ b2 := Nat.ne_of_lt (Nat.lt_of_lt_of_le Pm19.lt (Nat.le_of_eq g2.symm))
  have ne_o7_b2 : o7 ≠ b2 := Nat.ne_of_lt (Nat.lt_of_lt_of_le Pm20.lt (Nat.le_of_eq g2.symm))
  have ne_o8_b2 : o8 ≠ b2 := Nat.ne_of_lt (Nat.lt_of_lt_of_le Pm22.lt (Nat.le_of_eq g2.symm))
  have ne_o9_b2 : o9 ≠ b2 := Nat.ne_of_lt (Nat.lt_of_lt_of_le Pm23.lt (Nat.le_of_eq g2.symm))
  have gn_b2 : n0 ≤ b2 := Nat.le_trans Z0 (Nat.le_of_eq g2.symm)
  have sz_b2 : h0.size ≤ b2 := Nat.le_of_eq g2.symm
  have K2 : Keep h0 h2 [o1] := (Keep.refl h0 [o1]).ext E2
  have F_wordsInUse_b2 : Fld Z h2 b2 "java/util/BitSet" "wordsInUse" "I" (.int (0 : Int32)) := D2 (Or.inl (hw _ (List.mem_of_getElem? (i := 98) rfl))) (ty := .int) (by decide)
  have F_sizeIsSticky_b2 : Fld Z h2 b2 "java/util/BitSet" "sizeIsSticky" "Z" (.int (0 : Int32)) := D2 (Or.inl (hw _ (List.mem_of_getElem? (i := 100) rfl))) (ty := .boolean) (by decide)
  have F_words_b2 : Fld Z h2 b2 "java/util/BitSet" "words" "[J" .null := D2 (Or.inl (hw _ (List.mem_of_getElem? (i := 111) rfl))) (ty := (.array .long)) (by decide)
  refine step (T2.setTop (mkF m 8 #[.val (.ref o1), .val (.ref o2), .val (.ref o3), .val .null, .val .null, .val (.ref o4), .val (.ref o5), .val (.ref o6), .val (.ref o7), .val (.ref o7), .val (.ref o8), .unset, .unset, .unset] [(.ref b2), (.ref o1)])) (fun t k => st2 t k) ?_
  refine step (T2.setTop (mkF m 9 #[.val (.ref o1), .val (.ref o2), .val (.ref o3), .val .null, .val .null, .val (.ref o4), .val (.ref o5), .val (.ref o6), .val (.ref o7), .val (.ref o7), .val (.ref o8), .unset, .unset, .unset] [(.ref b2), (.ref b2), (.ref o1)])) (fun t k => XS.dup X2.here hx rfl (hb hby d12_8) rfl rfl k) ?_
  obtain ⟨_, _, ⟨T3, L3, k3, n3⟩, -, X3, ⟨Lc3, hQ3, l3, y3, z3⟩, st3⟩ := X2.specialBack hx (y := (⟨"java/util/BitSet", "<init>", "()V"⟩ : MethodName)) rfl hown (mvT hZ (hw _ (List.mem_of_getElem? (i := 93) rfl))) (mvT hZ (hw _ (List.mem_of_getElem? (i := 94) rfl))) (mvT hZ (hw _ (List.mem_of_getElem? (i := 95) rfl))) (by decide) (backOf (W := 2) (rm13_18 l Z a0 hw [] b2 h2 n0 (Nat.le_trans Z0 K2.1) A2 F_sizeIsSticky_b2 F_words_b2 F_wordsInUse_b2 gn_b2) hZ (hw _ (List.mem_of_getElem? (i := 95) rfl)) (hw _ (List.mem_of_getElem? (i := 92) rfl)) (by decide) (by decide)) (g := (mkF m 9 #[.val (.ref o1), .val (.ref o2), .val (.ref o3), .val .null, .val .null, .val (.ref o4), .val (.ref o5), .val (.ref o6), .val (.ref o7), .val (.ref o7), .val (.ref o8), .unset, .unset, .unset] [(.ref b2), (.ref b2), (.ref o1)])) rfl (by rw [hml]; rfl) (Steps.refl _) (a := b2) (argsL := []) (rest := [(.ref b2), (.ref o1)]) (lenOf pd_7 rfl) rfl (by show 2 * 0 + _ ≤ _; exact Nat.le_of_eq rfl) (hb hby d12_9) (fun _ _ => ⟨rfl, e2, (by decide : 1 + 1 ≤ _), (by decide : 3 + 1 ≤ _)⟩)
  dsimp only [Pt.U, Pt.locs, Pt.cells, Pt.slots] at X3 l3 y3 z3 st3 hQ3
  subst l3 y3 z3
  obtain ⟨h3, e3⟩ : ∃ z, T3.heap = z := ⟨_, rfl⟩
  rw [e3] at hQ3
  obtain ⟨b2_9_3, k2_9_3, rfl, N3q, K3q, sz_b2_9_3, q0_3, q1_3, q2_3, q3_3⟩ := hQ3
  have N3 := Fr.app N0 N3q
  have f4 := (Pm2.ext E2)
  have lt3_o1 := f4.lt
  have f5 := (Pm15.ext E2)
  have lt3_o2 := f5.lt
  have f6 := (Pm16.ext E2)
  have lt3_o3 := f6.lt
  have f7 := (Pm17.ext E2)
  have lt3_o4 := f7.lt
  have f8 := (Pm18.ext E2)
  have lt3_o5 := f8.lt
  have f9 := (Pm19.ext E2)
  have lt3_o6 := f9.lt
  have f10 := (Pm20.ext E2)
  have lt3_o7 := f10.lt
  have f11 := (Pm22.ext E2)
  have lt3_o8 := f11.lt
  have f12 := (Pm23.ext E2)
  have lt3_o9 := f12.lt
  have lt3_b2 := A2.lt
  have ne_o1_b2_9_3 : o1 ≠ b2_9_3 := Nat.ne_of_lt (Nat.lt_of_lt_of_le lt3_o1 sz_b2_9_3)
  have ne_o2_b2_9_3 : o2 ≠ b2_9_3 := Nat.ne_of_lt (Nat.lt_of_lt_of_le lt3_o2 sz_b2_9_3)
  have ne_o3_b2_9_3 : o3 ≠ b2_9_3 := Nat.ne_of_lt (Nat.lt_of_lt_of_le lt3_o3 sz_b2_9_3)
  have ne_o4_b2_9_3 : o4 ≠ b2_9_3 := Nat.ne_of_lt (Nat.lt_of_lt_of_le lt3_o4 sz_b2_9_3)
  have ne_o5_b2_9_3 : o5 ≠ b2_9_3 := Nat.ne_of_lt (Nat.lt_of_lt_of_le lt3_o5 sz_b2_9_3)
  have ne_o6_b2_9_3 : o6 ≠ b2_9_3 := Nat.ne_of_lt (Nat.lt_of_lt_of_le lt3_o6 sz_b2_9_3)
  have ne_o7_b2_9_3 : o7 ≠ b2_9_3 := Nat.ne_of_lt (Nat.lt_of_lt_of_le lt3_o7 sz_b2_9_3)
  have ne_o8_b2_9_3 : o8 ≠ b2_9_3 := Nat.ne_of_lt (Nat.lt_of_lt_of_le lt3_o8 sz_b2_9_3)
  have ne_o9_b2_9_3 : o9 ≠ b2_9_3 := Nat.ne_of_lt (Nat.lt_of_lt_of_le lt3_o9 sz_b2_9_3)
  have ne_b2_b2_9_3 : b2 ≠ b2_9_3 := Nat.ne_of_lt (Nat.lt_of_lt_of_le lt3_b2 sz_b2_9_3)
  have gn_b2_9_3 : n0 ≤ b2_9_3 := Nat.le_trans (Nat.le_trans Z0 K2.1) sz_b2_9_3
  have sz_b2_9_3' := Nat.le_trans K2.1 sz_b2_9_3
  replace sz_b2_9_3 := sz_b2_9_3'
  have f13 := (S0.ext E2)
  have f14 := (S1.ext E2)
  have K3 : Keep h0 h3 [o1] := K2.trans K3q (allS (Or.inr sz_b2) all0)
  have f15 := own_staK f13 K3q (allS (own_exaP A2) all0)
  have f16 := own_staK f14 K3q (allS (own_exaP A2) all0)
  refine step (T3.setTop (mkF m 12 #[.val (.ref o1), .val (.ref o2), .val (.ref o3), .val .null, .val .null, .val (.ref o4), .val (.ref o5), .val (.ref o6), .val (.ref o7), .val (.ref o7), .val (.ref o8), .unset, .unset, .unset] [(.ref b2), (.ref o1)])) (fun t k => st3.trans k) ?_
  have f17 := (f4.keep K3q)
  have f18 := ((Pm13.ext E2).keep K3q (ninS ne_o1_b2 nin0))
  obtain ⟨T19, h19, X19, e19, W19, st19⟩ := putF X3 hx hZ hown (host := "") (Or.inl (hw _ (List.mem_of_getElem? (i := 112) rfl))) Via.refl e3 f18 f17 (Or.inr ⟨(hw _ (List.mem_of_getElem? (i := 113) rfl)), rfl, hnm⟩) (hw _ (List.mem_of_getElem? (i := 77) rfl)) (ty := (.object "java/util/BitSet")) (by decide) rfl rfl (g := (mkF m 12 #[.val (.ref o1), .val (.ref o2), .val (.ref o3), .val .null, .val .null, .val (.ref o4), .val (.ref o5), .val (.ref o6), .val (.ref o7), .val (.ref o7), .val (.ref o8), .unset, .unset, .unset] [(.ref b2), (.ref o1)])) rfl rfl (hb hby d12_12)
  have N19 := Fr.snoc X19 N3 gn_o1
  have K19 : Keep h0 h19 [o1] := K3.wr W19 (Or.inl (List.mem_of_getElem? (i := 0) rfl))
  have F19 := f18.same W19
  refine step (T19.setTop (mkF m 15 #[.val (.ref o1), .val (.ref o2), .val (.ref o3), .val .null, .val .null, .val (.ref o4), .val (.ref o5), .val (.ref o6), .val (.ref o7), .val (.ref o7), .val (.ref o8), .unset, .unset, .unset] [])) (fun t k => st19 t k) ?_
  refine step (T19.setTop (mkF m 16 #[.val (.ref o1), .val (.ref o2), .val (.ref o3), .val .null, .val .null, .val (.ref o4), .val (.ref o5), .val (.ref o6), .val (.ref o7), .val (.ref o7), .val (.ref o8), .unset, .unset, .unset] [(.ref o2)])) (fun t k => XS.aloadN X19.here hx rfl (hb hby d12_15) rfl rfl k) ?_
  have f20 := (f15.wr W19)
  have f21 := ((f5.keep K3q).wr W19)
  obtain ⟨cq22, kq22, q22a, q22b, q22c⟩ := isOf hZ e19 f21
  obtain ⟨_, _, ⟨T22, L22, k22, n22⟩, -, X22, ⟨Lc22, hQ22, l22, y22, z22⟩, st22⟩ := X19.virtualBack hx (y := (⟨"com/example/qopa/qopa/model/Model$Kind", "isChain", "()Z"⟩ : MethodName)) (z := (⟨"com/example/qopa/qopa/model/Model$Kind", "isChain", "()Z"⟩ : MethodName)) hown (mvT hZ (hw _ (List.mem_of_getElem? (i := 114) rfl))) (mvT hZ (hw _ (List.mem_of_getElem? (i := 115) rfl))) (notFace_of_selects (args := #[]) (mvT hZ (hw _ (List.mem_of_getElem? (i := 117) rfl)))) (mvT hZ (hw _ (List.mem_of_getElem? (i := 117) rfl))) (mvT hZ (hw _ (List.mem_of_getElem? (i := 116) rfl))) (by decide) (backOf (W := 0) (rm16_21 l Z a0 hw [] o2 h19 n0 (Nat.le_trans Z0 K19.1) f20 f21) hZ (hw _ (List.mem_of_getElem? (i := 118) rfl)) (hw _ (List.mem_of_getElem? (i := 66) rfl)) (by decide) (by decide)) q22a q22c (g := (mkF m 16 #[.val (.ref o1), .val (.ref o2), .val (.ref o3), .val .null, .val .null, .val (.ref o4), .val (.ref o5), .val (.ref o6), .val (.ref o7), .val (.ref o7), .val (.ref o8), .unset, .unset, .unset] [(.ref o2)])) rfl (by rw [hml]; rfl) (Steps.refl _) (argsL := []) (rest := []) (lenOf pd_12 rfl) rfl (by show 2 * 0 + _ ≤ _; exact Nat.le_of_eq rfl) (hb hby d12_16) (fun _ _ => ⟨rfl, e19, (by decide : 2 + 0 ≤ _), (by decide : 4 + 0 ≤ _)⟩)
  dsimp only [Pt.U, Pt.locs, Pt.cells, Pt.slots] at X22 l22 y22 z22 st22 hQ22
  subst l22 y22 z22
  obtain ⟨rfl, N22q, e22q⟩ := hQ22
  have N22 := Fr.app N19 N22q
  refine step (T22.setTop (mkF m 19 #[.val (.ref o1), .val (.ref o2), .val (.ref o3), .val .null, .val .null, .val (.ref o4), .val (.ref o5), .val (.ref o6), .val (.ref o7), .val (.ref o7), .val (.ref o8), .unset, .unset, .unset] [(.int (0 : Int32))])) (fun t k => st22.trans k) ?_
  refine step (T22.setTop (mkF m 43 #[.val (.ref o1), .val (.ref o2), .val (.ref o3), .val .null, .val .null, .val (.ref o4), .val (.ref o5), .val (.ref o6), .val (.ref o7), .val (.ref o7), .val (.ref o8), .unset, .unset, .unset] [])) (fun t k => XS.ifYes X22.here hx rfl (pc0 := 19) (pc' := 43) rfl (hb hby d12_19) rfl ((if0 _ _).trans (teq (by decide : (0 : Int32) = (0 : Int32))).1) (by decide) (by decide) k) ?_
  refine step (T22.setTop (mkF m 44 #[.val (.ref o1), .val (.ref o2), .val (.ref o3), .val .null, .val .null, .val (.ref o4), .val (.ref o5), .val (.ref o6), .val (.ref o7), .val (.ref o7), .val (.ref o8), .unset, .unset, .unset] [(.int (0 : Int32))])) (fun t k => XS.iconst X22.here hx rfl (hb hby d12_43) k) ?_
  refine step (T22.setTop (mkF m 46 #[.val (.ref o1), .val (.ref o2), .val (.ref o3), .val .null, .val .null, .val (.ref o4), .val (.ref o5), .val (.ref o6), .val (.ref o7), .val (.ref o7), .val (.ref o8), .val (.int (0 : Int32)), .unset, .unset] [])) (fun t k => XS.istore X22.here hx rfl (hb hby d12_44) rfl (l' := #[.val (.ref o1), .val (.ref o2), .val (.ref o3), .val .null, .val .null, .val (.ref o4), .val (.ref o5), .val (.ref o6), .val (.ref o7), .val (.ref o7), .val (.ref o8), .val (.int (0 : Int32)), .unset, .unset]) rfl k) ?_
  refine step (T22.setTop (mkF m 48 #[.val (.ref o1), .val (.ref o2), .val (.ref o3), .val .null, .val .null, .val (.ref o4), .val (.ref o5), .val (.ref o6), .val (.ref o7), .val (.ref o7), .val (.ref o8), .val (.int (0 : Int32)), .unset, .unset] [(.int (0 : Int32))])) (fun t k => XS.iload X22.here hx rfl (hb hby d12_46) rfl k) ?_
  refine step (T22.setTop (mkF m 49 #[.val (.ref o1), .val (.ref o2), .val (.ref o3), .val .null, .val .null, .val (.ref o4), .val (.ref o5), .val (.ref o6), .val (.ref o7), .val (.ref o7), .val (.ref o8), .val (.int (0 : Int32)), .unset, .unset] [(.int (1 : Int32)), (.int (0 : Int32))])) (fun t k => XS.iconst X22.here hx rfl (hb hby d12_48) k) ?_
  refine step (T22.setTop (mkF m 50 #[.val (.ref o1), .val (.ref o2), .val (.ref o3), .val .null, .val .null, .val (.ref o4), .val (.ref o5), .val (.ref o6), .val (.ref o7), .val (.ref o7), .val (.ref o8), .val (.int (0 : Int32)), .unset, .unset] [(.int (1 : Int32))])) (fun t k => XS.iadd X22.here hx rfl (hb hby d12_49) rfl k) ?_
  refine step (T22.setTop (mkF m 52 #[.val (.ref o1), .val (.ref o2), .val (.ref o3), .val .null, .val .null, .val (.ref o4), .val (.ref o5), .val (.ref o6), .val (.ref o7), .val (.ref o7), .val (.ref o8), .val (.int (0 : Int32)), .unset, .unset] [(.ref o4), (.int (1 : Int32))])) (fun t k => XS.aload X22.here hx rfl (hb hby d12_50) rfl rfl k) ?_
  have f23 := ((f7.keep K3q (ninS ne_o4_b2 nin0)).other W19 (Ne.symm ne_o1_o4))
  obtain ⟨cl24, Ar24, q24, S24, N24n, H24, G24⟩ := id f23
  refine step (T22.setTop (mkF m 53 #[.val (.ref o1), .val (.ref o2), .val (.ref o3), .val .null, .val .null, .val (.ref o4), .val (.ref o5), .val (.ref o6), .val (.ref o7), .val (.ref o7), .val (.ref o8), .val (.int (0 : Int32)), .unset, .unset] [(.int (1 : Int32)), (.int (1 : Int32))])) (fun t k => X22.arraylength hx (by rw [e22q]; exact Ar24.1) (State.isArrayOf_alike hZ.alike Ar24.2.1) (g := (mkF m 52 #[.val (.ref o1), .val (.ref o2), .val (.ref o3), .val .null, .val .null, .val (.ref o4), .val (.ref o5), .val (.ref o6), .val (.ref o7), .val (.ref o7), .val (.ref o8), .val (.int (0 : Int32)), .unset, .unset] [(.ref o4), (.int (1 : Int32))])) rfl rfl (hb hby d12_52) t (by rw [len_of S24 N24n]; exact k)) ?_
  refine step (T22.setTop (mkF m 101 #[.val (.ref o1), .val (.ref o2), .val (.ref o3), .val .null, .val .null, .val (.ref o4), .val (.ref o5), .val (.ref o6), .val (.ref o7), .val (.ref o7), .val (.ref o8), .val (.int (0 : Int32)), .unset, .unset] [])) (fun t k => XS.icmpYes X22.here hx rfl (pc0 := 53) (pc' := 101) rfl (hb hby d12_53) rfl (flt (by decide : ¬ ((1 : Int32) < (1 : Int32)))).2.1 (by decide) (by decide) k) ?_
  refine step (T22.setTop (mkF m 102 #[.val (.ref o1), .val (.ref o2), .val (.ref o3), .val .null, .val .null, .val (.ref o4), .val (.ref o5), .val (.ref o6), .val (.ref o7), .val (.ref o7), .val (.ref o8), .val (.int (0 : Int32)), .unset, .unset] [(.ref o1)])) (fun t k => XS.aloadN X22.here hx rfl (hb hby d12_101) rfl rfl k) ?_
  refine step (T22.setTop (mkF m 103 #[.val (.ref o1), .val (.ref o2), .val (.ref o3), .val .null, .val .null, .val (.ref o4), .val (.ref o5), .val (.ref o6), .val (.ref o7), .val (.ref o7), .val (.ref o8), .val (.int (0 : Int32)), .unset, .unset] [(.ref o2), (.ref o1)])) (fun t k => XS.aloadN X22.here hx rfl (hb hby d12_102) rfl rfl k) ?_
  have f25 := (f17.wr W19)
  have f26 := (((Pm8.ext E2).keep K3q (ninS ne_o1_b2 nin0)).other W19 (Or.inr (slot_ne (Or.inr (hw _ (List.mem_of_getElem? (i := 121) rfl))) (Or.inr (hw _ (List.mem_of_getElem? (i := 113) rfl))) (by decide) (t := (.object "com/example/qopa/qopa/model/Model$Kind")) (t' := (.object "java/util/BitSet")) (by decide) (by decide))))
  obtain ⟨T27, h27, X27, e27, W27, st27⟩ := putF X22 hx hZ hown (host := "") (Or.inl (hw _ (List.mem_of_getElem? (i := 120) rfl))) Via.refl e22q f26 f25 (Or.inr ⟨(hw _ (List.mem_of_getElem? (i := 121) rfl)), rfl, hnm⟩) (hw _ (List.mem_of_getElem? (i := 77) rfl)) (ty := (.object "com/example/qopa/qopa/model/Model$Kind")) (by decide) rfl rfl (g := (mkF m 103 #[.val (.ref o1), .val (.ref o2), .val (.ref o3), .val .null, .val .null, .val (.ref o4), .val (.ref o5), .val (.ref o6), .val (.ref o7), .val (.ref o7), .val (.ref o8), .val (.int (0 : Int32)), .unset, .unset] [(.ref o2), (.ref o1)])) rfl rfl (hb hby d12_103)
  have N27 := Fr.snoc X27 N22 gn_o1
  have K27 : Keep h0 h27 [o1] := K19.wr W27 (Or.inl (List.mem_of_getElem? (i := 0) rfl))
  have F27 := f26.same W27
  refine step (T27.setTop (mkF m 106 #[.val (.ref o1), .val (.ref o2), .val (.ref o3), .val .null, .val .null, .val (.ref o4), .val (.ref o5), .val (.ref o6), .val (.ref o7), .val (.ref o7), .val (.ref o8), .val (.int (0 : Int32)), .unset, .unset] [])) (fun t k => st27 t k) ?_
  refine step (T27.setTop (mkF m 107 #[.val (.ref o1), .val (.ref o2), .val (.ref o3), .val .null, .val .null, .val (.ref o4), .val (.ref o5), .val (.ref o6), .val (.ref o7), .val (.ref o7), .val (.ref o8), .val (.int (0 : Int32)), .unset, .unset] [(.ref o1)])) (fun t k => XS.aloadN X27.here hx rfl (hb hby d12_106) rfl rfl k) ?_
  refine step (T27.setTop (mkF m 108 #[.val (.ref o1), .val (.ref o2), .val (.ref o3), .val .null, .val .null, .val (.ref o4), .val (.ref o5), .val (.ref o6), .val (.ref o7), .val (.ref o7), .val (.ref o8), .val (.int (0 : Int32)), .unset, .unset] [(.ref o3), (.ref o1)])) (fun t k => XS.aloadN X27.here hx rfl (hb hby d12_107) rfl rfl k) ?_
  have f28 := (f25.wr W27)
  have f29 := ((((Pm7.ext E2).keep K3q (ninS ne_o1_b2 nin0)).other W19 (Or.inr (slot_ne (Or.inr (hw _ (List.mem_of_getElem? (i := 123) rfl))) (Or.inr (hw _ (List.mem_of_getElem? (i := 113) rfl))) (by decide) (t := (.array .int)) (t' := (.object "java/util/BitSet")) (by decide) (by decide)))).other W27 (Or.inr (slot_ne (Or.inr (hw _ (List.mem_of_getElem? (i := 123) rfl))) (Or.inr (hw _ (List.mem_of_getElem? (i := 121) rfl))) (by decide) (t := (.array .int)) (t' := (.object "com/example/qopa/qopa/model/Model$Kind")) (by decide) (by decide))))
  obtain ⟨T30, h30, X30, e30, W30, st30⟩ := putF X27 hx hZ hown (host := "") (Or.inl (hw _ (List.mem_of_getElem? (i := 122) rfl))) Via.refl e27 f29 f28 (Or.inr ⟨(hw _ (List.mem_of_getElem? (i := 123) rfl)), rfl, hnm⟩) (hw _ (List.mem_of_getElem? (i := 77) rfl)) (ty := (.array .int)) (by decide) rfl rfl (g := (mkF m 108 #[.val (.ref o1), .val (.ref o2), .val (.ref o3), .val .null, .val .null, .val (.ref o4), .val (.ref o5), .val (.ref o6), .val (.ref o7), .val (.ref o7), .val (.ref o8), .val (.int (0 : Int32)), .unset, .unset] [(.ref o3), (.ref o1)])) rfl rfl (hb hby d12_108)
  have N30 := Fr.snoc X30 N27 gn_o1
  have K30 : Keep h0 h30 [o1] := K27.wr W30 (Or.inl (List.mem_of_getElem? (i := 0) rfl))
  have F30 := f29.same W30
  refine step (T30.setTop (mkF m 111 #[.val (.ref o1), .val (.ref o2), .val (.ref o3), .val .null, .val .null, .val (.ref o4), .val (.ref o5), .val (.ref o6), .val (.ref o7), .val (.ref o7), .val (.ref o8), .val (.int (0 : Int32)), .unset, .unset] [])) (fun t k => st30 t k) ?_
  refine step (T30.setTop (mkF m 112 #[.val (.ref o1), .val (.ref o2), .val (.ref o3), .val .null, .val .null, .val (.ref o4), .val (.ref o5), .val (.ref o6), .val (.ref o7), .val (.ref o7), .val (.ref o8), .val (.int (0 : Int32)), .unset, .unset] [(.ref o1)])) (fun t k => XS.aloadN X30.here hx rfl (hb hby d12_111) rfl rfl k) ?_
  refine step (T30.setTop (mkF m 113 #[.val (.ref o1), .val (.ref o2), .val (.ref o3), .val .null, .val .null, .val (.ref o4), .val (.ref o5), .val (.ref o6), .val (.ref o7), .val (.ref o7), .val (.ref o8), .val (.int (0 : Int32)), .unset, .unset] [.null, (.ref o1)])) (fun t k => XS.aloadN X30.here hx rfl (hb hby d12_112) rfl rfl k) ?_
  have f31 := (f28.wr W30)
  have f32 := (((((Pm4.ext E2).keep K3q (ninS ne_o1_b2 nin0)).other W19 (Or.inr (slot_ne (Or.inr (hw _ (List.mem_of_getElem? (i := 125) rfl))) (Or.inr (hw _ (List.mem_of_getElem? (i := 113) rfl))) (by decide) (t := (.object "com/example/qopa/qopa/model/Actions")) (t' := (.object "java/util/BitSet")) (by decide) (by decide)))).other W27 (Or.inr (slot_ne (Or.inr (hw _ (List.mem_of_getElem? (i := 125) rfl))) (Or.inr (hw _ (List.mem_of_getElem? (i := 121) rfl))) (by decide) (t := (.object "com/example/qopa/qopa/model/Actions")) (t' := (.object "com/example/qopa/qopa/model/Model$Kind")) (by decide) (by decide)))).other W30 (Or.inr (slot_ne (Or.inr (hw _ (List.mem_of_getElem? (i := 125) rfl))) (Or.inr (hw _ (List.mem_of_getElem? (i := 123) rfl))) (by decide) (t := (.object "com/example/qopa/qopa/model/Actions")) (t' := (.array .int)) (by decide) (by decide))))
  obtain ⟨T33, h33, X33, e33, W33, st33⟩ := putF X30 hx hZ hown (host := "") (Or.inl (hw _ (List.mem_of_getElem? (i := 124) rfl))) Via.refl e30 f32 f31 (Or.inr ⟨(hw _ (List.mem_of_getElem? (i := 125) rfl)), rfl, hnm⟩) (hw _ (List.mem_of_getElem? (i := 77) rfl)) (ty := (.object "com/example/qopa/qopa/model/Actions")) (by decide) rfl rfl (g := (mkF m 113 #[.val (.ref o1), .val (.ref o2), .val (.ref o3), .val .null, .val .null, .val (.ref o4), .val (.ref o5), .val (.ref o6), .val (.ref o7), .val (.ref o7), .val (.ref o8), .val (.int (0 : Int32)), .unset, .unset] [.null, (.ref o1)])) rfl rfl (hb hby d12_113)
  have N33 := Fr.snoc X33 N30 gn_o1
  have K33 : Keep h0 h33 [o1] := K30.wr W33 (Or.inl (List.mem_of_getElem? (i := 0) rfl))
  have F33 := f32.same W33
  refine step (T33.setTop (mkF m 116 #[.val (.ref o1), .val (.ref o2), .val (.ref o3), .val .null, .val .null, .val (.ref o4), .val (.ref o5), .val (.ref o6), .val (.ref o7), .val (.ref o7), .val (.ref o8), .val (.int (0 : Int32)), .unset, .unset] [])) (fun t k => st33 t k) ?_
  refine step (T33.setTop (mkF m 117 #[.val (.ref o1), .val (.ref o2), .val (.ref o3), .val .null, .val .null, .val (.ref o4), .val (.ref o5), .val (.ref o6), .val (.ref o7), .val (.ref o7), .val (.ref o8), .val (.int (0 : Int32)), .unset, .unset] [(.ref o1)])) (fun t k => XS.aloadN X33.here hx rfl (hb hby d12_116) rfl rfl k) ?_
  refine step (T33.setTop (mkF m 119 #[.val (.ref o1), .val (.ref o2), .val (.ref o3), .val .null, .val .null, .val (.ref o4), .val (.ref o5), .val (.ref o6), .val (.ref o7), .val (.ref o7), .val (.ref o8), .val (.int (0 : Int32)), .unset, .unset] [.null, (.ref o1)])) (fun t k => XS.aload X33.here hx rfl (hb hby d12_117) rfl rfl k) ?_
  have f34 := (f31.wr W33)
  have f35 := ((((((Pm9.ext E2).keep K3q (ninS ne_o1_b2 nin0)).other W19 (Or.inr (slot_ne (Or.inr (hw _ (List.mem_of_getElem? (i := 127) rfl))) (Or.inr (hw _ (List.mem_of_getElem? (i := 113) rfl))) (by decide) (t := (.object "java/util/Map")) (t' := (.object "java/util/BitSet")) (by decide) (by decide)))).other W27 (Or.inr (slot_ne (Or.inr (hw _ (List.mem_of_getElem? (i := 127) rfl))) (Or.inr (hw _ (List.mem_of_getElem? (i := 121) rfl))) (by decide) (t := (.object "java/util/Map")) (t' := (.object "com/example/qopa/qopa/model/Model$Kind")) (by decide) (by decide)))).other W30 (Or.inr (slot_ne (Or.inr (hw _ (List.mem_of_getElem? (i := 127) rfl))) (Or.inr (hw _ (List.mem_of_getElem? (i := 123) rfl))) (by decide) (t := (.object "java/util/Map")) (t' := (.array .int)) (by decide) (by decide)))).other W33 (Or.inr (slot_ne (Or.inr (hw _ (List.mem_of_getElem? (i := 127) rfl))) (Or.inr (hw _ (List.mem_of_getElem? (i := 125) rfl))) (by decide) (t := (.object "java/util/Map")) (t' := (.object "com/example/qopa/qopa/model/Actions")) (by decide) (by decide))))
  obtain ⟨T36, h36, X36, e36, W36, st36⟩ := putF X33 hx hZ hown (host := "") (Or.inl (hw _ (List.mem_of_getElem? (i := 126) rfl))) Via.refl e33 f35 f34 (Or.inr ⟨(hw _ (List.mem_of_getElem? (i := 127) rfl)), rfl, hnm⟩) (hw _ (List.mem_of_getElem? (i := 77) rfl)) (ty := (.object "java/util/Map")) (by decide) rfl rfl (g := (mkF m 119 #[.val (.ref o1), .val (.ref o2), .val (.ref o3), .val .null, .val .null, .val (.ref o4), .val (.ref o5), .val (.ref o6), .val (.ref o7), .val (.ref o7), .val (.ref o8), .val (.int (0 : Int32)), .unset, .unset] [.null, (.ref o1)])) rfl rfl (hb hby d12_119)
  have N36 := Fr.snoc X36 N33 gn_o1
  have K36 : Keep h0 h36 [o1] := K33.wr W36 (Or.inl (List.mem_of_getElem? (i := 0) rfl))
  have F36 := f35.same W36
  refine step (T36.setTop (mkF m 122 #[.val (.ref o1), .val (.ref o2), .val (.ref o3), .val .null, .val .null, .val (.ref o4), .val (.ref o5), .val (.ref o6), .val (.ref o7), .val (.ref o7), .val (.ref o8), .val (.int (0 : Int32)), .unset, .unset] [])) (fun t k => st36 t k) ?_
  refine step (T36.setTop (mkF m 123 #[.val (.ref o1), .val (.ref o2), .val (.ref o3), .val .null, .val .null, .val (.ref o4), .val (.ref o5), .val (.ref o6), .val (.ref o7), .val (.ref o7), .val (.ref o8), .val (.int (0 : Int32)), .unset, .unset] [(.ref o1)])) (fun t k => XS.aloadN X36.here hx rfl (hb hby d12_122) rfl rfl k) ?_
  refine step (T36.setTop (mkF m 125 #[.val (.ref o1), .val (.ref o2), .val (.ref o3), .val .null, .val .null, .val (.ref o4), .val (.ref o5), .val (.ref o6), .val (.ref o7), .val (.ref o7), .val (.ref o8), .val (.int (0 : Int32)), .unset, .unset] [(.ref o4), (.ref o1)])) (fun t k => XS.aload X36.here hx rfl (hb hby d12_123) rfl rfl k) ?_
  have f37 := (f34.wr W36)
  have f38 := (((((((Pm5.ext E2).keep K3q (ninS ne_o1_b2 nin0)).other W19 (Or.inr (slot_ne (Or.inr (hw _ (List.mem_of_getElem? (i := 129) rfl))) (Or.inr (hw _ (List.mem_of_getElem? (i := 113) rfl))) (by decide) (t := (.array .int)) (t' := (.object "java/util/BitSet")) (by decide) (by decide)))).other W27 (Or.inr (slot_ne (Or.inr (hw _ (List.mem_of_getElem? (i := 129) rfl))) (Or.inr (hw _ (List.mem_of_getElem? (i := 121) rfl))) (by decide) (t := (.array .int)) (t' := (.object "com/example/qopa/qopa/model/Model$Kind")) (by decide) (by decide)))).other W30 (Or.inr (slot_ne (Or.inr (hw _ (List.mem_of_getElem? (i := 129) rfl))) (Or.inr (hw _ (List.mem_of_getElem? (i := 123) rfl))) (by decide) (t := (.array .int)) (t' := (.array .int)) (by decide) (by decide)))).other W33 (Or.inr (slot_ne (Or.inr (hw _ (List.mem_of_getElem? (i := 129) rfl))) (Or.inr (hw _ (List.mem_of_getElem? (i := 125) rfl))) (by decide) (t := (.array .int)) (t' := (.object "com/example/qopa/qopa/model/Actions")) (by decide) (by decide)))).other W36 (Or.inr (slot_ne (Or.inr (hw _ (List.mem_of_getElem? (i := 129) rfl))) (Or.inr (hw _ (List.mem_of_getElem? (i := 127) rfl))) (by decide) (t := (.array .int)) (t' := (.object "java/util/Map")) (by decide) (by decide))))
  obtain ⟨T39, h39, X39, e39, W39, st39⟩ := putF X36 hx hZ hown (host := "") (Or.inl (hw _ (List.mem_of_getElem? (i := 128) rfl))) Via.refl e36 f38 f37 (Or.inr ⟨(hw _ (List.mem_of_getElem? (i := 129) rfl)), rfl, hnm⟩) (hw _ (List.mem_of_getElem? (i := 77) rfl)) (ty := (.array .int)) (by decide) rfl rfl (g := (mkF m 125 #[.val (.ref o1), .val (.ref o2), .val (.ref o3), .val .null, .val .null, .val (.ref o4), .val (.ref o5), .val (.ref o6), .val (.ref o7), .val (.ref o7), .val (.ref o8), .val (.int (0 : Int32)), .unset, .unset] [(.ref o4), (.ref o1)])) rfl rfl (hb hby d12_125)
  have N39 := Fr.snoc X39 N36 gn_o1
  have K39 : Keep h0 h39 [o1] := K36.wr W39 (Or.inl (List.mem_of_getElem? (i := 0) rfl))
  have F39 := f38.same W39
  refine step (T39.setTop (mkF m 128 #[.val (.ref o1), .val (.ref o2), .val (.ref o3), .val .null, .val .null, .val (.ref o4), .val (.ref o5), .val (.ref o6), .val (.ref o7), .val (.ref o7), .val (.ref o8), .val (.int (0 : Int32)), .unset, .unset] [])) (fun t k => st39 t k) ?_
  refine step (T39.setTop (mkF m 129 #[.val (.ref o1), .val (.ref o2), .val (.ref o3), .val .null, .val .null, .val (.ref o4), .val (.ref o5), .val (.ref o6), .val (.ref o7), .val (.ref o7), .val (.ref o8), .val (.int (0 : Int32)), .unset, .unset] [(.ref o1)])) (fun t k => XS.aloadN X39.here hx rfl (hb hby d12_128) rfl rfl k) ?_
  refine step (T39.setTop (mkF m 131 #[.val (.ref o1), .val (.ref o2), .val (.ref o3), .val .null, .val .null, .val (.ref o4), .val (.ref o5), .val (.ref o6), .val (.ref o7), .val (.ref o7), .val (.ref o8), .val (.int (0 : Int32)), .unset, .unset] [(.ref o5), (.ref o1)])) (fun t k => XS.aload X39.here hx rfl (hb hby d12_129) rfl rfl k) ?_
  have f40 := (f37.wr W39)
  have f41 := ((((((((Pm6.ext E2).keep K3q (ninS ne_o1_b2 nin0)).other W19 (Or.inr (slot_ne (Or.inr (hw _ (List.mem_of_getElem? (i := 131) rfl))) (Or.inr (hw _ (List.mem_of_getElem? (i := 113) rfl))) (by decide) (t := (.array .int)) (t' := (.object "java/util/BitSet")) (by decide) (by decide)))).other W27 (Or.inr (slot_ne (Or.inr (hw _ (List.mem_of_getElem? (i := 131) rfl))) (Or.inr (hw _ (List.mem_of_getElem? (i := 121) rfl))) (by decide) (t := (.array .int)) (t' := (.object "com/example/qopa/qopa/model/Model$Kind")) (by decide) (by decide)))).other W30 (Or.inr (slot_ne (Or.inr (hw _ (List.mem_of_getElem? (i := 131) rfl))) (Or.inr (hw _ (List.mem_of_getElem? (i := 123) rfl))) (by decide) (t := (.array .int)) (t' := (.array .int)) (by decide) (by decide)))).other W33 (Or.inr (slot_ne (Or.inr (hw _ (List.mem_of_getElem? (i := 131) rfl))) (Or.inr (hw _ (List.mem_of_getElem? (i := 125) rfl))) (by decide) (t := (.array .int)) (t' := (.object "com/example/qopa/qopa/model/Actions")) (by decide) (by decide)))).other W36 (Or.inr (slot_ne (Or.inr (hw _ (List.mem_of_getElem? (i := 131) rfl))) (Or.inr (hw _ (List.mem_of_getElem? (i := 127) rfl))) (by decide) (t := (.array .int)) (t' := (.object "java/util/Map")) (by decide) (by decide)))).other W39 (Or.inr (slot_ne (Or.inr (hw _ (List.mem_of_getElem? (i := 131) rfl))) (Or.inr (hw _ (List.mem_of_getElem? (i := 129) rfl))) (by decide) (t := (.array .int)) (t' := (.array .int)) (by decide) (by decide))))
  obtain ⟨T42, h42, X42, e42, W42, st42⟩ := putF X39 hx hZ hown (host := "") (Or.inl (hw _ (List.mem_of_getElem? (i := 130) rfl))) Via.refl e39 f41 f40 (Or.inr ⟨(hw _ (List.mem_of_getElem? (i := 131) rfl)), rfl, hnm⟩) (hw _ (List.mem_of_getElem? (i := 77) rfl)) (ty := (.array .int)) (by decide) rfl rfl (g := (mkF m 131 #[.val (.ref o1), .val (.ref o2), .val (.ref o3), .val .null, .val .null, .val (.ref o4), .val (.ref o5), .val (.ref o6), .val (.ref o7), .val (.ref o7), .val (.ref o8), .val (.int (0 : Int32)), .unset, .unset] [(.ref o5), (.ref o1)])) rfl rfl (hb hby d12_131)
  have N42 := Fr.snoc X42 N39 gn_o1
  have K42 : Keep h0 h42 [o1] := K39.wr W42 (Or.inl (List.mem_of_getElem? (i := 0) rfl))
  have F42 := f41.same W42
  refine step (T42.setTop (mkF m 134 #[.val (.ref o1), .val (.ref o2), .val (.ref o3), .val .null, .val .null, .val (.ref o4), .val (.ref o5), .val (.ref o6), .val (.ref o7), .val (.ref o7), .val (.ref o8), .val (.int (0 : Int32)), .unset, .unset] [])) (fun t k => st42 t k) ?_
  refine step (T42.setTop (mkF m 135 #[.val (.ref o1), .val (.ref o2), .val (.ref o3), .val .null, .val .null, .val (.ref o4), .val (.ref o5), .val (.ref o6), .val (.ref o7), .val (.ref o7), .val (.ref o8), .val (.int (0 : Int32)), .unset, .unset] [(.ref o1)])) (fun t k => XS.aloadN X42.here hx rfl (hb hby d12_134) rfl rfl k) ?_
  refine step (T42.setTop (mkF m 137 #[.val (.ref o1), .val (.ref o2), .val (.ref o3), .val .null, .val .null, .val (.ref o4), .val (.ref o5), .val (.ref o6), .val (.ref o7), .val (.ref o7), .val (.ref o8), .val (.int (0 : Int32)), .unset, .unset] [(.ref o6), (.ref o1)])) (fun t k => XS.aload X42.here hx rfl (hb hby d12_135) rfl rfl k) ?_
  have f43 := (f40.wr W42)
  have f44 := (((((((((Pm12.ext E2).keep K3q (ninS ne_o1_b2 nin0)).other W19 (Or.inr (slot_ne (Or.inr (hw _ (List.mem_of_getElem? (i := 133) rfl))) (Or.inr (hw _ (List.mem_of_getElem? (i := 113) rfl))) (by decide) (t := (.array .int)) (t' := (.object "java/util/BitSet")) (by decide) (by decide)))).other W27 (Or.inr (slot_ne (Or.inr (hw _ (List.mem_of_getElem? (i := 133) rfl))) (Or.inr (hw _ (List.mem_of_getElem? (i := 121) rfl))) (by decide) (t := (.array .int)) (t' := (.object "com/example/qopa/qopa/model/Model$Kind")) (by decide) (by decide)))).other W30 (Or.inr (slot_ne (Or.inr (hw _ (List.mem_of_getElem? (i := 133) rfl))) (Or.inr (hw _ (List.mem_of_getElem? (i := 123) rfl))) (by decide) (t := (.array .int)) (t' := (.array .int)) (by decide) (by decide)))).other W33 (Or.inr (slot_ne (Or.inr (hw _ (List.mem_of_getElem? (i := 133) rfl))) (Or.inr (hw _ (List.mem_of_getElem? (i := 125) rfl))) (by decide) (t := (.array .int)) (t' := (.object "com/example/qopa/qopa/model/Actions")) (by decide) (by decide)))).other W36 (Or.inr (slot_ne (Or.inr (hw _ (List.mem_of_getElem? (i := 133) rfl))) (Or.inr (hw _ (List.mem_of_getElem? (i := 127) rfl))) (by decide) (t := (.array .int)) (t' := (.object "java/util/Map")) (by decide) (by decide)))).other W39 (Or.inr (slot_ne (Or.inr (hw _ (List.mem_of_getElem? (i := 133) rfl))) (Or.inr (hw _ (List.mem_of_getElem? (i := 129) rfl))) (by decide) (t := (.array .int)) (t' := (.array .int)) (by decide) (by decide)))).other W42 (Or.inr (slot_ne (Or.inr (hw _ (List.mem_of_getElem? (i := 133) rfl))) (Or.inr (hw _ (List.mem_of_getElem? (i := 131) rfl))) (by decide) (t := (.array .int)) (t' := (.array .int)) (by decide) (by decide))))
  obtain ⟨T45, h45, X45, e45, W45, st45⟩ := putF X42 hx hZ hown (host := "") (Or.inl (hw _ (List.mem_of_getElem? (i := 132) rfl))) Via.refl e42 f44 f43 (Or.inr ⟨(hw _ (List.mem_of_getElem? (i := 133) rfl)), rfl, hnm⟩) (hw _ (List.mem_of_getElem? (i := 77) rfl)) (ty := (.array .int)) (by decide) rfl rfl (g := (mkF m 137 #[.val (.ref o1), .val (.ref o2), .val (.ref o3), .val .null, .val .null, .val (.ref o4), .val (.ref o5), .val (.ref o6), .val (.ref o7), .val (.ref o7), .val (.ref o8), .val (.int (0 : Int32)), .unset, .unset] [(.ref o6), (.ref o1)])) rfl rfl (hb hby d12_137)
  have N45 := Fr.snoc X45 N42 gn_o1
  have K45 : Keep h0 h45 [o1] := K42.wr W45 (Or.inl (List.mem_of_getElem? (i := 0) rfl))
  have F45 := f44.same W45
  refine step (T45.setTop (mkF m 140 #[.val (.ref o1), .val (.ref o2), .val (.ref o3), .val .null, .val .null, .val (.ref o4), .val (.ref o5), .val (.ref o6), .val (.ref o7), .val (.ref o7), .val (.ref o8), .val (.int (0 : Int32)), .unset, .unset] [])) (fun t k => st45 t k) ?_
  refine step (T45.setTop (mkF m 141 #[.val (.ref o1), .val (.ref o2), .val (.ref o3), .val .null, .val .null, .val (.ref o4), .val (.ref o5), .val (.ref o6), .val (.ref o7), .val (.ref o7), .val (.ref o8), .val (.int (0 : Int32)), .unset, .unset] [(.ref o1)])) (fun t k => XS.aloadN X45.here hx rfl (hb hby d12_140) rfl rfl k) ?_
  refine step (T45.setTop (mkF m 143 #[.val (.ref o1), .val (.ref o2), .val (.ref o3), .val .null, .val .null, .val (.ref o4), .val (.ref o5), .val (.ref o6), .val (.ref o7), .val (.ref o7), .val (.ref o8), .val (.int (0 : Int32)), .unset, .unset] [(.ref o7), (.ref o1)])) (fun t k => XS.aload X45.here hx rfl (hb hby d12_141) rfl rfl k) ?_
  have f46 := (f43.wr W45)
  have f47 := ((((((((((Pm10.ext E2).keep K3q (ninS ne_o1_b2 nin0)).other W19 (Or.inr (slot_ne (Or.inr (hw _ (List.mem_of_getElem? (i := 135) rfl))) (Or.inr (hw _ (List.mem_of_getElem? (i := 113) rfl))) (by decide) (t := (.array (.object "com/example/qopa/qopa/math/Rational"))) (t' := (.object "java/util/BitSet")) (by decide) (by decide)))).other W27 (Or.inr (slot_ne (Or.inr (hw _ (List.mem_of_getElem? (i := 135) rfl))) (Or.inr (hw _ (List.mem_of_getElem? (i := 121) rfl))) (by decide) (t := (.array (.object "com/example/qopa/qopa/math/Rational"))) (t' := (.object "com/example/qopa/qopa/model/Model$Kind")) (by decide) (by decide)))).other W30 (Or.inr (slot_ne (Or.inr (hw _ (List.mem_of_getElem? (i := 135) rfl))) (Or.inr (hw _ (List.mem_of_getElem? (i := 123) rfl))) (by decide) (t := (.array (.object "com/example/qopa/qopa/math/Rational"))) (t' := (.array .int)) (by decide) (by decide)))).other W33 (Or.inr (slot_ne (Or.inr (hw _ (List.mem_of_getElem? (i := 135) rfl))) (Or.inr (hw _ (List.mem_of_getElem? (i := 125) rfl))) (by decide) (t := (.array (.object "com/example/qopa/qopa/math/Rational"))) (t' := (.object "com/example/qopa/qopa/model/Actions")) (by decide) (by decide)))).other W36 (Or.inr (slot_ne (Or.inr (hw _ (List.mem_of_getElem? (i := 135) rfl))) (Or.inr (hw _ (List.mem_of_getElem? (i := 127) rfl))) (by decide) (t := (.array (.object "com/example/qopa/qopa/math/Rational"))) (t' := (.object "java/util/Map")) (by decide) (by decide)))).other W39 (Or.inr (slot_ne (Or.inr (hw _ (List.mem_of_getElem? (i := 135) rfl))) (Or.inr (hw _ (List.mem_of_getElem? (i := 129) rfl))) (by decide) (t := (.array (.object "com/example/qopa/qopa/math/Rational"))) (t' := (.array .int)) (by decide) (by decide)))).other W42 (Or.inr (slot_ne (Or.inr (hw _ (List.mem_of_getElem? (i := 135) rfl))) (Or.inr (hw _ (List.mem_of_getElem? (i := 131) rfl))) (by decide) (t := (.array (.object "com/example/qopa/qopa/math/Rational"))) (t' := (.array .int)) (by decide) (by decide)))).other W45 (Or.inr (slot_ne (Or.inr (hw _ (List.mem_of_getElem? (i := 135) rfl))) (Or.inr (hw _ (List.mem_of_getElem? (i := 133) rfl))) (by decide) (t := (.array (.object "com/example/qopa/qopa/math/Rational"))) (t' := (.array .int)) (by decide) (by decide))))
  obtain ⟨T48, h48, X48, e48, W48, st48⟩ := putF X45 hx hZ hown (host := "") (Or.inl (hw _ (List.mem_of_getElem? (i := 134) rfl))) Via.refl e45 f47 f46 (Or.inr ⟨(hw _ (List.mem_of_getElem? (i := 135) rfl)), rfl, hnm⟩) (hw _ (List.mem_of_getElem? (i := 77) rfl)) (ty := (.array (.object "com/example/qopa/qopa/math/Rational"))) (by decide) rfl rfl (g := (mkF m 143 #[.val (.ref o1), .val (.ref o2), .val (.ref o3), .val .null, .val .null, .val (.ref o4), .val (.ref o5), .val (.ref o6), .val (.ref o7), .val (.ref o7), .val (.ref o8), .val (.int (0 : Int32)), .unset, .unset] [(.ref o7), (.ref o1)])) rfl rfl (hb hby d12_143)
  have N48 := Fr.snoc X48 N45 gn_o1
  have K48 : Keep h0 h48 [o1] := K45.wr W48 (Or.inl (List.mem_of_getElem? (i := 0) rfl))
  have F48 := f47.same W48
  refine step (T48.setTop (mkF m 146 #[.val (.ref o1), .val (.ref o2), .val (.ref o3), .val .null, .val .null, .val (.ref o4), .val (.ref o5), .val (.ref o6), .val (.ref o7), .val (.ref o7), .val (.ref o8), .val (.int (0 : Int32)), .unset, .unset] [])) (fun t k => st48 t k) ?_
  refine step (T48.setTop (mkF m 147 #[.val (.ref o1), .val (.ref o2), .val (.ref o3), .val .null, .val .null, .val (.ref o4), .val (.ref o5), .val (.ref o6), .val (.ref o7), .val (.ref o7), .val (.ref o8), .val (.int (0 : Int32)), .unset, .unset] [(.ref o1)])) (fun t k => XS.aloadN X48.here hx rfl (hb hby d12_146) rfl rfl k) ?_
  refine step (T48.setTop (mkF m 149 #[.val (.ref o1), .val (.ref o2), .val (.ref o3), .val .null, .val .null, .val (.ref o4), .val (.ref o5), .val (.ref o6), .val (.ref o7), .val (.ref o7), .val (.ref o8), .val (.int (0 : Int32)), .unset, .unset] [(.ref o7), (.ref o1)])) (fun t k => XS.aload X48.here hx rfl (hb hby d12_147) rfl rfl k) ?_
  have f49 := (f46.wr W48)
  have f50 := (((((((((((Pm14.ext E2).keep K3q (ninS ne_o1_b2 nin0)).other W19 (Or.inr (slot_ne (Or.inr (hw _ (List.mem_of_getElem? (i := 137) rfl))) (Or.inr (hw _ (List.mem_of_getElem? (i := 113) rfl))) (by decide) (t := (.array (.object "com/example/qopa/qopa/math/Rational"))) (t' := (.object "java/util/BitSet")) (by decide) (by decide)))).other W27 (Or.inr (slot_ne (Or.inr (hw _ (List.mem_of_getElem? (i := 137) rfl))) (Or.inr (hw _ (List.mem_of_getElem? (i := 121) rfl))) (by decide) (t := (.array (.object "com/example/qopa/qopa/math/Rational"))) (t' := (.object "com/example/qopa/qopa/model/Model$Kind")) (by decide) (by decide)))).other W30 (Or.inr (slot_ne (Or.inr (hw _ (List.mem_of_getElem? (i := 137) rfl))) (Or.inr (hw _ (List.mem_of_getElem? (i := 123) rfl))) (by decide) (t := (.array (.object "com/example/qopa/qopa/math/Rational"))) (t' := (.array .int)) (by decide) (by decide)))).other W33 (Or.inr (slot_ne (Or.inr (hw _ (List.mem_of_getElem? (i := 137) rfl))) (Or.inr (hw _ (List.mem_of_getElem? (i := 125) rfl))) (by decide) (t := (.array (.object "com/example/qopa/qopa/math/Rational"))) (t' := (.object "com/example/qopa/qopa/model/Actions")) (by decide) (by decide)))).other W36 (Or.inr (slot_ne (Or.inr (hw _ (List.mem_of_getElem? (i := 137) rfl))) (Or.inr (hw _ (List.mem_of_getElem? (i := 127) rfl))) (by decide) (t := (.array (.object "com/example/qopa/qopa/math/Rational"))) (t' := (.object "java/util/Map")) (by decide) (by decide)))).other W39 (Or.inr (slot_ne (Or.inr (hw _ (List.mem_of_getElem? (i := 137) rfl))) (Or.inr (hw _ (List.mem_of_getElem? (i := 129) rfl))) (by decide) (t := (.array (.object "com/example/qopa/qopa/math/Rational"))) (t' := (.array .int)) (by decide) (by decide)))).other W42 (Or.inr (slot_ne (Or.inr (hw _ (List.mem_of_getElem? (i := 137) rfl))) (Or.inr (hw _ (List.mem_of_getElem? (i := 131) rfl))) (by decide) (t := (.array (.object "com/example/qopa/qopa/math/Rational"))) (t' := (.array .int)) (by decide) (by decide)))).other W45 (Or.inr (slot_ne (Or.inr (hw _ (List.mem_of_getElem? (i := 137) rfl))) (Or.inr (hw _ (List.mem_of_getElem? (i := 133) rfl))) (by decide) (t := (.array (.object "com/example/qopa/qopa/math/Rational"))) (t' := (.array .int)) (by decide) (by decide)))).other W48 (Or.inr (slot_ne (Or.inr (hw _ (List.mem_of_getElem? (i := 137) rfl))) (Or.inr (hw _ (List.mem_of_getElem? (i := 135) rfl))) (by decide) (t := (.array (.object "com/example/qopa/qopa/math/Rational"))) (t' := (.array (.object "com/example/qopa/qopa/math/Rational"))) (by decide) (by decide))))
  obtain ⟨T51, h51, X51, e51, W51, st51⟩ := putF X48 hx hZ hown (host := "") (Or.inl (hw _ (List.mem_of_getElem? (i := 136) rfl))) Via.refl e48 f50 f49 (Or.inr ⟨(hw _ (List.mem_of_getElem? (i := 137) rfl)), rfl, hnm⟩) (hw _ (List.mem_of_getElem? (i := 77) rfl)) (ty := (.array (.object "com/example/qopa/qopa/math/Rational"))) (by decide) rfl rfl (g := (mkF m 149 #[.val (.ref o1), .val (.ref o2), .val (.ref o3), .val .null, .val .null, .val (.ref o4), .val (.ref o5), .val (.ref o6), .val (.ref o7), .val (.ref o7), .val (.ref o8), .val (.int (0 : Int32)), .unset, .unset] [(.ref o7), (.ref o1)])) rfl rfl (hb hby d12_149)
  have N51 := Fr.snoc X51 N48 gn_o1
  have K51 : Keep h0 h51 [o1] := K48.wr W51 (Or.inl (List.mem_of_getElem? (i := 0) rfl))
  have F51 := f50.same W51
  refine step (T51.setTop (mkF m 152 #[.val (.ref o1), .val (.ref o2), .val (.ref o3), .val .null, .val .null, .val (.ref o4), .val (.ref o5), .val (.ref o6), .val (.ref o7), .val (.ref o7), .val (.ref o8), .val (.int (0 : Int32)), .unset, .unset] [])) (fun t k => st51 t k) ?_
  refine step (T51.setTop (mkF m 153 #[.val (.ref o1), .val (.ref o2), .val (.ref o3), .val .null, .val .null, .val (.ref o4), .val (.ref o5), .val (.ref o6), .val (.ref o7), .val (.ref o7), .val (.ref o8), .val (.int (0 : Int32)), .unset, .unset] [(.ref o1)])) (fun t k => XS.aloadN X51.here hx rfl (hb hby d12_152) rfl rfl k) ?_
  refine step (T51.setTop (mkF m 155 #[.val (.ref o1), .val (.ref o2), .val (.ref o3), .val .null, .val .null, .val (.ref o4), .val (.ref o5), .val (.ref o6), .val (.ref o7), .val (.ref o7), .val (.ref o8), .val (.int (0 : Int32)), .unset, .unset] [(.ref o8), (.ref o1)])) (fun t k => XS.aload X51.here hx rfl (hb hby d12_153) rfl rfl k) ?_
  have f52 := (f49.wr W51)
  have f53 := ((((((((((((Pm3.ext E2).keep K3q (ninS ne_o1_b2 nin0)).other W19 (Or.inr (slot_ne (Or.inr (hw _ (List.mem_of_getElem? (i := 139) rfl))) (Or.inr (hw _ (List.mem_of_getElem? (i := 113) rfl))) (by decide) (t := (.array .int)) (t' := (.object "java/util/BitSet")) (by decide) (by decide)))).other W27 (Or.inr (slot_ne (Or.inr (hw _ (List.mem_of_getElem? (i := 139) rfl))) (Or.inr (hw _ (List.mem_of_getElem? (i := 121) rfl))) (by decide) (t := (.array .int)) (t' := (.object "com/example/qopa/qopa/model/Model$Kind")) (by decide) (by decide)))).other W30 (Or.inr (slot_ne (Or.inr (hw _ (List.mem_of_getElem? (i := 139) rfl))) (Or.inr (hw _ (List.mem_of_getElem? (i := 123) rfl))) (by decide) (t := (.array .int)) (t' := (.array .int)) (by decide) (by decide)))).other W33 (Or.inr (slot_ne (Or.inr (hw _ (List.mem_of_getElem? (i := 139) rfl))) (Or.inr (hw _ (List.mem_of_getElem? (i := 125) rfl))) (by decide) (t := (.array .int)) (t' := (.object "com/example/qopa/qopa/model/Actions")) (by decide) (by decide)))).other W36 (Or.inr (slot_ne (Or.inr (hw _ (List.mem_of_getElem? (i := 139) rfl))) (Or.inr (hw _ (List.mem_of_getElem? (i := 127) rfl))) (by decide) (t := (.array .int)) (t' := (.object "java/util/Map")) (by decide) (by decide)))).other W39 (Or.inr (slot_ne (Or.inr (hw _ (List.mem_of_getElem? (i := 139) rfl))) (Or.inr (hw _ (List.mem_of_getElem? (i := 129) rfl))) (by decide) (t := (.array .int)) (t' := (.array .int)) (by decide) (by decide)))).other W42 (Or.inr (slot_ne (Or.inr (hw _ (List.mem_of_getElem? (i := 139) rfl))) (Or.inr (hw _ (List.mem_of_getElem? (i := 131) rfl))) (by decide) (t := (.array .int)) (t' := (.array .int)) (by decide) (by decide)))).other W45 (Or.inr (slot_ne (Or.inr (hw _ (List.mem_of_getElem? (i := 139) rfl))) (Or.inr (hw _ (List.mem_of_getElem? (i := 133) rfl))) (by decide) (t := (.array .int)) (t' := (.array .int)) (by decide) (by decide)))).other W48 (Or.inr (slot_ne (Or.inr (hw _ (List.mem_of_getElem? (i := 139) rfl))) (Or.inr (hw _ (List.mem_of_getElem? (i := 135) rfl))) (by decide) (t := (.array .int)) (t' := (.array (.object "com/example/qopa/qopa/math/Rational"))) (by decide) (by decide)))).other W51 (Or.inr (slot_ne (Or.inr (hw _ (List.mem_of_getElem? (i := 139) rfl))) (Or.inr (hw _ (List.mem_of_getElem? (i := 137) rfl))) (by decide) (t := (.array .int)) (t' := (.array (.object "com/example/qopa/qopa/math/Rational"))) (by decide) (by decide))))
  obtain ⟨T54, h54, X54, e54, W54, st54⟩ := putF X51 hx hZ hown (host := "") (Or.inl (hw _ (List.mem_of_getElem? (i := 138) rfl))) Via.refl e51 f53 f52 (Or.inr ⟨(hw _ (List.mem_of_getElem? (i := 139) rfl)), rfl, hnm⟩) (hw _ (List.mem_of_getElem? (i := 77) rfl)) (ty := (.array .int)) (by decide) rfl rfl (g := (mkF m 155 #[.val (.ref o1), .val (.ref o2), .val (.ref o3), .val .null, .val .null, .val (.ref o4), .val (.ref o5), .val (.ref o6), .val (.ref o7), .val (.ref o7), .val (.ref o8), .val (.int (0 : Int32)), .unset, .unset] [(.ref o8), (.ref o1)])) rfl rfl (hb hby d12_155)
  have N54 := Fr.snoc X54 N51 gn_o1
  have K54 : Keep h0 h54 [o1] := K51.wr W54 (Or.inl (List.mem_of_getElem? (i := 0) rfl))
  have F54 := f53.same W54
  refine step (T54.setTop (mkF m 158 #[.val (.ref o1), .val (.ref o2), .val (.ref o3), .val .null, .val .null, .val (.ref o4), .val (.ref o5), .val (.ref o6), .val (.ref o7), .val (.ref o7), .val (.ref o8), .val (.int (0 : Int32)), .unset, .unset] [])) (fun t k => st54 t k) ?_
  refine step (T54.setTop (mkF m 159 #[.val (.ref o1), .val (.ref o2), .val (.ref o3), .val .null, .val .null, .val (.ref o4), .val (.ref o5), .val (.ref o6), .val (.ref o7), .val (.ref o7), .val (.ref o8), .val (.int (0 : Int32)), .unset, .unset] [(.ref o1)])) (fun t k => XS.aloadN X54.here hx rfl (hb hby d12_158) rfl rfl k) ?_
  refine step (T54.setTop (mkF m 160 #[.val (.ref o1), .val (.ref o2), .val (.ref o3), .val .null, .val .null, .val (.ref o4), .val (.ref o5), .val (.ref o6), .val (.ref o7), .val (.ref o7), .val (.ref o8), .val (.int (0 : Int32)), .unset, .unset] [(.ref o2), (.ref o1)])) (fun t k => XS.aloadN X54.here hx rfl (hb hby d12_159) rfl rfl k) ?_
  have f55 := (((((((((((f16.wr W19).wr W27).wr W30).wr W33).wr W36).wr W39).wr W42).wr W45).wr W48).wr W51).wr W54)
  have f56 := ((((((((((f21.wr W27).wr W30).wr W33).wr W36).wr W39).wr W42).wr W45).wr W48).wr W51).wr W54)
  have f57 := ((((((((((((f12.keep K3q).wr W19).wr W27).wr W30).wr W33).wr W36).wr W39).wr W42).wr W45).wr W48).wr W51).wr W54)
  obtain ⟨cq58, kq58, q58a, q58b, q58c⟩ := isOf hZ e54 f56
  obtain ⟨_, _, ⟨T58, L58, k58, n58⟩, -, X58, ⟨Lc58, hQ58, l58, y58, z58⟩, st58⟩ := X54.virtualBack hx (y := (⟨"com/example/qopa/qopa/model/Model$Kind", "hasBounds", "()Z"⟩ : MethodName)) (z := (⟨"com/example/qopa/qopa/model/Model$Kind", "hasBounds", "()Z"⟩ : MethodName)) hown (mvT hZ (hw _ (List.mem_of_getElem? (i := 140) rfl))) (mvT hZ (hw _ (List.mem_of_getElem? (i := 141) rfl))) (notFace_of_selects (args := #[]) (mvT hZ (hw _ (List.mem_of_getElem? (i := 143) rfl)))) (mvT hZ (hw _ (List.mem_of_getElem? (i := 143) rfl))) (mvT hZ (hw _ (List.mem_of_getElem? (i := 142) rfl))) (by decide) (backOf (W := 1) (rm17_22 l Z a0 hw [] o2 o9 h54 n0 (Nat.le_trans Z0 K54.1) f55 f56 f57 ne_o2_o9) hZ (hw _ (List.mem_of_getElem? (i := 144) rfl)) (hw _ (List.mem_of_getElem? (i := 66) rfl)) (by decide) (by decide)) q58a q58c (g := (mkF m 160 #[.val (.ref o1), .val (.ref o2), .val (.ref o3), .val .null, .val .null, .val (.ref o4), .val (.ref o5), .val (.ref o6), .val (.ref o7), .val (.ref o7), .val (.ref o8), .val (.int (0 : Int32)), .unset, .unset] [(.ref o2), (.ref o1)])) rfl (by rw [hml]; rfl) (Steps.refl _) (argsL := []) (rest := [(.ref o1)]) (lenOf pd_12 rfl) rfl (by show 2 * 0 + _ ≤ _; exact Nat.le_of_eq rfl) (hb hby d12_160) (fun _ _ => ⟨rfl, e54, (by decide : 2 + 0 ≤ _), (by decide : 4 + 0 ≤ _)⟩)
  dsimp only [Pt.U, Pt.locs, Pt.cells, Pt.slots] at X58 l58 y58 z58 st58 hQ58
  subst l58 y58 z58
  obtain ⟨rfl, N58q, e58q⟩ := hQ58
  have N58 := Fr.app N54 N58q
  refine step (T58.setTop (mkF m 163 #[.val (.ref o1), .val (.ref o2), .val (.ref o3), .val .null, .val .null, .val (.ref o4), .val (.ref o5), .val (.ref o6), .val (.ref o7), .val (.ref o7), .val (.ref o8), .val (.int (0 : Int32)), .unset, .unset] [(.int (0 : Int32)), (.ref o1)])) (fun t k => st58.trans k) ?_
  refine step (T58.setTop (mkF m 176 #[.val (.ref o1), .val (.ref o2), .val (.ref o3), .val .null, .val .null, .val (.ref o4), .val (.ref o5), .val (.ref o6), .val (.ref o7), .val (.ref o7), .val (.ref o8), .val (.int (0 : Int32)), .unset, .unset] [(.ref o1)])) (fun t k => XS.ifYes X58.here hx rfl (pc0 := 163) (pc' := 176) rfl (hb hby d12_163) rfl ((if0 _ _).trans (teq (by decide : (0 : Int32) = (0 : Int32))).1) (by decide) (by decide) k) ?_
  refine step (T58.setTop (mkF m 177 #[.val (.ref o1), .val (.ref o2), .val (.ref o3), .val .null, .val .null, .val (.ref o4), .val (.ref o5), .val (.ref o6), .val (.ref o7), .val (.ref o7), .val (.ref o8), .val (.int (0 : Int32)), .unset, .unset] [.null, (.ref o1)])) (fun t k => XS.aconstNull X58.here hx rfl (hb hby d12_176) k) ?_
  have f59 := (f52.wr W54)
  have f60 := (((((((((((((Pm11.ext E2).keep K3q (ninS ne_o1_b2 nin0)).other W19 (Or.inr (slot_ne (Or.inr (hw _ (List.mem_of_getElem? (i := 148) rfl))) (Or.inr (hw _ (List.mem_of_getElem? (i := 113) rfl))) (by decide) (t := (.array (.object "com/example/qopa/qopa/math/Rational"))) (t' := (.object "java/util/BitSet")) (by decide) (by decide)))).other W27 (Or.inr (slot_ne (Or.inr (hw _ (List.mem_of_getElem? (i := 148) rfl))) (Or.inr (hw _ (List.mem_of_getElem? (i := 121) rfl))) (by decide) (t := (.array (.object "com/example/qopa/qopa/math/Rational"))) (t' := (.object "com/example/qopa/qopa/model/Model$Kind")) (by decide) (by decide)))).other W30 (Or.inr (slot_ne (Or.inr (hw _ (List.mem_of_getElem? (i := 148) rfl))) (Or.inr (hw _ (List.mem_of_getElem? (i := 123) rfl))) (by decide) (t := (.array (.object "com/example/qopa/qopa/math/Rational"))) (t' := (.array .int)) (by decide) (by decide)))).other W33 (Or.inr (slot_ne (Or.inr (hw _ (List.mem_of_getElem? (i := 148) rfl))) (Or.inr (hw _ (List.mem_of_getElem? (i := 125) rfl))) (by decide) (t := (.array (.object "com/example/qopa/qopa/math/Rational"))) (t' := (.object "com/example/qopa/qopa/model/Actions")) (by decide) (by decide)))).other W36 (Or.inr (slot_ne (Or.inr (hw _ (List.mem_of_getElem? (i := 148) rfl))) (Or.inr (hw _ (List.mem_of_getElem? (i := 127) rfl))) (by decide) (t := (.array (.object "com/example/qopa/qopa/math/Rational"))) (t' := (.object "java/util/Map")) (by decide) (by decide)))).other W39 (Or.inr (slot_ne (Or.inr (hw _ (List.mem_of_getElem? (i := 148) rfl))) (Or.inr (hw _ (List.mem_of_getElem? (i := 129) rfl))) (by decide) (t := (.array (.object "com/example/qopa/qopa/math/Rational"))) (t' := (.array .int)) (by decide) (by decide)))).other W42 (Or.inr (slot_ne (Or.inr (hw _ (List.mem_of_getElem? (i := 148) rfl))) (Or.inr (hw _ (List.mem_of_getElem? (i := 131) rfl))) (by decide) (t := (.array (.object "com/example/qopa/qopa/math/Rational"))) (t' := (.array .int)) (by decide) (by decide)))).other W45 (Or.inr (slot_ne (Or.inr (hw _ (List.mem_of_getElem? (i := 148) rfl))) (Or.inr (hw _ (List.mem_of_getElem? (i := 133) rfl))) (by decide) (t := (.array (.object "com/example/qopa/qopa/math/Rational"))) (t' := (.array .int)) (by decide) (by decide)))).other W48 (Or.inr (slot_ne (Or.inr (hw _ (List.mem_of_getElem? (i := 148) rfl))) (Or.inr (hw _ (List.mem_of_getElem? (i := 135) rfl))) (by decide) (t := (.array (.object "com/example/qopa/qopa/math/Rational"))) (t' := (.array (.object "com/example/qopa/qopa/math/Rational"))) (by decide) (by decide)))).other W51 (Or.inr (slot_ne (Or.inr (hw _ (List.mem_of_getElem? (i := 148) rfl))) (Or.inr (hw _ (List.mem_of_getElem? (i := 137) rfl))) (by decide) (t := (.array (.object "com/example/qopa/qopa/math/Rational"))) (t' := (.array (.object "com/example/qopa/qopa/math/Rational"))) (by decide) (by decide)))).other W54 (Or.inr (slot_ne (Or.inr (hw _ (List.mem_of_getElem? (i := 148) rfl))) (Or.inr (hw _ (List.mem_of_getElem? (i := 139) rfl))) (by decide) (t := (.array (.object "com/example/qopa/qopa/math/Rational"))) (t' := (.array .int)) (by decide) (by decide))))
  obtain ⟨T61, h61, X61, e61, W61, st61⟩ := putF X58 hx hZ hown (host := "") (Or.inl (hw _ (List.mem_of_getElem? (i := 147) rfl))) Via.refl e58q f60 f59 (Or.inr ⟨(hw _ (List.mem_of_getElem? (i := 148) rfl)), rfl, hnm⟩) (hw _ (List.mem_of_getElem? (i := 77) rfl)) (ty := (.array (.object "com/example/qopa/qopa/math/Rational"))) (by decide) rfl rfl (g := (mkF m 177 #[.val (.ref o1), .val (.ref o2), .val (.ref o3), .val .null, .val .null, .val (.ref o4), .val (.ref o5), .val (.ref o6), .val (.ref o7), .val (.ref o7), .val (.ref o8), .val (.int (0 : Int32)), .unset, .unset] [.null, (.ref o1)])) rfl rfl (hb hby d12_177)
  have N61 := Fr.snoc X61 N58 gn_o1
  have K61 : Keep h0 h61 [o1] := K54.wr W61 (Or.inl (List.mem_of_getElem? (i := 0) rfl))
  have F61 := f60.same W61
  refine step (T61.setTop (mkF m 180 #[.val (.ref o1), .val (.ref o2), .val (.ref o3), .val .null, .val .null, .val (.ref o4), .val (.ref o5), .val (.ref o6), .val (.ref o7), .val (.ref o7), .val (.ref o8), .val (.int (0 : Int32)), .unset, .unset] [])) (fun t k => st61 t k) ?_
  refine step (T61.setTop (mkF m 181 #[.val (.ref o1), .val (.ref o2), .val (.ref o3), .val .null, .val .null, .val (.ref o4), .val (.ref o5), .val (.ref o6), .val (.ref o7), .val (.ref o7), .val (.ref o8), .val (.int (0 : Int32)), .unset, .unset] [(.int (0 : Int32))])) (fun t k => XS.iconst X61.here hx rfl (hb hby d12_180) k) ?_
  refine step (T61.setTop (mkF m 183 #[.val (.ref o1), .val (.ref o2), .val (.ref o3), .val .null, .val .null, .val (.ref o4), .val (.ref o5), .val (.ref o6), .val (.ref o7), .val (.ref o7), .val (.ref o8), .val (.int (0 : Int32)), .unset, .unset] [])) (fun t k => XS.istore X61.here hx rfl (hb hby d12_181) rfl (l' := #[.val (.ref o1), .val (.ref o2), .val (.ref o3), .val .null, .val .null, .val (.ref o4), .val (.ref o5), .val (.ref o6), .val (.ref o7), .val (.ref o7), .val (.ref o8), .val (.int (0 : Int32)), .unset, .unset]) rfl k) ?_
  refine step (T61.setTop (mkF m 184 #[.val (.ref o1), .val (.ref o2), .val (.ref o3), .val .null, .val .null, .val (.ref o4), .val (.ref o5), .val (.ref o6), .val (.ref o7), .val (.ref o7), .val (.ref o8), .val (.int (0 : Int32)), .unset, .unset] [(.ref o1)])) (fun t k => XS.aloadN X61.here hx rfl (hb hby d12_183) rfl rfl k) ?_
  obtain ⟨T62, X62, e62, st62⟩ := getF X61 hx hZ hown (host := "") (Or.inl (hw _ (List.mem_of_getElem? (i := 147) rfl))) Via.refl e61 F61 (g := (mkF m 184 #[.val (.ref o1), .val (.ref o2), .val (.ref o3), .val .null, .val .null, .val (.ref o4), .val (.ref o5), .val (.ref o6), .val (.ref o7), .val (.ref o7), .val (.ref o8), .val (.int (0 : Int32)), .unset, .unset] [(.ref o1)])) rfl rfl (hb hby d12_184)
  refine step (T62.setTop (mkF m 187 #[.val (.ref o1), .val (.ref o2), .val (.ref o3), .val .null, .val .null, .val (.ref o4), .val (.ref o5), .val (.ref o6), .val (.ref o7), .val (.ref o7), .val (.ref o8), .val (.int (0 : Int32)), .unset, .unset] [.null])) (fun t k => st62 t k) ?_
  refine step (T62.setTop (mkF m 263 #[.val (.ref o1), .val (.ref o2), .val (.ref o3), .val .null, .val .null, .val (.ref o4), .val (.ref o5), .val (.ref o6), .val (.ref o7), .val (.ref o7), .val (.ref o8), .val (.int (0 : Int32)), .unset, .unset] [])) (fun t k => XS.ifnullYes X62.here hx rfl (pc0 := 187) (pc' := 263) rfl (hb hby d12_187) rfl (by decide) (by decide) k) ?_
  refine step (T62.setTop (mkF m 264 #[.val (.ref o1), .val (.ref o2), .val (.ref o3), .val .null, .val .null, .val (.ref o4), .val (.ref o5), .val (.ref o6), .val (.ref o7), .val (.ref o7), .val (.ref o8), .val (.int (0 : Int32)), .unset, .unset] [(.int (0 : Int32))])) (fun t k => XS.iconst X62.here hx rfl (hb hby d12_263) k) ?_
  refine step (T62.setTop (mkF m 266 #[.val (.ref o1), .val (.ref o2), .val (.ref o3), .val .null, .val .null, .val (.ref o4), .val (.ref o5), .val (.ref o6), .val (.ref o7), .val (.ref o7), .val (.ref o8), .val (.int (0 : Int32)), .unset, .unset] [])) (fun t k => XS.istore X62.here hx rfl (hb hby d12_264) rfl (l' := #[.val (.ref o1), .val (.ref o2), .val (.ref o3), .val .null, .val .null, .val (.ref o4), .val (.ref o5), .val (.ref o6), .val (.ref o7), .val (.ref o7), .val (.ref o8), .val (.int (0 : Int32)), .unset, .unset]) rfl k) ?_
  refine step (T62.setTop (mkF m 268 #[.val (.ref o1), .val (.ref o2), .val (.ref o3), .val .null, .val .null, .val (.ref o4), .val (.ref o5), .val (.ref o6), .val (.ref o7), .val (.ref o7), .val (.ref o8), .val (.int (0 : Int32)), .unset, .unset] [(.int (0 : Int32))])) (fun t k => XS.iload X62.here hx rfl (hb hby d12_266) rfl k) ?_
  refine step (T62.setTop (mkF m 269 #[.val (.ref o1), .val (.ref o2), .val (.ref o3), .val .null, .val .null, .val (.ref o4), .val (.ref o5), .val (.ref o6), .val (.ref o7), .val (.ref o7), .val (.ref o8), .val (.int (0 : Int32)), .unset, .unset] [(.ref o1), (.int (0 : Int32))])) (fun t k => XS.aloadN X62.here hx rfl (hb hby d12_268) rfl rfl k) ?_
  have f63 := (f59.wr W61)
  have f64 := ((((((F39.other W42 (Or.inr (slot_ne (Or.inr (hw _ (List.mem_of_getElem? (i := 129) rfl))) (Or.inr (hw _ (List.mem_of_getElem? (i := 131) rfl))) (by decide) (t := (.array .int)) (t' := (.array .int)) (by decide) (by decide)))).other W45 (Or.inr (slot_ne (Or.inr (hw _ (List.mem_of_getElem? (i := 129) rfl))) (Or.inr (hw _ (List.mem_of_getElem? (i := 133) rfl))) (by decide) (t := (.array .int)) (t' := (.array .int)) (by decide) (by decide)))).other W48 (Or.inr (slot_ne (Or.inr (hw _ (List.mem_of_getElem? (i := 129) rfl))) (Or.inr (hw _ (List.mem_of_getElem? (i := 135) rfl))) (by decide) (t := (.array .int)) (t' := (.array (.object "com/example/qopa/qopa/math/Rational"))) (by decide) (by decide)))).other W51 (Or.inr (slot_ne (Or.inr (hw _ (List.mem_of_getElem? (i := 129) rfl))) (Or.inr (hw _ (List.mem_of_getElem? (i := 137) rfl))) (by decide) (t := (.array .int)) (t' := (.array (.object "com/example/qopa/qopa/math/Rational"))) (by decide) (by decide)))).other W54 (Or.inr (slot_ne (Or.inr (hw _ (List.mem_of_getElem? (i := 129) rfl))) (Or.inr (hw _ (List.mem_of_getElem? (i := 139) rfl))) (by decide) (t := (.array .int)) (t' := (.array .int)) (by decide) (by decide)))).other W61 (Or.inr (slot_ne (Or.inr (hw _ (List.mem_of_getElem? (i := 129) rfl))) (Or.inr (hw _ (List.mem_of_getElem? (i := 148) rfl))) (by decide) (t := (.array .int)) (t' := (.array (.object "com/example/qopa/qopa/math/Rational"))) (by decide) (by decide))))
  have f65 := (((((((((((f23.other W27 (Ne.symm ne_o1_o4)).other W30 (Ne.symm ne_o1_o4)).other W33 (Ne.symm ne_o1_o4)).other W36 (Ne.symm ne_o1_o4)).other W39 (Ne.symm ne_o1_o4)).other W42 (Ne.symm ne_o1_o4)).other W45 (Ne.symm ne_o1_o4)).other W48 (Ne.symm ne_o1_o4)).other W51 (Ne.symm ne_o1_o4)).other W54 (Ne.symm ne_o1_o4)).other W61 (Ne.symm ne_o1_o4))
  obtain ⟨cq66, kq66, q66a, q66b, q66c⟩ := isOf hZ e62 f63
  obtain ⟨_, _, ⟨T66, L66, k66, n66⟩, -, X66, ⟨Lc66, hQ66, l66, y66, z66⟩, st66⟩ := X62.virtualBack hx (y := (⟨"com/example/qopa/qopa/model/Model", "stateCount", "()I"⟩ : MethodName)) (z := (⟨"com/example/qopa/qopa/model/Model", "stateCount", "()I"⟩ : MethodName)) hown (mvT hZ (hw _ (List.mem_of_getElem? (i := 149) rfl))) (mvT hZ (hw _ (List.mem_of_getElem? (i := 150) rfl))) (notFace_of_selects (args := #[]) (mvT hZ (hw _ (List.mem_of_getElem? (i := 152) rfl)))) (mvT hZ (hw _ (List.mem_of_getElem? (i := 152) rfl))) (mvT hZ (hw _ (List.mem_of_getElem? (i := 151) rfl))) (by decide) (backOf (W := 1) (rm18_23 l Z a0 hw [] o1 o4 kc2 h61 n0 (Nat.le_trans Z0 K61.1) f63 f64 f65 gn_o1 ne_o1_o4 gn_o4) hZ (hw _ (List.mem_of_getElem? (i := 153) rfl)) (hw _ (List.mem_of_getElem? (i := 78) rfl)) (by decide) (by decide)) q66a q66c (g := (mkF m 269 #[.val (.ref o1), .val (.ref o2), .val (.ref o3), .val .null, .val .null, .val (.ref o4), .val (.ref o5), .val (.ref o6), .val (.ref o7), .val (.ref o7), .val (.ref o8), .val (.int (0 : Int32)), .unset, .unset] [(.ref o1), (.int (0 : Int32))])) rfl (by rw [hml]; rfl) (Steps.refl _) (argsL := []) (rest := [(.int (0 : Int32))]) (lenOf pd_5 rfl) rfl (by show 2 * 0 + _ ≤ _; exact Nat.le_of_eq rfl) (hb hby d12_269) (fun _ _ => ⟨rfl, e62, (by decide : 2 + 0 ≤ _), (by decide : 4 + 0 ≤ _)⟩)
  dsimp only [Pt.U, Pt.locs, Pt.cells, Pt.slots] at X66 l66 y66 z66 st66 hQ66
  subst l66 y66 z66
  obtain ⟨rfl, N66q, e66q⟩ := hQ66
  have N66 := Fr.app N61 N66q
  refine step (T66.setTop (mkF m 272 #[.val (.ref o1), .val (.ref o2), .val (.ref o3), .val .null, .val .null, .val (.ref o4), .val (.ref o5), .val (.ref o6), .val (.ref o7), .val (.ref o7), .val (.ref o8), .val (.int (0 : Int32)), .unset, .unset] [(.int (0 : Int32)), (.int (0 : Int32))])) (fun t k => st66.trans k) ?_
  refine step (T66.setTop (mkF m 346 #[.val (.ref o1), .val (.ref o2), .val (.ref o3), .val .null, .val .null, .val (.ref o4), .val (.ref o5), .val (.ref o6), .val (.ref o7), .val (.ref o7), .val (.ref o8), .val (.int (0 : Int32)), .unset, .unset] [])) (fun t k => XS.icmpYes X66.here hx rfl (pc0 := 272) (pc' := 346) rfl (hb hby d12_272) rfl (flt (by decide : ¬ ((0 : Int32) < (0 : Int32)))).2.1 (by decide) (by decide) k) ?_
  have f67 := (F54.other W61 (Or.inr (slot_ne (Or.inr (hw _ (List.mem_of_getElem? (i := 139) rfl))) (Or.inr (hw _ (List.mem_of_getElem? (i := 148) rfl))) (by decide) (t := (.array .int)) (t' := (.array (.object "com/example/qopa/qopa/math/Rational"))) (by decide) (by decide))))
  have f68 := ((((((((F33.other W36 (Or.inr (slot_ne (Or.inr (hw _ (List.mem_of_getElem? (i := 125) rfl))) (Or.inr (hw _ (List.mem_of_getElem? (i := 127) rfl))) (by decide) (t := (.object "com/example/qopa/qopa/model/Actions")) (t' := (.object "java/util/Map")) (by decide) (by decide)))).other W39 (Or.inr (slot_ne (Or.inr (hw _ (List.mem_of_getElem? (i := 125) rfl))) (Or.inr (hw _ (List.mem_of_getElem? (i := 129) rfl))) (by decide) (t := (.object "com/example/qopa/qopa/model/Actions")) (t' := (.array .int)) (by decide) (by decide)))).other W42 (Or.inr (slot_ne (Or.inr (hw _ (List.mem_of_getElem? (i := 125) rfl))) (Or.inr (hw _ (List.mem_of_getElem? (i := 131) rfl))) (by decide) (t := (.object "com/example/qopa/qopa/model/Actions")) (t' := (.array .int)) (by decide) (by decide)))).other W45 (Or.inr (slot_ne (Or.inr (hw _ (List.mem_of_getElem? (i := 125) rfl))) (Or.inr (hw _ (List.mem_of_getElem? (i := 133) rfl))) (by decide) (t := (.object "com/example/qopa/qopa/model/Actions")) (t' := (.array .int)) (by decide) (by decide)))).other W48 (Or.inr (slot_ne (Or.inr (hw _ (List.mem_of_getElem? (i := 125) rfl))) (Or.inr (hw _ (List.mem_of_getElem? (i := 135) rfl))) (by decide) (t := (.object "com/example/qopa/qopa/model/Actions")) (t' := (.array (.object "com/example/qopa/qopa/math/Rational"))) (by decide) (by decide)))).other W51 (Or.inr (slot_ne (Or.inr (hw _ (List.mem_of_getElem? (i := 125) rfl))) (Or.inr (hw _ (List.mem_of_getElem? (i := 137) rfl))) (by decide) (t := (.object "com/example/qopa/qopa/model/Actions")) (t' := (.array (.object "com/example/qopa/qopa/math/Rational"))) (by decide) (by decide)))).other W54 (Or.inr (slot_ne (Or.inr (hw _ (List.mem_of_getElem? (i := 125) rfl))) (Or.inr (hw _ (List.mem_of_getElem? (i := 139) rfl))) (by decide) (t := (.object "com/example/qopa/qopa/model/Actions")) (t' := (.array .int)) (by decide) (by decide)))).other W61 (Or.inr (slot_ne (Or.inr (hw _ (List.mem_of_getElem? (i := 125) rfl))) (Or.inr (hw _ (List.mem_of_getElem? (i := 148) rfl))) (by decide) (t := (.object "com/example/qopa/qopa/model/Actions")) (t' := (.array (.object "com/example/qopa/qopa/math/Rational"))) (by decide) (by decide))))
  have f69 := (((((F42.other W45 (Or.inr (slot_ne (Or.inr (hw _ (List.mem_of_getElem? (i := 131) rfl))) (Or.inr (hw _ (List.mem_of_getElem? (i := 133) rfl))) (by decide) (t := (.array .int)) (t' := (.array .int)) (by decide) (by decide)))).other W48 (Or.inr (slot_ne (Or.inr (hw _ (List.mem_of_getElem? (i := 131) rfl))) (Or.inr (hw _ (List.mem_of_getElem? (i := 135) rfl))) (by decide) (t := (.array .int)) (t' := (.array (.object "com/example/qopa/qopa/math/Rational"))) (by decide) (by decide)))).other W51 (Or.inr (slot_ne (Or.inr (hw _ (List.mem_of_getElem? (i := 131) rfl))) (Or.inr (hw _ (List.mem_of_getElem? (i := 137) rfl))) (by decide) (t := (.array .int)) (t' := (.array (.object "com/example/qopa/qopa/math/Rational"))) (by decide) (by decide)))).other W54 (Or.inr (slot_ne (Or.inr (hw _ (List.mem_of_getElem? (i := 131) rfl))) (Or.inr (hw _ (List.mem_of_getElem? (i := 139) rfl))) (by decide) (t := (.array .int)) (t' := (.array .int)) (by decide) (by decide)))).other W61 (Or.inr (slot_ne (Or.inr (hw _ (List.mem_of_getElem? (i := 131) rfl))) (Or.inr (hw _ (List.mem_of_getElem? (i := 148) rfl))) (by decide) (t := (.array .int)) (t' := (.array (.object "com/example/qopa/qopa/math/Rational"))) (by decide) (by decide))))
  have f70 := (((((((((F30.other W33 (Or.inr (slot_ne (Or.inr (hw _ (List.mem_of_getElem? (i := 123) rfl))) (Or.inr (hw _ (List.mem_of_getElem? (i := 125) rfl))) (by decide) (t := (.array .int)) (t' := (.object "com/example/qopa/qopa/model/Actions")) (by decide) (by decide)))).other W36 (Or.inr (slot_ne (Or.inr (hw _ (List.mem_of_getElem? (i := 123) rfl))) (Or.inr (hw _ (List.mem_of_getElem? (i := 127) rfl))) (by decide) (t := (.array .int)) (t' := (.object "java/util/Map")) (by decide) (by decide)))).other W39 (Or.inr (slot_ne (Or.inr (hw _ (List.mem_of_getElem? (i := 123) rfl))) (Or.inr (hw _ (List.mem_of_getElem? (i := 129) rfl))) (by decide) (t := (.array .int)) (t' := (.array .int)) (by decide) (by decide)))).other W42 (Or.inr (slot_ne (Or.inr (hw _ (List.mem_of_getElem? (i := 123) rfl))) (Or.inr (hw _ (List.mem_of_getElem? (i := 131) rfl))) (by decide) (t := (.array .int)) (t' := (.array .int)) (by decide) (by decide)))).other W45 (Or.inr (slot_ne (Or.inr (hw _ (List.mem_of_getElem? (i := 123) rfl))) (Or.inr (hw _ (List.mem_of_getElem? (i := 133) rfl))) (by decide) (t := (.array .int)) (t' := (.array .int)) (by decide) (by decide)))).other W48 (Or.inr (slot_ne (Or.inr (hw _ (List.mem_of_getElem? (i := 123) rfl))) (Or.inr (hw _ (List.mem_of_getElem? (i := 135) rfl))) (by decide) (t := (.array .int)) (t' := (.array (.object "com/example/qopa/qopa/math/Rational"))) (by decide) (by decide)))).other W51 (Or.inr (slot_ne (Or.inr (hw _ (List.mem_of_getElem? (i := 123) rfl))) (Or.inr (hw _ (List.mem_of_getElem? (i := 137) rfl))) (by decide) (t := (.array .int)) (t' := (.array (.object "com/example/qopa/qopa/math/Rational"))) (by decide) (by decide)))).other W54 (Or.inr (slot_ne (Or.inr (hw _ (List.mem_of_getElem? (i := 123) rfl))) (Or.inr (hw _ (List.mem_of_getElem? (i := 139) rfl))) (by decide) (t := (.array .int)) (t' := (.array .int)) (by decide) (by decide)))).other W61 (Or.inr (slot_ne (Or.inr (hw _ (List.mem_of_getElem? (i := 123) rfl))) (Or.inr (hw _ (List.mem_of_getElem? (i := 148) rfl))) (by decide) (t := (.array .int)) (t' := (.array (.object "com/example/qopa/qopa/math/Rational"))) (by decide) (by decide))))
  have f71 := ((((((((((F27.other W30 (Or.inr (slot_ne (Or.inr (hw _ (List.mem_of_getElem? (i := 121) rfl))) (Or.inr (hw _ (List.mem_of_getElem? (i := 123) rfl))) (by decide) (t := (.object "com/example/qopa/qopa/model/Model$Kind")) (t' := (.array .int)) (by decide) (by decide)))).other W33 (Or.inr (slot_ne (Or.inr (hw _ (List.mem_of_getElem? (i := 121) rfl))) (Or.inr (hw _ (List.mem_of_getElem? (i := 125) rfl))) (by decide) (t := (.object "com/example/qopa/qopa/model/Model$Kind")) (t' := (.object "com/example/qopa/qopa/model/Actions")) (by decide) (by decide)))).other W36 (Or.inr (slot_ne (Or.inr (hw _ (List.mem_of_getElem? (i := 121) rfl))) (Or.inr (hw _ (List.mem_of_getElem? (i := 127) rfl))) (by decide) (t := (.object "com/example/qopa/qopa/model/Model$Kind")) (t' := (.object "java/util/Map")) (by decide) (by decide)))).other W39 (Or.inr (slot_ne (Or.inr (hw _ (List.mem_of_getElem? (i := 121) rfl))) (Or.inr (hw _ (List.mem_of_getElem? (i := 129) rfl))) (by decide) (t := (.object "com/example/qopa/qopa/model/Model$Kind")) (t' := (.array .int)) (by decide) (by decide)))).other W42 (Or.inr (slot_ne (Or.inr (hw _ (List.mem_of_getElem? (i := 121) rfl))) (Or.inr (hw _ (List.mem_of_getElem? (i := 131) rfl))) (by decide) (t := (.object "com/example/qopa/qopa/model/Model$Kind")) (t' := (.array .int)) (by decide) (by decide)))).other W45 (Or.inr (slot_ne (Or.inr (hw _ (List.mem_of_getElem? (i := 121) rfl))) (Or.inr (hw _ (List.mem_of_getElem? (i := 133) rfl))) (by decide) (t := (.object "com/example/qopa/qopa/model/Model$Kind")) (t' := (.array .int)) (by decide) (by decide)))).other W48 (Or.inr (slot_ne (Or.inr (hw _ (List.mem_of_getElem? (i := 121) rfl))) (Or.inr (hw _ (List.mem_of_getElem? (i := 135) rfl))) (by decide) (t := (.object "com/example/qopa/qopa/model/Model$Kind")) (t' := (.array (.object "com/example/qopa/qopa/math/Rational"))) (by decide) (by decide)))).other W51 (Or.inr (slot_ne (Or.inr (hw _ (List.mem_of_getElem? (i := 121) rfl))) (Or.inr (hw _ (List.mem_of_getElem? (i := 137) rfl))) (by decide) (t := (.object "com/example/qopa/qopa/model/Model$Kind")) (t' := (.array (.object "com/example/qopa/qopa/math/Rational"))) (by decide) (by decide)))).other W54 (Or.inr (slot_ne (Or.inr (hw _ (List.mem_of_getElem? (i := 121) rfl))) (Or.inr (hw _ (List.mem_of_getElem? (i := 139) rfl))) (by decide) (t := (.object "com/example/qopa/qopa/model/Model$Kind")) (t' := (.array .int)) (by decide) (by decide)))).other W61 (Or.inr (slot_ne (Or.inr (hw _ (List.mem_of_getElem? (i := 121) rfl))) (Or.inr (hw _ (List.mem_of_getElem? (i := 148) rfl))) (by decide) (t := (.object "com/example/qopa/qopa/model/Model$Kind")) (t' := (.array (.object "com/example/qopa/qopa/math/Rational"))) (by decide) (by decide))))
  have f72 := (((((((F36.other W39 (Or.inr (slot_ne (Or.inr (hw _ (List.mem_of_getElem? (i := 127) rfl))) (Or.inr (hw _ (List.mem_of_getElem? (i := 129) rfl))) (by decide) (t := (.object "java/util/Map")) (t' := (.array .int)) (by decide) (by decide)))).other W42 (Or.inr (slot_ne (Or.inr (hw _ (List.mem_of_getElem? (i := 127) rfl))) (Or.inr (hw _ (List.mem_of_getElem? (i := 131) rfl))) (by decide) (t := (.object "java/util/Map")) (t' := (.array .int)) (by decide) (by decide)))).other W45 (Or.inr (slot_ne (Or.inr (hw _ (List.mem_of_getElem? (i := 127) rfl))) (Or.inr (hw _ (List.mem_of_getElem? (i := 133) rfl))) (by decide) (t := (.object "java/util/Map")) (t' := (.array .int)) (by decide) (by decide)))).other W48 (Or.inr (slot_ne (Or.inr (hw _ (List.mem_of_getElem? (i := 127) rfl))) (Or.inr (hw _ (List.mem_of_getElem? (i := 135) rfl))) (by decide) (t := (.object "java/util/Map")) (t' := (.array (.object "com/example/qopa/qopa/math/Rational"))) (by decide) (by decide)))).other W51 (Or.inr (slot_ne (Or.inr (hw _ (List.mem_of_getElem? (i := 127) rfl))) (Or.inr (hw _ (List.mem_of_getElem? (i := 137) rfl))) (by decide) (t := (.object "java/util/Map")) (t' := (.array (.object "com/example/qopa/qopa/math/Rational"))) (by decide) (by decide)))).other W54 (Or.inr (slot_ne (Or.inr (hw _ (List.mem_of_getElem? (i := 127) rfl))) (Or.inr (hw _ (List.mem_of_getElem? (i := 139) rfl))) (by decide) (t := (.object "java/util/Map")) (t' := (.array .int)) (by decide) (by decide)))).other W61 (Or.inr (slot_ne (Or.inr (hw _ (List.mem_of_getElem? (i := 127) rfl))) (Or.inr (hw _ (List.mem_of_getElem? (i := 148) rfl))) (by decide) (t := (.object "java/util/Map")) (t' := (.array (.object "com/example/qopa/qopa/math/Rational"))) (by decide) (by decide))))
  have f73 := (((F48.other W51 (Or.inr (slot_ne (Or.inr (hw _ (List.mem_of_getElem? (i := 135) rfl))) (Or.inr (hw _ (List.mem_of_getElem? (i := 137) rfl))) (by decide) (t := (.array (.object "com/example/qopa/qopa/math/Rational"))) (t' := (.array (.object "com/example/qopa/qopa/math/Rational"))) (by decide) (by decide)))).other W54 (Or.inr (slot_ne (Or.inr (hw _ (List.mem_of_getElem? (i := 135) rfl))) (Or.inr (hw _ (List.mem_of_getElem? (i := 139) rfl))) (by decide) (t := (.array (.object "com/example/qopa/qopa/math/Rational"))) (t' := (.array .int)) (by decide) (by decide)))).other W61 (Or.inr (slot_ne (Or.inr (hw _ (List.mem_of_getElem? (i := 135) rfl))) (Or.inr (hw _ (List.mem_of_getElem? (i := 148) rfl))) (by decide) (t := (.array (.object "com/example/qopa/qopa/math/Rational"))) (t' := (.array (.object "com/example/qopa/qopa/math/Rational"))) (by decide) (by decide))))
  have f74 := ((((F45.other W48 (Or.inr (slot_ne (Or.inr (hw _ (List.mem_of_getElem? (i := 133) rfl))) (Or.inr (hw _ (List.mem_of_getElem? (i := 135) rfl))) (by decide) (t := (.array .int)) (t' := (.array (.object "com/example/qopa/qopa/math/Rational"))) (by decide) (by decide)))).other W51 (Or.inr (slot_ne (Or.inr (hw _ (List.mem_of_getElem? (i := 133) rfl))) (Or.inr (hw _ (List.mem_of_getElem? (i := 137) rfl))) (by decide) (t := (.array .int)) (t' := (.array (.object "com/example/qopa/qopa/math/Rational"))) (by decide) (by decide)))).other W54 (Or.inr (slot_ne (Or.inr (hw _ (List.mem_of_getElem? (i := 133) rfl))) (Or.inr (hw _ (List.mem_of_getElem? (i := 139) rfl))) (by decide) (t := (.array .int)) (t' := (.array .int)) (by decide) (by decide)))).other W61 (Or.inr (slot_ne (Or.inr (hw _ (List.mem_of_getElem? (i := 133) rfl))) (Or.inr (hw _ (List.mem_of_getElem? (i := 148) rfl))) (by decide) (t := (.array .int)) (t' := (.array (.object "com/example/qopa/qopa/math/Rational"))) (by decide) (by decide))))
  have f75 := (((((((((((F19.other W27 (Or.inr (slot_ne (Or.inr (hw _ (List.mem_of_getElem? (i := 113) rfl))) (Or.inr (hw _ (List.mem_of_getElem? (i := 121) rfl))) (by decide) (t := (.object "java/util/BitSet")) (t' := (.object "com/example/qopa/qopa/model/Model$Kind")) (by decide) (by decide)))).other W30 (Or.inr (slot_ne (Or.inr (hw _ (List.mem_of_getElem? (i := 113) rfl))) (Or.inr (hw _ (List.mem_of_getElem? (i := 123) rfl))) (by decide) (t := (.object "java/util/BitSet")) (t' := (.array .int)) (by decide) (by decide)))).other W33 (Or.inr (slot_ne (Or.inr (hw _ (List.mem_of_getElem? (i := 113) rfl))) (Or.inr (hw _ (List.mem_of_getElem? (i := 125) rfl))) (by decide) (t := (.object "java/util/BitSet")) (t' := (.object "com/example/qopa/qopa/model/Actions")) (by decide) (by decide)))).other W36 (Or.inr (slot_ne (Or.inr (hw _ (List.mem_of_getElem? (i := 113) rfl))) (Or.inr (hw _ (List.mem_of_getElem? (i := 127) rfl))) (by decide) (t := (.object "java/util/BitSet")) (t' := (.object "java/util/Map")) (by decide) (by decide)))).other W39 (Or.inr (slot_ne (Or.inr (hw _ (List.mem_of_getElem? (i := 113) rfl))) (Or.inr (hw _ (List.mem_of_getElem? (i := 129) rfl))) (by decide) (t := (.object "java/util/BitSet")) (t' := (.array .int)) (by decide) (by decide)))).other W42 (Or.inr (slot_ne (Or.inr (hw _ (List.mem_of_getElem? (i := 113) rfl))) (Or.inr (hw _ (List.mem_of_getElem? (i := 131) rfl))) (by decide) (t := (.object "java/util/BitSet")) (t' := (.array .int)) (by decide) (by decide)))).other W45 (Or.inr (slot_ne (Or.inr (hw _ (List.mem_of_getElem? (i := 113) rfl))) (Or.inr (hw _ (List.mem_of_getElem? (i := 133) rfl))) (by decide) (t := (.object "java/util/BitSet")) (t' := (.array .int)) (by decide) (by decide)))).other W48 (Or.inr (slot_ne (Or.inr (hw _ (List.mem_of_getElem? (i := 113) rfl))) (Or.inr (hw _ (List.mem_of_getElem? (i := 135) rfl))) (by decide) (t := (.object "java/util/BitSet")) (t' := (.array (.object "com/example/qopa/qopa/math/Rational"))) (by decide) (by decide)))).other W51 (Or.inr (slot_ne (Or.inr (hw _ (List.mem_of_getElem? (i := 113) rfl))) (Or.inr (hw _ (List.mem_of_getElem? (i := 137) rfl))) (by decide) (t := (.object "java/util/BitSet")) (t' := (.array (.object "com/example/qopa/qopa/math/Rational"))) (by decide) (by decide)))).other W54 (Or.inr (slot_ne (Or.inr (hw _ (List.mem_of_getElem? (i := 113) rfl))) (Or.inr (hw _ (List.mem_of_getElem? (i := 139) rfl))) (by decide) (t := (.object "java/util/BitSet")) (t' := (.array .int)) (by decide) (by decide)))).other W61 (Or.inr (slot_ne (Or.inr (hw _ (List.mem_of_getElem? (i := 113) rfl))) (Or.inr (hw _ (List.mem_of_getElem? (i := 148) rfl))) (by decide) (t := (.object "java/util/BitSet")) (t' := (.array (.object "com/example/qopa/qopa/math/Rational"))) (by decide) (by decide))))
  have f76 := ((F51.other W54 (Or.inr (slot_ne (Or.inr (hw _ (List.mem_of_getElem? (i := 137) rfl))) (Or.inr (hw _ (List.mem_of_getElem? (i := 139) rfl))) (by decide) (t := (.array (.object "com/example/qopa/qopa/math/Rational"))) (t' := (.array .int)) (by decide) (by decide)))).other W61 (Or.inr (slot_ne (Or.inr (hw _ (List.mem_of_getElem? (i := 137) rfl))) (Or.inr (hw _ (List.mem_of_getElem? (i := 148) rfl))) (by decide) (t := (.array (.object "com/example/qopa/qopa/math/Rational"))) (t' := (.array (.object "com/example/qopa/qopa/math/Rational"))) (by decide) (by decide))))
  have f77 := (((((((((((((A2.keep K3q).wr W19).wr W27).wr W30).wr W33).wr W36).wr W39).wr W42).wr W45).wr W48).wr W51).wr W54).wr W61)
  have f78 := ((((((((((((q0_3.other W19 (Or.inl (Ne.symm ne_o1_b2))).other W27 (Or.inl (Ne.symm ne_o1_b2))).other W30 (Or.inl (Ne.symm ne_o1_b2))).other W33 (Or.inl (Ne.symm ne_o1_b2))).other W36 (Or.inl (Ne.symm ne_o1_b2))).other W39 (Or.inl (Ne.symm ne_o1_b2))).other W42 (Or.inl (Ne.symm ne_o1_b2))).other W45 (Or.inl (Ne.symm ne_o1_b2))).other W48 (Or.inl (Ne.symm ne_o1_b2))).other W51 (Or.inl (Ne.symm ne_o1_b2))).other W54 (Or.inl (Ne.symm ne_o1_b2))).other W61 (Or.inl (Ne.symm ne_o1_b2)))
  have f79 := ((((((((((((q1_3.other W19 (Or.inl (Ne.symm ne_o1_b2))).other W27 (Or.inl (Ne.symm ne_o1_b2))).other W30 (Or.inl (Ne.symm ne_o1_b2))).other W33 (Or.inl (Ne.symm ne_o1_b2))).other W36 (Or.inl (Ne.symm ne_o1_b2))).other W39 (Or.inl (Ne.symm ne_o1_b2))).other W42 (Or.inl (Ne.symm ne_o1_b2))).other W45 (Or.inl (Ne.symm ne_o1_b2))).other W48 (Or.inl (Ne.symm ne_o1_b2))).other W51 (Or.inl (Ne.symm ne_o1_b2))).other W54 (Or.inl (Ne.symm ne_o1_b2))).other W61 (Or.inl (Ne.symm ne_o1_b2)))
  have f80 := ((((((((((((q2_3.other W19 (Or.inl (Ne.symm ne_o1_b2))).other W27 (Or.inl (Ne.symm ne_o1_b2))).other W30 (Or.inl (Ne.symm ne_o1_b2))).other W33 (Or.inl (Ne.symm ne_o1_b2))).other W36 (Or.inl (Ne.symm ne_o1_b2))).other W39 (Or.inl (Ne.symm ne_o1_b2))).other W42 (Or.inl (Ne.symm ne_o1_b2))).other W45 (Or.inl (Ne.symm ne_o1_b2))).other W48 (Or.inl (Ne.symm ne_o1_b2))).other W51 (Or.inl (Ne.symm ne_o1_b2))).other W54 (Or.inl (Ne.symm ne_o1_b2))).other W61 (Or.inl (Ne.symm ne_o1_b2)))
  have f81 := ((((((((((((q3_3.other W19 (Ne.symm ne_o1_b2_9_3)).other W27 (Ne.symm ne_o1_b2_9_3)).other W30 (Ne.symm ne_o1_b2_9_3)).other W33 (Ne.symm ne_o1_b2_9_3)).other W36 (Ne.symm ne_o1_b2_9_3)).other W39 (Ne.symm ne_o1_b2_9_3)).other W42 (Ne.symm ne_o1_b2_9_3)).other W45 (Ne.symm ne_o1_b2_9_3)).other W48 (Ne.symm ne_o1_b2_9_3)).other W51 (Ne.symm ne_o1_b2_9_3)).other W54 (Ne.symm ne_o1_b2_9_3)).other W61 (Ne.symm ne_o1_b2_9_3))
  refine fin (v := none) X66 (fun _ => rfl) ?_ (by decide) (by decide) (fun fs hr => X66.returnOut hx hret (hb hby d12_346) hr)
  show Q12_17 Z o1 o2 o3 o4 o5 o6 o7 o8 o9 kc1 kc2 kc3 kc4 kc5 kc6 i7 i8 i9 h0 n0 (none) T66.heap _
  rw [e66q]
  exact ⟨b2, b2_9_3, k2_9_3, rfl, N66, K61, sz_b2, sz_b2_9_3, ne_b2_b2_9_3, f67, f68, f64, f69, f70, f71, f72, f73, F61, f74, f75, f76, f77, f78, f79, f80, f81⟩
theorem ef_9_12 (m : MethodId) (x0 : Addr) (x1 : Addr) (x2 : Addr) : entryFrame m #[(.ref x0), (.ref x1), (.ref x2), .null, .null] 7 = mkF m 0 #[.val (.ref x0), .val (.ref x1), .val (.ref x2), .val .null, .val .null, .unset, .unset] [] := by first | (simp [entryFrame, mkF, argsToLocals, Value.category]; done) | rfl
def Q9_12 (Z : State) (o1 : Addr) (o2 : Addr) (o3 : Addr) (o4 : Addr) (o5 : Addr) (o6 : Addr) (o7 : Addr) (o8 : Addr) (o9 : Addr) (o10 : Addr) (kc1 : ClassId) (kc2 : ClassId) (i3 : Int32) (i4 : Int32) (i5 : Int32) (kc6 : ClassId) (kc7 : ClassId) (kc8 : ClassId) (kc9 : ClassId) (h0 : Heap) (n0 : Nat) (v : Option Value) (h : Heap) (L : List Loc) : Prop := ∃ (b5 : Addr) (b2_35 : Addr) (b2_9_3_35 : Addr) (k2_9_3_35 : ClassId), v = some (.ref b5) ∧ Fr n0 L ∧ Keep h0 h [] ∧ h0.size ≤ b5 ∧ h0.size ≤ b2_35 ∧ h0.size ≤ b2_9_3_35 ∧ b2_35 ≠ b5 ∧ b2_35 ≠ b2_9_3_35 ∧ b2_9_3_35 ≠ b5 ∧ Exa Z h b5 "com/example/qopa/qopa/model/Model" ∧ Fld Z h b5 "com/example/qopa/qopa/model/Model" "action" "[I" (.ref o5) ∧ Fld Z h b5 "com/example/qopa/qopa/model/Model" "actions" "Lcom/example/qopa/qopa/model/Actions;" .null ∧ Fld Z h b5 "com/example/qopa/qopa/model/Model" "firstChoice" "[I" (.ref o6) ∧ Fld Z h b5 "com/example/qopa/qopa/model/Model" "firstTransition" "[I" (.ref o7) ∧ Fld Z h b5 "com/example/qopa/qopa/model/Model" "initialStates" "[I" (.ref o3) ∧ Fld Z h b5 "com/example/qopa/qopa/model/Model" "kind" "Lcom/example/qopa/qopa/model/Model$Kind;" (.ref o2) ∧ Fld Z h b5 "com/example/qopa/qopa/model/Model" "labels" "Ljava/util/Map;" .null ∧ Fld Z h b5 "com/example/qopa/qopa/model/Model" "lower" "[Lcom/example/qopa/qopa/math/Rational;" (.ref o8) ∧ Fld Z h b5 "com/example/qopa/qopa/model/Model" "slack" "[Lcom/example/qopa/qopa/math/Rational;" .null ∧ Fld Z h b5 "com/example/qopa/qopa/model/Model" "target" "[I" (.ref o10) ∧ Fld Z h b5 "com/example/qopa/qopa/model/Model" "terminal" "Ljava/util/BitSet;" (.ref b2_35) ∧ Fld Z h b5 "com/example/qopa/qopa/model/Model" "upper" "[Lcom/example/qopa/qopa/math/Rational;" (.ref o8) ∧ Exa Z h b2_35 "java/util/BitSet" ∧ Fld Z h b2_35 "java/util/BitSet" "sizeIsSticky" "Z" (.int (0 : Int32)) ∧ Fld Z h b2_35 "java/util/BitSet" "words" "[J" (.ref b2_9_3_35) ∧ Fld Z h b2_35 "java/util/BitSet" "wordsInUse" "I" (.int (0 : Int32)) ∧ Arv Z h b2_9_3_35 k2_9_3_35 .long (1 : Int32) [(.long (0 : Int64))] (.long (0 : Int64))
set_option maxRecDepth 65536 in
set_option maxHeartbeats 40000000 in
theorem rm9_12 (l : Launch) (Z : State) (a0 : Array Value) (hw : ∀ d ∈ tables_1, d.before a0 Z = true) (ws : List Jvm.Cond) (o1 : Addr) (o2 : Addr) (o3 : Addr) (o4 : Addr) (o5 : Addr) (o6 : Addr) (o7 : Addr) (o8 : Addr) (o9 : Addr) (o10 : Addr) (kc1 : ClassId) (kc2 : ClassId) (i3 : Int32) (i4 : Int32) (i5 : Int32) (kc6 : ClassId) (kc7 : ClassId) (kc8 : ClassId) (kc9 : ClassId) (h0 : Heap) (n0 : Nat) (Z0 : n0 ≤ h0.size) (S0 : Sta Z h0 "com/example/qopa/qopa/model/Model$Kind" "MDP" "Lcom/example/qopa/qopa/model/Model$Kind;" (.ref o2)) (S1 : Sta Z h0 "com/example/qopa/qopa/model/Model$Kind" "IDTMC" "Lcom/example/qopa/qopa/model/Model$Kind;" (.ref o4)) (Pm2 : Exa Z h0 o1 "com/example/qopa/qopa/model/ModelBuilder") (Pm3 : Fld Z h0 o1 "com/example/qopa/qopa/model/ModelBuilder" "action" "[I" (.ref o5)) (Pm4 : Fld Z h0 o1 "com/example/qopa/qopa/model/ModelBuilder" "bounded" "Z" (.int (0 : Int32))) (Pm5 : Fld Z h0 o1 "com/example/qopa/qopa/model/ModelBuilder" "choiceCount" "I" (.int (0 : Int32))) (Pm6 : Fld Z h0 o1 "com/example/qopa/qopa/model/ModelBuilder" "firstChoice" "[I" (.ref o6)) (Pm7 : Fld Z h0 o1 "com/example/qopa/qopa/model/ModelBuilder" "firstTransition" "[I" (.ref o7)) (Pm8 : Fld Z h0 o1 "com/example/qopa/qopa/model/ModelBuilder" "lower" "[Lcom/example/qopa/qopa/math/Rational;" (.ref o8)) (Pm9 : Fld Z h0 o1 "com/example/qopa/qopa/model/ModelBuilder" "merged" "Ljava/util/Map;" (.ref o9)) (Pm10 : Fld Z h0 o1 "com/example/qopa/qopa/model/ModelBuilder" "stateCount" "I" (.int (0 : Int32))) (Pm11 : Fld Z h0 o1 "com/example/qopa/qopa/model/ModelBuilder" "target" "[I" (.ref o10)) (Pm12 : Fld Z h0 o1 "com/example/qopa/qopa/model/ModelBuilder" "transitionCount" "I" (.int (3 : Int32))) (Pm13 : Fld Z h0 o1 "com/example/qopa/qopa/model/ModelBuilder" "upper" "[Lcom/example/qopa/qopa/math/Rational;" (.ref o8)) (Pm14 : Exa Z h0 o2 "com/example/qopa/qopa/model/Model$Kind") (Pm15 : Arv Z h0 o3 kc1 .int (0 : Int32) [] (.int (0 : Int32))) (Pm16 : Exa Z h0 o4 "com/example/qopa/qopa/model/Model$Kind") (Pm17 : Arv Z h0 o5 kc2 .int (3 : Int32) [(.int i3), (.int i4), (.int i5)] (.int (0 : Int32))) (Pm18 : Arv Z h0 o6 kc6 .int (1 : Int32) [(.int (0 : Int32))] (.int (0 : Int32))) (Pm19 : Arv Z h0 o7 kc7 .int (1 : Int32) [(.int (0 : Int32))] (.int (0 : Int32))) (Pm20 : Arv Z h0 o8 kc8 (.object "com/example/qopa/qopa/math/Rational") (3 : Int32) [.null, .null, .null] .null) (O21 : Ovr Z kc8 "com/example/qopa/qopa/math/Rational") (Pm22 : Exa Z h0 o9 "java/util/HashMap") (Pm23 : Fld Z h0 o9 "java/util/HashMap" "loadFactor" "F" (.float (1061158912 : UInt32))) (Pm24 : Arv Z h0 o10 kc9 .int (3 : Int32) [(.int (0 : Int32)), (.int (0 : Int32)), (.int (0 : Int32))] (.int (0 : Int32))) (gn_o1 : n0 ≤ o1) (ne_o1_o2 : o1 ≠ o2) (ne_o1_o3 : o1 ≠ o3) (ne_o1_o4 : o1 ≠ o4) (ne_o1_o5 : o1 ≠ o5) (ne_o1_o6 : o1 ≠ o6) (ne_o1_o7 : o1 ≠ o7) (ne_o1_o8 : o1 ≠ o8) (ne_o1_o9 : o1 ≠ o9) (ne_o1_o10 : o1 ≠ o10) (ne_o2_o3 : o2 ≠ o3) (ne_o2_o4 : o2 ≠ o4) (ne_o2_o5 : o2 ≠ o5) (ne_o2_o6 : o2 ≠ o6) (ne_o2_o7 : o2 ≠ o7) (ne_o2_o8 : o2 ≠ o8) (ne_o2_o9 : o2 ≠ o9) (gn_o3 : n0 ≤ o3) (ne_o3_o4 : o3 ≠ o4) (ne_o3_o5 : o3 ≠ o5) (ne_o3_o6 : o3 ≠ o6) (ne_o3_o7 : o3 ≠ o7) (ne_o3_o8 : o3 ≠ o8) (ne_o3_o9 : o3 ≠ o9) (ne_o4_o5 : o4 ≠ o5) (ne_o4_o6 : o4 ≠ o6) (ne_o4_o7 : o4 ≠ o7) (ne_o4_o8 : o4 ≠ o8) (ne_o4_o9 : o4 ≠ o9) (gn_o5 : n0 ≤ o5) (ne_o5_o6 : o5 ≠ o6) (ne_o5_o7 : o5 ≠ o7) (ne_o5_o8 : o5 ≠ o8) (ne_o5_o9 : o5 ≠ o9) (gn_o6 : n0 ≤ o6) (ne_o6_o7 : o6 ≠ o7) (ne_o6_o8 : o6 ≠ o8) (ne_o6_o9 : o6 ≠ o9) (gn_o7 : n0 ≤ o7) (ne_o7_o8 : o7 ≠ o8) (ne_o7_o9 : o7 ≠ o9) (gn_o8 : n0 ≤ o8) (ne_o8_o9 : o8 ≠ o9) (gn_o9 : n0 ≤ o9) (gn_o10 : n0 ≤ o10) (ne_o10_o2 : o10 ≠ o2) (ne_o10_o3 : o10 ≠ o3) (ne_o10_o4 : o10 ≠ o4) (ne_o10_o5 : o10 ≠ o5) (ne_o10_o6 : o10 ≠ o6) (ne_o10_o7 : o10 ≠ o7) (ne_o10_o8 : o10 ≠ o8) (ne_o10_o9 : o10 ≠ o9)  :
    MetFree l (⟨"com/example/qopa/qopa/model/ModelBuilder", "build", "(Lcom/example/qopa/qopa/model/Model$Kind;[ILcom/example/qopa/qopa/model/Actions;Ljava/util/Map;)Lcom/example/qopa/qopa/model/Model;"⟩ : MethodName) (head1 (Jvm.Cond.code (⟨"com/example/qopa/qopa/model/ModelBuilder", "build", "(Lcom/example/qopa/qopa/model/Model$Kind;[ILcom/example/qopa/qopa/model/Actions;Ljava/util/Map;)Lcom/example/qopa/qopa/model/Model;"⟩ : MethodName) prog_73_method_8_code 7 (some (.object "com/example/qopa/qopa/model/Model")) :: ws) ({ frames := 4, cells := 3, slots := 16, locals := 66 } : Room)) (fun a U => a = #[(.ref o1), (.ref o2), (.ref o3), .null, .null] ∧ Z.Warmed39 U.vm ∧ U.heap = h0) (fun _ _ _ _ _ => True) (fun _ U o U' => ∃ v L, o = .returned v ∧ Q9_12 Z o1 o2 o3 o4 o5 o6 o7 o8 o9 o10 kc1 kc2 i3 i4 i5 kc6 kc7 kc8 kc9 h0 n0 v U'.heap L ∧ FrameEnd U o U' L ({ frames := 4, cells := 3, slots := 16, locals := 66 } : Room).cells ({ frames := 4, cells := 3, slots := 16, locals := 66 } : Room).slots) := by
  refine own_body (plainFor_of_name pn_1) ?_
  intro p e s m below meth c s₁ G hx hby hml hZ hown hnm hret X0 e0 step fin
  replace hown : s.vm.findClass "com/example/qopa/qopa/model/ModelBuilder" = some m.cls := hown
  replace hnm : meth.name = "build" := hnm
  replace hret : meth.sig.returnType = some (.object "com/example/qopa/qopa/model/Model") := hret
  replace hml : c.maxLocals = 7 := hml
  have N0 := Fr.nil n0
  refine step (s₁.setTop (mkF m 0 #[.val (.ref o1), .val (.ref o2), .val (.ref o3), .val .null, .val .null, .unset, .unset] [])) (fun t k => castTop (ef_9_12 m o1 o2 o3) k) ?_
  refine step (s₁.setTop (mkF m 1 #[.val (.ref o1), .val (.ref o2), .val (.ref o3), .val .null, .val .null, .unset, .unset] [(.ref o1)])) (fun t k => XS.aloadN X0.here hx rfl (hb hby d9_0) rfl rfl k) ?_
  obtain ⟨T1, X1, e1, st1⟩ := getF X0 hx hZ hown (host := "") (Or.inl (hw _ (List.mem_of_getElem? (i := 42) rfl))) Via.refl e0 Pm8 (g := (mkF m 1 #[.val (.ref o1), .val (.ref o2), .val (.ref o3), .val .null, .val .null, .unset, .unset] [(.ref o1)])) rfl rfl (hb hby d9_1)
  refine step (T1.setTop (mkF m 4 #[.val (.ref o1), .val (.ref o2), .val (.ref o3), .val .null, .val .null, .unset, .unset] [(.ref o8)])) (fun t k => st1 t k) ?_
  refine step (T1.setTop (mkF m 5 #[.val (.ref o1), .val (.ref o2), .val (.ref o3), .val .null, .val .null, .unset, .unset] [(.ref o1), (.ref o8)])) (fun t k => XS.aloadN X1.here hx rfl (hb hby d9_4) rfl rfl k) ?_
  obtain ⟨T2, X2, e2, st2⟩ := getF X1 hx hZ hown (host := "") (Or.inl (hw _ (List.mem_of_getElem? (i := 58) rfl))) Via.refl e1 Pm12 (g := (mkF m 5 #[.val (.ref o1), .val (.ref o2), .val (.ref o3), .val .null, .val .null, .unset, .unset] [(.ref o1), (.ref o8)])) rfl rfl (hb hby d9_5)
  refine step (T2.setTop (mkF m 8 #[.val (.ref o1), .val (.ref o2), .val (.ref o3), .val .null, .val .null, .unset, .unset] [(.int (3 : Int32)), (.ref o8)])) (fun t k => st2 t k) ?_
  obtain ⟨_, _, ⟨T3, L3, k3, n3⟩, -, X3, ⟨Lc3, hQ3, l3, y3, z3⟩, st3⟩ := Jvm.LawKit.callS X2 hx (y := (⟨"com/example/qopa/qopa/model/ModelBuilder", "trim", "([Lcom/example/qopa/qopa/math/Rational;I)[Lcom/example/qopa/qopa/math/Rational;"⟩ : MethodName)) hown (mvT hZ (hw _ (List.mem_of_getElem? (i := 73) rfl))) (mvT hZ (hw _ (List.mem_of_getElem? (i := 74) rfl))) (mvT hZ (hw _ (List.mem_of_getElem? (i := 7) rfl))) (mvT hZ (hw _ (List.mem_of_getElem? (i := 75) rfl))) (by decide) (backOf (W := 0) (rm10_13 l Z a0 hw [] o8 kc8 h0 n0 Z0 Pm20 O21 gn_o8) hZ (hw _ (List.mem_of_getElem? (i := 75) rfl)) (hw _ (List.mem_of_getElem? (i := 7) rfl)) (by decide) (by decide)) (g := (mkF m 8 #[.val (.ref o1), .val (.ref o2), .val (.ref o3), .val .null, .val .null, .unset, .unset] [(.int (3 : Int32)), (.ref o8)])) rfl (by rw [hml]; rfl) (argsL := [(.ref o8), (.int (3 : Int32))]) (rest := []) (lenOf pd_9 rfl) rfl (by show 2 * 0 + _ ≤ _; exact Nat.le_of_eq rfl) (hb hby d9_8) (fun _ _ => ⟨rfl, e2, (by decide : 0 + 0 ≤ _), (by decide : 0 + 0 ≤ _)⟩)
  dsimp only [Pt.U, Pt.locs, Pt.cells, Pt.slots] at X3 l3 y3 z3 st3 hQ3
  subst l3 y3 z3
  obtain ⟨rfl, N3q, e3q⟩ := hQ3
  have N3 := Fr.app N0 N3q
  refine step (T3.setTop (mkF m 11 #[.val (.ref o1), .val (.ref o2), .val (.ref o3), .val .null, .val .null, .unset, .unset] [(.ref o8)])) (fun t k => st3 t k) ?_
  refine step (T3.setTop (mkF m 13 #[.val (.ref o1), .val (.ref o2), .val (.ref o3), .val .null, .val .null, .val (.ref o8), .unset] [])) (fun t k => XS.astore X3.here hx rfl (hb hby d9_11) rfl rfl (l' := #[.val (.ref o1), .val (.ref o2), .val (.ref o3), .val .null, .val .null, .val (.ref o8), .unset]) rfl k) ?_
  refine step (T3.setTop (mkF m 14 #[.val (.ref o1), .val (.ref o2), .val (.ref o3), .val .null, .val .null, .val (.ref o8), .unset] [(.ref o1)])) (fun t k => XS.aloadN X3.here hx rfl (hb hby d9_13) rfl rfl k) ?_
  obtain ⟨T4, X4, e4, st4⟩ := getF X3 hx hZ hown (host := "") (Or.inl (hw _ (List.mem_of_getElem? (i := 32) rfl))) Via.refl e3q Pm4 (g := (mkF m 14 #[.val (.ref o1), .val (.ref o2), .val (.ref o3), .val .null, .val .null, .val (.ref o8), .unset] [(.ref o1)])) rfl rfl (hb hby d9_14)
  refine step (T4.setTop (mkF m 17 #[.val (.ref o1), .val (.ref o2), .val (.ref o3), .val .null, .val .null, .val (.ref o8), .unset] [(.int (0 : Int32))])) (fun t k => st4 t k) ?_
  refine step (T4.setTop (mkF m 34 #[.val (.ref o1), .val (.ref o2), .val (.ref o3), .val .null, .val .null, .val (.ref o8), .unset] [])) (fun t k => XS.ifYes X4.here hx rfl (pc0 := 17) (pc' := 34) rfl (hb hby d9_17) rfl ((if0 _ _).trans (teq (by decide : (0 : Int32) = (0 : Int32))).1) (by decide) (by decide) k) ?_
  refine step (T4.setTop (mkF m 36 #[.val (.ref o1), .val (.ref o2), .val (.ref o3), .val .null, .val .null, .val (.ref o8), .unset] [(.ref o8)])) (fun t k => XS.aload X4.here hx rfl (hb hby d9_34) rfl rfl k) ?_
  refine step (T4.setTop (mkF m 38 #[.val (.ref o1), .val (.ref o2), .val (.ref o3), .val .null, .val .null, .val (.ref o8), .val (.ref o8)] [])) (fun t k => XS.astore X4.here hx rfl (hb hby d9_36) rfl rfl (l' := #[.val (.ref o1), .val (.ref o2), .val (.ref o3), .val .null, .val .null, .val (.ref o8), .val (.ref o8)]) rfl k) ?_
  obtain ⟨T5, h5, X5, e5, E5, A5, D5, -, st5⟩ := newO X4 hx hZ hown (hw _ (List.mem_of_getElem? (i := 76) rfl)) (hw _ (List.mem_of_getElem? (i := 77) rfl)) (hw _ (List.mem_of_getElem? (i := 78) rfl)) e4 (g := (mkF m 38 #[.val (.ref o1), .val (.ref o2), .val (.ref o3), .val .null, .val .null, .val (.ref o8), .val (.ref o8)] [])) rfl (hb hby d9_38) (by decide) (by decide)
  obtain ⟨b5, g5⟩ : ∃ z, z = h0.size := ⟨_, rfl⟩
  rw [← g5] at A5 D5 st5
  have ne_o1_b5 : o1 ≠ b5 := Nat.ne_of_lt (Nat.lt_of_lt_of_le Pm2.lt (Nat.le_of_eq g5.symm))
  have ne_o2_b5 : o2 ≠ b5 := Nat.ne_of_lt (Nat.lt_of_lt_of_le Pm14.lt (Nat.le_of_eq g5.symm))
  have ne_o3_b5 : o3 ≠ b5 := Nat.ne_of_lt (Nat.lt_of_lt_of_le Pm15.lt (Nat.le_of_eq g5.symm))
  have ne_o4_b5 : o4 ≠ b5 := Nat.ne_of_lt (Nat.lt_of_lt_of_le Pm16.lt (Nat.le_of_eq g5.symm))
  have ne_o5_b5 : o5 ≠ b5 := Nat.ne_of_lt (Nat.lt_of_lt_of_le Pm17.lt (Nat.le_of_eq g5.symm))
  have ne_o6_b5 : o6 ≠ b5 := Nat.ne_of_lt (Nat.lt_of_lt_of_le Pm18.lt (Nat.le_of_eq g5.symm))
  have ne_o7_b5 : o7 ≠ b5 := Nat.ne_of_lt (Nat.lt_of_lt_of_le Pm19.lt (Nat.le_of_eq g5.symm))
  have ne_o8_b5 : o8 ≠ b5 := Nat.ne_of_lt (Nat.lt_of_lt_of_le Pm20.lt (Nat.le_of_eq g5.symm))
  have ne_o9_b5 : o9 ≠ b5 := Nat.ne_of_lt (Nat.lt_of_lt_of_le Pm22.lt (Nat.le_of_eq g5.symm))
  have ne_o10_b5 : o10 ≠ b5 := Nat.ne_of_lt (Nat.lt_of_lt_of_le Pm24.lt (Nat.le_of_eq g5.symm))
  have gn_b5 : n0 ≤ b5 := Nat.le_trans Z0 (Nat.le_of_eq g5.symm)
  have sz_b5 : h0.size ≤ b5 := Nat.le_of_eq g5.symm
  have K5 : Keep h0 h5 [] := (Keep.refl h0 []).ext E5
  have F_terminal_b5 : Fld Z h5 b5 "com/example/qopa/qopa/model/Model" "terminal" "Ljava/util/BitSet;" .null := D5 (Or.inr (hw _ (List.mem_of_getElem? (i := 113) rfl))) (ty := (.object "java/util/BitSet")) (by decide)
  have F_kind_b5 : Fld Z h5 b5 "com/example/qopa/qopa/model/Model" "kind" "Lcom/example/qopa/qopa/model/Model$Kind;" .null := D5 (Or.inr (hw _ (List.mem_of_getElem? (i := 121) rfl))) (ty := (.object "com/example/qopa/qopa/model/Model$Kind")) (by decide)
  have F_initialStates_b5 : Fld Z h5 b5 "com/example/qopa/qopa/model/Model" "initialStates" "[I" .null := D5 (Or.inr (hw _ (List.mem_of_getElem? (i := 123) rfl))) (ty := (.array .int)) (by decide)
  have F_actions_b5 : Fld Z h5 b5 "com/example/qopa/qopa/model/Model" "actions" "Lcom/example/qopa/qopa/model/Actions;" .null := D5 (Or.inr (hw _ (List.mem_of_getElem? (i := 125) rfl))) (ty := (.object "com/example/qopa/qopa/model/Actions")) (by decide)
  have F_labels_b5 : Fld Z h5 b5 "com/example/qopa/qopa/model/Model" "labels" "Ljava/util/Map;" .null := D5 (Or.inr (hw _ (List.mem_of_getElem? (i := 127) rfl))) (ty := (.object "java/util/Map")) (by decide)
  have F_firstChoice_b5 : Fld Z h5 b5 "com/example/qopa/qopa/model/Model" "firstChoice" "[I" .null := D5 (Or.inr (hw _ (List.mem_of_getElem? (i := 129) rfl))) (ty := (.array .int)) (by decide)
  have F_firstTransition_b5 : Fld Z h5 b5 "com/example/qopa/qopa/model/Model" "firstTransition" "[I" .null := D5 (Or.inr (hw _ (List.mem_of_getElem? (i := 131) rfl))) (ty := (.array .int)) (by decide)
  have F_target_b5 : Fld Z h5 b5 "com/example/qopa/qopa/model/Model" "target" "[I" .null := D5 (Or.inr (hw _ (List.mem_of_getElem? (i := 133) rfl))) (ty := (.array .int)) (by decide)
  have F_lower_b5 : Fld Z h5 b5 "com/example/qopa/qopa/model/Model" "lower" "[Lcom/example/qopa/qopa/math/Rational;" .null := D5 (Or.inr (hw _ (List.mem_of_getElem? (i := 135) rfl))) (ty := (.array (.object "com/example/qopa/qopa/math/Rational"))) (by decide)
  have F_upper_b5 : Fld Z h5 b5 "com/example/qopa/qopa/model/Model" "upper" "[Lcom/example/qopa/qopa/math/Rational;" .null := D5 (Or.inr (hw _ (List.mem_of_getElem? (i := 137) rfl))) (ty := (.array (.object "com/example/qopa/qopa/math/Rational"))) (by decide)
  have F_action_b5 : Fld Z h5 b5 "com/example/qopa/qopa/model/Model" "action" "[I" .null := D5 (Or.inr (hw _ (List.mem_of_getElem? (i := 139) rfl))) (ty := (.array .int)) (by decide)
  have F_slack_b5 : Fld Z h5 b5 "com/example/qopa/qopa/model/Model" "slack" "[Lcom/example/qopa/qopa/math/Rational;" .null := D5 (Or.inr (hw _ (List.mem_of_getElem? (i := 148) rfl))) (ty := (.array (.object "com/example/qopa/qopa/math/Rational"))) (by decide)
  refine step (T5.setTop (mkF m 41 #[.val (.ref o1), .val (.ref o2), .val (.ref o3), .val .null, .val .null, .val (.ref o8), .val (.ref o8)] [(.ref b5)])) (fun t k => st5 t k) ?_
  refine step (T5.setTop (mkF m 42 #[.val (.ref o1), .val (.ref o2), .val (.ref o3), .val .null, .val .null, .val (.ref o8), .val (.ref o8)] [(.ref b5), (.ref b5)])) (fun t k => XS.dup X5.here hx rfl (hb hby d9_41) rfl rfl k) ?_
  refine step (T5.setTop (mkF m 43 #[.val (.ref o1), .val (.ref o2), .val (.ref o3), .val .null, .val .null, .val (.ref o8), .val (.ref o8)] [(.ref o2), (.ref b5), (.ref b5)])) (fun t k => XS.aloadN X5.here hx rfl (hb hby d9_42) rfl rfl k) ?_
  refine step (T5.setTop (mkF m 44 #[.val (.ref o1), .val (.ref o2), .val (.ref o3), .val .null, .val .null, .val (.ref o8), .val (.ref o8)] [(.ref o3), (.ref o2), (.ref b5), (.ref b5)])) (fun t k => XS.aloadN X5.here hx rfl (hb hby d9_43) rfl rfl k) ?_
  refine step (T5.setTop (mkF m 45 #[.val (.ref o1), .val (.ref o2), .val (.ref o3), .val .null, .val .null, .val (.ref o8), .val (.ref o8)] [.null, (.ref o3), (.ref o2), (.ref b5), (.ref b5)])) (fun t k => XS.aloadN X5.here hx rfl (hb hby d9_44) rfl rfl k) ?_
  refine step (T5.setTop (mkF m 47 #[.val (.ref o1), .val (.ref o2), .val (.ref o3), .val .null, .val .null, .val (.ref o8), .val (.ref o8)] [.null, .null, (.ref o3), (.ref o2), (.ref b5), (.ref b5)])) (fun t k => XS.aload X5.here hx rfl (hb hby d9_45) rfl rfl k) ?_
  refine step (T5.setTop (mkF m 48 #[.val (.ref o1), .val (.ref o2), .val (.ref o3), .val .null, .val .null, .val (.ref o8), .val (.ref o8)] [(.ref o1), .null, .null, (.ref o3), (.ref o2), (.ref b5), (.ref b5)])) (fun t k => XS.aloadN X5.here hx rfl (hb hby d9_47) rfl rfl k) ?_
  have f6 := (Pm6.ext E5)
  obtain ⟨T7, X7, e7, st7⟩ := getF X5 hx hZ hown (host := "") (Or.inl (hw _ (List.mem_of_getElem? (i := 34) rfl))) Via.refl e5 f6 (g := (mkF m 48 #[.val (.ref o1), .val (.ref o2), .val (.ref o3), .val .null, .val .null, .val (.ref o8), .val (.ref o8)] [(.ref o1), .null, .null, (.ref o3), (.ref o2), (.ref b5), (.ref b5)])) rfl rfl (hb hby d9_48)
  refine step (T7.setTop (mkF m 51 #[.val (.ref o1), .val (.ref o2), .val (.ref o3), .val .null, .val .null, .val (.ref o8), .val (.ref o8)] [(.ref o6), .null, .null, (.ref o3), (.ref o2), (.ref b5), (.ref b5)])) (fun t k => st7 t k) ?_
  refine step (T7.setTop (mkF m 52 #[.val (.ref o1), .val (.ref o2), .val (.ref o3), .val .null, .val .null, .val (.ref o8), .val (.ref o8)] [(.ref o1), (.ref o6), .null, .null, (.ref o3), (.ref o2), (.ref b5), (.ref b5)])) (fun t k => XS.aloadN X7.here hx rfl (hb hby d9_51) rfl rfl k) ?_
  have f8 := (Pm10.ext E5)
  obtain ⟨T9, X9, e9, st9⟩ := getF X7 hx hZ hown (host := "") (Or.inl (hw _ (List.mem_of_getElem? (i := 79) rfl))) Via.refl e7 f8 (g := (mkF m 52 #[.val (.ref o1), .val (.ref o2), .val (.ref o3), .val .null, .val .null, .val (.ref o8), .val (.ref o8)] [(.ref o1), (.ref o6), .null, .null, (.ref o3), (.ref o2), (.ref b5), (.ref b5)])) rfl rfl (hb hby d9_52)
  refine step (T9.setTop (mkF m 55 #[.val (.ref o1), .val (.ref o2), .val (.ref o3), .val .null, .val .null, .val (.ref o8), .val (.ref o8)] [(.int (0 : Int32)), (.ref o6), .null, .null, (.ref o3), (.ref o2), (.ref b5), (.ref b5)])) (fun t k => st9 t k) ?_
  refine step (T9.setTop (mkF m 56 #[.val (.ref o1), .val (.ref o2), .val (.ref o3), .val .null, .val .null, .val (.ref o8), .val (.ref o8)] [(.int (1 : Int32)), (.int (0 : Int32)), (.ref o6), .null, .null, (.ref o3), (.ref o2), (.ref b5), (.ref b5)])) (fun t k => XS.iconst X9.here hx rfl (hb hby d9_55) k) ?_
  refine step (T9.setTop (mkF m 57 #[.val (.ref o1), .val (.ref o2), .val (.ref o3), .val .null, .val .null, .val (.ref o8), .val (.ref o8)] [(.int (1 : Int32)), (.ref o6), .null, .null, (.ref o3), (.ref o2), (.ref b5), (.ref b5)])) (fun t k => XS.iadd X9.here hx rfl (hb hby d9_56) rfl k) ?_
  have f10 := (Pm18.ext E5)
  obtain ⟨_, _, ⟨T11, L11, k11, n11⟩, -, X11, ⟨Lc11, hQ11, l11, y11, z11⟩, st11⟩ := Jvm.LawKit.callS X9 hx (y := (⟨"com/example/qopa/qopa/model/ModelBuilder", "trim", "([II)[I"⟩ : MethodName)) hown (mvT hZ (hw _ (List.mem_of_getElem? (i := 81) rfl))) (mvT hZ (hw _ (List.mem_of_getElem? (i := 82) rfl))) (mvT hZ (hw _ (List.mem_of_getElem? (i := 7) rfl))) (mvT hZ (hw _ (List.mem_of_getElem? (i := 83) rfl))) (by decide) (backOf (W := 6) (rm11_14 l Z a0 hw [] o6 kc6 h5 n0 (Nat.le_trans Z0 K5.1) f10 gn_o6) hZ (hw _ (List.mem_of_getElem? (i := 83) rfl)) (hw _ (List.mem_of_getElem? (i := 7) rfl)) (by decide) (by decide)) (g := (mkF m 57 #[.val (.ref o1), .val (.ref o2), .val (.ref o3), .val .null, .val .null, .val (.ref o8), .val (.ref o8)] [(.int (1 : Int32)), (.ref o6), .null, .null, (.ref o3), (.ref o2), (.ref b5), (.ref b5)])) rfl (by rw [hml]; rfl) (argsL := [(.ref o6), (.int (1 : Int32))]) (rest := [.null, .null, (.ref o3), (.ref o2), (.ref b5), (.ref b5)]) (lenOf pd_10 rfl) rfl (by show 2 * 0 + _ ≤ _; exact Nat.le_of_eq rfl) (hb hby d9_57) (fun _ _ => ⟨rfl, e9, (by decide : 1 + 0 ≤ _), (by decide : 12 + 0 ≤ _)⟩)
  dsimp only [Pt.U, Pt.locs, Pt.cells, Pt.slots] at X11 l11 y11 z11 st11 hQ11
  subst l11 y11 z11
  obtain ⟨rfl, N11q, e11q⟩ := hQ11
  have N11 := Fr.app N3 N11q
  refine step (T11.setTop (mkF m 60 #[.val (.ref o1), .val (.ref o2), .val (.ref o3), .val .null, .val .null, .val (.ref o8), .val (.ref o8)] [(.ref o6), .null, .null, (.ref o3), (.ref o2), (.ref b5), (.ref b5)])) (fun t k => st11 t k) ?_
  refine step (T11.setTop (mkF m 61 #[.val (.ref o1), .val (.ref o2), .val (.ref o3), .val .null, .val .null, .val (.ref o8), .val (.ref o8)] [(.ref o1), (.ref o6), .null, .null, (.ref o3), (.ref o2), (.ref b5), (.ref b5)])) (fun t k => XS.aloadN X11.here hx rfl (hb hby d9_60) rfl rfl k) ?_
  have f12 := (Pm7.ext E5)
  obtain ⟨T13, X13, e13, st13⟩ := getF X11 hx hZ hown (host := "") (Or.inl (hw _ (List.mem_of_getElem? (i := 36) rfl))) Via.refl e11q f12 (g := (mkF m 61 #[.val (.ref o1), .val (.ref o2), .val (.ref o3), .val .null, .val .null, .val (.ref o8), .val (.ref o8)] [(.ref o1), (.ref o6), .null, .null, (.ref o3), (.ref o2), (.ref b5), (.ref b5)])) rfl rfl (hb hby d9_61)
  refine step (T13.setTop (mkF m 64 #[.val (.ref o1), .val (.ref o2), .val (.ref o3), .val .null, .val .null, .val (.ref o8), .val (.ref o8)] [(.ref o7), (.ref o6), .null, .null, (.ref o3), (.ref o2), (.ref b5), (.ref b5)])) (fun t k => st13 t k) ?_
  refine step (T13.setTop (mkF m 65 #[.val (.ref o1), .val (.ref o2), .val (.ref o3), .val .null, .val .null, .val (.ref o8), .val (.ref o8)] [(.ref o1), (.ref o7), (.ref o6), .null, .null, (.ref o3), (.ref o2), (.ref b5), (.ref b5)])) (fun t k => XS.aloadN X13.here hx rfl (hb hby d9_64) rfl rfl k) ?_
  have f14 := (Pm5.ext E5)
  obtain ⟨T15, X15, e15, st15⟩ := getF X13 hx hZ hown (host := "") (Or.inl (hw _ (List.mem_of_getElem? (i := 84) rfl))) Via.refl e13 f14 (g := (mkF m 65 #[.val (.ref o1), .val (.ref o2), .val (.ref o3), .val .null, .val .null, .val (.ref o8), .val (.ref o8)] [(.ref o1), (.ref o7), (.ref o6), .null, .null, (.ref o3), (.ref o2), (.ref b5), (.ref b5)])) rfl rfl (hb hby d9_65)
  refine step (T15.setTop (mkF m 68 #[.val (.ref o1), .val (.ref o2), .val (.ref o3), .val .null, .val .null, .val (.ref o8), .val (.ref o8)] [(.int (0 : Int32)), (.ref o7), (.ref o6), .null, .null, (.ref o3), (.ref o2), (.ref b5), (.ref b5)])) (fun t k => st15 t k) ?_
  refine step (T15.setTop (mkF m 69 #[.val (.ref o1), .val (.ref o2), .val (.ref o3), .val .null, .val .null, .val (.ref o8), .val (.ref o8)] [(.int (1 : Int32)), (.int (0 : Int32)), (.ref o7), (.ref o6), .null, .null, (.ref o3), (.ref o2), (.ref b5), (.ref b5)])) (fun t k => XS.iconst X15.here hx rfl (hb hby d9_68) k) ?_
  refine step (T15.setTop (mkF m 70 #[.val (.ref o1), .val (.ref o2), .val (.ref o3), .val .null, .val .null, .val (.ref o8), .val (.ref o8)] [(.int (1 : Int32)), (.ref o7), (.ref o6), .null, .null, (.ref o3), (.ref o2), (.ref b5), (.ref b5)])) (fun t k => XS.iadd X15.here hx rfl (hb hby d9_69) rfl k) ?_
  have f16 := (Pm19.ext E5)
  obtain ⟨_, _, ⟨T17, L17, k17, n17⟩, -, X17, ⟨Lc17, hQ17, l17, y17, z17⟩, st17⟩ := Jvm.LawKit.callS X15 hx (y := (⟨"com/example/qopa/qopa/model/ModelBuilder", "trim", "([II)[I"⟩ : MethodName)) hown (mvT hZ (hw _ (List.mem_of_getElem? (i := 81) rfl))) (mvT hZ (hw _ (List.mem_of_getElem? (i := 82) rfl))) (mvT hZ (hw _ (List.mem_of_getElem? (i := 7) rfl))) (mvT hZ (hw _ (List.mem_of_getElem? (i := 83) rfl))) (by decide) (backOf (W := 7) (rm11_14 l Z a0 hw [] o7 kc7 h5 n0 (Nat.le_trans Z0 K5.1) f16 gn_o7) hZ (hw _ (List.mem_of_getElem? (i := 83) rfl)) (hw _ (List.mem_of_getElem? (i := 7) rfl)) (by decide) (by decide)) (g := (mkF m 70 #[.val (.ref o1), .val (.ref o2), .val (.ref o3), .val .null, .val .null, .val (.ref o8), .val (.ref o8)] [(.int (1 : Int32)), (.ref o7), (.ref o6), .null, .null, (.ref o3), (.ref o2), (.ref b5), (.ref b5)])) rfl (by rw [hml]; rfl) (argsL := [(.ref o7), (.int (1 : Int32))]) (rest := [(.ref o6), .null, .null, (.ref o3), (.ref o2), (.ref b5), (.ref b5)]) (lenOf pd_10 rfl) rfl (by show 2 * 0 + _ ≤ _; exact Nat.le_of_eq rfl) (hb hby d9_70) (fun _ _ => ⟨rfl, e15, (by decide : 1 + 0 ≤ _), (by decide : 12 + 0 ≤ _)⟩)
  dsimp only [Pt.U, Pt.locs, Pt.cells, Pt.slots] at X17 l17 y17 z17 st17 hQ17
  subst l17 y17 z17
  obtain ⟨rfl, N17q, e17q⟩ := hQ17
  have N17 := Fr.app N11 N17q
  refine step (T17.setTop (mkF m 73 #[.val (.ref o1), .val (.ref o2), .val (.ref o3), .val .null, .val .null, .val (.ref o8), .val (.ref o8)] [(.ref o7), (.ref o6), .null, .null, (.ref o3), (.ref o2), (.ref b5), (.ref b5)])) (fun t k => st17 t k) ?_
  refine step (T17.setTop (mkF m 74 #[.val (.ref o1), .val (.ref o2), .val (.ref o3), .val .null, .val .null, .val (.ref o8), .val (.ref o8)] [(.ref o1), (.ref o7), (.ref o6), .null, .null, (.ref o3), (.ref o2), (.ref b5), (.ref b5)])) (fun t k => XS.aloadN X17.here hx rfl (hb hby d9_73) rfl rfl k) ?_
  have f18 := (Pm11.ext E5)
  obtain ⟨T19, X19, e19, st19⟩ := getF X17 hx hZ hown (host := "") (Or.inl (hw _ (List.mem_of_getElem? (i := 38) rfl))) Via.refl e17q f18 (g := (mkF m 74 #[.val (.ref o1), .val (.ref o2), .val (.ref o3), .val .null, .val .null, .val (.ref o8), .val (.ref o8)] [(.ref o1), (.ref o7), (.ref o6), .null, .null, (.ref o3), (.ref o2), (.ref b5), (.ref b5)])) rfl rfl (hb hby d9_74)
  refine step (T19.setTop (mkF m 77 #[.val (.ref o1), .val (.ref o2), .val (.ref o3), .val .null, .val .null, .val (.ref o8), .val (.ref o8)] [(.ref o10), (.ref o7), (.ref o6), .null, .null, (.ref o3), (.ref o2), (.ref b5), (.ref b5)])) (fun t k => st19 t k) ?_
  refine step (T19.setTop (mkF m 78 #[.val (.ref o1), .val (.ref o2), .val (.ref o3), .val .null, .val .null, .val (.ref o8), .val (.ref o8)] [(.ref o1), (.ref o10), (.ref o7), (.ref o6), .null, .null, (.ref o3), (.ref o2), (.ref b5), (.ref b5)])) (fun t k => XS.aloadN X19.here hx rfl (hb hby d9_77) rfl rfl k) ?_
  have f20 := (Pm12.ext E5)
  obtain ⟨T21, X21, e21, st21⟩ := getF X19 hx hZ hown (host := "") (Or.inl (hw _ (List.mem_of_getElem? (i := 58) rfl))) Via.refl e19 f20 (g := (mkF m 78 #[.val (.ref o1), .val (.ref o2), .val (.ref o3), .val .null, .val .null, .val (.ref o8), .val (.ref o8)] [(.ref o1), (.ref o10), (.ref o7), (.ref o6), .null, .null, (.ref o3), (.ref o2), (.ref b5), (.ref b5)])) rfl rfl (hb hby d9_78)
  refine step (T21.setTop (mkF m 81 #[.val (.ref o1), .val (.ref o2), .val (.ref o3), .val .null, .val .null, .val (.ref o8), .val (.ref o8)] [(.int (3 : Int32)), (.ref o10), (.ref o7), (.ref o6), .null, .null, (.ref o3), (.ref o2), (.ref b5), (.ref b5)])) (fun t k => st21 t k) ?_
  have f22 := (Pm24.ext E5)
  obtain ⟨_, _, ⟨T23, L23, k23, n23⟩, -, X23, ⟨Lc23, hQ23, l23, y23, z23⟩, st23⟩ := Jvm.LawKit.callS X21 hx (y := (⟨"com/example/qopa/qopa/model/ModelBuilder", "trim", "([II)[I"⟩ : MethodName)) hown (mvT hZ (hw _ (List.mem_of_getElem? (i := 81) rfl))) (mvT hZ (hw _ (List.mem_of_getElem? (i := 82) rfl))) (mvT hZ (hw _ (List.mem_of_getElem? (i := 7) rfl))) (mvT hZ (hw _ (List.mem_of_getElem? (i := 83) rfl))) (by decide) (backOf (W := 8) (rm11_15 l Z a0 hw [] o10 kc9 h5 n0 (Nat.le_trans Z0 K5.1) f22 gn_o10) hZ (hw _ (List.mem_of_getElem? (i := 83) rfl)) (hw _ (List.mem_of_getElem? (i := 7) rfl)) (by decide) (by decide)) (g := (mkF m 81 #[.val (.ref o1), .val (.ref o2), .val (.ref o3), .val .null, .val .null, .val (.ref o8), .val (.ref o8)] [(.int (3 : Int32)), (.ref o10), (.ref o7), (.ref o6), .null, .null, (.ref o3), (.ref o2), (.ref b5), (.ref b5)])) rfl (by rw [hml]; rfl) (argsL := [(.ref o10), (.int (3 : Int32))]) (rest := [(.ref o7), (.ref o6), .null, .null, (.ref o3), (.ref o2), (.ref b5), (.ref b5)]) (lenOf pd_10 rfl) rfl (by show 2 * 0 + _ ≤ _; exact Nat.le_of_eq rfl) (hb hby d9_81) (fun _ _ => ⟨rfl, e21, (by decide : 1 + 0 ≤ _), (by decide : 12 + 0 ≤ _)⟩)
  dsimp only [Pt.U, Pt.locs, Pt.cells, Pt.slots] at X23 l23 y23 z23 st23 hQ23
  subst l23 y23 z23
  obtain ⟨rfl, N23q, e23q⟩ := hQ23
  have N23 := Fr.app N17 N23q
  refine step (T23.setTop (mkF m 84 #[.val (.ref o1), .val (.ref o2), .val (.ref o3), .val .null, .val .null, .val (.ref o8), .val (.ref o8)] [(.ref o10), (.ref o7), (.ref o6), .null, .null, (.ref o3), (.ref o2), (.ref b5), (.ref b5)])) (fun t k => st23 t k) ?_
  refine step (T23.setTop (mkF m 86 #[.val (.ref o1), .val (.ref o2), .val (.ref o3), .val .null, .val .null, .val (.ref o8), .val (.ref o8)] [(.ref o8), (.ref o10), (.ref o7), (.ref o6), .null, .null, (.ref o3), (.ref o2), (.ref b5), (.ref b5)])) (fun t k => XS.aload X23.here hx rfl (hb hby d9_84) rfl rfl k) ?_
  refine step (T23.setTop (mkF m 88 #[.val (.ref o1), .val (.ref o2), .val (.ref o3), .val .null, .val .null, .val (.ref o8), .val (.ref o8)] [(.ref o8), (.ref o8), (.ref o10), (.ref o7), (.ref o6), .null, .null, (.ref o3), (.ref o2), (.ref b5), (.ref b5)])) (fun t k => XS.aload X23.here hx rfl (hb hby d9_86) rfl rfl k) ?_
  refine step (T23.setTop (mkF m 89 #[.val (.ref o1), .val (.ref o2), .val (.ref o3), .val .null, .val .null, .val (.ref o8), .val (.ref o8)] [(.ref o1), (.ref o8), (.ref o8), (.ref o10), (.ref o7), (.ref o6), .null, .null, (.ref o3), (.ref o2), (.ref b5), (.ref b5)])) (fun t k => XS.aloadN X23.here hx rfl (hb hby d9_88) rfl rfl k) ?_
  have f24 := (Pm3.ext E5)
  obtain ⟨T25, X25, e25, st25⟩ := getF X23 hx hZ hown (host := "") (Or.inl (hw _ (List.mem_of_getElem? (i := 46) rfl))) Via.refl e23q f24 (g := (mkF m 89 #[.val (.ref o1), .val (.ref o2), .val (.ref o3), .val .null, .val .null, .val (.ref o8), .val (.ref o8)] [(.ref o1), (.ref o8), (.ref o8), (.ref o10), (.ref o7), (.ref o6), .null, .null, (.ref o3), (.ref o2), (.ref b5), (.ref b5)])) rfl rfl (hb hby d9_89)
  refine step (T25.setTop (mkF m 92 #[.val (.ref o1), .val (.ref o2), .val (.ref o3), .val .null, .val .null, .val (.ref o8), .val (.ref o8)] [(.ref o5), (.ref o8), (.ref o8), (.ref o10), (.ref o7), (.ref o6), .null, .null, (.ref o3), (.ref o2), (.ref b5), (.ref b5)])) (fun t k => st25 t k) ?_
  refine step (T25.setTop (mkF m 93 #[.val (.ref o1), .val (.ref o2), .val (.ref o3), .val .null, .val .null, .val (.ref o8), .val (.ref o8)] [(.ref o1), (.ref o5), (.ref o8), (.ref o8), (.ref o10), (.ref o7), (.ref o6), .null, .null, (.ref o3), (.ref o2), (.ref b5), (.ref b5)])) (fun t k => XS.aloadN X25.here hx rfl (hb hby d9_92) rfl rfl k) ?_
  obtain ⟨T26, X26, e26, st26⟩ := getF X25 hx hZ hown (host := "") (Or.inl (hw _ (List.mem_of_getElem? (i := 58) rfl))) Via.refl e25 f20 (g := (mkF m 93 #[.val (.ref o1), .val (.ref o2), .val (.ref o3), .val .null, .val .null, .val (.ref o8), .val (.ref o8)] [(.ref o1), (.ref o5), (.ref o8), (.ref o8), (.ref o10), (.ref o7), (.ref o6), .null, .null, (.ref o3), (.ref o2), (.ref b5), (.ref b5)])) rfl rfl (hb hby d9_93)
  refine step (T26.setTop (mkF m 96 #[.val (.ref o1), .val (.ref o2), .val (.ref o3), .val .null, .val .null, .val (.ref o8), .val (.ref o8)] [(.int (3 : Int32)), (.ref o5), (.ref o8), (.ref o8), (.ref o10), (.ref o7), (.ref o6), .null, .null, (.ref o3), (.ref o2), (.ref b5), (.ref b5)])) (fun t k => st26 t k) ?_
  have f27 := (Pm17.ext E5)
  obtain ⟨_, _, ⟨T28, L28, k28, n28⟩, -, X28, ⟨Lc28, hQ28, l28, y28, z28⟩, st28⟩ := Jvm.LawKit.callS X26 hx (y := (⟨"com/example/qopa/qopa/model/ModelBuilder", "trim", "([II)[I"⟩ : MethodName)) hown (mvT hZ (hw _ (List.mem_of_getElem? (i := 81) rfl))) (mvT hZ (hw _ (List.mem_of_getElem? (i := 82) rfl))) (mvT hZ (hw _ (List.mem_of_getElem? (i := 7) rfl))) (mvT hZ (hw _ (List.mem_of_getElem? (i := 83) rfl))) (by decide) (backOf (W := 11) (rm11_16 l Z a0 hw [] o5 kc2 i3 i4 i5 h5 n0 (Nat.le_trans Z0 K5.1) f27 gn_o5) hZ (hw _ (List.mem_of_getElem? (i := 83) rfl)) (hw _ (List.mem_of_getElem? (i := 7) rfl)) (by decide) (by decide)) (g := (mkF m 96 #[.val (.ref o1), .val (.ref o2), .val (.ref o3), .val .null, .val .null, .val (.ref o8), .val (.ref o8)] [(.int (3 : Int32)), (.ref o5), (.ref o8), (.ref o8), (.ref o10), (.ref o7), (.ref o6), .null, .null, (.ref o3), (.ref o2), (.ref b5), (.ref b5)])) rfl (by rw [hml]; rfl) (argsL := [(.ref o5), (.int (3 : Int32))]) (rest := [(.ref o8), (.ref o8), (.ref o10), (.ref o7), (.ref o6), .null, .null, (.ref o3), (.ref o2), (.ref b5), (.ref b5)]) (lenOf pd_10 rfl) rfl (by show 2 * 0 + _ ≤ _; exact Nat.le_of_eq rfl) (hb hby d9_96) (fun _ _ => ⟨rfl, e26, (by decide : 1 + 0 ≤ _), (by decide : 12 + 0 ≤ _)⟩)
  dsimp only [Pt.U, Pt.locs, Pt.cells, Pt.slots] at X28 l28 y28 z28 st28 hQ28
  subst l28 y28 z28
  obtain ⟨rfl, N28q, e28q⟩ := hQ28
  have N28 := Fr.app N23 N28q
  refine step (T28.setTop (mkF m 99 #[.val (.ref o1), .val (.ref o2), .val (.ref o3), .val .null, .val .null, .val (.ref o8), .val (.ref o8)] [(.ref o5), (.ref o8), (.ref o8), (.ref o10), (.ref o7), (.ref o6), .null, .null, (.ref o3), (.ref o2), (.ref b5), (.ref b5)])) (fun t k => st28 t k) ?_
  have f29 := (S0.ext E5)
  have f30 := (S1.ext E5)
  have f31 := (Pm14.ext E5)
  have f32 := (Pm15.ext E5)
  have f33 := (Pm20.ext E5)
  have f34 := (Pm16.ext E5)
  obtain ⟨_, _, ⟨T35, L35, k35, n35⟩, -, X35, ⟨Lc35, hQ35, l35, y35, z35⟩, st35⟩ := X28.specialBack hx (y := (⟨"com/example/qopa/qopa/model/Model", "<init>", "(Lcom/example/qopa/qopa/model/Model$Kind;[ILcom/example/qopa/qopa/model/Actions;Ljava/util/Map;[I[I[I[Lcom/example/qopa/qopa/math/Rational;[Lcom/example/qopa/qopa/math/Rational;[I)V"⟩ : MethodName)) rfl hown (mvT hZ (hw _ (List.mem_of_getElem? (i := 86) rfl))) (mvT hZ (hw _ (List.mem_of_getElem? (i := 87) rfl))) (mvT hZ (hw _ (List.mem_of_getElem? (i := 88) rfl))) (by decide) (backOf (W := 1) (rm12_17 l Z a0 hw [] b5 o2 o3 o6 o7 o10 o8 o5 o4 kc1 kc6 kc7 kc9 kc8 kc2 i3 i4 i5 h5 n0 (Nat.le_trans Z0 K5.1) f29 f30 A5 F_action_b5 F_actions_b5 F_firstChoice_b5 F_firstTransition_b5 F_initialStates_b5 F_kind_b5 F_labels_b5 F_lower_b5 F_slack_b5 F_target_b5 F_terminal_b5 F_upper_b5 f31 f32 f10 f16 f22 f33 O21 f27 f34 gn_b5 (Ne.symm ne_o2_b5) (Ne.symm ne_o3_b5) (Ne.symm ne_o6_b5) (Ne.symm ne_o7_b5) (Ne.symm ne_o10_b5) (Ne.symm ne_o8_b5) (Ne.symm ne_o5_b5) (Ne.symm ne_o4_b5) ne_o2_o3 ne_o2_o6 ne_o2_o7 (Ne.symm ne_o10_o2) ne_o2_o8 ne_o2_o5 ne_o2_o4 gn_o3 ne_o3_o6 ne_o3_o7 (Ne.symm ne_o10_o3) ne_o3_o8 ne_o3_o5 ne_o3_o4 gn_o6 ne_o6_o7 (Ne.symm ne_o10_o6) ne_o6_o8 (Ne.symm ne_o5_o6) (Ne.symm ne_o4_o6) gn_o7 (Ne.symm ne_o10_o7) ne_o7_o8 (Ne.symm ne_o5_o7) (Ne.symm ne_o4_o7) gn_o10 ne_o10_o8 ne_o10_o5 ne_o10_o4 gn_o8 (Ne.symm ne_o5_o8) (Ne.symm ne_o4_o8) gn_o5 (Ne.symm ne_o4_o5)) hZ (hw _ (List.mem_of_getElem? (i := 88) rfl)) (hw _ (List.mem_of_getElem? (i := 78) rfl)) (by decide) (by decide)) (g := (mkF m 99 #[.val (.ref o1), .val (.ref o2), .val (.ref o3), .val .null, .val .null, .val (.ref o8), .val (.ref o8)] [(.ref o5), (.ref o8), (.ref o8), (.ref o10), (.ref o7), (.ref o6), .null, .null, (.ref o3), (.ref o2), (.ref b5), (.ref b5)])) rfl (by rw [hml]; rfl) (Steps.refl _) (a := b5) (argsL := [(.ref o2), (.ref o3), .null, .null, (.ref o6), (.ref o7), (.ref o10), (.ref o8), (.ref o8), (.ref o5)]) (rest := [(.ref b5)]) (lenOf pd_11 rfl) rfl (by show 2 * 0 + _ ≤ _; exact Nat.le_of_eq rfl) (hb hby d9_99) (fun _ _ => ⟨rfl, e28q, (by decide : 1 + 2 ≤ _), (by decide : 12 + 4 ≤ _)⟩)
  dsimp only [Pt.U, Pt.locs, Pt.cells, Pt.slots] at X35 l35 y35 z35 st35 hQ35
  subst l35 y35 z35
  obtain ⟨h35, e35⟩ : ∃ z, T35.heap = z := ⟨_, rfl⟩
  rw [e35] at hQ35
  obtain ⟨b2_35, b2_9_3_35, k2_9_3_35, rfl, N35q, K35q, sz_b2_35, sz_b2_9_3_35, ne_b2_b2_9_3_35, q0_35, q1_35, q2_35, q3_35, q4_35, q5_35, q6_35, q7_35, q8_35, q9_35, q10_35, q11_35, q12_35, q13_35, q14_35, q15_35, q16_35⟩ := hQ35
  have N35 := Fr.app N28 N35q
  have f36 := (Pm2.ext E5)
  have lt35_o1 := f36.lt
  have lt35_o2 := f31.lt
  have lt35_o3 := f32.lt
  have lt35_o4 := f34.lt
  have lt35_o5 := f27.lt
  have lt35_o6 := f10.lt
  have lt35_o7 := f16.lt
  have lt35_o8 := f33.lt
  have f37 := (Pm22.ext E5)
  have lt35_o9 := f37.lt
  have lt35_o10 := f22.lt
  have lt35_b5 := A5.lt
  have ne_o1_b2_35 : o1 ≠ b2_35 := Nat.ne_of_lt (Nat.lt_of_lt_of_le lt35_o1 sz_b2_35)
  have ne_o2_b2_35 : o2 ≠ b2_35 := Nat.ne_of_lt (Nat.lt_of_lt_of_le lt35_o2 sz_b2_35)
  have ne_o3_b2_35 : o3 ≠ b2_35 := Nat.ne_of_lt (Nat.lt_of_lt_of_le lt35_o3 sz_b2_35)
  have ne_o4_b2_35 : o4 ≠ b2_35 := Nat.ne_of_lt (Nat.lt_of_lt_of_le lt35_o4 sz_b2_35)
  have ne_o5_b2_35 : o5 ≠ b2_35 := Nat.ne_of_lt (Nat.lt_of_lt_of_le lt35_o5 sz_b2_35)
  have ne_o6_b2_35 : o6 ≠ b2_35 := Nat.ne_of_lt (Nat.lt_of_lt_of_le lt35_o6 sz_b2_35)
  have ne_o7_b2_35 : o7 ≠ b2_35 := Nat.ne_of_lt (Nat.lt_of_lt_of_le lt35_o7 sz_b2_35)
  have ne_o8_b2_35 : o8 ≠ b2_35 := Nat.ne_of_lt (Nat.lt_of_lt_of_le lt35_o8 sz_b2_35)
  have ne_o9_b2_35 : o9 ≠ b2_35 := Nat.ne_of_lt (Nat.lt_of_lt_of_le lt35_o9 sz_b2_35)
  have ne_o10_b2_35 : o10 ≠ b2_35 := Nat.ne_of_lt (Nat.lt_of_lt_of_le lt35_o10 sz_b2_35)
  have ne_b5_b2_35 : b5 ≠ b2_35 := Nat.ne_of_lt (Nat.lt_of_lt_of_le lt35_b5 sz_b2_35)
  have gn_b2_35 : n0 ≤ b2_35 := Nat.le_trans (Nat.le_trans Z0 K5.1) sz_b2_35
  have sz_b2_35' := Nat.le_trans K5.1 sz_b2_35
  replace sz_b2_35 := sz_b2_35'
  have ne_o1_b2_9_3_35 : o1 ≠ b2_9_3_35 := Nat.ne_of_lt (Nat.lt_of_lt_of_le lt35_o1 sz_b2_9_3_35)
  have ne_o2_b2_9_3_35 : o2 ≠ b2_9_3_35 := Nat.ne_of_lt (Nat.lt_of_lt_of_le lt35_o2 sz_b2_9_3_35)
  have ne_o3_b2_9_3_35 : o3 ≠ b2_9_3_35 := Nat.ne_of_lt (Nat.lt_of_lt_of_le lt35_o3 sz_b2_9_3_35)
  have ne_o4_b2_9_3_35 : o4 ≠ b2_9_3_35 := Nat.ne_of_lt (Nat.lt_of_lt_of_le lt35_o4 sz_b2_9_3_35)
  have ne_o5_b2_9_3_35 : o5 ≠ b2_9_3_35 := Nat.ne_of_lt (Nat.lt_of_lt_of_le lt35_o5 sz_b2_9_3_35)
  have ne_o6_b2_9_3_35 : o6 ≠ b2_9_3_35 := Nat.ne_of_lt (Nat.lt_of_lt_of_le lt35_o6 sz_b2_9_3_35)
  have ne_o7_b2_9_3_35 : o7 ≠ b2_9_3_35 := Nat.ne_of_lt (Nat.lt_of_lt_of_le lt35_o7 sz_b2_9_3_35)
  have ne_o8_b2_9_3_35 : o8 ≠ b2_9_3_35 := Nat.ne_of_lt (Nat.lt_of_lt_of_le lt35_o8 sz_b2_9_3_35)
  have ne_o9_b2_9_3_35 : o9 ≠ b2_9_3_35 := Nat.ne_of_lt (Nat.lt_of_lt_of_le lt35_o9 sz_b2_9_3_35)
  have ne_o10_b2_9_3_35 : o10 ≠ b2_9_3_35 := Nat.ne_of_lt (Nat.lt_of_lt_of_le lt35_o10 sz_b2_9_3_35)
  have ne_b5_b2_9_3_35 : b5 ≠ b2_9_3_35 := Nat.ne_of_lt (Nat.lt_of_lt_of_le lt35_b5 sz_b2_9_3_35)
  have gn_b2_9_3_35 : n0 ≤ b2_9_3_35 := Nat.le_trans (Nat.le_trans Z0 K5.1) sz_b2_9_3_35
  have sz_b2_9_3_35' := Nat.le_trans K5.1 sz_b2_9_3_35
  replace sz_b2_9_3_35 := sz_b2_9_3_35'
  have K35 : Keep h0 h35 [] := K5.trans K35q (allS (Or.inr sz_b5) all0)
  have f38 := own_staK f29 K35q (allS (own_exaP A5) all0)
  have f39 := own_staK f30 K35q (allS (own_exaP A5) all0)
  refine step (T35.setTop (mkF m 102 #[.val (.ref o1), .val (.ref o2), .val (.ref o3), .val .null, .val .null, .val (.ref o8), .val (.ref o8)] [(.ref b5)])) (fun t k => st35.trans k) ?_
  have f40 := (A5.keep K35q)
  refine fin (v := some (.ref b5)) X35 (fun h => by cases h) ?_ (by decide) (by decide) (fun fs hr => X35.areturnOut hx rfl hret rfl (hb hby d9_102) hr)
  show Q9_12 Z o1 o2 o3 o4 o5 o6 o7 o8 o9 o10 kc1 kc2 i3 i4 i5 kc6 kc7 kc8 kc9 h0 n0 (some (.ref b5)) T35.heap _
  rw [e35]
  exact ⟨b5, b2_35, b2_9_3_35, k2_9_3_35, rfl, N35, K35, sz_b5, sz_b2_35, sz_b2_9_3_35, (Ne.symm ne_b5_b2_35), ne_b2_b2_9_3_35, (Ne.symm ne_b5_b2_9_3_35), f40, q0_35, q1_35, q2_35, q3_35, q4_35, q5_35, q6_35, q7_35, q8_35, q9_35, q10_35, q11_35, q12_35, q13_35, q14_35, q15_35, q16_35⟩
theorem d19_0 : decode prog_71_method_9_code 0 = .ok (.aload_n 0, 1) := by decide +kernel
theorem d19_1 : decode prog_71_method_9_code 1 = .ok (.getfield 54, 3) := by decide +kernel
theorem d19_4 : decode prog_71_method_9_code 4 = .ok (.arraylength, 1) := by decide +kernel
theorem d19_5 : decode prog_71_method_9_code 5 = .ok (.ireturn, 1) := by decide +kernel
theorem ef_19_24 (m : MethodId) (x0 : Addr) : entryFrame m #[(.ref x0)] 1 = mkF m 0 #[.val (.ref x0)] [] := by first | (simp [entryFrame, mkF, argsToLocals, Value.category]; done) | rfl
def Q19_24 (Z : State) (o1 : Addr) (o2 : Addr) (kc1 : ClassId) (h0 : Heap) (n0 : Nat) (v : Option Value) (h : Heap) (L : List Loc) : Prop := v = some (.int (3 : Int32)) ∧ Fr n0 L ∧ h = h0
set_option maxRecDepth 65536 in
set_option maxHeartbeats 40000000 in
theorem rm19_24 (l : Launch) (Z : State) (a0 : Array Value) (hw : ∀ d ∈ tables_1, d.before a0 Z = true) (ws : List Jvm.Cond) (o1 : Addr) (o2 : Addr) (kc1 : ClassId) (h0 : Heap) (n0 : Nat) (Z0 : n0 ≤ h0.size) (Pm0 : Exa Z h0 o1 "com/example/qopa/qopa/model/Model") (Pm1 : Fld Z h0 o1 "com/example/qopa/qopa/model/Model" "target" "[I" (.ref o2)) (Pm2 : Arv Z h0 o2 kc1 .int (3 : Int32) [(.int (0 : Int32)), (.int (0 : Int32)), (.int (0 : Int32))] (.int (0 : Int32))) (gn_o1 : n0 ≤ o1) (ne_o1_o2 : o1 ≠ o2) (gn_o2 : n0 ≤ o2)  :
    MetFree l (⟨"com/example/qopa/qopa/model/Model", "transitionCount", "()I"⟩ : MethodName) (head1 (Jvm.Cond.code (⟨"com/example/qopa/qopa/model/Model", "transitionCount", "()I"⟩ : MethodName) prog_71_method_9_code 1 (some .int) :: ws) ({ frames := 0, cells := 0, slots := 0, locals := 0 } : Room)) (fun a U => a = #[(.ref o1)] ∧ Z.Warmed39 U.vm ∧ U.heap = h0) (fun _ _ _ _ _ => True) (fun _ U o U' => ∃ v L, o = .returned v ∧ Q19_24 Z o1 o2 kc1 h0 n0 v U'.heap L ∧ FrameEnd U o U' L ({ frames := 0, cells := 0, slots := 0, locals := 0 } : Room).cells ({ frames := 0, cells := 0, slots := 0, locals := 0 } : Room).slots) := by
  refine own_body (plainFor_of_name pn_4) ?_
  intro p e s m below meth c s₁ G hx hby hml hZ hown hnm hret X0 e0 step fin
  replace hown : s.vm.findClass "com/example/qopa/qopa/model/Model" = some m.cls := hown
  replace hnm : meth.name = "transitionCount" := hnm
  replace hret : meth.sig.returnType = some .int := hret
  replace hml : c.maxLocals = 1 := hml
  have N0 := Fr.nil n0
  refine step (s₁.setTop (mkF m 0 #[.val (.ref o1)] [])) (fun t k => castTop (ef_19_24 m o1) k) ?_
  refine step (s₁.setTop (mkF m 1 #[.val (.ref o1)] [(.ref o1)])) (fun t k => XS.aloadN X0.here hx rfl (hb hby d19_0) rfl rfl k) ?_
  obtain ⟨T1, X1, e1, st1⟩ := getF X0 hx hZ hown (host := "") (Or.inl (hw _ (List.mem_of_getElem? (i := 132) rfl))) Via.refl e0 Pm1 (g := (mkF m 1 #[.val (.ref o1)] [(.ref o1)])) rfl rfl (hb hby d19_1)
  refine step (T1.setTop (mkF m 4 #[.val (.ref o1)] [(.ref o2)])) (fun t k => st1 t k) ?_
  obtain ⟨cl2, Ar2, q2, S2, N2n, H2, G2⟩ := id Pm2
  refine step (T1.setTop (mkF m 5 #[.val (.ref o1)] [(.int (3 : Int32))])) (fun t k => X1.arraylength hx (by rw [e1]; exact Ar2.1) (State.isArrayOf_alike hZ.alike Ar2.2.1) (g := (mkF m 4 #[.val (.ref o1)] [(.ref o2)])) rfl rfl (hb hby d19_4) t (by rw [len_of S2 N2n]; exact k)) ?_
  refine fin (v := some (.int (3 : Int32))) X1 (fun h => by cases h) ?_ (by decide) (by decide) (fun fs hr => retI X1 hx hret (hb hby d19_5) hr)
  show Q19_24 Z o1 o2 kc1 h0 n0 (some (.int (3 : Int32))) T1.heap _
  rw [e1]
  exact ⟨rfl, N0, rfl⟩
theorem d20_0 : decode prog_71_method_17_code 0 = .ok (.aload_n 0, 1) := by decide +kernel
theorem d20_1 : decode prog_71_method_17_code 1 = .ok (.getfield 64, 3) := by decide +kernel
theorem d20_4 : decode prog_71_method_17_code 4 = .ok (.iload_n 1, 1) := by decide +kernel
theorem d20_5 : decode prog_71_method_17_code 5 = .ok (.iaload, 1) := by decide +kernel
theorem d20_6 : decode prog_71_method_17_code 6 = .ok (.ireturn, 1) := by decide +kernel
theorem ef_20_25 (m : MethodId) (x0 : Addr) : entryFrame m #[(.ref x0), (.int (0 : Int32))] 2 = mkF m 0 #[.val (.ref x0), .val (.int (0 : Int32))] [] := by first | (simp [entryFrame, mkF, argsToLocals, Value.category]; done) | rfl
def Q20_25 (Z : State) (o1 : Addr) (o2 : Addr) (kc1 : ClassId) (i2 : Int32) (i3 : Int32) (i4 : Int32) (h0 : Heap) (n0 : Nat) (v : Option Value) (h : Heap) (L : List Loc) : Prop := v = some (.int i2) ∧ Fr n0 L ∧ h = h0
set_option maxRecDepth 65536 in
set_option maxHeartbeats 40000000 in
theorem rm20_25 (l : Launch) (Z : State) (a0 : Array Value) (hw : ∀ d ∈ tables_1, d.before a0 Z = true) (ws : List Jvm.Cond) (o1 : Addr) (o2 : Addr) (kc1 : ClassId) (i2 : Int32) (i3 : Int32) (i4 : Int32) (h0 : Heap) (n0 : Nat) (Z0 : n0 ≤ h0.size) (Pm0 : Exa Z h0 o1 "com/example/qopa/qopa/model/Model") (Pm1 : Fld Z h0 o1 "com/example/qopa/qopa/model/Model" "action" "[I" (.ref o2)) (Pm2 : Arv Z h0 o2 kc1 .int (3 : Int32) [(.int i2), (.int i3), (.int i4)] (.int (0 : Int32))) (gn_o1 : n0 ≤ o1) (ne_o1_o2 : o1 ≠ o2) (gn_o2 : n0 ≤ o2)  :
    MetFree l (⟨"com/example/qopa/qopa/model/Model", "action", "(I)I"⟩ : MethodName) (head1 (Jvm.Cond.code (⟨"com/example/qopa/qopa/model/Model", "action", "(I)I"⟩ : MethodName) prog_71_method_17_code 2 (some .int) :: ws) ({ frames := 0, cells := 0, slots := 0, locals := 0 } : Room)) (fun a U => a = #[(.ref o1), (.int (0 : Int32))] ∧ Z.Warmed39 U.vm ∧ U.heap = h0) (fun _ _ _ _ _ => True) (fun _ U o U' => ∃ v L, o = .returned v ∧ Q20_25 Z o1 o2 kc1 i2 i3 i4 h0 n0 v U'.heap L ∧ FrameEnd U o U' L ({ frames := 0, cells := 0, slots := 0, locals := 0 } : Room).cells ({ frames := 0, cells := 0, slots := 0, locals := 0 } : Room).slots) := by
  refine own_body (plainFor_of_name pn_4) ?_
  intro p e s m below meth c s₁ G hx hby hml hZ hown hnm hret X0 e0 step fin
  replace hown : s.vm.findClass "com/example/qopa/qopa/model/Model" = some m.cls := hown
  replace hnm : meth.name = "action" := hnm
  replace hret : meth.sig.returnType = some .int := hret
  replace hml : c.maxLocals = 2 := hml
  have N0 := Fr.nil n0
  refine step (s₁.setTop (mkF m 0 #[.val (.ref o1), .val (.int (0 : Int32))] [])) (fun t k => castTop (ef_20_25 m o1) k) ?_
  refine step (s₁.setTop (mkF m 1 #[.val (.ref o1), .val (.int (0 : Int32))] [(.ref o1)])) (fun t k => XS.aloadN X0.here hx rfl (hb hby d20_0) rfl rfl k) ?_
  obtain ⟨T1, X1, e1, st1⟩ := getF X0 hx hZ hown (host := "") (Or.inl (hw _ (List.mem_of_getElem? (i := 138) rfl))) Via.refl e0 Pm1 (g := (mkF m 1 #[.val (.ref o1), .val (.int (0 : Int32))] [(.ref o1)])) rfl rfl (hb hby d20_1)
  refine step (T1.setTop (mkF m 4 #[.val (.ref o1), .val (.int (0 : Int32))] [(.ref o2)])) (fun t k => st1 t k) ?_
  refine step (T1.setTop (mkF m 5 #[.val (.ref o1), .val (.int (0 : Int32))] [(.int (0 : Int32)), (.ref o2)])) (fun t k => XS.iloadN X1.here hx rfl (hb hby d20_4) rfl k) ?_
  obtain ⟨cl2, Ar2, q2, S2, N2n, H2, G2⟩ := id Pm2
  have hin2 : ¬ ((0 : Int32) < 0 ∨ cl2.slots.size ≤ ((0 : Int32)).toNatClampNeg) := inb_of S2 ⟨by decide, by decide⟩
  have hat2 : cl2.slots[((0 : Int32)).toNatClampNeg]? = some (.int i2) := H2.at hin2 rfl
  refine step (T1.setTop (mkF m 6 #[.val (.ref o1), .val (.int (0 : Int32))] [(.int i2)])) (fun t k => X1.iaload hx (j := (0 : Int32)) (v := (.int i2)) (by rw [e1]; exact Ar2.1) (State.isArrayOf_alike hZ.alike Ar2.2.1) Ar2.2.2 hin2 hat2 (g := (mkF m 5 #[.val (.ref o1), .val (.int (0 : Int32))] [(.int (0 : Int32)), (.ref o2)])) rfl rfl (hb hby d20_5) t k) ?_
  refine fin (v := some (.int i2)) X1 (fun h => by cases h) ?_ (by decide) (by decide) (fun fs hr => retI X1 hx hret (hb hby d20_6) hr)
  show Q20_25 Z o1 o2 kc1 i2 i3 i4 h0 n0 (some (.int i2)) T1.heap _
  rw [e1]
  exact ⟨rfl, N0, rfl⟩
theorem d21_0 : decode method_3_code 0 = .ok (.iload_n 0, 1) := by decide +kernel
theorem d21_1 : decode method_3_code 1 = .ok (.ifCond .ne 5, 3) := by decide +kernel
theorem d21_4 : decode method_3_code 4 = .ok (.iload_n 1, 1) := by decide +kernel
theorem d21_5 : decode method_3_code 5 = .ok (.ireturn, 1) := by decide +kernel
theorem d21_6 : decode method_3_code 6 = .ok (.iload_n 0, 1) := by decide +kernel
theorem d21_7 : decode method_3_code 7 = .ok (.iconst 1, 1) := by decide +kernel
theorem d21_8 : decode method_3_code 8 = .ok (.if_icmp .ne 5, 3) := by decide +kernel
theorem d21_11 : decode method_3_code 11 = .ok (.iload_n 2, 1) := by decide +kernel
theorem d21_12 : decode method_3_code 12 = .ok (.ireturn, 1) := by decide +kernel
theorem d21_13 : decode method_3_code 13 = .ok (.iload_n 0, 1) := by decide +kernel
theorem d21_14 : decode method_3_code 14 = .ok (.iconst 2, 1) := by decide +kernel
theorem d21_15 : decode method_3_code 15 = .ok (.if_icmp .ne 5, 3) := by decide +kernel
theorem d21_18 : decode method_3_code 18 = .ok (.iload_n 3, 1) := by decide +kernel
theorem d21_19 : decode method_3_code 19 = .ok (.ireturn, 1) := by decide +kernel
theorem d21_20 : decode method_3_code 20 = .ok (.iload_n 0, 1) := by decide +kernel
theorem d21_21 : decode method_3_code 21 = .ok (.iconst 3, 1) := by decide +kernel
theorem d21_22 : decode method_3_code 22 = .ok (.if_icmp .ne 6, 3) := by decide +kernel
theorem d21_25 : decode method_3_code 25 = .ok (.iload 4, 2) := by decide +kernel
theorem d21_27 : decode method_3_code 27 = .ok (.ireturn, 1) := by decide +kernel
theorem d21_28 : decode method_3_code 28 = .ok (.iconst (-1), 1) := by decide +kernel
theorem d21_29 : decode method_3_code 29 = .ok (.ireturn, 1) := by decide +kernel
theorem ef_21_26 (m : MethodId) (x0 : Int32) (x1 : Int32) (x2 : Int32) (x3 : Int32) (x4 : Int32) : entryFrame m #[(.int x0), (.int x1), (.int x2), (.int x3), (.int x4)] 5 = mkF m 0 #[.val (.int x0), .val (.int x1), .val (.int x2), .val (.int x3), .val (.int x4)] [] := by first | (simp [entryFrame, mkF, argsToLocals, Value.category]; done) | rfl
def Q21_26 (Z : State) (i1 : Int32) (i2 : Int32) (i3 : Int32) (i4 : Int32) (i5 : Int32) (h0 : Heap) (n0 : Nat) (v : Option Value) (h : Heap) (L : List Loc) : Prop := ∃ (z_1 : Int32), v = some (.int z_1) ∧ Fr n0 L ∧ h = h0 ∧ z_1 = (if i1 = (0 : Int32) then i2 else (if i1 = (1 : Int32) then i3 else (if i1 = (2 : Int32) then i4 else (if i1 = (3 : Int32) then i5 else (-1 : Int32)))))
set_option maxRecDepth 65536 in
set_option maxHeartbeats 40000000 in
theorem rm21_26 (l : Launch) (Z : State) (a0 : Array Value) (hw : ∀ d ∈ tables_1, d.before a0 Z = true) (ws : List Jvm.Cond) (i1 : Int32) (i2 : Int32) (i3 : Int32) (i4 : Int32) (i5 : Int32) (h0 : Heap) (n0 : Nat) (Z0 : n0 ≤ h0.size) (hy0 : ¬ (i1 < (-1 : Int32))) (hy1 : i1 < (4 : Int32))  :
    MetFree l (⟨"com/example/qopa/qopa/model/ModelBuilderRenumberActionsPinLaw", "expected", "(IIIII)I"⟩ : MethodName) (head1 (Jvm.Cond.code (⟨"com/example/qopa/qopa/model/ModelBuilderRenumberActionsPinLaw", "expected", "(IIIII)I"⟩ : MethodName) method_3_code 5 (some .int) :: ws) ({ frames := 0, cells := 0, slots := 0, locals := 0 } : Room)) (fun a U => a = #[(.int i1), (.int i2), (.int i3), (.int i4), (.int i5)] ∧ Z.Warmed39 U.vm ∧ U.heap = h0) (fun _ _ _ _ _ => True) (fun _ U o U' => ∃ v L, o = .returned v ∧ Q21_26 Z i1 i2 i3 i4 i5 h0 n0 v U'.heap L ∧ FrameEnd U o U' L ({ frames := 0, cells := 0, slots := 0, locals := 0 } : Room).cells ({ frames := 0, cells := 0, slots := 0, locals := 0 } : Room).slots) := by
  refine own_body (plainFor_of_name pn_0) ?_
  intro p e s m below meth c s₁ G hx hby hml hZ hown hnm hret X0 e0 step fin
  replace hown : s.vm.findClass "com/example/qopa/qopa/model/ModelBuilderRenumberActionsPinLaw" = some m.cls := hown
  replace hnm : meth.name = "expected" := hnm
  replace hret : meth.sig.returnType = some .int := hret
  replace hml : c.maxLocals = 5 := hml
  have N0 := Fr.nil n0
  refine step (s₁.setTop (mkF m 0 #[.val (.int i1), .val (.int i2), .val (.int i3), .val (.int i4), .val (.int i5)] [])) (fun t k => castTop (ef_21_26 m i1 i2 i3 i4 i5) k) ?_
  refine step (s₁.setTop (mkF m 1 #[.val (.int i1), .val (.int i2), .val (.int i3), .val (.int i4), .val (.int i5)] [(.int i1)])) (fun t k => XS.iloadN X0.here hx rfl (hb hby d21_0) rfl k) ?_
  by_cases hc1_2 : i1 = (0 : Int32)
  · -- 1 True
    refine step (s₁.setTop (mkF m 4 #[.val (.int i1), .val (.int i2), .val (.int i3), .val (.int i4), .val (.int i5)] [])) (fun t k => XS.ifNo X0.here hx rfl (hb hby d21_1) rfl ((if0 _ _).trans (teq hc1_2).2) k) ?_
    refine step (s₁.setTop (mkF m 5 #[.val (.int i1), .val (.int i2), .val (.int i3), .val (.int i4), .val (.int i5)] [(.int i2)])) (fun t k => XS.iloadN X0.here hx rfl (hb hby d21_4) rfl k) ?_
    refine fin (v := some (.int i2)) X0 (fun h => by cases h) ?_ (by decide) (by decide) (fun fs hr => retI X0 hx hret (hb hby d21_5) hr)
    show Q21_26 Z i1 i2 i3 i4 i5 h0 n0 (some (.int i2)) s₁.heap _
    rw [e0]
    exact ⟨i2, rfl, N0, rfl, (by simp only [if_pos hc1_2, if_true, if_false] <;> rfl)⟩
  · -- 1 False
    refine step (s₁.setTop (mkF m 6 #[.val (.int i1), .val (.int i2), .val (.int i3), .val (.int i4), .val (.int i5)] [])) (fun t k => XS.ifYes X0.here hx rfl (pc0 := 1) (pc' := 6) rfl (hb hby d21_1) rfl ((if0 _ _).trans (feq hc1_2).2) (by decide) (by decide) k) ?_
    refine step (s₁.setTop (mkF m 7 #[.val (.int i1), .val (.int i2), .val (.int i3), .val (.int i4), .val (.int i5)] [(.int i1)])) (fun t k => XS.iloadN X0.here hx rfl (hb hby d21_6) rfl k) ?_
    refine step (s₁.setTop (mkF m 8 #[.val (.int i1), .val (.int i2), .val (.int i3), .val (.int i4), .val (.int i5)] [(.int (1 : Int32)), (.int i1)])) (fun t k => XS.iconst X0.here hx rfl (hb hby d21_7) k) ?_
    by_cases hc8_3 : i1 = (1 : Int32)
    · -- 8 True
      refine step (s₁.setTop (mkF m 11 #[.val (.int i1), .val (.int i2), .val (.int i3), .val (.int i4), .val (.int i5)] [])) (fun t k => XS.icmpNo X0.here hx rfl (hb hby d21_8) rfl (teq hc8_3).2 k) ?_
      refine step (s₁.setTop (mkF m 12 #[.val (.int i1), .val (.int i2), .val (.int i3), .val (.int i4), .val (.int i5)] [(.int i3)])) (fun t k => XS.iloadN X0.here hx rfl (hb hby d21_11) rfl k) ?_
      refine fin (v := some (.int i3)) X0 (fun h => by cases h) ?_ (by decide) (by decide) (fun fs hr => retI X0 hx hret (hb hby d21_12) hr)
      show Q21_26 Z i1 i2 i3 i4 i5 h0 n0 (some (.int i3)) s₁.heap _
      rw [e0]
      exact ⟨i3, rfl, N0, rfl, (by simp only [if_neg hc1_2, if_pos hc8_3, if_true, if_false] <;> rfl)⟩
    · -- 8 False
      refine step (s₁.setTop (mkF m 13 #[.val (.int i1), .val (.int i2), .val (.int i3), .val (.int i4), .val (.int i5)] [])) (fun t k => XS.icmpYes X0.here hx rfl (pc0 := 8) (pc' := 13) rfl (hb hby d21_8) rfl (feq hc8_3).2 (by decide) (by decide) k) ?_
      refine step (s₁.setTop (mkF m 14 #[.val (.int i1), .val (.int i2), .val (.int i3), .val (.int i4), .val (.int i5)] [(.int i1)])) (fun t k => XS.iloadN X0.here hx rfl (hb hby d21_13) rfl k) ?_
      refine step (s₁.setTop (mkF m 15 #[.val (.int i1), .val (.int i2), .val (.int i3), .val (.int i4), .val (.int i5)] [(.int (2 : Int32)), (.int i1)])) (fun t k => XS.iconst X0.here hx rfl (hb hby d21_14) k) ?_
      by_cases hc15_4 : i1 = (2 : Int32)
      · -- 15 True
        refine step (s₁.setTop (mkF m 18 #[.val (.int i1), .val (.int i2), .val (.int i3), .val (.int i4), .val (.int i5)] [])) (fun t k => XS.icmpNo X0.here hx rfl (hb hby d21_15) rfl (teq hc15_4).2 k) ?_
        refine step (s₁.setTop (mkF m 19 #[.val (.int i1), .val (.int i2), .val (.int i3), .val (.int i4), .val (.int i5)] [(.int i4)])) (fun t k => XS.iloadN X0.here hx rfl (hb hby d21_18) rfl k) ?_
        refine fin (v := some (.int i4)) X0 (fun h => by cases h) ?_ (by decide) (by decide) (fun fs hr => retI X0 hx hret (hb hby d21_19) hr)
        show Q21_26 Z i1 i2 i3 i4 i5 h0 n0 (some (.int i4)) s₁.heap _
        rw [e0]
        exact ⟨i4, rfl, N0, rfl, (by simp only [if_neg hc1_2, if_neg hc8_3, if_pos hc15_4, if_true, if_false] <;> rfl)⟩
      · -- 15 False
        refine step (s₁.setTop (mkF m 20 #[.val (.int i1), .val (.int i2), .val (.int i3), .val (.int i4), .val (.int i5)] [])) (fun t k => XS.icmpYes X0.here hx rfl (pc0 := 15) (pc' := 20) rfl (hb hby d21_15) rfl (feq hc15_4).2 (by decide) (by decide) k) ?_
        refine step (s₁.setTop (mkF m 21 #[.val (.int i1), .val (.int i2), .val (.int i3), .val (.int i4), .val (.int i5)] [(.int i1)])) (fun t k => XS.iloadN X0.here hx rfl (hb hby d21_20) rfl k) ?_
        refine step (s₁.setTop (mkF m 22 #[.val (.int i1), .val (.int i2), .val (.int i3), .val (.int i4), .val (.int i5)] [(.int (3 : Int32)), (.int i1)])) (fun t k => XS.iconst X0.here hx rfl (hb hby d21_21) k) ?_
        by_cases hc22_5 : i1 = (3 : Int32)
        · -- 22 True
          refine step (s₁.setTop (mkF m 25 #[.val (.int i1), .val (.int i2), .val (.int i3), .val (.int i4), .val (.int i5)] [])) (fun t k => XS.icmpNo X0.here hx rfl (hb hby d21_22) rfl (teq hc22_5).2 k) ?_
          refine step (s₁.setTop (mkF m 27 #[.val (.int i1), .val (.int i2), .val (.int i3), .val (.int i4), .val (.int i5)] [(.int i5)])) (fun t k => XS.iload X0.here hx rfl (hb hby d21_25) rfl k) ?_
          refine fin (v := some (.int i5)) X0 (fun h => by cases h) ?_ (by decide) (by decide) (fun fs hr => retI X0 hx hret (hb hby d21_27) hr)
          show Q21_26 Z i1 i2 i3 i4 i5 h0 n0 (some (.int i5)) s₁.heap _
          rw [e0]
          exact ⟨i5, rfl, N0, rfl, (by simp only [if_neg hc1_2, if_neg hc8_3, if_neg hc15_4, if_pos hc22_5, if_true, if_false] <;> rfl)⟩
        · -- 22 False
          refine step (s₁.setTop (mkF m 28 #[.val (.int i1), .val (.int i2), .val (.int i3), .val (.int i4), .val (.int i5)] [])) (fun t k => XS.icmpYes X0.here hx rfl (pc0 := 22) (pc' := 28) rfl (hb hby d21_22) rfl (feq hc22_5).2 (by decide) (by decide) k) ?_
          refine step (s₁.setTop (mkF m 29 #[.val (.int i1), .val (.int i2), .val (.int i3), .val (.int i4), .val (.int i5)] [(.int (-1 : Int32))])) (fun t k => XS.iconst X0.here hx rfl (hb hby d21_28) k) ?_
          refine fin (v := some (.int (-1 : Int32))) X0 (fun h => by cases h) ?_ (by decide) (by decide) (fun fs hr => retI X0 hx hret (hb hby d21_29) hr)
          show Q21_26 Z i1 i2 i3 i4 i5 h0 n0 (some (.int (-1 : Int32))) s₁.heap _
          rw [e0]
          exact ⟨(-1 : Int32), rfl, N0, rfl, (by simp only [if_neg hc1_2, if_neg hc8_3, if_neg hc15_4, if_neg hc22_5, if_true, if_false] <;> rfl)⟩
theorem own_plain26 (p0 : Int32) (p1 : Int32) (p2 : Int32) (p3 : Int32) (p4 : Int32) (aM : Addr) (aI : Addr) (q0 : Int32) (y1_45 : Int32) (z_1_78 : Int32) (hq0 : (((p0 &&& (7 : Int32)) % (5 : Int32)) - (1 : Int32)) = q0) (hy1_45 : y1_45 = (if q0 = (-1 : Int32) then q0 else (List.getD [p1, p2, p3, p4] (q0).toNatClampNeg (0 : Int32)))) (hz_1_78 : z_1_78 = (if q0 = (0 : Int32) then p1 else (if q0 = (1 : Int32) then p2 else (if q0 = (2 : Int32) then p3 else (if q0 = (3 : Int32) then p4 else (-1 : Int32)))))) : y1_45 = z_1_78 := by
  have h5 := own_five (own_pick _ _ hq0)
  clear hq0
  subst hy1_45 hz_1_78
  rcases h5 with rfl | rfl | rfl | rfl | rfl <;> rfl
theorem ef_20_28 (m : MethodId) (x0 : Addr) : entryFrame m #[(.ref x0), (.int (1 : Int32))] 2 = mkF m 0 #[.val (.ref x0), .val (.int (1 : Int32))] [] := by first | (simp [entryFrame, mkF, argsToLocals, Value.category]; done) | rfl
def Q20_28 (Z : State) (o1 : Addr) (o2 : Addr) (kc1 : ClassId) (i2 : Int32) (i3 : Int32) (i4 : Int32) (h0 : Heap) (n0 : Nat) (v : Option Value) (h : Heap) (L : List Loc) : Prop := v = some (.int i3) ∧ Fr n0 L ∧ h = h0
set_option maxRecDepth 65536 in
set_option maxHeartbeats 40000000 in
theorem rm20_28 (l : Launch) (Z : State) (a0 : Array Value) (hw : ∀ d ∈ tables_1, d.before a0 Z = true) (ws : List Jvm.Cond) (o1 : Addr) (o2 : Addr) (kc1 : ClassId) (i2 : Int32) (i3 : Int32) (i4 : Int32) (h0 : Heap) (n0 : Nat) (Z0 : n0 ≤ h0.size) (Pm0 : Exa Z h0 o1 "com/example/qopa/qopa/model/Model") (Pm1 : Fld Z h0 o1 "com/example/qopa/qopa/model/Model" "action" "[I" (.ref o2)) (Pm2 : Arv Z h0 o2 kc1 .int (3 : Int32) [(.int i2), (.int i3), (.int i4)] (.int (0 : Int32))) (gn_o1 : n0 ≤ o1) (ne_o1_o2 : o1 ≠ o2) (gn_o2 : n0 ≤ o2)  :
    MetFree l (⟨"com/example/qopa/qopa/model/Model", "action", "(I)I"⟩ : MethodName) (head1 (Jvm.Cond.code (⟨"com/example/qopa/qopa/model/Model", "action", "(I)I"⟩ : MethodName) prog_71_method_17_code 2 (some .int) :: ws) ({ frames := 0, cells := 0, slots := 0, locals := 0 } : Room)) (fun a U => a = #[(.ref o1), (.int (1 : Int32))] ∧ Z.Warmed39 U.vm ∧ U.heap = h0) (fun _ _ _ _ _ => True) (fun _ U o U' => ∃ v L, o = .returned v ∧ Q20_28 Z o1 o2 kc1 i2 i3 i4 h0 n0 v U'.heap L ∧ FrameEnd U o U' L ({ frames := 0, cells := 0, slots := 0, locals := 0 } : Room).cells ({ frames := 0, cells := 0, slots := 0, locals := 0 } : Room).slots) := by
  refine own_body (plainFor_of_name pn_4) ?_
  intro p e s m below meth c s₁ G hx hby hml hZ hown hnm hret X0 e0 step fin
  replace hown : s.vm.findClass "com/example/qopa/qopa/model/Model" = some m.cls := hown
  replace hnm : meth.name = "action" := hnm
  replace hret : meth.sig.returnType = some .int := hret
  replace hml : c.maxLocals = 2 := hml
  have N0 := Fr.nil n0
  refine step (s₁.setTop (mkF m 0 #[.val (.ref o1), .val (.int (1 : Int32))] [])) (fun t k => castTop (ef_20_28 m o1) k) ?_
  refine step (s₁.setTop (mkF m 1 #[.val (.ref o1), .val (.int (1 : Int32))] [(.ref o1)])) (fun t k => XS.aloadN X0.here hx rfl (hb hby d20_0) rfl rfl k) ?_
  obtain ⟨T1, X1, e1, st1⟩ := getF X0 hx hZ hown (host := "") (Or.inl (hw _ (List.mem_of_getElem? (i := 138) rfl))) Via.refl e0 Pm1 (g := (mkF m 1 #[.val (.ref o1), .val (.int (1 : Int32))] [(.ref o1)])) rfl rfl (hb hby d20_1)
  refine step (T1.setTop (mkF m 4 #[.val (.ref o1), .val (.int (1 : Int32))] [(.ref o2)])) (fun t k => st1 t k) ?_
  refine step (T1.setTop (mkF m 5 #[.val (.ref o1), .val (.int (1 : Int32))] [(.int (1 : Int32)), (.ref o2)])) (fun t k => XS.iloadN X1.here hx rfl (hb hby d20_4) rfl k) ?_
  obtain ⟨cl2, Ar2, q2, S2, N2n, H2, G2⟩ := id Pm2
  have hin2 : ¬ ((1 : Int32) < 0 ∨ cl2.slots.size ≤ ((1 : Int32)).toNatClampNeg) := inb_of S2 ⟨by decide, by decide⟩
  have hat2 : cl2.slots[((1 : Int32)).toNatClampNeg]? = some (.int i3) := H2.at hin2 rfl
  refine step (T1.setTop (mkF m 6 #[.val (.ref o1), .val (.int (1 : Int32))] [(.int i3)])) (fun t k => X1.iaload hx (j := (1 : Int32)) (v := (.int i3)) (by rw [e1]; exact Ar2.1) (State.isArrayOf_alike hZ.alike Ar2.2.1) Ar2.2.2 hin2 hat2 (g := (mkF m 5 #[.val (.ref o1), .val (.int (1 : Int32))] [(.int (1 : Int32)), (.ref o2)])) rfl rfl (hb hby d20_5) t k) ?_
  refine fin (v := some (.int i3)) X1 (fun h => by cases h) ?_ (by decide) (by decide) (fun fs hr => retI X1 hx hret (hb hby d20_6) hr)
  show Q20_28 Z o1 o2 kc1 i2 i3 i4 h0 n0 (some (.int i3)) T1.heap _
  rw [e1]
  exact ⟨rfl, N0, rfl⟩
theorem own_plain28 (p0 : Int32) (p1 : Int32) (p2 : Int32) (p3 : Int32) (p4 : Int32) (aM : Addr) (aI : Addr) (q1 : Int32) (y2_45 : Int32) (z_1_81 : Int32) (hq1 : (((((p0.toUInt32 >>> ((3 : Int32) &&& 31).toUInt32).toInt32) &&& (7 : Int32)) % (5 : Int32)) - (1 : Int32)) = q1) (hy2_45 : y2_45 = (if q1 = (-1 : Int32) then q1 else (List.getD [p1, p2, p3, p4] (q1).toNatClampNeg (0 : Int32)))) (hz_1_81 : z_1_81 = (if q1 = (0 : Int32) then p1 else (if q1 = (1 : Int32) then p2 else (if q1 = (2 : Int32) then p3 else (if q1 = (3 : Int32) then p4 else (-1 : Int32)))))) : y2_45 = z_1_81 := by
  have h5 := own_five (own_pick _ _ hq1)
  clear hq1
  subst hy2_45 hz_1_81
  rcases h5 with rfl | rfl | rfl | rfl | rfl <;> rfl
theorem ef_20_30 (m : MethodId) (x0 : Addr) : entryFrame m #[(.ref x0), (.int (2 : Int32))] 2 = mkF m 0 #[.val (.ref x0), .val (.int (2 : Int32))] [] := by first | (simp [entryFrame, mkF, argsToLocals, Value.category]; done) | rfl
def Q20_30 (Z : State) (o1 : Addr) (o2 : Addr) (kc1 : ClassId) (i2 : Int32) (i3 : Int32) (i4 : Int32) (h0 : Heap) (n0 : Nat) (v : Option Value) (h : Heap) (L : List Loc) : Prop := v = some (.int i4) ∧ Fr n0 L ∧ h = h0
set_option maxRecDepth 65536 in
set_option maxHeartbeats 40000000 in
theorem rm20_30 (l : Launch) (Z : State) (a0 : Array Value) (hw : ∀ d ∈ tables_1, d.before a0 Z = true) (ws : List Jvm.Cond) (o1 : Addr) (o2 : Addr) (kc1 : ClassId) (i2 : Int32) (i3 : Int32) (i4 : Int32) (h0 : Heap) (n0 : Nat) (Z0 : n0 ≤ h0.size) (Pm0 : Exa Z h0 o1 "com/example/qopa/qopa/model/Model") (Pm1 : Fld Z h0 o1 "com/example/qopa/qopa/model/Model" "action" "[I" (.ref o2)) (Pm2 : Arv Z h0 o2 kc1 .int (3 : Int32) [(.int i2), (.int i3), (.int i4)] (.int (0 : Int32))) (gn_o1 : n0 ≤ o1) (ne_o1_o2 : o1 ≠ o2) (gn_o2 : n0 ≤ o2)  :
    MetFree l (⟨"com/example/qopa/qopa/model/Model", "action", "(I)I"⟩ : MethodName) (head1 (Jvm.Cond.code (⟨"com/example/qopa/qopa/model/Model", "action", "(I)I"⟩ : MethodName) prog_71_method_17_code 2 (some .int) :: ws) ({ frames := 0, cells := 0, slots := 0, locals := 0 } : Room)) (fun a U => a = #[(.ref o1), (.int (2 : Int32))] ∧ Z.Warmed39 U.vm ∧ U.heap = h0) (fun _ _ _ _ _ => True) (fun _ U o U' => ∃ v L, o = .returned v ∧ Q20_30 Z o1 o2 kc1 i2 i3 i4 h0 n0 v U'.heap L ∧ FrameEnd U o U' L ({ frames := 0, cells := 0, slots := 0, locals := 0 } : Room).cells ({ frames := 0, cells := 0, slots := 0, locals := 0 } : Room).slots) := by
  refine own_body (plainFor_of_name pn_4) ?_
  intro p e s m below meth c s₁ G hx hby hml hZ hown hnm hret X0 e0 step fin
  replace hown : s.vm.findClass "com/example/qopa/qopa/model/Model" = some m.cls := hown
  replace hnm : meth.name = "action" := hnm
  replace hret : meth.sig.returnType = some .int := hret
  replace hml : c.maxLocals = 2 := hml
  have N0 := Fr.nil n0
  refine step (s₁.setTop (mkF m 0 #[.val (.ref o1), .val (.int (2 : Int32))] [])) (fun t k => castTop (ef_20_30 m o1) k) ?_
  refine step (s₁.setTop (mkF m 1 #[.val (.ref o1), .val (.int (2 : Int32))] [(.ref o1)])) (fun t k => XS.aloadN X0.here hx rfl (hb hby d20_0) rfl rfl k) ?_
  obtain ⟨T1, X1, e1, st1⟩ := getF X0 hx hZ hown (host := "") (Or.inl (hw _ (List.mem_of_getElem? (i := 138) rfl))) Via.refl e0 Pm1 (g := (mkF m 1 #[.val (.ref o1), .val (.int (2 : Int32))] [(.ref o1)])) rfl rfl (hb hby d20_1)
  refine step (T1.setTop (mkF m 4 #[.val (.ref o1), .val (.int (2 : Int32))] [(.ref o2)])) (fun t k => st1 t k) ?_
  refine step (T1.setTop (mkF m 5 #[.val (.ref o1), .val (.int (2 : Int32))] [(.int (2 : Int32)), (.ref o2)])) (fun t k => XS.iloadN X1.here hx rfl (hb hby d20_4) rfl k) ?_
  obtain ⟨cl2, Ar2, q2, S2, N2n, H2, G2⟩ := id Pm2
  have hin2 : ¬ ((2 : Int32) < 0 ∨ cl2.slots.size ≤ ((2 : Int32)).toNatClampNeg) := inb_of S2 ⟨by decide, by decide⟩
  have hat2 : cl2.slots[((2 : Int32)).toNatClampNeg]? = some (.int i4) := H2.at hin2 rfl
  refine step (T1.setTop (mkF m 6 #[.val (.ref o1), .val (.int (2 : Int32))] [(.int i4)])) (fun t k => X1.iaload hx (j := (2 : Int32)) (v := (.int i4)) (by rw [e1]; exact Ar2.1) (State.isArrayOf_alike hZ.alike Ar2.2.1) Ar2.2.2 hin2 hat2 (g := (mkF m 5 #[.val (.ref o1), .val (.int (2 : Int32))] [(.int (2 : Int32)), (.ref o2)])) rfl rfl (hb hby d20_5) t k) ?_
  refine fin (v := some (.int i4)) X1 (fun h => by cases h) ?_ (by decide) (by decide) (fun fs hr => retI X1 hx hret (hb hby d20_6) hr)
  show Q20_30 Z o1 o2 kc1 i2 i3 i4 h0 n0 (some (.int i4)) T1.heap _
  rw [e1]
  exact ⟨rfl, N0, rfl⟩
theorem own_plain30 (p0 : Int32) (p1 : Int32) (p2 : Int32) (p3 : Int32) (p4 : Int32) (aM : Addr) (aI : Addr) (q2 : Int32) (y3_45 : Int32) (z_1_84 : Int32) (hq2 : (((((p0.toUInt32 >>> ((6 : Int32) &&& 31).toUInt32).toInt32) &&& (7 : Int32)) % (5 : Int32)) - (1 : Int32)) = q2) (hy3_45 : y3_45 = (if q2 = (-1 : Int32) then q2 else (List.getD [p1, p2, p3, p4] (q2).toNatClampNeg (0 : Int32)))) (hz_1_84 : z_1_84 = (if q2 = (0 : Int32) then p1 else (if q2 = (1 : Int32) then p2 else (if q2 = (2 : Int32) then p3 else (if q2 = (3 : Int32) then p4 else (-1 : Int32)))))) : y3_45 = z_1_84 := by
  have h5 := own_five (own_pick _ _ hq2)
  clear hq2
  subst hy3_45 hz_1_84
  rcases h5 with rfl | rfl | rfl | rfl | rfl <;> rfl
theorem ef_0 (m : MethodId) (x0 : Int32) (x1 : Int32) (x2 : Int32) (x3 : Int32) (x4 : Int32) : entryFrame m #[(.int x0), (.int x1), (.int x2), (.int x3), (.int x4)] maxLocals = mkF m 0 #[.val (.int x0), .val (.int x1), .val (.int x2), .val (.int x3), .val (.int x4), .unset, .unset, .unset, .unset, .unset, .unset, .unset] [] := by first | (simp [entryFrame, mkF, argsToLocals, Value.category, maxLocals]; done) | rfl
def Q0 (Z : State) (p0 p1 p2 p3 p4 : Int32) (aM aI : Addr) (h0 : Heap) (n0 : Nat) (v : Option Value) (h : Heap) (L : List Loc) : Prop := v = some (.int 1) ∧ Fr n0 L
set_option maxRecDepth 65536 in
set_option maxHeartbeats 40000000 in
theorem rm0 (l : Launch) (Z : State) (a0 : Array Value) (hw : ∀ d ∈ tables_1, d.before a0 Z = true) (ws : List Jvm.Cond) (p0 p1 p2 p3 p4 : Int32) (aM aI : Addr) (h0 : Heap) (n0 : Nat) (Z0 : n0 ≤ h0.size) (S_aM : Sta Z h0 "com/example/qopa/qopa/model/Model$Kind" "MDP" "Lcom/example/qopa/qopa/model/Model$Kind;" (.ref aM)) (E_aM : Exa Z h0 aM "com/example/qopa/qopa/model/Model$Kind") (S_aI : Sta Z h0 "com/example/qopa/qopa/model/Model$Kind" "IDTMC" "Lcom/example/qopa/qopa/model/Model$Kind;" (.ref aI)) (E_aI : Exa Z h0 aI "com/example/qopa/qopa/model/Model$Kind") (ne_MI : aM ≠ aI) :
    MetFree l x (head1 (Jvm.Cond.code x code maxLocals ret :: ws) room_1) (fun a U => a = #[(.int p0), (.int p1), (.int p2), (.int p3), (.int p4)] ∧ Z.Warmed39 U.vm ∧ U.heap = h0) (fun _ _ _ _ _ => True) (fun _ U o U' => ∃ v L, o = .returned v ∧ Q0 Z p0 p1 p2 p3 p4 aM aI h0 n0 v U'.heap L ∧ FrameEnd U o U' L room_1.cells room_1.slots) := by
  refine own_body (plainFor_of_name pn_0) ?_
  intro p e s m below meth c s₁ G hx hby hml hZ hown hnm hret X0 e0 step fin
  replace hown : s.vm.findClass "com/example/qopa/qopa/model/ModelBuilderRenumberActionsPinLaw" = some m.cls := hown
  replace hnm : meth.name = "law" := hnm
  replace hret : meth.sig.returnType = some .boolean := hret
  replace hml : c.maxLocals = 12 := hml
  have N0 := Fr.nil n0
  refine step (s₁.setTop (mkF m 0 #[.val (.int p0), .val (.int p1), .val (.int p2), .val (.int p3), .val (.int p4), .unset, .unset, .unset, .unset, .unset, .unset, .unset] [])) (fun t k => castTop (ef_0 m p0 p1 p2 p3 p4) k) ?_
  refine step (s₁.setTop (mkF m 1 #[.val (.int p0), .val (.int p1), .val (.int p2), .val (.int p3), .val (.int p4), .unset, .unset, .unset, .unset, .unset, .unset, .unset] [(.int p0)])) (fun t k => XS.iloadN X0.here hx rfl (hb hby at_0) rfl k) ?_
  obtain ⟨_, _, ⟨T1, L1, k1, n1⟩, -, X1, ⟨Lc1, hQ1, l1, y1, z1⟩, st1⟩ := Jvm.LawKit.callS X0 hx (y := (⟨"com/example/qopa/qopa/model/ModelBuilderRenumberActionsPinLaw", "pickAction", "(I)I"⟩ : MethodName)) hown (mvT hZ (hw _ (List.mem_of_getElem? (i := 0) rfl))) (mvT hZ (hw _ (List.mem_of_getElem? (i := 1) rfl))) (mvT hZ (hw _ (List.mem_of_getElem? (i := 2) rfl))) (mvT hZ (hw _ (List.mem_of_getElem? (i := 3) rfl))) (by decide) (backOf (W := 0) (rm1_1 l Z a0 hw [] p0 h0 n0 Z0 ) hZ (hw _ (List.mem_of_getElem? (i := 3) rfl)) (hw _ (List.mem_of_getElem? (i := 2) rfl)) (by decide) (by decide)) (g := (mkF m 1 #[.val (.int p0), .val (.int p1), .val (.int p2), .val (.int p3), .val (.int p4), .unset, .unset, .unset, .unset, .unset, .unset, .unset] [(.int p0)])) rfl (by rw [hml]; rfl) (argsL := [(.int p0)]) (rest := []) (lenOf pd_0 rfl) rfl (by show 2 * 0 + _ ≤ _; exact Nat.le_of_eq rfl) (hb hby at_1) (fun _ _ => ⟨rfl, e0, (by decide : 0 + 0 ≤ _), (by decide : 0 + 0 ≤ _)⟩)
  dsimp only [Pt.U, Pt.locs, Pt.cells, Pt.slots] at X1 l1 y1 z1 st1 hQ1
  subst l1 y1 z1
  obtain ⟨rfl, N1q, e1q⟩ := hQ1
  have N1 := Fr.app N0 N1q
  refine step (T1.setTop (mkF m 4 #[.val (.int p0), .val (.int p1), .val (.int p2), .val (.int p3), .val (.int p4), .unset, .unset, .unset, .unset, .unset, .unset, .unset] [(.int (((p0 &&& (7 : Int32)) % (5 : Int32)) - (1 : Int32)))])) (fun t k => st1 t k) ?_
  generalize hq0 : (((p0 &&& (7 : Int32)) % (5 : Int32)) - (1 : Int32)) = q0
  obtain ⟨lo_a0, hi_a0⟩ := own_pick _ _ hq0
  refine step (T1.setTop (mkF m 6 #[.val (.int p0), .val (.int p1), .val (.int p2), .val (.int p3), .val (.int p4), .val (.int q0), .unset, .unset, .unset, .unset, .unset, .unset] [])) (fun t k => XS.istore X1.here hx rfl (hb hby at_4) rfl (l' := #[.val (.int p0), .val (.int p1), .val (.int p2), .val (.int p3), .val (.int p4), .val (.int q0), .unset, .unset, .unset, .unset, .unset, .unset]) rfl k) ?_
  refine step (T1.setTop (mkF m 7 #[.val (.int p0), .val (.int p1), .val (.int p2), .val (.int p3), .val (.int p4), .val (.int q0), .unset, .unset, .unset, .unset, .unset, .unset] [(.int p0)])) (fun t k => XS.iloadN X1.here hx rfl (hb hby at_6) rfl k) ?_
  refine step (T1.setTop (mkF m 8 #[.val (.int p0), .val (.int p1), .val (.int p2), .val (.int p3), .val (.int p4), .val (.int q0), .unset, .unset, .unset, .unset, .unset, .unset] [(.int (3 : Int32)), (.int p0)])) (fun t k => XS.iconst X1.here hx rfl (hb hby at_7) k) ?_
  refine step (T1.setTop (mkF m 9 #[.val (.int p0), .val (.int p1), .val (.int p2), .val (.int p3), .val (.int p4), .val (.int q0), .unset, .unset, .unset, .unset, .unset, .unset] [(.int ((p0.toUInt32 >>> ((3 : Int32) &&& 31).toUInt32).toInt32))])) (fun t k => XS.iushr X1.here hx rfl (hb hby at_8) rfl k) ?_
  obtain ⟨_, _, ⟨T2, L2, k2, n2⟩, -, X2, ⟨Lc2, hQ2, l2, y2, z2⟩, st2⟩ := Jvm.LawKit.callS X1 hx (y := (⟨"com/example/qopa/qopa/model/ModelBuilderRenumberActionsPinLaw", "pickAction", "(I)I"⟩ : MethodName)) hown (mvT hZ (hw _ (List.mem_of_getElem? (i := 0) rfl))) (mvT hZ (hw _ (List.mem_of_getElem? (i := 1) rfl))) (mvT hZ (hw _ (List.mem_of_getElem? (i := 2) rfl))) (mvT hZ (hw _ (List.mem_of_getElem? (i := 3) rfl))) (by decide) (backOf (W := 0) (rm1_1 l Z a0 hw [] ((p0.toUInt32 >>> ((3 : Int32) &&& 31).toUInt32).toInt32) h0 n0 Z0 ) hZ (hw _ (List.mem_of_getElem? (i := 3) rfl)) (hw _ (List.mem_of_getElem? (i := 2) rfl)) (by decide) (by decide)) (g := (mkF m 9 #[.val (.int p0), .val (.int p1), .val (.int p2), .val (.int p3), .val (.int p4), .val (.int q0), .unset, .unset, .unset, .unset, .unset, .unset] [(.int ((p0.toUInt32 >>> ((3 : Int32) &&& 31).toUInt32).toInt32))])) rfl (by rw [hml]; rfl) (argsL := [(.int ((p0.toUInt32 >>> ((3 : Int32) &&& 31).toUInt32).toInt32))]) (rest := []) (lenOf pd_0 rfl) rfl (by show 2 * 0 + _ ≤ _; exact Nat.le_of_eq rfl) (hb hby at_9) (fun _ _ => ⟨rfl, e1q, (by decide : 0 + 0 ≤ _), (by decide : 0 + 0 ≤ _)⟩)
  dsimp only [Pt.U, Pt.locs, Pt.cells, Pt.slots] at X2 l2 y2 z2 st2 hQ2
  subst l2 y2 z2
  obtain ⟨rfl, N2q, e2q⟩ := hQ2
  have N2 := Fr.app N1 N2q
  refine step (T2.setTop (mkF m 12 #[.val (.int p0), .val (.int p1), .val (.int p2), .val (.int p3), .val (.int p4), .val (.int q0), .unset, .unset, .unset, .unset, .unset, .unset] [(.int (((((p0.toUInt32 >>> ((3 : Int32) &&& 31).toUInt32).toInt32) &&& (7 : Int32)) % (5 : Int32)) - (1 : Int32)))])) (fun t k => st2 t k) ?_
  generalize hq1 : (((((p0.toUInt32 >>> ((3 : Int32) &&& 31).toUInt32).toInt32) &&& (7 : Int32)) % (5 : Int32)) - (1 : Int32)) = q1
  obtain ⟨lo_a1, hi_a1⟩ := own_pick _ _ hq1
  refine step (T2.setTop (mkF m 14 #[.val (.int p0), .val (.int p1), .val (.int p2), .val (.int p3), .val (.int p4), .val (.int q0), .val (.int q1), .unset, .unset, .unset, .unset, .unset] [])) (fun t k => XS.istore X2.here hx rfl (hb hby at_12) rfl (l' := #[.val (.int p0), .val (.int p1), .val (.int p2), .val (.int p3), .val (.int p4), .val (.int q0), .val (.int q1), .unset, .unset, .unset, .unset, .unset]) rfl k) ?_
  refine step (T2.setTop (mkF m 15 #[.val (.int p0), .val (.int p1), .val (.int p2), .val (.int p3), .val (.int p4), .val (.int q0), .val (.int q1), .unset, .unset, .unset, .unset, .unset] [(.int p0)])) (fun t k => XS.iloadN X2.here hx rfl (hb hby at_14) rfl k) ?_
  refine step (T2.setTop (mkF m 17 #[.val (.int p0), .val (.int p1), .val (.int p2), .val (.int p3), .val (.int p4), .val (.int q0), .val (.int q1), .unset, .unset, .unset, .unset, .unset] [(.int (6 : Int32)), (.int p0)])) (fun t k => XS.bipush X2.here hx rfl (hb hby at_15) k) ?_
  refine step (T2.setTop (mkF m 18 #[.val (.int p0), .val (.int p1), .val (.int p2), .val (.int p3), .val (.int p4), .val (.int q0), .val (.int q1), .unset, .unset, .unset, .unset, .unset] [(.int ((p0.toUInt32 >>> ((6 : Int32) &&& 31).toUInt32).toInt32))])) (fun t k => XS.iushr X2.here hx rfl (hb hby at_17) rfl k) ?_
  obtain ⟨_, _, ⟨T3, L3, k3, n3⟩, -, X3, ⟨Lc3, hQ3, l3, y3, z3⟩, st3⟩ := Jvm.LawKit.callS X2 hx (y := (⟨"com/example/qopa/qopa/model/ModelBuilderRenumberActionsPinLaw", "pickAction", "(I)I"⟩ : MethodName)) hown (mvT hZ (hw _ (List.mem_of_getElem? (i := 0) rfl))) (mvT hZ (hw _ (List.mem_of_getElem? (i := 1) rfl))) (mvT hZ (hw _ (List.mem_of_getElem? (i := 2) rfl))) (mvT hZ (hw _ (List.mem_of_getElem? (i := 3) rfl))) (by decide) (backOf (W := 0) (rm1_1 l Z a0 hw [] ((p0.toUInt32 >>> ((6 : Int32) &&& 31).toUInt32).toInt32) h0 n0 Z0 ) hZ (hw _ (List.mem_of_getElem? (i := 3) rfl)) (hw _ (List.mem_of_getElem? (i := 2) rfl)) (by decide) (by decide)) (g := (mkF m 18 #[.val (.int p0), .val (.int p1), .val (.int p2), .val (.int p3), .val (.int p4), .val (.int q0), .val (.int q1), .unset, .unset, .unset, .unset, .unset] [(.int ((p0.toUInt32 >>> ((6 : Int32) &&& 31).toUInt32).toInt32))])) rfl (by rw [hml]; rfl) (argsL := [(.int ((p0.toUInt32 >>> ((6 : Int32) &&& 31).toUInt32).toInt32))]) (rest := []) (lenOf pd_0 rfl) rfl (by show 2 * 0 + _ ≤ _; exact Nat.le_of_eq rfl) (hb hby at_18) (fun _ _ => ⟨rfl, e2q, (by decide : 0 + 0 ≤ _), (by decide : 0 + 0 ≤ _)⟩)
  dsimp only [Pt.U, Pt.locs, Pt.cells, Pt.slots] at X3 l3 y3 z3 st3 hQ3
  subst l3 y3 z3
  obtain ⟨rfl, N3q, e3q⟩ := hQ3
  have N3 := Fr.app N2 N3q
  refine step (T3.setTop (mkF m 21 #[.val (.int p0), .val (.int p1), .val (.int p2), .val (.int p3), .val (.int p4), .val (.int q0), .val (.int q1), .unset, .unset, .unset, .unset, .unset] [(.int (((((p0.toUInt32 >>> ((6 : Int32) &&& 31).toUInt32).toInt32) &&& (7 : Int32)) % (5 : Int32)) - (1 : Int32)))])) (fun t k => st3 t k) ?_
  generalize hq2 : (((((p0.toUInt32 >>> ((6 : Int32) &&& 31).toUInt32).toInt32) &&& (7 : Int32)) % (5 : Int32)) - (1 : Int32)) = q2
  obtain ⟨lo_a2, hi_a2⟩ := own_pick _ _ hq2
  refine step (T3.setTop (mkF m 23 #[.val (.int p0), .val (.int p1), .val (.int p2), .val (.int p3), .val (.int p4), .val (.int q0), .val (.int q1), .val (.int q2), .unset, .unset, .unset, .unset] [])) (fun t k => XS.istore X3.here hx rfl (hb hby at_21) rfl (l' := #[.val (.int p0), .val (.int p1), .val (.int p2), .val (.int p3), .val (.int p4), .val (.int q0), .val (.int q1), .val (.int q2), .unset, .unset, .unset, .unset]) rfl k) ?_
  refine step (T3.setTop (mkF m 24 #[.val (.int p0), .val (.int p1), .val (.int p2), .val (.int p3), .val (.int p4), .val (.int q0), .val (.int q1), .val (.int q2), .unset, .unset, .unset, .unset] [(.int (4 : Int32))])) (fun t k => XS.iconst X3.here hx rfl (hb hby at_23) k) ?_
  obtain ⟨T4, h4, k4, X4, e4, E4, A4, st4⟩ := newP X3 hx hZ (hw _ (List.mem_of_getElem? (i := 4) rfl)) e3q (g := (mkF m 24 #[.val (.int p0), .val (.int p1), .val (.int p2), .val (.int p3), .val (.int p4), .val (.int q0), .val (.int q1), .val (.int q2), .unset, .unset, .unset, .unset] [(.int (4 : Int32))])) rfl (hb hby at_24) rfl (by decide) (cap := 4) (by decide) (by decide) (by decide) (by decide)
  obtain ⟨b4, g4⟩ : ∃ z, z = h0.size := ⟨_, rfl⟩
  rw [← g4] at A4 st4
  have ne_aM_b4 : aM ≠ b4 := Nat.ne_of_lt (Nat.lt_of_lt_of_le E_aM.lt (Nat.le_of_eq g4.symm))
  have ne_aI_b4 : aI ≠ b4 := Nat.ne_of_lt (Nat.lt_of_lt_of_le E_aI.lt (Nat.le_of_eq g4.symm))
  have gn_b4 : n0 ≤ b4 := Nat.le_trans Z0 (Nat.le_of_eq g4.symm)
  have sz_b4 : h0.size ≤ b4 := Nat.le_of_eq g4.symm
  have K4 : Keep h0 h4 [] := (Keep.refl h0 []).ext E4
  have V4 : Arv Z h4 b4 k4 .int (4 : Int32) [(.int (0 : Int32)), (.int (0 : Int32)), (.int (0 : Int32)), (.int (0 : Int32))] (.int (0 : Int32)) := (Arv.new A4 (by decide)).pad (pad_rep [] (.int (0 : Int32)) 4)
  refine step (T4.setTop (mkF m 26 #[.val (.int p0), .val (.int p1), .val (.int p2), .val (.int p3), .val (.int p4), .val (.int q0), .val (.int q1), .val (.int q2), .unset, .unset, .unset, .unset] [(.ref b4)])) (fun t k => st4 t k) ?_
  refine step (T4.setTop (mkF m 27 #[.val (.int p0), .val (.int p1), .val (.int p2), .val (.int p3), .val (.int p4), .val (.int q0), .val (.int q1), .val (.int q2), .unset, .unset, .unset, .unset] [(.ref b4), (.ref b4)])) (fun t k => XS.dup X4.here hx rfl (hb hby at_26) rfl rfl k) ?_
  refine step (T4.setTop (mkF m 28 #[.val (.int p0), .val (.int p1), .val (.int p2), .val (.int p3), .val (.int p4), .val (.int q0), .val (.int q1), .val (.int q2), .unset, .unset, .unset, .unset] [(.int (0 : Int32)), (.ref b4), (.ref b4)])) (fun t k => XS.iconst X4.here hx rfl (hb hby at_27) k) ?_
  refine step (T4.setTop (mkF m 29 #[.val (.int p0), .val (.int p1), .val (.int p2), .val (.int p3), .val (.int p4), .val (.int q0), .val (.int q1), .val (.int q2), .unset, .unset, .unset, .unset] [(.int p1), (.int (0 : Int32)), (.ref b4), (.ref b4)])) (fun t k => XS.iloadN X4.here hx rfl (hb hby at_28) rfl k) ?_
  obtain ⟨cl5, Ar5, q5, S5, N5n, H5, G5⟩ := id V4
  have hin5 : ¬ ((0 : Int32) < 0 ∨ cl5.slots.size ≤ ((0 : Int32)).toNatClampNeg) := inb_of S5 ⟨by decide, by decide⟩
  obtain ⟨T5, h5, X5, e5, W5, st5⟩ := stI X4 hx hZ e4 Ar5 (j := (0 : Int32)) hin5 (g := (mkF m 29 #[.val (.int p0), .val (.int p1), .val (.int p2), .val (.int p3), .val (.int p4), .val (.int q0), .val (.int q1), .val (.int q2), .unset, .unset, .unset, .unset] [(.int p1), (.int (0 : Int32)), (.ref b4), (.ref b4)])) rfl rfl (hb hby at_29)
  have N5 := Fr.snoc X5 N3 gn_b4
  have K5 : Keep h0 h5 [] := K4.wr W5 (Or.inr sz_b4)
  have V5 : Arv Z h5 b4 k4 .int (4 : Int32) [(.int p1), (.int (0 : Int32)), (.int (0 : Int32)), (.int (0 : Int32))] (.int (0 : Int32)) := Arv.set Ar5 q5 S5 N5n H5 G5 rfl W5 0 rfl (Nat.le_of_ble_eq_true rfl)
  refine step (T5.setTop (mkF m 30 #[.val (.int p0), .val (.int p1), .val (.int p2), .val (.int p3), .val (.int p4), .val (.int q0), .val (.int q1), .val (.int q2), .unset, .unset, .unset, .unset] [(.ref b4)])) (fun t k => st5 t k) ?_
  refine step (T5.setTop (mkF m 31 #[.val (.int p0), .val (.int p1), .val (.int p2), .val (.int p3), .val (.int p4), .val (.int q0), .val (.int q1), .val (.int q2), .unset, .unset, .unset, .unset] [(.ref b4), (.ref b4)])) (fun t k => XS.dup X5.here hx rfl (hb hby at_30) rfl rfl k) ?_
  refine step (T5.setTop (mkF m 32 #[.val (.int p0), .val (.int p1), .val (.int p2), .val (.int p3), .val (.int p4), .val (.int q0), .val (.int q1), .val (.int q2), .unset, .unset, .unset, .unset] [(.int (1 : Int32)), (.ref b4), (.ref b4)])) (fun t k => XS.iconst X5.here hx rfl (hb hby at_31) k) ?_
  refine step (T5.setTop (mkF m 33 #[.val (.int p0), .val (.int p1), .val (.int p2), .val (.int p3), .val (.int p4), .val (.int q0), .val (.int q1), .val (.int q2), .unset, .unset, .unset, .unset] [(.int p2), (.int (1 : Int32)), (.ref b4), (.ref b4)])) (fun t k => XS.iloadN X5.here hx rfl (hb hby at_32) rfl k) ?_
  obtain ⟨cl6, Ar6, q6, S6, N6n, H6, G6⟩ := id V5
  have hin6 : ¬ ((1 : Int32) < 0 ∨ cl6.slots.size ≤ ((1 : Int32)).toNatClampNeg) := inb_of S6 ⟨by decide, by decide⟩
  obtain ⟨T6, h6, X6, e6, W6, st6⟩ := stI X5 hx hZ e5 Ar6 (j := (1 : Int32)) hin6 (g := (mkF m 33 #[.val (.int p0), .val (.int p1), .val (.int p2), .val (.int p3), .val (.int p4), .val (.int q0), .val (.int q1), .val (.int q2), .unset, .unset, .unset, .unset] [(.int p2), (.int (1 : Int32)), (.ref b4), (.ref b4)])) rfl rfl (hb hby at_33)
  have N6 := Fr.snoc X6 N5 gn_b4
  have K6 : Keep h0 h6 [] := K5.wr W6 (Or.inr sz_b4)
  have V6 : Arv Z h6 b4 k4 .int (4 : Int32) [(.int p1), (.int p2), (.int (0 : Int32)), (.int (0 : Int32))] (.int (0 : Int32)) := Arv.set Ar6 q6 S6 N6n H6 G6 rfl W6 1 rfl (Nat.le_of_ble_eq_true rfl)
  refine step (T6.setTop (mkF m 34 #[.val (.int p0), .val (.int p1), .val (.int p2), .val (.int p3), .val (.int p4), .val (.int q0), .val (.int q1), .val (.int q2), .unset, .unset, .unset, .unset] [(.ref b4)])) (fun t k => st6 t k) ?_
  refine step (T6.setTop (mkF m 35 #[.val (.int p0), .val (.int p1), .val (.int p2), .val (.int p3), .val (.int p4), .val (.int q0), .val (.int q1), .val (.int q2), .unset, .unset, .unset, .unset] [(.ref b4), (.ref b4)])) (fun t k => XS.dup X6.here hx rfl (hb hby at_34) rfl rfl k) ?_
  refine step (T6.setTop (mkF m 36 #[.val (.int p0), .val (.int p1), .val (.int p2), .val (.int p3), .val (.int p4), .val (.int q0), .val (.int q1), .val (.int q2), .unset, .unset, .unset, .unset] [(.int (2 : Int32)), (.ref b4), (.ref b4)])) (fun t k => XS.iconst X6.here hx rfl (hb hby at_35) k) ?_
  refine step (T6.setTop (mkF m 37 #[.val (.int p0), .val (.int p1), .val (.int p2), .val (.int p3), .val (.int p4), .val (.int q0), .val (.int q1), .val (.int q2), .unset, .unset, .unset, .unset] [(.int p3), (.int (2 : Int32)), (.ref b4), (.ref b4)])) (fun t k => XS.iloadN X6.here hx rfl (hb hby at_36) rfl k) ?_
  obtain ⟨cl7, Ar7, q7, S7, N7n, H7, G7⟩ := id V6
  have hin7 : ¬ ((2 : Int32) < 0 ∨ cl7.slots.size ≤ ((2 : Int32)).toNatClampNeg) := inb_of S7 ⟨by decide, by decide⟩
  obtain ⟨T7, h7, X7, e7, W7, st7⟩ := stI X6 hx hZ e6 Ar7 (j := (2 : Int32)) hin7 (g := (mkF m 37 #[.val (.int p0), .val (.int p1), .val (.int p2), .val (.int p3), .val (.int p4), .val (.int q0), .val (.int q1), .val (.int q2), .unset, .unset, .unset, .unset] [(.int p3), (.int (2 : Int32)), (.ref b4), (.ref b4)])) rfl rfl (hb hby at_37)
  have N7 := Fr.snoc X7 N6 gn_b4
  have K7 : Keep h0 h7 [] := K6.wr W7 (Or.inr sz_b4)
  have V7 : Arv Z h7 b4 k4 .int (4 : Int32) [(.int p1), (.int p2), (.int p3), (.int (0 : Int32))] (.int (0 : Int32)) := Arv.set Ar7 q7 S7 N7n H7 G7 rfl W7 2 rfl (Nat.le_of_ble_eq_true rfl)
  refine step (T7.setTop (mkF m 38 #[.val (.int p0), .val (.int p1), .val (.int p2), .val (.int p3), .val (.int p4), .val (.int q0), .val (.int q1), .val (.int q2), .unset, .unset, .unset, .unset] [(.ref b4)])) (fun t k => st7 t k) ?_
  refine step (T7.setTop (mkF m 39 #[.val (.int p0), .val (.int p1), .val (.int p2), .val (.int p3), .val (.int p4), .val (.int q0), .val (.int q1), .val (.int q2), .unset, .unset, .unset, .unset] [(.ref b4), (.ref b4)])) (fun t k => XS.dup X7.here hx rfl (hb hby at_38) rfl rfl k) ?_
  refine step (T7.setTop (mkF m 40 #[.val (.int p0), .val (.int p1), .val (.int p2), .val (.int p3), .val (.int p4), .val (.int q0), .val (.int q1), .val (.int q2), .unset, .unset, .unset, .unset] [(.int (3 : Int32)), (.ref b4), (.ref b4)])) (fun t k => XS.iconst X7.here hx rfl (hb hby at_39) k) ?_
  refine step (T7.setTop (mkF m 42 #[.val (.int p0), .val (.int p1), .val (.int p2), .val (.int p3), .val (.int p4), .val (.int q0), .val (.int q1), .val (.int q2), .unset, .unset, .unset, .unset] [(.int p4), (.int (3 : Int32)), (.ref b4), (.ref b4)])) (fun t k => XS.iload X7.here hx rfl (hb hby at_40) rfl k) ?_
  obtain ⟨cl8, Ar8, q8, S8, N8n, H8, G8⟩ := id V7
  have hin8 : ¬ ((3 : Int32) < 0 ∨ cl8.slots.size ≤ ((3 : Int32)).toNatClampNeg) := inb_of S8 ⟨by decide, by decide⟩
  obtain ⟨T8, h8, X8, e8, W8, st8⟩ := stI X7 hx hZ e7 Ar8 (j := (3 : Int32)) hin8 (g := (mkF m 42 #[.val (.int p0), .val (.int p1), .val (.int p2), .val (.int p3), .val (.int p4), .val (.int q0), .val (.int q1), .val (.int q2), .unset, .unset, .unset, .unset] [(.int p4), (.int (3 : Int32)), (.ref b4), (.ref b4)])) rfl rfl (hb hby at_42)
  have N8 := Fr.snoc X8 N7 gn_b4
  have K8 : Keep h0 h8 [] := K7.wr W8 (Or.inr sz_b4)
  have V8 : Arv Z h8 b4 k4 .int (4 : Int32) [(.int p1), (.int p2), (.int p3), (.int p4)] (.int (0 : Int32)) := Arv.set Ar8 q8 S8 N8n H8 G8 rfl W8 3 rfl (Nat.le_of_ble_eq_true rfl)
  refine step (T8.setTop (mkF m 43 #[.val (.int p0), .val (.int p1), .val (.int p2), .val (.int p3), .val (.int p4), .val (.int q0), .val (.int q1), .val (.int q2), .unset, .unset, .unset, .unset] [(.ref b4)])) (fun t k => st8 t k) ?_
  refine step (T8.setTop (mkF m 45 #[.val (.int p0), .val (.int p1), .val (.int p2), .val (.int p3), .val (.int p4), .val (.int q0), .val (.int q1), .val (.int q2), .val (.ref b4), .unset, .unset, .unset] [])) (fun t k => XS.astore X8.here hx rfl (hb hby at_43) rfl rfl (l' := #[.val (.int p0), .val (.int p1), .val (.int p2), .val (.int p3), .val (.int p4), .val (.int q0), .val (.int q1), .val (.int q2), .val (.ref b4), .unset, .unset, .unset]) rfl k) ?_
  refine step (T8.setTop (mkF m 46 #[.val (.int p0), .val (.int p1), .val (.int p2), .val (.int p3), .val (.int p4), .val (.int q0), .val (.int q1), .val (.int q2), .val (.ref b4), .unset, .unset, .unset] [(.int (0 : Int32))])) (fun t k => XS.iconst X8.here hx rfl (hb hby at_45) k) ?_
  obtain ⟨T9, h9, k9, X9, e9, E9, A9, st9⟩ := newP X8 hx hZ (hw _ (List.mem_of_getElem? (i := 4) rfl)) e8 (g := (mkF m 46 #[.val (.int p0), .val (.int p1), .val (.int p2), .val (.int p3), .val (.int p4), .val (.int q0), .val (.int q1), .val (.int q2), .val (.ref b4), .unset, .unset, .unset] [(.int (0 : Int32))])) rfl (hb hby at_46) rfl (by decide) (cap := 0) (by decide) (by decide) (by decide) (by decide)
  obtain ⟨b9, g9⟩ : ∃ z, z = h8.size := ⟨_, rfl⟩
  rw [← g9] at A9 st9
  have f10 := (((((E_aM.ext E4).wr W5).wr W6).wr W7).wr W8)
  have ne_aM_b9 : aM ≠ b9 := Nat.ne_of_lt (Nat.lt_of_lt_of_le f10.lt (Nat.le_of_eq g9.symm))
  have f11 := (((((E_aI.ext E4).wr W5).wr W6).wr W7).wr W8)
  have ne_aI_b9 : aI ≠ b9 := Nat.ne_of_lt (Nat.lt_of_lt_of_le f11.lt (Nat.le_of_eq g9.symm))
  have ne_b4_b9 : b4 ≠ b9 := Nat.ne_of_lt (Nat.lt_of_lt_of_le V8.lt (Nat.le_of_eq g9.symm))
  have gn_b9 : n0 ≤ b9 := Nat.le_trans (Nat.le_trans Z0 K8.1) (Nat.le_of_eq g9.symm)
  have sz_b9 : h0.size ≤ b9 := Nat.le_trans K8.1 (Nat.le_of_eq g9.symm)
  have K9 : Keep h0 h9 [] := K8.ext E9
  have V9 : Arv Z h9 b9 k9 .int (0 : Int32) [] (.int (0 : Int32)) := (Arv.new A9 (by decide)).pad (pad_rep [] (.int (0 : Int32)) 0)
  refine step (T9.setTop (mkF m 48 #[.val (.int p0), .val (.int p1), .val (.int p2), .val (.int p3), .val (.int p4), .val (.int q0), .val (.int q1), .val (.int q2), .val (.ref b4), .unset, .unset, .unset] [(.ref b9)])) (fun t k => st9 t k) ?_
  refine step (T9.setTop (mkF m 50 #[.val (.int p0), .val (.int p1), .val (.int p2), .val (.int p3), .val (.int p4), .val (.int q0), .val (.int q1), .val (.int q2), .val (.ref b4), .val (.ref b9), .unset, .unset] [])) (fun t k => XS.astore X9.here hx rfl (hb hby at_48) rfl rfl (l' := #[.val (.int p0), .val (.int p1), .val (.int p2), .val (.int p3), .val (.int p4), .val (.int q0), .val (.int q1), .val (.int q2), .val (.ref b4), .val (.ref b9), .unset, .unset]) rfl k) ?_
  obtain ⟨T12, h12, X12, e12, E12, A12, D12, -, st12⟩ := newO X9 hx hZ hown (hw _ (List.mem_of_getElem? (i := 5) rfl)) (hw _ (List.mem_of_getElem? (i := 6) rfl)) (hw _ (List.mem_of_getElem? (i := 7) rfl)) e9 (g := (mkF m 50 #[.val (.int p0), .val (.int p1), .val (.int p2), .val (.int p3), .val (.int p4), .val (.int q0), .val (.int q1), .val (.int q2), .val (.ref b4), .val (.ref b9), .unset, .unset] [])) rfl (hb hby at_50) (by decide) (by decide)
  obtain ⟨b12, g12⟩ : ∃ z, z = h9.size := ⟨_, rfl⟩
  rw [← g12] at A12 D12 st12
  have f13 := (f10.ext E9)
  have ne_aM_b12 : aM ≠ b12 := Nat.ne_of_lt (Nat.lt_of_lt_of_le f13.lt (Nat.le_of_eq g12.symm))
  have f14 := (f11.ext E9)
  have ne_aI_b12 : aI ≠ b12 := Nat.ne_of_lt (Nat.lt_of_lt_of_le f14.lt (Nat.le_of_eq g12.symm))
  have f15 := (V8.ext E9)
  have ne_b4_b12 : b4 ≠ b12 := Nat.ne_of_lt (Nat.lt_of_lt_of_le f15.lt (Nat.le_of_eq g12.symm))
  have ne_b9_b12 : b9 ≠ b12 := Nat.ne_of_lt (Nat.lt_of_lt_of_le V9.lt (Nat.le_of_eq g12.symm))
  have gn_b12 : n0 ≤ b12 := Nat.le_trans (Nat.le_trans Z0 K9.1) (Nat.le_of_eq g12.symm)
  have sz_b12 : h0.size ≤ b12 := Nat.le_trans K9.1 (Nat.le_of_eq g12.symm)
  have K12 : Keep h0 h12 [] := K9.ext E12
  have F_merged_b12 : Fld Z h12 b12 "com/example/qopa/qopa/model/ModelBuilder" "merged" "Ljava/util/Map;" .null := D12 (Or.inr (hw _ (List.mem_of_getElem? (i := 31) rfl))) (ty := (.object "java/util/Map")) (by decide)
  have F_bounded_b12 : Fld Z h12 b12 "com/example/qopa/qopa/model/ModelBuilder" "bounded" "Z" (.int (0 : Int32)) := D12 (Or.inr (hw _ (List.mem_of_getElem? (i := 33) rfl))) (ty := .boolean) (by decide)
  have F_firstChoice_b12 : Fld Z h12 b12 "com/example/qopa/qopa/model/ModelBuilder" "firstChoice" "[I" .null := D12 (Or.inl (hw _ (List.mem_of_getElem? (i := 35) rfl))) (ty := (.array .int)) (by decide)
  have F_firstTransition_b12 : Fld Z h12 b12 "com/example/qopa/qopa/model/ModelBuilder" "firstTransition" "[I" .null := D12 (Or.inl (hw _ (List.mem_of_getElem? (i := 37) rfl))) (ty := (.array .int)) (by decide)
  have F_target_b12 : Fld Z h12 b12 "com/example/qopa/qopa/model/ModelBuilder" "target" "[I" .null := D12 (Or.inl (hw _ (List.mem_of_getElem? (i := 39) rfl))) (ty := (.array .int)) (by decide)
  have F_lower_b12 : Fld Z h12 b12 "com/example/qopa/qopa/model/ModelBuilder" "lower" "[Lcom/example/qopa/qopa/math/Rational;" .null := D12 (Or.inl (hw _ (List.mem_of_getElem? (i := 43) rfl))) (ty := (.array (.object "com/example/qopa/qopa/math/Rational"))) (by decide)
  have F_upper_b12 : Fld Z h12 b12 "com/example/qopa/qopa/model/ModelBuilder" "upper" "[Lcom/example/qopa/qopa/math/Rational;" .null := D12 (Or.inl (hw _ (List.mem_of_getElem? (i := 45) rfl))) (ty := (.array (.object "com/example/qopa/qopa/math/Rational"))) (by decide)
  have F_action_b12 : Fld Z h12 b12 "com/example/qopa/qopa/model/ModelBuilder" "action" "[I" .null := D12 (Or.inl (hw _ (List.mem_of_getElem? (i := 47) rfl))) (ty := (.array .int)) (by decide)
  have F_transitionCount_b12 : Fld Z h12 b12 "com/example/qopa/qopa/model/ModelBuilder" "transitionCount" "I" (.int (0 : Int32)) := D12 (Or.inl (hw _ (List.mem_of_getElem? (i := 59) rfl))) (ty := .int) (by decide)
  have F_stateCount_b12 : Fld Z h12 b12 "com/example/qopa/qopa/model/ModelBuilder" "stateCount" "I" (.int (0 : Int32)) := D12 (Or.inl (hw _ (List.mem_of_getElem? (i := 80) rfl))) (ty := .int) (by decide)
  have F_choiceCount_b12 : Fld Z h12 b12 "com/example/qopa/qopa/model/ModelBuilder" "choiceCount" "I" (.int (0 : Int32)) := D12 (Or.inl (hw _ (List.mem_of_getElem? (i := 85) rfl))) (ty := .int) (by decide)
  refine step (T12.setTop (mkF m 53 #[.val (.int p0), .val (.int p1), .val (.int p2), .val (.int p3), .val (.int p4), .val (.int q0), .val (.int q1), .val (.int q2), .val (.ref b4), .val (.ref b9), .unset, .unset] [(.ref b12)])) (fun t k => st12 t k) ?_
  refine step (T12.setTop (mkF m 54 #[.val (.int p0), .val (.int p1), .val (.int p2), .val (.int p3), .val (.int p4), .val (.int q0), .val (.int q1), .val (.int q2), .val (.ref b4), .val (.ref b9), .unset, .unset] [(.ref b12), (.ref b12)])) (fun t k => XS.dup X12.here hx rfl (hb hby at_53) rfl rfl k) ?_
  refine step (T12.setTop (mkF m 55 #[.val (.int p0), .val (.int p1), .val (.int p2), .val (.int p3), .val (.int p4), .val (.int q0), .val (.int q1), .val (.int q2), .val (.ref b4), .val (.ref b9), .unset, .unset] [(.int (0 : Int32)), (.ref b12), (.ref b12)])) (fun t k => XS.iconst X12.here hx rfl (hb hby at_54) k) ?_
  refine step (T12.setTop (mkF m 56 #[.val (.int p0), .val (.int p1), .val (.int p2), .val (.int p3), .val (.int p4), .val (.int q0), .val (.int q1), .val (.int q2), .val (.ref b4), .val (.ref b9), .unset, .unset] [(.int (0 : Int32)), (.int (0 : Int32)), (.ref b12), (.ref b12)])) (fun t k => XS.iconst X12.here hx rfl (hb hby at_55) k) ?_
  refine step (T12.setTop (mkF m 57 #[.val (.int p0), .val (.int p1), .val (.int p2), .val (.int p3), .val (.int p4), .val (.int q0), .val (.int q1), .val (.int q2), .val (.ref b4), .val (.ref b9), .unset, .unset] [(.int (0 : Int32)), (.int (0 : Int32)), (.int (0 : Int32)), (.ref b12), (.ref b12)])) (fun t k => XS.iconst X12.here hx rfl (hb hby at_56) k) ?_
  refine step (T12.setTop (mkF m 58 #[.val (.int p0), .val (.int p1), .val (.int p2), .val (.int p3), .val (.int p4), .val (.int q0), .val (.int q1), .val (.int q2), .val (.ref b4), .val (.ref b9), .unset, .unset] [(.int (3 : Int32)), (.int (0 : Int32)), (.int (0 : Int32)), (.int (0 : Int32)), (.ref b12), (.ref b12)])) (fun t k => XS.iconst X12.here hx rfl (hb hby at_57) k) ?_
  obtain ⟨_, _, ⟨T16, L16, k16, n16⟩, -, X16, ⟨Lc16, hQ16, l16, y16, z16⟩, st16⟩ := X12.specialBack hx (y := (⟨"com/example/qopa/qopa/model/ModelBuilder", "<init>", "(ZIII)V"⟩ : MethodName)) rfl hown (mvT hZ (hw _ (List.mem_of_getElem? (i := 8) rfl))) (mvT hZ (hw _ (List.mem_of_getElem? (i := 9) rfl))) (mvT hZ (hw _ (List.mem_of_getElem? (i := 10) rfl))) (by decide) (backOf (W := 1) (rm2_2 l Z a0 hw [] b12 h12 n0 (Nat.le_trans Z0 K12.1) A12 F_action_b12 F_bounded_b12 F_choiceCount_b12 F_firstChoice_b12 F_firstTransition_b12 F_lower_b12 F_merged_b12 F_stateCount_b12 F_target_b12 F_transitionCount_b12 F_upper_b12 gn_b12) hZ (hw _ (List.mem_of_getElem? (i := 10) rfl)) (hw _ (List.mem_of_getElem? (i := 7) rfl)) (by decide) (by decide)) (g := (mkF m 58 #[.val (.int p0), .val (.int p1), .val (.int p2), .val (.int p3), .val (.int p4), .val (.int q0), .val (.int q1), .val (.int q2), .val (.ref b4), .val (.ref b9), .unset, .unset] [(.int (3 : Int32)), (.int (0 : Int32)), (.int (0 : Int32)), (.int (0 : Int32)), (.ref b12), (.ref b12)])) rfl (by rw [hml]; rfl) (Steps.refl _) (a := b12) (argsL := [(.int (0 : Int32)), (.int (0 : Int32)), (.int (0 : Int32)), (.int (3 : Int32))]) (rest := [(.ref b12)]) (lenOf pd_1 rfl) rfl (by show 2 * 0 + _ ≤ _; exact Nat.le_of_eq rfl) (hb hby at_58) (fun _ _ => ⟨rfl, e12, (by decide : 3 + 6 ≤ _), (by decide : 15 + 19 ≤ _)⟩)
  dsimp only [Pt.U, Pt.locs, Pt.cells, Pt.slots] at X16 l16 y16 z16 st16 hQ16
  subst l16 y16 z16
  obtain ⟨h16, e16⟩ : ∃ z, T16.heap = z := ⟨_, rfl⟩
  rw [e16] at hQ16
  obtain ⟨b2_16, b10_16, b16_16, b23_16, b31_16, b44_16, k10_16, k16_16, k23_16, k31_16, k44_16, rfl, N16q, K16q, sz_b2_16, sz_b10_16, sz_b16_16, sz_b23_16, sz_b31_16, sz_b44_16, ne_b2_b23_16, ne_b2_b31_16, ne_b2_b44_16, ne_b10_b2_16, ne_b10_b16_16, ne_b10_b23_16, ne_b10_b31_16, ne_b10_b44_16, ne_b16_b2_16, ne_b16_b23_16, ne_b16_b31_16, ne_b16_b44_16, ne_b23_b31_16, ne_b23_b44_16, ne_b31_b44_16, q0_16, q1_16, q2_16, q3_16, q4_16, q5_16, q6_16, q7_16, q8_16, q9_16, q10_16, q11_16, q12_16, q13_16, q14_16, q15_16, q16_16, ov0_16, q17_16⟩ := hQ16
  have N16 := Fr.app N8 N16q
  have f17 := (f13.ext E12)
  have lt16_aM := f17.lt
  have f18 := (f14.ext E12)
  have lt16_aI := f18.lt
  have f19 := (f15.ext E12)
  have lt16_b4 := f19.lt
  have f20 := (V9.ext E12)
  have lt16_b9 := f20.lt
  have lt16_b12 := A12.lt
  have ne_aM_b2_16 : aM ≠ b2_16 := Nat.ne_of_lt (Nat.lt_of_lt_of_le lt16_aM sz_b2_16)
  have ne_aI_b2_16 : aI ≠ b2_16 := Nat.ne_of_lt (Nat.lt_of_lt_of_le lt16_aI sz_b2_16)
  have ne_b4_b2_16 : b4 ≠ b2_16 := Nat.ne_of_lt (Nat.lt_of_lt_of_le lt16_b4 sz_b2_16)
  have ne_b9_b2_16 : b9 ≠ b2_16 := Nat.ne_of_lt (Nat.lt_of_lt_of_le lt16_b9 sz_b2_16)
  have ne_b12_b2_16 : b12 ≠ b2_16 := Nat.ne_of_lt (Nat.lt_of_lt_of_le lt16_b12 sz_b2_16)
  have gn_b2_16 : n0 ≤ b2_16 := Nat.le_trans (Nat.le_trans Z0 K12.1) sz_b2_16
  have sz_b2_16' := Nat.le_trans K12.1 sz_b2_16
  replace sz_b2_16 := sz_b2_16'
  have ne_aM_b10_16 : aM ≠ b10_16 := Nat.ne_of_lt (Nat.lt_of_lt_of_le lt16_aM sz_b10_16)
  have ne_aI_b10_16 : aI ≠ b10_16 := Nat.ne_of_lt (Nat.lt_of_lt_of_le lt16_aI sz_b10_16)
  have ne_b4_b10_16 : b4 ≠ b10_16 := Nat.ne_of_lt (Nat.lt_of_lt_of_le lt16_b4 sz_b10_16)
  have ne_b9_b10_16 : b9 ≠ b10_16 := Nat.ne_of_lt (Nat.lt_of_lt_of_le lt16_b9 sz_b10_16)
  have ne_b12_b10_16 : b12 ≠ b10_16 := Nat.ne_of_lt (Nat.lt_of_lt_of_le lt16_b12 sz_b10_16)
  have gn_b10_16 : n0 ≤ b10_16 := Nat.le_trans (Nat.le_trans Z0 K12.1) sz_b10_16
  have sz_b10_16' := Nat.le_trans K12.1 sz_b10_16
  replace sz_b10_16 := sz_b10_16'
  have ne_aM_b16_16 : aM ≠ b16_16 := Nat.ne_of_lt (Nat.lt_of_lt_of_le lt16_aM sz_b16_16)
  have ne_aI_b16_16 : aI ≠ b16_16 := Nat.ne_of_lt (Nat.lt_of_lt_of_le lt16_aI sz_b16_16)
  have ne_b4_b16_16 : b4 ≠ b16_16 := Nat.ne_of_lt (Nat.lt_of_lt_of_le lt16_b4 sz_b16_16)
  have ne_b9_b16_16 : b9 ≠ b16_16 := Nat.ne_of_lt (Nat.lt_of_lt_of_le lt16_b9 sz_b16_16)
  have ne_b12_b16_16 : b12 ≠ b16_16 := Nat.ne_of_lt (Nat.lt_of_lt_of_le lt16_b12 sz_b16_16)
  have gn_b16_16 : n0 ≤ b16_16 := Nat.le_trans (Nat.le_trans Z0 K12.1) sz_b16_16
  have sz_b16_16' := Nat.le_trans K12.1 sz_b16_16
  replace sz_b16_16 := sz_b16_16'
  have ne_aM_b23_16 : aM ≠ b23_16 := Nat.ne_of_lt (Nat.lt_of_lt_of_le lt16_aM sz_b23_16)
  have ne_aI_b23_16 : aI ≠ b23_16 := Nat.ne_of_lt (Nat.lt_of_lt_of_le lt16_aI sz_b23_16)
  have ne_b4_b23_16 : b4 ≠ b23_16 := Nat.ne_of_lt (Nat.lt_of_lt_of_le lt16_b4 sz_b23_16)
  have ne_b9_b23_16 : b9 ≠ b23_16 := Nat.ne_of_lt (Nat.lt_of_lt_of_le lt16_b9 sz_b23_16)
  have ne_b12_b23_16 : b12 ≠ b23_16 := Nat.ne_of_lt (Nat.lt_of_lt_of_le lt16_b12 sz_b23_16)
  have gn_b23_16 : n0 ≤ b23_16 := Nat.le_trans (Nat.le_trans Z0 K12.1) sz_b23_16
  have sz_b23_16' := Nat.le_trans K12.1 sz_b23_16
  replace sz_b23_16 := sz_b23_16'
  have ne_aM_b31_16 : aM ≠ b31_16 := Nat.ne_of_lt (Nat.lt_of_lt_of_le lt16_aM sz_b31_16)
  have ne_aI_b31_16 : aI ≠ b31_16 := Nat.ne_of_lt (Nat.lt_of_lt_of_le lt16_aI sz_b31_16)
  have ne_b4_b31_16 : b4 ≠ b31_16 := Nat.ne_of_lt (Nat.lt_of_lt_of_le lt16_b4 sz_b31_16)
  have ne_b9_b31_16 : b9 ≠ b31_16 := Nat.ne_of_lt (Nat.lt_of_lt_of_le lt16_b9 sz_b31_16)
  have ne_b12_b31_16 : b12 ≠ b31_16 := Nat.ne_of_lt (Nat.lt_of_lt_of_le lt16_b12 sz_b31_16)
  have gn_b31_16 : n0 ≤ b31_16 := Nat.le_trans (Nat.le_trans Z0 K12.1) sz_b31_16
  have sz_b31_16' := Nat.le_trans K12.1 sz_b31_16
  replace sz_b31_16 := sz_b31_16'
  have ne_aM_b44_16 : aM ≠ b44_16 := Nat.ne_of_lt (Nat.lt_of_lt_of_le lt16_aM sz_b44_16)
  have ne_aI_b44_16 : aI ≠ b44_16 := Nat.ne_of_lt (Nat.lt_of_lt_of_le lt16_aI sz_b44_16)
  have ne_b4_b44_16 : b4 ≠ b44_16 := Nat.ne_of_lt (Nat.lt_of_lt_of_le lt16_b4 sz_b44_16)
  have ne_b9_b44_16 : b9 ≠ b44_16 := Nat.ne_of_lt (Nat.lt_of_lt_of_le lt16_b9 sz_b44_16)
  have ne_b12_b44_16 : b12 ≠ b44_16 := Nat.ne_of_lt (Nat.lt_of_lt_of_le lt16_b12 sz_b44_16)
  have gn_b44_16 : n0 ≤ b44_16 := Nat.le_trans (Nat.le_trans Z0 K12.1) sz_b44_16
  have sz_b44_16' := Nat.le_trans K12.1 sz_b44_16
  replace sz_b44_16 := sz_b44_16'
  have f21 := (((((((S_aM.ext E4).wr W5).wr W6).wr W7).wr W8).ext E9).ext E12)
  have f22 := (((((((S_aI.ext E4).wr W5).wr W6).wr W7).wr W8).ext E9).ext E12)
  have K16 : Keep h0 h16 [] := K12.trans K16q (allS (Or.inr sz_b12) all0)
  have f23 := own_staK f21 K16q (allS (own_exaP A12) all0)
  have f24 := own_staK f22 K16q (allS (own_exaP A12) all0)
  refine step (T16.setTop (mkF m 61 #[.val (.int p0), .val (.int p1), .val (.int p2), .val (.int p3), .val (.int p4), .val (.int q0), .val (.int q1), .val (.int q2), .val (.ref b4), .val (.ref b9), .unset, .unset] [(.ref b12)])) (fun t k => st16.trans k) ?_
  refine step (T16.setTop (mkF m 63 #[.val (.int p0), .val (.int p1), .val (.int p2), .val (.int p3), .val (.int p4), .val (.int q0), .val (.int q1), .val (.int q2), .val (.ref b4), .val (.ref b9), .val (.ref b12), .unset] [])) (fun t k => XS.astore X16.here hx rfl (hb hby at_61) rfl rfl (l' := #[.val (.int p0), .val (.int p1), .val (.int p2), .val (.int p3), .val (.int p4), .val (.int q0), .val (.int q1), .val (.int q2), .val (.ref b4), .val (.ref b9), .val (.ref b12), .unset]) rfl k) ?_
  refine step (T16.setTop (mkF m 65 #[.val (.int p0), .val (.int p1), .val (.int p2), .val (.int p3), .val (.int p4), .val (.int q0), .val (.int q1), .val (.int q2), .val (.ref b4), .val (.ref b9), .val (.ref b12), .unset] [(.ref b12)])) (fun t k => XS.aload X16.here hx rfl (hb hby at_63) rfl rfl k) ?_
  refine step (T16.setTop (mkF m 66 #[.val (.int p0), .val (.int p1), .val (.int p2), .val (.int p3), .val (.int p4), .val (.int q0), .val (.int q1), .val (.int q2), .val (.ref b4), .val (.ref b9), .val (.ref b12), .unset] [(.int (0 : Int32)), (.ref b12)])) (fun t k => XS.iconst X16.here hx rfl (hb hby at_65) k) ?_
  refine step (T16.setTop (mkF m 67 #[.val (.int p0), .val (.int p1), .val (.int p2), .val (.int p3), .val (.int p4), .val (.int q0), .val (.int q1), .val (.int q2), .val (.ref b4), .val (.ref b9), .val (.ref b12), .unset] [.null, (.int (0 : Int32)), (.ref b12)])) (fun t k => XS.aconstNull X16.here hx rfl (hb hby at_66) k) ?_
  refine step (T16.setTop (mkF m 69 #[.val (.int p0), .val (.int p1), .val (.int p2), .val (.int p3), .val (.int p4), .val (.int q0), .val (.int q1), .val (.int q2), .val (.ref b4), .val (.ref b9), .val (.ref b12), .unset] [(.int q0), .null, (.int (0 : Int32)), (.ref b12)])) (fun t k => XS.iload X16.here hx rfl (hb hby at_67) rfl k) ?_
  have f25 := (A12.keep K16q)
  obtain ⟨cq26, kq26, q26a, q26b, q26c⟩ := isOf hZ e16 f25
  obtain ⟨_, _, ⟨T26, L26, k26, n26⟩, -, X26, ⟨Lc26, hQ26, l26, y26, z26⟩, st26⟩ := X16.virtualBack hx (y := (⟨"com/example/qopa/qopa/model/ModelBuilder", "add", "(ILcom/example/qopa/qopa/math/Rational;I)V"⟩ : MethodName)) (z := (⟨"com/example/qopa/qopa/model/ModelBuilder", "add", "(ILcom/example/qopa/qopa/math/Rational;I)V"⟩ : MethodName)) hown (mvT hZ (hw _ (List.mem_of_getElem? (i := 48) rfl))) (mvT hZ (hw _ (List.mem_of_getElem? (i := 49) rfl))) (notFace_of_selects (args := #[]) (mvT hZ (hw _ (List.mem_of_getElem? (i := 51) rfl)))) (mvT hZ (hw _ (List.mem_of_getElem? (i := 51) rfl))) (mvT hZ (hw _ (List.mem_of_getElem? (i := 50) rfl))) (by decide) (backOf (W := 0) (rm6_5 l Z a0 hw [] b12 q0 b44_16 b10_16 b16_16 b31_16 b2_16 b23_16 k44_16 k10_16 k16_16 k31_16 k23_16 h16 n0 (Nat.le_trans Z0 K16.1) f25 q0_16 q1_16 q2_16 q3_16 q4_16 q5_16 q6_16 q7_16 q8_16 q9_16 q10_16 q17_16 q13_16 q14_16 q16_16 ov0_16 q11_16 q15_16 gn_b12 ne_b12_b44_16 ne_b12_b10_16 ne_b12_b16_16 ne_b12_b31_16 ne_b12_b2_16 ne_b12_b23_16 gn_b44_16 (Ne.symm ne_b10_b44_16) (Ne.symm ne_b16_b44_16) (Ne.symm ne_b31_b44_16) (Ne.symm ne_b2_b44_16) (Ne.symm ne_b23_b44_16) gn_b10_16 ne_b10_b16_16 ne_b10_b31_16 ne_b10_b2_16 ne_b10_b23_16 gn_b16_16 ne_b16_b31_16 ne_b16_b2_16 ne_b16_b23_16 gn_b31_16 (Ne.symm ne_b2_b31_16) (Ne.symm ne_b23_b31_16) gn_b2_16 ne_b2_b23_16 gn_b23_16 lo_a0 hi_a0) hZ (hw _ (List.mem_of_getElem? (i := 52) rfl)) (hw _ (List.mem_of_getElem? (i := 7) rfl)) (by decide) (by decide)) q26a q26c (g := (mkF m 69 #[.val (.int p0), .val (.int p1), .val (.int p2), .val (.int p3), .val (.int p4), .val (.int q0), .val (.int q1), .val (.int q2), .val (.ref b4), .val (.ref b9), .val (.ref b12), .unset] [(.int q0), .null, (.int (0 : Int32)), (.ref b12)])) rfl (by rw [hml]; rfl) (Steps.refl _) (argsL := [(.int (0 : Int32)), .null, (.int q0)]) (rest := []) (lenOf pd_2 rfl) rfl (by show 2 * 0 + _ ≤ _; exact Nat.le_of_eq rfl) (hb hby at_69) (fun _ _ => ⟨rfl, e16, (by decide : 9 + 0 ≤ _), (by decide : 34 + 0 ≤ _)⟩)
  dsimp only [Pt.U, Pt.locs, Pt.cells, Pt.slots] at X26 l26 y26 z26 st26 hQ26
  subst l26 y26 z26
  obtain ⟨h26, e26⟩ : ∃ z, T26.heap = z := ⟨_, rfl⟩
  rw [e26] at hQ26
  obtain ⟨rfl, N26q, K26q, q0_26, q1_26, q2_26, q3_26, q4_26, q5_26, q6_26, q7_26, q8_26, q9_26, q10_26, q11_26, q12_26, q13_26⟩ := hQ26
  have N26 := Fr.app N16 N26q
  have K26 : Keep h0 h26 [] := K16.trans K26q (allS (Or.inr sz_b23_16) (allS (Or.inr sz_b31_16) (allS (Or.inr sz_b44_16) (allS (Or.inr sz_b12) all0))))
  have f27 := own_staK f23 K26q (allS (own_arvP q15_16) (allS (own_arvP q16_16) (allS (own_arvP q17_16) (allS (own_exaP f25) all0))))
  have f28 := own_staK f24 K26q (allS (own_arvP q15_16) (allS (own_arvP q16_16) (allS (own_arvP q17_16) (allS (own_exaP f25) all0))))
  refine step (T26.setTop (mkF m 72 #[.val (.int p0), .val (.int p1), .val (.int p2), .val (.int p3), .val (.int p4), .val (.int q0), .val (.int q1), .val (.int q2), .val (.ref b4), .val (.ref b9), .val (.ref b12), .unset] [])) (fun t k => st26.trans k) ?_
  refine step (T26.setTop (mkF m 74 #[.val (.int p0), .val (.int p1), .val (.int p2), .val (.int p3), .val (.int p4), .val (.int q0), .val (.int q1), .val (.int q2), .val (.ref b4), .val (.ref b9), .val (.ref b12), .unset] [(.ref b12)])) (fun t k => XS.aload X26.here hx rfl (hb hby at_72) rfl rfl k) ?_
  refine step (T26.setTop (mkF m 75 #[.val (.int p0), .val (.int p1), .val (.int p2), .val (.int p3), .val (.int p4), .val (.int q0), .val (.int q1), .val (.int q2), .val (.ref b4), .val (.ref b9), .val (.ref b12), .unset] [(.int (0 : Int32)), (.ref b12)])) (fun t k => XS.iconst X26.here hx rfl (hb hby at_74) k) ?_
  refine step (T26.setTop (mkF m 76 #[.val (.int p0), .val (.int p1), .val (.int p2), .val (.int p3), .val (.int p4), .val (.int q0), .val (.int q1), .val (.int q2), .val (.ref b4), .val (.ref b9), .val (.ref b12), .unset] [.null, (.int (0 : Int32)), (.ref b12)])) (fun t k => XS.aconstNull X26.here hx rfl (hb hby at_75) k) ?_
  refine step (T26.setTop (mkF m 78 #[.val (.int p0), .val (.int p1), .val (.int p2), .val (.int p3), .val (.int p4), .val (.int q0), .val (.int q1), .val (.int q2), .val (.ref b4), .val (.ref b9), .val (.ref b12), .unset] [(.int q1), .null, (.int (0 : Int32)), (.ref b12)])) (fun t k => XS.iload X26.here hx rfl (hb hby at_76) rfl k) ?_
  have f29 := (f25.keep K26q)
  have f30 := (q13_16.keep K26q (ninS ne_b10_b23_16 (ninS ne_b10_b31_16 (ninS ne_b10_b44_16 (ninS (Ne.symm ne_b12_b10_16) nin0)))))
  have f31 := (q14_16.keep K26q (ninS ne_b16_b23_16 (ninS ne_b16_b31_16 (ninS ne_b16_b44_16 (ninS (Ne.symm ne_b12_b16_16) nin0)))))
  have f32 := (q11_16.keep K26q)
  obtain ⟨cq33, kq33, q33a, q33b, q33c⟩ := isOf hZ e26 f29
  obtain ⟨_, _, ⟨T33, L33, k33, n33⟩, -, X33, ⟨Lc33, hQ33, l33, y33, z33⟩, st33⟩ := X26.virtualBack hx (y := (⟨"com/example/qopa/qopa/model/ModelBuilder", "add", "(ILcom/example/qopa/qopa/math/Rational;I)V"⟩ : MethodName)) (z := (⟨"com/example/qopa/qopa/model/ModelBuilder", "add", "(ILcom/example/qopa/qopa/math/Rational;I)V"⟩ : MethodName)) hown (mvT hZ (hw _ (List.mem_of_getElem? (i := 48) rfl))) (mvT hZ (hw _ (List.mem_of_getElem? (i := 49) rfl))) (notFace_of_selects (args := #[]) (mvT hZ (hw _ (List.mem_of_getElem? (i := 51) rfl)))) (mvT hZ (hw _ (List.mem_of_getElem? (i := 51) rfl))) (mvT hZ (hw _ (List.mem_of_getElem? (i := 50) rfl))) (by decide) (backOf (W := 0) (rm6_7 l Z a0 hw [] b12 q1 b44_16 b10_16 b16_16 b31_16 b2_16 b23_16 k44_16 q0 k10_16 k16_16 k31_16 k23_16 h26 n0 (Nat.le_trans Z0 K26.1) f29 q3_26 q4_26 q5_26 q6_26 q7_26 q8_26 q9_26 q10_26 q11_26 q12_26 q13_26 q2_26 f30 f31 q1_26 ov0_16 f32 q0_26 gn_b12 ne_b12_b44_16 ne_b12_b10_16 ne_b12_b16_16 ne_b12_b31_16 ne_b12_b2_16 ne_b12_b23_16 gn_b44_16 (Ne.symm ne_b10_b44_16) (Ne.symm ne_b16_b44_16) (Ne.symm ne_b31_b44_16) (Ne.symm ne_b2_b44_16) (Ne.symm ne_b23_b44_16) gn_b10_16 ne_b10_b16_16 ne_b10_b31_16 ne_b10_b2_16 ne_b10_b23_16 gn_b16_16 ne_b16_b31_16 ne_b16_b2_16 ne_b16_b23_16 gn_b31_16 (Ne.symm ne_b2_b31_16) (Ne.symm ne_b23_b31_16) gn_b2_16 ne_b2_b23_16 gn_b23_16 lo_a0 hi_a0 lo_a1 hi_a1) hZ (hw _ (List.mem_of_getElem? (i := 52) rfl)) (hw _ (List.mem_of_getElem? (i := 7) rfl)) (by decide) (by decide)) q33a q33c (g := (mkF m 78 #[.val (.int p0), .val (.int p1), .val (.int p2), .val (.int p3), .val (.int p4), .val (.int q0), .val (.int q1), .val (.int q2), .val (.ref b4), .val (.ref b9), .val (.ref b12), .unset] [(.int q1), .null, (.int (0 : Int32)), (.ref b12)])) rfl (by rw [hml]; rfl) (Steps.refl _) (argsL := [(.int (0 : Int32)), .null, (.int q1)]) (rest := []) (lenOf pd_2 rfl) rfl (by show 2 * 0 + _ ≤ _; exact Nat.le_of_eq rfl) (hb hby at_78) (fun _ _ => ⟨rfl, e26, (by decide : 9 + 0 ≤ _), (by decide : 34 + 0 ≤ _)⟩)
  dsimp only [Pt.U, Pt.locs, Pt.cells, Pt.slots] at X33 l33 y33 z33 st33 hQ33
  subst l33 y33 z33
  obtain ⟨h33, e33⟩ : ∃ z, T33.heap = z := ⟨_, rfl⟩
  rw [e33] at hQ33
  obtain ⟨rfl, N33q, K33q, q0_33, q1_33, q2_33, q3_33, q4_33, q5_33, q6_33, q7_33, q8_33, q9_33, q10_33, q11_33, q12_33, q13_33⟩ := hQ33
  have N33 := Fr.app N26 N33q
  have K33 : Keep h0 h33 [] := K26.trans K33q (allS (Or.inr sz_b23_16) (allS (Or.inr sz_b31_16) (allS (Or.inr sz_b44_16) (allS (Or.inr sz_b12) all0))))
  have f34 := own_staK f27 K33q (allS (own_arvP q0_26) (allS (own_arvP q1_26) (allS (own_arvP q2_26) (allS (own_exaP f29) all0))))
  have f35 := own_staK f28 K33q (allS (own_arvP q0_26) (allS (own_arvP q1_26) (allS (own_arvP q2_26) (allS (own_exaP f29) all0))))
  refine step (T33.setTop (mkF m 81 #[.val (.int p0), .val (.int p1), .val (.int p2), .val (.int p3), .val (.int p4), .val (.int q0), .val (.int q1), .val (.int q2), .val (.ref b4), .val (.ref b9), .val (.ref b12), .unset] [])) (fun t k => st33.trans k) ?_
  refine step (T33.setTop (mkF m 83 #[.val (.int p0), .val (.int p1), .val (.int p2), .val (.int p3), .val (.int p4), .val (.int q0), .val (.int q1), .val (.int q2), .val (.ref b4), .val (.ref b9), .val (.ref b12), .unset] [(.ref b12)])) (fun t k => XS.aload X33.here hx rfl (hb hby at_81) rfl rfl k) ?_
  refine step (T33.setTop (mkF m 84 #[.val (.int p0), .val (.int p1), .val (.int p2), .val (.int p3), .val (.int p4), .val (.int q0), .val (.int q1), .val (.int q2), .val (.ref b4), .val (.ref b9), .val (.ref b12), .unset] [(.int (0 : Int32)), (.ref b12)])) (fun t k => XS.iconst X33.here hx rfl (hb hby at_83) k) ?_
  refine step (T33.setTop (mkF m 85 #[.val (.int p0), .val (.int p1), .val (.int p2), .val (.int p3), .val (.int p4), .val (.int q0), .val (.int q1), .val (.int q2), .val (.ref b4), .val (.ref b9), .val (.ref b12), .unset] [.null, (.int (0 : Int32)), (.ref b12)])) (fun t k => XS.aconstNull X33.here hx rfl (hb hby at_84) k) ?_
  refine step (T33.setTop (mkF m 87 #[.val (.int p0), .val (.int p1), .val (.int p2), .val (.int p3), .val (.int p4), .val (.int q0), .val (.int q1), .val (.int q2), .val (.ref b4), .val (.ref b9), .val (.ref b12), .unset] [(.int q2), .null, (.int (0 : Int32)), (.ref b12)])) (fun t k => XS.iload X33.here hx rfl (hb hby at_85) rfl k) ?_
  have f36 := (f29.keep K33q)
  have f37 := (f30.keep K33q (ninS ne_b10_b23_16 (ninS ne_b10_b31_16 (ninS ne_b10_b44_16 (ninS (Ne.symm ne_b12_b10_16) nin0)))))
  have f38 := (f31.keep K33q (ninS ne_b16_b23_16 (ninS ne_b16_b31_16 (ninS ne_b16_b44_16 (ninS (Ne.symm ne_b12_b16_16) nin0)))))
  have f39 := (f32.keep K33q)
  obtain ⟨cq40, kq40, q40a, q40b, q40c⟩ := isOf hZ e33 f36
  obtain ⟨_, _, ⟨T40, L40, k40, n40⟩, -, X40, ⟨Lc40, hQ40, l40, y40, z40⟩, st40⟩ := X33.virtualBack hx (y := (⟨"com/example/qopa/qopa/model/ModelBuilder", "add", "(ILcom/example/qopa/qopa/math/Rational;I)V"⟩ : MethodName)) (z := (⟨"com/example/qopa/qopa/model/ModelBuilder", "add", "(ILcom/example/qopa/qopa/math/Rational;I)V"⟩ : MethodName)) hown (mvT hZ (hw _ (List.mem_of_getElem? (i := 48) rfl))) (mvT hZ (hw _ (List.mem_of_getElem? (i := 49) rfl))) (notFace_of_selects (args := #[]) (mvT hZ (hw _ (List.mem_of_getElem? (i := 51) rfl)))) (mvT hZ (hw _ (List.mem_of_getElem? (i := 51) rfl))) (mvT hZ (hw _ (List.mem_of_getElem? (i := 50) rfl))) (by decide) (backOf (W := 0) (rm6_9 l Z a0 hw [] b12 q2 b44_16 b10_16 b16_16 b31_16 b2_16 b23_16 k44_16 q0 q1 k10_16 k16_16 k31_16 k23_16 h33 n0 (Nat.le_trans Z0 K33.1) f36 q3_33 q4_33 q5_33 q6_33 q7_33 q8_33 q9_33 q10_33 q11_33 q12_33 q13_33 q2_33 f37 f38 q1_33 ov0_16 f39 q0_33 gn_b12 ne_b12_b44_16 ne_b12_b10_16 ne_b12_b16_16 ne_b12_b31_16 ne_b12_b2_16 ne_b12_b23_16 gn_b44_16 (Ne.symm ne_b10_b44_16) (Ne.symm ne_b16_b44_16) (Ne.symm ne_b31_b44_16) (Ne.symm ne_b2_b44_16) (Ne.symm ne_b23_b44_16) gn_b10_16 ne_b10_b16_16 ne_b10_b31_16 ne_b10_b2_16 ne_b10_b23_16 gn_b16_16 ne_b16_b31_16 ne_b16_b2_16 ne_b16_b23_16 gn_b31_16 (Ne.symm ne_b2_b31_16) (Ne.symm ne_b23_b31_16) gn_b2_16 ne_b2_b23_16 gn_b23_16 lo_a0 hi_a0 lo_a1 hi_a1 lo_a2 hi_a2) hZ (hw _ (List.mem_of_getElem? (i := 52) rfl)) (hw _ (List.mem_of_getElem? (i := 7) rfl)) (by decide) (by decide)) q40a q40c (g := (mkF m 87 #[.val (.int p0), .val (.int p1), .val (.int p2), .val (.int p3), .val (.int p4), .val (.int q0), .val (.int q1), .val (.int q2), .val (.ref b4), .val (.ref b9), .val (.ref b12), .unset] [(.int q2), .null, (.int (0 : Int32)), (.ref b12)])) rfl (by rw [hml]; rfl) (Steps.refl _) (argsL := [(.int (0 : Int32)), .null, (.int q2)]) (rest := []) (lenOf pd_2 rfl) rfl (by show 2 * 0 + _ ≤ _; exact Nat.le_of_eq rfl) (hb hby at_87) (fun _ _ => ⟨rfl, e33, (by decide : 9 + 0 ≤ _), (by decide : 34 + 0 ≤ _)⟩)
  dsimp only [Pt.U, Pt.locs, Pt.cells, Pt.slots] at X40 l40 y40 z40 st40 hQ40
  subst l40 y40 z40
  obtain ⟨h40, e40⟩ : ∃ z, T40.heap = z := ⟨_, rfl⟩
  rw [e40] at hQ40
  obtain ⟨rfl, N40q, K40q, q0_40, q1_40, q2_40, q3_40, q4_40, q5_40, q6_40, q7_40, q8_40, q9_40, q10_40, q11_40, q12_40, q13_40⟩ := hQ40
  have N40 := Fr.app N33 N40q
  have K40 : Keep h0 h40 [] := K33.trans K40q (allS (Or.inr sz_b23_16) (allS (Or.inr sz_b31_16) (allS (Or.inr sz_b44_16) (allS (Or.inr sz_b12) all0))))
  have f41 := own_staK f34 K40q (allS (own_arvP q0_33) (allS (own_arvP q1_33) (allS (own_arvP q2_33) (allS (own_exaP f36) all0))))
  have f42 := own_staK f35 K40q (allS (own_arvP q0_33) (allS (own_arvP q1_33) (allS (own_arvP q2_33) (allS (own_exaP f36) all0))))
  refine step (T40.setTop (mkF m 90 #[.val (.int p0), .val (.int p1), .val (.int p2), .val (.int p3), .val (.int p4), .val (.int q0), .val (.int q1), .val (.int q2), .val (.ref b4), .val (.ref b9), .val (.ref b12), .unset] [])) (fun t k => st40.trans k) ?_
  refine step (T40.setTop (mkF m 92 #[.val (.int p0), .val (.int p1), .val (.int p2), .val (.int p3), .val (.int p4), .val (.int q0), .val (.int q1), .val (.int q2), .val (.ref b4), .val (.ref b9), .val (.ref b12), .unset] [(.ref b12)])) (fun t k => XS.aload X40.here hx rfl (hb hby at_90) rfl rfl k) ?_
  refine step (T40.setTop (mkF m 94 #[.val (.int p0), .val (.int p1), .val (.int p2), .val (.int p3), .val (.int p4), .val (.int q0), .val (.int q1), .val (.int q2), .val (.ref b4), .val (.ref b9), .val (.ref b12), .unset] [(.ref b4), (.ref b12)])) (fun t k => XS.aload X40.here hx rfl (hb hby at_92) rfl rfl k) ?_
  have f43 := (f36.keep K40q)
  have f44 := ((((f19.keep K16q (ninS ne_b4_b12 nin0)).keep K26q (ninS ne_b4_b23_16 (ninS ne_b4_b31_16 (ninS ne_b4_b44_16 (ninS ne_b4_b12 nin0))))).keep K33q (ninS ne_b4_b23_16 (ninS ne_b4_b31_16 (ninS ne_b4_b44_16 (ninS ne_b4_b12 nin0))))).keep K40q (ninS ne_b4_b23_16 (ninS ne_b4_b31_16 (ninS ne_b4_b44_16 (ninS ne_b4_b12 nin0)))))
  obtain ⟨cq45, kq45, q45a, q45b, q45c⟩ := isOf hZ e40 f43
  obtain ⟨_, _, ⟨T45, L45, k45, n45⟩, -, X45, ⟨Lc45, hQ45, l45, y45, z45⟩, st45⟩ := X40.virtualBack hx (y := (⟨"com/example/qopa/qopa/model/ModelBuilder", "renumberActions", "([I)V"⟩ : MethodName)) (z := (⟨"com/example/qopa/qopa/model/ModelBuilder", "renumberActions", "([I)V"⟩ : MethodName)) hown (mvT hZ (hw _ (List.mem_of_getElem? (i := 60) rfl))) (mvT hZ (hw _ (List.mem_of_getElem? (i := 61) rfl))) (notFace_of_selects (args := #[]) (mvT hZ (hw _ (List.mem_of_getElem? (i := 63) rfl)))) (mvT hZ (hw _ (List.mem_of_getElem? (i := 63) rfl))) (mvT hZ (hw _ (List.mem_of_getElem? (i := 62) rfl))) (by decide) (backOf (W := 0) (rm8_11 l Z a0 hw [] b12 b4 b44_16 k4 p1 p2 p3 p4 k44_16 q0 q1 q2 h40 n0 (Nat.le_trans Z0 K40.1) f43 q3_40 q12_40 f44 q2_40 gn_b12 (Ne.symm ne_b4_b12) ne_b12_b44_16 gn_b4 ne_b4_b44_16 gn_b44_16 lo_a0 hi_a0 lo_a1 hi_a1 lo_a2 hi_a2) hZ (hw _ (List.mem_of_getElem? (i := 64) rfl)) (hw _ (List.mem_of_getElem? (i := 7) rfl)) (by decide) (by decide)) q45a q45c (g := (mkF m 94 #[.val (.int p0), .val (.int p1), .val (.int p2), .val (.int p3), .val (.int p4), .val (.int q0), .val (.int q1), .val (.int q2), .val (.ref b4), .val (.ref b9), .val (.ref b12), .unset] [(.ref b4), (.ref b12)])) rfl (by rw [hml]; rfl) (Steps.refl _) (argsL := [(.ref b4)]) (rest := []) (lenOf pd_3 rfl) rfl (by show 2 * 0 + _ ≤ _; exact Nat.le_of_eq rfl) (hb hby at_94) (fun _ _ => ⟨rfl, e40, (by decide : 9 + 0 ≤ _), (by decide : 34 + 0 ≤ _)⟩)
  dsimp only [Pt.U, Pt.locs, Pt.cells, Pt.slots] at X45 l45 y45 z45 st45 hQ45
  subst l45 y45 z45
  obtain ⟨h45, e45⟩ : ∃ z, T45.heap = z := ⟨_, rfl⟩
  rw [e45] at hQ45
  obtain ⟨y1_45, y2_45, y3_45, rfl, N45q, K45q, hy1_45, hy2_45, hy3_45, q0_45⟩ := hQ45
  have N45 := Fr.app N40 N45q
  have K45 : Keep h0 h45 [] := K40.trans K45q (allS (Or.inr sz_b44_16) all0)
  have f46 := own_staK f41 K45q (allS (own_arvP q2_40) all0)
  have f47 := own_staK f42 K45q (allS (own_arvP q2_40) all0)
  refine step (T45.setTop (mkF m 97 #[.val (.int p0), .val (.int p1), .val (.int p2), .val (.int p3), .val (.int p4), .val (.int q0), .val (.int q1), .val (.int q2), .val (.ref b4), .val (.ref b9), .val (.ref b12), .unset] [])) (fun t k => st45.trans k) ?_
  refine step (T45.setTop (mkF m 99 #[.val (.int p0), .val (.int p1), .val (.int p2), .val (.int p3), .val (.int p4), .val (.int q0), .val (.int q1), .val (.int q2), .val (.ref b4), .val (.ref b9), .val (.ref b12), .unset] [(.ref b12)])) (fun t k => XS.aload X45.here hx rfl (hb hby at_97) rfl rfl k) ?_
  obtain ⟨T48, X48, e48, st48⟩ := getS2 X45 hx hZ hown (host := "") (Or.inl (hw _ (List.mem_of_getElem? (i := 65) rfl))) Via.refl e45 f46 (g := (mkF m 99 #[.val (.int p0), .val (.int p1), .val (.int p2), .val (.int p3), .val (.int p4), .val (.int q0), .val (.int q1), .val (.int q2), .val (.ref b4), .val (.ref b9), .val (.ref b12), .unset] [(.ref b12)])) rfl (hb hby at_99)
  refine step (T48.setTop (mkF m 102 #[.val (.int p0), .val (.int p1), .val (.int p2), .val (.int p3), .val (.int p4), .val (.int q0), .val (.int q1), .val (.int q2), .val (.ref b4), .val (.ref b9), .val (.ref b12), .unset] [(.ref aM), (.ref b12)])) (fun t k => st48 t k) ?_
  refine step (T48.setTop (mkF m 104 #[.val (.int p0), .val (.int p1), .val (.int p2), .val (.int p3), .val (.int p4), .val (.int q0), .val (.int q1), .val (.int q2), .val (.ref b4), .val (.ref b9), .val (.ref b12), .unset] [(.ref b9), (.ref aM), (.ref b12)])) (fun t k => XS.aload X48.here hx rfl (hb hby at_102) rfl rfl k) ?_
  refine step (T48.setTop (mkF m 105 #[.val (.int p0), .val (.int p1), .val (.int p2), .val (.int p3), .val (.int p4), .val (.int q0), .val (.int q1), .val (.int q2), .val (.ref b4), .val (.ref b9), .val (.ref b12), .unset] [.null, (.ref b9), (.ref aM), (.ref b12)])) (fun t k => XS.aconstNull X48.here hx rfl (hb hby at_104) k) ?_
  refine step (T48.setTop (mkF m 106 #[.val (.int p0), .val (.int p1), .val (.int p2), .val (.int p3), .val (.int p4), .val (.int q0), .val (.int q1), .val (.int q2), .val (.ref b4), .val (.ref b9), .val (.ref b12), .unset] [.null, .null, (.ref b9), (.ref aM), (.ref b12)])) (fun t k => XS.aconstNull X48.here hx rfl (hb hby at_105) k) ?_
  have f49 := (f43.keep K45q)
  have f50 := (q3_40.keep K45q (ninS ne_b12_b44_16 nin0))
  have f51 := (q4_40.keep K45q (ninS ne_b12_b44_16 nin0))
  have f52 := (q5_40.keep K45q (ninS ne_b12_b44_16 nin0))
  have f53 := (q6_40.keep K45q (ninS ne_b12_b44_16 nin0))
  have f54 := (q7_40.keep K45q (ninS ne_b12_b44_16 nin0))
  have f55 := (q8_40.keep K45q (ninS ne_b12_b44_16 nin0))
  have f56 := (q9_40.keep K45q (ninS ne_b12_b44_16 nin0))
  have f57 := (q10_40.keep K45q (ninS ne_b12_b44_16 nin0))
  have f58 := (q11_40.keep K45q (ninS ne_b12_b44_16 nin0))
  have f59 := (q12_40.keep K45q (ninS ne_b12_b44_16 nin0))
  have f60 := (q13_40.keep K45q (ninS ne_b12_b44_16 nin0))
  have f61 := (((((f17.keep K16q).keep K26q).keep K33q).keep K40q).keep K45q)
  have f62 := (((((f20.keep K16q (ninS ne_b9_b12 nin0)).keep K26q (ninS ne_b9_b23_16 (ninS ne_b9_b31_16 (ninS ne_b9_b44_16 (ninS ne_b9_b12 nin0))))).keep K33q (ninS ne_b9_b23_16 (ninS ne_b9_b31_16 (ninS ne_b9_b44_16 (ninS ne_b9_b12 nin0))))).keep K40q (ninS ne_b9_b23_16 (ninS ne_b9_b31_16 (ninS ne_b9_b44_16 (ninS ne_b9_b12 nin0))))).keep K45q (ninS ne_b9_b44_16 nin0))
  have f63 := (((((f18.keep K16q).keep K26q).keep K33q).keep K40q).keep K45q)
  have f64 := ((f37.keep K40q (ninS ne_b10_b23_16 (ninS ne_b10_b31_16 (ninS ne_b10_b44_16 (ninS (Ne.symm ne_b12_b10_16) nin0))))).keep K45q (ninS ne_b10_b44_16 nin0))
  have f65 := ((f38.keep K40q (ninS ne_b16_b23_16 (ninS ne_b16_b31_16 (ninS ne_b16_b44_16 (ninS (Ne.symm ne_b12_b16_16) nin0))))).keep K45q (ninS ne_b16_b44_16 nin0))
  have f66 := (q1_40.keep K45q (ninS ne_b31_b44_16 nin0))
  have f67 := ((f39.keep K40q).keep K45q)
  have f68 := ((((q12_16.keep K26q (ninS ne_b2_b23_16 (ninS ne_b2_b31_16 (ninS ne_b2_b44_16 (ninS (Ne.symm ne_b12_b2_16) nin0))))).keep K33q (ninS ne_b2_b23_16 (ninS ne_b2_b31_16 (ninS ne_b2_b44_16 (ninS (Ne.symm ne_b12_b2_16) nin0))))).keep K40q (ninS ne_b2_b23_16 (ninS ne_b2_b31_16 (ninS ne_b2_b44_16 (ninS (Ne.symm ne_b12_b2_16) nin0))))).keep K45q (ninS ne_b2_b44_16 nin0))
  have f69 := (q0_40.keep K45q (ninS ne_b23_b44_16 nin0))
  obtain ⟨cq70, kq70, q70a, q70b, q70c⟩ := isOf hZ e48 f49
  obtain ⟨_, _, ⟨T70, L70, k70, n70⟩, -, X70, ⟨Lc70, hQ70, l70, y70, z70⟩, st70⟩ := X48.virtualBack hx (y := (⟨"com/example/qopa/qopa/model/ModelBuilder", "build", "(Lcom/example/qopa/qopa/model/Model$Kind;[ILcom/example/qopa/qopa/model/Actions;Ljava/util/Map;)Lcom/example/qopa/qopa/model/Model;"⟩ : MethodName)) (z := (⟨"com/example/qopa/qopa/model/ModelBuilder", "build", "(Lcom/example/qopa/qopa/model/Model$Kind;[ILcom/example/qopa/qopa/model/Actions;Ljava/util/Map;)Lcom/example/qopa/qopa/model/Model;"⟩ : MethodName)) hown (mvT hZ (hw _ (List.mem_of_getElem? (i := 68) rfl))) (mvT hZ (hw _ (List.mem_of_getElem? (i := 69) rfl))) (notFace_of_selects (args := #[]) (mvT hZ (hw _ (List.mem_of_getElem? (i := 71) rfl)))) (mvT hZ (hw _ (List.mem_of_getElem? (i := 71) rfl))) (mvT hZ (hw _ (List.mem_of_getElem? (i := 70) rfl))) (by decide) (backOf (W := 0) (rm9_12 l Z a0 hw [] b12 aM b9 aI b44_16 b10_16 b16_16 b31_16 b2_16 b23_16 k9 k44_16 y1_45 y2_45 y3_45 k10_16 k16_16 k31_16 k23_16 h45 n0 (Nat.le_trans Z0 K45.1) f46 f47 f49 f50 f51 f52 f53 f54 f55 f56 f57 f58 f59 f60 f61 f62 f63 q0_45 f64 f65 f66 ov0_16 f67 f68 f69 gn_b12 (Ne.symm ne_aM_b12) (Ne.symm ne_b9_b12) (Ne.symm ne_aI_b12) ne_b12_b44_16 ne_b12_b10_16 ne_b12_b16_16 ne_b12_b31_16 ne_b12_b2_16 ne_b12_b23_16 ne_aM_b9 ne_MI ne_aM_b44_16 ne_aM_b10_16 ne_aM_b16_16 ne_aM_b31_16 ne_aM_b2_16 gn_b9 (Ne.symm ne_aI_b9) ne_b9_b44_16 ne_b9_b10_16 ne_b9_b16_16 ne_b9_b31_16 ne_b9_b2_16 ne_aI_b44_16 ne_aI_b10_16 ne_aI_b16_16 ne_aI_b31_16 ne_aI_b2_16 gn_b44_16 (Ne.symm ne_b10_b44_16) (Ne.symm ne_b16_b44_16) (Ne.symm ne_b31_b44_16) (Ne.symm ne_b2_b44_16) gn_b10_16 ne_b10_b16_16 ne_b10_b31_16 ne_b10_b2_16 gn_b16_16 ne_b16_b31_16 ne_b16_b2_16 gn_b31_16 (Ne.symm ne_b2_b31_16) gn_b2_16 gn_b23_16 (Ne.symm ne_aM_b23_16) (Ne.symm ne_b9_b23_16) (Ne.symm ne_aI_b23_16) ne_b23_b44_16 (Ne.symm ne_b10_b23_16) (Ne.symm ne_b16_b23_16) ne_b23_b31_16 (Ne.symm ne_b2_b23_16)) hZ (hw _ (List.mem_of_getElem? (i := 72) rfl)) (hw _ (List.mem_of_getElem? (i := 7) rfl)) (by decide) (by decide)) q70a q70c (g := (mkF m 106 #[.val (.int p0), .val (.int p1), .val (.int p2), .val (.int p3), .val (.int p4), .val (.int q0), .val (.int q1), .val (.int q2), .val (.ref b4), .val (.ref b9), .val (.ref b12), .unset] [.null, .null, (.ref b9), (.ref aM), (.ref b12)])) rfl (by rw [hml]; rfl) (Steps.refl _) (argsL := [(.ref aM), (.ref b9), .null, .null]) (rest := []) (lenOf pd_4 rfl) rfl (by show 2 * 0 + _ ≤ _; exact Nat.le_of_eq rfl) (hb hby at_106) (fun _ _ => ⟨rfl, e48, (by decide : 9 + 3 ≤ _), (by decide : 34 + 16 ≤ _)⟩)
  dsimp only [Pt.U, Pt.locs, Pt.cells, Pt.slots] at X70 l70 y70 z70 st70 hQ70
  subst l70 y70 z70
  obtain ⟨h70, e70⟩ : ∃ z, T70.heap = z := ⟨_, rfl⟩
  rw [e70] at hQ70
  obtain ⟨b5_70, b2_35_70, b2_9_3_35_70, k2_9_3_35_70, rfl, N70q, K70q, sz_b5_70, sz_b2_35_70, sz_b2_9_3_35_70, ne_b2_35_b5_70, ne_b2_35_b2_9_3_35_70, ne_b2_9_3_35_b5_70, q0_70, q1_70, q2_70, q3_70, q4_70, q5_70, q6_70, q7_70, q8_70, q9_70, q10_70, q11_70, q12_70, q13_70, q14_70, q15_70, q16_70, q17_70⟩ := hQ70
  have N70 := Fr.app N45 N70q
  have lt70_aM := f61.lt
  have lt70_aI := f63.lt
  have f71 := (f44.keep K45q (ninS ne_b4_b44_16 nin0))
  have lt70_b4 := f71.lt
  have lt70_b9 := f62.lt
  have lt70_b12 := f49.lt
  have lt70_b2_16 := f67.lt
  have lt70_b10_16 := f64.lt
  have lt70_b16_16 := f65.lt
  have lt70_b23_16 := f69.lt
  have lt70_b31_16 := f66.lt
  have lt70_b44_16 := q0_45.lt
  have ne_aM_b5_70 : aM ≠ b5_70 := Nat.ne_of_lt (Nat.lt_of_lt_of_le lt70_aM sz_b5_70)
  have ne_aI_b5_70 : aI ≠ b5_70 := Nat.ne_of_lt (Nat.lt_of_lt_of_le lt70_aI sz_b5_70)
  have ne_b4_b5_70 : b4 ≠ b5_70 := Nat.ne_of_lt (Nat.lt_of_lt_of_le lt70_b4 sz_b5_70)
  have ne_b9_b5_70 : b9 ≠ b5_70 := Nat.ne_of_lt (Nat.lt_of_lt_of_le lt70_b9 sz_b5_70)
  have ne_b12_b5_70 : b12 ≠ b5_70 := Nat.ne_of_lt (Nat.lt_of_lt_of_le lt70_b12 sz_b5_70)
  have ne_b2_16_b5_70 : b2_16 ≠ b5_70 := Nat.ne_of_lt (Nat.lt_of_lt_of_le lt70_b2_16 sz_b5_70)
  have ne_b10_16_b5_70 : b10_16 ≠ b5_70 := Nat.ne_of_lt (Nat.lt_of_lt_of_le lt70_b10_16 sz_b5_70)
  have ne_b16_16_b5_70 : b16_16 ≠ b5_70 := Nat.ne_of_lt (Nat.lt_of_lt_of_le lt70_b16_16 sz_b5_70)
  have ne_b23_16_b5_70 : b23_16 ≠ b5_70 := Nat.ne_of_lt (Nat.lt_of_lt_of_le lt70_b23_16 sz_b5_70)
  have ne_b31_16_b5_70 : b31_16 ≠ b5_70 := Nat.ne_of_lt (Nat.lt_of_lt_of_le lt70_b31_16 sz_b5_70)
  have ne_b44_16_b5_70 : b44_16 ≠ b5_70 := Nat.ne_of_lt (Nat.lt_of_lt_of_le lt70_b44_16 sz_b5_70)
  have gn_b5_70 : n0 ≤ b5_70 := Nat.le_trans (Nat.le_trans Z0 K45.1) sz_b5_70
  have sz_b5_70' := Nat.le_trans K45.1 sz_b5_70
  replace sz_b5_70 := sz_b5_70'
  have ne_aM_b2_35_70 : aM ≠ b2_35_70 := Nat.ne_of_lt (Nat.lt_of_lt_of_le lt70_aM sz_b2_35_70)
  have ne_aI_b2_35_70 : aI ≠ b2_35_70 := Nat.ne_of_lt (Nat.lt_of_lt_of_le lt70_aI sz_b2_35_70)
  have ne_b4_b2_35_70 : b4 ≠ b2_35_70 := Nat.ne_of_lt (Nat.lt_of_lt_of_le lt70_b4 sz_b2_35_70)
  have ne_b9_b2_35_70 : b9 ≠ b2_35_70 := Nat.ne_of_lt (Nat.lt_of_lt_of_le lt70_b9 sz_b2_35_70)
  have ne_b12_b2_35_70 : b12 ≠ b2_35_70 := Nat.ne_of_lt (Nat.lt_of_lt_of_le lt70_b12 sz_b2_35_70)
  have ne_b2_16_b2_35_70 : b2_16 ≠ b2_35_70 := Nat.ne_of_lt (Nat.lt_of_lt_of_le lt70_b2_16 sz_b2_35_70)
  have ne_b10_16_b2_35_70 : b10_16 ≠ b2_35_70 := Nat.ne_of_lt (Nat.lt_of_lt_of_le lt70_b10_16 sz_b2_35_70)
  have ne_b16_16_b2_35_70 : b16_16 ≠ b2_35_70 := Nat.ne_of_lt (Nat.lt_of_lt_of_le lt70_b16_16 sz_b2_35_70)
  have ne_b23_16_b2_35_70 : b23_16 ≠ b2_35_70 := Nat.ne_of_lt (Nat.lt_of_lt_of_le lt70_b23_16 sz_b2_35_70)
  have ne_b31_16_b2_35_70 : b31_16 ≠ b2_35_70 := Nat.ne_of_lt (Nat.lt_of_lt_of_le lt70_b31_16 sz_b2_35_70)
  have ne_b44_16_b2_35_70 : b44_16 ≠ b2_35_70 := Nat.ne_of_lt (Nat.lt_of_lt_of_le lt70_b44_16 sz_b2_35_70)
  have gn_b2_35_70 : n0 ≤ b2_35_70 := Nat.le_trans (Nat.le_trans Z0 K45.1) sz_b2_35_70
  have sz_b2_35_70' := Nat.le_trans K45.1 sz_b2_35_70
  replace sz_b2_35_70 := sz_b2_35_70'
  have ne_aM_b2_9_3_35_70 : aM ≠ b2_9_3_35_70 := Nat.ne_of_lt (Nat.lt_of_lt_of_le lt70_aM sz_b2_9_3_35_70)
  have ne_aI_b2_9_3_35_70 : aI ≠ b2_9_3_35_70 := Nat.ne_of_lt (Nat.lt_of_lt_of_le lt70_aI sz_b2_9_3_35_70)
  have ne_b4_b2_9_3_35_70 : b4 ≠ b2_9_3_35_70 := Nat.ne_of_lt (Nat.lt_of_lt_of_le lt70_b4 sz_b2_9_3_35_70)
  have ne_b9_b2_9_3_35_70 : b9 ≠ b2_9_3_35_70 := Nat.ne_of_lt (Nat.lt_of_lt_of_le lt70_b9 sz_b2_9_3_35_70)
  have ne_b12_b2_9_3_35_70 : b12 ≠ b2_9_3_35_70 := Nat.ne_of_lt (Nat.lt_of_lt_of_le lt70_b12 sz_b2_9_3_35_70)
  have ne_b2_16_b2_9_3_35_70 : b2_16 ≠ b2_9_3_35_70 := Nat.ne_of_lt (Nat.lt_of_lt_of_le lt70_b2_16 sz_b2_9_3_35_70)
  have ne_b10_16_b2_9_3_35_70 : b10_16 ≠ b2_9_3_35_70 := Nat.ne_of_lt (Nat.lt_of_lt_of_le lt70_b10_16 sz_b2_9_3_35_70)
  have ne_b16_16_b2_9_3_35_70 : b16_16 ≠ b2_9_3_35_70 := Nat.ne_of_lt (Nat.lt_of_lt_of_le lt70_b16_16 sz_b2_9_3_35_70)
  have ne_b23_16_b2_9_3_35_70 : b23_16 ≠ b2_9_3_35_70 := Nat.ne_of_lt (Nat.lt_of_lt_of_le lt70_b23_16 sz_b2_9_3_35_70)
  have ne_b31_16_b2_9_3_35_70 : b31_16 ≠ b2_9_3_35_70 := Nat.ne_of_lt (Nat.lt_of_lt_of_le lt70_b31_16 sz_b2_9_3_35_70)
  have ne_b44_16_b2_9_3_35_70 : b44_16 ≠ b2_9_3_35_70 := Nat.ne_of_lt (Nat.lt_of_lt_of_le lt70_b44_16 sz_b2_9_3_35_70)
  have gn_b2_9_3_35_70 : n0 ≤ b2_9_3_35_70 := Nat.le_trans (Nat.le_trans Z0 K45.1) sz_b2_9_3_35_70
  have sz_b2_9_3_35_70' := Nat.le_trans K45.1 sz_b2_9_3_35_70
  replace sz_b2_9_3_35_70 := sz_b2_9_3_35_70'
  have K70 : Keep h0 h70 [] := K45.trans K70q all0
  have f72 := own_staK f46 K70q all0
  have f73 := own_staK f47 K70q all0
  refine step (T70.setTop (mkF m 109 #[.val (.int p0), .val (.int p1), .val (.int p2), .val (.int p3), .val (.int p4), .val (.int q0), .val (.int q1), .val (.int q2), .val (.ref b4), .val (.ref b9), .val (.ref b12), .unset] [(.ref b5_70)])) (fun t k => st70.trans k) ?_
  refine step (T70.setTop (mkF m 111 #[.val (.int p0), .val (.int p1), .val (.int p2), .val (.int p3), .val (.int p4), .val (.int q0), .val (.int q1), .val (.int q2), .val (.ref b4), .val (.ref b9), .val (.ref b12), .val (.ref b5_70)] [])) (fun t k => XS.astore X70.here hx rfl (hb hby at_109) rfl rfl (l' := #[.val (.int p0), .val (.int p1), .val (.int p2), .val (.int p3), .val (.int p4), .val (.int q0), .val (.int q1), .val (.int q2), .val (.ref b4), .val (.ref b9), .val (.ref b12), .val (.ref b5_70)]) rfl k) ?_
  refine step (T70.setTop (mkF m 113 #[.val (.int p0), .val (.int p1), .val (.int p2), .val (.int p3), .val (.int p4), .val (.int q0), .val (.int q1), .val (.int q2), .val (.ref b4), .val (.ref b9), .val (.ref b12), .val (.ref b5_70)] [(.ref b5_70)])) (fun t k => XS.aload X70.here hx rfl (hb hby at_111) rfl rfl k) ?_
  have f74 := (f69.keep K70q nin0)
  obtain ⟨cq75, kq75, q75a, q75b, q75c⟩ := isOf hZ e70 q0_70
  obtain ⟨_, _, ⟨T75, L75, k75, n75⟩, -, X75, ⟨Lc75, hQ75, l75, y75, z75⟩, st75⟩ := X70.virtualBack hx (y := (⟨"com/example/qopa/qopa/model/Model", "transitionCount", "()I"⟩ : MethodName)) (z := (⟨"com/example/qopa/qopa/model/Model", "transitionCount", "()I"⟩ : MethodName)) hown (mvT hZ (hw _ (List.mem_of_getElem? (i := 154) rfl))) (mvT hZ (hw _ (List.mem_of_getElem? (i := 155) rfl))) (notFace_of_selects (args := #[]) (mvT hZ (hw _ (List.mem_of_getElem? (i := 157) rfl)))) (mvT hZ (hw _ (List.mem_of_getElem? (i := 157) rfl))) (mvT hZ (hw _ (List.mem_of_getElem? (i := 156) rfl))) (by decide) (backOf (W := 0) (rm19_24 l Z a0 hw [] b5_70 b23_16 k23_16 h70 n0 (Nat.le_trans Z0 K70.1) q0_70 q10_70 f74 gn_b5_70 (Ne.symm ne_b23_16_b5_70) gn_b23_16) hZ (hw _ (List.mem_of_getElem? (i := 158) rfl)) (hw _ (List.mem_of_getElem? (i := 78) rfl)) (by decide) (by decide)) q75a q75c (g := (mkF m 113 #[.val (.int p0), .val (.int p1), .val (.int p2), .val (.int p3), .val (.int p4), .val (.int q0), .val (.int q1), .val (.int q2), .val (.ref b4), .val (.ref b9), .val (.ref b12), .val (.ref b5_70)] [(.ref b5_70)])) rfl (by rw [hml]; rfl) (Steps.refl _) (argsL := []) (rest := []) (lenOf pd_5 rfl) rfl (by show 2 * 0 + _ ≤ _; exact Nat.le_of_eq rfl) (hb hby at_113) (fun _ _ => ⟨rfl, e70, (by decide : 12 + 0 ≤ _), (by decide : 50 + 0 ≤ _)⟩)
  dsimp only [Pt.U, Pt.locs, Pt.cells, Pt.slots] at X75 l75 y75 z75 st75 hQ75
  subst l75 y75 z75
  obtain ⟨rfl, N75q, e75q⟩ := hQ75
  have N75 := Fr.app N70 N75q
  refine step (T75.setTop (mkF m 116 #[.val (.int p0), .val (.int p1), .val (.int p2), .val (.int p3), .val (.int p4), .val (.int q0), .val (.int q1), .val (.int q2), .val (.ref b4), .val (.ref b9), .val (.ref b12), .val (.ref b5_70)] [(.int (3 : Int32))])) (fun t k => st75.trans k) ?_
  refine step (T75.setTop (mkF m 117 #[.val (.int p0), .val (.int p1), .val (.int p2), .val (.int p3), .val (.int p4), .val (.int q0), .val (.int q1), .val (.int q2), .val (.ref b4), .val (.ref b9), .val (.ref b12), .val (.ref b5_70)] [(.int (3 : Int32)), (.int (3 : Int32))])) (fun t k => XS.iconst X75.here hx rfl (hb hby at_116) k) ?_
  refine step (T75.setTop (mkF m 120 #[.val (.int p0), .val (.int p1), .val (.int p2), .val (.int p3), .val (.int p4), .val (.int q0), .val (.int q1), .val (.int q2), .val (.ref b4), .val (.ref b9), .val (.ref b12), .val (.ref b5_70)] [])) (fun t k => XS.icmpNo X75.here hx rfl (hb hby at_117) rfl (teq (by decide : (3 : Int32) = (3 : Int32))).2 k) ?_
  refine step (T75.setTop (mkF m 122 #[.val (.int p0), .val (.int p1), .val (.int p2), .val (.int p3), .val (.int p4), .val (.int q0), .val (.int q1), .val (.int q2), .val (.ref b4), .val (.ref b9), .val (.ref b12), .val (.ref b5_70)] [(.ref b5_70)])) (fun t k => XS.aload X75.here hx rfl (hb hby at_120) rfl rfl k) ?_
  refine step (T75.setTop (mkF m 123 #[.val (.int p0), .val (.int p1), .val (.int p2), .val (.int p3), .val (.int p4), .val (.int q0), .val (.int q1), .val (.int q2), .val (.ref b4), .val (.ref b9), .val (.ref b12), .val (.ref b5_70)] [(.int (0 : Int32)), (.ref b5_70)])) (fun t k => XS.iconst X75.here hx rfl (hb hby at_122) k) ?_
  have f76 := (q0_45.keep K70q nin0)
  obtain ⟨cq77, kq77, q77a, q77b, q77c⟩ := isOf hZ e75q q0_70
  obtain ⟨_, _, ⟨T77, L77, k77, n77⟩, -, X77, ⟨Lc77, hQ77, l77, y77, z77⟩, st77⟩ := X75.virtualBack hx (y := (⟨"com/example/qopa/qopa/model/Model", "action", "(I)I"⟩ : MethodName)) (z := (⟨"com/example/qopa/qopa/model/Model", "action", "(I)I"⟩ : MethodName)) hown (mvT hZ (hw _ (List.mem_of_getElem? (i := 159) rfl))) (mvT hZ (hw _ (List.mem_of_getElem? (i := 160) rfl))) (notFace_of_selects (args := #[]) (mvT hZ (hw _ (List.mem_of_getElem? (i := 162) rfl)))) (mvT hZ (hw _ (List.mem_of_getElem? (i := 162) rfl))) (mvT hZ (hw _ (List.mem_of_getElem? (i := 161) rfl))) (by decide) (backOf (W := 0) (rm20_25 l Z a0 hw [] b5_70 b44_16 k44_16 y1_45 y2_45 y3_45 h70 n0 (Nat.le_trans Z0 K70.1) q0_70 q1_70 f76 gn_b5_70 (Ne.symm ne_b44_16_b5_70) gn_b44_16) hZ (hw _ (List.mem_of_getElem? (i := 163) rfl)) (hw _ (List.mem_of_getElem? (i := 78) rfl)) (by decide) (by decide)) q77a q77c (g := (mkF m 123 #[.val (.int p0), .val (.int p1), .val (.int p2), .val (.int p3), .val (.int p4), .val (.int q0), .val (.int q1), .val (.int q2), .val (.ref b4), .val (.ref b9), .val (.ref b12), .val (.ref b5_70)] [(.int (0 : Int32)), (.ref b5_70)])) rfl (by rw [hml]; rfl) (Steps.refl _) (argsL := [(.int (0 : Int32))]) (rest := []) (lenOf pd_0 rfl) rfl (by show 2 * 0 + _ ≤ _; exact Nat.le_of_eq rfl) (hb hby at_123) (fun _ _ => ⟨rfl, e75q, (by decide : 12 + 0 ≤ _), (by decide : 50 + 0 ≤ _)⟩)
  dsimp only [Pt.U, Pt.locs, Pt.cells, Pt.slots] at X77 l77 y77 z77 st77 hQ77
  subst l77 y77 z77
  obtain ⟨rfl, N77q, e77q⟩ := hQ77
  have N77 := Fr.app N75 N77q
  refine step (T77.setTop (mkF m 126 #[.val (.int p0), .val (.int p1), .val (.int p2), .val (.int p3), .val (.int p4), .val (.int q0), .val (.int q1), .val (.int q2), .val (.ref b4), .val (.ref b9), .val (.ref b12), .val (.ref b5_70)] [(.int y1_45)])) (fun t k => st77.trans k) ?_
  refine step (T77.setTop (mkF m 128 #[.val (.int p0), .val (.int p1), .val (.int p2), .val (.int p3), .val (.int p4), .val (.int q0), .val (.int q1), .val (.int q2), .val (.ref b4), .val (.ref b9), .val (.ref b12), .val (.ref b5_70)] [(.int q0), (.int y1_45)])) (fun t k => XS.iload X77.here hx rfl (hb hby at_126) rfl k) ?_
  refine step (T77.setTop (mkF m 129 #[.val (.int p0), .val (.int p1), .val (.int p2), .val (.int p3), .val (.int p4), .val (.int q0), .val (.int q1), .val (.int q2), .val (.ref b4), .val (.ref b9), .val (.ref b12), .val (.ref b5_70)] [(.int p1), (.int q0), (.int y1_45)])) (fun t k => XS.iloadN X77.here hx rfl (hb hby at_128) rfl k) ?_
  refine step (T77.setTop (mkF m 130 #[.val (.int p0), .val (.int p1), .val (.int p2), .val (.int p3), .val (.int p4), .val (.int q0), .val (.int q1), .val (.int q2), .val (.ref b4), .val (.ref b9), .val (.ref b12), .val (.ref b5_70)] [(.int p2), (.int p1), (.int q0), (.int y1_45)])) (fun t k => XS.iloadN X77.here hx rfl (hb hby at_129) rfl k) ?_
  refine step (T77.setTop (mkF m 131 #[.val (.int p0), .val (.int p1), .val (.int p2), .val (.int p3), .val (.int p4), .val (.int q0), .val (.int q1), .val (.int q2), .val (.ref b4), .val (.ref b9), .val (.ref b12), .val (.ref b5_70)] [(.int p3), (.int p2), (.int p1), (.int q0), (.int y1_45)])) (fun t k => XS.iloadN X77.here hx rfl (hb hby at_130) rfl k) ?_
  refine step (T77.setTop (mkF m 133 #[.val (.int p0), .val (.int p1), .val (.int p2), .val (.int p3), .val (.int p4), .val (.int q0), .val (.int q1), .val (.int q2), .val (.ref b4), .val (.ref b9), .val (.ref b12), .val (.ref b5_70)] [(.int p4), (.int p3), (.int p2), (.int p1), (.int q0), (.int y1_45)])) (fun t k => XS.iload X77.here hx rfl (hb hby at_131) rfl k) ?_
  obtain ⟨_, _, ⟨T78, L78, k78, n78⟩, -, X78, ⟨Lc78, hQ78, l78, y78, z78⟩, st78⟩ := Jvm.LawKit.callS X77 hx (y := (⟨"com/example/qopa/qopa/model/ModelBuilderRenumberActionsPinLaw", "expected", "(IIIII)I"⟩ : MethodName)) hown (mvT hZ (hw _ (List.mem_of_getElem? (i := 164) rfl))) (mvT hZ (hw _ (List.mem_of_getElem? (i := 165) rfl))) (mvT hZ (hw _ (List.mem_of_getElem? (i := 2) rfl))) (mvT hZ (hw _ (List.mem_of_getElem? (i := 166) rfl))) (by decide) (backOf (W := 1) (rm21_26 l Z a0 hw [] q0 p1 p2 p3 p4 h70 n0 (Nat.le_trans Z0 K70.1) lo_a0 hi_a0) hZ (hw _ (List.mem_of_getElem? (i := 166) rfl)) (hw _ (List.mem_of_getElem? (i := 2) rfl)) (by decide) (by decide)) (g := (mkF m 133 #[.val (.int p0), .val (.int p1), .val (.int p2), .val (.int p3), .val (.int p4), .val (.int q0), .val (.int q1), .val (.int q2), .val (.ref b4), .val (.ref b9), .val (.ref b12), .val (.ref b5_70)] [(.int p4), (.int p3), (.int p2), (.int p1), (.int q0), (.int y1_45)])) rfl (by rw [hml]; rfl) (argsL := [(.int q0), (.int p1), (.int p2), (.int p3), (.int p4)]) (rest := [(.int y1_45)]) (lenOf pd_6 rfl) rfl (by show 2 * 0 + _ ≤ _; exact Nat.le_of_eq rfl) (hb hby at_133) (fun _ _ => ⟨rfl, e77q, (by decide : 12 + 0 ≤ _), (by decide : 50 + 0 ≤ _)⟩)
  dsimp only [Pt.U, Pt.locs, Pt.cells, Pt.slots] at X78 l78 y78 z78 st78 hQ78
  subst l78 y78 z78
  obtain ⟨z_1_78, rfl, N78q, e78q, hz_1_78⟩ := hQ78
  have N78 := Fr.app N77 N78q
  refine step (T78.setTop (mkF m 136 #[.val (.int p0), .val (.int p1), .val (.int p2), .val (.int p3), .val (.int p4), .val (.int q0), .val (.int q1), .val (.int q2), .val (.ref b4), .val (.ref b9), .val (.ref b12), .val (.ref b5_70)] [(.int z_1_78), (.int y1_45)])) (fun t k => st78 t k) ?_
  have hc136_79 : y1_45 = z_1_78 := (own_plain26 p0 p1 p2 p3 p4 aM aI q0 y1_45 z_1_78 hq0 hy1_45 hz_1_78)
  refine step (T78.setTop (mkF m 139 #[.val (.int p0), .val (.int p1), .val (.int p2), .val (.int p3), .val (.int p4), .val (.int q0), .val (.int q1), .val (.int q2), .val (.ref b4), .val (.ref b9), .val (.ref b12), .val (.ref b5_70)] [])) (fun t k => XS.icmpNo X78.here hx rfl (hb hby at_136) rfl (teq hc136_79).2 k) ?_
  refine step (T78.setTop (mkF m 141 #[.val (.int p0), .val (.int p1), .val (.int p2), .val (.int p3), .val (.int p4), .val (.int q0), .val (.int q1), .val (.int q2), .val (.ref b4), .val (.ref b9), .val (.ref b12), .val (.ref b5_70)] [(.ref b5_70)])) (fun t k => XS.aload X78.here hx rfl (hb hby at_139) rfl rfl k) ?_
  refine step (T78.setTop (mkF m 142 #[.val (.int p0), .val (.int p1), .val (.int p2), .val (.int p3), .val (.int p4), .val (.int q0), .val (.int q1), .val (.int q2), .val (.ref b4), .val (.ref b9), .val (.ref b12), .val (.ref b5_70)] [(.int (1 : Int32)), (.ref b5_70)])) (fun t k => XS.iconst X78.here hx rfl (hb hby at_141) k) ?_
  obtain ⟨cq80, kq80, q80a, q80b, q80c⟩ := isOf hZ e78q q0_70
  obtain ⟨_, _, ⟨T80, L80, k80, n80⟩, -, X80, ⟨Lc80, hQ80, l80, y80, z80⟩, st80⟩ := X78.virtualBack hx (y := (⟨"com/example/qopa/qopa/model/Model", "action", "(I)I"⟩ : MethodName)) (z := (⟨"com/example/qopa/qopa/model/Model", "action", "(I)I"⟩ : MethodName)) hown (mvT hZ (hw _ (List.mem_of_getElem? (i := 159) rfl))) (mvT hZ (hw _ (List.mem_of_getElem? (i := 160) rfl))) (notFace_of_selects (args := #[]) (mvT hZ (hw _ (List.mem_of_getElem? (i := 162) rfl)))) (mvT hZ (hw _ (List.mem_of_getElem? (i := 162) rfl))) (mvT hZ (hw _ (List.mem_of_getElem? (i := 161) rfl))) (by decide) (backOf (W := 0) (rm20_28 l Z a0 hw [] b5_70 b44_16 k44_16 y1_45 y2_45 y3_45 h70 n0 (Nat.le_trans Z0 K70.1) q0_70 q1_70 f76 gn_b5_70 (Ne.symm ne_b44_16_b5_70) gn_b44_16) hZ (hw _ (List.mem_of_getElem? (i := 163) rfl)) (hw _ (List.mem_of_getElem? (i := 78) rfl)) (by decide) (by decide)) q80a q80c (g := (mkF m 142 #[.val (.int p0), .val (.int p1), .val (.int p2), .val (.int p3), .val (.int p4), .val (.int q0), .val (.int q1), .val (.int q2), .val (.ref b4), .val (.ref b9), .val (.ref b12), .val (.ref b5_70)] [(.int (1 : Int32)), (.ref b5_70)])) rfl (by rw [hml]; rfl) (Steps.refl _) (argsL := [(.int (1 : Int32))]) (rest := []) (lenOf pd_0 rfl) rfl (by show 2 * 0 + _ ≤ _; exact Nat.le_of_eq rfl) (hb hby at_142) (fun _ _ => ⟨rfl, e78q, (by decide : 12 + 0 ≤ _), (by decide : 50 + 0 ≤ _)⟩)
  dsimp only [Pt.U, Pt.locs, Pt.cells, Pt.slots] at X80 l80 y80 z80 st80 hQ80
  subst l80 y80 z80
  obtain ⟨rfl, N80q, e80q⟩ := hQ80
  have N80 := Fr.app N78 N80q
  refine step (T80.setTop (mkF m 145 #[.val (.int p0), .val (.int p1), .val (.int p2), .val (.int p3), .val (.int p4), .val (.int q0), .val (.int q1), .val (.int q2), .val (.ref b4), .val (.ref b9), .val (.ref b12), .val (.ref b5_70)] [(.int y2_45)])) (fun t k => st80.trans k) ?_
  refine step (T80.setTop (mkF m 147 #[.val (.int p0), .val (.int p1), .val (.int p2), .val (.int p3), .val (.int p4), .val (.int q0), .val (.int q1), .val (.int q2), .val (.ref b4), .val (.ref b9), .val (.ref b12), .val (.ref b5_70)] [(.int q1), (.int y2_45)])) (fun t k => XS.iload X80.here hx rfl (hb hby at_145) rfl k) ?_
  refine step (T80.setTop (mkF m 148 #[.val (.int p0), .val (.int p1), .val (.int p2), .val (.int p3), .val (.int p4), .val (.int q0), .val (.int q1), .val (.int q2), .val (.ref b4), .val (.ref b9), .val (.ref b12), .val (.ref b5_70)] [(.int p1), (.int q1), (.int y2_45)])) (fun t k => XS.iloadN X80.here hx rfl (hb hby at_147) rfl k) ?_
  refine step (T80.setTop (mkF m 149 #[.val (.int p0), .val (.int p1), .val (.int p2), .val (.int p3), .val (.int p4), .val (.int q0), .val (.int q1), .val (.int q2), .val (.ref b4), .val (.ref b9), .val (.ref b12), .val (.ref b5_70)] [(.int p2), (.int p1), (.int q1), (.int y2_45)])) (fun t k => XS.iloadN X80.here hx rfl (hb hby at_148) rfl k) ?_
  refine step (T80.setTop (mkF m 150 #[.val (.int p0), .val (.int p1), .val (.int p2), .val (.int p3), .val (.int p4), .val (.int q0), .val (.int q1), .val (.int q2), .val (.ref b4), .val (.ref b9), .val (.ref b12), .val (.ref b5_70)] [(.int p3), (.int p2), (.int p1), (.int q1), (.int y2_45)])) (fun t k => XS.iloadN X80.here hx rfl (hb hby at_149) rfl k) ?_
  refine step (T80.setTop (mkF m 152 #[.val (.int p0), .val (.int p1), .val (.int p2), .val (.int p3), .val (.int p4), .val (.int q0), .val (.int q1), .val (.int q2), .val (.ref b4), .val (.ref b9), .val (.ref b12), .val (.ref b5_70)] [(.int p4), (.int p3), (.int p2), (.int p1), (.int q1), (.int y2_45)])) (fun t k => XS.iload X80.here hx rfl (hb hby at_150) rfl k) ?_
  obtain ⟨_, _, ⟨T81, L81, k81, n81⟩, -, X81, ⟨Lc81, hQ81, l81, y81, z81⟩, st81⟩ := Jvm.LawKit.callS X80 hx (y := (⟨"com/example/qopa/qopa/model/ModelBuilderRenumberActionsPinLaw", "expected", "(IIIII)I"⟩ : MethodName)) hown (mvT hZ (hw _ (List.mem_of_getElem? (i := 164) rfl))) (mvT hZ (hw _ (List.mem_of_getElem? (i := 165) rfl))) (mvT hZ (hw _ (List.mem_of_getElem? (i := 2) rfl))) (mvT hZ (hw _ (List.mem_of_getElem? (i := 166) rfl))) (by decide) (backOf (W := 1) (rm21_26 l Z a0 hw [] q1 p1 p2 p3 p4 h70 n0 (Nat.le_trans Z0 K70.1) lo_a1 hi_a1) hZ (hw _ (List.mem_of_getElem? (i := 166) rfl)) (hw _ (List.mem_of_getElem? (i := 2) rfl)) (by decide) (by decide)) (g := (mkF m 152 #[.val (.int p0), .val (.int p1), .val (.int p2), .val (.int p3), .val (.int p4), .val (.int q0), .val (.int q1), .val (.int q2), .val (.ref b4), .val (.ref b9), .val (.ref b12), .val (.ref b5_70)] [(.int p4), (.int p3), (.int p2), (.int p1), (.int q1), (.int y2_45)])) rfl (by rw [hml]; rfl) (argsL := [(.int q1), (.int p1), (.int p2), (.int p3), (.int p4)]) (rest := [(.int y2_45)]) (lenOf pd_6 rfl) rfl (by show 2 * 0 + _ ≤ _; exact Nat.le_of_eq rfl) (hb hby at_152) (fun _ _ => ⟨rfl, e80q, (by decide : 12 + 0 ≤ _), (by decide : 50 + 0 ≤ _)⟩)
  dsimp only [Pt.U, Pt.locs, Pt.cells, Pt.slots] at X81 l81 y81 z81 st81 hQ81
  subst l81 y81 z81
  obtain ⟨z_1_81, rfl, N81q, e81q, hz_1_81⟩ := hQ81
  have N81 := Fr.app N80 N81q
  refine step (T81.setTop (mkF m 155 #[.val (.int p0), .val (.int p1), .val (.int p2), .val (.int p3), .val (.int p4), .val (.int q0), .val (.int q1), .val (.int q2), .val (.ref b4), .val (.ref b9), .val (.ref b12), .val (.ref b5_70)] [(.int z_1_81), (.int y2_45)])) (fun t k => st81 t k) ?_
  have hc155_82 : y2_45 = z_1_81 := (own_plain28 p0 p1 p2 p3 p4 aM aI q1 y2_45 z_1_81 hq1 hy2_45 hz_1_81)
  refine step (T81.setTop (mkF m 158 #[.val (.int p0), .val (.int p1), .val (.int p2), .val (.int p3), .val (.int p4), .val (.int q0), .val (.int q1), .val (.int q2), .val (.ref b4), .val (.ref b9), .val (.ref b12), .val (.ref b5_70)] [])) (fun t k => XS.icmpNo X81.here hx rfl (hb hby at_155) rfl (teq hc155_82).2 k) ?_
  refine step (T81.setTop (mkF m 160 #[.val (.int p0), .val (.int p1), .val (.int p2), .val (.int p3), .val (.int p4), .val (.int q0), .val (.int q1), .val (.int q2), .val (.ref b4), .val (.ref b9), .val (.ref b12), .val (.ref b5_70)] [(.ref b5_70)])) (fun t k => XS.aload X81.here hx rfl (hb hby at_158) rfl rfl k) ?_
  refine step (T81.setTop (mkF m 161 #[.val (.int p0), .val (.int p1), .val (.int p2), .val (.int p3), .val (.int p4), .val (.int q0), .val (.int q1), .val (.int q2), .val (.ref b4), .val (.ref b9), .val (.ref b12), .val (.ref b5_70)] [(.int (2 : Int32)), (.ref b5_70)])) (fun t k => XS.iconst X81.here hx rfl (hb hby at_160) k) ?_
  obtain ⟨cq83, kq83, q83a, q83b, q83c⟩ := isOf hZ e81q q0_70
  obtain ⟨_, _, ⟨T83, L83, k83, n83⟩, -, X83, ⟨Lc83, hQ83, l83, y83, z83⟩, st83⟩ := X81.virtualBack hx (y := (⟨"com/example/qopa/qopa/model/Model", "action", "(I)I"⟩ : MethodName)) (z := (⟨"com/example/qopa/qopa/model/Model", "action", "(I)I"⟩ : MethodName)) hown (mvT hZ (hw _ (List.mem_of_getElem? (i := 159) rfl))) (mvT hZ (hw _ (List.mem_of_getElem? (i := 160) rfl))) (notFace_of_selects (args := #[]) (mvT hZ (hw _ (List.mem_of_getElem? (i := 162) rfl)))) (mvT hZ (hw _ (List.mem_of_getElem? (i := 162) rfl))) (mvT hZ (hw _ (List.mem_of_getElem? (i := 161) rfl))) (by decide) (backOf (W := 0) (rm20_30 l Z a0 hw [] b5_70 b44_16 k44_16 y1_45 y2_45 y3_45 h70 n0 (Nat.le_trans Z0 K70.1) q0_70 q1_70 f76 gn_b5_70 (Ne.symm ne_b44_16_b5_70) gn_b44_16) hZ (hw _ (List.mem_of_getElem? (i := 163) rfl)) (hw _ (List.mem_of_getElem? (i := 78) rfl)) (by decide) (by decide)) q83a q83c (g := (mkF m 161 #[.val (.int p0), .val (.int p1), .val (.int p2), .val (.int p3), .val (.int p4), .val (.int q0), .val (.int q1), .val (.int q2), .val (.ref b4), .val (.ref b9), .val (.ref b12), .val (.ref b5_70)] [(.int (2 : Int32)), (.ref b5_70)])) rfl (by rw [hml]; rfl) (Steps.refl _) (argsL := [(.int (2 : Int32))]) (rest := []) (lenOf pd_0 rfl) rfl (by show 2 * 0 + _ ≤ _; exact Nat.le_of_eq rfl) (hb hby at_161) (fun _ _ => ⟨rfl, e81q, (by decide : 12 + 0 ≤ _), (by decide : 50 + 0 ≤ _)⟩)
  dsimp only [Pt.U, Pt.locs, Pt.cells, Pt.slots] at X83 l83 y83 z83 st83 hQ83
  subst l83 y83 z83
  obtain ⟨rfl, N83q, e83q⟩ := hQ83
  have N83 := Fr.app N81 N83q
  refine step (T83.setTop (mkF m 164 #[.val (.int p0), .val (.int p1), .val (.int p2), .val (.int p3), .val (.int p4), .val (.int q0), .val (.int q1), .val (.int q2), .val (.ref b4), .val (.ref b9), .val (.ref b12), .val (.ref b5_70)] [(.int y3_45)])) (fun t k => st83.trans k) ?_
  refine step (T83.setTop (mkF m 166 #[.val (.int p0), .val (.int p1), .val (.int p2), .val (.int p3), .val (.int p4), .val (.int q0), .val (.int q1), .val (.int q2), .val (.ref b4), .val (.ref b9), .val (.ref b12), .val (.ref b5_70)] [(.int q2), (.int y3_45)])) (fun t k => XS.iload X83.here hx rfl (hb hby at_164) rfl k) ?_
  refine step (T83.setTop (mkF m 167 #[.val (.int p0), .val (.int p1), .val (.int p2), .val (.int p3), .val (.int p4), .val (.int q0), .val (.int q1), .val (.int q2), .val (.ref b4), .val (.ref b9), .val (.ref b12), .val (.ref b5_70)] [(.int p1), (.int q2), (.int y3_45)])) (fun t k => XS.iloadN X83.here hx rfl (hb hby at_166) rfl k) ?_
  refine step (T83.setTop (mkF m 168 #[.val (.int p0), .val (.int p1), .val (.int p2), .val (.int p3), .val (.int p4), .val (.int q0), .val (.int q1), .val (.int q2), .val (.ref b4), .val (.ref b9), .val (.ref b12), .val (.ref b5_70)] [(.int p2), (.int p1), (.int q2), (.int y3_45)])) (fun t k => XS.iloadN X83.here hx rfl (hb hby at_167) rfl k) ?_
  refine step (T83.setTop (mkF m 169 #[.val (.int p0), .val (.int p1), .val (.int p2), .val (.int p3), .val (.int p4), .val (.int q0), .val (.int q1), .val (.int q2), .val (.ref b4), .val (.ref b9), .val (.ref b12), .val (.ref b5_70)] [(.int p3), (.int p2), (.int p1), (.int q2), (.int y3_45)])) (fun t k => XS.iloadN X83.here hx rfl (hb hby at_168) rfl k) ?_
  refine step (T83.setTop (mkF m 171 #[.val (.int p0), .val (.int p1), .val (.int p2), .val (.int p3), .val (.int p4), .val (.int q0), .val (.int q1), .val (.int q2), .val (.ref b4), .val (.ref b9), .val (.ref b12), .val (.ref b5_70)] [(.int p4), (.int p3), (.int p2), (.int p1), (.int q2), (.int y3_45)])) (fun t k => XS.iload X83.here hx rfl (hb hby at_169) rfl k) ?_
  obtain ⟨_, _, ⟨T84, L84, k84, n84⟩, -, X84, ⟨Lc84, hQ84, l84, y84, z84⟩, st84⟩ := Jvm.LawKit.callS X83 hx (y := (⟨"com/example/qopa/qopa/model/ModelBuilderRenumberActionsPinLaw", "expected", "(IIIII)I"⟩ : MethodName)) hown (mvT hZ (hw _ (List.mem_of_getElem? (i := 164) rfl))) (mvT hZ (hw _ (List.mem_of_getElem? (i := 165) rfl))) (mvT hZ (hw _ (List.mem_of_getElem? (i := 2) rfl))) (mvT hZ (hw _ (List.mem_of_getElem? (i := 166) rfl))) (by decide) (backOf (W := 1) (rm21_26 l Z a0 hw [] q2 p1 p2 p3 p4 h70 n0 (Nat.le_trans Z0 K70.1) lo_a2 hi_a2) hZ (hw _ (List.mem_of_getElem? (i := 166) rfl)) (hw _ (List.mem_of_getElem? (i := 2) rfl)) (by decide) (by decide)) (g := (mkF m 171 #[.val (.int p0), .val (.int p1), .val (.int p2), .val (.int p3), .val (.int p4), .val (.int q0), .val (.int q1), .val (.int q2), .val (.ref b4), .val (.ref b9), .val (.ref b12), .val (.ref b5_70)] [(.int p4), (.int p3), (.int p2), (.int p1), (.int q2), (.int y3_45)])) rfl (by rw [hml]; rfl) (argsL := [(.int q2), (.int p1), (.int p2), (.int p3), (.int p4)]) (rest := [(.int y3_45)]) (lenOf pd_6 rfl) rfl (by show 2 * 0 + _ ≤ _; exact Nat.le_of_eq rfl) (hb hby at_171) (fun _ _ => ⟨rfl, e83q, (by decide : 12 + 0 ≤ _), (by decide : 50 + 0 ≤ _)⟩)
  dsimp only [Pt.U, Pt.locs, Pt.cells, Pt.slots] at X84 l84 y84 z84 st84 hQ84
  subst l84 y84 z84
  obtain ⟨z_1_84, rfl, N84q, e84q, hz_1_84⟩ := hQ84
  have N84 := Fr.app N83 N84q
  refine step (T84.setTop (mkF m 174 #[.val (.int p0), .val (.int p1), .val (.int p2), .val (.int p3), .val (.int p4), .val (.int q0), .val (.int q1), .val (.int q2), .val (.ref b4), .val (.ref b9), .val (.ref b12), .val (.ref b5_70)] [(.int z_1_84), (.int y3_45)])) (fun t k => st84 t k) ?_
  have hc174_85 : y3_45 = z_1_84 := (own_plain30 p0 p1 p2 p3 p4 aM aI q2 y3_45 z_1_84 hq2 hy3_45 hz_1_84)
  refine step (T84.setTop (mkF m 177 #[.val (.int p0), .val (.int p1), .val (.int p2), .val (.int p3), .val (.int p4), .val (.int q0), .val (.int q1), .val (.int q2), .val (.ref b4), .val (.ref b9), .val (.ref b12), .val (.ref b5_70)] [])) (fun t k => XS.icmpNo X84.here hx rfl (hb hby at_174) rfl (teq hc174_85).2 k) ?_
  refine step (T84.setTop (mkF m 178 #[.val (.int p0), .val (.int p1), .val (.int p2), .val (.int p3), .val (.int p4), .val (.int q0), .val (.int q1), .val (.int q2), .val (.ref b4), .val (.ref b9), .val (.ref b12), .val (.ref b5_70)] [(.int (1 : Int32))])) (fun t k => XS.iconst X84.here hx rfl (hb hby at_177) k) ?_
  refine step (T84.setTop (mkF m 182 #[.val (.int p0), .val (.int p1), .val (.int p2), .val (.int p3), .val (.int p4), .val (.int q0), .val (.int q1), .val (.int q2), .val (.ref b4), .val (.ref b9), .val (.ref b12), .val (.ref b5_70)] [(.int (1 : Int32))])) (fun t k => XS.goto X84.here hx rfl (pc0 := 178) (pc' := 182) rfl (hb hby at_178) (by decide) (by decide) k) ?_
  refine fin (v := some (.int (nar .boolean (1 : Int32)))) X84 (fun h => by cases h) ?_ (by decide) (by decide) (fun fs hr => retN X84 hx (t := .boolean) hret (by simp) (hb hby at_182) hr)
  show Q0 Z p0 p1 p2 p3 p4 aM aI h0 n0 (some (.int (nar .boolean (1 : Int32)))) T84.heap _
  rw [e84q]
  exact ⟨rfl, N84⟩
set_option maxRecDepth 65536 in
set_option maxHeartbeats 40000000 in
theorem comes_1 {Post : Tables → Env → Array Value → State → Outcome → State → Prop} (hpost : ∀ tb e args s v u, (limb_1_1.after args s (.returned v) u = true ∧ limb_1_2.after args s (.returned v) u = true ∧ True) → FrameEnd s (.returned v) u (Jvm.fieldLocs frame_1_writes args s ++ Jvm.arrayLocs frame_1_arrays args s ++ Jvm.staticLocs frame_1_statics s) 32 192 → Post tb e args s (.returned v) u) :
    ArmFor flags0 classFile x code maxLocals ret World_1 tables_1 room_1 Calls_1 rest_1 Pre_1 Post := by
  intro l hfl _ _ p e ha hc hk s m args below hf hA hF happ hP
  obtain ⟨hcalls, hrest, hpre⟩ := hP
  obtain ⟨-, -, -, hnamed, -, -, -, hat⟩ := (Spec.applies_iff hf).mp happ
  obtain ⟨hg, hn⟩ := and_e (Cond.before_iff.mp (show (Jvm.Cond.and given_1 narrow_1).before args s = true from hpre))
  obtain ⟨hcount, hr0⟩ := and_e hg
  obtain ⟨ha0, hr1⟩ := and_e hr0
  obtain ⟨ha1, hr2⟩ := and_e hr1
  obtain ⟨ha2, hr3⟩ := and_e hr2
  obtain ⟨ha3, hr4⟩ := and_e hr3
  have ha4 := hr4
  obtain ⟨w0, w1, w2, w3, w4, rfl⟩ : ∃ w0 w1 w2 w3 w4 : Value, args = #[w0, w1, w2, w3, w4] := by
    have hs : args.size = 5 := by simpa [Cond.value, given_1] using hcount
    obtain ⟨L⟩ := args
    match L, hs with
    | [w0, w1, w2, w3, w4], _ => exact ⟨w0, w1, w2, w3, w4, rfl⟩
  have hw := fun d (hd : d ∈ tables_1) => atoms_spec (ws := Jvm.Cond.code x code maxLocals ret :: tables_1) hat d (List.mem_cons_of_mem _ hd)
  have hfit : Fit s := fun {y c} hc i hi => by
    obtain ⟨ha, rfl⟩ := Array.getElem?_eq_some_iff.mp hc
    have q := List.all_eq_true.mp ((Array.all_eq_true_iff_forall_mem.mp hF) _ (Array.getElem_mem ha)) i (List.mem_range.mpr hi)
    simpa [Array.getElem?_eq_getElem hi] using q
  obtain ⟨i0, ei0⟩ := is_v ha0
  obtain rfl : w0 = (.int i0) := Option.some.inj ei0
  obtain ⟨i1, ei1⟩ := is_v ha1
  obtain rfl : w1 = (.int i1) := Option.some.inj ei1
  obtain ⟨i2, ei2⟩ := is_v ha2
  obtain rfl : w2 = (.int i2) := Option.some.inj ei2
  obtain ⟨i3, ei3⟩ := is_v ha3
  obtain rfl : w3 = (.int i3) := Option.some.inj ei3
  obtain ⟨i4, ei4⟩ := is_v ha4
  obtain rfl : w4 = (.int i4) := Option.some.inj ei4
  obtain ⟨m0a, m0b⟩ := and_e hn
  obtain ⟨m1a, m1b⟩ := and_e m0b
  obtain ⟨m2a, m2b⟩ := and_e m1b
  obtain ⟨aM, ev_aM⟩ := exa_v m0a
  have E_aM := Exa.start ev_aM m0a
  have S_aM := Sta.start ev_aM (Or.inr ⟨(hw _ (List.mem_of_getElem? (i := 66) rfl)), (hw _ (List.mem_of_getElem? (i := 67) rfl))⟩)
  obtain ⟨aI, ev_aI⟩ := exa_v m1a
  have E_aI := Exa.start ev_aI m1a
  have S_aI := Sta.start ev_aI (Or.inr ⟨(hw _ (List.mem_of_getElem? (i := 66) rfl)), (hw _ (List.mem_of_getElem? (i := 146) rfl))⟩)
  have F_ordinal_aM := Fld.start ((fld_at ev_aM).symm.trans (own_eqi m2a))
  have F_ordinal_aI := Fld.start ((fld_at ev_aI).symm.trans (own_eqi m2b))
  have ne_MI := Fld.ne F_ordinal_aM F_ordinal_aI (by decide)
  obtain ⟨n, o, h1, h2, h3, _, L, rfl, ⟨rfl, N⟩, hq⟩ := rm0 l s _ hw tables_1 i0 i1 i2 i3 i4 aM aI s.heap s.heap.size (Nat.le_refl _) S_aM E_aM S_aI E_aI ne_MI p e ha hc hk s m _ below hf ((Spec.applies_iff_loose hf).mp happ).1 ⟨rfl, State.Warmed39.refl s, rfl⟩ trivial
  refine ⟨n, _, h1, h2, h3, hpost _ _ _ _ _ _ ⟨Cond.after_iff.mpr rfl, Cond.after_iff.mpr (eq_i res_at (Term.int_eval (1)) rfl), trivial⟩ ⟨hq.1, hq.2.1, (hq.2.2.sift fun y hy => Or.inr (N y hy)).mono (by decide) (by decide)⟩⟩
theorem main_1_1 : Claimed_1_1 := comes_1 fun _ _ _ _ _ _ h hF => ⟨h.1, hF⟩
theorem main_1_2 : Claimed_1_2 := comes_1 fun _ _ _ _ _ _ h hF => ⟨h.2.1, hF⟩
end Jvm.Pilot.@@N@@
namespace Jvm.Pilot.@@N@@
open Jvm Jvm.ClassFile Sem Op Lib Jvm.Free Jvm.Stand Jvm.Pilot.@@N@@.Jvm.D
/-! MADE BY PROGRAM (witnessworld.py) out of the Statement's table words and the real class files: 22 classes; the members and pool entries that the words name. The judged class is class 1, her method 3. -/
namespace start1
open Jvm.ClassFile
def u (s : String) : CpInfo := .utf8 (stringToUtf16 s)
/-- a pool by its gaps: so many unusable entries, then the entry; so many at the end -/
def gap : Nat → List CpInfo → List CpInfo
  | 0, r => r
  | n + 1, r => .unusable :: gap n r
def poolList (es : List (Nat × CpInfo)) (last : Nat) : List CpInfo := es.foldr (fun e r => gap e.1 (e.2 :: r)) (gap last [])
def pool (es : List (Nat × CpInfo)) (last : Nat) : Array CpInfo := ⟨poolList es last⟩
def fileOf (pool : Array CpInfo) (this : Nat) (attrs : Array Attribute := #[]) (ms : Array MethodInfo := #[]) (fl : Nat := 33) (sup : Nat := 0) (ifs : Array Nat := #[]) (fds : Array FieldInfo := #[]) : ClassFile where
  minorVersion := 0
  majorVersion := 65
  constantPool := pool
  accessFlags := fl
  thisClass := this
  superClass := sup
  interfaces := ifs
  fields := fds
  methods := ms
  attributes := attrs
def plain (name : String) (sup : Option ClassId) : Class where
  name := name
  kind := .ordinary
  loader := none
  accessFlags := 33
  super := sup
  interfaces := #[]
  cf := none
  fields := #[]
  methods := #[]
  instanceTypes := #[]
  staticTypes := #[]
  resolved := #[]
  callSites := []
  init := .initialized
  statics := none
  mirror := none

def pool0 : Array CpInfo := pool [(5, u "<init>"), (0, u "()V"), (1, .class_ 10), (1, u "java/lang/Object")] 113

def k0c0 : Code := { maxStack := 0, maxLocals := 1, code := object_method_1_code, exceptionTable := #[], attributes := #[] }
def k0m0 : Method := { name := "<init>", desc := "()V", sig := { parameters := [], returnType := none }, accessFlags := 1, code := some k0c0 }
/-- java/lang/Object -/
def k0 : Class := { plain "java/lang/Object" none with
  accessFlags := 33
  interfaces := #[]
  cf := some (fileOf pool0 8 #[] #[{ accessFlags := 1, nameIndex := 5, descriptorIndex := 6, attributes := #[] }] 33 0 #[] #[])
  fields := #[]
  methods := #[k0m0]
  instanceTypes := #[]
  staticTypes := #[]
  resolved := Array.replicate 124 none
  statics := none }

def pool1 : Array CpInfo := pool [(2, .class_ 4), (1, u "java/lang/Object"), (0, u "<init>"), (0, u "()V"), (0, .methodref 8 9), (0, .class_ 10), (0, .nameAndType 11 12), (0, u "com/example/qopa/qopa/model/ModelBuilderRenumberActionsPinLaw"), (0, u "pickAction"), (0, u "(I)I"), (0, .class_ 14), (0, u "com/example/qopa/qopa/model/ModelBuilder"), (0, .methodref 13 16), (0, .nameAndType 5 17), (0, u "(ZIII)V"), (0, .methodref 13 19), (0, .nameAndType 20 21), (0, u "add"), (0, u "(ILcom/example/qopa/qopa/math/Rational;I)V"), (0, .methodref 13 23), (0, .nameAndType 24 25), (0, u "renumberActions"), (0, u "([I)V"), (0, .fieldref 27 28), (0, .class_ 29), (0, .nameAndType 30 31), (0, u "com/example/qopa/qopa/model/Model$Kind"), (0, u "MDP"), (0, u "Lcom/example/qopa/qopa/model/Model$Kind;"), (0, .methodref 13 33), (0, .nameAndType 34 35), (0, u "build"), (0, u "(Lcom/example/qopa/qopa/model/Model$Kind;[ILcom/example/qopa/qopa/model/Actions;Ljava/util/Map;)Lcom/example/qopa/qopa/model/Model;"), (0, .methodref 37 38), (0, .class_ 39), (0, .nameAndType 40 41), (0, u "com/example/qopa/qopa/model/Model"), (0, u "transitionCount"), (0, u "()I"), (0, .methodref 37 43), (0, .nameAndType 44 12), (0, u "action"), (0, .methodref 8 46), (0, .nameAndType 47 48), (0, u "expected"), (0, u "(IIIII)I"), (3, u "law"), (0, u "(IIIII)Z")] 6

def k1m0 : Method := { name := "<init>", desc := "()V", sig := { parameters := [], returnType := none }, accessFlags := 1, code := none }
def k1c1 : Code := { maxStack := 2, maxLocals := 1, code := method_2_code, exceptionTable := #[], attributes := #[] }
def k1m1 : Method := { name := "pickAction", desc := "(I)I", sig := { parameters := [.int], returnType := some .int }, accessFlags := 10, code := some k1c1 }
def k1c2 : Code := { maxStack := 2, maxLocals := 5, code := method_3_code, exceptionTable := #[], attributes := #[] }
def k1m2 : Method := { name := "expected", desc := "(IIIII)I", sig := { parameters := [.int, .int, .int, .int, .int], returnType := some .int }, accessFlags := 10, code := some k1c2 }
def k1c3 : Code := { maxStack := 6, maxLocals := 12, code := code, exceptionTable := #[], attributes := #[] }
def k1m3 : Method := { name := "law", desc := "(IIIII)Z", sig := { parameters := [.int, .int, .int, .int, .int], returnType := some .boolean }, accessFlags := 9, code := some k1c3 }
/-- com/example/qopa/qopa/model/ModelBuilderRenumberActionsPinLaw -/
def k1 : Class := { plain "com/example/qopa/qopa/model/ModelBuilderRenumberActionsPinLaw" (some 0) with
  accessFlags := 49
  interfaces := #[]
  cf := some (fileOf pool1 8 #[] #[{ accessFlags := 1, nameIndex := 5, descriptorIndex := 6, attributes := #[] }, { accessFlags := 10, nameIndex := 11, descriptorIndex := 12, attributes := #[] }, { accessFlags := 10, nameIndex := 47, descriptorIndex := 48, attributes := #[] }, { accessFlags := 9, nameIndex := 52, descriptorIndex := 53, attributes := #[] }] 49 2 #[] #[])
  fields := #[]
  methods := #[k1m0, k1m1, k1m2, k1m3]
  instanceTypes := #[]
  staticTypes := #[]
  resolved := Array.replicate 60 none
  statics := none }

def pool2 : Array CpInfo := pool [(3, .methodref 4 5), (0, .class_ 6), (0, .nameAndType 7 8), (0, u "java/lang/Object"), (0, u "<init>"), (0, u "()V"), (0, .class_ 10), (0, u "java/util/HashMap"), (0, .methodref 9 5), (0, .fieldref 13 14), (0, .class_ 15), (0, .nameAndType 16 17), (0, u "com/example/qopa/qopa/model/ModelBuilder"), (0, u "merged"), (0, u "Ljava/util/Map;"), (0, .fieldref 13 19), (0, .nameAndType 20 21), (0, u "bounded"), (0, u "Z"), (0, .fieldref 13 23), (0, .nameAndType 24 25), (0, u "firstChoice"), (0, u "[I"), (0, .fieldref 13 27), (0, .nameAndType 28 25), (0, u "firstTransition"), (0, .fieldref 13 30), (0, .nameAndType 31 25), (0, u "target"), (0, .class_ 33), (0, u "com/example/qopa/qopa/math/Rational"), (0, .fieldref 13 35), (0, .nameAndType 36 37), (0, u "lower"), (0, u "[Lcom/example/qopa/qopa/math/Rational;"), (0, .fieldref 13 39), (0, .nameAndType 40 37), (0, u "upper"), (0, .fieldref 13 42), (0, .nameAndType 43 25), (0, u "action"), (0, .fieldref 13 45), (0, .nameAndType 46 47), (0, u "transitionCount"), (0, u "I"), (9, u "([II)[I"), (4, .methodref 13 63), (0, .nameAndType 64 65), (0, u "add"), (0, u "(ILcom/example/qopa/qopa/math/Rational;Lcom/example/qopa/qopa/math/Rational;I)V"), (23, u "(ILcom/example/qopa/qopa/math/Rational;I)V"), (7, .fieldref 13 98), (0, .nameAndType 99 47), (0, u "choiceCount"), (3, .fieldref 13 104), (0, .nameAndType 105 47), (0, u "stateCount"), (0, .class_ 107), (0, u "com/example/qopa/qopa/model/Model"), (0, .methodref 13 109), (0, .nameAndType 110 111), (0, u "trim"), (0, u "([Lcom/example/qopa/qopa/math/Rational;I)[Lcom/example/qopa/qopa/math/Rational;"), (0, .methodref 13 113), (0, .nameAndType 110 57), (0, .methodref 106 115), (0, .nameAndType 7 116), (0, u "(Lcom/example/qopa/qopa/model/Model$Kind;[ILcom/example/qopa/qopa/model/Actions;Ljava/util/Map;[I[I[I[Lcom/example/qopa/qopa/math/Rational;[Lcom/example/qopa/qopa/math/Rational;[I)V"), (23, u "MAX_ARRAY"), (3, u "(ZIII)V"), (6, u "renumberActions"), (0, u "([I)V"), (0, u "build"), (0, u "(Lcom/example/qopa/qopa/model/Model$Kind;[ILcom/example/qopa/qopa/model/Actions;Ljava/util/Map;)Lcom/example/qopa/qopa/model/Model;")] 8

def k2c0 : Code := { maxStack := 3, maxLocals := 5, code := prog_73_method_1_code, exceptionTable := #[], attributes := #[] }
def k2m0 : Method := { name := "<init>", desc := "(ZIII)V", sig := { parameters := [.boolean, .int, .int, .int], returnType := none }, accessFlags := 0, code := some k2c0 }
def k2c1 : Code := { maxStack := 3, maxLocals := 6, code := prog_73_method_2_code, exceptionTable := #[], attributes := #[] }
def k2m1 : Method := { name := "add", desc := "(ILcom/example/qopa/qopa/math/Rational;Lcom/example/qopa/qopa/math/Rational;I)V", sig := { parameters := [.int, (.object "com/example/qopa/qopa/math/Rational"), (.object "com/example/qopa/qopa/math/Rational"), .int], returnType := none }, accessFlags := 0, code := some k2c1 }
def k2c2 : Code := { maxStack := 5, maxLocals := 4, code := prog_73_method_3_code, exceptionTable := #[], attributes := #[] }
def k2m2 : Method := { name := "add", desc := "(ILcom/example/qopa/qopa/math/Rational;I)V", sig := { parameters := [.int, (.object "com/example/qopa/qopa/math/Rational"), .int], returnType := none }, accessFlags := 0, code := some k2c2 }
def k2c3 : Code := { maxStack := 5, maxLocals := 3, code := prog_73_method_7_code, exceptionTable := #[], attributes := #[] }
def k2m3 : Method := { name := "renumberActions", desc := "([I)V", sig := { parameters := [(.array .int)], returnType := none }, accessFlags := 0, code := some k2c3 }
def k2c4 : Code := { maxStack := 13, maxLocals := 7, code := prog_73_method_8_code, exceptionTable := #[], attributes := #[] }
def k2m4 : Method := { name := "build", desc := "(Lcom/example/qopa/qopa/model/Model$Kind;[ILcom/example/qopa/qopa/model/Actions;Ljava/util/Map;)Lcom/example/qopa/qopa/model/Model;", sig := { parameters := [(.object "com/example/qopa/qopa/model/Model$Kind"), (.array .int), (.object "com/example/qopa/qopa/model/Actions"), (.object "java/util/Map")], returnType := some (.object "com/example/qopa/qopa/model/Model") }, accessFlags := 0, code := some k2c4 }
def k2c5 : Code := { maxStack := 2, maxLocals := 2, code := prog_73_method_10_code, exceptionTable := #[], attributes := #[] }
def k2m5 : Method := { name := "trim", desc := "([II)[I", sig := { parameters := [(.array .int), .int], returnType := some (.array .int) }, accessFlags := 10, code := some k2c5 }
def k2c6 : Code := { maxStack := 2, maxLocals := 2, code := prog_73_method_11_code, exceptionTable := #[], attributes := #[] }
def k2m6 : Method := { name := "trim", desc := "([Lcom/example/qopa/qopa/math/Rational;I)[Lcom/example/qopa/qopa/math/Rational;", sig := { parameters := [(.array (.object "com/example/qopa/qopa/math/Rational")), .int], returnType := some (.array (.object "com/example/qopa/qopa/math/Rational")) }, accessFlags := 10, code := some k2c6 }
/-- com/example/qopa/qopa/model/ModelBuilder -/
def k2 : Class := { plain "com/example/qopa/qopa/model/ModelBuilder" (some 0) with
  accessFlags := 48
  interfaces := #[]
  cf := some (fileOf pool2 13 #[] #[{ accessFlags := 0, nameIndex := 7, descriptorIndex := 144, attributes := #[] }, { accessFlags := 0, nameIndex := 64, descriptorIndex := 65, attributes := #[] }, { accessFlags := 0, nameIndex := 64, descriptorIndex := 89, attributes := #[] }, { accessFlags := 0, nameIndex := 151, descriptorIndex := 152, attributes := #[] }, { accessFlags := 0, nameIndex := 153, descriptorIndex := 154, attributes := #[] }, { accessFlags := 10, nameIndex := 110, descriptorIndex := 57, attributes := #[] }, { accessFlags := 10, nameIndex := 110, descriptorIndex := 111, attributes := #[] }] 48 4 #[] #[{ accessFlags := 24, nameIndex := 140, descriptorIndex := 47, attributes := #[] }, { accessFlags := 18, nameIndex := 20, descriptorIndex := 21, attributes := #[] }, { accessFlags := 2, nameIndex := 24, descriptorIndex := 25, attributes := #[] }, { accessFlags := 2, nameIndex := 28, descriptorIndex := 25, attributes := #[] }, { accessFlags := 2, nameIndex := 31, descriptorIndex := 25, attributes := #[] }, { accessFlags := 2, nameIndex := 36, descriptorIndex := 37, attributes := #[] }, { accessFlags := 2, nameIndex := 40, descriptorIndex := 37, attributes := #[] }, { accessFlags := 2, nameIndex := 43, descriptorIndex := 25, attributes := #[] }, { accessFlags := 2, nameIndex := 105, descriptorIndex := 47, attributes := #[] }, { accessFlags := 2, nameIndex := 99, descriptorIndex := 47, attributes := #[] }, { accessFlags := 2, nameIndex := 46, descriptorIndex := 47, attributes := #[] }, { accessFlags := 18, nameIndex := 16, descriptorIndex := 17, attributes := #[] }])
  fields := #[{ name := "MAX_ARRAY", type := .int, accessFlags := 24, slot := 0, constantValue := 0 }, { name := "bounded", type := .boolean, accessFlags := 18, slot := 0, constantValue := 0 }, { name := "firstChoice", type := (.array .int), accessFlags := 2, slot := 1, constantValue := 0 }, { name := "firstTransition", type := (.array .int), accessFlags := 2, slot := 2, constantValue := 0 }, { name := "target", type := (.array .int), accessFlags := 2, slot := 3, constantValue := 0 }, { name := "lower", type := (.array (.object "com/example/qopa/qopa/math/Rational")), accessFlags := 2, slot := 4, constantValue := 0 }, { name := "upper", type := (.array (.object "com/example/qopa/qopa/math/Rational")), accessFlags := 2, slot := 5, constantValue := 0 }, { name := "action", type := (.array .int), accessFlags := 2, slot := 6, constantValue := 0 }, { name := "stateCount", type := .int, accessFlags := 2, slot := 7, constantValue := 0 }, { name := "choiceCount", type := .int, accessFlags := 2, slot := 8, constantValue := 0 }, { name := "transitionCount", type := .int, accessFlags := 2, slot := 9, constantValue := 0 }, { name := "merged", type := (.object "java/util/Map"), accessFlags := 18, slot := 10, constantValue := 0 }]
  methods := #[k2m0, k2m1, k2m2, k2m3, k2m4, k2m5, k2m6]
  instanceTypes := #[.boolean, (.array .int), (.array .int), (.array .int), (.array (.object "com/example/qopa/qopa/math/Rational")), (.array (.object "com/example/qopa/qopa/math/Rational")), (.array .int), .int, .int, .int, (.object "java/util/Map")]
  staticTypes := #[.int]
  resolved := Array.replicate 163 none
  statics := none }

def pool3 : Array CpInfo := pool [(2, .class_ 4), (1, u "java/util/Map"), (31, .class_ 37), (0, u "java/util/Map$Entry"), (55, .class_ 94), (0, u "java/lang/Object")] 168

/-- java/util/Map -/
def k3 : Class := { plain "java/util/Map" (some 0) with
  accessFlags := 1537
  interfaces := #[]
  cf := some (fileOf pool3 2 #[.nestMembers #[36]] #[] 1537 93 #[] #[])
  fields := #[]
  methods := #[]
  instanceTypes := #[]
  staticTypes := #[]
  resolved := Array.replicate 263 none
  statics := none }

def pool4 : Array CpInfo := pool [(1, .methodref 2 3), (0, .class_ 4), (0, .nameAndType 5 6), (0, u "java/lang/Object"), (0, u "<init>"), (0, u "()V"), (1, .class_ 10), (1, u "java/util/AbstractMap"), (42, .class_ 54), (0, u "java/util/Map"), (9, u "keySet"), (0, u "Ljava/util/Set;"), (0, .class_ 67), (0, u "java/util/AbstractMap$1"), (5, u "values"), (0, u "Ljava/util/Collection;"), (0, .class_ 76), (0, u "java/util/AbstractMap$2"), (104, .class_ 182), (0, u "java/util/AbstractMap$ViewCollection"), (0, .class_ 184), (0, u "java/util/AbstractMap$SimpleImmutableEntry"), (0, .class_ 186), (0, u "java/util/AbstractMap$SimpleEntry"), (0, .class_ 188), (0, u "java/util/AbstractMap$2$1"), (0, .class_ 190), (0, u "java/util/AbstractMap$1$1")] 5

def k4c0 : Code := { maxStack := 1, maxLocals := 1, code := jdk_71_method_1_code, exceptionTable := #[], attributes := #[] }
def k4m0 : Method := { name := "<init>", desc := "()V", sig := { parameters := [], returnType := none }, accessFlags := 4, code := some k4c0 }
/-- java/util/AbstractMap -/
def k4 : Class := { plain "java/util/AbstractMap" (some 0) with
  accessFlags := 1057
  interfaces := #[3]
  cf := some (fileOf pool4 8 #[.nestMembers #[181, 183, 185, 75, 187, 66, 189]] #[{ accessFlags := 4, nameIndex := 5, descriptorIndex := 6, attributes := #[] }] 1057 2 #[53] #[{ accessFlags := 128, nameIndex := 64, descriptorIndex := 65, attributes := #[] }, { accessFlags := 128, nameIndex := 73, descriptorIndex := 74, attributes := #[] }])
  fields := #[{ name := "keySet", type := (.object "java/util/Set"), accessFlags := 128, slot := 0, constantValue := 0 }, { name := "values", type := (.object "java/util/Collection"), accessFlags := 128, slot := 1, constantValue := 0 }]
  methods := #[k4m0]
  instanceTypes := #[(.object "java/util/Set"), (.object "java/util/Collection")]
  staticTypes := #[]
  resolved := Array.replicate 196 none
  statics := none }

def pool5 : Array CpInfo := pool [(1, .class_ 2), (0, u "java/lang/Cloneable"), (0, .class_ 4), (0, u "java/lang/Object")] 2

/-- java/lang/Cloneable -/
def k5 : Class := { plain "java/lang/Cloneable" (some 0) with
  accessFlags := 1537
  interfaces := #[]
  cf := some (fileOf pool5 1 #[] #[] 1537 3 #[] #[])
  fields := #[]
  methods := #[]
  instanceTypes := #[]
  staticTypes := #[]
  resolved := Array.replicate 7 none
  statics := none }

def pool6 : Array CpInfo := pool [(1, .class_ 2), (0, u "java/io/Serializable"), (0, .class_ 4), (0, u "java/lang/Object")] 2

/-- java/io/Serializable -/
def k6 : Class := { plain "java/io/Serializable" (some 0) with
  accessFlags := 1537
  interfaces := #[]
  cf := some (fileOf pool6 1 #[] #[] 1537 3 #[] #[])
  fields := #[]
  methods := #[]
  instanceTypes := #[]
  staticTypes := #[]
  resolved := Array.replicate 7 none
  statics := none }

def pool7 : Array CpInfo := pool [(40, .class_ 41), (0, u "java/util/HashMap"), (1, .methodref 44 45), (0, .class_ 46), (0, .nameAndType 47 48), (0, u "java/util/AbstractMap"), (0, u "<init>"), (0, u "()V"), (32, .fieldref 40 82), (0, .nameAndType 83 84), (0, u "loadFactor"), (0, u "F"), (5, u "threshold"), (0, u "I"), (0, .float 1061158912), (8, .class_ 103), (1, u "java/util/Map"), (0, u "size"), (2, u "table"), (0, u "[Ljava/util/HashMap$Node;"), (14, u "entrySet"), (39, .class_ 165), (1, u "java/util/HashMap$Node"), (14, .class_ 181), (0, u "java/util/HashMap$TreeNode"), (22, u "modCount"), (37, u "Ljava/util/Set;"), (0, .class_ 244), (0, u "java/util/HashMap$KeySet"), (18, .class_ 264), (0, u "java/util/HashMap$Values"), (3, .class_ 269), (0, u "java/util/HashMap$EntrySet"), (76, .class_ 348), (1, u "java/util/HashMap$UnsafeHolder"), (43, .class_ 393), (0, u "java/lang/Cloneable"), (0, .class_ 395), (0, u "java/io/Serializable"), (0, u "serialVersionUID"), (0, u "J"), (3, u "DEFAULT_INITIAL_CAPACITY"), (1, u "MAXIMUM_CAPACITY"), (0, u "DEFAULT_LOAD_FACTOR"), (0, u "TREEIFY_THRESHOLD"), (1, u "UNTREEIFY_THRESHOLD"), (1, u "MIN_TREEIFY_CAPACITY"), (186, .class_ 597), (0, u "java/util/HashMap$EntrySpliterator"), (0, .class_ 599), (0, u "java/util/HashMap$ValueSpliterator"), (0, .class_ 601), (0, u "java/util/HashMap$KeySpliterator"), (0, .class_ 603), (0, u "java/util/HashMap$HashMapSpliterator"), (0, .class_ 605), (0, u "java/util/HashMap$EntryIterator"), (0, .class_ 607), (0, u "java/util/HashMap$ValueIterator"), (0, .class_ 609), (0, u "java/util/HashMap$KeyIterator"), (0, .class_ 611), (0, u "java/util/HashMap$HashIterator")] 17

def k7c0 : Code := { maxStack := 2, maxLocals := 1, code := jdk_69_method_7_code, exceptionTable := #[], attributes := #[] }
def k7m0 : Method := { name := "<init>", desc := "()V", sig := { parameters := [], returnType := none }, accessFlags := 1, code := some k7c0 }
/-- java/util/HashMap -/
def k7 : Class := { plain "java/util/HashMap" (some 4) with
  accessFlags := 33
  interfaces := #[3, 5, 6]
  cf := some (fileOf pool7 40 #[.nestMembers #[180, 596, 598, 600, 602, 604, 606, 608, 610, 346, 268, 263, 243, 163]] #[{ accessFlags := 1, nameIndex := 47, descriptorIndex := 48, attributes := #[] }] 33 44 #[101, 392, 394] #[{ accessFlags := 26, nameIndex := 396, descriptorIndex := 397, attributes := #[] }, { accessFlags := 24, nameIndex := 401, descriptorIndex := 91, attributes := #[] }, { accessFlags := 24, nameIndex := 403, descriptorIndex := 91, attributes := #[] }, { accessFlags := 24, nameIndex := 404, descriptorIndex := 84, attributes := #[] }, { accessFlags := 24, nameIndex := 405, descriptorIndex := 91, attributes := #[] }, { accessFlags := 24, nameIndex := 407, descriptorIndex := 91, attributes := #[] }, { accessFlags := 24, nameIndex := 409, descriptorIndex := 91, attributes := #[] }, { accessFlags := 128, nameIndex := 107, descriptorIndex := 108, attributes := #[] }, { accessFlags := 128, nameIndex := 123, descriptorIndex := 242, attributes := #[] }, { accessFlags := 128, nameIndex := 104, descriptorIndex := 91, attributes := #[] }, { accessFlags := 128, nameIndex := 204, descriptorIndex := 91, attributes := #[] }, { accessFlags := 0, nameIndex := 90, descriptorIndex := 91, attributes := #[] }, { accessFlags := 16, nameIndex := 83, descriptorIndex := 84, attributes := #[] }])
  fields := #[{ name := "serialVersionUID", type := .long, accessFlags := 26, slot := 0, constantValue := 0 }, { name := "DEFAULT_INITIAL_CAPACITY", type := .int, accessFlags := 24, slot := 1, constantValue := 0 }, { name := "MAXIMUM_CAPACITY", type := .int, accessFlags := 24, slot := 2, constantValue := 0 }, { name := "DEFAULT_LOAD_FACTOR", type := .float, accessFlags := 24, slot := 3, constantValue := 0 }, { name := "TREEIFY_THRESHOLD", type := .int, accessFlags := 24, slot := 4, constantValue := 0 }, { name := "UNTREEIFY_THRESHOLD", type := .int, accessFlags := 24, slot := 5, constantValue := 0 }, { name := "MIN_TREEIFY_CAPACITY", type := .int, accessFlags := 24, slot := 6, constantValue := 0 }, { name := "table", type := (.array (.object "java/util/HashMap$Node")), accessFlags := 128, slot := 2, constantValue := 0 }, { name := "entrySet", type := (.object "java/util/Set"), accessFlags := 128, slot := 3, constantValue := 0 }, { name := "size", type := .int, accessFlags := 128, slot := 4, constantValue := 0 }, { name := "modCount", type := .int, accessFlags := 128, slot := 5, constantValue := 0 }, { name := "threshold", type := .int, accessFlags := 0, slot := 6, constantValue := 0 }, { name := "loadFactor", type := .float, accessFlags := 16, slot := 7, constantValue := 0 }]
  methods := #[k7m0]
  instanceTypes := #[(.object "java/util/Set"), (.object "java/util/Collection"), (.array (.object "java/util/HashMap$Node")), (.object "java/util/Set"), .int, .int, .int, .float]
  staticTypes := #[.long, .int, .int, .float, .int, .int, .int]
  resolved := Array.replicate 629 none
  statics := none }

def pool8 : Array CpInfo := pool [(1, .class_ 2), (0, u "java/lang/Comparable"), (0, .class_ 4), (0, u "java/lang/Object")] 7

/-- java/lang/Comparable -/
def k8 : Class := { plain "java/lang/Comparable" (some 0) with
  accessFlags := 1537
  interfaces := #[]
  cf := some (fileOf pool8 1 #[] #[] 1537 3 #[] #[])
  fields := #[]
  methods := #[]
  instanceTypes := #[]
  staticTypes := #[]
  resolved := Array.replicate 12 none
  statics := none }

def pool9 : Array CpInfo := pool [(1, .class_ 2), (0, u "com/example/qopa/qopa/math/Rational"), (1, .class_ 6), (1, u "java/lang/Object"), (4, u "numerator"), (0, u "Ljava/math/BigInteger;"), (2, u "denominator"), (37, u "FRACTION"), (0, u "Ljava/util/regex/Pattern;"), (8, u "DECIMAL"), (70, u "ONE"), (17, .class_ 154), (1, u "com/example/qopa/qopa/math/Rational$CommonFactor"), (12, u "ZERO"), (0, u "Lcom/example/qopa/qopa/math/Rational;"), (20, u "SUM_DENOMINATOR_LIMIT"), (40, u "LN_2"), (0, u "D"), (7, u "DOUBLE_CONTEXT"), (0, u "Ljava/math/MathContext;"), (56, .class_ 298), (0, u "java/lang/Comparable"), (0, u "MAX_DIGITS"), (0, u "I"), (2, u "MAX_EXPONENT"), (0, u "MAX_SUM_DIGITS"), (1, u "TOO_MANY_DIGITS"), (0, u "Ljava/lang/String;")] 47

/-- com/example/qopa/qopa/math/Rational -/
def k9 : Class := { plain "com/example/qopa/qopa/math/Rational" (some 0) with
  accessFlags := 49
  interfaces := #[8]
  cf := some (fileOf pool9 1 #[.nestMembers #[152]] #[] 49 4 #[297] #[{ accessFlags := 25, nameIndex := 167, descriptorIndex := 168, attributes := #[] }, { accessFlags := 25, nameIndex := 134, descriptorIndex := 168, attributes := #[] }, { accessFlags := 25, nameIndex := 299, descriptorIndex := 300, attributes := #[] }, { accessFlags := 25, nameIndex := 303, descriptorIndex := 300, attributes := #[] }, { accessFlags := 25, nameIndex := 304, descriptorIndex := 300, attributes := #[] }, { accessFlags := 26, nameIndex := 189, descriptorIndex := 12, attributes := #[] }, { accessFlags := 26, nameIndex := 239, descriptorIndex := 240, attributes := #[] }, { accessFlags := 26, nameIndex := 230, descriptorIndex := 231, attributes := #[] }, { accessFlags := 26, nameIndex := 306, descriptorIndex := 307, attributes := #[] }, { accessFlags := 26, nameIndex := 53, descriptorIndex := 54, attributes := #[] }, { accessFlags := 26, nameIndex := 63, descriptorIndex := 54, attributes := #[] }, { accessFlags := 18, nameIndex := 11, descriptorIndex := 12, attributes := #[] }, { accessFlags := 18, nameIndex := 15, descriptorIndex := 12, attributes := #[] }])
  fields := #[{ name := "ZERO", type := (.object "com/example/qopa/qopa/math/Rational"), accessFlags := 25, slot := 0, constantValue := 0 }, { name := "ONE", type := (.object "com/example/qopa/qopa/math/Rational"), accessFlags := 25, slot := 1, constantValue := 0 }, { name := "MAX_DIGITS", type := .int, accessFlags := 25, slot := 2, constantValue := 0 }, { name := "MAX_EXPONENT", type := .int, accessFlags := 25, slot := 3, constantValue := 0 }, { name := "MAX_SUM_DIGITS", type := .int, accessFlags := 25, slot := 4, constantValue := 0 }, { name := "SUM_DENOMINATOR_LIMIT", type := (.object "java/math/BigInteger"), accessFlags := 26, slot := 5, constantValue := 0 }, { name := "DOUBLE_CONTEXT", type := (.object "java/math/MathContext"), accessFlags := 26, slot := 6, constantValue := 0 }, { name := "LN_2", type := .double, accessFlags := 26, slot := 7, constantValue := 0 }, { name := "TOO_MANY_DIGITS", type := (.object "java/lang/String"), accessFlags := 26, slot := 8, constantValue := 0 }, { name := "FRACTION", type := (.object "java/util/regex/Pattern"), accessFlags := 26, slot := 9, constantValue := 0 }, { name := "DECIMAL", type := (.object "java/util/regex/Pattern"), accessFlags := 26, slot := 10, constantValue := 0 }, { name := "numerator", type := (.object "java/math/BigInteger"), accessFlags := 18, slot := 0, constantValue := 0 }, { name := "denominator", type := (.object "java/math/BigInteger"), accessFlags := 18, slot := 1, constantValue := 0 }]
  methods := #[]
  instanceTypes := #[(.object "java/math/BigInteger"), (.object "java/math/BigInteger")]
  staticTypes := #[(.object "com/example/qopa/qopa/math/Rational"), (.object "com/example/qopa/qopa/math/Rational"), .int, .int, .int, (.object "java/math/BigInteger"), (.object "java/math/MathContext"), .double, (.object "java/lang/String"), (.object "java/util/regex/Pattern"), (.object "java/util/regex/Pattern")]
  resolved := Array.replicate 355 none
  statics := none }

def pool10 : Array CpInfo := pool [(1, .class_ 2), (0, u "java/lang/constant/Constable"), (0, .class_ 4), (0, u "java/lang/Object")] 6

/-- java/lang/constant/Constable -/
def k10 : Class := { plain "java/lang/constant/Constable" (some 0) with
  accessFlags := 1537
  interfaces := #[]
  cf := some (fileOf pool10 1 #[] #[] 1537 3 #[] #[])
  fields := #[]
  methods := #[]
  instanceTypes := #[]
  staticTypes := #[]
  resolved := Array.replicate 11 none
  statics := none }

def pool11 : Array CpInfo := pool [(2, .class_ 4), (1, u "java/lang/Enum"), (0, u "name"), (0, u "Ljava/lang/String;"), (2, u "ordinal"), (0, u "I"), (1, .class_ 14), (1, u "java/lang/Object"), (4, u "hash"), (86, .class_ 108), (1, u "java/lang/Enum$EnumDesc"), (2, .class_ 112), (0, u "java/lang/constant/Constable"), (0, .class_ 114), (0, u "java/lang/Comparable"), (0, .class_ 116), (0, u "java/io/Serializable")] 87

/-- java/lang/Enum -/
def k11 : Class := { plain "java/lang/Enum" (some 0) with
  accessFlags := 1057
  interfaces := #[10, 8, 6]
  cf := some (fileOf pool11 2 #[.nestMembers #[106]] #[] 1057 12 #[111, 113, 115] #[{ accessFlags := 18, nameIndex := 5, descriptorIndex := 6, attributes := #[] }, { accessFlags := 18, nameIndex := 9, descriptorIndex := 10, attributes := #[] }, { accessFlags := 2, nameIndex := 19, descriptorIndex := 10, attributes := #[] }])
  fields := #[{ name := "name", type := (.object "java/lang/String"), accessFlags := 18, slot := 0, constantValue := 0 }, { name := "ordinal", type := .int, accessFlags := 18, slot := 1, constantValue := 0 }, { name := "hash", type := .int, accessFlags := 2, slot := 2, constantValue := 0 }]
  methods := #[]
  instanceTypes := #[(.object "java/lang/String"), .int, .int]
  staticTypes := #[]
  resolved := Array.replicate 204 none
  statics := none }

def pool12 : Array CpInfo := pool [(1, .class_ 2), (0, u "com/example/qopa/qopa/model/Model$Kind"), (2, u "DTMC"), (0, u "Lcom/example/qopa/qopa/model/Model$Kind;"), (0, .fieldref 1 8), (0, .nameAndType 9 6), (0, u "MDP"), (0, .fieldref 1 11), (0, .nameAndType 12 6), (0, u "IDTMC"), (2, u "$VALUES"), (0, u "[Lcom/example/qopa/qopa/model/Model$Kind;"), (6, .class_ 25), (1, u "java/lang/Enum"), (21, u "isChain"), (0, u "()Z"), (2, u "hasBounds"), (5, .class_ 58), (0, u "com/example/qopa/qopa/model/Model")] 2

def k12c0 : Code := { maxStack := 2, maxLocals := 1, code := prog_72_method_4_code, exceptionTable := #[], attributes := #[] }
def k12m0 : Method := { name := "isChain", desc := "()Z", sig := { parameters := [], returnType := some .boolean }, accessFlags := 1, code := some k12c0 }
def k12c1 : Code := { maxStack := 2, maxLocals := 1, code := prog_72_method_6_code, exceptionTable := #[], attributes := #[] }
def k12m1 : Method := { name := "hasBounds", desc := "()Z", sig := { parameters := [], returnType := some .boolean }, accessFlags := 1, code := some k12c1 }
/-- com/example/qopa/qopa/model/Model$Kind -/
def k12 : Class := { plain "com/example/qopa/qopa/model/Model$Kind" (some 11) with
  accessFlags := 16433
  interfaces := #[]
  cf := some (fileOf pool12 1 #[.nestHost 57] #[{ accessFlags := 1, nameIndex := 47, descriptorIndex := 48, attributes := #[] }, { accessFlags := 1, nameIndex := 51, descriptorIndex := 48, attributes := #[] }] 16433 23 #[] #[{ accessFlags := 16409, nameIndex := 5, descriptorIndex := 6, attributes := #[] }, { accessFlags := 16409, nameIndex := 9, descriptorIndex := 6, attributes := #[] }, { accessFlags := 16409, nameIndex := 12, descriptorIndex := 6, attributes := #[] }, { accessFlags := 4122, nameIndex := 15, descriptorIndex := 16, attributes := #[] }])
  fields := #[{ name := "DTMC", type := (.object "com/example/qopa/qopa/model/Model$Kind"), accessFlags := 16409, slot := 0, constantValue := 0 }, { name := "MDP", type := (.object "com/example/qopa/qopa/model/Model$Kind"), accessFlags := 16409, slot := 1, constantValue := 0 }, { name := "IDTMC", type := (.object "com/example/qopa/qopa/model/Model$Kind"), accessFlags := 16409, slot := 2, constantValue := 0 }, { name := "$VALUES", type := (.array (.object "com/example/qopa/qopa/model/Model$Kind")), accessFlags := 4122, slot := 3, constantValue := 0 }]
  methods := #[k12m0, k12m1]
  instanceTypes := #[(.object "java/lang/String"), .int, .int]
  staticTypes := #[(.object "com/example/qopa/qopa/model/Model$Kind"), (.object "com/example/qopa/qopa/model/Model$Kind"), (.object "com/example/qopa/qopa/model/Model$Kind"), (.array (.object "com/example/qopa/qopa/model/Model$Kind"))]
  resolved := Array.replicate 61 none
  statics := some 0 }

def pool13 : Array CpInfo := pool [(1, .methodref 2 3), (0, .class_ 4), (0, .nameAndType 5 6), (0, u "java/lang/Object"), (0, u "<init>"), (0, u "()V"), (0, .class_ 8), (0, u "java/util/BitSet"), (0, .methodref 7 3), (0, .fieldref 11 12), (0, .class_ 13), (0, .nameAndType 14 15), (0, u "com/example/qopa/qopa/model/Model"), (0, u "terminal"), (0, u "Ljava/util/BitSet;"), (0, .methodref 17 18), (0, .class_ 19), (0, .nameAndType 20 21), (0, u "com/example/qopa/qopa/model/Model$Kind"), (0, u "isChain"), (0, u "()Z"), (10, .fieldref 11 33), (0, .nameAndType 34 35), (0, u "kind"), (0, u "Lcom/example/qopa/qopa/model/Model$Kind;"), (0, .fieldref 11 37), (0, .nameAndType 38 39), (0, u "initialStates"), (0, u "[I"), (0, .fieldref 11 41), (0, .nameAndType 42 43), (0, u "actions"), (0, u "Lcom/example/qopa/qopa/model/Actions;"), (0, .fieldref 11 45), (0, .nameAndType 46 47), (0, u "labels"), (0, u "Ljava/util/Map;"), (0, .fieldref 11 49), (0, .nameAndType 50 39), (0, u "firstChoice"), (0, .fieldref 11 52), (0, .nameAndType 53 39), (0, u "firstTransition"), (0, .fieldref 11 55), (0, .nameAndType 56 39), (0, u "target"), (0, .fieldref 11 58), (0, .nameAndType 59 60), (0, u "lower"), (0, u "[Lcom/example/qopa/qopa/math/Rational;"), (0, .fieldref 11 62), (0, .nameAndType 63 60), (0, u "upper"), (0, .fieldref 11 65), (0, .nameAndType 66 39), (0, u "action"), (0, .methodref 17 68), (0, .nameAndType 69 21), (0, u "hasBounds"), (3, u "()I"), (2, .fieldref 11 77), (0, .nameAndType 78 60), (0, u "slack"), (14, .methodref 11 94), (0, .nameAndType 95 73), (0, u "stateCount"), (51, u "SILENT"), (0, u "I"), (4, u "(Lcom/example/qopa/qopa/model/Model$Kind;[ILcom/example/qopa/qopa/model/Actions;Ljava/util/Map;[I[I[I[Lcom/example/qopa/qopa/math/Rational;[Lcom/example/qopa/qopa/math/Rational;[I)V"), (14, u "transitionCount"), (0, u "(I)I")] 30

def k13c0 : Code := { maxStack := 5, maxLocals := 14, code := prog_71_method_1_code, exceptionTable := #[], attributes := #[] }
def k13m0 : Method := { name := "<init>", desc := "(Lcom/example/qopa/qopa/model/Model$Kind;[ILcom/example/qopa/qopa/model/Actions;Ljava/util/Map;[I[I[I[Lcom/example/qopa/qopa/math/Rational;[Lcom/example/qopa/qopa/math/Rational;[I)V", sig := { parameters := [(.object "com/example/qopa/qopa/model/Model$Kind"), (.array .int), (.object "com/example/qopa/qopa/model/Actions"), (.object "java/util/Map"), (.array .int), (.array .int), (.array .int), (.array (.object "com/example/qopa/qopa/math/Rational")), (.array (.object "com/example/qopa/qopa/math/Rational")), (.array .int)], returnType := none }, accessFlags := 0, code := some k13c0 }
def k13c1 : Code := { maxStack := 2, maxLocals := 1, code := prog_71_method_5_code, exceptionTable := #[], attributes := #[] }
def k13m1 : Method := { name := "stateCount", desc := "()I", sig := { parameters := [], returnType := some .int }, accessFlags := 1, code := some k13c1 }
def k13c2 : Code := { maxStack := 1, maxLocals := 1, code := prog_71_method_9_code, exceptionTable := #[], attributes := #[] }
def k13m2 : Method := { name := "transitionCount", desc := "()I", sig := { parameters := [], returnType := some .int }, accessFlags := 1, code := some k13c2 }
def k13c3 : Code := { maxStack := 2, maxLocals := 2, code := prog_71_method_17_code, exceptionTable := #[], attributes := #[] }
def k13m3 : Method := { name := "action", desc := "(I)I", sig := { parameters := [.int], returnType := some .int }, accessFlags := 1, code := some k13c3 }
/-- com/example/qopa/qopa/model/Model -/
def k13 : Class := { plain "com/example/qopa/qopa/model/Model" (some 0) with
  accessFlags := 49
  interfaces := #[]
  cf := some (fileOf pool13 11 #[.nestMembers #[17]] #[{ accessFlags := 0, nameIndex := 5, descriptorIndex := 153, attributes := #[] }, { accessFlags := 1, nameIndex := 95, descriptorIndex := 73, attributes := #[] }, { accessFlags := 1, nameIndex := 168, descriptorIndex := 73, attributes := #[] }, { accessFlags := 1, nameIndex := 66, descriptorIndex := 169, attributes := #[] }] 49 2 #[] #[{ accessFlags := 25, nameIndex := 147, descriptorIndex := 148, attributes := #[] }, { accessFlags := 18, nameIndex := 34, descriptorIndex := 35, attributes := #[] }, { accessFlags := 18, nameIndex := 38, descriptorIndex := 39, attributes := #[] }, { accessFlags := 18, nameIndex := 42, descriptorIndex := 43, attributes := #[] }, { accessFlags := 18, nameIndex := 46, descriptorIndex := 47, attributes := #[] }, { accessFlags := 18, nameIndex := 50, descriptorIndex := 39, attributes := #[] }, { accessFlags := 18, nameIndex := 53, descriptorIndex := 39, attributes := #[] }, { accessFlags := 18, nameIndex := 56, descriptorIndex := 39, attributes := #[] }, { accessFlags := 18, nameIndex := 59, descriptorIndex := 60, attributes := #[] }, { accessFlags := 18, nameIndex := 63, descriptorIndex := 60, attributes := #[] }, { accessFlags := 18, nameIndex := 78, descriptorIndex := 60, attributes := #[] }, { accessFlags := 18, nameIndex := 66, descriptorIndex := 39, attributes := #[] }, { accessFlags := 18, nameIndex := 14, descriptorIndex := 15, attributes := #[] }])
  fields := #[{ name := "SILENT", type := .int, accessFlags := 25, slot := 0, constantValue := 0 }, { name := "kind", type := (.object "com/example/qopa/qopa/model/Model$Kind"), accessFlags := 18, slot := 0, constantValue := 0 }, { name := "initialStates", type := (.array .int), accessFlags := 18, slot := 1, constantValue := 0 }, { name := "actions", type := (.object "com/example/qopa/qopa/model/Actions"), accessFlags := 18, slot := 2, constantValue := 0 }, { name := "labels", type := (.object "java/util/Map"), accessFlags := 18, slot := 3, constantValue := 0 }, { name := "firstChoice", type := (.array .int), accessFlags := 18, slot := 4, constantValue := 0 }, { name := "firstTransition", type := (.array .int), accessFlags := 18, slot := 5, constantValue := 0 }, { name := "target", type := (.array .int), accessFlags := 18, slot := 6, constantValue := 0 }, { name := "lower", type := (.array (.object "com/example/qopa/qopa/math/Rational")), accessFlags := 18, slot := 7, constantValue := 0 }, { name := "upper", type := (.array (.object "com/example/qopa/qopa/math/Rational")), accessFlags := 18, slot := 8, constantValue := 0 }, { name := "slack", type := (.array (.object "com/example/qopa/qopa/math/Rational")), accessFlags := 18, slot := 9, constantValue := 0 }, { name := "action", type := (.array .int), accessFlags := 18, slot := 10, constantValue := 0 }, { name := "terminal", type := (.object "java/util/BitSet"), accessFlags := 18, slot := 11, constantValue := 0 }]
  methods := #[k13m0, k13m1, k13m2, k13m3]
  instanceTypes := #[(.object "com/example/qopa/qopa/model/Model$Kind"), (.array .int), (.object "com/example/qopa/qopa/model/Actions"), (.object "java/util/Map"), (.array .int), (.array .int), (.array .int), (.array (.object "com/example/qopa/qopa/math/Rational")), (.array (.object "com/example/qopa/qopa/math/Rational")), (.array (.object "com/example/qopa/qopa/math/Rational")), (.array .int), (.object "java/util/BitSet")]
  staticTypes := #[.int]
  resolved := Array.replicate 200 none
  statics := none }

def pool14 : Array CpInfo := pool [(1, .class_ 2), (0, u "java/util/BitSet"), (2, u "$assertionsDisabled"), (0, u "Z"), (0, .fieldref 1 8), (0, .nameAndType 9 10), (0, u "wordsInUse"), (0, u "I"), (0, .fieldref 1 12), (0, .nameAndType 13 14), (0, u "words"), (0, u "[J"), (3, .nameAndType 19 20), (0, u "<init>"), (0, u "()V"), (0, .methodref 22 18), (0, .class_ 23), (0, u "java/lang/Object"), (0, .fieldref 1 25), (0, .nameAndType 26 6), (0, u "sizeIsSticky"), (0, .methodref 1 28), (0, .nameAndType 29 30), (0, u "initWords"), (0, u "(I)V"), (21, .methodref 1 53), (0, .nameAndType 54 55), (0, u "wordIndex"), (0, u "(I)I"), (213, .class_ 270), (0, u "java/util/BitSet$1BitSetSpliterator"), (22, u "serialPersistentFields"), (0, u "[Ljava/io/ObjectStreamField;"), (0, .class_ 296), (0, u "java/lang/Cloneable"), (0, .class_ 298), (0, u "java/io/Serializable"), (0, u "ADDRESS_BITS_PER_WORD"), (2, u "BITS_PER_WORD"), (1, u "BIT_INDEX_MASK"), (1, u "WORD_MASK"), (0, u "J"), (0, u "serialVersionUID")] 108

def k14c0 : Code := { maxStack := 2, maxLocals := 1, code := jdk_92_method_1_code, exceptionTable := #[], attributes := #[] }
def k14m0 : Method := { name := "wordIndex", desc := "(I)I", sig := { parameters := [.int], returnType := some .int }, accessFlags := 10, code := some k14c0 }
def k14c1 : Code := { maxStack := 2, maxLocals := 1, code := jdk_92_method_4_code, exceptionTable := #[], attributes := #[] }
def k14m1 : Method := { name := "<init>", desc := "()V", sig := { parameters := [], returnType := none }, accessFlags := 1, code := some k14c1 }
def k14c2 : Code := { maxStack := 3, maxLocals := 2, code := jdk_92_method_6_code, exceptionTable := #[], attributes := #[] }
def k14m2 : Method := { name := "initWords", desc := "(I)V", sig := { parameters := [.int], returnType := none }, accessFlags := 2, code := some k14c2 }
/-- java/util/BitSet -/
def k14 : Class := { plain "java/util/BitSet" (some 0) with
  accessFlags := 33
  interfaces := #[5, 6]
  cf := some (fileOf pool14 1 #[.nestMembers #[269]] #[{ accessFlags := 10, nameIndex := 54, descriptorIndex := 55, attributes := #[] }, { accessFlags := 1, nameIndex := 19, descriptorIndex := 20, attributes := #[] }, { accessFlags := 2, nameIndex := 29, descriptorIndex := 30, attributes := #[] }] 33 22 #[295, 297] #[{ accessFlags := 26, nameIndex := 299, descriptorIndex := 10, attributes := #[] }, { accessFlags := 26, nameIndex := 302, descriptorIndex := 10, attributes := #[] }, { accessFlags := 26, nameIndex := 304, descriptorIndex := 10, attributes := #[] }, { accessFlags := 26, nameIndex := 306, descriptorIndex := 307, attributes := #[] }, { accessFlags := 26, nameIndex := 293, descriptorIndex := 294, attributes := #[] }, { accessFlags := 2, nameIndex := 13, descriptorIndex := 14, attributes := #[] }, { accessFlags := 130, nameIndex := 9, descriptorIndex := 10, attributes := #[] }, { accessFlags := 130, nameIndex := 26, descriptorIndex := 6, attributes := #[] }, { accessFlags := 26, nameIndex := 308, descriptorIndex := 307, attributes := #[] }, { accessFlags := 4120, nameIndex := 5, descriptorIndex := 6, attributes := #[] }])
  fields := #[{ name := "ADDRESS_BITS_PER_WORD", type := .int, accessFlags := 26, slot := 0, constantValue := 0 }, { name := "BITS_PER_WORD", type := .int, accessFlags := 26, slot := 1, constantValue := 0 }, { name := "BIT_INDEX_MASK", type := .int, accessFlags := 26, slot := 2, constantValue := 0 }, { name := "WORD_MASK", type := .long, accessFlags := 26, slot := 3, constantValue := 0 }, { name := "serialPersistentFields", type := (.array (.object "java/io/ObjectStreamField")), accessFlags := 26, slot := 4, constantValue := 0 }, { name := "words", type := (.array .long), accessFlags := 2, slot := 0, constantValue := 0 }, { name := "wordsInUse", type := .int, accessFlags := 130, slot := 1, constantValue := 0 }, { name := "sizeIsSticky", type := .boolean, accessFlags := 130, slot := 2, constantValue := 0 }, { name := "serialVersionUID", type := .long, accessFlags := 26, slot := 5, constantValue := 0 }, { name := "$assertionsDisabled", type := .boolean, accessFlags := 4120, slot := 6, constantValue := 0 }]
  methods := #[k14m0, k14m1, k14m2]
  instanceTypes := #[(.array .long), .int, .boolean]
  staticTypes := #[.int, .int, .int, .long, (.array (.object "java/io/ObjectStreamField")), .long, .boolean]
  resolved := Array.replicate 417 none
  statics := none }

/-- the primitive byte -/
def k15 : Class := { plain "byte" none with kind := .primitive 'B', accessFlags := 0x411 }
/-- [B -/
def k16 : Class := { plain "[B" (some 0) with kind := .array 15 .byte, interfaces := #[5, 6], accessFlags := 1041 }

/-- the primitive int -/
def k17 : Class := { plain "int" none with kind := .primitive 'I', accessFlags := 0x411 }
/-- [I -/
def k18 : Class := { plain "[I" (some 0) with kind := .array 17 .int, interfaces := #[5, 6], accessFlags := 1041 }

/-- the primitive long -/
def k19 : Class := { plain "long" none with kind := .primitive 'J', accessFlags := 0x411 }
/-- [J -/
def k20 : Class := { plain "[J" (some 0) with kind := .array 19 .long, interfaces := #[5, 6], accessFlags := 1041 }

/-- [Lcom/example/qopa/qopa/math/Rational; -/
def k21 : Class := { plain "[Lcom/example/qopa/qopa/math/Rational;" (some 0) with kind := .array 9 (.object "com/example/qopa/qopa/math/Rational"), interfaces := #[5, 6], accessFlags := 1041 }

def heap : Heap := #[{ cls := 12, slots := #[.null, .ref 1, .ref 2, .null], vm := .statics 12 },
  { cls := 12, slots := #[.null, .int 1, .int 0], vm := .none },
  { cls := 12, slots := #[.null, .int 2, .int 0], vm := .none }]
def classes : Array Class := #[k0, k1, k2, k3, k4, k5, k6, k7, k8, k9, k10, k11, k12, k13, k14, k15, k16, k17, k18, k19, k20, k21]
def interned : List (Array UInt16 × Addr) := []
def slotsUsed : Nat := 10
def theMethod : MethodId := ⟨1, 3⟩
def args0 : Array Value := #[.int 5, .int 6, .int 7, .int 8, .int 9]
def aboutOver (below : List Frame) : State where
  vm := { classes := classes, interned := interned.toArray }
  heap := heap
  slotsUsed := slotsUsed
  threads := #[{ frames := .invoking theMethod args0 :: below }]
def below0 : List Frame := [.native { method := ⟨0, 0⟩, args := #[] }]
def about1 : State := aboutOver below0
def p0 : Program := .bare "" "" ""
def e0 : Env := launch0.env 0 0 0
theorem w_frames : about1.frames = Frame.invoking theMethod args0 :: below0 := rfl
set_option maxRecDepth 65536 in
theorem w_args : argsFit about1.vm theMethod args0 = true := by decide +kernel
set_option maxRecDepth 65536 in
theorem w_heap : heapFits about1 = true := by decide +kernel
set_option maxRecDepth 65536 in
theorem w_runnable : about1.curStatus? = some .runnable := by decide +kernel
set_option maxRecDepth 65536 in
theorem w_alone : about1.alone = true := by decide +kernel
set_option maxRecDepth 65536 in
theorem w_named : about1.methodNamed? x = some theMethod := by decide +kernel
set_option maxRecDepth 65536 in
theorem w_hears : about1.hears theMethod below0 = true := by decide +kernel
set_option maxRecDepth 65536 in
theorem w_ripe : about1.ripe theMethod args0 below0 = true := by decide +kernel
theorem w_running : about1.status = .running := rfl
set_option maxRecDepth 65536 in
theorem w_room : about1.hasRoom e0.platform room_1 = true :=
  launch0.hasRoom_least _ room_1 (by decide +kernel) (by decide +kernel) (by decide +kernel) (by decide +kernel) (by decide +kernel) (by decide +kernel)
theorem allAtoms_all (ts : List Jvm.Cond) (a : Array Jvm.Value) (st : Jvm.State) : (allAtoms ts).before a st = ts.all (fun c => c.before a st) := by
  induction ts with
  | nil => rfl
  | cons c t ih =>
    show (Jvm.Cond.and c (allAtoms t)).before a st = _
    rw [Jvm.Cond.before_and, ih, List.all_cons]
def words1 : List Jvm.Cond := Jvm.Cond.code x code maxLocals ret :: tables_1
/-- a 'code' word, met by the world's own term for the bytes: nothing is compared byte by byte -/
theorem code_word {y : MethodName} {bytes : ByteArray} {mx : Nat} {rt : Option FieldType} {a : Array Value} {s : State} {m : MethodId} {meth : Method} {c : Code} (h1 : s.methodNamed? y = some m) (h2 : s.vm.method? m = some meth) (h3 : meth.code = some c) (h4 : c.code = bytes)
    (h5 : (c.maxLocals == mx && c.exceptionTable.isEmpty && decide (c.maxStack ≤ mostOperands) && decide (meth.sig.returnType = rt) && !meth.locks && decide (parseMethodDescriptor y.desc = some meth.sig)) = true) : (Jvm.Cond.code y bytes mx rt).before a s = true := by
  simp only [Bool.and_eq_true, beq_iff_eq, Bool.not_eq_true', decide_eq_true_eq] at h5
  obtain ⟨⟨⟨⟨⟨g1, g2⟩, g3⟩, g4⟩, g5⟩, g6⟩ := h5
  simp [Cond.before, Cond.holds, Cond.value, h1, h2, h3, h4, g1, g2, g3, g4, g5, g6]
def isCode : Jvm.Cond → Bool
  | .code _ _ _ _ => true
  | _ => false
theorem all_split {L : List Jvm.Cond} {P : Jvm.Cond → Bool} (h1 : L.all (fun c => isCode c || P c) = true) (h2 : ∀ c ∈ L.filter isCode, P c = true) : L.all P = true := by
  refine List.all_eq_true.mpr fun c hc => ?_
  have h := List.all_eq_true.mp h1 c hc
  rcases Bool.eq_false_or_eq_true (isCode c) with hi | hi
  · exact h2 c (List.mem_filter.mpr ⟨hc, hi⟩)
  · simpa [hi] using h
set_option maxRecDepth 65536 in
theorem w_c0 : (Jvm.Cond.code x code maxLocals ret).before args0 about1 = true := code_word (m := ⟨1, 3⟩) (meth := k1m3) (c := k1c3) (by decide +kernel) rfl rfl rfl (by decide +kernel)
set_option maxRecDepth 65536 in
theorem w_c1 : (Jvm.Cond.code ({ cls := "com/example/qopa/qopa/model/ModelBuilderRenumberActionsPinLaw", name := "pickAction", desc := "(I)I" } : Jvm.MethodName) method_2_code (1 : Nat) (Option.some Jvm.ClassFile.FieldType.int)).before args0 about1 = true := code_word (m := ⟨1, 1⟩) (meth := k1m1) (c := k1c1) (by decide +kernel) rfl rfl rfl (by decide +kernel)
set_option maxRecDepth 65536 in
theorem w_c2 : (Jvm.Cond.code ({ cls := "com/example/qopa/qopa/model/ModelBuilder", name := "<init>", desc := "(ZIII)V" } : Jvm.MethodName) prog_73_method_1_code (5 : Nat) (Option.none : Option Jvm.ClassFile.FieldType)).before args0 about1 = true := code_word (m := ⟨2, 0⟩) (meth := k2m0) (c := k2c0) (by decide +kernel) rfl rfl rfl (by decide +kernel)
set_option maxRecDepth 65536 in
theorem w_c3 : (Jvm.Cond.code ({ cls := "java/lang/Object", name := "<init>", desc := "()V" } : Jvm.MethodName) object_method_1_code (1 : Nat) (Option.none : Option Jvm.ClassFile.FieldType)).before args0 about1 = true := code_word (m := ⟨0, 0⟩) (meth := k0m0) (c := k0c0) (by decide +kernel) rfl rfl rfl (by decide +kernel)
set_option maxRecDepth 65536 in
theorem w_c4 : (Jvm.Cond.code ({ cls := "java/util/HashMap", name := "<init>", desc := "()V" } : Jvm.MethodName) jdk_69_method_7_code (1 : Nat) (Option.none : Option Jvm.ClassFile.FieldType)).before args0 about1 = true := code_word (m := ⟨7, 0⟩) (meth := k7m0) (c := k7c0) (by decide +kernel) rfl rfl rfl (by decide +kernel)
set_option maxRecDepth 65536 in
theorem w_c5 : (Jvm.Cond.code ({ cls := "java/util/AbstractMap", name := "<init>", desc := "()V" } : Jvm.MethodName) jdk_71_method_1_code (1 : Nat) (Option.none : Option Jvm.ClassFile.FieldType)).before args0 about1 = true := code_word (m := ⟨4, 0⟩) (meth := k4m0) (c := k4c0) (by decide +kernel) rfl rfl rfl (by decide +kernel)
set_option maxRecDepth 65536 in
theorem w_c6 : (Jvm.Cond.code ({ cls := "com/example/qopa/qopa/model/ModelBuilder", name := "add", desc := "(ILcom/example/qopa/qopa/math/Rational;I)V" } : Jvm.MethodName) prog_73_method_3_code (4 : Nat) (Option.none : Option Jvm.ClassFile.FieldType)).before args0 about1 = true := code_word (m := ⟨2, 2⟩) (meth := k2m2) (c := k2c2) (by decide +kernel) rfl rfl rfl (by decide +kernel)
set_option maxRecDepth 65536 in
theorem w_c7 : (Jvm.Cond.code ({ cls := "com/example/qopa/qopa/model/ModelBuilder", name := "add", desc := "(ILcom/example/qopa/qopa/math/Rational;Lcom/example/qopa/qopa/math/Rational;I)V" } : Jvm.MethodName) prog_73_method_2_code (6 : Nat) (Option.none : Option Jvm.ClassFile.FieldType)).before args0 about1 = true := code_word (m := ⟨2, 1⟩) (meth := k2m1) (c := k2c1) (by decide +kernel) rfl rfl rfl (by decide +kernel)
set_option maxRecDepth 65536 in
theorem w_c8 : (Jvm.Cond.code ({ cls := "com/example/qopa/qopa/model/ModelBuilder", name := "renumberActions", desc := "([I)V" } : Jvm.MethodName) prog_73_method_7_code (3 : Nat) (Option.none : Option Jvm.ClassFile.FieldType)).before args0 about1 = true := code_word (m := ⟨2, 3⟩) (meth := k2m3) (c := k2c3) (by decide +kernel) rfl rfl rfl (by decide +kernel)
set_option maxRecDepth 65536 in
theorem w_c9 : (Jvm.Cond.code ({ cls := "com/example/qopa/qopa/model/ModelBuilder", name := "build", desc := "(Lcom/example/qopa/qopa/model/Model$Kind;[ILcom/example/qopa/qopa/model/Actions;Ljava/util/Map;)Lcom/example/qopa/qopa/model/Model;" } : Jvm.MethodName) prog_73_method_8_code (7 : Nat) (Option.some (Jvm.ClassFile.FieldType.object "com/example/qopa/qopa/model/Model"))).before args0 about1 = true := code_word (m := ⟨2, 4⟩) (meth := k2m4) (c := k2c4) (by decide +kernel) rfl rfl rfl (by decide +kernel)
set_option maxRecDepth 65536 in
theorem w_c10 : (Jvm.Cond.code ({ cls := "com/example/qopa/qopa/model/ModelBuilder", name := "trim", desc := "([Lcom/example/qopa/qopa/math/Rational;I)[Lcom/example/qopa/qopa/math/Rational;" } : Jvm.MethodName) prog_73_method_11_code (2 : Nat) (Option.some (Jvm.ClassFile.FieldType.array (Jvm.ClassFile.FieldType.object "com/example/qopa/qopa/math/Rational")))).before args0 about1 = true := code_word (m := ⟨2, 6⟩) (meth := k2m6) (c := k2c6) (by decide +kernel) rfl rfl rfl (by decide +kernel)
set_option maxRecDepth 65536 in
theorem w_c11 : (Jvm.Cond.code ({ cls := "com/example/qopa/qopa/model/ModelBuilder", name := "trim", desc := "([II)[I" } : Jvm.MethodName) prog_73_method_10_code (2 : Nat) (Option.some (Jvm.ClassFile.FieldType.array Jvm.ClassFile.FieldType.int))).before args0 about1 = true := code_word (m := ⟨2, 5⟩) (meth := k2m5) (c := k2c5) (by decide +kernel) rfl rfl rfl (by decide +kernel)
set_option maxRecDepth 65536 in
theorem w_c12 : (Jvm.Cond.code ({ cls := "com/example/qopa/qopa/model/Model", name := "<init>", desc := "(Lcom/example/qopa/qopa/model/Model$Kind;[ILcom/example/qopa/qopa/model/Actions;Ljava/util/Map;[I[I[I[Lcom/example/qopa/qopa/math/Rational;[Lcom/example/qopa/qopa/math/Rational;[I)V" } : Jvm.MethodName) prog_71_method_1_code (14 : Nat) (Option.none : Option Jvm.ClassFile.FieldType)).before args0 about1 = true := code_word (m := ⟨13, 0⟩) (meth := k13m0) (c := k13c0) (by decide +kernel) rfl rfl rfl (by decide +kernel)
set_option maxRecDepth 65536 in
theorem w_c13 : (Jvm.Cond.code ({ cls := "java/util/BitSet", name := "<init>", desc := "()V" } : Jvm.MethodName) jdk_92_method_4_code (1 : Nat) (Option.none : Option Jvm.ClassFile.FieldType)).before args0 about1 = true := code_word (m := ⟨14, 1⟩) (meth := k14m1) (c := k14c1) (by decide +kernel) rfl rfl rfl (by decide +kernel)
set_option maxRecDepth 65536 in
theorem w_c14 : (Jvm.Cond.code ({ cls := "java/util/BitSet", name := "initWords", desc := "(I)V" } : Jvm.MethodName) jdk_92_method_6_code (2 : Nat) (Option.none : Option Jvm.ClassFile.FieldType)).before args0 about1 = true := code_word (m := ⟨14, 2⟩) (meth := k14m2) (c := k14c2) (by decide +kernel) rfl rfl rfl (by decide +kernel)
set_option maxRecDepth 65536 in
theorem w_c15 : (Jvm.Cond.code ({ cls := "java/util/BitSet", name := "wordIndex", desc := "(I)I" } : Jvm.MethodName) jdk_92_method_1_code (1 : Nat) (Option.some Jvm.ClassFile.FieldType.int)).before args0 about1 = true := code_word (m := ⟨14, 0⟩) (meth := k14m0) (c := k14c0) (by decide +kernel) rfl rfl rfl (by decide +kernel)
set_option maxRecDepth 65536 in
theorem w_c16 : (Jvm.Cond.code ({ cls := "com/example/qopa/qopa/model/Model$Kind", name := "isChain", desc := "()Z" } : Jvm.MethodName) prog_72_method_4_code (1 : Nat) (Option.some Jvm.ClassFile.FieldType.boolean)).before args0 about1 = true := code_word (m := ⟨12, 0⟩) (meth := k12m0) (c := k12c0) (by decide +kernel) rfl rfl rfl (by decide +kernel)
set_option maxRecDepth 65536 in
theorem w_c17 : (Jvm.Cond.code ({ cls := "com/example/qopa/qopa/model/Model$Kind", name := "hasBounds", desc := "()Z" } : Jvm.MethodName) prog_72_method_6_code (1 : Nat) (Option.some Jvm.ClassFile.FieldType.boolean)).before args0 about1 = true := code_word (m := ⟨12, 1⟩) (meth := k12m1) (c := k12c1) (by decide +kernel) rfl rfl rfl (by decide +kernel)
set_option maxRecDepth 65536 in
theorem w_c18 : (Jvm.Cond.code ({ cls := "com/example/qopa/qopa/model/Model", name := "stateCount", desc := "()I" } : Jvm.MethodName) prog_71_method_5_code (1 : Nat) (Option.some Jvm.ClassFile.FieldType.int)).before args0 about1 = true := code_word (m := ⟨13, 1⟩) (meth := k13m1) (c := k13c1) (by decide +kernel) rfl rfl rfl (by decide +kernel)
set_option maxRecDepth 65536 in
theorem w_c19 : (Jvm.Cond.code ({ cls := "com/example/qopa/qopa/model/Model", name := "transitionCount", desc := "()I" } : Jvm.MethodName) prog_71_method_9_code (1 : Nat) (Option.some Jvm.ClassFile.FieldType.int)).before args0 about1 = true := code_word (m := ⟨13, 2⟩) (meth := k13m2) (c := k13c2) (by decide +kernel) rfl rfl rfl (by decide +kernel)
set_option maxRecDepth 65536 in
theorem w_c20 : (Jvm.Cond.code ({ cls := "com/example/qopa/qopa/model/Model", name := "action", desc := "(I)I" } : Jvm.MethodName) prog_71_method_17_code (2 : Nat) (Option.some Jvm.ClassFile.FieldType.int)).before args0 about1 = true := code_word (m := ⟨13, 3⟩) (meth := k13m3) (c := k13c3) (by decide +kernel) rfl rfl rfl (by decide +kernel)
set_option maxRecDepth 65536 in
theorem w_c21 : (Jvm.Cond.code ({ cls := "com/example/qopa/qopa/model/ModelBuilderRenumberActionsPinLaw", name := "expected", desc := "(IIIII)I" } : Jvm.MethodName) method_3_code (5 : Nat) (Option.some Jvm.ClassFile.FieldType.int)).before args0 about1 = true := code_word (m := ⟨1, 2⟩) (meth := k1m2) (c := k1c2) (by decide +kernel) rfl rfl rfl (by decide +kernel)
def codes1 : List Jvm.Cond := [Jvm.Cond.code x code maxLocals ret, Jvm.Cond.code ({ cls := "com/example/qopa/qopa/model/ModelBuilderRenumberActionsPinLaw", name := "pickAction", desc := "(I)I" } : Jvm.MethodName) method_2_code (1 : Nat) (Option.some Jvm.ClassFile.FieldType.int), Jvm.Cond.code ({ cls := "com/example/qopa/qopa/model/ModelBuilder", name := "<init>", desc := "(ZIII)V" } : Jvm.MethodName) prog_73_method_1_code (5 : Nat) (Option.none : Option Jvm.ClassFile.FieldType), Jvm.Cond.code ({ cls := "java/lang/Object", name := "<init>", desc := "()V" } : Jvm.MethodName) object_method_1_code (1 : Nat) (Option.none : Option Jvm.ClassFile.FieldType), Jvm.Cond.code ({ cls := "java/util/HashMap", name := "<init>", desc := "()V" } : Jvm.MethodName) jdk_69_method_7_code (1 : Nat) (Option.none : Option Jvm.ClassFile.FieldType), Jvm.Cond.code ({ cls := "java/util/AbstractMap", name := "<init>", desc := "()V" } : Jvm.MethodName) jdk_71_method_1_code (1 : Nat) (Option.none : Option Jvm.ClassFile.FieldType), Jvm.Cond.code ({ cls := "com/example/qopa/qopa/model/ModelBuilder", name := "add", desc := "(ILcom/example/qopa/qopa/math/Rational;I)V" } : Jvm.MethodName) prog_73_method_3_code (4 : Nat) (Option.none : Option Jvm.ClassFile.FieldType), Jvm.Cond.code ({ cls := "com/example/qopa/qopa/model/ModelBuilder", name := "add", desc := "(ILcom/example/qopa/qopa/math/Rational;Lcom/example/qopa/qopa/math/Rational;I)V" } : Jvm.MethodName) prog_73_method_2_code (6 : Nat) (Option.none : Option Jvm.ClassFile.FieldType), Jvm.Cond.code ({ cls := "com/example/qopa/qopa/model/ModelBuilder", name := "renumberActions", desc := "([I)V" } : Jvm.MethodName) prog_73_method_7_code (3 : Nat) (Option.none : Option Jvm.ClassFile.FieldType), Jvm.Cond.code ({ cls := "com/example/qopa/qopa/model/ModelBuilder", name := "build", desc := "(Lcom/example/qopa/qopa/model/Model$Kind;[ILcom/example/qopa/qopa/model/Actions;Ljava/util/Map;)Lcom/example/qopa/qopa/model/Model;" } : Jvm.MethodName) prog_73_method_8_code (7 : Nat) (Option.some (Jvm.ClassFile.FieldType.object "com/example/qopa/qopa/model/Model")), Jvm.Cond.code ({ cls := "com/example/qopa/qopa/model/ModelBuilder", name := "trim", desc := "([Lcom/example/qopa/qopa/math/Rational;I)[Lcom/example/qopa/qopa/math/Rational;" } : Jvm.MethodName) prog_73_method_11_code (2 : Nat) (Option.some (Jvm.ClassFile.FieldType.array (Jvm.ClassFile.FieldType.object "com/example/qopa/qopa/math/Rational"))), Jvm.Cond.code ({ cls := "com/example/qopa/qopa/model/ModelBuilder", name := "trim", desc := "([II)[I" } : Jvm.MethodName) prog_73_method_10_code (2 : Nat) (Option.some (Jvm.ClassFile.FieldType.array Jvm.ClassFile.FieldType.int)), Jvm.Cond.code ({ cls := "com/example/qopa/qopa/model/Model", name := "<init>", desc := "(Lcom/example/qopa/qopa/model/Model$Kind;[ILcom/example/qopa/qopa/model/Actions;Ljava/util/Map;[I[I[I[Lcom/example/qopa/qopa/math/Rational;[Lcom/example/qopa/qopa/math/Rational;[I)V" } : Jvm.MethodName) prog_71_method_1_code (14 : Nat) (Option.none : Option Jvm.ClassFile.FieldType), Jvm.Cond.code ({ cls := "java/util/BitSet", name := "<init>", desc := "()V" } : Jvm.MethodName) jdk_92_method_4_code (1 : Nat) (Option.none : Option Jvm.ClassFile.FieldType), Jvm.Cond.code ({ cls := "java/util/BitSet", name := "initWords", desc := "(I)V" } : Jvm.MethodName) jdk_92_method_6_code (2 : Nat) (Option.none : Option Jvm.ClassFile.FieldType), Jvm.Cond.code ({ cls := "java/util/BitSet", name := "wordIndex", desc := "(I)I" } : Jvm.MethodName) jdk_92_method_1_code (1 : Nat) (Option.some Jvm.ClassFile.FieldType.int), Jvm.Cond.code ({ cls := "com/example/qopa/qopa/model/Model$Kind", name := "isChain", desc := "()Z" } : Jvm.MethodName) prog_72_method_4_code (1 : Nat) (Option.some Jvm.ClassFile.FieldType.boolean), Jvm.Cond.code ({ cls := "com/example/qopa/qopa/model/Model$Kind", name := "hasBounds", desc := "()Z" } : Jvm.MethodName) prog_72_method_6_code (1 : Nat) (Option.some Jvm.ClassFile.FieldType.boolean), Jvm.Cond.code ({ cls := "com/example/qopa/qopa/model/Model", name := "stateCount", desc := "()I" } : Jvm.MethodName) prog_71_method_5_code (1 : Nat) (Option.some Jvm.ClassFile.FieldType.int), Jvm.Cond.code ({ cls := "com/example/qopa/qopa/model/Model", name := "transitionCount", desc := "()I" } : Jvm.MethodName) prog_71_method_9_code (1 : Nat) (Option.some Jvm.ClassFile.FieldType.int), Jvm.Cond.code ({ cls := "com/example/qopa/qopa/model/Model", name := "action", desc := "(I)I" } : Jvm.MethodName) prog_71_method_17_code (2 : Nat) (Option.some Jvm.ClassFile.FieldType.int), Jvm.Cond.code ({ cls := "com/example/qopa/qopa/model/ModelBuilderRenumberActionsPinLaw", name := "expected", desc := "(IIIII)I" } : Jvm.MethodName) method_3_code (5 : Nat) (Option.some Jvm.ClassFile.FieldType.int)]
set_option maxRecDepth 65536 in
theorem codes_eq : words1.filter isCode = codes1 := rfl
theorem w_codes : ∀ c ∈ words1.filter isCode, c.before args0 about1 = true := by
  rw [codes_eq]
  intro c hc
  simp only [codes1, List.mem_cons, List.not_mem_nil, or_false] at hc
  rcases hc with rfl | rfl | rfl | rfl | rfl | rfl | rfl | rfl | rfl | rfl | rfl | rfl | rfl | rfl | rfl | rfl | rfl | rfl | rfl | rfl | rfl | rfl
  · exact w_c0
  · exact w_c1
  · exact w_c2
  · exact w_c3
  · exact w_c4
  · exact w_c5
  · exact w_c6
  · exact w_c7
  · exact w_c8
  · exact w_c9
  · exact w_c10
  · exact w_c11
  · exact w_c12
  · exact w_c13
  · exact w_c14
  · exact w_c15
  · exact w_c16
  · exact w_c17
  · exact w_c18
  · exact w_c19
  · exact w_c20
  · exact w_c21
set_option maxRecDepth 65536 in
theorem w_t1 : (words1.take 24).all (fun c => isCode c || c.before args0 about1) = true := by decide +kernel
set_option maxRecDepth 65536 in
theorem w_t2 : ((words1.drop 24).take 24).all (fun c => isCode c || c.before args0 about1) = true := by decide +kernel
set_option maxRecDepth 65536 in
theorem w_t3 : (((words1.drop 24).drop 24).take 24).all (fun c => isCode c || c.before args0 about1) = true := by decide +kernel
set_option maxRecDepth 65536 in
theorem w_t4 : ((((words1.drop 24).drop 24).drop 24).take 24).all (fun c => isCode c || c.before args0 about1) = true := by decide +kernel
set_option maxRecDepth 65536 in
theorem w_t5 : (((((words1.drop 24).drop 24).drop 24).drop 24).take 24).all (fun c => isCode c || c.before args0 about1) = true := by decide +kernel
set_option maxRecDepth 65536 in
theorem w_t6 : ((((((words1.drop 24).drop 24).drop 24).drop 24).drop 24).take 24).all (fun c => isCode c || c.before args0 about1) = true := by decide +kernel
set_option maxRecDepth 65536 in
theorem w_t7 : ((((((words1.drop 24).drop 24).drop 24).drop 24).drop 24).drop 24).all (fun c => isCode c || c.before args0 about1) = true := by decide +kernel
theorem w_tables : (allAtoms (Jvm.Cond.code x code maxLocals ret :: tables_1)).before args0 about1 = true := by
  rw [allAtoms_all]
  show words1.all (fun c => c.before args0 about1) = true
  refine all_split ?_ w_codes
  rw [← List.take_append_drop 24 words1, List.all_append, w_t1, ← List.take_append_drop 24 (words1.drop 24), List.all_append, w_t2, ← List.take_append_drop 24 ((words1.drop 24).drop 24), List.all_append, w_t3, ← List.take_append_drop 24 (((words1.drop 24).drop 24).drop 24), List.all_append, w_t4, ← List.take_append_drop 24 ((((words1.drop 24).drop 24).drop 24).drop 24), List.all_append, w_t5, ← List.take_append_drop 24 (((((words1.drop 24).drop 24).drop 24).drop 24).drop 24), List.all_append, w_t6, w_t7]
  rfl
set_option maxRecDepth 65536 in
theorem w_case : (Jvm.Cond.and given_1 narrow_1).before args0 about1 = true := by decide +kernel
theorem w_applies : (headSpec (Jvm.Cond.code x code maxLocals ret :: tables_1) room_1).applies x e0.platform about1 = true :=
  (Spec.applies_iff w_frames).mpr ⟨w_running, w_runnable, w_alone, w_named, w_hears, w_ripe, w_room, w_tables⟩
theorem atStart : AtStart classFile x code maxLocals ret World_1 tables_1 room_1 Calls_1 rest_1 Pre_1 launch0 p0 e0 about1 theMethod args0 below0 :=
  ⟨lists_1, trivial, launch0.admits_env _ _ _, launch0.least_env, fairChoices_fair.cas, fairChoices_fair.clock, w_frames, w_args, w_heap, w_applies, trivial, trivial, w_case⟩
end start1
theorem witness_1 : WitnessClaimed_1 := ⟨start1.p0, start1.e0, start1.about1, start1.theMethod, start1.args0, start1.below0, start1.atStart⟩
end Jvm.Pilot.@@N@@
