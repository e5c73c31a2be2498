import JvmDerived
import JvmDerived.Pilot.@@N@@Statement
import JvmDerived.Pilot.@@N@@Code
set_option linter.unusedVariables false
set_option linter.unusedSimpArgs false
namespace Jvm.RoadKit
open Sem ClassFile Op Lib Jvm.Stand Jvm.Free Jvm.LawKit
section New
variable {p : Program} {l : Launch} {e : Env} {R : Room} {s : State} {m : MethodId} {args : Array Value} {below : List Frame} {meth : Method} {c : Code} {T : State} {locs : List Loc} {cells slots : Nat}
theorem retI (X : Stand p l e R s m args below meth c T locs cells slots) (hx : p.tables.exec = Jvm.exec) {pc : Nat} {Ls : Array Slot} {z : Int32} {rest : List Value} (hret : meth.sig.returnType = some .int) (hd : decode c.code pc = .ok (.ireturn, 1)) {fs : List Frame}
    (hl : ∀ (f : JFrame) (acts : List Action), f.method = m → f.locked = none → f.entered = [] → (doReturn e (T.setTop f) acts (some (.int z))).1 = T.setFrames fs) : Steps p.tables e below (T.setTop (mkF m pc Ls (.int z :: rest))) (T.setFrames fs) := by
  have hm' : T.vm.method? m = some meth := X.method'
  have hn : narrow .int (.int z) = .int z := rfl
  show Steps p.tables e below (T.setTop { method := m, pc := pc, locals := Ls, stack := _ :: rest, locked := none }) _
  jvm_step X.here [X.here.top, hx, hd, hm', hret, hn]
  first | (intro acts; rw [hl _ acts rfl rfl rfl]) | rw [hl _ _ rfl rfl rfl]
  exact Steps.refl _
end New
end Jvm.RoadKit
namespace Jvm.Pilot.@@N@@
open Jvm Jvm.ClassFile Sem Op Lib Jvm.Free Jvm.Stand Jvm.LawKit Jvm.RoadKit Bundle Jvm.Pilot.@@N@@.Jvm.D
/-- a body's contract, by a walk forwards: G U says that the run from U comes to an end that the contract allows -/
theorem own_body {l : Launch} {Z : State} {y : MethodName} {bytes : ByteArray} {maxL : Nat} {ret : Option FieldType} {ws : List Jvm.Cond} {rm : Room} {as' : Array Value} {h0 : Heap} {Q : Option Value → Heap → List Loc → Prop} (hpl : plainFor y = true)
    (body : ∀ (p : Program) (e : Env) (s : State) (m : MethodId) (below : List Frame) (meth : Method) (c : Code) (s₁ : State) (G : State → Prop),
      p.tables.exec = Jvm.exec → c.code = bytes → c.maxLocals = maxL → Z.Warmed39 s.vm → s.vm.findClass y.cls = some m.cls → meth.name = y.name → meth.sig.returnType = ret →
      Stand p l e rm s m as' below meth c s₁ [] 0 0 → s₁.heap = h0 →
      (∀ (U' : State) {U : State}, (∀ t, Steps p.tables e below U' t → Steps p.tables e below U t) → G U' → G U) →
      (∀ {U T : State} {locs : List Loc} {cells slots : Nat} {v : Option Value}, Stand p l e rm s m as' below meth c T locs cells slots → (ret = none → v = none) → Q v T.heap locs → cells ≤ rm.cells → slots ≤ rm.slots →
        (∀ fs, (∀ (f : JFrame) (acts : List Action), f.method = m → f.locked = none → f.entered = [] → (doReturn e (T.setTop f) acts v).1 = T.setFrames fs) → Steps p.tables e below U (T.setFrames fs)) → G U) →
      G (s₁.setTop (entryFrame m as' maxL))) :
    MetFree l y (head1 (Jvm.Cond.code y bytes maxL ret :: ws) rm) (fun a U => a = as' ∧ Z.Warmed39 U.vm ∧ U.heap = h0) (fun _ _ _ _ _ => True) (fun _ U o U' => ∃ v L, o = .returned v ∧ Q v U'.heap L ∧ FrameEnd U o U' L rm.cells rm.slots) := by
  refine MetFree.of_bodySF hpl hisR ?_
  intro p e s m args below meth c s₁ Bd hml0 hP hK
  obtain ⟨rfl, hZ, hh⟩ := hP
  have hnm := (name_of_methodNamed Bd.named Bd.method).1
  exact body p e s m below meth c s₁ (fun U => ∃ s₂ o, Steps p.tables e below U s₂ ∧ s₂.status = .running ∧ Ended s₂ below o ∧ ∃ v L, o = .returned v ∧ Q v s₂.heap L ∧ FrameEnd s o s₂ L rm.cells rm.slots)
    Bd.exec Bd.bytes hml0 hZ (findClass_of_methodNamed Bd.named) hnm Bd.returns (Stand.of_body Bd) (by rw [← hh, Bd.state]; rfl)
    (fun U' U h k => by obtain ⟨s₂, o, h1, h2⟩ := k; exact ⟨s₂, o, h _ h1, h2⟩)
    (fun {U T locs cells slots v} X hv hQ hc hs hst => by
      obtain ⟨fs, hr, hrun, hended, hW, hsame⟩ := X.leave (v := v) (fun h => hv (by rw [← Bd.returns]; exact h))
      exact ⟨_, _, hst fs hr, hrun, hended, v, locs, rfl, hQ, ⟨_, rfl⟩, hW, hsame.mono hc hs⟩)
/-- the same, of a body that may intern String constants on its way -/
theorem own_bodyW {l : Launch} {Z : State} {y : MethodName} {bytes : ByteArray} {maxL : Nat} {ret : Option FieldType} {ws : List Jvm.Cond} {rm : Room} {as' : Array Value} {h0 : Heap} {Q : Option Value → Heap → List Loc → Prop} (hpl : plainFor y = true)
    (body : ∀ (p : Program) (e : Env) (s : State) (m : MethodId) (below : List Frame) (meth : Method) (c : Code) (s₁ : State) (G : State → Prop) (vm0 : Vm) (k0 : Nat),
      p.tables.exec = Jvm.exec → c.code = bytes → c.maxLocals = maxL → Z.Warmed39 vm0 → vm0.findClass y.cls = some m.cls → meth.name = y.name → meth.sig.returnType = ret → s.Since vm0 k0 → k0 ≤ h0.size →
      Stand p l e rm (s.setVm vm0) m as' below meth c s₁ [] 0 0 → s₁.heap = h0 →
      (∀ (U' : State) {U : State}, (∀ t, Steps p.tables e below U' t → Steps p.tables e below U t) → G U' → G U) →
      (∀ {U T : State} {locs : List Loc} {cells slots : Nat} {v : Option Value} {vm1 : Vm} {k1 : Nat}, Stand p l e rm (s.setVm vm1) m as' below meth c T locs cells slots → s.Since vm1 k1 → k1 ≤ T.heap.size → (ret = none → v = none) → Q v T.heap locs → cells ≤ rm.cells → slots ≤ rm.slots →
        (∀ fs, (∀ (f : JFrame) (acts : List Action), f.method = m → f.locked = none → f.entered = [] → (doReturn e (T.setTop f) acts v).1 = T.setFrames fs) → Steps p.tables e below U (T.setFrames fs)) → G U) →
      G (s₁.setTop (entryFrame m as' maxL))) :
    MetFree l y (head1 (Jvm.Cond.code y bytes maxL ret :: ws) rm) (fun a U => a = as' ∧ Z.Warmed39 U.vm ∧ U.heap = h0) (fun _ _ _ _ _ => True) (fun _ U o U' => ∃ v L, o = .returned v ∧ Q v U'.heap L ∧ ReturnedEndW U o U' L rm.cells rm.slots) := by
  refine MetFree.of_bodySF hpl hisR ?_
  intro p e s m args below meth c s₁ Bd hml0 hP hK
  obtain ⟨rfl, hZ, hh⟩ := hP
  have hnm := (name_of_methodNamed Bd.named Bd.method).1
  have X0 := Stand.of_body Bd
  exact body p e s m below meth c s₁ (fun U => ∃ s₂ o, Steps p.tables e below U s₂ ∧ s₂.status = .running ∧ Ended s₂ below o ∧ ∃ v L, o = .returned v ∧ Q v s₂.heap L ∧ ReturnedEndW s o s₂ L rm.cells rm.slots)
    s.vm h0.size Bd.exec Bd.bytes hml0 hZ (findClass_of_methodNamed Bd.named) hnm Bd.returns ((State.WarmedH.refl s).since _) (Nat.le_refl _) X0 (by rw [← hh, Bd.state]; rfl)
    (fun U' U h k => by obtain ⟨s₂, o, h1, h2⟩ := k; exact ⟨s₂, o, h _ h1, h2⟩)
    (fun {U T locs cells slots v vm1 k1} X hS hk hv hQ hc hs hst => by
      obtain ⟨fs, hr, hrun, hended, hE⟩ := X.leaveW hS hk (v := v) (fun h => hv (by rw [← Bd.returns]; exact h))
      exact ⟨_, _, hst fs hr, hrun, hended, v, locs, rfl, hQ, hE.1, hE.2.1, hE.2.2.1, hE.2.2.2.mono hc hs⟩)
theorem own_fin {z : Int32} (h : z = 1) : some (Value.int (nar .boolean z)) = some (.int 1) := by subst h; rfl
theorem own_and3 (p : Int32) : p &&& 3 = 0 ∨ p &&& 3 = 1 ∨ p &&& 3 = 2 ∨ p &&& 3 = 3 := by
  have h := c_mask p 3 2 (by decide) (by decide)
  have h4 : (p &&& 3).toInt = 0 ∨ (p &&& 3).toInt = 1 ∨ (p &&& 3).toInt = 2 ∨ (p &&& 3).toInt = 3 := by omega
  rcases h4 with h | h | h | h
  · exact Or.inl (Int32.toInt_inj.mp h)
  · exact Or.inr (Or.inl (Int32.toInt_inj.mp h))
  · exact Or.inr (Or.inr (Or.inl (Int32.toInt_inj.mp h)))
  · exact Or.inr (Or.inr (Or.inr (Int32.toInt_inj.mp h)))
theorem own_eqi {args : Array Value} {s : State} {t : Term} {n : Int32} (h : (Jvm.Cond.eq t (.int n)).value args s none s [] = some true) : t.eval args s none [] s = some (.int n) := by
  simp only [Cond.value, Term.eval] at h
  cases ht : t.eval args s none [] s with
  | none => simp [ht] at h
  | some x => cases x <;> simp [ht] at h ⊢; exact h
theorem own_irr {x : Int32} : ¬ (x < x) := by rw [Int32.lt_iff_toInt_lt]; omega
theorem own_selP {args : Array Value} {s : State} {y : MethodName} {k : Nat} (hinst : (Jvm.Cond.instanceMethod y).before args s = true) (hi : (Jvm.Cond.instantiable y.cls k).before args s = true) (hp : s.PrivateAt y) (hy : y.cls ≠ "java/lang/invoke/MethodHandle" ∧ y.cls ≠ "java/lang/invoke/VarHandle") : (Jvm.Cond.selects y.cls y y).before args s = true := by
  obtain ⟨m, meth, hn, hm, -, -⟩ := Cond.instanceMethod_spec hinst
  obtain ⟨c, kk, h1, h2, -, h4, -⟩ := Cond.instantiable_spec hi
  have hf := State.methodFound?_of_named hn hy
  have hc := findClass_of_methodNamed hn
  cases h1.symm.trans hc
  have hs := selectMethod_private (p := {}) (c := m.cls) hm (hp m meth hn hm)
  have h5 : kk.isInterface = false := by simp only [Bool.or_eq_false_iff] at h4; exact h4.1
  simp [Cond.before, Cond.holds, Cond.value, hc, hf, hn, hs, h2, h5]
theorem own_add0 (x : Int32) : x = (x + (0 : Int32)) := (Int32.add_zero x).symm
theorem own_nn (x y : Int32) (h : (x &&& (2147483647 : Int32)) = y) : ¬ (y < (0 : Int32)) := by
  subst h
  have h := c_mask x 2147483647 31 (by decide) (by decide)
  rw [Int32.lt_iff_toInt_lt]
  have e : (0 : Int32).toInt = 0 := by decide
  omega
theorem own_255 (x y : Int32) (h : ((x &&& (255 : Int32)).toUInt32.toUInt16.toUInt32.toInt32) = y) : ¬ ((255 : Int32) < y) := by
  subst h
  have h := c_mask x 255 8 (by decide) (by decide)
  have h2 := c_i2c (x &&& 255)
  rw [Int32.lt_iff_toInt_lt]
  have e : (255 : Int32).toInt = 255 := by decide
  omega
theorem own_exaP {Z : State} {h : Heap} {a : Addr} {C : String} (F : Exa Z h a C) : ∀ cell : Cell, h[a]? = some cell → cell.vm.isStatics = false := fun cell q => by
  obtain ⟨c', _, h1, -, -, h4, -⟩ := F
  cases h1.symm.trans q
  exact h4
theorem own_arvP {Z : State} {h : Heap} {a : Addr} {k : ClassId} {ty : FieldType} {z : Int32} {vs : List Value} {dv : Value} (F : Arv Z h a k ty z vs dv) : ∀ cell : Cell, h[a]? = some cell → cell.vm.isStatics = false := fun cell q => by
  obtain ⟨c', A, -⟩ := F
  cases A.1.symm.trans q
  exact A.plain
theorem own_staK {Z : State} {h h' : Heap} {ws : List Addr} {C n d : String} {v : Value} (F : Sta Z h C n d v) (K : Keep h h' ws) (q : ∀ x ∈ ws, ∀ cell : Cell, h[x]? = some cell → cell.vm.isStatics = false) : Sta Z h' C n d v := by
  obtain ⟨cf, i, k, f, st, cell, h1, h2, h3, h4, h5, h6, h7⟩ := F
  exact ⟨cf, i, k, f, st, cell, h1, h2, h3, h4, K.2.1 st cell h5 (fun hm => by rw [q st hm cell h5] at h6; cases h6), h6, h7⟩
theorem own_arr0 {args : Array Value} {s : State} {t : Term} {a : Addr} {ty : FieldType} {dv : Value} (hf : Fit s) (ev : t.eval args s none [] s = some (.ref a)) (hA : (Jvm.Cond.arrayOf t ty).value args s none s [] = some true) (hl : (Jvm.Cond.eq (.length t) (.int 0)).value args s none s [] = some true) : ∃ k, Arv s s.heap a k ty 0 [] dv := by
  obtain ⟨c, A⟩ := Arr.start ev hA
  have h0 := own_eqi hl
  obtain ⟨a', cell, e1, e2, e3⟩ := Term.length_spec h0
  cases ev.symm.trans e1
  have e4 : s.arrayAt? a = some c := Arr.fin (U := s) (Vm.Alike.refl _) A
  cases e4.symm.trans e2
  have hq : c.slots.size < 2 ^ 31 := by
    by_cases q : c.slots.size < 2 ^ 31
    · exact q
    · simp [Term.eval, ev, e4, q] at h0
  have e5 : c.slots.size.toInt32 = 0 := by injection e3 with e; exact e.symm
  exact ⟨_, Arv.start hf A hq e5 (by decide) rfl trivial⟩
theorem own_255n (x y : Int32) (h : ((x &&& (255 : Int32)).toUInt32.toUInt16.toUInt32.toInt32) = y) : ¬ ((255 : Int32) < (nar .char y)) := by
  have h1 := own_255 x y h
  have h0 := (c_i2c (x &&& 255)).2.1
  rw [h] at h0
  have h2 : (nar .char y).toInt = (y.toUInt32.toUInt16.toUInt32.toInt32).toInt := rfl
  have h3 := c_i2c y
  rw [Int32.lt_iff_toInt_lt] at *
  have e : (255 : Int32).toInt = 255 := by decide
  omega
theorem pn_0 : plainName "com/example/madac/madac/engine/RowKeysNextPinLaw" = true := by first | (simp [plainName, overriddenIn]; done) | decide +kernel
theorem pd_0 : parseMethodDescriptor "()V" = some ⟨[], none⟩ := by decide +kernel
theorem pd_1 : parseMethodDescriptor "()J" = some ⟨[], some .long⟩ := by decide +kernel
theorem d1_0 : decode prog_23_method_1_code 0 = .ok (.aload_n 0, 1) := by decide +kernel
theorem d1_1 : decode prog_23_method_1_code 1 = .ok (.invokespecial 1, 3) := by decide +kernel
theorem d1_4 : decode prog_23_method_1_code 4 = .ok (.return_, 1) := by decide +kernel
theorem pn_1 : plainName "com/example/madac/madac/engine/RowKeys" = true := by first | (simp [plainName, overriddenIn]; done) | decide +kernel
theorem ef_1_1 (m : MethodId) (x0 : Addr) : entryFrame m #[(.ref x0)] 1 = mkF m 0 #[.val (.ref x0)] [] := by first | (simp [entryFrame, mkF, argsToLocals, Value.category]; done) | rfl
def Q1_1 (Z : State) (o1 : Addr) (h0 : Heap) (n0 : Nat) (v : Option Value) (h : Heap) (L : List Loc) : Prop := v = none ∧ Fr n0 L ∧ h = h0
set_option maxRecDepth 65536 in
set_option maxHeartbeats 40000000 in
theorem rm1_1 (l : Launch) (Z : State) (a0 : Array Value) (hw : ∀ d ∈ tables_1, d.before a0 Z = true) (ws : List Jvm.Cond) (o1 : Addr) (h0 : Heap) (n0 : Nat) (Z0 : n0 ≤ h0.size) (A0 : Exa Z h0 o1 "com/example/madac/madac/engine/RowKeys") (gn_o1 : n0 ≤ o1)  :
    MetFree l (⟨"com/example/madac/madac/engine/RowKeys", "<init>", "()V"⟩ : MethodName) (head1 (Jvm.Cond.code (⟨"com/example/madac/madac/engine/RowKeys", "<init>", "()V"⟩ : MethodName) prog_23_method_1_code 1 none :: ws) ({ frames := 1, cells := 0, slots := 0, locals := 12 } : Room)) (fun a U => a = #[(.ref o1)] ∧ Z.Warmed39 U.vm ∧ U.heap = h0) (fun _ _ _ _ _ => True) (fun _ U o U' => ∃ v L, o = .returned v ∧ Q1_1 Z o1 h0 n0 v U'.heap L ∧ FrameEnd U o U' L ({ frames := 1, cells := 0, slots := 0, locals := 12 } : Room).cells ({ frames := 1, cells := 0, slots := 0, locals := 12 } : Room).slots) := by
  refine own_body (plainFor_of_name pn_1) ?_
  intro p e s m below meth c s₁ G hx hby hml hZ hown hnm hret X0 e0 step fin
  replace hown : s.vm.findClass "com/example/madac/madac/engine/RowKeys" = some m.cls := hown
  replace hnm : meth.name = "<init>" := hnm
  replace hret : meth.sig.returnType = none := hret
  replace hml : c.maxLocals = 1 := hml
  have N0 := Fr.nil n0
  refine step (s₁.setTop (mkF m 0 #[.val (.ref o1)] [])) (fun t k => castTop (ef_1_1 m o1) k) ?_
  refine step (s₁.setTop (mkF m 1 #[.val (.ref o1)] [(.ref o1)])) (fun t k => XS.aloadN X0.here hx rfl (hb hby d1_0) rfl rfl k) ?_
  obtain ⟨T1, X1, e1, st1⟩ := initO X0 hx hZ hown (hw _ (List.mem_of_getElem? (i := 6) rfl)) (hw _ (List.mem_of_getElem? (i := 7) rfl)) (hw _ (List.mem_of_getElem? (i := 8) rfl)) e0 (g := (mkF m 1 #[.val (.ref o1)] [(.ref o1)])) rfl (by rw [hml]; rfl) rfl (hb hby d1_1) (by decide) (W := 0) (by show 2 * 0 + _ ≤ _; exact Nat.le_of_eq rfl) (by decide)
  refine step (T1.setTop (mkF m 4 #[.val (.ref o1)] [])) (fun t k => st1 t k) ?_
  refine fin (v := none) X1 (fun _ => rfl) ?_ (by decide) (by decide) (fun fs hr => X1.returnOut hx hret (hb hby d1_4) hr)
  show Q1_1 Z o1 h0 n0 (none) T1.heap _
  rw [e1]
  exact ⟨rfl, N0, rfl⟩
theorem d3_0 : decode prog_23_method_2_code 0 = .ok (.aload_n 0, 1) := by decide +kernel
theorem d3_1 : decode prog_23_method_2_code 1 = .ok (.dup, 1) := by decide +kernel
theorem d3_2 : decode prog_23_method_2_code 2 = .ok (.getfield 7, 3) := by decide +kernel
theorem d3_5 : decode prog_23_method_2_code 5 = .ok (.lconst 1, 1) := by decide +kernel
theorem d3_6 : decode prog_23_method_2_code 6 = .ok (.ladd, 1) := by decide +kernel
theorem d3_7 : decode prog_23_method_2_code 7 = .ok (.putfield 7, 3) := by decide +kernel
theorem d3_10 : decode prog_23_method_2_code 10 = .ok (.aload_n 0, 1) := by decide +kernel
theorem d3_11 : decode prog_23_method_2_code 11 = .ok (.getfield 7, 3) := by decide +kernel
theorem d3_14 : decode prog_23_method_2_code 14 = .ok (.lreturn, 1) := by decide +kernel
theorem ef_3_2 (m : MethodId) (x0 : Addr) : entryFrame m #[(.ref x0)] 1 = mkF m 0 #[.val (.ref x0)] [] := by first | (simp [entryFrame, mkF, argsToLocals, Value.category]; done) | rfl
def Q3_2 (Z : State) (o1 : Addr) (h0 : Heap) (n0 : Nat) (v : Option Value) (h : Heap) (L : List Loc) : Prop := v = some (.long (1 : Int64)) ∧ Fr n0 L ∧ Keep h0 h [o1] ∧ Fld Z h o1 "com/example/madac/madac/engine/RowKeys" "lastSerial" "J" (.long (1 : Int64))
set_option maxRecDepth 65536 in
set_option maxHeartbeats 40000000 in
theorem rm3_2 (l : Launch) (Z : State) (a0 : Array Value) (hw : ∀ d ∈ tables_1, d.before a0 Z = true) (ws : List Jvm.Cond) (o1 : Addr) (h0 : Heap) (n0 : Nat) (Z0 : n0 ≤ h0.size) (A0 : Exa Z h0 o1 "com/example/madac/madac/engine/RowKeys") (A1 : Fld Z h0 o1 "com/example/madac/madac/engine/RowKeys" "lastSerial" "J" (.long (0 : Int64))) (gn_o1 : n0 ≤ o1)  :
    MetFree l (⟨"com/example/madac/madac/engine/RowKeys", "next", "()J"⟩ : MethodName) (head1 (Jvm.Cond.code (⟨"com/example/madac/madac/engine/RowKeys", "next", "()J"⟩ : MethodName) prog_23_method_2_code 1 (some .long) :: ws) ({ frames := 0, cells := 0, slots := 0, locals := 0 } : Room)) (fun a U => a = #[(.ref o1)] ∧ Z.Warmed39 U.vm ∧ U.heap = h0) (fun _ _ _ _ _ => True) (fun _ U o U' => ∃ v L, o = .returned v ∧ Q3_2 Z o1 h0 n0 v U'.heap L ∧ FrameEnd U o U' L ({ frames := 0, cells := 0, slots := 0, locals := 0 } : Room).cells ({ frames := 0, cells := 0, slots := 0, locals := 0 } : Room).slots) := by
  refine own_body (plainFor_of_name pn_1) ?_
  intro p e s m below meth c s₁ G hx hby hml hZ hown hnm hret X0 e0 step fin
  replace hown : s.vm.findClass "com/example/madac/madac/engine/RowKeys" = some m.cls := hown
  replace hnm : meth.name = "next" := hnm
  replace hret : meth.sig.returnType = some .long := hret
  replace hml : c.maxLocals = 1 := hml
  have N0 := Fr.nil n0
  refine step (s₁.setTop (mkF m 0 #[.val (.ref o1)] [])) (fun t k => castTop (ef_3_2 m o1) k) ?_
  refine step (s₁.setTop (mkF m 1 #[.val (.ref o1)] [(.ref o1)])) (fun t k => XS.aloadN X0.here hx rfl (hb hby d3_0) rfl rfl k) ?_
  refine step (s₁.setTop (mkF m 2 #[.val (.ref o1)] [(.ref o1), (.ref o1)])) (fun t k => XS.dup X0.here hx rfl (hb hby d3_1) rfl rfl k) ?_
  obtain ⟨T1, X1, e1, st1⟩ := getF X0 hx hZ hown (host := "") (Or.inl (hw _ (List.mem_of_getElem? (i := 14) rfl))) Via.refl e0 A1 (g := (mkF m 2 #[.val (.ref o1)] [(.ref o1), (.ref o1)])) rfl rfl (hb hby d3_2)
  refine step (T1.setTop (mkF m 5 #[.val (.ref o1)] [(.long (0 : Int64)), (.ref o1)])) (fun t k => st1 t k) ?_
  refine step (T1.setTop (mkF m 6 #[.val (.ref o1)] [(.long (1 : Int64)), (.long (0 : Int64)), (.ref o1)])) (fun t k => XS.lconst X1.here hx rfl (hb hby d3_5) k) ?_
  refine step (T1.setTop (mkF m 7 #[.val (.ref o1)] [(.long (1 : Int64)), (.ref o1)])) (fun t k => XS.ladd X1.here hx rfl (hb hby d3_6) rfl k) ?_
  obtain ⟨T2, h2, X2, e2, W2, st2⟩ := putF X1 hx hZ hown (host := "") (Or.inl (hw _ (List.mem_of_getElem? (i := 14) rfl))) Via.refl e1 A1 A0 (Or.inl (hw _ (List.mem_of_getElem? (i := 15) rfl))) (hw _ (List.mem_of_getElem? (i := 1) rfl)) (ty := .long) (by decide) rfl rfl (g := (mkF m 7 #[.val (.ref o1)] [(.long (1 : Int64)), (.ref o1)])) rfl rfl (hb hby d3_7)
  have N2 := Fr.snoc X2 N0 gn_o1
  have K2 : Keep h0 h2 [o1] := (Keep.refl h0 [o1]).wr W2 (Or.inl (List.mem_of_getElem? (i := 0) rfl))
  have F2 := A1.same W2
  refine step (T2.setTop (mkF m 10 #[.val (.ref o1)] [])) (fun t k => st2 t k) ?_
  refine step (T2.setTop (mkF m 11 #[.val (.ref o1)] [(.ref o1)])) (fun t k => XS.aloadN X2.here hx rfl (hb hby d3_10) rfl rfl k) ?_
  obtain ⟨T3, X3, e3, st3⟩ := getF X2 hx hZ hown (host := "") (Or.inl (hw _ (List.mem_of_getElem? (i := 14) rfl))) Via.refl e2 F2 (g := (mkF m 11 #[.val (.ref o1)] [(.ref o1)])) rfl rfl (hb hby d3_11)
  refine step (T3.setTop (mkF m 14 #[.val (.ref o1)] [(.long (1 : Int64))])) (fun t k => st3 t k) ?_
  refine fin (v := some (.long (1 : Int64))) X3 (fun h => by cases h) ?_ (by decide) (by decide) (fun fs hr => X3.lreturnOut hx hret (hb hby d3_14) hr)
  show Q3_2 Z o1 h0 n0 (some (.long (1 : Int64))) T3.heap _
  rw [e3]
  exact ⟨rfl, N2, K2, F2⟩
theorem ef_3_3 (m : MethodId) (x0 : Addr) : entryFrame m #[(.ref x0)] 1 = mkF m 0 #[.val (.ref x0)] [] := by first | (simp [entryFrame, mkF, argsToLocals, Value.category]; done) | rfl
def Q3_3 (Z : State) (o1 : Addr) (h0 : Heap) (n0 : Nat) (v : Option Value) (h : Heap) (L : List Loc) : Prop := v = some (.long (2 : Int64)) ∧ Fr n0 L ∧ Keep h0 h [o1] ∧ Fld Z h o1 "com/example/madac/madac/engine/RowKeys" "lastSerial" "J" (.long (2 : Int64))
set_option maxRecDepth 65536 in
set_option maxHeartbeats 40000000 in
theorem rm3_3 (l : Launch) (Z : State) (a0 : Array Value) (hw : ∀ d ∈ tables_1, d.before a0 Z = true) (ws : List Jvm.Cond) (o1 : Addr) (h0 : Heap) (n0 : Nat) (Z0 : n0 ≤ h0.size) (A0 : Exa Z h0 o1 "com/example/madac/madac/engine/RowKeys") (A1 : Fld Z h0 o1 "com/example/madac/madac/engine/RowKeys" "lastSerial" "J" (.long (1 : Int64))) (gn_o1 : n0 ≤ o1)  :
    MetFree l (⟨"com/example/madac/madac/engine/RowKeys", "next", "()J"⟩ : MethodName) (head1 (Jvm.Cond.code (⟨"com/example/madac/madac/engine/RowKeys", "next", "()J"⟩ : MethodName) prog_23_method_2_code 1 (some .long) :: ws) ({ frames := 0, cells := 0, slots := 0, locals := 0 } : Room)) (fun a U => a = #[(.ref o1)] ∧ Z.Warmed39 U.vm ∧ U.heap = h0) (fun _ _ _ _ _ => True) (fun _ U o U' => ∃ v L, o = .returned v ∧ Q3_3 Z o1 h0 n0 v U'.heap L ∧ FrameEnd U o U' L ({ frames := 0, cells := 0, slots := 0, locals := 0 } : Room).cells ({ frames := 0, cells := 0, slots := 0, locals := 0 } : Room).slots) := by
  refine own_body (plainFor_of_name pn_1) ?_
  intro p e s m below meth c s₁ G hx hby hml hZ hown hnm hret X0 e0 step fin
  replace hown : s.vm.findClass "com/example/madac/madac/engine/RowKeys" = some m.cls := hown
  replace hnm : meth.name = "next" := hnm
  replace hret : meth.sig.returnType = some .long := hret
  replace hml : c.maxLocals = 1 := hml
  have N0 := Fr.nil n0
  refine step (s₁.setTop (mkF m 0 #[.val (.ref o1)] [])) (fun t k => castTop (ef_3_3 m o1) k) ?_
  refine step (s₁.setTop (mkF m 1 #[.val (.ref o1)] [(.ref o1)])) (fun t k => XS.aloadN X0.here hx rfl (hb hby d3_0) rfl rfl k) ?_
  refine step (s₁.setTop (mkF m 2 #[.val (.ref o1)] [(.ref o1), (.ref o1)])) (fun t k => XS.dup X0.here hx rfl (hb hby d3_1) rfl rfl k) ?_
  obtain ⟨T1, X1, e1, st1⟩ := getF X0 hx hZ hown (host := "") (Or.inl (hw _ (List.mem_of_getElem? (i := 14) rfl))) Via.refl e0 A1 (g := (mkF m 2 #[.val (.ref o1)] [(.ref o1), (.ref o1)])) rfl rfl (hb hby d3_2)
  refine step (T1.setTop (mkF m 5 #[.val (.ref o1)] [(.long (1 : Int64)), (.ref o1)])) (fun t k => st1 t k) ?_
  refine step (T1.setTop (mkF m 6 #[.val (.ref o1)] [(.long (1 : Int64)), (.long (1 : Int64)), (.ref o1)])) (fun t k => XS.lconst X1.here hx rfl (hb hby d3_5) k) ?_
  refine step (T1.setTop (mkF m 7 #[.val (.ref o1)] [(.long (2 : Int64)), (.ref o1)])) (fun t k => XS.ladd X1.here hx rfl (hb hby d3_6) rfl k) ?_
  obtain ⟨T2, h2, X2, e2, W2, st2⟩ := putF X1 hx hZ hown (host := "") (Or.inl (hw _ (List.mem_of_getElem? (i := 14) rfl))) Via.refl e1 A1 A0 (Or.inl (hw _ (List.mem_of_getElem? (i := 15) rfl))) (hw _ (List.mem_of_getElem? (i := 1) rfl)) (ty := .long) (by decide) rfl rfl (g := (mkF m 7 #[.val (.ref o1)] [(.long (2 : Int64)), (.ref o1)])) rfl rfl (hb hby d3_7)
  have N2 := Fr.snoc X2 N0 gn_o1
  have K2 : Keep h0 h2 [o1] := (Keep.refl h0 [o1]).wr W2 (Or.inl (List.mem_of_getElem? (i := 0) rfl))
  have F2 := A1.same W2
  refine step (T2.setTop (mkF m 10 #[.val (.ref o1)] [])) (fun t k => st2 t k) ?_
  refine step (T2.setTop (mkF m 11 #[.val (.ref o1)] [(.ref o1)])) (fun t k => XS.aloadN X2.here hx rfl (hb hby d3_10) rfl rfl k) ?_
  obtain ⟨T3, X3, e3, st3⟩ := getF X2 hx hZ hown (host := "") (Or.inl (hw _ (List.mem_of_getElem? (i := 14) rfl))) Via.refl e2 F2 (g := (mkF m 11 #[.val (.ref o1)] [(.ref o1)])) rfl rfl (hb hby d3_11)
  refine step (T3.setTop (mkF m 14 #[.val (.ref o1)] [(.long (2 : Int64))])) (fun t k => st3 t k) ?_
  refine fin (v := some (.long (2 : Int64))) X3 (fun h => by cases h) ?_ (by decide) (by decide) (fun fs hr => X3.lreturnOut hx hret (hb hby d3_14) hr)
  show Q3_3 Z o1 h0 n0 (some (.long (2 : Int64))) T3.heap _
  rw [e3]
  exact ⟨rfl, N2, K2, F2⟩
theorem ef_3_4 (m : MethodId) (x0 : Addr) : entryFrame m #[(.ref x0)] 1 = mkF m 0 #[.val (.ref x0)] [] := by first | (simp [entryFrame, mkF, argsToLocals, Value.category]; done) | rfl
def Q3_4 (Z : State) (o1 : Addr) (h0 : Heap) (n0 : Nat) (v : Option Value) (h : Heap) (L : List Loc) : Prop := v = some (.long (3 : Int64)) ∧ Fr n0 L ∧ Keep h0 h [o1] ∧ Fld Z h o1 "com/example/madac/madac/engine/RowKeys" "lastSerial" "J" (.long (3 : Int64))
set_option maxRecDepth 65536 in
set_option maxHeartbeats 40000000 in
theorem rm3_4 (l : Launch) (Z : State) (a0 : Array Value) (hw : ∀ d ∈ tables_1, d.before a0 Z = true) (ws : List Jvm.Cond) (o1 : Addr) (h0 : Heap) (n0 : Nat) (Z0 : n0 ≤ h0.size) (A0 : Exa Z h0 o1 "com/example/madac/madac/engine/RowKeys") (A1 : Fld Z h0 o1 "com/example/madac/madac/engine/RowKeys" "lastSerial" "J" (.long (2 : Int64))) (gn_o1 : n0 ≤ o1)  :
    MetFree l (⟨"com/example/madac/madac/engine/RowKeys", "next", "()J"⟩ : MethodName) (head1 (Jvm.Cond.code (⟨"com/example/madac/madac/engine/RowKeys", "next", "()J"⟩ : MethodName) prog_23_method_2_code 1 (some .long) :: ws) ({ frames := 0, cells := 0, slots := 0, locals := 0 } : Room)) (fun a U => a = #[(.ref o1)] ∧ Z.Warmed39 U.vm ∧ U.heap = h0) (fun _ _ _ _ _ => True) (fun _ U o U' => ∃ v L, o = .returned v ∧ Q3_4 Z o1 h0 n0 v U'.heap L ∧ FrameEnd U o U' L ({ frames := 0, cells := 0, slots := 0, locals := 0 } : Room).cells ({ frames := 0, cells := 0, slots := 0, locals := 0 } : Room).slots) := by
  refine own_body (plainFor_of_name pn_1) ?_
  intro p e s m below meth c s₁ G hx hby hml hZ hown hnm hret X0 e0 step fin
  replace hown : s.vm.findClass "com/example/madac/madac/engine/RowKeys" = some m.cls := hown
  replace hnm : meth.name = "next" := hnm
  replace hret : meth.sig.returnType = some .long := hret
  replace hml : c.maxLocals = 1 := hml
  have N0 := Fr.nil n0
  refine step (s₁.setTop (mkF m 0 #[.val (.ref o1)] [])) (fun t k => castTop (ef_3_4 m o1) k) ?_
  refine step (s₁.setTop (mkF m 1 #[.val (.ref o1)] [(.ref o1)])) (fun t k => XS.aloadN X0.here hx rfl (hb hby d3_0) rfl rfl k) ?_
  refine step (s₁.setTop (mkF m 2 #[.val (.ref o1)] [(.ref o1), (.ref o1)])) (fun t k => XS.dup X0.here hx rfl (hb hby d3_1) rfl rfl k) ?_
  obtain ⟨T1, X1, e1, st1⟩ := getF X0 hx hZ hown (host := "") (Or.inl (hw _ (List.mem_of_getElem? (i := 14) rfl))) Via.refl e0 A1 (g := (mkF m 2 #[.val (.ref o1)] [(.ref o1), (.ref o1)])) rfl rfl (hb hby d3_2)
  refine step (T1.setTop (mkF m 5 #[.val (.ref o1)] [(.long (2 : Int64)), (.ref o1)])) (fun t k => st1 t k) ?_
  refine step (T1.setTop (mkF m 6 #[.val (.ref o1)] [(.long (1 : Int64)), (.long (2 : Int64)), (.ref o1)])) (fun t k => XS.lconst X1.here hx rfl (hb hby d3_5) k) ?_
  refine step (T1.setTop (mkF m 7 #[.val (.ref o1)] [(.long (3 : Int64)), (.ref o1)])) (fun t k => XS.ladd X1.here hx rfl (hb hby d3_6) rfl k) ?_
  obtain ⟨T2, h2, X2, e2, W2, st2⟩ := putF X1 hx hZ hown (host := "") (Or.inl (hw _ (List.mem_of_getElem? (i := 14) rfl))) Via.refl e1 A1 A0 (Or.inl (hw _ (List.mem_of_getElem? (i := 15) rfl))) (hw _ (List.mem_of_getElem? (i := 1) rfl)) (ty := .long) (by decide) rfl rfl (g := (mkF m 7 #[.val (.ref o1)] [(.long (3 : Int64)), (.ref o1)])) rfl rfl (hb hby d3_7)
  have N2 := Fr.snoc X2 N0 gn_o1
  have K2 : Keep h0 h2 [o1] := (Keep.refl h0 [o1]).wr W2 (Or.inl (List.mem_of_getElem? (i := 0) rfl))
  have F2 := A1.same W2
  refine step (T2.setTop (mkF m 10 #[.val (.ref o1)] [])) (fun t k => st2 t k) ?_
  refine step (T2.setTop (mkF m 11 #[.val (.ref o1)] [(.ref o1)])) (fun t k => XS.aloadN X2.here hx rfl (hb hby d3_10) rfl rfl k) ?_
  obtain ⟨T3, X3, e3, st3⟩ := getF X2 hx hZ hown (host := "") (Or.inl (hw _ (List.mem_of_getElem? (i := 14) rfl))) Via.refl e2 F2 (g := (mkF m 11 #[.val (.ref o1)] [(.ref o1)])) rfl rfl (hb hby d3_11)
  refine step (T3.setTop (mkF m 14 #[.val (.ref o1)] [(.long (3 : Int64))])) (fun t k => st3 t k) ?_
  refine fin (v := some (.long (3 : Int64))) X3 (fun h => by cases h) ?_ (by decide) (by decide) (fun fs hr => X3.lreturnOut hx hret (hb hby d3_14) hr)
  show Q3_4 Z o1 h0 n0 (some (.long (3 : Int64))) T3.heap _
  rw [e3]
  exact ⟨rfl, N2, K2, F2⟩
theorem ef_3_5 (m : MethodId) (x0 : Addr) : entryFrame m #[(.ref x0)] 1 = mkF m 0 #[.val (.ref x0)] [] := by first | (simp [entryFrame, mkF, argsToLocals, Value.category]; done) | rfl
def Q3_5 (Z : State) (o1 : Addr) (h0 : Heap) (n0 : Nat) (v : Option Value) (h : Heap) (L : List Loc) : Prop := v = some (.long (4 : Int64)) ∧ Fr n0 L ∧ Keep h0 h [o1] ∧ Fld Z h o1 "com/example/madac/madac/engine/RowKeys" "lastSerial" "J" (.long (4 : Int64))
set_option maxRecDepth 65536 in
set_option maxHeartbeats 40000000 in
theorem rm3_5 (l : Launch) (Z : State) (a0 : Array Value) (hw : ∀ d ∈ tables_1, d.before a0 Z = true) (ws : List Jvm.Cond) (o1 : Addr) (h0 : Heap) (n0 : Nat) (Z0 : n0 ≤ h0.size) (A0 : Exa Z h0 o1 "com/example/madac/madac/engine/RowKeys") (A1 : Fld Z h0 o1 "com/example/madac/madac/engine/RowKeys" "lastSerial" "J" (.long (3 : Int64))) (gn_o1 : n0 ≤ o1)  :
    MetFree l (⟨"com/example/madac/madac/engine/RowKeys", "next", "()J"⟩ : MethodName) (head1 (Jvm.Cond.code (⟨"com/example/madac/madac/engine/RowKeys", "next", "()J"⟩ : MethodName) prog_23_method_2_code 1 (some .long) :: ws) ({ frames := 0, cells := 0, slots := 0, locals := 0 } : Room)) (fun a U => a = #[(.ref o1)] ∧ Z.Warmed39 U.vm ∧ U.heap = h0) (fun _ _ _ _ _ => True) (fun _ U o U' => ∃ v L, o = .returned v ∧ Q3_5 Z o1 h0 n0 v U'.heap L ∧ FrameEnd U o U' L ({ frames := 0, cells := 0, slots := 0, locals := 0 } : Room).cells ({ frames := 0, cells := 0, slots := 0, locals := 0 } : Room).slots) := by
  refine own_body (plainFor_of_name pn_1) ?_
  intro p e s m below meth c s₁ G hx hby hml hZ hown hnm hret X0 e0 step fin
  replace hown : s.vm.findClass "com/example/madac/madac/engine/RowKeys" = some m.cls := hown
  replace hnm : meth.name = "next" := hnm
  replace hret : meth.sig.returnType = some .long := hret
  replace hml : c.maxLocals = 1 := hml
  have N0 := Fr.nil n0
  refine step (s₁.setTop (mkF m 0 #[.val (.ref o1)] [])) (fun t k => castTop (ef_3_5 m o1) k) ?_
  refine step (s₁.setTop (mkF m 1 #[.val (.ref o1)] [(.ref o1)])) (fun t k => XS.aloadN X0.here hx rfl (hb hby d3_0) rfl rfl k) ?_
  refine step (s₁.setTop (mkF m 2 #[.val (.ref o1)] [(.ref o1), (.ref o1)])) (fun t k => XS.dup X0.here hx rfl (hb hby d3_1) rfl rfl k) ?_
  obtain ⟨T1, X1, e1, st1⟩ := getF X0 hx hZ hown (host := "") (Or.inl (hw _ (List.mem_of_getElem? (i := 14) rfl))) Via.refl e0 A1 (g := (mkF m 2 #[.val (.ref o1)] [(.ref o1), (.ref o1)])) rfl rfl (hb hby d3_2)
  refine step (T1.setTop (mkF m 5 #[.val (.ref o1)] [(.long (3 : Int64)), (.ref o1)])) (fun t k => st1 t k) ?_
  refine step (T1.setTop (mkF m 6 #[.val (.ref o1)] [(.long (1 : Int64)), (.long (3 : Int64)), (.ref o1)])) (fun t k => XS.lconst X1.here hx rfl (hb hby d3_5) k) ?_
  refine step (T1.setTop (mkF m 7 #[.val (.ref o1)] [(.long (4 : Int64)), (.ref o1)])) (fun t k => XS.ladd X1.here hx rfl (hb hby d3_6) rfl k) ?_
  obtain ⟨T2, h2, X2, e2, W2, st2⟩ := putF X1 hx hZ hown (host := "") (Or.inl (hw _ (List.mem_of_getElem? (i := 14) rfl))) Via.refl e1 A1 A0 (Or.inl (hw _ (List.mem_of_getElem? (i := 15) rfl))) (hw _ (List.mem_of_getElem? (i := 1) rfl)) (ty := .long) (by decide) rfl rfl (g := (mkF m 7 #[.val (.ref o1)] [(.long (4 : Int64)), (.ref o1)])) rfl rfl (hb hby d3_7)
  have N2 := Fr.snoc X2 N0 gn_o1
  have K2 : Keep h0 h2 [o1] := (Keep.refl h0 [o1]).wr W2 (Or.inl (List.mem_of_getElem? (i := 0) rfl))
  have F2 := A1.same W2
  refine step (T2.setTop (mkF m 10 #[.val (.ref o1)] [])) (fun t k => st2 t k) ?_
  refine step (T2.setTop (mkF m 11 #[.val (.ref o1)] [(.ref o1)])) (fun t k => XS.aloadN X2.here hx rfl (hb hby d3_10) rfl rfl k) ?_
  obtain ⟨T3, X3, e3, st3⟩ := getF X2 hx hZ hown (host := "") (Or.inl (hw _ (List.mem_of_getElem? (i := 14) rfl))) Via.refl e2 F2 (g := (mkF m 11 #[.val (.ref o1)] [(.ref o1)])) rfl rfl (hb hby d3_11)
  refine step (T3.setTop (mkF m 14 #[.val (.ref o1)] [(.long (4 : Int64))])) (fun t k => st3 t k) ?_
  refine fin (v := some (.long (4 : Int64))) X3 (fun h => by cases h) ?_ (by decide) (by decide) (fun fs hr => X3.lreturnOut hx hret (hb hby d3_14) hr)
  show Q3_5 Z o1 h0 n0 (some (.long (4 : Int64))) T3.heap _
  rw [e3]
  exact ⟨rfl, N2, K2, F2⟩
theorem ef_3_6 (m : MethodId) (x0 : Addr) : entryFrame m #[(.ref x0)] 1 = mkF m 0 #[.val (.ref x0)] [] := by first | (simp [entryFrame, mkF, argsToLocals, Value.category]; done) | rfl
def Q3_6 (Z : State) (o1 : Addr) (h0 : Heap) (n0 : Nat) (v : Option Value) (h : Heap) (L : List Loc) : Prop := v = some (.long (5 : Int64)) ∧ Fr n0 L ∧ Keep h0 h [o1] ∧ Fld Z h o1 "com/example/madac/madac/engine/RowKeys" "lastSerial" "J" (.long (5 : Int64))
set_option maxRecDepth 65536 in
set_option maxHeartbeats 40000000 in
theorem rm3_6 (l : Launch) (Z : State) (a0 : Array Value) (hw : ∀ d ∈ tables_1, d.before a0 Z = true) (ws : List Jvm.Cond) (o1 : Addr) (h0 : Heap) (n0 : Nat) (Z0 : n0 ≤ h0.size) (A0 : Exa Z h0 o1 "com/example/madac/madac/engine/RowKeys") (A1 : Fld Z h0 o1 "com/example/madac/madac/engine/RowKeys" "lastSerial" "J" (.long (4 : Int64))) (gn_o1 : n0 ≤ o1)  :
    MetFree l (⟨"com/example/madac/madac/engine/RowKeys", "next", "()J"⟩ : MethodName) (head1 (Jvm.Cond.code (⟨"com/example/madac/madac/engine/RowKeys", "next", "()J"⟩ : MethodName) prog_23_method_2_code 1 (some .long) :: ws) ({ frames := 0, cells := 0, slots := 0, locals := 0 } : Room)) (fun a U => a = #[(.ref o1)] ∧ Z.Warmed39 U.vm ∧ U.heap = h0) (fun _ _ _ _ _ => True) (fun _ U o U' => ∃ v L, o = .returned v ∧ Q3_6 Z o1 h0 n0 v U'.heap L ∧ FrameEnd U o U' L ({ frames := 0, cells := 0, slots := 0, locals := 0 } : Room).cells ({ frames := 0, cells := 0, slots := 0, locals := 0 } : Room).slots) := by
  refine own_body (plainFor_of_name pn_1) ?_
  intro p e s m below meth c s₁ G hx hby hml hZ hown hnm hret X0 e0 step fin
  replace hown : s.vm.findClass "com/example/madac/madac/engine/RowKeys" = some m.cls := hown
  replace hnm : meth.name = "next" := hnm
  replace hret : meth.sig.returnType = some .long := hret
  replace hml : c.maxLocals = 1 := hml
  have N0 := Fr.nil n0
  refine step (s₁.setTop (mkF m 0 #[.val (.ref o1)] [])) (fun t k => castTop (ef_3_6 m o1) k) ?_
  refine step (s₁.setTop (mkF m 1 #[.val (.ref o1)] [(.ref o1)])) (fun t k => XS.aloadN X0.here hx rfl (hb hby d3_0) rfl rfl k) ?_
  refine step (s₁.setTop (mkF m 2 #[.val (.ref o1)] [(.ref o1), (.ref o1)])) (fun t k => XS.dup X0.here hx rfl (hb hby d3_1) rfl rfl k) ?_
  obtain ⟨T1, X1, e1, st1⟩ := getF X0 hx hZ hown (host := "") (Or.inl (hw _ (List.mem_of_getElem? (i := 14) rfl))) Via.refl e0 A1 (g := (mkF m 2 #[.val (.ref o1)] [(.ref o1), (.ref o1)])) rfl rfl (hb hby d3_2)
  refine step (T1.setTop (mkF m 5 #[.val (.ref o1)] [(.long (4 : Int64)), (.ref o1)])) (fun t k => st1 t k) ?_
  refine step (T1.setTop (mkF m 6 #[.val (.ref o1)] [(.long (1 : Int64)), (.long (4 : Int64)), (.ref o1)])) (fun t k => XS.lconst X1.here hx rfl (hb hby d3_5) k) ?_
  refine step (T1.setTop (mkF m 7 #[.val (.ref o1)] [(.long (5 : Int64)), (.ref o1)])) (fun t k => XS.ladd X1.here hx rfl (hb hby d3_6) rfl k) ?_
  obtain ⟨T2, h2, X2, e2, W2, st2⟩ := putF X1 hx hZ hown (host := "") (Or.inl (hw _ (List.mem_of_getElem? (i := 14) rfl))) Via.refl e1 A1 A0 (Or.inl (hw _ (List.mem_of_getElem? (i := 15) rfl))) (hw _ (List.mem_of_getElem? (i := 1) rfl)) (ty := .long) (by decide) rfl rfl (g := (mkF m 7 #[.val (.ref o1)] [(.long (5 : Int64)), (.ref o1)])) rfl rfl (hb hby d3_7)
  have N2 := Fr.snoc X2 N0 gn_o1
  have K2 : Keep h0 h2 [o1] := (Keep.refl h0 [o1]).wr W2 (Or.inl (List.mem_of_getElem? (i := 0) rfl))
  have F2 := A1.same W2
  refine step (T2.setTop (mkF m 10 #[.val (.ref o1)] [])) (fun t k => st2 t k) ?_
  refine step (T2.setTop (mkF m 11 #[.val (.ref o1)] [(.ref o1)])) (fun t k => XS.aloadN X2.here hx rfl (hb hby d3_10) rfl rfl k) ?_
  obtain ⟨T3, X3, e3, st3⟩ := getF X2 hx hZ hown (host := "") (Or.inl (hw _ (List.mem_of_getElem? (i := 14) rfl))) Via.refl e2 F2 (g := (mkF m 11 #[.val (.ref o1)] [(.ref o1)])) rfl rfl (hb hby d3_11)
  refine step (T3.setTop (mkF m 14 #[.val (.ref o1)] [(.long (5 : Int64))])) (fun t k => st3 t k) ?_
  refine fin (v := some (.long (5 : Int64))) X3 (fun h => by cases h) ?_ (by decide) (by decide) (fun fs hr => X3.lreturnOut hx hret (hb hby d3_14) hr)
  show Q3_6 Z o1 h0 n0 (some (.long (5 : Int64))) T3.heap _
  rw [e3]
  exact ⟨rfl, N2, K2, F2⟩
theorem ef_0 (m : MethodId) (x0 : Int32) : entryFrame m #[(.int x0)] maxLocals = mkF m 0 #[.val (.int x0), .unset, .unset, .unset, .unset, .unset, .unset, .unset, .unset, .unset] [] := by first | (simp [entryFrame, mkF, argsToLocals, Value.category, maxLocals]; done) | rfl
def Q0 (Z : State) (p0 : Int32) (h0 : Heap) (n0 : Nat) (v : Option Value) (h : Heap) (L : List Loc) : Prop := v = some (.int 1) ∧ Fr n0 L
set_option maxRecDepth 65536 in
set_option maxHeartbeats 40000000 in
theorem rm0 (l : Launch) (Z : State) (a0 : Array Value) (hw : ∀ d ∈ tables_1, d.before a0 Z = true) (ws : List Jvm.Cond) (p0 : Int32) (h0 : Heap) (n0 : Nat) (Z0 : n0 ≤ h0.size)  :
    MetFree l x (head1 (Jvm.Cond.code x code maxLocals ret :: ws) room_1) (fun a U => a = #[(.int p0)] ∧ Z.Warmed39 U.vm ∧ U.heap = h0) (fun _ _ _ _ _ => True) (fun _ U o U' => ∃ v L, o = .returned v ∧ Q0 Z p0 h0 n0 v U'.heap L ∧ FrameEnd U o U' L room_1.cells room_1.slots) := by
  refine own_body (plainFor_of_name pn_0) ?_
  intro p e s m below meth c s₁ G hx hby hml hZ hown hnm hret X0 e0 step fin
  replace hown : s.vm.findClass "com/example/madac/madac/engine/RowKeysNextPinLaw" = some m.cls := hown
  replace hnm : meth.name = "law" := hnm
  replace hret : meth.sig.returnType = some .boolean := hret
  replace hml : c.maxLocals = 10 := hml
  have N0 := Fr.nil n0
  refine step (s₁.setTop (mkF m 0 #[.val (.int p0), .unset, .unset, .unset, .unset, .unset, .unset, .unset, .unset, .unset] [])) (fun t k => castTop (ef_0 m p0) k) ?_
  obtain ⟨T1, h1, X1, e1, E1, A1, D1, -, st1⟩ := newO X0 hx hZ hown (hw _ (List.mem_of_getElem? (i := 0) rfl)) (hw _ (List.mem_of_getElem? (i := 1) rfl)) (hw _ (List.mem_of_getElem? (i := 2) rfl)) e0 (g := (mkF m 0 #[.val (.int p0), .unset, .unset, .unset, .unset, .unset, .unset, .unset, .unset, .unset] [])) rfl (hb hby at_0) (by decide) (by decide)
  obtain ⟨b1, g1⟩ : ∃ z, z = h0.size := ⟨_, rfl⟩
  rw [← g1] at A1 D1 st1
  have gn_b1 : n0 ≤ b1 := Nat.le_trans Z0 (Nat.le_of_eq g1.symm)
  have sz_b1 : h0.size ≤ b1 := Nat.le_of_eq g1.symm
  have K1 : Keep h0 h1 [] := (Keep.refl h0 []).ext E1
  have F_lastSerial_b1 : Fld Z h1 b1 "com/example/madac/madac/engine/RowKeys" "lastSerial" "J" (.long (0 : Int64)) := D1 (Or.inl (hw _ (List.mem_of_getElem? (i := 15) rfl))) (ty := .long) (by decide)
  refine step (T1.setTop (mkF m 3 #[.val (.int p0), .unset, .unset, .unset, .unset, .unset, .unset, .unset, .unset, .unset] [(.ref b1)])) (fun t k => st1 t k) ?_
  refine step (T1.setTop (mkF m 4 #[.val (.int p0), .unset, .unset, .unset, .unset, .unset, .unset, .unset, .unset, .unset] [(.ref b1), (.ref b1)])) (fun t k => XS.dup X1.here hx rfl (hb hby at_3) rfl rfl k) ?_
  obtain ⟨_, _, ⟨T2, L2, k2, n2⟩, -, X2, ⟨Lc2, hQ2, l2, y2, z2⟩, st2⟩ := X1.specialBack hx (y := (⟨"com/example/madac/madac/engine/RowKeys", "<init>", "()V"⟩ : MethodName)) rfl hown (mvT hZ (hw _ (List.mem_of_getElem? (i := 3) rfl))) (mvT hZ (hw _ (List.mem_of_getElem? (i := 4) rfl))) (mvT hZ (hw _ (List.mem_of_getElem? (i := 5) rfl))) (by decide) (backOf (W := 1) (rm1_1 l Z a0 hw [] b1 h1 n0 (Nat.le_trans Z0 K1.1) A1 gn_b1) hZ (hw _ (List.mem_of_getElem? (i := 5) rfl)) (hw _ (List.mem_of_getElem? (i := 2) rfl)) (by decide) (by decide)) (g := (mkF m 4 #[.val (.int p0), .unset, .unset, .unset, .unset, .unset, .unset, .unset, .unset, .unset] [(.ref b1), (.ref b1)])) rfl (by rw [hml]; rfl) (Steps.refl _) (a := b1) (argsL := []) (rest := [(.ref b1)]) (lenOf pd_0 rfl) rfl (by show 2 * 0 + _ ≤ _; exact Nat.le_of_eq rfl) (hb hby at_4) (fun _ _ => ⟨rfl, e1, (by decide : 1 + 0 ≤ _), (by decide : 1 + 0 ≤ _)⟩)
  dsimp only [Pt.U, Pt.locs, Pt.cells, Pt.slots] at X2 l2 y2 z2 st2 hQ2
  subst l2 y2 z2
  obtain ⟨rfl, N2q, e2q⟩ := hQ2
  have N2 := Fr.app N0 N2q
  refine step (T2.setTop (mkF m 7 #[.val (.int p0), .unset, .unset, .unset, .unset, .unset, .unset, .unset, .unset, .unset] [(.ref b1)])) (fun t k => st2.trans k) ?_
  refine step (T2.setTop (mkF m 8 #[.val (.int p0), .val (.ref b1), .unset, .unset, .unset, .unset, .unset, .unset, .unset, .unset] [])) (fun t k => XS.astoreN X2.here hx rfl (hb hby at_7) rfl rfl (l' := #[.val (.int p0), .val (.ref b1), .unset, .unset, .unset, .unset, .unset, .unset, .unset, .unset]) rfl k) ?_
  refine step (T2.setTop (mkF m 9 #[.val (.int p0), .val (.ref b1), .unset, .unset, .unset, .unset, .unset, .unset, .unset, .unset] [(.int p0)])) (fun t k => XS.iloadN X2.here hx rfl (hb hby at_8) rfl k) ?_
  refine step (T2.setTop (mkF m 10 #[.val (.int p0), .val (.ref b1), .unset, .unset, .unset, .unset, .unset, .unset, .unset, .unset] [(.int (3 : Int32)), (.int p0)])) (fun t k => XS.iconst X2.here hx rfl (hb hby at_9) k) ?_
  refine step (T2.setTop (mkF m 11 #[.val (.int p0), .val (.ref b1), .unset, .unset, .unset, .unset, .unset, .unset, .unset, .unset] [(.int (p0 &&& (3 : Int32)))])) (fun t k => XS.iand X2.here hx rfl (hb hby at_10) rfl k) ?_
  generalize hkk : (p0 &&& (3 : Int32)) = kk
  have hcase := own_and3 p0
  rw [hkk] at hcase
  rcases hcase with rfl | rfl | rfl | rfl
  · -- kk = 0
    show G (T2.setTop (mkF m 11 #[.val (.int p0), .val (.ref b1), .unset, .unset, .unset, .unset, .unset, .unset, .unset, .unset] [(.int (0 : Int32))]))
    refine step (T2.setTop (mkF m 12 #[.val (.int p0), .val (.ref b1), .val (.int (0 : Int32)), .unset, .unset, .unset, .unset, .unset, .unset, .unset] [])) (fun t k => XS.istoreN X2.here hx rfl (hb hby at_11) rfl (l' := #[.val (.int p0), .val (.ref b1), .val (.int (0 : Int32)), .unset, .unset, .unset, .unset, .unset, .unset, .unset]) rfl k) ?_
    refine step (T2.setTop (mkF m 13 #[.val (.int p0), .val (.ref b1), .val (.int (0 : Int32)), .unset, .unset, .unset, .unset, .unset, .unset, .unset] [(.ref b1)])) (fun t k => XS.aloadN X2.here hx rfl (hb hby at_12) rfl rfl k) ?_
    obtain ⟨cq3, kq3, q3a, q3b, q3c⟩ := isOf hZ e2q A1
    obtain ⟨_, _, ⟨T3, L3, k3, n3⟩, -, X3, ⟨Lc3, hQ3, l3, y3, z3⟩, st3⟩ := X2.virtualBack hx (y := (⟨"com/example/madac/madac/engine/RowKeys", "next", "()J"⟩ : MethodName)) (z := (⟨"com/example/madac/madac/engine/RowKeys", "next", "()J"⟩ : MethodName)) hown (mvT hZ (hw _ (List.mem_of_getElem? (i := 9) rfl))) (mvT hZ (hw _ (List.mem_of_getElem? (i := 10) rfl))) (notFace_of_selects (args := #[]) (mvT hZ (hw _ (List.mem_of_getElem? (i := 12) rfl)))) (mvT hZ (hw _ (List.mem_of_getElem? (i := 12) rfl))) (mvT hZ (hw _ (List.mem_of_getElem? (i := 11) rfl))) (by decide) (backOf (W := 0) (rm3_2 l Z a0 hw [] b1 h1 n0 (Nat.le_trans Z0 K1.1) A1 F_lastSerial_b1 gn_b1) hZ (hw _ (List.mem_of_getElem? (i := 13) rfl)) (hw _ (List.mem_of_getElem? (i := 2) rfl)) (by decide) (by decide)) q3a q3c (g := (mkF m 13 #[.val (.int p0), .val (.ref b1), .val (.int (0 : Int32)), .unset, .unset, .unset, .unset, .unset, .unset, .unset] [(.ref b1)])) rfl (by rw [hml]; rfl) (Steps.refl _) (argsL := []) (rest := []) (lenOf pd_1 rfl) rfl (by show 2 * 0 + _ ≤ _; exact Nat.le_of_eq rfl) (hb hby at_13) (fun _ _ => ⟨rfl, e2q, (by decide : 1 + 0 ≤ _), (by decide : 1 + 0 ≤ _)⟩)
    dsimp only [Pt.U, Pt.locs, Pt.cells, Pt.slots] at X3 l3 y3 z3 st3 hQ3
    subst l3 y3 z3
    obtain ⟨h3, e3⟩ : ∃ z, T3.heap = z := ⟨_, rfl⟩
    rw [e3] at hQ3
    obtain ⟨rfl, N3q, K3q, q0_3⟩ := hQ3
    have N3 := Fr.app N2 N3q
    have K3 : Keep h0 h3 [] := K1.trans K3q (allS (Or.inr sz_b1) all0)
    refine step (T3.setTop (mkF m 16 #[.val (.int p0), .val (.ref b1), .val (.int (0 : Int32)), .unset, .unset, .unset, .unset, .unset, .unset, .unset] [(.long (1 : Int64))])) (fun t k => st3.trans k) ?_
    refine step (T3.setTop (mkF m 17 #[.val (.int p0), .val (.ref b1), .val (.int (0 : Int32)), .val (.long (1 : Int64)), .second, .unset, .unset, .unset, .unset, .unset] [])) (fun t k => XS.lstoreN X3.here hx rfl (hb hby at_16) rfl (l' := #[.val (.int p0), .val (.ref b1), .val (.int (0 : Int32)), .val (.long (1 : Int64)), .second, .unset, .unset, .unset, .unset, .unset]) rfl k) ?_
    refine step (T3.setTop (mkF m 18 #[.val (.int p0), .val (.ref b1), .val (.int (0 : Int32)), .val (.long (1 : Int64)), .second, .unset, .unset, .unset, .unset, .unset] [(.long (1 : Int64))])) (fun t k => XS.lloadN X3.here hx rfl (hb hby at_17) rfl k) ?_
    refine step (T3.setTop (mkF m 19 #[.val (.int p0), .val (.ref b1), .val (.int (0 : Int32)), .val (.long (1 : Int64)), .second, .unset, .unset, .unset, .unset, .unset] [(.long (1 : Int64)), (.long (1 : Int64))])) (fun t k => XS.lconst X3.here hx rfl (hb hby at_18) k) ?_
    refine step (T3.setTop (mkF m 20 #[.val (.int p0), .val (.ref b1), .val (.int (0 : Int32)), .val (.long (1 : Int64)), .second, .unset, .unset, .unset, .unset, .unset] [(.int (lcmpW (1 : Int64) (1 : Int64)))])) (fun t k => XS.lcmp X3.here hx rfl (hb hby at_19) rfl k) ?_
    refine step (T3.setTop (mkF m 23 #[.val (.int p0), .val (.ref b1), .val (.int (0 : Int32)), .val (.long (1 : Int64)), .second, .unset, .unset, .unset, .unset, .unset] [])) (fun t k => XS.ifNo X3.here hx rfl (hb hby at_20) rfl ((if0 _ _).trans (teq ((lw_eq _ _).mpr (by decide : (1 : Int64) = (1 : Int64)))).2) k) ?_
    refine step (T3.setTop (mkF m 24 #[.val (.int p0), .val (.ref b1), .val (.int (0 : Int32)), .val (.long (1 : Int64)), .second, .unset, .unset, .unset, .unset, .unset] [(.int (1 : Int32))])) (fun t k => XS.iconst X3.here hx rfl (hb hby at_23) k) ?_
    refine step (T3.setTop (mkF m 28 #[.val (.int p0), .val (.ref b1), .val (.int (0 : Int32)), .val (.long (1 : Int64)), .second, .unset, .unset, .unset, .unset, .unset] [(.int (1 : Int32))])) (fun t k => XS.goto X3.here hx rfl (pc0 := 24) (pc' := 28) rfl (hb hby at_24) (by decide) (by decide) k) ?_
    refine step (T3.setTop (mkF m 30 #[.val (.int p0), .val (.ref b1), .val (.int (0 : Int32)), .val (.long (1 : Int64)), .second, .val (.int (1 : Int32)), .unset, .unset, .unset, .unset] [])) (fun t k => XS.istore X3.here hx rfl (hb hby at_28) rfl (l' := #[.val (.int p0), .val (.ref b1), .val (.int (0 : Int32)), .val (.long (1 : Int64)), .second, .val (.int (1 : Int32)), .unset, .unset, .unset, .unset]) rfl k) ?_
    refine step (T3.setTop (mkF m 31 #[.val (.int p0), .val (.ref b1), .val (.int (0 : Int32)), .val (.long (1 : Int64)), .second, .val (.int (1 : Int32)), .unset, .unset, .unset, .unset] [(.long (1 : Int64))])) (fun t k => XS.lloadN X3.here hx rfl (hb hby at_30) rfl k) ?_
    refine step (T3.setTop (mkF m 33 #[.val (.int p0), .val (.ref b1), .val (.int (0 : Int32)), .val (.long (1 : Int64)), .second, .val (.int (1 : Int32)), .val (.long (1 : Int64)), .second, .unset, .unset] [])) (fun t k => XS.lstore X3.here hx rfl (hb hby at_31) rfl (l' := #[.val (.int p0), .val (.ref b1), .val (.int (0 : Int32)), .val (.long (1 : Int64)), .second, .val (.int (1 : Int32)), .val (.long (1 : Int64)), .second, .unset, .unset]) rfl k) ?_
    refine step (T3.setTop (mkF m 34 #[.val (.int p0), .val (.ref b1), .val (.int (0 : Int32)), .val (.long (1 : Int64)), .second, .val (.int (1 : Int32)), .val (.long (1 : Int64)), .second, .unset, .unset] [(.int (0 : Int32))])) (fun t k => XS.iloadN X3.here hx rfl (hb hby at_33) rfl k) ?_
    refine step (T3.setTop (mkF m 35 #[.val (.int p0), .val (.ref b1), .val (.int (0 : Int32)), .val (.long (1 : Int64)), .second, .val (.int (1 : Int32)), .val (.long (1 : Int64)), .second, .unset, .unset] [(.int (1 : Int32)), (.int (0 : Int32))])) (fun t k => XS.iconst X3.here hx rfl (hb hby at_34) k) ?_
    refine step (T3.setTop (mkF m 70 #[.val (.int p0), .val (.ref b1), .val (.int (0 : Int32)), .val (.long (1 : Int64)), .second, .val (.int (1 : Int32)), .val (.long (1 : Int64)), .second, .unset, .unset] [])) (fun t k => XS.icmpYes X3.here hx rfl (pc0 := 35) (pc' := 70) rfl (hb hby at_35) rfl (tlt (by decide : (0 : Int32) < (1 : Int32))).1 (by decide) (by decide) k) ?_
    refine step (T3.setTop (mkF m 71 #[.val (.int p0), .val (.ref b1), .val (.int (0 : Int32)), .val (.long (1 : Int64)), .second, .val (.int (1 : Int32)), .val (.long (1 : Int64)), .second, .unset, .unset] [(.int (0 : Int32))])) (fun t k => XS.iloadN X3.here hx rfl (hb hby at_70) rfl k) ?_
    refine step (T3.setTop (mkF m 72 #[.val (.int p0), .val (.ref b1), .val (.int (0 : Int32)), .val (.long (1 : Int64)), .second, .val (.int (1 : Int32)), .val (.long (1 : Int64)), .second, .unset, .unset] [(.int (2 : Int32)), (.int (0 : Int32))])) (fun t k => XS.iconst X3.here hx rfl (hb hby at_71) k) ?_
    refine step (T3.setTop (mkF m 107 #[.val (.int p0), .val (.ref b1), .val (.int (0 : Int32)), .val (.long (1 : Int64)), .second, .val (.int (1 : Int32)), .val (.long (1 : Int64)), .second, .unset, .unset] [])) (fun t k => XS.icmpYes X3.here hx rfl (pc0 := 72) (pc' := 107) rfl (hb hby at_72) rfl (tlt (by decide : (0 : Int32) < (2 : Int32))).1 (by decide) (by decide) k) ?_
    refine step (T3.setTop (mkF m 108 #[.val (.int p0), .val (.ref b1), .val (.int (0 : Int32)), .val (.long (1 : Int64)), .second, .val (.int (1 : Int32)), .val (.long (1 : Int64)), .second, .unset, .unset] [(.int (0 : Int32))])) (fun t k => XS.iloadN X3.here hx rfl (hb hby at_107) rfl k) ?_
    refine step (T3.setTop (mkF m 109 #[.val (.int p0), .val (.ref b1), .val (.int (0 : Int32)), .val (.long (1 : Int64)), .second, .val (.int (1 : Int32)), .val (.long (1 : Int64)), .second, .unset, .unset] [(.int (3 : Int32)), (.int (0 : Int32))])) (fun t k => XS.iconst X3.here hx rfl (hb hby at_108) k) ?_
    refine step (T3.setTop (mkF m 144 #[.val (.int p0), .val (.ref b1), .val (.int (0 : Int32)), .val (.long (1 : Int64)), .second, .val (.int (1 : Int32)), .val (.long (1 : Int64)), .second, .unset, .unset] [])) (fun t k => XS.icmpYes X3.here hx rfl (pc0 := 109) (pc' := 144) rfl (hb hby at_109) rfl (tlt (by decide : (0 : Int32) < (3 : Int32))).1 (by decide) (by decide) k) ?_
    refine step (T3.setTop (mkF m 145 #[.val (.int p0), .val (.ref b1), .val (.int (0 : Int32)), .val (.long (1 : Int64)), .second, .val (.int (1 : Int32)), .val (.long (1 : Int64)), .second, .unset, .unset] [(.ref b1)])) (fun t k => XS.aloadN X3.here hx rfl (hb hby at_144) rfl rfl k) ?_
    have f4 := (A1.keep K3q)
    obtain ⟨cq5, kq5, q5a, q5b, q5c⟩ := isOf hZ e3 f4
    obtain ⟨_, _, ⟨T5, L5, k5, n5⟩, -, X5, ⟨Lc5, hQ5, l5, y5, z5⟩, st5⟩ := X3.virtualBack hx (y := (⟨"com/example/madac/madac/engine/RowKeys", "next", "()J"⟩ : MethodName)) (z := (⟨"com/example/madac/madac/engine/RowKeys", "next", "()J"⟩ : MethodName)) hown (mvT hZ (hw _ (List.mem_of_getElem? (i := 9) rfl))) (mvT hZ (hw _ (List.mem_of_getElem? (i := 10) rfl))) (notFace_of_selects (args := #[]) (mvT hZ (hw _ (List.mem_of_getElem? (i := 12) rfl)))) (mvT hZ (hw _ (List.mem_of_getElem? (i := 12) rfl))) (mvT hZ (hw _ (List.mem_of_getElem? (i := 11) rfl))) (by decide) (backOf (W := 0) (rm3_3 l Z a0 hw [] b1 h3 n0 (Nat.le_trans Z0 K3.1) f4 q0_3 gn_b1) hZ (hw _ (List.mem_of_getElem? (i := 13) rfl)) (hw _ (List.mem_of_getElem? (i := 2) rfl)) (by decide) (by decide)) q5a q5c (g := (mkF m 145 #[.val (.int p0), .val (.ref b1), .val (.int (0 : Int32)), .val (.long (1 : Int64)), .second, .val (.int (1 : Int32)), .val (.long (1 : Int64)), .second, .unset, .unset] [(.ref b1)])) rfl (by rw [hml]; rfl) (Steps.refl _) (argsL := []) (rest := []) (lenOf pd_1 rfl) rfl (by show 2 * 0 + _ ≤ _; exact Nat.le_of_eq rfl) (hb hby at_145) (fun _ _ => ⟨rfl, e3, (by decide : 1 + 0 ≤ _), (by decide : 1 + 0 ≤ _)⟩)
    dsimp only [Pt.U, Pt.locs, Pt.cells, Pt.slots] at X5 l5 y5 z5 st5 hQ5
    subst l5 y5 z5
    obtain ⟨h5, e5⟩ : ∃ z, T5.heap = z := ⟨_, rfl⟩
    rw [e5] at hQ5
    obtain ⟨rfl, N5q, K5q, q0_5⟩ := hQ5
    have N5 := Fr.app N3 N5q
    have K5 : Keep h0 h5 [] := K3.trans K5q (allS (Or.inr sz_b1) all0)
    refine step (T5.setTop (mkF m 148 #[.val (.int p0), .val (.ref b1), .val (.int (0 : Int32)), .val (.long (1 : Int64)), .second, .val (.int (1 : Int32)), .val (.long (1 : Int64)), .second, .unset, .unset] [(.long (2 : Int64))])) (fun t k => st5.trans k) ?_
    refine step (T5.setTop (mkF m 150 #[.val (.int p0), .val (.ref b1), .val (.int (0 : Int32)), .val (.long (1 : Int64)), .second, .val (.int (1 : Int32)), .val (.long (1 : Int64)), .second, .val (.long (2 : Int64)), .second] [])) (fun t k => XS.lstore X5.here hx rfl (hb hby at_148) rfl (l' := #[.val (.int p0), .val (.ref b1), .val (.int (0 : Int32)), .val (.long (1 : Int64)), .second, .val (.int (1 : Int32)), .val (.long (1 : Int64)), .second, .val (.long (2 : Int64)), .second]) rfl k) ?_
    refine step (T5.setTop (mkF m 152 #[.val (.int p0), .val (.ref b1), .val (.int (0 : Int32)), .val (.long (1 : Int64)), .second, .val (.int (1 : Int32)), .val (.long (1 : Int64)), .second, .val (.long (2 : Int64)), .second] [(.int (1 : Int32))])) (fun t k => XS.iload X5.here hx rfl (hb hby at_150) rfl k) ?_
    refine step (T5.setTop (mkF m 155 #[.val (.int p0), .val (.ref b1), .val (.int (0 : Int32)), .val (.long (1 : Int64)), .second, .val (.int (1 : Int32)), .val (.long (1 : Int64)), .second, .val (.long (2 : Int64)), .second] [])) (fun t k => XS.ifNo X5.here hx rfl (hb hby at_152) rfl ((if0 _ _).trans (feq (by decide : ¬ ((1 : Int32) = (0 : Int32)))).1) k) ?_
    refine step (T5.setTop (mkF m 157 #[.val (.int p0), .val (.ref b1), .val (.int (0 : Int32)), .val (.long (1 : Int64)), .second, .val (.int (1 : Int32)), .val (.long (1 : Int64)), .second, .val (.long (2 : Int64)), .second] [(.long (2 : Int64))])) (fun t k => XS.lload X5.here hx rfl (hb hby at_155) rfl k) ?_
    refine step (T5.setTop (mkF m 159 #[.val (.int p0), .val (.ref b1), .val (.int (0 : Int32)), .val (.long (1 : Int64)), .second, .val (.int (1 : Int32)), .val (.long (1 : Int64)), .second, .val (.long (2 : Int64)), .second] [(.long (1 : Int64)), (.long (2 : Int64))])) (fun t k => XS.lload X5.here hx rfl (hb hby at_157) rfl k) ?_
    refine step (T5.setTop (mkF m 160 #[.val (.int p0), .val (.ref b1), .val (.int (0 : Int32)), .val (.long (1 : Int64)), .second, .val (.int (1 : Int32)), .val (.long (1 : Int64)), .second, .val (.long (2 : Int64)), .second] [(.long (1 : Int64)), (.long (1 : Int64)), (.long (2 : Int64))])) (fun t k => XS.lconst X5.here hx rfl (hb hby at_159) k) ?_
    refine step (T5.setTop (mkF m 161 #[.val (.int p0), .val (.ref b1), .val (.int (0 : Int32)), .val (.long (1 : Int64)), .second, .val (.int (1 : Int32)), .val (.long (1 : Int64)), .second, .val (.long (2 : Int64)), .second] [(.long (2 : Int64)), (.long (2 : Int64))])) (fun t k => XS.ladd X5.here hx rfl (hb hby at_160) rfl k) ?_
    refine step (T5.setTop (mkF m 162 #[.val (.int p0), .val (.ref b1), .val (.int (0 : Int32)), .val (.long (1 : Int64)), .second, .val (.int (1 : Int32)), .val (.long (1 : Int64)), .second, .val (.long (2 : Int64)), .second] [(.int (lcmpW (2 : Int64) (2 : Int64)))])) (fun t k => XS.lcmp X5.here hx rfl (hb hby at_161) rfl k) ?_
    refine step (T5.setTop (mkF m 165 #[.val (.int p0), .val (.ref b1), .val (.int (0 : Int32)), .val (.long (1 : Int64)), .second, .val (.int (1 : Int32)), .val (.long (1 : Int64)), .second, .val (.long (2 : Int64)), .second] [])) (fun t k => XS.ifNo X5.here hx rfl (hb hby at_162) rfl ((if0 _ _).trans (teq ((lw_eq _ _).mpr (by decide : (2 : Int64) = (2 : Int64)))).2) k) ?_
    refine step (T5.setTop (mkF m 167 #[.val (.int p0), .val (.ref b1), .val (.int (0 : Int32)), .val (.long (1 : Int64)), .second, .val (.int (1 : Int32)), .val (.long (1 : Int64)), .second, .val (.long (2 : Int64)), .second] [(.long (2 : Int64))])) (fun t k => XS.lload X5.here hx rfl (hb hby at_165) rfl k) ?_
    refine step (T5.setTop (mkF m 168 #[.val (.int p0), .val (.ref b1), .val (.int (0 : Int32)), .val (.long (1 : Int64)), .second, .val (.int (1 : Int32)), .val (.long (1 : Int64)), .second, .val (.long (2 : Int64)), .second] [(.int (0 : Int32)), (.long (2 : Int64))])) (fun t k => XS.iloadN X5.here hx rfl (hb hby at_167) rfl k) ?_
    refine step (T5.setTop (mkF m 169 #[.val (.int p0), .val (.ref b1), .val (.int (0 : Int32)), .val (.long (1 : Int64)), .second, .val (.int (1 : Int32)), .val (.long (1 : Int64)), .second, .val (.long (2 : Int64)), .second] [(.int (2 : Int32)), (.int (0 : Int32)), (.long (2 : Int64))])) (fun t k => XS.iconst X5.here hx rfl (hb hby at_168) k) ?_
    refine step (T5.setTop (mkF m 170 #[.val (.int p0), .val (.ref b1), .val (.int (0 : Int32)), .val (.long (1 : Int64)), .second, .val (.int (1 : Int32)), .val (.long (1 : Int64)), .second, .val (.long (2 : Int64)), .second] [(.int (2 : Int32)), (.long (2 : Int64))])) (fun t k => XS.iadd X5.here hx rfl (hb hby at_169) rfl k) ?_
    refine step (T5.setTop (mkF m 171 #[.val (.int p0), .val (.ref b1), .val (.int (0 : Int32)), .val (.long (1 : Int64)), .second, .val (.int (1 : Int32)), .val (.long (1 : Int64)), .second, .val (.long (2 : Int64)), .second] [(.long (2 : Int64)), (.long (2 : Int64))])) (fun t k => XS.i2l X5.here hx rfl (hb hby at_170) rfl k) ?_
    refine step (T5.setTop (mkF m 172 #[.val (.int p0), .val (.ref b1), .val (.int (0 : Int32)), .val (.long (1 : Int64)), .second, .val (.int (1 : Int32)), .val (.long (1 : Int64)), .second, .val (.long (2 : Int64)), .second] [(.int (lcmpW (2 : Int64) (2 : Int64)))])) (fun t k => XS.lcmp X5.here hx rfl (hb hby at_171) rfl k) ?_
    refine step (T5.setTop (mkF m 175 #[.val (.int p0), .val (.ref b1), .val (.int (0 : Int32)), .val (.long (1 : Int64)), .second, .val (.int (1 : Int32)), .val (.long (1 : Int64)), .second, .val (.long (2 : Int64)), .second] [])) (fun t k => XS.ifNo X5.here hx rfl (hb hby at_172) rfl ((if0 _ _).trans (teq ((lw_eq _ _).mpr (by decide : (2 : Int64) = (2 : Int64)))).2) k) ?_
    refine step (T5.setTop (mkF m 176 #[.val (.int p0), .val (.ref b1), .val (.int (0 : Int32)), .val (.long (1 : Int64)), .second, .val (.int (1 : Int32)), .val (.long (1 : Int64)), .second, .val (.long (2 : Int64)), .second] [(.int (1 : Int32))])) (fun t k => XS.iconst X5.here hx rfl (hb hby at_175) k) ?_
    refine step (T5.setTop (mkF m 180 #[.val (.int p0), .val (.ref b1), .val (.int (0 : Int32)), .val (.long (1 : Int64)), .second, .val (.int (1 : Int32)), .val (.long (1 : Int64)), .second, .val (.long (2 : Int64)), .second] [(.int (1 : Int32))])) (fun t k => XS.goto X5.here hx rfl (pc0 := 176) (pc' := 180) rfl (hb hby at_176) (by decide) (by decide) k) ?_
    refine step (T5.setTop (mkF m 182 #[.val (.int p0), .val (.ref b1), .val (.int (0 : Int32)), .val (.long (1 : Int64)), .second, .val (.int (1 : Int32)), .val (.long (1 : Int64)), .second, .val (.long (2 : Int64)), .second] [])) (fun t k => XS.istore X5.here hx rfl (hb hby at_180) rfl (l' := #[.val (.int p0), .val (.ref b1), .val (.int (0 : Int32)), .val (.long (1 : Int64)), .second, .val (.int (1 : Int32)), .val (.long (1 : Int64)), .second, .val (.long (2 : Int64)), .second]) rfl k) ?_
    refine step (T5.setTop (mkF m 184 #[.val (.int p0), .val (.ref b1), .val (.int (0 : Int32)), .val (.long (1 : Int64)), .second, .val (.int (1 : Int32)), .val (.long (1 : Int64)), .second, .val (.long (2 : Int64)), .second] [(.int (1 : Int32))])) (fun t k => XS.iload X5.here hx rfl (hb hby at_182) rfl k) ?_
    refine fin (v := some (.int (nar .boolean (1 : Int32)))) X5 (fun h => by cases h) ?_ (by decide) (by decide) (fun fs hr => retN X5 hx (t := .boolean) hret (by simp) (hb hby at_184) hr)
    show Q0 Z p0 h0 n0 (some (.int (nar .boolean (1 : Int32)))) T5.heap _
    rw [e5]
    exact ⟨rfl, N5⟩
  · -- kk = 1
    show G (T2.setTop (mkF m 11 #[.val (.int p0), .val (.ref b1), .unset, .unset, .unset, .unset, .unset, .unset, .unset, .unset] [(.int (1 : Int32))]))
    refine step (T2.setTop (mkF m 12 #[.val (.int p0), .val (.ref b1), .val (.int (1 : Int32)), .unset, .unset, .unset, .unset, .unset, .unset, .unset] [])) (fun t k => XS.istoreN X2.here hx rfl (hb hby at_11) rfl (l' := #[.val (.int p0), .val (.ref b1), .val (.int (1 : Int32)), .unset, .unset, .unset, .unset, .unset, .unset, .unset]) rfl k) ?_
    refine step (T2.setTop (mkF m 13 #[.val (.int p0), .val (.ref b1), .val (.int (1 : Int32)), .unset, .unset, .unset, .unset, .unset, .unset, .unset] [(.ref b1)])) (fun t k => XS.aloadN X2.here hx rfl (hb hby at_12) rfl rfl k) ?_
    obtain ⟨cq6, kq6, q6a, q6b, q6c⟩ := isOf hZ e2q A1
    obtain ⟨_, _, ⟨T6, L6, k6, n6⟩, -, X6, ⟨Lc6, hQ6, l6, y6, z6⟩, st6⟩ := X2.virtualBack hx (y := (⟨"com/example/madac/madac/engine/RowKeys", "next", "()J"⟩ : MethodName)) (z := (⟨"com/example/madac/madac/engine/RowKeys", "next", "()J"⟩ : MethodName)) hown (mvT hZ (hw _ (List.mem_of_getElem? (i := 9) rfl))) (mvT hZ (hw _ (List.mem_of_getElem? (i := 10) rfl))) (notFace_of_selects (args := #[]) (mvT hZ (hw _ (List.mem_of_getElem? (i := 12) rfl)))) (mvT hZ (hw _ (List.mem_of_getElem? (i := 12) rfl))) (mvT hZ (hw _ (List.mem_of_getElem? (i := 11) rfl))) (by decide) (backOf (W := 0) (rm3_2 l Z a0 hw [] b1 h1 n0 (Nat.le_trans Z0 K1.1) A1 F_lastSerial_b1 gn_b1) hZ (hw _ (List.mem_of_getElem? (i := 13) rfl)) (hw _ (List.mem_of_getElem? (i := 2) rfl)) (by decide) (by decide)) q6a q6c (g := (mkF m 13 #[.val (.int p0), .val (.ref b1), .val (.int (1 : Int32)), .unset, .unset, .unset, .unset, .unset, .unset, .unset] [(.ref b1)])) rfl (by rw [hml]; rfl) (Steps.refl _) (argsL := []) (rest := []) (lenOf pd_1 rfl) rfl (by show 2 * 0 + _ ≤ _; exact Nat.le_of_eq rfl) (hb hby at_13) (fun _ _ => ⟨rfl, e2q, (by decide : 1 + 0 ≤ _), (by decide : 1 + 0 ≤ _)⟩)
    dsimp only [Pt.U, Pt.locs, Pt.cells, Pt.slots] at X6 l6 y6 z6 st6 hQ6
    subst l6 y6 z6
    obtain ⟨h6, e6⟩ : ∃ z, T6.heap = z := ⟨_, rfl⟩
    rw [e6] at hQ6
    obtain ⟨rfl, N6q, K6q, q0_6⟩ := hQ6
    have N6 := Fr.app N2 N6q
    have K6 : Keep h0 h6 [] := K1.trans K6q (allS (Or.inr sz_b1) all0)
    refine step (T6.setTop (mkF m 16 #[.val (.int p0), .val (.ref b1), .val (.int (1 : Int32)), .unset, .unset, .unset, .unset, .unset, .unset, .unset] [(.long (1 : Int64))])) (fun t k => st6.trans k) ?_
    refine step (T6.setTop (mkF m 17 #[.val (.int p0), .val (.ref b1), .val (.int (1 : Int32)), .val (.long (1 : Int64)), .second, .unset, .unset, .unset, .unset, .unset] [])) (fun t k => XS.lstoreN X6.here hx rfl (hb hby at_16) rfl (l' := #[.val (.int p0), .val (.ref b1), .val (.int (1 : Int32)), .val (.long (1 : Int64)), .second, .unset, .unset, .unset, .unset, .unset]) rfl k) ?_
    refine step (T6.setTop (mkF m 18 #[.val (.int p0), .val (.ref b1), .val (.int (1 : Int32)), .val (.long (1 : Int64)), .second, .unset, .unset, .unset, .unset, .unset] [(.long (1 : Int64))])) (fun t k => XS.lloadN X6.here hx rfl (hb hby at_17) rfl k) ?_
    refine step (T6.setTop (mkF m 19 #[.val (.int p0), .val (.ref b1), .val (.int (1 : Int32)), .val (.long (1 : Int64)), .second, .unset, .unset, .unset, .unset, .unset] [(.long (1 : Int64)), (.long (1 : Int64))])) (fun t k => XS.lconst X6.here hx rfl (hb hby at_18) k) ?_
    refine step (T6.setTop (mkF m 20 #[.val (.int p0), .val (.ref b1), .val (.int (1 : Int32)), .val (.long (1 : Int64)), .second, .unset, .unset, .unset, .unset, .unset] [(.int (lcmpW (1 : Int64) (1 : Int64)))])) (fun t k => XS.lcmp X6.here hx rfl (hb hby at_19) rfl k) ?_
    refine step (T6.setTop (mkF m 23 #[.val (.int p0), .val (.ref b1), .val (.int (1 : Int32)), .val (.long (1 : Int64)), .second, .unset, .unset, .unset, .unset, .unset] [])) (fun t k => XS.ifNo X6.here hx rfl (hb hby at_20) rfl ((if0 _ _).trans (teq ((lw_eq _ _).mpr (by decide : (1 : Int64) = (1 : Int64)))).2) k) ?_
    refine step (T6.setTop (mkF m 24 #[.val (.int p0), .val (.ref b1), .val (.int (1 : Int32)), .val (.long (1 : Int64)), .second, .unset, .unset, .unset, .unset, .unset] [(.int (1 : Int32))])) (fun t k => XS.iconst X6.here hx rfl (hb hby at_23) k) ?_
    refine step (T6.setTop (mkF m 28 #[.val (.int p0), .val (.ref b1), .val (.int (1 : Int32)), .val (.long (1 : Int64)), .second, .unset, .unset, .unset, .unset, .unset] [(.int (1 : Int32))])) (fun t k => XS.goto X6.here hx rfl (pc0 := 24) (pc' := 28) rfl (hb hby at_24) (by decide) (by decide) k) ?_
    refine step (T6.setTop (mkF m 30 #[.val (.int p0), .val (.ref b1), .val (.int (1 : Int32)), .val (.long (1 : Int64)), .second, .val (.int (1 : Int32)), .unset, .unset, .unset, .unset] [])) (fun t k => XS.istore X6.here hx rfl (hb hby at_28) rfl (l' := #[.val (.int p0), .val (.ref b1), .val (.int (1 : Int32)), .val (.long (1 : Int64)), .second, .val (.int (1 : Int32)), .unset, .unset, .unset, .unset]) rfl k) ?_
    refine step (T6.setTop (mkF m 31 #[.val (.int p0), .val (.ref b1), .val (.int (1 : Int32)), .val (.long (1 : Int64)), .second, .val (.int (1 : Int32)), .unset, .unset, .unset, .unset] [(.long (1 : Int64))])) (fun t k => XS.lloadN X6.here hx rfl (hb hby at_30) rfl k) ?_
    refine step (T6.setTop (mkF m 33 #[.val (.int p0), .val (.ref b1), .val (.int (1 : Int32)), .val (.long (1 : Int64)), .second, .val (.int (1 : Int32)), .val (.long (1 : Int64)), .second, .unset, .unset] [])) (fun t k => XS.lstore X6.here hx rfl (hb hby at_31) rfl (l' := #[.val (.int p0), .val (.ref b1), .val (.int (1 : Int32)), .val (.long (1 : Int64)), .second, .val (.int (1 : Int32)), .val (.long (1 : Int64)), .second, .unset, .unset]) rfl k) ?_
    refine step (T6.setTop (mkF m 34 #[.val (.int p0), .val (.ref b1), .val (.int (1 : Int32)), .val (.long (1 : Int64)), .second, .val (.int (1 : Int32)), .val (.long (1 : Int64)), .second, .unset, .unset] [(.int (1 : Int32))])) (fun t k => XS.iloadN X6.here hx rfl (hb hby at_33) rfl k) ?_
    refine step (T6.setTop (mkF m 35 #[.val (.int p0), .val (.ref b1), .val (.int (1 : Int32)), .val (.long (1 : Int64)), .second, .val (.int (1 : Int32)), .val (.long (1 : Int64)), .second, .unset, .unset] [(.int (1 : Int32)), (.int (1 : Int32))])) (fun t k => XS.iconst X6.here hx rfl (hb hby at_34) k) ?_
    refine step (T6.setTop (mkF m 38 #[.val (.int p0), .val (.ref b1), .val (.int (1 : Int32)), .val (.long (1 : Int64)), .second, .val (.int (1 : Int32)), .val (.long (1 : Int64)), .second, .unset, .unset] [])) (fun t k => XS.icmpNo X6.here hx rfl (hb hby at_35) rfl (flt (by decide : ¬ ((1 : Int32) < (1 : Int32)))).1 k) ?_
    refine step (T6.setTop (mkF m 39 #[.val (.int p0), .val (.ref b1), .val (.int (1 : Int32)), .val (.long (1 : Int64)), .second, .val (.int (1 : Int32)), .val (.long (1 : Int64)), .second, .unset, .unset] [(.ref b1)])) (fun t k => XS.aloadN X6.here hx rfl (hb hby at_38) rfl rfl k) ?_
    have f7 := (A1.keep K6q)
    obtain ⟨cq8, kq8, q8a, q8b, q8c⟩ := isOf hZ e6 f7
    obtain ⟨_, _, ⟨T8, L8, k8, n8⟩, -, X8, ⟨Lc8, hQ8, l8, y8, z8⟩, st8⟩ := X6.virtualBack hx (y := (⟨"com/example/madac/madac/engine/RowKeys", "next", "()J"⟩ : MethodName)) (z := (⟨"com/example/madac/madac/engine/RowKeys", "next", "()J"⟩ : MethodName)) hown (mvT hZ (hw _ (List.mem_of_getElem? (i := 9) rfl))) (mvT hZ (hw _ (List.mem_of_getElem? (i := 10) rfl))) (notFace_of_selects (args := #[]) (mvT hZ (hw _ (List.mem_of_getElem? (i := 12) rfl)))) (mvT hZ (hw _ (List.mem_of_getElem? (i := 12) rfl))) (mvT hZ (hw _ (List.mem_of_getElem? (i := 11) rfl))) (by decide) (backOf (W := 0) (rm3_3 l Z a0 hw [] b1 h6 n0 (Nat.le_trans Z0 K6.1) f7 q0_6 gn_b1) hZ (hw _ (List.mem_of_getElem? (i := 13) rfl)) (hw _ (List.mem_of_getElem? (i := 2) rfl)) (by decide) (by decide)) q8a q8c (g := (mkF m 39 #[.val (.int p0), .val (.ref b1), .val (.int (1 : Int32)), .val (.long (1 : Int64)), .second, .val (.int (1 : Int32)), .val (.long (1 : Int64)), .second, .unset, .unset] [(.ref b1)])) rfl (by rw [hml]; rfl) (Steps.refl _) (argsL := []) (rest := []) (lenOf pd_1 rfl) rfl (by show 2 * 0 + _ ≤ _; exact Nat.le_of_eq rfl) (hb hby at_39) (fun _ _ => ⟨rfl, e6, (by decide : 1 + 0 ≤ _), (by decide : 1 + 0 ≤ _)⟩)
    dsimp only [Pt.U, Pt.locs, Pt.cells, Pt.slots] at X8 l8 y8 z8 st8 hQ8
    subst l8 y8 z8
    obtain ⟨h8, e8⟩ : ∃ z, T8.heap = z := ⟨_, rfl⟩
    rw [e8] at hQ8
    obtain ⟨rfl, N8q, K8q, q0_8⟩ := hQ8
    have N8 := Fr.app N6 N8q
    have K8 : Keep h0 h8 [] := K6.trans K8q (allS (Or.inr sz_b1) all0)
    refine step (T8.setTop (mkF m 42 #[.val (.int p0), .val (.ref b1), .val (.int (1 : Int32)), .val (.long (1 : Int64)), .second, .val (.int (1 : Int32)), .val (.long (1 : Int64)), .second, .unset, .unset] [(.long (2 : Int64))])) (fun t k => st8.trans k) ?_
    refine step (T8.setTop (mkF m 44 #[.val (.int p0), .val (.ref b1), .val (.int (1 : Int32)), .val (.long (1 : Int64)), .second, .val (.int (1 : Int32)), .val (.long (1 : Int64)), .second, .val (.long (2 : Int64)), .second] [])) (fun t k => XS.lstore X8.here hx rfl (hb hby at_42) rfl (l' := #[.val (.int p0), .val (.ref b1), .val (.int (1 : Int32)), .val (.long (1 : Int64)), .second, .val (.int (1 : Int32)), .val (.long (1 : Int64)), .second, .val (.long (2 : Int64)), .second]) rfl k) ?_
    refine step (T8.setTop (mkF m 46 #[.val (.int p0), .val (.ref b1), .val (.int (1 : Int32)), .val (.long (1 : Int64)), .second, .val (.int (1 : Int32)), .val (.long (1 : Int64)), .second, .val (.long (2 : Int64)), .second] [(.int (1 : Int32))])) (fun t k => XS.iload X8.here hx rfl (hb hby at_44) rfl k) ?_
    refine step (T8.setTop (mkF m 49 #[.val (.int p0), .val (.ref b1), .val (.int (1 : Int32)), .val (.long (1 : Int64)), .second, .val (.int (1 : Int32)), .val (.long (1 : Int64)), .second, .val (.long (2 : Int64)), .second] [])) (fun t k => XS.ifNo X8.here hx rfl (hb hby at_46) rfl ((if0 _ _).trans (feq (by decide : ¬ ((1 : Int32) = (0 : Int32)))).1) k) ?_
    refine step (T8.setTop (mkF m 51 #[.val (.int p0), .val (.ref b1), .val (.int (1 : Int32)), .val (.long (1 : Int64)), .second, .val (.int (1 : Int32)), .val (.long (1 : Int64)), .second, .val (.long (2 : Int64)), .second] [(.long (2 : Int64))])) (fun t k => XS.lload X8.here hx rfl (hb hby at_49) rfl k) ?_
    refine step (T8.setTop (mkF m 53 #[.val (.int p0), .val (.ref b1), .val (.int (1 : Int32)), .val (.long (1 : Int64)), .second, .val (.int (1 : Int32)), .val (.long (1 : Int64)), .second, .val (.long (2 : Int64)), .second] [(.long (1 : Int64)), (.long (2 : Int64))])) (fun t k => XS.lload X8.here hx rfl (hb hby at_51) rfl k) ?_
    refine step (T8.setTop (mkF m 54 #[.val (.int p0), .val (.ref b1), .val (.int (1 : Int32)), .val (.long (1 : Int64)), .second, .val (.int (1 : Int32)), .val (.long (1 : Int64)), .second, .val (.long (2 : Int64)), .second] [(.long (1 : Int64)), (.long (1 : Int64)), (.long (2 : Int64))])) (fun t k => XS.lconst X8.here hx rfl (hb hby at_53) k) ?_
    refine step (T8.setTop (mkF m 55 #[.val (.int p0), .val (.ref b1), .val (.int (1 : Int32)), .val (.long (1 : Int64)), .second, .val (.int (1 : Int32)), .val (.long (1 : Int64)), .second, .val (.long (2 : Int64)), .second] [(.long (2 : Int64)), (.long (2 : Int64))])) (fun t k => XS.ladd X8.here hx rfl (hb hby at_54) rfl k) ?_
    refine step (T8.setTop (mkF m 56 #[.val (.int p0), .val (.ref b1), .val (.int (1 : Int32)), .val (.long (1 : Int64)), .second, .val (.int (1 : Int32)), .val (.long (1 : Int64)), .second, .val (.long (2 : Int64)), .second] [(.int (lcmpW (2 : Int64) (2 : Int64)))])) (fun t k => XS.lcmp X8.here hx rfl (hb hby at_55) rfl k) ?_
    refine step (T8.setTop (mkF m 59 #[.val (.int p0), .val (.ref b1), .val (.int (1 : Int32)), .val (.long (1 : Int64)), .second, .val (.int (1 : Int32)), .val (.long (1 : Int64)), .second, .val (.long (2 : Int64)), .second] [])) (fun t k => XS.ifNo X8.here hx rfl (hb hby at_56) rfl ((if0 _ _).trans (teq ((lw_eq _ _).mpr (by decide : (2 : Int64) = (2 : Int64)))).2) k) ?_
    refine step (T8.setTop (mkF m 60 #[.val (.int p0), .val (.ref b1), .val (.int (1 : Int32)), .val (.long (1 : Int64)), .second, .val (.int (1 : Int32)), .val (.long (1 : Int64)), .second, .val (.long (2 : Int64)), .second] [(.int (1 : Int32))])) (fun t k => XS.iconst X8.here hx rfl (hb hby at_59) k) ?_
    refine step (T8.setTop (mkF m 64 #[.val (.int p0), .val (.ref b1), .val (.int (1 : Int32)), .val (.long (1 : Int64)), .second, .val (.int (1 : Int32)), .val (.long (1 : Int64)), .second, .val (.long (2 : Int64)), .second] [(.int (1 : Int32))])) (fun t k => XS.goto X8.here hx rfl (pc0 := 60) (pc' := 64) rfl (hb hby at_60) (by decide) (by decide) k) ?_
    refine step (T8.setTop (mkF m 66 #[.val (.int p0), .val (.ref b1), .val (.int (1 : Int32)), .val (.long (1 : Int64)), .second, .val (.int (1 : Int32)), .val (.long (1 : Int64)), .second, .val (.long (2 : Int64)), .second] [])) (fun t k => XS.istore X8.here hx rfl (hb hby at_64) rfl (l' := #[.val (.int p0), .val (.ref b1), .val (.int (1 : Int32)), .val (.long (1 : Int64)), .second, .val (.int (1 : Int32)), .val (.long (1 : Int64)), .second, .val (.long (2 : Int64)), .second]) rfl k) ?_
    refine step (T8.setTop (mkF m 68 #[.val (.int p0), .val (.ref b1), .val (.int (1 : Int32)), .val (.long (1 : Int64)), .second, .val (.int (1 : Int32)), .val (.long (1 : Int64)), .second, .val (.long (2 : Int64)), .second] [(.long (2 : Int64))])) (fun t k => XS.lload X8.here hx rfl (hb hby at_66) rfl k) ?_
    refine step (T8.setTop (mkF m 70 #[.val (.int p0), .val (.ref b1), .val (.int (1 : Int32)), .val (.long (1 : Int64)), .second, .val (.int (1 : Int32)), .val (.long (2 : Int64)), .second, .val (.long (2 : Int64)), .second] [])) (fun t k => XS.lstore X8.here hx rfl (hb hby at_68) rfl (l' := #[.val (.int p0), .val (.ref b1), .val (.int (1 : Int32)), .val (.long (1 : Int64)), .second, .val (.int (1 : Int32)), .val (.long (2 : Int64)), .second, .val (.long (2 : Int64)), .second]) rfl k) ?_
    refine step (T8.setTop (mkF m 71 #[.val (.int p0), .val (.ref b1), .val (.int (1 : Int32)), .val (.long (1 : Int64)), .second, .val (.int (1 : Int32)), .val (.long (2 : Int64)), .second, .val (.long (2 : Int64)), .second] [(.int (1 : Int32))])) (fun t k => XS.iloadN X8.here hx rfl (hb hby at_70) rfl k) ?_
    refine step (T8.setTop (mkF m 72 #[.val (.int p0), .val (.ref b1), .val (.int (1 : Int32)), .val (.long (1 : Int64)), .second, .val (.int (1 : Int32)), .val (.long (2 : Int64)), .second, .val (.long (2 : Int64)), .second] [(.int (2 : Int32)), (.int (1 : Int32))])) (fun t k => XS.iconst X8.here hx rfl (hb hby at_71) k) ?_
    refine step (T8.setTop (mkF m 107 #[.val (.int p0), .val (.ref b1), .val (.int (1 : Int32)), .val (.long (1 : Int64)), .second, .val (.int (1 : Int32)), .val (.long (2 : Int64)), .second, .val (.long (2 : Int64)), .second] [])) (fun t k => XS.icmpYes X8.here hx rfl (pc0 := 72) (pc' := 107) rfl (hb hby at_72) rfl (tlt (by decide : (1 : Int32) < (2 : Int32))).1 (by decide) (by decide) k) ?_
    refine step (T8.setTop (mkF m 108 #[.val (.int p0), .val (.ref b1), .val (.int (1 : Int32)), .val (.long (1 : Int64)), .second, .val (.int (1 : Int32)), .val (.long (2 : Int64)), .second, .val (.long (2 : Int64)), .second] [(.int (1 : Int32))])) (fun t k => XS.iloadN X8.here hx rfl (hb hby at_107) rfl k) ?_
    refine step (T8.setTop (mkF m 109 #[.val (.int p0), .val (.ref b1), .val (.int (1 : Int32)), .val (.long (1 : Int64)), .second, .val (.int (1 : Int32)), .val (.long (2 : Int64)), .second, .val (.long (2 : Int64)), .second] [(.int (3 : Int32)), (.int (1 : Int32))])) (fun t k => XS.iconst X8.here hx rfl (hb hby at_108) k) ?_
    refine step (T8.setTop (mkF m 144 #[.val (.int p0), .val (.ref b1), .val (.int (1 : Int32)), .val (.long (1 : Int64)), .second, .val (.int (1 : Int32)), .val (.long (2 : Int64)), .second, .val (.long (2 : Int64)), .second] [])) (fun t k => XS.icmpYes X8.here hx rfl (pc0 := 109) (pc' := 144) rfl (hb hby at_109) rfl (tlt (by decide : (1 : Int32) < (3 : Int32))).1 (by decide) (by decide) k) ?_
    refine step (T8.setTop (mkF m 145 #[.val (.int p0), .val (.ref b1), .val (.int (1 : Int32)), .val (.long (1 : Int64)), .second, .val (.int (1 : Int32)), .val (.long (2 : Int64)), .second, .val (.long (2 : Int64)), .second] [(.ref b1)])) (fun t k => XS.aloadN X8.here hx rfl (hb hby at_144) rfl rfl k) ?_
    have f9 := (f7.keep K8q)
    obtain ⟨cq10, kq10, q10a, q10b, q10c⟩ := isOf hZ e8 f9
    obtain ⟨_, _, ⟨T10, L10, k10, n10⟩, -, X10, ⟨Lc10, hQ10, l10, y10, z10⟩, st10⟩ := X8.virtualBack hx (y := (⟨"com/example/madac/madac/engine/RowKeys", "next", "()J"⟩ : MethodName)) (z := (⟨"com/example/madac/madac/engine/RowKeys", "next", "()J"⟩ : MethodName)) hown (mvT hZ (hw _ (List.mem_of_getElem? (i := 9) rfl))) (mvT hZ (hw _ (List.mem_of_getElem? (i := 10) rfl))) (notFace_of_selects (args := #[]) (mvT hZ (hw _ (List.mem_of_getElem? (i := 12) rfl)))) (mvT hZ (hw _ (List.mem_of_getElem? (i := 12) rfl))) (mvT hZ (hw _ (List.mem_of_getElem? (i := 11) rfl))) (by decide) (backOf (W := 0) (rm3_4 l Z a0 hw [] b1 h8 n0 (Nat.le_trans Z0 K8.1) f9 q0_8 gn_b1) hZ (hw _ (List.mem_of_getElem? (i := 13) rfl)) (hw _ (List.mem_of_getElem? (i := 2) rfl)) (by decide) (by decide)) q10a q10c (g := (mkF m 145 #[.val (.int p0), .val (.ref b1), .val (.int (1 : Int32)), .val (.long (1 : Int64)), .second, .val (.int (1 : Int32)), .val (.long (2 : Int64)), .second, .val (.long (2 : Int64)), .second] [(.ref b1)])) rfl (by rw [hml]; rfl) (Steps.refl _) (argsL := []) (rest := []) (lenOf pd_1 rfl) rfl (by show 2 * 0 + _ ≤ _; exact Nat.le_of_eq rfl) (hb hby at_145) (fun _ _ => ⟨rfl, e8, (by decide : 1 + 0 ≤ _), (by decide : 1 + 0 ≤ _)⟩)
    dsimp only [Pt.U, Pt.locs, Pt.cells, Pt.slots] at X10 l10 y10 z10 st10 hQ10
    subst l10 y10 z10
    obtain ⟨h10, e10⟩ : ∃ z, T10.heap = z := ⟨_, rfl⟩
    rw [e10] at hQ10
    obtain ⟨rfl, N10q, K10q, q0_10⟩ := hQ10
    have N10 := Fr.app N8 N10q
    have K10 : Keep h0 h10 [] := K8.trans K10q (allS (Or.inr sz_b1) all0)
    refine step (T10.setTop (mkF m 148 #[.val (.int p0), .val (.ref b1), .val (.int (1 : Int32)), .val (.long (1 : Int64)), .second, .val (.int (1 : Int32)), .val (.long (2 : Int64)), .second, .val (.long (2 : Int64)), .second] [(.long (3 : Int64))])) (fun t k => st10.trans k) ?_
    refine step (T10.setTop (mkF m 150 #[.val (.int p0), .val (.ref b1), .val (.int (1 : Int32)), .val (.long (1 : Int64)), .second, .val (.int (1 : Int32)), .val (.long (2 : Int64)), .second, .val (.long (3 : Int64)), .second] [])) (fun t k => XS.lstore X10.here hx rfl (hb hby at_148) rfl (l' := #[.val (.int p0), .val (.ref b1), .val (.int (1 : Int32)), .val (.long (1 : Int64)), .second, .val (.int (1 : Int32)), .val (.long (2 : Int64)), .second, .val (.long (3 : Int64)), .second]) rfl k) ?_
    refine step (T10.setTop (mkF m 152 #[.val (.int p0), .val (.ref b1), .val (.int (1 : Int32)), .val (.long (1 : Int64)), .second, .val (.int (1 : Int32)), .val (.long (2 : Int64)), .second, .val (.long (3 : Int64)), .second] [(.int (1 : Int32))])) (fun t k => XS.iload X10.here hx rfl (hb hby at_150) rfl k) ?_
    refine step (T10.setTop (mkF m 155 #[.val (.int p0), .val (.ref b1), .val (.int (1 : Int32)), .val (.long (1 : Int64)), .second, .val (.int (1 : Int32)), .val (.long (2 : Int64)), .second, .val (.long (3 : Int64)), .second] [])) (fun t k => XS.ifNo X10.here hx rfl (hb hby at_152) rfl ((if0 _ _).trans (feq (by decide : ¬ ((1 : Int32) = (0 : Int32)))).1) k) ?_
    refine step (T10.setTop (mkF m 157 #[.val (.int p0), .val (.ref b1), .val (.int (1 : Int32)), .val (.long (1 : Int64)), .second, .val (.int (1 : Int32)), .val (.long (2 : Int64)), .second, .val (.long (3 : Int64)), .second] [(.long (3 : Int64))])) (fun t k => XS.lload X10.here hx rfl (hb hby at_155) rfl k) ?_
    refine step (T10.setTop (mkF m 159 #[.val (.int p0), .val (.ref b1), .val (.int (1 : Int32)), .val (.long (1 : Int64)), .second, .val (.int (1 : Int32)), .val (.long (2 : Int64)), .second, .val (.long (3 : Int64)), .second] [(.long (2 : Int64)), (.long (3 : Int64))])) (fun t k => XS.lload X10.here hx rfl (hb hby at_157) rfl k) ?_
    refine step (T10.setTop (mkF m 160 #[.val (.int p0), .val (.ref b1), .val (.int (1 : Int32)), .val (.long (1 : Int64)), .second, .val (.int (1 : Int32)), .val (.long (2 : Int64)), .second, .val (.long (3 : Int64)), .second] [(.long (1 : Int64)), (.long (2 : Int64)), (.long (3 : Int64))])) (fun t k => XS.lconst X10.here hx rfl (hb hby at_159) k) ?_
    refine step (T10.setTop (mkF m 161 #[.val (.int p0), .val (.ref b1), .val (.int (1 : Int32)), .val (.long (1 : Int64)), .second, .val (.int (1 : Int32)), .val (.long (2 : Int64)), .second, .val (.long (3 : Int64)), .second] [(.long (3 : Int64)), (.long (3 : Int64))])) (fun t k => XS.ladd X10.here hx rfl (hb hby at_160) rfl k) ?_
    refine step (T10.setTop (mkF m 162 #[.val (.int p0), .val (.ref b1), .val (.int (1 : Int32)), .val (.long (1 : Int64)), .second, .val (.int (1 : Int32)), .val (.long (2 : Int64)), .second, .val (.long (3 : Int64)), .second] [(.int (lcmpW (3 : Int64) (3 : Int64)))])) (fun t k => XS.lcmp X10.here hx rfl (hb hby at_161) rfl k) ?_
    refine step (T10.setTop (mkF m 165 #[.val (.int p0), .val (.ref b1), .val (.int (1 : Int32)), .val (.long (1 : Int64)), .second, .val (.int (1 : Int32)), .val (.long (2 : Int64)), .second, .val (.long (3 : Int64)), .second] [])) (fun t k => XS.ifNo X10.here hx rfl (hb hby at_162) rfl ((if0 _ _).trans (teq ((lw_eq _ _).mpr (by decide : (3 : Int64) = (3 : Int64)))).2) k) ?_
    refine step (T10.setTop (mkF m 167 #[.val (.int p0), .val (.ref b1), .val (.int (1 : Int32)), .val (.long (1 : Int64)), .second, .val (.int (1 : Int32)), .val (.long (2 : Int64)), .second, .val (.long (3 : Int64)), .second] [(.long (3 : Int64))])) (fun t k => XS.lload X10.here hx rfl (hb hby at_165) rfl k) ?_
    refine step (T10.setTop (mkF m 168 #[.val (.int p0), .val (.ref b1), .val (.int (1 : Int32)), .val (.long (1 : Int64)), .second, .val (.int (1 : Int32)), .val (.long (2 : Int64)), .second, .val (.long (3 : Int64)), .second] [(.int (1 : Int32)), (.long (3 : Int64))])) (fun t k => XS.iloadN X10.here hx rfl (hb hby at_167) rfl k) ?_
    refine step (T10.setTop (mkF m 169 #[.val (.int p0), .val (.ref b1), .val (.int (1 : Int32)), .val (.long (1 : Int64)), .second, .val (.int (1 : Int32)), .val (.long (2 : Int64)), .second, .val (.long (3 : Int64)), .second] [(.int (2 : Int32)), (.int (1 : Int32)), (.long (3 : Int64))])) (fun t k => XS.iconst X10.here hx rfl (hb hby at_168) k) ?_
    refine step (T10.setTop (mkF m 170 #[.val (.int p0), .val (.ref b1), .val (.int (1 : Int32)), .val (.long (1 : Int64)), .second, .val (.int (1 : Int32)), .val (.long (2 : Int64)), .second, .val (.long (3 : Int64)), .second] [(.int (3 : Int32)), (.long (3 : Int64))])) (fun t k => XS.iadd X10.here hx rfl (hb hby at_169) rfl k) ?_
    refine step (T10.setTop (mkF m 171 #[.val (.int p0), .val (.ref b1), .val (.int (1 : Int32)), .val (.long (1 : Int64)), .second, .val (.int (1 : Int32)), .val (.long (2 : Int64)), .second, .val (.long (3 : Int64)), .second] [(.long (3 : Int64)), (.long (3 : Int64))])) (fun t k => XS.i2l X10.here hx rfl (hb hby at_170) rfl k) ?_
    refine step (T10.setTop (mkF m 172 #[.val (.int p0), .val (.ref b1), .val (.int (1 : Int32)), .val (.long (1 : Int64)), .second, .val (.int (1 : Int32)), .val (.long (2 : Int64)), .second, .val (.long (3 : Int64)), .second] [(.int (lcmpW (3 : Int64) (3 : Int64)))])) (fun t k => XS.lcmp X10.here hx rfl (hb hby at_171) rfl k) ?_
    refine step (T10.setTop (mkF m 175 #[.val (.int p0), .val (.ref b1), .val (.int (1 : Int32)), .val (.long (1 : Int64)), .second, .val (.int (1 : Int32)), .val (.long (2 : Int64)), .second, .val (.long (3 : Int64)), .second] [])) (fun t k => XS.ifNo X10.here hx rfl (hb hby at_172) rfl ((if0 _ _).trans (teq ((lw_eq _ _).mpr (by decide : (3 : Int64) = (3 : Int64)))).2) k) ?_
    refine step (T10.setTop (mkF m 176 #[.val (.int p0), .val (.ref b1), .val (.int (1 : Int32)), .val (.long (1 : Int64)), .second, .val (.int (1 : Int32)), .val (.long (2 : Int64)), .second, .val (.long (3 : Int64)), .second] [(.int (1 : Int32))])) (fun t k => XS.iconst X10.here hx rfl (hb hby at_175) k) ?_
    refine step (T10.setTop (mkF m 180 #[.val (.int p0), .val (.ref b1), .val (.int (1 : Int32)), .val (.long (1 : Int64)), .second, .val (.int (1 : Int32)), .val (.long (2 : Int64)), .second, .val (.long (3 : Int64)), .second] [(.int (1 : Int32))])) (fun t k => XS.goto X10.here hx rfl (pc0 := 176) (pc' := 180) rfl (hb hby at_176) (by decide) (by decide) k) ?_
    refine step (T10.setTop (mkF m 182 #[.val (.int p0), .val (.ref b1), .val (.int (1 : Int32)), .val (.long (1 : Int64)), .second, .val (.int (1 : Int32)), .val (.long (2 : Int64)), .second, .val (.long (3 : Int64)), .second] [])) (fun t k => XS.istore X10.here hx rfl (hb hby at_180) rfl (l' := #[.val (.int p0), .val (.ref b1), .val (.int (1 : Int32)), .val (.long (1 : Int64)), .second, .val (.int (1 : Int32)), .val (.long (2 : Int64)), .second, .val (.long (3 : Int64)), .second]) rfl k) ?_
    refine step (T10.setTop (mkF m 184 #[.val (.int p0), .val (.ref b1), .val (.int (1 : Int32)), .val (.long (1 : Int64)), .second, .val (.int (1 : Int32)), .val (.long (2 : Int64)), .second, .val (.long (3 : Int64)), .second] [(.int (1 : Int32))])) (fun t k => XS.iload X10.here hx rfl (hb hby at_182) rfl k) ?_
    refine fin (v := some (.int (nar .boolean (1 : Int32)))) X10 (fun h => by cases h) ?_ (by decide) (by decide) (fun fs hr => retN X10 hx (t := .boolean) hret (by simp) (hb hby at_184) hr)
    show Q0 Z p0 h0 n0 (some (.int (nar .boolean (1 : Int32)))) T10.heap _
    rw [e10]
    exact ⟨rfl, N10⟩
  · -- kk = 2
    show G (T2.setTop (mkF m 11 #[.val (.int p0), .val (.ref b1), .unset, .unset, .unset, .unset, .unset, .unset, .unset, .unset] [(.int (2 : Int32))]))
    refine step (T2.setTop (mkF m 12 #[.val (.int p0), .val (.ref b1), .val (.int (2 : Int32)), .unset, .unset, .unset, .unset, .unset, .unset, .unset] [])) (fun t k => XS.istoreN X2.here hx rfl (hb hby at_11) rfl (l' := #[.val (.int p0), .val (.ref b1), .val (.int (2 : Int32)), .unset, .unset, .unset, .unset, .unset, .unset, .unset]) rfl k) ?_
    refine step (T2.setTop (mkF m 13 #[.val (.int p0), .val (.ref b1), .val (.int (2 : Int32)), .unset, .unset, .unset, .unset, .unset, .unset, .unset] [(.ref b1)])) (fun t k => XS.aloadN X2.here hx rfl (hb hby at_12) rfl rfl k) ?_
    obtain ⟨cq11, kq11, q11a, q11b, q11c⟩ := isOf hZ e2q A1
    obtain ⟨_, _, ⟨T11, L11, k11, n11⟩, -, X11, ⟨Lc11, hQ11, l11, y11, z11⟩, st11⟩ := X2.virtualBack hx (y := (⟨"com/example/madac/madac/engine/RowKeys", "next", "()J"⟩ : MethodName)) (z := (⟨"com/example/madac/madac/engine/RowKeys", "next", "()J"⟩ : MethodName)) hown (mvT hZ (hw _ (List.mem_of_getElem? (i := 9) rfl))) (mvT hZ (hw _ (List.mem_of_getElem? (i := 10) rfl))) (notFace_of_selects (args := #[]) (mvT hZ (hw _ (List.mem_of_getElem? (i := 12) rfl)))) (mvT hZ (hw _ (List.mem_of_getElem? (i := 12) rfl))) (mvT hZ (hw _ (List.mem_of_getElem? (i := 11) rfl))) (by decide) (backOf (W := 0) (rm3_2 l Z a0 hw [] b1 h1 n0 (Nat.le_trans Z0 K1.1) A1 F_lastSerial_b1 gn_b1) hZ (hw _ (List.mem_of_getElem? (i := 13) rfl)) (hw _ (List.mem_of_getElem? (i := 2) rfl)) (by decide) (by decide)) q11a q11c (g := (mkF m 13 #[.val (.int p0), .val (.ref b1), .val (.int (2 : Int32)), .unset, .unset, .unset, .unset, .unset, .unset, .unset] [(.ref b1)])) rfl (by rw [hml]; rfl) (Steps.refl _) (argsL := []) (rest := []) (lenOf pd_1 rfl) rfl (by show 2 * 0 + _ ≤ _; exact Nat.le_of_eq rfl) (hb hby at_13) (fun _ _ => ⟨rfl, e2q, (by decide : 1 + 0 ≤ _), (by decide : 1 + 0 ≤ _)⟩)
    dsimp only [Pt.U, Pt.locs, Pt.cells, Pt.slots] at X11 l11 y11 z11 st11 hQ11
    subst l11 y11 z11
    obtain ⟨h11, e11⟩ : ∃ z, T11.heap = z := ⟨_, rfl⟩
    rw [e11] at hQ11
    obtain ⟨rfl, N11q, K11q, q0_11⟩ := hQ11
    have N11 := Fr.app N2 N11q
    have K11 : Keep h0 h11 [] := K1.trans K11q (allS (Or.inr sz_b1) all0)
    refine step (T11.setTop (mkF m 16 #[.val (.int p0), .val (.ref b1), .val (.int (2 : Int32)), .unset, .unset, .unset, .unset, .unset, .unset, .unset] [(.long (1 : Int64))])) (fun t k => st11.trans k) ?_
    refine step (T11.setTop (mkF m 17 #[.val (.int p0), .val (.ref b1), .val (.int (2 : Int32)), .val (.long (1 : Int64)), .second, .unset, .unset, .unset, .unset, .unset] [])) (fun t k => XS.lstoreN X11.here hx rfl (hb hby at_16) rfl (l' := #[.val (.int p0), .val (.ref b1), .val (.int (2 : Int32)), .val (.long (1 : Int64)), .second, .unset, .unset, .unset, .unset, .unset]) rfl k) ?_
    refine step (T11.setTop (mkF m 18 #[.val (.int p0), .val (.ref b1), .val (.int (2 : Int32)), .val (.long (1 : Int64)), .second, .unset, .unset, .unset, .unset, .unset] [(.long (1 : Int64))])) (fun t k => XS.lloadN X11.here hx rfl (hb hby at_17) rfl k) ?_
    refine step (T11.setTop (mkF m 19 #[.val (.int p0), .val (.ref b1), .val (.int (2 : Int32)), .val (.long (1 : Int64)), .second, .unset, .unset, .unset, .unset, .unset] [(.long (1 : Int64)), (.long (1 : Int64))])) (fun t k => XS.lconst X11.here hx rfl (hb hby at_18) k) ?_
    refine step (T11.setTop (mkF m 20 #[.val (.int p0), .val (.ref b1), .val (.int (2 : Int32)), .val (.long (1 : Int64)), .second, .unset, .unset, .unset, .unset, .unset] [(.int (lcmpW (1 : Int64) (1 : Int64)))])) (fun t k => XS.lcmp X11.here hx rfl (hb hby at_19) rfl k) ?_
    refine step (T11.setTop (mkF m 23 #[.val (.int p0), .val (.ref b1), .val (.int (2 : Int32)), .val (.long (1 : Int64)), .second, .unset, .unset, .unset, .unset, .unset] [])) (fun t k => XS.ifNo X11.here hx rfl (hb hby at_20) rfl ((if0 _ _).trans (teq ((lw_eq _ _).mpr (by decide : (1 : Int64) = (1 : Int64)))).2) k) ?_
    refine step (T11.setTop (mkF m 24 #[.val (.int p0), .val (.ref b1), .val (.int (2 : Int32)), .val (.long (1 : Int64)), .second, .unset, .unset, .unset, .unset, .unset] [(.int (1 : Int32))])) (fun t k => XS.iconst X11.here hx rfl (hb hby at_23) k) ?_
    refine step (T11.setTop (mkF m 28 #[.val (.int p0), .val (.ref b1), .val (.int (2 : Int32)), .val (.long (1 : Int64)), .second, .unset, .unset, .unset, .unset, .unset] [(.int (1 : Int32))])) (fun t k => XS.goto X11.here hx rfl (pc0 := 24) (pc' := 28) rfl (hb hby at_24) (by decide) (by decide) k) ?_
    refine step (T11.setTop (mkF m 30 #[.val (.int p0), .val (.ref b1), .val (.int (2 : Int32)), .val (.long (1 : Int64)), .second, .val (.int (1 : Int32)), .unset, .unset, .unset, .unset] [])) (fun t k => XS.istore X11.here hx rfl (hb hby at_28) rfl (l' := #[.val (.int p0), .val (.ref b1), .val (.int (2 : Int32)), .val (.long (1 : Int64)), .second, .val (.int (1 : Int32)), .unset, .unset, .unset, .unset]) rfl k) ?_
    refine step (T11.setTop (mkF m 31 #[.val (.int p0), .val (.ref b1), .val (.int (2 : Int32)), .val (.long (1 : Int64)), .second, .val (.int (1 : Int32)), .unset, .unset, .unset, .unset] [(.long (1 : Int64))])) (fun t k => XS.lloadN X11.here hx rfl (hb hby at_30) rfl k) ?_
    refine step (T11.setTop (mkF m 33 #[.val (.int p0), .val (.ref b1), .val (.int (2 : Int32)), .val (.long (1 : Int64)), .second, .val (.int (1 : Int32)), .val (.long (1 : Int64)), .second, .unset, .unset] [])) (fun t k => XS.lstore X11.here hx rfl (hb hby at_31) rfl (l' := #[.val (.int p0), .val (.ref b1), .val (.int (2 : Int32)), .val (.long (1 : Int64)), .second, .val (.int (1 : Int32)), .val (.long (1 : Int64)), .second, .unset, .unset]) rfl k) ?_
    refine step (T11.setTop (mkF m 34 #[.val (.int p0), .val (.ref b1), .val (.int (2 : Int32)), .val (.long (1 : Int64)), .second, .val (.int (1 : Int32)), .val (.long (1 : Int64)), .second, .unset, .unset] [(.int (2 : Int32))])) (fun t k => XS.iloadN X11.here hx rfl (hb hby at_33) rfl k) ?_
    refine step (T11.setTop (mkF m 35 #[.val (.int p0), .val (.ref b1), .val (.int (2 : Int32)), .val (.long (1 : Int64)), .second, .val (.int (1 : Int32)), .val (.long (1 : Int64)), .second, .unset, .unset] [(.int (1 : Int32)), (.int (2 : Int32))])) (fun t k => XS.iconst X11.here hx rfl (hb hby at_34) k) ?_
    refine step (T11.setTop (mkF m 38 #[.val (.int p0), .val (.ref b1), .val (.int (2 : Int32)), .val (.long (1 : Int64)), .second, .val (.int (1 : Int32)), .val (.long (1 : Int64)), .second, .unset, .unset] [])) (fun t k => XS.icmpNo X11.here hx rfl (hb hby at_35) rfl (flt (by decide : ¬ ((2 : Int32) < (1 : Int32)))).1 k) ?_
    refine step (T11.setTop (mkF m 39 #[.val (.int p0), .val (.ref b1), .val (.int (2 : Int32)), .val (.long (1 : Int64)), .second, .val (.int (1 : Int32)), .val (.long (1 : Int64)), .second, .unset, .unset] [(.ref b1)])) (fun t k => XS.aloadN X11.here hx rfl (hb hby at_38) rfl rfl k) ?_
    have f12 := (A1.keep K11q)
    obtain ⟨cq13, kq13, q13a, q13b, q13c⟩ := isOf hZ e11 f12
    obtain ⟨_, _, ⟨T13, L13, k13, n13⟩, -, X13, ⟨Lc13, hQ13, l13, y13, z13⟩, st13⟩ := X11.virtualBack hx (y := (⟨"com/example/madac/madac/engine/RowKeys", "next", "()J"⟩ : MethodName)) (z := (⟨"com/example/madac/madac/engine/RowKeys", "next", "()J"⟩ : MethodName)) hown (mvT hZ (hw _ (List.mem_of_getElem? (i := 9) rfl))) (mvT hZ (hw _ (List.mem_of_getElem? (i := 10) rfl))) (notFace_of_selects (args := #[]) (mvT hZ (hw _ (List.mem_of_getElem? (i := 12) rfl)))) (mvT hZ (hw _ (List.mem_of_getElem? (i := 12) rfl))) (mvT hZ (hw _ (List.mem_of_getElem? (i := 11) rfl))) (by decide) (backOf (W := 0) (rm3_3 l Z a0 hw [] b1 h11 n0 (Nat.le_trans Z0 K11.1) f12 q0_11 gn_b1) hZ (hw _ (List.mem_of_getElem? (i := 13) rfl)) (hw _ (List.mem_of_getElem? (i := 2) rfl)) (by decide) (by decide)) q13a q13c (g := (mkF m 39 #[.val (.int p0), .val (.ref b1), .val (.int (2 : Int32)), .val (.long (1 : Int64)), .second, .val (.int (1 : Int32)), .val (.long (1 : Int64)), .second, .unset, .unset] [(.ref b1)])) rfl (by rw [hml]; rfl) (Steps.refl _) (argsL := []) (rest := []) (lenOf pd_1 rfl) rfl (by show 2 * 0 + _ ≤ _; exact Nat.le_of_eq rfl) (hb hby at_39) (fun _ _ => ⟨rfl, e11, (by decide : 1 + 0 ≤ _), (by decide : 1 + 0 ≤ _)⟩)
    dsimp only [Pt.U, Pt.locs, Pt.cells, Pt.slots] at X13 l13 y13 z13 st13 hQ13
    subst l13 y13 z13
    obtain ⟨h13, e13⟩ : ∃ z, T13.heap = z := ⟨_, rfl⟩
    rw [e13] at hQ13
    obtain ⟨rfl, N13q, K13q, q0_13⟩ := hQ13
    have N13 := Fr.app N11 N13q
    have K13 : Keep h0 h13 [] := K11.trans K13q (allS (Or.inr sz_b1) all0)
    refine step (T13.setTop (mkF m 42 #[.val (.int p0), .val (.ref b1), .val (.int (2 : Int32)), .val (.long (1 : Int64)), .second, .val (.int (1 : Int32)), .val (.long (1 : Int64)), .second, .unset, .unset] [(.long (2 : Int64))])) (fun t k => st13.trans k) ?_
    refine step (T13.setTop (mkF m 44 #[.val (.int p0), .val (.ref b1), .val (.int (2 : Int32)), .val (.long (1 : Int64)), .second, .val (.int (1 : Int32)), .val (.long (1 : Int64)), .second, .val (.long (2 : Int64)), .second] [])) (fun t k => XS.lstore X13.here hx rfl (hb hby at_42) rfl (l' := #[.val (.int p0), .val (.ref b1), .val (.int (2 : Int32)), .val (.long (1 : Int64)), .second, .val (.int (1 : Int32)), .val (.long (1 : Int64)), .second, .val (.long (2 : Int64)), .second]) rfl k) ?_
    refine step (T13.setTop (mkF m 46 #[.val (.int p0), .val (.ref b1), .val (.int (2 : Int32)), .val (.long (1 : Int64)), .second, .val (.int (1 : Int32)), .val (.long (1 : Int64)), .second, .val (.long (2 : Int64)), .second] [(.int (1 : Int32))])) (fun t k => XS.iload X13.here hx rfl (hb hby at_44) rfl k) ?_
    refine step (T13.setTop (mkF m 49 #[.val (.int p0), .val (.ref b1), .val (.int (2 : Int32)), .val (.long (1 : Int64)), .second, .val (.int (1 : Int32)), .val (.long (1 : Int64)), .second, .val (.long (2 : Int64)), .second] [])) (fun t k => XS.ifNo X13.here hx rfl (hb hby at_46) rfl ((if0 _ _).trans (feq (by decide : ¬ ((1 : Int32) = (0 : Int32)))).1) k) ?_
    refine step (T13.setTop (mkF m 51 #[.val (.int p0), .val (.ref b1), .val (.int (2 : Int32)), .val (.long (1 : Int64)), .second, .val (.int (1 : Int32)), .val (.long (1 : Int64)), .second, .val (.long (2 : Int64)), .second] [(.long (2 : Int64))])) (fun t k => XS.lload X13.here hx rfl (hb hby at_49) rfl k) ?_
    refine step (T13.setTop (mkF m 53 #[.val (.int p0), .val (.ref b1), .val (.int (2 : Int32)), .val (.long (1 : Int64)), .second, .val (.int (1 : Int32)), .val (.long (1 : Int64)), .second, .val (.long (2 : Int64)), .second] [(.long (1 : Int64)), (.long (2 : Int64))])) (fun t k => XS.lload X13.here hx rfl (hb hby at_51) rfl k) ?_
    refine step (T13.setTop (mkF m 54 #[.val (.int p0), .val (.ref b1), .val (.int (2 : Int32)), .val (.long (1 : Int64)), .second, .val (.int (1 : Int32)), .val (.long (1 : Int64)), .second, .val (.long (2 : Int64)), .second] [(.long (1 : Int64)), (.long (1 : Int64)), (.long (2 : Int64))])) (fun t k => XS.lconst X13.here hx rfl (hb hby at_53) k) ?_
    refine step (T13.setTop (mkF m 55 #[.val (.int p0), .val (.ref b1), .val (.int (2 : Int32)), .val (.long (1 : Int64)), .second, .val (.int (1 : Int32)), .val (.long (1 : Int64)), .second, .val (.long (2 : Int64)), .second] [(.long (2 : Int64)), (.long (2 : Int64))])) (fun t k => XS.ladd X13.here hx rfl (hb hby at_54) rfl k) ?_
    refine step (T13.setTop (mkF m 56 #[.val (.int p0), .val (.ref b1), .val (.int (2 : Int32)), .val (.long (1 : Int64)), .second, .val (.int (1 : Int32)), .val (.long (1 : Int64)), .second, .val (.long (2 : Int64)), .second] [(.int (lcmpW (2 : Int64) (2 : Int64)))])) (fun t k => XS.lcmp X13.here hx rfl (hb hby at_55) rfl k) ?_
    refine step (T13.setTop (mkF m 59 #[.val (.int p0), .val (.ref b1), .val (.int (2 : Int32)), .val (.long (1 : Int64)), .second, .val (.int (1 : Int32)), .val (.long (1 : Int64)), .second, .val (.long (2 : Int64)), .second] [])) (fun t k => XS.ifNo X13.here hx rfl (hb hby at_56) rfl ((if0 _ _).trans (teq ((lw_eq _ _).mpr (by decide : (2 : Int64) = (2 : Int64)))).2) k) ?_
    refine step (T13.setTop (mkF m 60 #[.val (.int p0), .val (.ref b1), .val (.int (2 : Int32)), .val (.long (1 : Int64)), .second, .val (.int (1 : Int32)), .val (.long (1 : Int64)), .second, .val (.long (2 : Int64)), .second] [(.int (1 : Int32))])) (fun t k => XS.iconst X13.here hx rfl (hb hby at_59) k) ?_
    refine step (T13.setTop (mkF m 64 #[.val (.int p0), .val (.ref b1), .val (.int (2 : Int32)), .val (.long (1 : Int64)), .second, .val (.int (1 : Int32)), .val (.long (1 : Int64)), .second, .val (.long (2 : Int64)), .second] [(.int (1 : Int32))])) (fun t k => XS.goto X13.here hx rfl (pc0 := 60) (pc' := 64) rfl (hb hby at_60) (by decide) (by decide) k) ?_
    refine step (T13.setTop (mkF m 66 #[.val (.int p0), .val (.ref b1), .val (.int (2 : Int32)), .val (.long (1 : Int64)), .second, .val (.int (1 : Int32)), .val (.long (1 : Int64)), .second, .val (.long (2 : Int64)), .second] [])) (fun t k => XS.istore X13.here hx rfl (hb hby at_64) rfl (l' := #[.val (.int p0), .val (.ref b1), .val (.int (2 : Int32)), .val (.long (1 : Int64)), .second, .val (.int (1 : Int32)), .val (.long (1 : Int64)), .second, .val (.long (2 : Int64)), .second]) rfl k) ?_
    refine step (T13.setTop (mkF m 68 #[.val (.int p0), .val (.ref b1), .val (.int (2 : Int32)), .val (.long (1 : Int64)), .second, .val (.int (1 : Int32)), .val (.long (1 : Int64)), .second, .val (.long (2 : Int64)), .second] [(.long (2 : Int64))])) (fun t k => XS.lload X13.here hx rfl (hb hby at_66) rfl k) ?_
    refine step (T13.setTop (mkF m 70 #[.val (.int p0), .val (.ref b1), .val (.int (2 : Int32)), .val (.long (1 : Int64)), .second, .val (.int (1 : Int32)), .val (.long (2 : Int64)), .second, .val (.long (2 : Int64)), .second] [])) (fun t k => XS.lstore X13.here hx rfl (hb hby at_68) rfl (l' := #[.val (.int p0), .val (.ref b1), .val (.int (2 : Int32)), .val (.long (1 : Int64)), .second, .val (.int (1 : Int32)), .val (.long (2 : Int64)), .second, .val (.long (2 : Int64)), .second]) rfl k) ?_
    refine step (T13.setTop (mkF m 71 #[.val (.int p0), .val (.ref b1), .val (.int (2 : Int32)), .val (.long (1 : Int64)), .second, .val (.int (1 : Int32)), .val (.long (2 : Int64)), .second, .val (.long (2 : Int64)), .second] [(.int (2 : Int32))])) (fun t k => XS.iloadN X13.here hx rfl (hb hby at_70) rfl k) ?_
    refine step (T13.setTop (mkF m 72 #[.val (.int p0), .val (.ref b1), .val (.int (2 : Int32)), .val (.long (1 : Int64)), .second, .val (.int (1 : Int32)), .val (.long (2 : Int64)), .second, .val (.long (2 : Int64)), .second] [(.int (2 : Int32)), (.int (2 : Int32))])) (fun t k => XS.iconst X13.here hx rfl (hb hby at_71) k) ?_
    refine step (T13.setTop (mkF m 75 #[.val (.int p0), .val (.ref b1), .val (.int (2 : Int32)), .val (.long (1 : Int64)), .second, .val (.int (1 : Int32)), .val (.long (2 : Int64)), .second, .val (.long (2 : Int64)), .second] [])) (fun t k => XS.icmpNo X13.here hx rfl (hb hby at_72) rfl (flt (by decide : ¬ ((2 : Int32) < (2 : Int32)))).1 k) ?_
    refine step (T13.setTop (mkF m 76 #[.val (.int p0), .val (.ref b1), .val (.int (2 : Int32)), .val (.long (1 : Int64)), .second, .val (.int (1 : Int32)), .val (.long (2 : Int64)), .second, .val (.long (2 : Int64)), .second] [(.ref b1)])) (fun t k => XS.aloadN X13.here hx rfl (hb hby at_75) rfl rfl k) ?_
    have f14 := (f12.keep K13q)
    obtain ⟨cq15, kq15, q15a, q15b, q15c⟩ := isOf hZ e13 f14
    obtain ⟨_, _, ⟨T15, L15, k15, n15⟩, -, X15, ⟨Lc15, hQ15, l15, y15, z15⟩, st15⟩ := X13.virtualBack hx (y := (⟨"com/example/madac/madac/engine/RowKeys", "next", "()J"⟩ : MethodName)) (z := (⟨"com/example/madac/madac/engine/RowKeys", "next", "()J"⟩ : MethodName)) hown (mvT hZ (hw _ (List.mem_of_getElem? (i := 9) rfl))) (mvT hZ (hw _ (List.mem_of_getElem? (i := 10) rfl))) (notFace_of_selects (args := #[]) (mvT hZ (hw _ (List.mem_of_getElem? (i := 12) rfl)))) (mvT hZ (hw _ (List.mem_of_getElem? (i := 12) rfl))) (mvT hZ (hw _ (List.mem_of_getElem? (i := 11) rfl))) (by decide) (backOf (W := 0) (rm3_4 l Z a0 hw [] b1 h13 n0 (Nat.le_trans Z0 K13.1) f14 q0_13 gn_b1) hZ (hw _ (List.mem_of_getElem? (i := 13) rfl)) (hw _ (List.mem_of_getElem? (i := 2) rfl)) (by decide) (by decide)) q15a q15c (g := (mkF m 76 #[.val (.int p0), .val (.ref b1), .val (.int (2 : Int32)), .val (.long (1 : Int64)), .second, .val (.int (1 : Int32)), .val (.long (2 : Int64)), .second, .val (.long (2 : Int64)), .second] [(.ref b1)])) rfl (by rw [hml]; rfl) (Steps.refl _) (argsL := []) (rest := []) (lenOf pd_1 rfl) rfl (by show 2 * 0 + _ ≤ _; exact Nat.le_of_eq rfl) (hb hby at_76) (fun _ _ => ⟨rfl, e13, (by decide : 1 + 0 ≤ _), (by decide : 1 + 0 ≤ _)⟩)
    dsimp only [Pt.U, Pt.locs, Pt.cells, Pt.slots] at X15 l15 y15 z15 st15 hQ15
    subst l15 y15 z15
    obtain ⟨h15, e15⟩ : ∃ z, T15.heap = z := ⟨_, rfl⟩
    rw [e15] at hQ15
    obtain ⟨rfl, N15q, K15q, q0_15⟩ := hQ15
    have N15 := Fr.app N13 N15q
    have K15 : Keep h0 h15 [] := K13.trans K15q (allS (Or.inr sz_b1) all0)
    refine step (T15.setTop (mkF m 79 #[.val (.int p0), .val (.ref b1), .val (.int (2 : Int32)), .val (.long (1 : Int64)), .second, .val (.int (1 : Int32)), .val (.long (2 : Int64)), .second, .val (.long (2 : Int64)), .second] [(.long (3 : Int64))])) (fun t k => st15.trans k) ?_
    refine step (T15.setTop (mkF m 81 #[.val (.int p0), .val (.ref b1), .val (.int (2 : Int32)), .val (.long (1 : Int64)), .second, .val (.int (1 : Int32)), .val (.long (2 : Int64)), .second, .val (.long (3 : Int64)), .second] [])) (fun t k => XS.lstore X15.here hx rfl (hb hby at_79) rfl (l' := #[.val (.int p0), .val (.ref b1), .val (.int (2 : Int32)), .val (.long (1 : Int64)), .second, .val (.int (1 : Int32)), .val (.long (2 : Int64)), .second, .val (.long (3 : Int64)), .second]) rfl k) ?_
    refine step (T15.setTop (mkF m 83 #[.val (.int p0), .val (.ref b1), .val (.int (2 : Int32)), .val (.long (1 : Int64)), .second, .val (.int (1 : Int32)), .val (.long (2 : Int64)), .second, .val (.long (3 : Int64)), .second] [(.int (1 : Int32))])) (fun t k => XS.iload X15.here hx rfl (hb hby at_81) rfl k) ?_
    refine step (T15.setTop (mkF m 86 #[.val (.int p0), .val (.ref b1), .val (.int (2 : Int32)), .val (.long (1 : Int64)), .second, .val (.int (1 : Int32)), .val (.long (2 : Int64)), .second, .val (.long (3 : Int64)), .second] [])) (fun t k => XS.ifNo X15.here hx rfl (hb hby at_83) rfl ((if0 _ _).trans (feq (by decide : ¬ ((1 : Int32) = (0 : Int32)))).1) k) ?_
    refine step (T15.setTop (mkF m 88 #[.val (.int p0), .val (.ref b1), .val (.int (2 : Int32)), .val (.long (1 : Int64)), .second, .val (.int (1 : Int32)), .val (.long (2 : Int64)), .second, .val (.long (3 : Int64)), .second] [(.long (3 : Int64))])) (fun t k => XS.lload X15.here hx rfl (hb hby at_86) rfl k) ?_
    refine step (T15.setTop (mkF m 90 #[.val (.int p0), .val (.ref b1), .val (.int (2 : Int32)), .val (.long (1 : Int64)), .second, .val (.int (1 : Int32)), .val (.long (2 : Int64)), .second, .val (.long (3 : Int64)), .second] [(.long (2 : Int64)), (.long (3 : Int64))])) (fun t k => XS.lload X15.here hx rfl (hb hby at_88) rfl k) ?_
    refine step (T15.setTop (mkF m 91 #[.val (.int p0), .val (.ref b1), .val (.int (2 : Int32)), .val (.long (1 : Int64)), .second, .val (.int (1 : Int32)), .val (.long (2 : Int64)), .second, .val (.long (3 : Int64)), .second] [(.long (1 : Int64)), (.long (2 : Int64)), (.long (3 : Int64))])) (fun t k => XS.lconst X15.here hx rfl (hb hby at_90) k) ?_
    refine step (T15.setTop (mkF m 92 #[.val (.int p0), .val (.ref b1), .val (.int (2 : Int32)), .val (.long (1 : Int64)), .second, .val (.int (1 : Int32)), .val (.long (2 : Int64)), .second, .val (.long (3 : Int64)), .second] [(.long (3 : Int64)), (.long (3 : Int64))])) (fun t k => XS.ladd X15.here hx rfl (hb hby at_91) rfl k) ?_
    refine step (T15.setTop (mkF m 93 #[.val (.int p0), .val (.ref b1), .val (.int (2 : Int32)), .val (.long (1 : Int64)), .second, .val (.int (1 : Int32)), .val (.long (2 : Int64)), .second, .val (.long (3 : Int64)), .second] [(.int (lcmpW (3 : Int64) (3 : Int64)))])) (fun t k => XS.lcmp X15.here hx rfl (hb hby at_92) rfl k) ?_
    refine step (T15.setTop (mkF m 96 #[.val (.int p0), .val (.ref b1), .val (.int (2 : Int32)), .val (.long (1 : Int64)), .second, .val (.int (1 : Int32)), .val (.long (2 : Int64)), .second, .val (.long (3 : Int64)), .second] [])) (fun t k => XS.ifNo X15.here hx rfl (hb hby at_93) rfl ((if0 _ _).trans (teq ((lw_eq _ _).mpr (by decide : (3 : Int64) = (3 : Int64)))).2) k) ?_
    refine step (T15.setTop (mkF m 97 #[.val (.int p0), .val (.ref b1), .val (.int (2 : Int32)), .val (.long (1 : Int64)), .second, .val (.int (1 : Int32)), .val (.long (2 : Int64)), .second, .val (.long (3 : Int64)), .second] [(.int (1 : Int32))])) (fun t k => XS.iconst X15.here hx rfl (hb hby at_96) k) ?_
    refine step (T15.setTop (mkF m 101 #[.val (.int p0), .val (.ref b1), .val (.int (2 : Int32)), .val (.long (1 : Int64)), .second, .val (.int (1 : Int32)), .val (.long (2 : Int64)), .second, .val (.long (3 : Int64)), .second] [(.int (1 : Int32))])) (fun t k => XS.goto X15.here hx rfl (pc0 := 97) (pc' := 101) rfl (hb hby at_97) (by decide) (by decide) k) ?_
    refine step (T15.setTop (mkF m 103 #[.val (.int p0), .val (.ref b1), .val (.int (2 : Int32)), .val (.long (1 : Int64)), .second, .val (.int (1 : Int32)), .val (.long (2 : Int64)), .second, .val (.long (3 : Int64)), .second] [])) (fun t k => XS.istore X15.here hx rfl (hb hby at_101) rfl (l' := #[.val (.int p0), .val (.ref b1), .val (.int (2 : Int32)), .val (.long (1 : Int64)), .second, .val (.int (1 : Int32)), .val (.long (2 : Int64)), .second, .val (.long (3 : Int64)), .second]) rfl k) ?_
    refine step (T15.setTop (mkF m 105 #[.val (.int p0), .val (.ref b1), .val (.int (2 : Int32)), .val (.long (1 : Int64)), .second, .val (.int (1 : Int32)), .val (.long (2 : Int64)), .second, .val (.long (3 : Int64)), .second] [(.long (3 : Int64))])) (fun t k => XS.lload X15.here hx rfl (hb hby at_103) rfl k) ?_
    refine step (T15.setTop (mkF m 107 #[.val (.int p0), .val (.ref b1), .val (.int (2 : Int32)), .val (.long (1 : Int64)), .second, .val (.int (1 : Int32)), .val (.long (3 : Int64)), .second, .val (.long (3 : Int64)), .second] [])) (fun t k => XS.lstore X15.here hx rfl (hb hby at_105) rfl (l' := #[.val (.int p0), .val (.ref b1), .val (.int (2 : Int32)), .val (.long (1 : Int64)), .second, .val (.int (1 : Int32)), .val (.long (3 : Int64)), .second, .val (.long (3 : Int64)), .second]) rfl k) ?_
    refine step (T15.setTop (mkF m 108 #[.val (.int p0), .val (.ref b1), .val (.int (2 : Int32)), .val (.long (1 : Int64)), .second, .val (.int (1 : Int32)), .val (.long (3 : Int64)), .second, .val (.long (3 : Int64)), .second] [(.int (2 : Int32))])) (fun t k => XS.iloadN X15.here hx rfl (hb hby at_107) rfl k) ?_
    refine step (T15.setTop (mkF m 109 #[.val (.int p0), .val (.ref b1), .val (.int (2 : Int32)), .val (.long (1 : Int64)), .second, .val (.int (1 : Int32)), .val (.long (3 : Int64)), .second, .val (.long (3 : Int64)), .second] [(.int (3 : Int32)), (.int (2 : Int32))])) (fun t k => XS.iconst X15.here hx rfl (hb hby at_108) k) ?_
    refine step (T15.setTop (mkF m 144 #[.val (.int p0), .val (.ref b1), .val (.int (2 : Int32)), .val (.long (1 : Int64)), .second, .val (.int (1 : Int32)), .val (.long (3 : Int64)), .second, .val (.long (3 : Int64)), .second] [])) (fun t k => XS.icmpYes X15.here hx rfl (pc0 := 109) (pc' := 144) rfl (hb hby at_109) rfl (tlt (by decide : (2 : Int32) < (3 : Int32))).1 (by decide) (by decide) k) ?_
    refine step (T15.setTop (mkF m 145 #[.val (.int p0), .val (.ref b1), .val (.int (2 : Int32)), .val (.long (1 : Int64)), .second, .val (.int (1 : Int32)), .val (.long (3 : Int64)), .second, .val (.long (3 : Int64)), .second] [(.ref b1)])) (fun t k => XS.aloadN X15.here hx rfl (hb hby at_144) rfl rfl k) ?_
    have f16 := (f14.keep K15q)
    obtain ⟨cq17, kq17, q17a, q17b, q17c⟩ := isOf hZ e15 f16
    obtain ⟨_, _, ⟨T17, L17, k17, n17⟩, -, X17, ⟨Lc17, hQ17, l17, y17, z17⟩, st17⟩ := X15.virtualBack hx (y := (⟨"com/example/madac/madac/engine/RowKeys", "next", "()J"⟩ : MethodName)) (z := (⟨"com/example/madac/madac/engine/RowKeys", "next", "()J"⟩ : MethodName)) hown (mvT hZ (hw _ (List.mem_of_getElem? (i := 9) rfl))) (mvT hZ (hw _ (List.mem_of_getElem? (i := 10) rfl))) (notFace_of_selects (args := #[]) (mvT hZ (hw _ (List.mem_of_getElem? (i := 12) rfl)))) (mvT hZ (hw _ (List.mem_of_getElem? (i := 12) rfl))) (mvT hZ (hw _ (List.mem_of_getElem? (i := 11) rfl))) (by decide) (backOf (W := 0) (rm3_5 l Z a0 hw [] b1 h15 n0 (Nat.le_trans Z0 K15.1) f16 q0_15 gn_b1) hZ (hw _ (List.mem_of_getElem? (i := 13) rfl)) (hw _ (List.mem_of_getElem? (i := 2) rfl)) (by decide) (by decide)) q17a q17c (g := (mkF m 145 #[.val (.int p0), .val (.ref b1), .val (.int (2 : Int32)), .val (.long (1 : Int64)), .second, .val (.int (1 : Int32)), .val (.long (3 : Int64)), .second, .val (.long (3 : Int64)), .second] [(.ref b1)])) rfl (by rw [hml]; rfl) (Steps.refl _) (argsL := []) (rest := []) (lenOf pd_1 rfl) rfl (by show 2 * 0 + _ ≤ _; exact Nat.le_of_eq rfl) (hb hby at_145) (fun _ _ => ⟨rfl, e15, (by decide : 1 + 0 ≤ _), (by decide : 1 + 0 ≤ _)⟩)
    dsimp only [Pt.U, Pt.locs, Pt.cells, Pt.slots] at X17 l17 y17 z17 st17 hQ17
    subst l17 y17 z17
    obtain ⟨h17, e17⟩ : ∃ z, T17.heap = z := ⟨_, rfl⟩
    rw [e17] at hQ17
    obtain ⟨rfl, N17q, K17q, q0_17⟩ := hQ17
    have N17 := Fr.app N15 N17q
    have K17 : Keep h0 h17 [] := K15.trans K17q (allS (Or.inr sz_b1) all0)
    refine step (T17.setTop (mkF m 148 #[.val (.int p0), .val (.ref b1), .val (.int (2 : Int32)), .val (.long (1 : Int64)), .second, .val (.int (1 : Int32)), .val (.long (3 : Int64)), .second, .val (.long (3 : Int64)), .second] [(.long (4 : Int64))])) (fun t k => st17.trans k) ?_
    refine step (T17.setTop (mkF m 150 #[.val (.int p0), .val (.ref b1), .val (.int (2 : Int32)), .val (.long (1 : Int64)), .second, .val (.int (1 : Int32)), .val (.long (3 : Int64)), .second, .val (.long (4 : Int64)), .second] [])) (fun t k => XS.lstore X17.here hx rfl (hb hby at_148) rfl (l' := #[.val (.int p0), .val (.ref b1), .val (.int (2 : Int32)), .val (.long (1 : Int64)), .second, .val (.int (1 : Int32)), .val (.long (3 : Int64)), .second, .val (.long (4 : Int64)), .second]) rfl k) ?_
    refine step (T17.setTop (mkF m 152 #[.val (.int p0), .val (.ref b1), .val (.int (2 : Int32)), .val (.long (1 : Int64)), .second, .val (.int (1 : Int32)), .val (.long (3 : Int64)), .second, .val (.long (4 : Int64)), .second] [(.int (1 : Int32))])) (fun t k => XS.iload X17.here hx rfl (hb hby at_150) rfl k) ?_
    refine step (T17.setTop (mkF m 155 #[.val (.int p0), .val (.ref b1), .val (.int (2 : Int32)), .val (.long (1 : Int64)), .second, .val (.int (1 : Int32)), .val (.long (3 : Int64)), .second, .val (.long (4 : Int64)), .second] [])) (fun t k => XS.ifNo X17.here hx rfl (hb hby at_152) rfl ((if0 _ _).trans (feq (by decide : ¬ ((1 : Int32) = (0 : Int32)))).1) k) ?_
    refine step (T17.setTop (mkF m 157 #[.val (.int p0), .val (.ref b1), .val (.int (2 : Int32)), .val (.long (1 : Int64)), .second, .val (.int (1 : Int32)), .val (.long (3 : Int64)), .second, .val (.long (4 : Int64)), .second] [(.long (4 : Int64))])) (fun t k => XS.lload X17.here hx rfl (hb hby at_155) rfl k) ?_
    refine step (T17.setTop (mkF m 159 #[.val (.int p0), .val (.ref b1), .val (.int (2 : Int32)), .val (.long (1 : Int64)), .second, .val (.int (1 : Int32)), .val (.long (3 : Int64)), .second, .val (.long (4 : Int64)), .second] [(.long (3 : Int64)), (.long (4 : Int64))])) (fun t k => XS.lload X17.here hx rfl (hb hby at_157) rfl k) ?_
    refine step (T17.setTop (mkF m 160 #[.val (.int p0), .val (.ref b1), .val (.int (2 : Int32)), .val (.long (1 : Int64)), .second, .val (.int (1 : Int32)), .val (.long (3 : Int64)), .second, .val (.long (4 : Int64)), .second] [(.long (1 : Int64)), (.long (3 : Int64)), (.long (4 : Int64))])) (fun t k => XS.lconst X17.here hx rfl (hb hby at_159) k) ?_
    refine step (T17.setTop (mkF m 161 #[.val (.int p0), .val (.ref b1), .val (.int (2 : Int32)), .val (.long (1 : Int64)), .second, .val (.int (1 : Int32)), .val (.long (3 : Int64)), .second, .val (.long (4 : Int64)), .second] [(.long (4 : Int64)), (.long (4 : Int64))])) (fun t k => XS.ladd X17.here hx rfl (hb hby at_160) rfl k) ?_
    refine step (T17.setTop (mkF m 162 #[.val (.int p0), .val (.ref b1), .val (.int (2 : Int32)), .val (.long (1 : Int64)), .second, .val (.int (1 : Int32)), .val (.long (3 : Int64)), .second, .val (.long (4 : Int64)), .second] [(.int (lcmpW (4 : Int64) (4 : Int64)))])) (fun t k => XS.lcmp X17.here hx rfl (hb hby at_161) rfl k) ?_
    refine step (T17.setTop (mkF m 165 #[.val (.int p0), .val (.ref b1), .val (.int (2 : Int32)), .val (.long (1 : Int64)), .second, .val (.int (1 : Int32)), .val (.long (3 : Int64)), .second, .val (.long (4 : Int64)), .second] [])) (fun t k => XS.ifNo X17.here hx rfl (hb hby at_162) rfl ((if0 _ _).trans (teq ((lw_eq _ _).mpr (by decide : (4 : Int64) = (4 : Int64)))).2) k) ?_
    refine step (T17.setTop (mkF m 167 #[.val (.int p0), .val (.ref b1), .val (.int (2 : Int32)), .val (.long (1 : Int64)), .second, .val (.int (1 : Int32)), .val (.long (3 : Int64)), .second, .val (.long (4 : Int64)), .second] [(.long (4 : Int64))])) (fun t k => XS.lload X17.here hx rfl (hb hby at_165) rfl k) ?_
    refine step (T17.setTop (mkF m 168 #[.val (.int p0), .val (.ref b1), .val (.int (2 : Int32)), .val (.long (1 : Int64)), .second, .val (.int (1 : Int32)), .val (.long (3 : Int64)), .second, .val (.long (4 : Int64)), .second] [(.int (2 : Int32)), (.long (4 : Int64))])) (fun t k => XS.iloadN X17.here hx rfl (hb hby at_167) rfl k) ?_
    refine step (T17.setTop (mkF m 169 #[.val (.int p0), .val (.ref b1), .val (.int (2 : Int32)), .val (.long (1 : Int64)), .second, .val (.int (1 : Int32)), .val (.long (3 : Int64)), .second, .val (.long (4 : Int64)), .second] [(.int (2 : Int32)), (.int (2 : Int32)), (.long (4 : Int64))])) (fun t k => XS.iconst X17.here hx rfl (hb hby at_168) k) ?_
    refine step (T17.setTop (mkF m 170 #[.val (.int p0), .val (.ref b1), .val (.int (2 : Int32)), .val (.long (1 : Int64)), .second, .val (.int (1 : Int32)), .val (.long (3 : Int64)), .second, .val (.long (4 : Int64)), .second] [(.int (4 : Int32)), (.long (4 : Int64))])) (fun t k => XS.iadd X17.here hx rfl (hb hby at_169) rfl k) ?_
    refine step (T17.setTop (mkF m 171 #[.val (.int p0), .val (.ref b1), .val (.int (2 : Int32)), .val (.long (1 : Int64)), .second, .val (.int (1 : Int32)), .val (.long (3 : Int64)), .second, .val (.long (4 : Int64)), .second] [(.long (4 : Int64)), (.long (4 : Int64))])) (fun t k => XS.i2l X17.here hx rfl (hb hby at_170) rfl k) ?_
    refine step (T17.setTop (mkF m 172 #[.val (.int p0), .val (.ref b1), .val (.int (2 : Int32)), .val (.long (1 : Int64)), .second, .val (.int (1 : Int32)), .val (.long (3 : Int64)), .second, .val (.long (4 : Int64)), .second] [(.int (lcmpW (4 : Int64) (4 : Int64)))])) (fun t k => XS.lcmp X17.here hx rfl (hb hby at_171) rfl k) ?_
    refine step (T17.setTop (mkF m 175 #[.val (.int p0), .val (.ref b1), .val (.int (2 : Int32)), .val (.long (1 : Int64)), .second, .val (.int (1 : Int32)), .val (.long (3 : Int64)), .second, .val (.long (4 : Int64)), .second] [])) (fun t k => XS.ifNo X17.here hx rfl (hb hby at_172) rfl ((if0 _ _).trans (teq ((lw_eq _ _).mpr (by decide : (4 : Int64) = (4 : Int64)))).2) k) ?_
    refine step (T17.setTop (mkF m 176 #[.val (.int p0), .val (.ref b1), .val (.int (2 : Int32)), .val (.long (1 : Int64)), .second, .val (.int (1 : Int32)), .val (.long (3 : Int64)), .second, .val (.long (4 : Int64)), .second] [(.int (1 : Int32))])) (fun t k => XS.iconst X17.here hx rfl (hb hby at_175) k) ?_
    refine step (T17.setTop (mkF m 180 #[.val (.int p0), .val (.ref b1), .val (.int (2 : Int32)), .val (.long (1 : Int64)), .second, .val (.int (1 : Int32)), .val (.long (3 : Int64)), .second, .val (.long (4 : Int64)), .second] [(.int (1 : Int32))])) (fun t k => XS.goto X17.here hx rfl (pc0 := 176) (pc' := 180) rfl (hb hby at_176) (by decide) (by decide) k) ?_
    refine step (T17.setTop (mkF m 182 #[.val (.int p0), .val (.ref b1), .val (.int (2 : Int32)), .val (.long (1 : Int64)), .second, .val (.int (1 : Int32)), .val (.long (3 : Int64)), .second, .val (.long (4 : Int64)), .second] [])) (fun t k => XS.istore X17.here hx rfl (hb hby at_180) rfl (l' := #[.val (.int p0), .val (.ref b1), .val (.int (2 : Int32)), .val (.long (1 : Int64)), .second, .val (.int (1 : Int32)), .val (.long (3 : Int64)), .second, .val (.long (4 : Int64)), .second]) rfl k) ?_
    refine step (T17.setTop (mkF m 184 #[.val (.int p0), .val (.ref b1), .val (.int (2 : Int32)), .val (.long (1 : Int64)), .second, .val (.int (1 : Int32)), .val (.long (3 : Int64)), .second, .val (.long (4 : Int64)), .second] [(.int (1 : Int32))])) (fun t k => XS.iload X17.here hx rfl (hb hby at_182) rfl k) ?_
    refine fin (v := some (.int (nar .boolean (1 : Int32)))) X17 (fun h => by cases h) ?_ (by decide) (by decide) (fun fs hr => retN X17 hx (t := .boolean) hret (by simp) (hb hby at_184) hr)
    show Q0 Z p0 h0 n0 (some (.int (nar .boolean (1 : Int32)))) T17.heap _
    rw [e17]
    exact ⟨rfl, N17⟩
  · -- kk = 3
    show G (T2.setTop (mkF m 11 #[.val (.int p0), .val (.ref b1), .unset, .unset, .unset, .unset, .unset, .unset, .unset, .unset] [(.int (3 : Int32))]))
    refine step (T2.setTop (mkF m 12 #[.val (.int p0), .val (.ref b1), .val (.int (3 : Int32)), .unset, .unset, .unset, .unset, .unset, .unset, .unset] [])) (fun t k => XS.istoreN X2.here hx rfl (hb hby at_11) rfl (l' := #[.val (.int p0), .val (.ref b1), .val (.int (3 : Int32)), .unset, .unset, .unset, .unset, .unset, .unset, .unset]) rfl k) ?_
    refine step (T2.setTop (mkF m 13 #[.val (.int p0), .val (.ref b1), .val (.int (3 : Int32)), .unset, .unset, .unset, .unset, .unset, .unset, .unset] [(.ref b1)])) (fun t k => XS.aloadN X2.here hx rfl (hb hby at_12) rfl rfl k) ?_
    obtain ⟨cq18, kq18, q18a, q18b, q18c⟩ := isOf hZ e2q A1
    obtain ⟨_, _, ⟨T18, L18, k18, n18⟩, -, X18, ⟨Lc18, hQ18, l18, y18, z18⟩, st18⟩ := X2.virtualBack hx (y := (⟨"com/example/madac/madac/engine/RowKeys", "next", "()J"⟩ : MethodName)) (z := (⟨"com/example/madac/madac/engine/RowKeys", "next", "()J"⟩ : MethodName)) hown (mvT hZ (hw _ (List.mem_of_getElem? (i := 9) rfl))) (mvT hZ (hw _ (List.mem_of_getElem? (i := 10) rfl))) (notFace_of_selects (args := #[]) (mvT hZ (hw _ (List.mem_of_getElem? (i := 12) rfl)))) (mvT hZ (hw _ (List.mem_of_getElem? (i := 12) rfl))) (mvT hZ (hw _ (List.mem_of_getElem? (i := 11) rfl))) (by decide) (backOf (W := 0) (rm3_2 l Z a0 hw [] b1 h1 n0 (Nat.le_trans Z0 K1.1) A1 F_lastSerial_b1 gn_b1) hZ (hw _ (List.mem_of_getElem? (i := 13) rfl)) (hw _ (List.mem_of_getElem? (i := 2) rfl)) (by decide) (by decide)) q18a q18c (g := (mkF m 13 #[.val (.int p0), .val (.ref b1), .val (.int (3 : Int32)), .unset, .unset, .unset, .unset, .unset, .unset, .unset] [(.ref b1)])) rfl (by rw [hml]; rfl) (Steps.refl _) (argsL := []) (rest := []) (lenOf pd_1 rfl) rfl (by show 2 * 0 + _ ≤ _; exact Nat.le_of_eq rfl) (hb hby at_13) (fun _ _ => ⟨rfl, e2q, (by decide : 1 + 0 ≤ _), (by decide : 1 + 0 ≤ _)⟩)
    dsimp only [Pt.U, Pt.locs, Pt.cells, Pt.slots] at X18 l18 y18 z18 st18 hQ18
    subst l18 y18 z18
    obtain ⟨h18, e18⟩ : ∃ z, T18.heap = z := ⟨_, rfl⟩
    rw [e18] at hQ18
    obtain ⟨rfl, N18q, K18q, q0_18⟩ := hQ18
    have N18 := Fr.app N2 N18q
    have K18 : Keep h0 h18 [] := K1.trans K18q (allS (Or.inr sz_b1) all0)
    refine step (T18.setTop (mkF m 16 #[.val (.int p0), .val (.ref b1), .val (.int (3 : Int32)), .unset, .unset, .unset, .unset, .unset, .unset, .unset] [(.long (1 : Int64))])) (fun t k => st18.trans k) ?_
    refine step (T18.setTop (mkF m 17 #[.val (.int p0), .val (.ref b1), .val (.int (3 : Int32)), .val (.long (1 : Int64)), .second, .unset, .unset, .unset, .unset, .unset] [])) (fun t k => XS.lstoreN X18.here hx rfl (hb hby at_16) rfl (l' := #[.val (.int p0), .val (.ref b1), .val (.int (3 : Int32)), .val (.long (1 : Int64)), .second, .unset, .unset, .unset, .unset, .unset]) rfl k) ?_
    refine step (T18.setTop (mkF m 18 #[.val (.int p0), .val (.ref b1), .val (.int (3 : Int32)), .val (.long (1 : Int64)), .second, .unset, .unset, .unset, .unset, .unset] [(.long (1 : Int64))])) (fun t k => XS.lloadN X18.here hx rfl (hb hby at_17) rfl k) ?_
    refine step (T18.setTop (mkF m 19 #[.val (.int p0), .val (.ref b1), .val (.int (3 : Int32)), .val (.long (1 : Int64)), .second, .unset, .unset, .unset, .unset, .unset] [(.long (1 : Int64)), (.long (1 : Int64))])) (fun t k => XS.lconst X18.here hx rfl (hb hby at_18) k) ?_
    refine step (T18.setTop (mkF m 20 #[.val (.int p0), .val (.ref b1), .val (.int (3 : Int32)), .val (.long (1 : Int64)), .second, .unset, .unset, .unset, .unset, .unset] [(.int (lcmpW (1 : Int64) (1 : Int64)))])) (fun t k => XS.lcmp X18.here hx rfl (hb hby at_19) rfl k) ?_
    refine step (T18.setTop (mkF m 23 #[.val (.int p0), .val (.ref b1), .val (.int (3 : Int32)), .val (.long (1 : Int64)), .second, .unset, .unset, .unset, .unset, .unset] [])) (fun t k => XS.ifNo X18.here hx rfl (hb hby at_20) rfl ((if0 _ _).trans (teq ((lw_eq _ _).mpr (by decide : (1 : Int64) = (1 : Int64)))).2) k) ?_
    refine step (T18.setTop (mkF m 24 #[.val (.int p0), .val (.ref b1), .val (.int (3 : Int32)), .val (.long (1 : Int64)), .second, .unset, .unset, .unset, .unset, .unset] [(.int (1 : Int32))])) (fun t k => XS.iconst X18.here hx rfl (hb hby at_23) k) ?_
    refine step (T18.setTop (mkF m 28 #[.val (.int p0), .val (.ref b1), .val (.int (3 : Int32)), .val (.long (1 : Int64)), .second, .unset, .unset, .unset, .unset, .unset] [(.int (1 : Int32))])) (fun t k => XS.goto X18.here hx rfl (pc0 := 24) (pc' := 28) rfl (hb hby at_24) (by decide) (by decide) k) ?_
    refine step (T18.setTop (mkF m 30 #[.val (.int p0), .val (.ref b1), .val (.int (3 : Int32)), .val (.long (1 : Int64)), .second, .val (.int (1 : Int32)), .unset, .unset, .unset, .unset] [])) (fun t k => XS.istore X18.here hx rfl (hb hby at_28) rfl (l' := #[.val (.int p0), .val (.ref b1), .val (.int (3 : Int32)), .val (.long (1 : Int64)), .second, .val (.int (1 : Int32)), .unset, .unset, .unset, .unset]) rfl k) ?_
    refine step (T18.setTop (mkF m 31 #[.val (.int p0), .val (.ref b1), .val (.int (3 : Int32)), .val (.long (1 : Int64)), .second, .val (.int (1 : Int32)), .unset, .unset, .unset, .unset] [(.long (1 : Int64))])) (fun t k => XS.lloadN X18.here hx rfl (hb hby at_30) rfl k) ?_
    refine step (T18.setTop (mkF m 33 #[.val (.int p0), .val (.ref b1), .val (.int (3 : Int32)), .val (.long (1 : Int64)), .second, .val (.int (1 : Int32)), .val (.long (1 : Int64)), .second, .unset, .unset] [])) (fun t k => XS.lstore X18.here hx rfl (hb hby at_31) rfl (l' := #[.val (.int p0), .val (.ref b1), .val (.int (3 : Int32)), .val (.long (1 : Int64)), .second, .val (.int (1 : Int32)), .val (.long (1 : Int64)), .second, .unset, .unset]) rfl k) ?_
    refine step (T18.setTop (mkF m 34 #[.val (.int p0), .val (.ref b1), .val (.int (3 : Int32)), .val (.long (1 : Int64)), .second, .val (.int (1 : Int32)), .val (.long (1 : Int64)), .second, .unset, .unset] [(.int (3 : Int32))])) (fun t k => XS.iloadN X18.here hx rfl (hb hby at_33) rfl k) ?_
    refine step (T18.setTop (mkF m 35 #[.val (.int p0), .val (.ref b1), .val (.int (3 : Int32)), .val (.long (1 : Int64)), .second, .val (.int (1 : Int32)), .val (.long (1 : Int64)), .second, .unset, .unset] [(.int (1 : Int32)), (.int (3 : Int32))])) (fun t k => XS.iconst X18.here hx rfl (hb hby at_34) k) ?_
    refine step (T18.setTop (mkF m 38 #[.val (.int p0), .val (.ref b1), .val (.int (3 : Int32)), .val (.long (1 : Int64)), .second, .val (.int (1 : Int32)), .val (.long (1 : Int64)), .second, .unset, .unset] [])) (fun t k => XS.icmpNo X18.here hx rfl (hb hby at_35) rfl (flt (by decide : ¬ ((3 : Int32) < (1 : Int32)))).1 k) ?_
    refine step (T18.setTop (mkF m 39 #[.val (.int p0), .val (.ref b1), .val (.int (3 : Int32)), .val (.long (1 : Int64)), .second, .val (.int (1 : Int32)), .val (.long (1 : Int64)), .second, .unset, .unset] [(.ref b1)])) (fun t k => XS.aloadN X18.here hx rfl (hb hby at_38) rfl rfl k) ?_
    have f19 := (A1.keep K18q)
    obtain ⟨cq20, kq20, q20a, q20b, q20c⟩ := isOf hZ e18 f19
    obtain ⟨_, _, ⟨T20, L20, k20, n20⟩, -, X20, ⟨Lc20, hQ20, l20, y20, z20⟩, st20⟩ := X18.virtualBack hx (y := (⟨"com/example/madac/madac/engine/RowKeys", "next", "()J"⟩ : MethodName)) (z := (⟨"com/example/madac/madac/engine/RowKeys", "next", "()J"⟩ : MethodName)) hown (mvT hZ (hw _ (List.mem_of_getElem? (i := 9) rfl))) (mvT hZ (hw _ (List.mem_of_getElem? (i := 10) rfl))) (notFace_of_selects (args := #[]) (mvT hZ (hw _ (List.mem_of_getElem? (i := 12) rfl)))) (mvT hZ (hw _ (List.mem_of_getElem? (i := 12) rfl))) (mvT hZ (hw _ (List.mem_of_getElem? (i := 11) rfl))) (by decide) (backOf (W := 0) (rm3_3 l Z a0 hw [] b1 h18 n0 (Nat.le_trans Z0 K18.1) f19 q0_18 gn_b1) hZ (hw _ (List.mem_of_getElem? (i := 13) rfl)) (hw _ (List.mem_of_getElem? (i := 2) rfl)) (by decide) (by decide)) q20a q20c (g := (mkF m 39 #[.val (.int p0), .val (.ref b1), .val (.int (3 : Int32)), .val (.long (1 : Int64)), .second, .val (.int (1 : Int32)), .val (.long (1 : Int64)), .second, .unset, .unset] [(.ref b1)])) rfl (by rw [hml]; rfl) (Steps.refl _) (argsL := []) (rest := []) (lenOf pd_1 rfl) rfl (by show 2 * 0 + _ ≤ _; exact Nat.le_of_eq rfl) (hb hby at_39) (fun _ _ => ⟨rfl, e18, (by decide : 1 + 0 ≤ _), (by decide : 1 + 0 ≤ _)⟩)
    dsimp only [Pt.U, Pt.locs, Pt.cells, Pt.slots] at X20 l20 y20 z20 st20 hQ20
    subst l20 y20 z20
    obtain ⟨h20, e20⟩ : ∃ z, T20.heap = z := ⟨_, rfl⟩
    rw [e20] at hQ20
    obtain ⟨rfl, N20q, K20q, q0_20⟩ := hQ20
    have N20 := Fr.app N18 N20q
    have K20 : Keep h0 h20 [] := K18.trans K20q (allS (Or.inr sz_b1) all0)
    refine step (T20.setTop (mkF m 42 #[.val (.int p0), .val (.ref b1), .val (.int (3 : Int32)), .val (.long (1 : Int64)), .second, .val (.int (1 : Int32)), .val (.long (1 : Int64)), .second, .unset, .unset] [(.long (2 : Int64))])) (fun t k => st20.trans k) ?_
    refine step (T20.setTop (mkF m 44 #[.val (.int p0), .val (.ref b1), .val (.int (3 : Int32)), .val (.long (1 : Int64)), .second, .val (.int (1 : Int32)), .val (.long (1 : Int64)), .second, .val (.long (2 : Int64)), .second] [])) (fun t k => XS.lstore X20.here hx rfl (hb hby at_42) rfl (l' := #[.val (.int p0), .val (.ref b1), .val (.int (3 : Int32)), .val (.long (1 : Int64)), .second, .val (.int (1 : Int32)), .val (.long (1 : Int64)), .second, .val (.long (2 : Int64)), .second]) rfl k) ?_
    refine step (T20.setTop (mkF m 46 #[.val (.int p0), .val (.ref b1), .val (.int (3 : Int32)), .val (.long (1 : Int64)), .second, .val (.int (1 : Int32)), .val (.long (1 : Int64)), .second, .val (.long (2 : Int64)), .second] [(.int (1 : Int32))])) (fun t k => XS.iload X20.here hx rfl (hb hby at_44) rfl k) ?_
    refine step (T20.setTop (mkF m 49 #[.val (.int p0), .val (.ref b1), .val (.int (3 : Int32)), .val (.long (1 : Int64)), .second, .val (.int (1 : Int32)), .val (.long (1 : Int64)), .second, .val (.long (2 : Int64)), .second] [])) (fun t k => XS.ifNo X20.here hx rfl (hb hby at_46) rfl ((if0 _ _).trans (feq (by decide : ¬ ((1 : Int32) = (0 : Int32)))).1) k) ?_
    refine step (T20.setTop (mkF m 51 #[.val (.int p0), .val (.ref b1), .val (.int (3 : Int32)), .val (.long (1 : Int64)), .second, .val (.int (1 : Int32)), .val (.long (1 : Int64)), .second, .val (.long (2 : Int64)), .second] [(.long (2 : Int64))])) (fun t k => XS.lload X20.here hx rfl (hb hby at_49) rfl k) ?_
    refine step (T20.setTop (mkF m 53 #[.val (.int p0), .val (.ref b1), .val (.int (3 : Int32)), .val (.long (1 : Int64)), .second, .val (.int (1 : Int32)), .val (.long (1 : Int64)), .second, .val (.long (2 : Int64)), .second] [(.long (1 : Int64)), (.long (2 : Int64))])) (fun t k => XS.lload X20.here hx rfl (hb hby at_51) rfl k) ?_
    refine step (T20.setTop (mkF m 54 #[.val (.int p0), .val (.ref b1), .val (.int (3 : Int32)), .val (.long (1 : Int64)), .second, .val (.int (1 : Int32)), .val (.long (1 : Int64)), .second, .val (.long (2 : Int64)), .second] [(.long (1 : Int64)), (.long (1 : Int64)), (.long (2 : Int64))])) (fun t k => XS.lconst X20.here hx rfl (hb hby at_53) k) ?_
    refine step (T20.setTop (mkF m 55 #[.val (.int p0), .val (.ref b1), .val (.int (3 : Int32)), .val (.long (1 : Int64)), .second, .val (.int (1 : Int32)), .val (.long (1 : Int64)), .second, .val (.long (2 : Int64)), .second] [(.long (2 : Int64)), (.long (2 : Int64))])) (fun t k => XS.ladd X20.here hx rfl (hb hby at_54) rfl k) ?_
    refine step (T20.setTop (mkF m 56 #[.val (.int p0), .val (.ref b1), .val (.int (3 : Int32)), .val (.long (1 : Int64)), .second, .val (.int (1 : Int32)), .val (.long (1 : Int64)), .second, .val (.long (2 : Int64)), .second] [(.int (lcmpW (2 : Int64) (2 : Int64)))])) (fun t k => XS.lcmp X20.here hx rfl (hb hby at_55) rfl k) ?_
    refine step (T20.setTop (mkF m 59 #[.val (.int p0), .val (.ref b1), .val (.int (3 : Int32)), .val (.long (1 : Int64)), .second, .val (.int (1 : Int32)), .val (.long (1 : Int64)), .second, .val (.long (2 : Int64)), .second] [])) (fun t k => XS.ifNo X20.here hx rfl (hb hby at_56) rfl ((if0 _ _).trans (teq ((lw_eq _ _).mpr (by decide : (2 : Int64) = (2 : Int64)))).2) k) ?_
    refine step (T20.setTop (mkF m 60 #[.val (.int p0), .val (.ref b1), .val (.int (3 : Int32)), .val (.long (1 : Int64)), .second, .val (.int (1 : Int32)), .val (.long (1 : Int64)), .second, .val (.long (2 : Int64)), .second] [(.int (1 : Int32))])) (fun t k => XS.iconst X20.here hx rfl (hb hby at_59) k) ?_
    refine step (T20.setTop (mkF m 64 #[.val (.int p0), .val (.ref b1), .val (.int (3 : Int32)), .val (.long (1 : Int64)), .second, .val (.int (1 : Int32)), .val (.long (1 : Int64)), .second, .val (.long (2 : Int64)), .second] [(.int (1 : Int32))])) (fun t k => XS.goto X20.here hx rfl (pc0 := 60) (pc' := 64) rfl (hb hby at_60) (by decide) (by decide) k) ?_
    refine step (T20.setTop (mkF m 66 #[.val (.int p0), .val (.ref b1), .val (.int (3 : Int32)), .val (.long (1 : Int64)), .second, .val (.int (1 : Int32)), .val (.long (1 : Int64)), .second, .val (.long (2 : Int64)), .second] [])) (fun t k => XS.istore X20.here hx rfl (hb hby at_64) rfl (l' := #[.val (.int p0), .val (.ref b1), .val (.int (3 : Int32)), .val (.long (1 : Int64)), .second, .val (.int (1 : Int32)), .val (.long (1 : Int64)), .second, .val (.long (2 : Int64)), .second]) rfl k) ?_
    refine step (T20.setTop (mkF m 68 #[.val (.int p0), .val (.ref b1), .val (.int (3 : Int32)), .val (.long (1 : Int64)), .second, .val (.int (1 : Int32)), .val (.long (1 : Int64)), .second, .val (.long (2 : Int64)), .second] [(.long (2 : Int64))])) (fun t k => XS.lload X20.here hx rfl (hb hby at_66) rfl k) ?_
    refine step (T20.setTop (mkF m 70 #[.val (.int p0), .val (.ref b1), .val (.int (3 : Int32)), .val (.long (1 : Int64)), .second, .val (.int (1 : Int32)), .val (.long (2 : Int64)), .second, .val (.long (2 : Int64)), .second] [])) (fun t k => XS.lstore X20.here hx rfl (hb hby at_68) rfl (l' := #[.val (.int p0), .val (.ref b1), .val (.int (3 : Int32)), .val (.long (1 : Int64)), .second, .val (.int (1 : Int32)), .val (.long (2 : Int64)), .second, .val (.long (2 : Int64)), .second]) rfl k) ?_
    refine step (T20.setTop (mkF m 71 #[.val (.int p0), .val (.ref b1), .val (.int (3 : Int32)), .val (.long (1 : Int64)), .second, .val (.int (1 : Int32)), .val (.long (2 : Int64)), .second, .val (.long (2 : Int64)), .second] [(.int (3 : Int32))])) (fun t k => XS.iloadN X20.here hx rfl (hb hby at_70) rfl k) ?_
    refine step (T20.setTop (mkF m 72 #[.val (.int p0), .val (.ref b1), .val (.int (3 : Int32)), .val (.long (1 : Int64)), .second, .val (.int (1 : Int32)), .val (.long (2 : Int64)), .second, .val (.long (2 : Int64)), .second] [(.int (2 : Int32)), (.int (3 : Int32))])) (fun t k => XS.iconst X20.here hx rfl (hb hby at_71) k) ?_
    refine step (T20.setTop (mkF m 75 #[.val (.int p0), .val (.ref b1), .val (.int (3 : Int32)), .val (.long (1 : Int64)), .second, .val (.int (1 : Int32)), .val (.long (2 : Int64)), .second, .val (.long (2 : Int64)), .second] [])) (fun t k => XS.icmpNo X20.here hx rfl (hb hby at_72) rfl (flt (by decide : ¬ ((3 : Int32) < (2 : Int32)))).1 k) ?_
    refine step (T20.setTop (mkF m 76 #[.val (.int p0), .val (.ref b1), .val (.int (3 : Int32)), .val (.long (1 : Int64)), .second, .val (.int (1 : Int32)), .val (.long (2 : Int64)), .second, .val (.long (2 : Int64)), .second] [(.ref b1)])) (fun t k => XS.aloadN X20.here hx rfl (hb hby at_75) rfl rfl k) ?_
    have f21 := (f19.keep K20q)
    obtain ⟨cq22, kq22, q22a, q22b, q22c⟩ := isOf hZ e20 f21
    obtain ⟨_, _, ⟨T22, L22, k22, n22⟩, -, X22, ⟨Lc22, hQ22, l22, y22, z22⟩, st22⟩ := X20.virtualBack hx (y := (⟨"com/example/madac/madac/engine/RowKeys", "next", "()J"⟩ : MethodName)) (z := (⟨"com/example/madac/madac/engine/RowKeys", "next", "()J"⟩ : MethodName)) hown (mvT hZ (hw _ (List.mem_of_getElem? (i := 9) rfl))) (mvT hZ (hw _ (List.mem_of_getElem? (i := 10) rfl))) (notFace_of_selects (args := #[]) (mvT hZ (hw _ (List.mem_of_getElem? (i := 12) rfl)))) (mvT hZ (hw _ (List.mem_of_getElem? (i := 12) rfl))) (mvT hZ (hw _ (List.mem_of_getElem? (i := 11) rfl))) (by decide) (backOf (W := 0) (rm3_4 l Z a0 hw [] b1 h20 n0 (Nat.le_trans Z0 K20.1) f21 q0_20 gn_b1) hZ (hw _ (List.mem_of_getElem? (i := 13) rfl)) (hw _ (List.mem_of_getElem? (i := 2) rfl)) (by decide) (by decide)) q22a q22c (g := (mkF m 76 #[.val (.int p0), .val (.ref b1), .val (.int (3 : Int32)), .val (.long (1 : Int64)), .second, .val (.int (1 : Int32)), .val (.long (2 : Int64)), .second, .val (.long (2 : Int64)), .second] [(.ref b1)])) rfl (by rw [hml]; rfl) (Steps.refl _) (argsL := []) (rest := []) (lenOf pd_1 rfl) rfl (by show 2 * 0 + _ ≤ _; exact Nat.le_of_eq rfl) (hb hby at_76) (fun _ _ => ⟨rfl, e20, (by decide : 1 + 0 ≤ _), (by decide : 1 + 0 ≤ _)⟩)
    dsimp only [Pt.U, Pt.locs, Pt.cells, Pt.slots] at X22 l22 y22 z22 st22 hQ22
    subst l22 y22 z22
    obtain ⟨h22, e22⟩ : ∃ z, T22.heap = z := ⟨_, rfl⟩
    rw [e22] at hQ22
    obtain ⟨rfl, N22q, K22q, q0_22⟩ := hQ22
    have N22 := Fr.app N20 N22q
    have K22 : Keep h0 h22 [] := K20.trans K22q (allS (Or.inr sz_b1) all0)
    refine step (T22.setTop (mkF m 79 #[.val (.int p0), .val (.ref b1), .val (.int (3 : Int32)), .val (.long (1 : Int64)), .second, .val (.int (1 : Int32)), .val (.long (2 : Int64)), .second, .val (.long (2 : Int64)), .second] [(.long (3 : Int64))])) (fun t k => st22.trans k) ?_
    refine step (T22.setTop (mkF m 81 #[.val (.int p0), .val (.ref b1), .val (.int (3 : Int32)), .val (.long (1 : Int64)), .second, .val (.int (1 : Int32)), .val (.long (2 : Int64)), .second, .val (.long (3 : Int64)), .second] [])) (fun t k => XS.lstore X22.here hx rfl (hb hby at_79) rfl (l' := #[.val (.int p0), .val (.ref b1), .val (.int (3 : Int32)), .val (.long (1 : Int64)), .second, .val (.int (1 : Int32)), .val (.long (2 : Int64)), .second, .val (.long (3 : Int64)), .second]) rfl k) ?_
    refine step (T22.setTop (mkF m 83 #[.val (.int p0), .val (.ref b1), .val (.int (3 : Int32)), .val (.long (1 : Int64)), .second, .val (.int (1 : Int32)), .val (.long (2 : Int64)), .second, .val (.long (3 : Int64)), .second] [(.int (1 : Int32))])) (fun t k => XS.iload X22.here hx rfl (hb hby at_81) rfl k) ?_
    refine step (T22.setTop (mkF m 86 #[.val (.int p0), .val (.ref b1), .val (.int (3 : Int32)), .val (.long (1 : Int64)), .second, .val (.int (1 : Int32)), .val (.long (2 : Int64)), .second, .val (.long (3 : Int64)), .second] [])) (fun t k => XS.ifNo X22.here hx rfl (hb hby at_83) rfl ((if0 _ _).trans (feq (by decide : ¬ ((1 : Int32) = (0 : Int32)))).1) k) ?_
    refine step (T22.setTop (mkF m 88 #[.val (.int p0), .val (.ref b1), .val (.int (3 : Int32)), .val (.long (1 : Int64)), .second, .val (.int (1 : Int32)), .val (.long (2 : Int64)), .second, .val (.long (3 : Int64)), .second] [(.long (3 : Int64))])) (fun t k => XS.lload X22.here hx rfl (hb hby at_86) rfl k) ?_
    refine step (T22.setTop (mkF m 90 #[.val (.int p0), .val (.ref b1), .val (.int (3 : Int32)), .val (.long (1 : Int64)), .second, .val (.int (1 : Int32)), .val (.long (2 : Int64)), .second, .val (.long (3 : Int64)), .second] [(.long (2 : Int64)), (.long (3 : Int64))])) (fun t k => XS.lload X22.here hx rfl (hb hby at_88) rfl k) ?_
    refine step (T22.setTop (mkF m 91 #[.val (.int p0), .val (.ref b1), .val (.int (3 : Int32)), .val (.long (1 : Int64)), .second, .val (.int (1 : Int32)), .val (.long (2 : Int64)), .second, .val (.long (3 : Int64)), .second] [(.long (1 : Int64)), (.long (2 : Int64)), (.long (3 : Int64))])) (fun t k => XS.lconst X22.here hx rfl (hb hby at_90) k) ?_
    refine step (T22.setTop (mkF m 92 #[.val (.int p0), .val (.ref b1), .val (.int (3 : Int32)), .val (.long (1 : Int64)), .second, .val (.int (1 : Int32)), .val (.long (2 : Int64)), .second, .val (.long (3 : Int64)), .second] [(.long (3 : Int64)), (.long (3 : Int64))])) (fun t k => XS.ladd X22.here hx rfl (hb hby at_91) rfl k) ?_
    refine step (T22.setTop (mkF m 93 #[.val (.int p0), .val (.ref b1), .val (.int (3 : Int32)), .val (.long (1 : Int64)), .second, .val (.int (1 : Int32)), .val (.long (2 : Int64)), .second, .val (.long (3 : Int64)), .second] [(.int (lcmpW (3 : Int64) (3 : Int64)))])) (fun t k => XS.lcmp X22.here hx rfl (hb hby at_92) rfl k) ?_
    refine step (T22.setTop (mkF m 96 #[.val (.int p0), .val (.ref b1), .val (.int (3 : Int32)), .val (.long (1 : Int64)), .second, .val (.int (1 : Int32)), .val (.long (2 : Int64)), .second, .val (.long (3 : Int64)), .second] [])) (fun t k => XS.ifNo X22.here hx rfl (hb hby at_93) rfl ((if0 _ _).trans (teq ((lw_eq _ _).mpr (by decide : (3 : Int64) = (3 : Int64)))).2) k) ?_
    refine step (T22.setTop (mkF m 97 #[.val (.int p0), .val (.ref b1), .val (.int (3 : Int32)), .val (.long (1 : Int64)), .second, .val (.int (1 : Int32)), .val (.long (2 : Int64)), .second, .val (.long (3 : Int64)), .second] [(.int (1 : Int32))])) (fun t k => XS.iconst X22.here hx rfl (hb hby at_96) k) ?_
    refine step (T22.setTop (mkF m 101 #[.val (.int p0), .val (.ref b1), .val (.int (3 : Int32)), .val (.long (1 : Int64)), .second, .val (.int (1 : Int32)), .val (.long (2 : Int64)), .second, .val (.long (3 : Int64)), .second] [(.int (1 : Int32))])) (fun t k => XS.goto X22.here hx rfl (pc0 := 97) (pc' := 101) rfl (hb hby at_97) (by decide) (by decide) k) ?_
    refine step (T22.setTop (mkF m 103 #[.val (.int p0), .val (.ref b1), .val (.int (3 : Int32)), .val (.long (1 : Int64)), .second, .val (.int (1 : Int32)), .val (.long (2 : Int64)), .second, .val (.long (3 : Int64)), .second] [])) (fun t k => XS.istore X22.here hx rfl (hb hby at_101) rfl (l' := #[.val (.int p0), .val (.ref b1), .val (.int (3 : Int32)), .val (.long (1 : Int64)), .second, .val (.int (1 : Int32)), .val (.long (2 : Int64)), .second, .val (.long (3 : Int64)), .second]) rfl k) ?_
    refine step (T22.setTop (mkF m 105 #[.val (.int p0), .val (.ref b1), .val (.int (3 : Int32)), .val (.long (1 : Int64)), .second, .val (.int (1 : Int32)), .val (.long (2 : Int64)), .second, .val (.long (3 : Int64)), .second] [(.long (3 : Int64))])) (fun t k => XS.lload X22.here hx rfl (hb hby at_103) rfl k) ?_
    refine step (T22.setTop (mkF m 107 #[.val (.int p0), .val (.ref b1), .val (.int (3 : Int32)), .val (.long (1 : Int64)), .second, .val (.int (1 : Int32)), .val (.long (3 : Int64)), .second, .val (.long (3 : Int64)), .second] [])) (fun t k => XS.lstore X22.here hx rfl (hb hby at_105) rfl (l' := #[.val (.int p0), .val (.ref b1), .val (.int (3 : Int32)), .val (.long (1 : Int64)), .second, .val (.int (1 : Int32)), .val (.long (3 : Int64)), .second, .val (.long (3 : Int64)), .second]) rfl k) ?_
    refine step (T22.setTop (mkF m 108 #[.val (.int p0), .val (.ref b1), .val (.int (3 : Int32)), .val (.long (1 : Int64)), .second, .val (.int (1 : Int32)), .val (.long (3 : Int64)), .second, .val (.long (3 : Int64)), .second] [(.int (3 : Int32))])) (fun t k => XS.iloadN X22.here hx rfl (hb hby at_107) rfl k) ?_
    refine step (T22.setTop (mkF m 109 #[.val (.int p0), .val (.ref b1), .val (.int (3 : Int32)), .val (.long (1 : Int64)), .second, .val (.int (1 : Int32)), .val (.long (3 : Int64)), .second, .val (.long (3 : Int64)), .second] [(.int (3 : Int32)), (.int (3 : Int32))])) (fun t k => XS.iconst X22.here hx rfl (hb hby at_108) k) ?_
    refine step (T22.setTop (mkF m 112 #[.val (.int p0), .val (.ref b1), .val (.int (3 : Int32)), .val (.long (1 : Int64)), .second, .val (.int (1 : Int32)), .val (.long (3 : Int64)), .second, .val (.long (3 : Int64)), .second] [])) (fun t k => XS.icmpNo X22.here hx rfl (hb hby at_109) rfl (flt (by decide : ¬ ((3 : Int32) < (3 : Int32)))).1 k) ?_
    refine step (T22.setTop (mkF m 113 #[.val (.int p0), .val (.ref b1), .val (.int (3 : Int32)), .val (.long (1 : Int64)), .second, .val (.int (1 : Int32)), .val (.long (3 : Int64)), .second, .val (.long (3 : Int64)), .second] [(.ref b1)])) (fun t k => XS.aloadN X22.here hx rfl (hb hby at_112) rfl rfl k) ?_
    have f23 := (f21.keep K22q)
    obtain ⟨cq24, kq24, q24a, q24b, q24c⟩ := isOf hZ e22 f23
    obtain ⟨_, _, ⟨T24, L24, k24, n24⟩, -, X24, ⟨Lc24, hQ24, l24, y24, z24⟩, st24⟩ := X22.virtualBack hx (y := (⟨"com/example/madac/madac/engine/RowKeys", "next", "()J"⟩ : MethodName)) (z := (⟨"com/example/madac/madac/engine/RowKeys", "next", "()J"⟩ : MethodName)) hown (mvT hZ (hw _ (List.mem_of_getElem? (i := 9) rfl))) (mvT hZ (hw _ (List.mem_of_getElem? (i := 10) rfl))) (notFace_of_selects (args := #[]) (mvT hZ (hw _ (List.mem_of_getElem? (i := 12) rfl)))) (mvT hZ (hw _ (List.mem_of_getElem? (i := 12) rfl))) (mvT hZ (hw _ (List.mem_of_getElem? (i := 11) rfl))) (by decide) (backOf (W := 0) (rm3_5 l Z a0 hw [] b1 h22 n0 (Nat.le_trans Z0 K22.1) f23 q0_22 gn_b1) hZ (hw _ (List.mem_of_getElem? (i := 13) rfl)) (hw _ (List.mem_of_getElem? (i := 2) rfl)) (by decide) (by decide)) q24a q24c (g := (mkF m 113 #[.val (.int p0), .val (.ref b1), .val (.int (3 : Int32)), .val (.long (1 : Int64)), .second, .val (.int (1 : Int32)), .val (.long (3 : Int64)), .second, .val (.long (3 : Int64)), .second] [(.ref b1)])) rfl (by rw [hml]; rfl) (Steps.refl _) (argsL := []) (rest := []) (lenOf pd_1 rfl) rfl (by show 2 * 0 + _ ≤ _; exact Nat.le_of_eq rfl) (hb hby at_113) (fun _ _ => ⟨rfl, e22, (by decide : 1 + 0 ≤ _), (by decide : 1 + 0 ≤ _)⟩)
    dsimp only [Pt.U, Pt.locs, Pt.cells, Pt.slots] at X24 l24 y24 z24 st24 hQ24
    subst l24 y24 z24
    obtain ⟨h24, e24⟩ : ∃ z, T24.heap = z := ⟨_, rfl⟩
    rw [e24] at hQ24
    obtain ⟨rfl, N24q, K24q, q0_24⟩ := hQ24
    have N24 := Fr.app N22 N24q
    have K24 : Keep h0 h24 [] := K22.trans K24q (allS (Or.inr sz_b1) all0)
    refine step (T24.setTop (mkF m 116 #[.val (.int p0), .val (.ref b1), .val (.int (3 : Int32)), .val (.long (1 : Int64)), .second, .val (.int (1 : Int32)), .val (.long (3 : Int64)), .second, .val (.long (3 : Int64)), .second] [(.long (4 : Int64))])) (fun t k => st24.trans k) ?_
    refine step (T24.setTop (mkF m 118 #[.val (.int p0), .val (.ref b1), .val (.int (3 : Int32)), .val (.long (1 : Int64)), .second, .val (.int (1 : Int32)), .val (.long (3 : Int64)), .second, .val (.long (4 : Int64)), .second] [])) (fun t k => XS.lstore X24.here hx rfl (hb hby at_116) rfl (l' := #[.val (.int p0), .val (.ref b1), .val (.int (3 : Int32)), .val (.long (1 : Int64)), .second, .val (.int (1 : Int32)), .val (.long (3 : Int64)), .second, .val (.long (4 : Int64)), .second]) rfl k) ?_
    refine step (T24.setTop (mkF m 120 #[.val (.int p0), .val (.ref b1), .val (.int (3 : Int32)), .val (.long (1 : Int64)), .second, .val (.int (1 : Int32)), .val (.long (3 : Int64)), .second, .val (.long (4 : Int64)), .second] [(.int (1 : Int32))])) (fun t k => XS.iload X24.here hx rfl (hb hby at_118) rfl k) ?_
    refine step (T24.setTop (mkF m 123 #[.val (.int p0), .val (.ref b1), .val (.int (3 : Int32)), .val (.long (1 : Int64)), .second, .val (.int (1 : Int32)), .val (.long (3 : Int64)), .second, .val (.long (4 : Int64)), .second] [])) (fun t k => XS.ifNo X24.here hx rfl (hb hby at_120) rfl ((if0 _ _).trans (feq (by decide : ¬ ((1 : Int32) = (0 : Int32)))).1) k) ?_
    refine step (T24.setTop (mkF m 125 #[.val (.int p0), .val (.ref b1), .val (.int (3 : Int32)), .val (.long (1 : Int64)), .second, .val (.int (1 : Int32)), .val (.long (3 : Int64)), .second, .val (.long (4 : Int64)), .second] [(.long (4 : Int64))])) (fun t k => XS.lload X24.here hx rfl (hb hby at_123) rfl k) ?_
    refine step (T24.setTop (mkF m 127 #[.val (.int p0), .val (.ref b1), .val (.int (3 : Int32)), .val (.long (1 : Int64)), .second, .val (.int (1 : Int32)), .val (.long (3 : Int64)), .second, .val (.long (4 : Int64)), .second] [(.long (3 : Int64)), (.long (4 : Int64))])) (fun t k => XS.lload X24.here hx rfl (hb hby at_125) rfl k) ?_
    refine step (T24.setTop (mkF m 128 #[.val (.int p0), .val (.ref b1), .val (.int (3 : Int32)), .val (.long (1 : Int64)), .second, .val (.int (1 : Int32)), .val (.long (3 : Int64)), .second, .val (.long (4 : Int64)), .second] [(.long (1 : Int64)), (.long (3 : Int64)), (.long (4 : Int64))])) (fun t k => XS.lconst X24.here hx rfl (hb hby at_127) k) ?_
    refine step (T24.setTop (mkF m 129 #[.val (.int p0), .val (.ref b1), .val (.int (3 : Int32)), .val (.long (1 : Int64)), .second, .val (.int (1 : Int32)), .val (.long (3 : Int64)), .second, .val (.long (4 : Int64)), .second] [(.long (4 : Int64)), (.long (4 : Int64))])) (fun t k => XS.ladd X24.here hx rfl (hb hby at_128) rfl k) ?_
    refine step (T24.setTop (mkF m 130 #[.val (.int p0), .val (.ref b1), .val (.int (3 : Int32)), .val (.long (1 : Int64)), .second, .val (.int (1 : Int32)), .val (.long (3 : Int64)), .second, .val (.long (4 : Int64)), .second] [(.int (lcmpW (4 : Int64) (4 : Int64)))])) (fun t k => XS.lcmp X24.here hx rfl (hb hby at_129) rfl k) ?_
    refine step (T24.setTop (mkF m 133 #[.val (.int p0), .val (.ref b1), .val (.int (3 : Int32)), .val (.long (1 : Int64)), .second, .val (.int (1 : Int32)), .val (.long (3 : Int64)), .second, .val (.long (4 : Int64)), .second] [])) (fun t k => XS.ifNo X24.here hx rfl (hb hby at_130) rfl ((if0 _ _).trans (teq ((lw_eq _ _).mpr (by decide : (4 : Int64) = (4 : Int64)))).2) k) ?_
    refine step (T24.setTop (mkF m 134 #[.val (.int p0), .val (.ref b1), .val (.int (3 : Int32)), .val (.long (1 : Int64)), .second, .val (.int (1 : Int32)), .val (.long (3 : Int64)), .second, .val (.long (4 : Int64)), .second] [(.int (1 : Int32))])) (fun t k => XS.iconst X24.here hx rfl (hb hby at_133) k) ?_
    refine step (T24.setTop (mkF m 138 #[.val (.int p0), .val (.ref b1), .val (.int (3 : Int32)), .val (.long (1 : Int64)), .second, .val (.int (1 : Int32)), .val (.long (3 : Int64)), .second, .val (.long (4 : Int64)), .second] [(.int (1 : Int32))])) (fun t k => XS.goto X24.here hx rfl (pc0 := 134) (pc' := 138) rfl (hb hby at_134) (by decide) (by decide) k) ?_
    refine step (T24.setTop (mkF m 140 #[.val (.int p0), .val (.ref b1), .val (.int (3 : Int32)), .val (.long (1 : Int64)), .second, .val (.int (1 : Int32)), .val (.long (3 : Int64)), .second, .val (.long (4 : Int64)), .second] [])) (fun t k => XS.istore X24.here hx rfl (hb hby at_138) rfl (l' := #[.val (.int p0), .val (.ref b1), .val (.int (3 : Int32)), .val (.long (1 : Int64)), .second, .val (.int (1 : Int32)), .val (.long (3 : Int64)), .second, .val (.long (4 : Int64)), .second]) rfl k) ?_
    refine step (T24.setTop (mkF m 142 #[.val (.int p0), .val (.ref b1), .val (.int (3 : Int32)), .val (.long (1 : Int64)), .second, .val (.int (1 : Int32)), .val (.long (3 : Int64)), .second, .val (.long (4 : Int64)), .second] [(.long (4 : Int64))])) (fun t k => XS.lload X24.here hx rfl (hb hby at_140) rfl k) ?_
    refine step (T24.setTop (mkF m 144 #[.val (.int p0), .val (.ref b1), .val (.int (3 : Int32)), .val (.long (1 : Int64)), .second, .val (.int (1 : Int32)), .val (.long (4 : Int64)), .second, .val (.long (4 : Int64)), .second] [])) (fun t k => XS.lstore X24.here hx rfl (hb hby at_142) rfl (l' := #[.val (.int p0), .val (.ref b1), .val (.int (3 : Int32)), .val (.long (1 : Int64)), .second, .val (.int (1 : Int32)), .val (.long (4 : Int64)), .second, .val (.long (4 : Int64)), .second]) rfl k) ?_
    refine step (T24.setTop (mkF m 145 #[.val (.int p0), .val (.ref b1), .val (.int (3 : Int32)), .val (.long (1 : Int64)), .second, .val (.int (1 : Int32)), .val (.long (4 : Int64)), .second, .val (.long (4 : Int64)), .second] [(.ref b1)])) (fun t k => XS.aloadN X24.here hx rfl (hb hby at_144) rfl rfl k) ?_
    have f25 := (f23.keep K24q)
    obtain ⟨cq26, kq26, q26a, q26b, q26c⟩ := isOf hZ e24 f25
    obtain ⟨_, _, ⟨T26, L26, k26, n26⟩, -, X26, ⟨Lc26, hQ26, l26, y26, z26⟩, st26⟩ := X24.virtualBack hx (y := (⟨"com/example/madac/madac/engine/RowKeys", "next", "()J"⟩ : MethodName)) (z := (⟨"com/example/madac/madac/engine/RowKeys", "next", "()J"⟩ : MethodName)) hown (mvT hZ (hw _ (List.mem_of_getElem? (i := 9) rfl))) (mvT hZ (hw _ (List.mem_of_getElem? (i := 10) rfl))) (notFace_of_selects (args := #[]) (mvT hZ (hw _ (List.mem_of_getElem? (i := 12) rfl)))) (mvT hZ (hw _ (List.mem_of_getElem? (i := 12) rfl))) (mvT hZ (hw _ (List.mem_of_getElem? (i := 11) rfl))) (by decide) (backOf (W := 0) (rm3_6 l Z a0 hw [] b1 h24 n0 (Nat.le_trans Z0 K24.1) f25 q0_24 gn_b1) hZ (hw _ (List.mem_of_getElem? (i := 13) rfl)) (hw _ (List.mem_of_getElem? (i := 2) rfl)) (by decide) (by decide)) q26a q26c (g := (mkF m 145 #[.val (.int p0), .val (.ref b1), .val (.int (3 : Int32)), .val (.long (1 : Int64)), .second, .val (.int (1 : Int32)), .val (.long (4 : Int64)), .second, .val (.long (4 : Int64)), .second] [(.ref b1)])) rfl (by rw [hml]; rfl) (Steps.refl _) (argsL := []) (rest := []) (lenOf pd_1 rfl) rfl (by show 2 * 0 + _ ≤ _; exact Nat.le_of_eq rfl) (hb hby at_145) (fun _ _ => ⟨rfl, e24, (by decide : 1 + 0 ≤ _), (by decide : 1 + 0 ≤ _)⟩)
    dsimp only [Pt.U, Pt.locs, Pt.cells, Pt.slots] at X26 l26 y26 z26 st26 hQ26
    subst l26 y26 z26
    obtain ⟨h26, e26⟩ : ∃ z, T26.heap = z := ⟨_, rfl⟩
    rw [e26] at hQ26
    obtain ⟨rfl, N26q, K26q, q0_26⟩ := hQ26
    have N26 := Fr.app N24 N26q
    have K26 : Keep h0 h26 [] := K24.trans K26q (allS (Or.inr sz_b1) all0)
    refine step (T26.setTop (mkF m 148 #[.val (.int p0), .val (.ref b1), .val (.int (3 : Int32)), .val (.long (1 : Int64)), .second, .val (.int (1 : Int32)), .val (.long (4 : Int64)), .second, .val (.long (4 : Int64)), .second] [(.long (5 : Int64))])) (fun t k => st26.trans k) ?_
    refine step (T26.setTop (mkF m 150 #[.val (.int p0), .val (.ref b1), .val (.int (3 : Int32)), .val (.long (1 : Int64)), .second, .val (.int (1 : Int32)), .val (.long (4 : Int64)), .second, .val (.long (5 : Int64)), .second] [])) (fun t k => XS.lstore X26.here hx rfl (hb hby at_148) rfl (l' := #[.val (.int p0), .val (.ref b1), .val (.int (3 : Int32)), .val (.long (1 : Int64)), .second, .val (.int (1 : Int32)), .val (.long (4 : Int64)), .second, .val (.long (5 : Int64)), .second]) rfl k) ?_
    refine step (T26.setTop (mkF m 152 #[.val (.int p0), .val (.ref b1), .val (.int (3 : Int32)), .val (.long (1 : Int64)), .second, .val (.int (1 : Int32)), .val (.long (4 : Int64)), .second, .val (.long (5 : Int64)), .second] [(.int (1 : Int32))])) (fun t k => XS.iload X26.here hx rfl (hb hby at_150) rfl k) ?_
    refine step (T26.setTop (mkF m 155 #[.val (.int p0), .val (.ref b1), .val (.int (3 : Int32)), .val (.long (1 : Int64)), .second, .val (.int (1 : Int32)), .val (.long (4 : Int64)), .second, .val (.long (5 : Int64)), .second] [])) (fun t k => XS.ifNo X26.here hx rfl (hb hby at_152) rfl ((if0 _ _).trans (feq (by decide : ¬ ((1 : Int32) = (0 : Int32)))).1) k) ?_
    refine step (T26.setTop (mkF m 157 #[.val (.int p0), .val (.ref b1), .val (.int (3 : Int32)), .val (.long (1 : Int64)), .second, .val (.int (1 : Int32)), .val (.long (4 : Int64)), .second, .val (.long (5 : Int64)), .second] [(.long (5 : Int64))])) (fun t k => XS.lload X26.here hx rfl (hb hby at_155) rfl k) ?_
    refine step (T26.setTop (mkF m 159 #[.val (.int p0), .val (.ref b1), .val (.int (3 : Int32)), .val (.long (1 : Int64)), .second, .val (.int (1 : Int32)), .val (.long (4 : Int64)), .second, .val (.long (5 : Int64)), .second] [(.long (4 : Int64)), (.long (5 : Int64))])) (fun t k => XS.lload X26.here hx rfl (hb hby at_157) rfl k) ?_
    refine step (T26.setTop (mkF m 160 #[.val (.int p0), .val (.ref b1), .val (.int (3 : Int32)), .val (.long (1 : Int64)), .second, .val (.int (1 : Int32)), .val (.long (4 : Int64)), .second, .val (.long (5 : Int64)), .second] [(.long (1 : Int64)), (.long (4 : Int64)), (.long (5 : Int64))])) (fun t k => XS.lconst X26.here hx rfl (hb hby at_159) k) ?_
    refine step (T26.setTop (mkF m 161 #[.val (.int p0), .val (.ref b1), .val (.int (3 : Int32)), .val (.long (1 : Int64)), .second, .val (.int (1 : Int32)), .val (.long (4 : Int64)), .second, .val (.long (5 : Int64)), .second] [(.long (5 : Int64)), (.long (5 : Int64))])) (fun t k => XS.ladd X26.here hx rfl (hb hby at_160) rfl k) ?_
    refine step (T26.setTop (mkF m 162 #[.val (.int p0), .val (.ref b1), .val (.int (3 : Int32)), .val (.long (1 : Int64)), .second, .val (.int (1 : Int32)), .val (.long (4 : Int64)), .second, .val (.long (5 : Int64)), .second] [(.int (lcmpW (5 : Int64) (5 : Int64)))])) (fun t k => XS.lcmp X26.here hx rfl (hb hby at_161) rfl k) ?_
    refine step (T26.setTop (mkF m 165 #[.val (.int p0), .val (.ref b1), .val (.int (3 : Int32)), .val (.long (1 : Int64)), .second, .val (.int (1 : Int32)), .val (.long (4 : Int64)), .second, .val (.long (5 : Int64)), .second] [])) (fun t k => XS.ifNo X26.here hx rfl (hb hby at_162) rfl ((if0 _ _).trans (teq ((lw_eq _ _).mpr (by decide : (5 : Int64) = (5 : Int64)))).2) k) ?_
    refine step (T26.setTop (mkF m 167 #[.val (.int p0), .val (.ref b1), .val (.int (3 : Int32)), .val (.long (1 : Int64)), .second, .val (.int (1 : Int32)), .val (.long (4 : Int64)), .second, .val (.long (5 : Int64)), .second] [(.long (5 : Int64))])) (fun t k => XS.lload X26.here hx rfl (hb hby at_165) rfl k) ?_
    refine step (T26.setTop (mkF m 168 #[.val (.int p0), .val (.ref b1), .val (.int (3 : Int32)), .val (.long (1 : Int64)), .second, .val (.int (1 : Int32)), .val (.long (4 : Int64)), .second, .val (.long (5 : Int64)), .second] [(.int (3 : Int32)), (.long (5 : Int64))])) (fun t k => XS.iloadN X26.here hx rfl (hb hby at_167) rfl k) ?_
    refine step (T26.setTop (mkF m 169 #[.val (.int p0), .val (.ref b1), .val (.int (3 : Int32)), .val (.long (1 : Int64)), .second, .val (.int (1 : Int32)), .val (.long (4 : Int64)), .second, .val (.long (5 : Int64)), .second] [(.int (2 : Int32)), (.int (3 : Int32)), (.long (5 : Int64))])) (fun t k => XS.iconst X26.here hx rfl (hb hby at_168) k) ?_
    refine step (T26.setTop (mkF m 170 #[.val (.int p0), .val (.ref b1), .val (.int (3 : Int32)), .val (.long (1 : Int64)), .second, .val (.int (1 : Int32)), .val (.long (4 : Int64)), .second, .val (.long (5 : Int64)), .second] [(.int (5 : Int32)), (.long (5 : Int64))])) (fun t k => XS.iadd X26.here hx rfl (hb hby at_169) rfl k) ?_
    refine step (T26.setTop (mkF m 171 #[.val (.int p0), .val (.ref b1), .val (.int (3 : Int32)), .val (.long (1 : Int64)), .second, .val (.int (1 : Int32)), .val (.long (4 : Int64)), .second, .val (.long (5 : Int64)), .second] [(.long (5 : Int64)), (.long (5 : Int64))])) (fun t k => XS.i2l X26.here hx rfl (hb hby at_170) rfl k) ?_
    refine step (T26.setTop (mkF m 172 #[.val (.int p0), .val (.ref b1), .val (.int (3 : Int32)), .val (.long (1 : Int64)), .second, .val (.int (1 : Int32)), .val (.long (4 : Int64)), .second, .val (.long (5 : Int64)), .second] [(.int (lcmpW (5 : Int64) (5 : Int64)))])) (fun t k => XS.lcmp X26.here hx rfl (hb hby at_171) rfl k) ?_
    refine step (T26.setTop (mkF m 175 #[.val (.int p0), .val (.ref b1), .val (.int (3 : Int32)), .val (.long (1 : Int64)), .second, .val (.int (1 : Int32)), .val (.long (4 : Int64)), .second, .val (.long (5 : Int64)), .second] [])) (fun t k => XS.ifNo X26.here hx rfl (hb hby at_172) rfl ((if0 _ _).trans (teq ((lw_eq _ _).mpr (by decide : (5 : Int64) = (5 : Int64)))).2) k) ?_
    refine step (T26.setTop (mkF m 176 #[.val (.int p0), .val (.ref b1), .val (.int (3 : Int32)), .val (.long (1 : Int64)), .second, .val (.int (1 : Int32)), .val (.long (4 : Int64)), .second, .val (.long (5 : Int64)), .second] [(.int (1 : Int32))])) (fun t k => XS.iconst X26.here hx rfl (hb hby at_175) k) ?_
    refine step (T26.setTop (mkF m 180 #[.val (.int p0), .val (.ref b1), .val (.int (3 : Int32)), .val (.long (1 : Int64)), .second, .val (.int (1 : Int32)), .val (.long (4 : Int64)), .second, .val (.long (5 : Int64)), .second] [(.int (1 : Int32))])) (fun t k => XS.goto X26.here hx rfl (pc0 := 176) (pc' := 180) rfl (hb hby at_176) (by decide) (by decide) k) ?_
    refine step (T26.setTop (mkF m 182 #[.val (.int p0), .val (.ref b1), .val (.int (3 : Int32)), .val (.long (1 : Int64)), .second, .val (.int (1 : Int32)), .val (.long (4 : Int64)), .second, .val (.long (5 : Int64)), .second] [])) (fun t k => XS.istore X26.here hx rfl (hb hby at_180) rfl (l' := #[.val (.int p0), .val (.ref b1), .val (.int (3 : Int32)), .val (.long (1 : Int64)), .second, .val (.int (1 : Int32)), .val (.long (4 : Int64)), .second, .val (.long (5 : Int64)), .second]) rfl k) ?_
    refine step (T26.setTop (mkF m 184 #[.val (.int p0), .val (.ref b1), .val (.int (3 : Int32)), .val (.long (1 : Int64)), .second, .val (.int (1 : Int32)), .val (.long (4 : Int64)), .second, .val (.long (5 : Int64)), .second] [(.int (1 : Int32))])) (fun t k => XS.iload X26.here hx rfl (hb hby at_182) rfl k) ?_
    refine fin (v := some (.int (nar .boolean (1 : Int32)))) X26 (fun h => by cases h) ?_ (by decide) (by decide) (fun fs hr => retN X26 hx (t := .boolean) hret (by simp) (hb hby at_184) hr)
    show Q0 Z p0 h0 n0 (some (.int (nar .boolean (1 : Int32)))) T26.heap _
    rw [e26]
    exact ⟨rfl, N26⟩
set_option maxRecDepth 65536 in
set_option maxHeartbeats 40000000 in
theorem comes_1 {Post : Tables → Env → Array Value → State → Outcome → State → Prop} (hpost : ∀ tb e args s v u, (limb_1_1.after args s (.returned v) u = true ∧ limb_1_2.after args s (.returned v) u = true ∧ True) → FrameEnd s (.returned v) u (Jvm.fieldLocs frame_1_writes args s ++ Jvm.arrayLocs frame_1_arrays args s ++ Jvm.staticLocs frame_1_statics s) 16 128 → Post tb e args s (.returned v) u) :
    ArmFor flags0 classFile x code maxLocals ret World_1 tables_1 room_1 Calls_1 rest_1 Pre_1 Post := by
  intro l hfl _ _ p e ha hc hk s m args below hf hA hF happ hP
  obtain ⟨hcalls, hrest, hpre⟩ := hP
  obtain ⟨-, -, -, hnamed, -, -, -, hat⟩ := (Spec.applies_iff hf).mp happ
  obtain ⟨hg, hn⟩ := and_e (Cond.before_iff.mp (show (Jvm.Cond.and given_1 narrow_1).before args s = true from hpre))
  obtain ⟨hcount, hr0⟩ := and_e hg
  have ha0 := hr0
  obtain ⟨w0, rfl⟩ : ∃ w0 : Value, args = #[w0] := by
    have hs : args.size = 1 := by simpa [Cond.value, given_1] using hcount
    obtain ⟨L⟩ := args
    match L, hs with
    | [w0], _ => exact ⟨w0, rfl⟩
  have hw := fun d (hd : d ∈ tables_1) => atoms_spec (ws := Jvm.Cond.code x code maxLocals ret :: tables_1) hat d (List.mem_cons_of_mem _ hd)
  have hfit : Fit s := fun {y c} hc i hi => by
    obtain ⟨ha, rfl⟩ := Array.getElem?_eq_some_iff.mp hc
    have q := List.all_eq_true.mp ((Array.all_eq_true_iff_forall_mem.mp hF) _ (Array.getElem_mem ha)) i (List.mem_range.mpr hi)
    simpa [Array.getElem?_eq_getElem hi] using q
  obtain ⟨i0, ei0⟩ := is_v ha0
  obtain rfl : w0 = (.int i0) := Option.some.inj ei0
  obtain ⟨n, o, h1, h2, h3, _, L, rfl, ⟨rfl, N⟩, hq⟩ := rm0 l s _ hw tables_1 i0 s.heap s.heap.size (Nat.le_refl _) p e ha hc hk s m _ below hf ((Spec.applies_iff_loose hf).mp happ).1 ⟨rfl, State.Warmed39.refl s, rfl⟩ trivial
  refine ⟨n, _, h1, h2, h3, hpost _ _ _ _ _ _ ⟨Cond.after_iff.mpr rfl, Cond.after_iff.mpr (eq_i res_at (Term.int_eval (1)) rfl), trivial⟩ ⟨hq.1, hq.2.1, (hq.2.2.sift fun y hy => Or.inr (N y hy)).mono (by decide) (by decide)⟩⟩
theorem main_1_1 : Claimed_1_1 := comes_1 fun _ _ _ _ _ _ h hF => ⟨h.1, hF⟩
theorem main_1_2 : Claimed_1_2 := comes_1 fun _ _ _ _ _ _ h hF => ⟨h.2.1, hF⟩
end Jvm.Pilot.@@N@@
namespace Jvm.Pilot.@@N@@
open Jvm Jvm.ClassFile Sem Op Lib Jvm.Free Jvm.Stand Jvm.Pilot.@@N@@.Jvm.D
/-! MADE BY PROGRAM (witnessworld.py) out of the Statement's table words and the real class files: 7 classes; the members and pool entries that the words name. The judged class is class 1, her method 1. -/
namespace start1
open Jvm.ClassFile
def u (s : String) : CpInfo := .utf8 (stringToUtf16 s)
/-- a pool by its gaps: so many unusable entries, then the entry; so many at the end -/
def gap : Nat → List CpInfo → List CpInfo
  | 0, r => r
  | n + 1, r => .unusable :: gap n r
def poolList (es : List (Nat × CpInfo)) (last : Nat) : List CpInfo := es.foldr (fun e r => gap e.1 (e.2 :: r)) (gap last [])
def pool (es : List (Nat × CpInfo)) (last : Nat) : Array CpInfo := ⟨poolList es last⟩
def fileOf (pool : Array CpInfo) (this : Nat) (attrs : Array Attribute := #[]) (ms : Array MethodInfo := #[]) (fl : Nat := 33) (sup : Nat := 0) (ifs : Array Nat := #[]) (fds : Array FieldInfo := #[]) : ClassFile where
  minorVersion := 0
  majorVersion := 65
  constantPool := pool
  accessFlags := fl
  thisClass := this
  superClass := sup
  interfaces := ifs
  fields := fds
  methods := ms
  attributes := attrs
def plain (name : String) (sup : Option ClassId) : Class where
  name := name
  kind := .ordinary
  loader := none
  accessFlags := 33
  super := sup
  interfaces := #[]
  cf := none
  fields := #[]
  methods := #[]
  instanceTypes := #[]
  staticTypes := #[]
  resolved := #[]
  callSites := []
  init := .initialized
  statics := none
  mirror := none

def pool0 : Array CpInfo := pool [(5, u "<init>"), (0, u "()V"), (1, .class_ 10), (1, u "java/lang/Object")] 113

def k0c0 : Code := { maxStack := 0, maxLocals := 1, code := object_method_1_code, exceptionTable := #[], attributes := #[] }
def k0m0 : Method := { name := "<init>", desc := "()V", sig := { parameters := [], returnType := none }, accessFlags := 1, code := some k0c0 }
/-- java/lang/Object -/
def k0 : Class := { plain "java/lang/Object" none with
  accessFlags := 33
  interfaces := #[]
  cf := some (fileOf pool0 8 #[] #[{ accessFlags := 1, nameIndex := 5, descriptorIndex := 6, attributes := #[] }] 33 0 #[] #[])
  fields := #[]
  methods := #[k0m0]
  instanceTypes := #[]
  staticTypes := #[]
  resolved := Array.replicate 124 none
  statics := none }

def pool1 : Array CpInfo := pool [(2, .class_ 4), (0, .nameAndType 5 6), (0, u "java/lang/Object"), (0, u "<init>"), (0, u "()V"), (0, .class_ 8), (0, u "com/example/madac/madac/engine/RowKeys"), (0, .methodref 7 3), (0, .methodref 7 11), (0, .nameAndType 12 13), (0, u "next"), (0, u "()J"), (0, .class_ 15), (0, u "com/example/madac/madac/engine/RowKeysNextPinLaw"), (2, u "law"), (0, u "(I)Z")] 3

def k1m0 : Method := { name := "<init>", desc := "()V", sig := { parameters := [], returnType := none }, accessFlags := 1, code := none }
def k1c1 : Code := { maxStack := 6, maxLocals := 10, code := code, exceptionTable := #[], attributes := #[] }
def k1m1 : Method := { name := "law", desc := "(I)Z", sig := { parameters := [.int], returnType := some .boolean }, accessFlags := 9, code := some k1c1 }
/-- com/example/madac/madac/engine/RowKeysNextPinLaw -/
def k1 : Class := { plain "com/example/madac/madac/engine/RowKeysNextPinLaw" (some 0) with
  accessFlags := 49
  interfaces := #[]
  cf := some (fileOf pool1 14 #[] #[{ accessFlags := 1, nameIndex := 5, descriptorIndex := 6, attributes := #[] }, { accessFlags := 9, nameIndex := 18, descriptorIndex := 19, attributes := #[] }] 49 2 #[] #[])
  fields := #[]
  methods := #[k1m0, k1m1]
  instanceTypes := #[]
  staticTypes := #[]
  resolved := Array.replicate 23 none
  statics := none }

def pool2 : Array CpInfo := pool [(1, .methodref 2 3), (0, .class_ 4), (0, .nameAndType 5 6), (0, u "java/lang/Object"), (0, u "<init>"), (0, u "()V"), (0, .fieldref 8 9), (0, .class_ 10), (0, .nameAndType 11 12), (0, u "com/example/madac/madac/engine/RowKeys"), (0, u "lastSerial"), (0, u "J"), (2, u "next"), (0, u "()J")] 2

def k2c0 : Code := { maxStack := 1, maxLocals := 1, code := prog_23_method_1_code, exceptionTable := #[], attributes := #[] }
def k2m0 : Method := { name := "<init>", desc := "()V", sig := { parameters := [], returnType := none }, accessFlags := 0, code := some k2c0 }
def k2c1 : Code := { maxStack := 5, maxLocals := 1, code := prog_23_method_2_code, exceptionTable := #[], attributes := #[] }
def k2m1 : Method := { name := "next", desc := "()J", sig := { parameters := [], returnType := some .long }, accessFlags := 0, code := some k2c1 }
/-- com/example/madac/madac/engine/RowKeys -/
def k2 : Class := { plain "com/example/madac/madac/engine/RowKeys" (some 0) with
  accessFlags := 32
  interfaces := #[]
  cf := some (fileOf pool2 8 #[] #[{ accessFlags := 0, nameIndex := 5, descriptorIndex := 6, attributes := #[] }, { accessFlags := 0, nameIndex := 15, descriptorIndex := 16, attributes := #[] }] 32 2 #[] #[{ accessFlags := 2, nameIndex := 11, descriptorIndex := 12, attributes := #[] }])
  fields := #[{ name := "lastSerial", type := .long, accessFlags := 2, slot := 0, constantValue := 0 }]
  methods := #[k2m0, k2m1]
  instanceTypes := #[.long]
  staticTypes := #[]
  resolved := Array.replicate 19 none
  statics := none }

def pool3 : Array CpInfo := pool [(1, u "java/lang/Cloneable"), (0, .class_ 1), (0, u "java/lang/Object"), (0, .class_ 3)] 3

/-- java/lang/Cloneable -/
def k3 : Class := { plain "java/lang/Cloneable" (some 0) with
  accessFlags := 1537
  interfaces := #[]
  cf := some (fileOf pool3 2 #[] #[] 1537 4 #[] #[])
  fields := #[]
  methods := #[]
  instanceTypes := #[]
  staticTypes := #[]
  resolved := Array.replicate 8 none
  statics := none }

def pool4 : Array CpInfo := pool [(1, u "java/io/Serializable"), (0, .class_ 1), (0, u "java/lang/Object"), (0, .class_ 3)] 3

/-- java/io/Serializable -/
def k4 : Class := { plain "java/io/Serializable" (some 0) with
  accessFlags := 1537
  interfaces := #[]
  cf := some (fileOf pool4 2 #[] #[] 1537 4 #[] #[])
  fields := #[]
  methods := #[]
  instanceTypes := #[]
  staticTypes := #[]
  resolved := Array.replicate 8 none
  statics := none }

/-- the primitive byte -/
def k5 : Class := { plain "byte" none with kind := .primitive 'B', accessFlags := 0x411 }
/-- [B -/
def k6 : Class := { plain "[B" (some 0) with kind := .array 5 .byte, interfaces := #[3, 4], accessFlags := 1041 }

def heap : Heap := #[]
def classes : Array Class := #[k0, k1, k2, k3, k4, k5, k6]
def interned : List (Array UInt16 × Addr) := []
def slotsUsed : Nat := 0
def theMethod : MethodId := ⟨1, 1⟩
def args0 : Array Value := #[.int 5]
def aboutOver (below : List Frame) : State where
  vm := { classes := classes, interned := interned.toArray }
  heap := heap
  slotsUsed := slotsUsed
  threads := #[{ frames := .invoking theMethod args0 :: below }]
def below0 : List Frame := [.native { method := ⟨0, 0⟩, args := #[] }]
def about1 : State := aboutOver below0
def p0 : Program := .bare "" "" ""
def e0 : Env := launch0.env 0 0 0
theorem w_frames : about1.frames = Frame.invoking theMethod args0 :: below0 := rfl
set_option maxRecDepth 65536 in
theorem w_args : argsFit about1.vm theMethod args0 = true := by decide +kernel
set_option maxRecDepth 65536 in
theorem w_heap : heapFits about1 = true := by decide +kernel
set_option maxRecDepth 65536 in
theorem w_runnable : about1.curStatus? = some .runnable := by decide +kernel
set_option maxRecDepth 65536 in
theorem w_alone : about1.alone = true := by decide +kernel
set_option maxRecDepth 65536 in
theorem w_named : about1.methodNamed? x = some theMethod := by decide +kernel
set_option maxRecDepth 65536 in
theorem w_hears : about1.hears theMethod below0 = true := by decide +kernel
set_option maxRecDepth 65536 in
theorem w_ripe : about1.ripe theMethod args0 below0 = true := by decide +kernel
theorem w_running : about1.status = .running := rfl
set_option maxRecDepth 65536 in
theorem w_room : about1.hasRoom e0.platform room_1 = true :=
  launch0.hasRoom_least _ room_1 (by decide +kernel) (by decide +kernel) (by decide +kernel) (by decide +kernel) (by decide +kernel) (by decide +kernel)
theorem allAtoms_all (ts : List Jvm.Cond) (a : Array Jvm.Value) (st : Jvm.State) : (allAtoms ts).before a st = ts.all (fun c => c.before a st) := by
  induction ts with
  | nil => rfl
  | cons c t ih =>
    show (Jvm.Cond.and c (allAtoms t)).before a st = _
    rw [Jvm.Cond.before_and, ih, List.all_cons]
def words1 : List Jvm.Cond := Jvm.Cond.code x code maxLocals ret :: tables_1
/-- a 'code' word, met by the world's own term for the bytes: nothing is compared byte by byte -/
theorem code_word {y : MethodName} {bytes : ByteArray} {mx : Nat} {rt : Option FieldType} {a : Array Value} {s : State} {m : MethodId} {meth : Method} {c : Code} (h1 : s.methodNamed? y = some m) (h2 : s.vm.method? m = some meth) (h3 : meth.code = some c) (h4 : c.code = bytes)
    (h5 : (c.maxLocals == mx && c.exceptionTable.isEmpty && decide (c.maxStack ≤ mostOperands) && decide (meth.sig.returnType = rt) && !meth.locks && decide (parseMethodDescriptor y.desc = some meth.sig)) = true) : (Jvm.Cond.code y bytes mx rt).before a s = true := by
  simp only [Bool.and_eq_true, beq_iff_eq, Bool.not_eq_true', decide_eq_true_eq] at h5
  obtain ⟨⟨⟨⟨⟨g1, g2⟩, g3⟩, g4⟩, g5⟩, g6⟩ := h5
  simp [Cond.before, Cond.holds, Cond.value, h1, h2, h3, h4, g1, g2, g3, g4, g5, g6]
def isCode : Jvm.Cond → Bool
  | .code _ _ _ _ => true
  | _ => false
theorem all_split {L : List Jvm.Cond} {P : Jvm.Cond → Bool} (h1 : L.all (fun c => isCode c || P c) = true) (h2 : ∀ c ∈ L.filter isCode, P c = true) : L.all P = true := by
  refine List.all_eq_true.mpr fun c hc => ?_
  have h := List.all_eq_true.mp h1 c hc
  rcases Bool.eq_false_or_eq_true (isCode c) with hi | hi
  · exact h2 c (List.mem_filter.mpr ⟨hc, hi⟩)
  · simpa [hi] using h
set_option maxRecDepth 65536 in
theorem w_c0 : (Jvm.Cond.code x code maxLocals ret).before args0 about1 = true := code_word (m := ⟨1, 1⟩) (meth := k1m1) (c := k1c1) (by decide +kernel) rfl rfl rfl (by decide +kernel)
set_option maxRecDepth 65536 in
theorem w_c1 : (Jvm.Cond.code ({ cls := "com/example/madac/madac/engine/RowKeys", name := "<init>", desc := "()V" } : Jvm.MethodName) prog_23_method_1_code (1 : Nat) (Option.none : Option Jvm.ClassFile.FieldType)).before args0 about1 = true := code_word (m := ⟨2, 0⟩) (meth := k2m0) (c := k2c0) (by decide +kernel) rfl rfl rfl (by decide +kernel)
set_option maxRecDepth 65536 in
theorem w_c2 : (Jvm.Cond.code ({ cls := "java/lang/Object", name := "<init>", desc := "()V" } : Jvm.MethodName) object_method_1_code (1 : Nat) (Option.none : Option Jvm.ClassFile.FieldType)).before args0 about1 = true := code_word (m := ⟨0, 0⟩) (meth := k0m0) (c := k0c0) (by decide +kernel) rfl rfl rfl (by decide +kernel)
set_option maxRecDepth 65536 in
theorem w_c3 : (Jvm.Cond.code ({ cls := "com/example/madac/madac/engine/RowKeys", name := "next", desc := "()J" } : Jvm.MethodName) prog_23_method_2_code (1 : Nat) (Option.some Jvm.ClassFile.FieldType.long)).before args0 about1 = true := code_word (m := ⟨2, 1⟩) (meth := k2m1) (c := k2c1) (by decide +kernel) rfl rfl rfl (by decide +kernel)
def codes1 : List Jvm.Cond := [Jvm.Cond.code x code maxLocals ret, Jvm.Cond.code ({ cls := "com/example/madac/madac/engine/RowKeys", name := "<init>", desc := "()V" } : Jvm.MethodName) prog_23_method_1_code (1 : Nat) (Option.none : Option Jvm.ClassFile.FieldType), Jvm.Cond.code ({ cls := "java/lang/Object", name := "<init>", desc := "()V" } : Jvm.MethodName) object_method_1_code (1 : Nat) (Option.none : Option Jvm.ClassFile.FieldType), Jvm.Cond.code ({ cls := "com/example/madac/madac/engine/RowKeys", name := "next", desc := "()J" } : Jvm.MethodName) prog_23_method_2_code (1 : Nat) (Option.some Jvm.ClassFile.FieldType.long)]
set_option maxRecDepth 65536 in
theorem codes_eq : words1.filter isCode = codes1 := rfl
theorem w_codes : ∀ c ∈ words1.filter isCode, c.before args0 about1 = true := by
  rw [codes_eq]
  intro c hc
  simp only [codes1, List.mem_cons, List.not_mem_nil, or_false] at hc
  rcases hc with rfl | rfl | rfl | rfl
  · exact w_c0
  · exact w_c1
  · exact w_c2
  · exact w_c3
set_option maxRecDepth 65536 in
theorem w_t1 : words1.all (fun c => isCode c || c.before args0 about1) = true := by decide +kernel
theorem w_tables : (allAtoms (Jvm.Cond.code x code maxLocals ret :: tables_1)).before args0 about1 = true := by
  rw [allAtoms_all]
  show words1.all (fun c => c.before args0 about1) = true
  refine all_split ?_ w_codes
  rw [w_t1]
set_option maxRecDepth 65536 in
theorem w_case : (Jvm.Cond.and given_1 narrow_1).before args0 about1 = true := by decide +kernel
theorem w_applies : (headSpec (Jvm.Cond.code x code maxLocals ret :: tables_1) room_1).applies x e0.platform about1 = true :=
  (Spec.applies_iff w_frames).mpr ⟨w_running, w_runnable, w_alone, w_named, w_hears, w_ripe, w_room, w_tables⟩
theorem atStart : AtStart classFile x code maxLocals ret World_1 tables_1 room_1 Calls_1 rest_1 Pre_1 launch0 p0 e0 about1 theMethod args0 below0 :=
  ⟨lists_1, trivial, launch0.admits_env _ _ _, launch0.least_env, fairChoices_fair.cas, fairChoices_fair.clock, w_frames, w_args, w_heap, w_applies, trivial, trivial, w_case⟩
end start1
theorem witness_1 : WitnessClaimed_1 := ⟨start1.p0, start1.e0, start1.about1, start1.theMethod, start1.args0, start1.below0, start1.atStart⟩
end Jvm.Pilot.@@N@@
