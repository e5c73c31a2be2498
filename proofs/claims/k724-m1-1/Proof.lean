import JvmDerived
import JvmDerived.Pilot.@@N@@Statement
import JvmDerived.Pilot.@@N@@Code
set_option linter.unusedVariables false
set_option linter.unusedSimpArgs false
namespace Jvm.RoadKit
open Sem ClassFile Op Lib Jvm.Stand Jvm.Free Jvm.LawKit
section New
variable {p : Program} {l : Launch} {e : Env} {R : Room} {s : State} {m : MethodId} {args : Array Value} {below : List Frame} {meth : Method} {c : Code} {T : State} {locs : List Loc} {cells slots : Nat}
theorem retI (X : Stand p l e R s m args below meth c T locs cells slots) (hx : p.tables.exec = Jvm.exec) {pc : Nat} {Ls : Array Slot} {z : Int32} {rest : List Value} (hret : meth.sig.returnType = some .int) (hd : decode c.code pc = .ok (.ireturn, 1)) {fs : List Frame}
    (hl : ∀ (f : JFrame) (acts : List Action), f.method = m → f.locked = none → f.entered = [] → (doReturn e (T.setTop f) acts (some (.int z))).1 = T.setFrames fs) : Steps p.tables e below (T.setTop (mkF m pc Ls (.int z :: rest))) (T.setFrames fs) := by
  have hm' : T.vm.method? m = some meth := X.method'
  have hn : narrow .int (.int z) = .int z := rfl
  show Steps p.tables e below (T.setTop { method := m, pc := pc, locals := Ls, stack := _ :: rest, locked := none }) _
  jvm_step X.here [X.here.top, hx, hd, hm', hret, hn]
  first | (intro acts; rw [hl _ acts rfl rfl rfl]) | rw [hl _ _ rfl rfl rfl]
  exact Steps.refl _
end New
end Jvm.RoadKit
namespace Jvm.Pilot.@@N@@
open Jvm Jvm.ClassFile Sem Op Lib Jvm.Free Jvm.Stand Jvm.LawKit Jvm.RoadKit Bundle Jvm.Pilot.@@N@@.Jvm.D
/-- a body's contract, by a walk forwards: G U says that the run from U comes to an end that the contract allows -/
theorem own_body {l : Launch} {Z : State} {y : MethodName} {bytes : ByteArray} {maxL : Nat} {ret : Option FieldType} {ws : List Jvm.Cond} {rm : Room} {as' : Array Value} {h0 : Heap} {Q : Option Value → Heap → List Loc → Prop} (hpl : plainFor y = true)
    (body : ∀ (p : Program) (e : Env) (s : State) (m : MethodId) (below : List Frame) (meth : Method) (c : Code) (s₁ : State) (G : State → Prop),
      p.tables.exec = Jvm.exec → c.code = bytes → c.maxLocals = maxL → Z.Warmed39 s.vm → s.vm.findClass y.cls = some m.cls → meth.name = y.name → meth.sig.returnType = ret →
      Stand p l e rm s m as' below meth c s₁ [] 0 0 → s₁.heap = h0 →
      (∀ (U' : State) {U : State}, (∀ t, Steps p.tables e below U' t → Steps p.tables e below U t) → G U' → G U) →
      (∀ {U T : State} {locs : List Loc} {cells slots : Nat} {v : Option Value}, Stand p l e rm s m as' below meth c T locs cells slots → (ret = none → v = none) → Q v T.heap locs → cells ≤ rm.cells → slots ≤ rm.slots →
        (∀ fs, (∀ (f : JFrame) (acts : List Action), f.method = m → f.locked = none → f.entered = [] → (doReturn e (T.setTop f) acts v).1 = T.setFrames fs) → Steps p.tables e below U (T.setFrames fs)) → G U) →
      G (s₁.setTop (entryFrame m as' maxL))) :
    MetFree l y (head1 (Jvm.Cond.code y bytes maxL ret :: ws) rm) (fun a U => a = as' ∧ Z.Warmed39 U.vm ∧ U.heap = h0) (fun _ _ _ _ _ => True) (fun _ U o U' => ∃ v L, o = .returned v ∧ Q v U'.heap L ∧ FrameEnd U o U' L rm.cells rm.slots) := by
  refine MetFree.of_bodySF hpl hisR ?_
  intro p e s m args below meth c s₁ Bd hml0 hP hK
  obtain ⟨rfl, hZ, hh⟩ := hP
  have hnm := (name_of_methodNamed Bd.named Bd.method).1
  exact body p e s m below meth c s₁ (fun U => ∃ s₂ o, Steps p.tables e below U s₂ ∧ s₂.status = .running ∧ Ended s₂ below o ∧ ∃ v L, o = .returned v ∧ Q v s₂.heap L ∧ FrameEnd s o s₂ L rm.cells rm.slots)
    Bd.exec Bd.bytes hml0 hZ (findClass_of_methodNamed Bd.named) hnm Bd.returns (Stand.of_body Bd) (by rw [← hh, Bd.state]; rfl)
    (fun U' U h k => by obtain ⟨s₂, o, h1, h2⟩ := k; exact ⟨s₂, o, h _ h1, h2⟩)
    (fun {U T locs cells slots v} X hv hQ hc hs hst => by
      obtain ⟨fs, hr, hrun, hended, hW, hsame⟩ := X.leave (v := v) (fun h => hv (by rw [← Bd.returns]; exact h))
      exact ⟨_, _, hst fs hr, hrun, hended, v, locs, rfl, hQ, ⟨_, rfl⟩, hW, hsame.mono hc hs⟩)
/-- the same, of a body that may intern String constants on its way -/
theorem own_bodyW {l : Launch} {Z : State} {y : MethodName} {bytes : ByteArray} {maxL : Nat} {ret : Option FieldType} {ws : List Jvm.Cond} {rm : Room} {as' : Array Value} {h0 : Heap} {Q : Option Value → Heap → List Loc → Prop} (hpl : plainFor y = true)
    (body : ∀ (p : Program) (e : Env) (s : State) (m : MethodId) (below : List Frame) (meth : Method) (c : Code) (s₁ : State) (G : State → Prop) (vm0 : Vm) (k0 : Nat),
      p.tables.exec = Jvm.exec → c.code = bytes → c.maxLocals = maxL → Z.Warmed39 vm0 → vm0.findClass y.cls = some m.cls → meth.name = y.name → meth.sig.returnType = ret → s.Since vm0 k0 → k0 ≤ h0.size →
      Stand p l e rm (s.setVm vm0) m as' below meth c s₁ [] 0 0 → s₁.heap = h0 →
      (∀ (U' : State) {U : State}, (∀ t, Steps p.tables e below U' t → Steps p.tables e below U t) → G U' → G U) →
      (∀ {U T : State} {locs : List Loc} {cells slots : Nat} {v : Option Value} {vm1 : Vm} {k1 : Nat}, Stand p l e rm (s.setVm vm1) m as' below meth c T locs cells slots → s.Since vm1 k1 → k1 ≤ T.heap.size → (ret = none → v = none) → Q v T.heap locs → cells ≤ rm.cells → slots ≤ rm.slots →
        (∀ fs, (∀ (f : JFrame) (acts : List Action), f.method = m → f.locked = none → f.entered = [] → (doReturn e (T.setTop f) acts v).1 = T.setFrames fs) → Steps p.tables e below U (T.setFrames fs)) → G U) →
      G (s₁.setTop (entryFrame m as' maxL))) :
    MetFree l y (head1 (Jvm.Cond.code y bytes maxL ret :: ws) rm) (fun a U => a = as' ∧ Z.Warmed39 U.vm ∧ U.heap = h0) (fun _ _ _ _ _ => True) (fun _ U o U' => ∃ v L, o = .returned v ∧ Q v U'.heap L ∧ ReturnedEndW U o U' L rm.cells rm.slots) := by
  refine MetFree.of_bodySF hpl hisR ?_
  intro p e s m args below meth c s₁ Bd hml0 hP hK
  obtain ⟨rfl, hZ, hh⟩ := hP
  have hnm := (name_of_methodNamed Bd.named Bd.method).1
  have X0 := Stand.of_body Bd
  exact body p e s m below meth c s₁ (fun U => ∃ s₂ o, Steps p.tables e below U s₂ ∧ s₂.status = .running ∧ Ended s₂ below o ∧ ∃ v L, o = .returned v ∧ Q v s₂.heap L ∧ ReturnedEndW s o s₂ L rm.cells rm.slots)
    s.vm h0.size Bd.exec Bd.bytes hml0 hZ (findClass_of_methodNamed Bd.named) hnm Bd.returns ((State.WarmedH.refl s).since _) (Nat.le_refl _) X0 (by rw [← hh, Bd.state]; rfl)
    (fun U' U h k => by obtain ⟨s₂, o, h1, h2⟩ := k; exact ⟨s₂, o, h _ h1, h2⟩)
    (fun {U T locs cells slots v vm1 k1} X hS hk hv hQ hc hs hst => by
      obtain ⟨fs, hr, hrun, hended, hE⟩ := X.leaveW hS hk (v := v) (fun h => hv (by rw [← Bd.returns]; exact h))
      exact ⟨_, _, hst fs hr, hrun, hended, v, locs, rfl, hQ, hE.1, hE.2.1, hE.2.2.1, hE.2.2.2.mono hc hs⟩)
theorem own_fin {z : Int32} (h : z = 1) : some (Value.int (nar .boolean z)) = some (.int 1) := by subst h; rfl
theorem own_and3 (p : Int32) : p &&& 3 = 0 ∨ p &&& 3 = 1 ∨ p &&& 3 = 2 ∨ p &&& 3 = 3 := by
  have h := c_mask p 3 2 (by decide) (by decide)
  have h4 : (p &&& 3).toInt = 0 ∨ (p &&& 3).toInt = 1 ∨ (p &&& 3).toInt = 2 ∨ (p &&& 3).toInt = 3 := by omega
  rcases h4 with h | h | h | h
  · exact Or.inl (Int32.toInt_inj.mp h)
  · exact Or.inr (Or.inl (Int32.toInt_inj.mp h))
  · exact Or.inr (Or.inr (Or.inl (Int32.toInt_inj.mp h)))
  · exact Or.inr (Or.inr (Or.inr (Int32.toInt_inj.mp h)))
theorem own_eqi {args : Array Value} {s : State} {t : Term} {n : Int32} (h : (Jvm.Cond.eq t (.int n)).value args s none s [] = some true) : t.eval args s none [] s = some (.int n) := by
  simp only [Cond.value, Term.eval] at h
  cases ht : t.eval args s none [] s with
  | none => simp [ht] at h
  | some x => cases x <;> simp [ht] at h ⊢; exact h
theorem own_irr {x : Int32} : ¬ (x < x) := by rw [Int32.lt_iff_toInt_lt]; omega
theorem own_selP {args : Array Value} {s : State} {y : MethodName} {k : Nat} (hinst : (Jvm.Cond.instanceMethod y).before args s = true) (hi : (Jvm.Cond.instantiable y.cls k).before args s = true) (hp : s.PrivateAt y) (hy : y.cls ≠ "java/lang/invoke/MethodHandle" ∧ y.cls ≠ "java/lang/invoke/VarHandle") : (Jvm.Cond.selects y.cls y y).before args s = true := by
  obtain ⟨m, meth, hn, hm, -, -⟩ := Cond.instanceMethod_spec hinst
  obtain ⟨c, kk, h1, h2, -, h4, -⟩ := Cond.instantiable_spec hi
  have hf := State.methodFound?_of_named hn hy
  have hc := findClass_of_methodNamed hn
  cases h1.symm.trans hc
  have hs := selectMethod_private (p := {}) (c := m.cls) hm (hp m meth hn hm)
  have h5 : kk.isInterface = false := by simp only [Bool.or_eq_false_iff] at h4; exact h4.1
  simp [Cond.before, Cond.holds, Cond.value, hc, hf, hn, hs, h2, h5]
theorem own_add0 (x : Int32) : x = (x + (0 : Int32)) := (Int32.add_zero x).symm
theorem own_nn (x y : Int32) (h : (x &&& (2147483647 : Int32)) = y) : ¬ (y < (0 : Int32)) := by
  subst h
  have h := c_mask x 2147483647 31 (by decide) (by decide)
  rw [Int32.lt_iff_toInt_lt]
  have e : (0 : Int32).toInt = 0 := by decide
  omega
theorem own_255 (x y : Int32) (h : ((x &&& (255 : Int32)).toUInt32.toUInt16.toUInt32.toInt32) = y) : ¬ ((255 : Int32) < y) := by
  subst h
  have h := c_mask x 255 8 (by decide) (by decide)
  have h2 := c_i2c (x &&& 255)
  rw [Int32.lt_iff_toInt_lt]
  have e : (255 : Int32).toInt = 255 := by decide
  omega
theorem own_exaP {Z : State} {h : Heap} {a : Addr} {C : String} (F : Exa Z h a C) : ∀ cell : Cell, h[a]? = some cell → cell.vm.isStatics = false := fun cell q => by
  obtain ⟨c', _, h1, -, -, h4, -⟩ := F
  cases h1.symm.trans q
  exact h4
theorem own_arvP {Z : State} {h : Heap} {a : Addr} {k : ClassId} {ty : FieldType} {z : Int32} {vs : List Value} {dv : Value} (F : Arv Z h a k ty z vs dv) : ∀ cell : Cell, h[a]? = some cell → cell.vm.isStatics = false := fun cell q => by
  obtain ⟨c', A, -⟩ := F
  cases A.1.symm.trans q
  exact A.plain
theorem own_staK {Z : State} {h h' : Heap} {ws : List Addr} {C n d : String} {v : Value} (F : Sta Z h C n d v) (K : Keep h h' ws) (q : ∀ x ∈ ws, ∀ cell : Cell, h[x]? = some cell → cell.vm.isStatics = false) : Sta Z h' C n d v := by
  obtain ⟨cf, i, k, f, st, cell, h1, h2, h3, h4, h5, h6, h7⟩ := F
  exact ⟨cf, i, k, f, st, cell, h1, h2, h3, h4, K.2.1 st cell h5 (fun hm => by rw [q st hm cell h5] at h6; cases h6), h6, h7⟩
theorem own_arr0 {args : Array Value} {s : State} {t : Term} {a : Addr} {ty : FieldType} {dv : Value} (hf : Fit s) (ev : t.eval args s none [] s = some (.ref a)) (hA : (Jvm.Cond.arrayOf t ty).value args s none s [] = some true) (hl : (Jvm.Cond.eq (.length t) (.int 0)).value args s none s [] = some true) : ∃ k, Arv s s.heap a k ty 0 [] dv := by
  obtain ⟨c, A⟩ := Arr.start ev hA
  have h0 := own_eqi hl
  obtain ⟨a', cell, e1, e2, e3⟩ := Term.length_spec h0
  cases ev.symm.trans e1
  have e4 : s.arrayAt? a = some c := Arr.fin (U := s) (Vm.Alike.refl _) A
  cases e4.symm.trans e2
  have hq : c.slots.size < 2 ^ 31 := by
    by_cases q : c.slots.size < 2 ^ 31
    · exact q
    · simp [Term.eval, ev, e4, q] at h0
  have e5 : c.slots.size.toInt32 = 0 := by injection e3 with e; exact e.symm
  exact ⟨_, Arv.start hf A hq e5 (by decide) rfl trivial⟩
theorem own_255n (x y : Int32) (h : ((x &&& (255 : Int32)).toUInt32.toUInt16.toUInt32.toInt32) = y) : ¬ ((255 : Int32) < (nar .char y)) := by
  have h1 := own_255 x y h
  have h0 := (c_i2c (x &&& 255)).2.1
  rw [h] at h0
  have h2 : (nar .char y).toInt = (y.toUInt32.toUInt16.toUInt32.toInt32).toInt := rfl
  have h3 := c_i2c y
  rw [Int32.lt_iff_toInt_lt] at *
  have e : (255 : Int32).toInt = 255 := by decide
  omega
theorem own_tri (a b : Int64) : (a < b ∧ ¬ a = b ∧ ¬ b = a ∧ ¬ b < a) ∨ (¬ a < b ∧ a = b ∧ b = a ∧ ¬ b < a) ∨ (¬ a < b ∧ ¬ a = b ∧ ¬ b = a ∧ b < a) := by
  simp only [Int64.lt_iff_toInt_lt, ← Int64.toInt_inj]
  omega
theorem own_tab (i : Int32) (h0 : 0 ≤ i.toInt) (h1 : i.toInt < 16) : ∃ d : Int32, ([(.int (9 : Int32)), (.int (10 : Int32)), (.int (13 : Int32)), (.int (32 : Int32)), (.int (11 : Int32)), (.int (12 : Int32)), (.int (133 : Int32)), (.int (160 : Int32)), (.int (8232 : Int32)), (.int (12288 : Int32)), (.int (8 : Int32)), (.int (33 : Int32)), (.int (31 : Int32)), (.int (14 : Int32)), (.int (97 : Int32)), (.int (65535 : Int32))] : List Value).getD i.toNatClampNeg (.int (0 : Int32)) = .int d ∧ (i < 4 ↔ (d = 32 ∨ d = 9 ∨ d = 13 ∨ d = 10)) := by
  have h : ∀ n : Nat, n < 16 → i.toInt = n → i = Int32.ofNat n := fun n hn e => Int32.toInt_inj.mp (by rw [e, Int32.toInt_ofNat_small (by omega)])
  have hc : i.toInt = 0 ∨ i.toInt = 1 ∨ i.toInt = 2 ∨ i.toInt = 3 ∨ i.toInt = 4 ∨ i.toInt = 5 ∨ i.toInt = 6 ∨ i.toInt = 7 ∨ i.toInt = 8 ∨ i.toInt = 9 ∨ i.toInt = 10 ∨ i.toInt = 11 ∨ i.toInt = 12 ∨ i.toInt = 13 ∨ i.toInt = 14 ∨ i.toInt = 15 := by omega
  rcases hc with e | e | e | e | e | e | e | e | e | e | e | e | e | e | e | e <;> (have e' := h _ (by decide) e; subst e'; exact ⟨_, rfl, by decide⟩)
theorem own_ge0 {i : Int32} (h : 0 ≤ i.toInt) : ¬ i < 0 := by
  rw [Int32.lt_iff_toInt_lt]
  have e : (0 : Int32).toInt = 0 := by decide
  omega
theorem own_lt16 {i : Int32} (h : i.toInt < 16) : i < (16 : Int32) := by
  rw [Int32.lt_iff_toInt_lt]
  have e : (16 : Int32).toInt = 16 := by decide
  omega
theorem pn_0 : plainName "org/vouchsafe/DomIsXmlSpacePinLaw" = true := by first | (simp [plainName, overriddenIn]; done) | decide +kernel
theorem pd_0 : parseMethodDescriptor "(C)Z" = some ⟨[.char], some .boolean⟩ := by decide +kernel
theorem d1_0 : decode prog_10_method_19_code 0 = .ok (.iload_n 0, 1) := by decide +kernel
theorem d1_1 : decode prog_10_method_19_code 1 = .ok (.bipush 32, 2) := by decide +kernel
theorem d1_3 : decode prog_10_method_19_code 3 = .ok (.if_icmp .eq 21, 3) := by decide +kernel
theorem d1_6 : decode prog_10_method_19_code 6 = .ok (.iload_n 0, 1) := by decide +kernel
theorem d1_7 : decode prog_10_method_19_code 7 = .ok (.bipush 9, 2) := by decide +kernel
theorem d1_9 : decode prog_10_method_19_code 9 = .ok (.if_icmp .eq 15, 3) := by decide +kernel
theorem d1_12 : decode prog_10_method_19_code 12 = .ok (.iload_n 0, 1) := by decide +kernel
theorem d1_13 : decode prog_10_method_19_code 13 = .ok (.bipush 13, 2) := by decide +kernel
theorem d1_15 : decode prog_10_method_19_code 15 = .ok (.if_icmp .eq 9, 3) := by decide +kernel
theorem d1_18 : decode prog_10_method_19_code 18 = .ok (.iload_n 0, 1) := by decide +kernel
theorem d1_19 : decode prog_10_method_19_code 19 = .ok (.bipush 10, 2) := by decide +kernel
theorem d1_21 : decode prog_10_method_19_code 21 = .ok (.if_icmp .ne 7, 3) := by decide +kernel
theorem d1_24 : decode prog_10_method_19_code 24 = .ok (.iconst 1, 1) := by decide +kernel
theorem d1_25 : decode prog_10_method_19_code 25 = .ok (.goto 4, 3) := by decide +kernel
theorem d1_28 : decode prog_10_method_19_code 28 = .ok (.iconst 0, 1) := by decide +kernel
theorem d1_29 : decode prog_10_method_19_code 29 = .ok (.ireturn, 1) := by decide +kernel
theorem pn_1 : plainName "org/vouchsafe/Dom" = true := by first | (simp [plainName, overriddenIn]; done) | decide +kernel
theorem ef_1_1 (m : MethodId) (x0 : Int32) : entryFrame m #[(.int x0)] 1 = mkF m 0 #[.val (.int x0)] [] := by first | (simp [entryFrame, mkF, argsToLocals, Value.category]; done) | rfl
def Q1_1 (Z : State) (i1 : Int32) (h0 : Heap) (n0 : Nat) (v : Option Value) (h : Heap) (L : List Loc) : Prop := ∃ (z29_1 : Int32), v = some (.int z29_1) ∧ Fr n0 L ∧ h = h0 ∧ z29_1 = (if i1 = (32 : Int32) then (1 : Int32) else (if i1 = (9 : Int32) then (1 : Int32) else (if i1 = (13 : Int32) then (1 : Int32) else (if i1 = (10 : Int32) then (1 : Int32) else (0 : Int32)))))
set_option maxRecDepth 65536 in
set_option maxHeartbeats 40000000 in
theorem rm1_1 (l : Launch) (Z : State) (a0 : Array Value) (hw : ∀ d ∈ tables_1, d.before a0 Z = true) (ws : List Jvm.Cond) (i1 : Int32) (h0 : Heap) (n0 : Nat) (Z0 : n0 ≤ h0.size)  :
    MetFree l (⟨"org/vouchsafe/Dom", "isXmlSpace", "(C)Z"⟩ : MethodName) (head1 (Jvm.Cond.code (⟨"org/vouchsafe/Dom", "isXmlSpace", "(C)Z"⟩ : MethodName) prog_10_method_19_code 1 (some .boolean) :: ws) ({ frames := 0, cells := 0, slots := 0, locals := 0 } : Room)) (fun a U => a = #[(.int i1)] ∧ Z.Warmed39 U.vm ∧ U.heap = h0) (fun _ _ _ _ _ => True) (fun _ U o U' => ∃ v L, o = .returned v ∧ Q1_1 Z i1 h0 n0 v U'.heap L ∧ FrameEnd U o U' L ({ frames := 0, cells := 0, slots := 0, locals := 0 } : Room).cells ({ frames := 0, cells := 0, slots := 0, locals := 0 } : Room).slots) := by
  refine own_body (plainFor_of_name pn_1) ?_
  intro p e s m below meth c s₁ G hx hby hml hZ hown hnm hret X0 e0 step fin
  replace hown : s.vm.findClass "org/vouchsafe/Dom" = some m.cls := hown
  replace hnm : meth.name = "isXmlSpace" := hnm
  replace hret : meth.sig.returnType = some .boolean := hret
  replace hml : c.maxLocals = 1 := hml
  have N0 := Fr.nil n0
  refine step (s₁.setTop (mkF m 0 #[.val (.int i1)] [])) (fun t k => castTop (ef_1_1 m i1) k) ?_
  refine step (s₁.setTop (mkF m 1 #[.val (.int i1)] [(.int i1)])) (fun t k => XS.iloadN X0.here hx rfl (hb hby d1_0) rfl k) ?_
  refine step (s₁.setTop (mkF m 3 #[.val (.int i1)] [(.int (32 : Int32)), (.int i1)])) (fun t k => XS.bipush X0.here hx rfl (hb hby d1_1) k) ?_
  suffices J29_2 : ∀ (z29_1 : Int32), z29_1 = (if i1 = (32 : Int32) then (1 : Int32) else (if i1 = (9 : Int32) then (1 : Int32) else (if i1 = (13 : Int32) then (1 : Int32) else (if i1 = (10 : Int32) then (1 : Int32) else (0 : Int32))))) → G (s₁.setTop (mkF m 29 #[.val (.int i1)] [(.int z29_1)])) by
    by_cases hc3_3 : i1 = (32 : Int32)
    · -- 3 True
      refine step (s₁.setTop (mkF m 24 #[.val (.int i1)] [])) (fun t k => XS.icmpYes X0.here hx rfl (pc0 := 3) (pc' := 24) rfl (hb hby d1_3) rfl (teq hc3_3).1 (by decide) (by decide) k) ?_
      refine step (s₁.setTop (mkF m 25 #[.val (.int i1)] [(.int (1 : Int32))])) (fun t k => XS.iconst X0.here hx rfl (hb hby d1_24) k) ?_
      refine step (s₁.setTop (mkF m 29 #[.val (.int i1)] [(.int (1 : Int32))])) (fun t k => XS.goto X0.here hx rfl (pc0 := 25) (pc' := 29) rfl (hb hby d1_25) (by decide) (by decide) k) ?_
      exact J29_2 _ (by simp only [if_pos hc3_3, if_true, if_false])
    · -- 3 False
      refine step (s₁.setTop (mkF m 6 #[.val (.int i1)] [])) (fun t k => XS.icmpNo X0.here hx rfl (hb hby d1_3) rfl (feq hc3_3).1 k) ?_
      refine step (s₁.setTop (mkF m 7 #[.val (.int i1)] [(.int i1)])) (fun t k => XS.iloadN X0.here hx rfl (hb hby d1_6) rfl k) ?_
      refine step (s₁.setTop (mkF m 9 #[.val (.int i1)] [(.int (9 : Int32)), (.int i1)])) (fun t k => XS.bipush X0.here hx rfl (hb hby d1_7) k) ?_
      by_cases hc9_4 : i1 = (9 : Int32)
      · -- 9 True
        refine step (s₁.setTop (mkF m 24 #[.val (.int i1)] [])) (fun t k => XS.icmpYes X0.here hx rfl (pc0 := 9) (pc' := 24) rfl (hb hby d1_9) rfl (teq hc9_4).1 (by decide) (by decide) k) ?_
        refine step (s₁.setTop (mkF m 25 #[.val (.int i1)] [(.int (1 : Int32))])) (fun t k => XS.iconst X0.here hx rfl (hb hby d1_24) k) ?_
        refine step (s₁.setTop (mkF m 29 #[.val (.int i1)] [(.int (1 : Int32))])) (fun t k => XS.goto X0.here hx rfl (pc0 := 25) (pc' := 29) rfl (hb hby d1_25) (by decide) (by decide) k) ?_
        exact J29_2 _ (by simp only [if_neg hc3_3, if_pos hc9_4, if_true, if_false])
      · -- 9 False
        refine step (s₁.setTop (mkF m 12 #[.val (.int i1)] [])) (fun t k => XS.icmpNo X0.here hx rfl (hb hby d1_9) rfl (feq hc9_4).1 k) ?_
        refine step (s₁.setTop (mkF m 13 #[.val (.int i1)] [(.int i1)])) (fun t k => XS.iloadN X0.here hx rfl (hb hby d1_12) rfl k) ?_
        refine step (s₁.setTop (mkF m 15 #[.val (.int i1)] [(.int (13 : Int32)), (.int i1)])) (fun t k => XS.bipush X0.here hx rfl (hb hby d1_13) k) ?_
        by_cases hc15_5 : i1 = (13 : Int32)
        · -- 15 True
          refine step (s₁.setTop (mkF m 24 #[.val (.int i1)] [])) (fun t k => XS.icmpYes X0.here hx rfl (pc0 := 15) (pc' := 24) rfl (hb hby d1_15) rfl (teq hc15_5).1 (by decide) (by decide) k) ?_
          refine step (s₁.setTop (mkF m 25 #[.val (.int i1)] [(.int (1 : Int32))])) (fun t k => XS.iconst X0.here hx rfl (hb hby d1_24) k) ?_
          refine step (s₁.setTop (mkF m 29 #[.val (.int i1)] [(.int (1 : Int32))])) (fun t k => XS.goto X0.here hx rfl (pc0 := 25) (pc' := 29) rfl (hb hby d1_25) (by decide) (by decide) k) ?_
          exact J29_2 _ (by simp only [if_neg hc3_3, if_neg hc9_4, if_pos hc15_5, if_true, if_false])
        · -- 15 False
          refine step (s₁.setTop (mkF m 18 #[.val (.int i1)] [])) (fun t k => XS.icmpNo X0.here hx rfl (hb hby d1_15) rfl (feq hc15_5).1 k) ?_
          refine step (s₁.setTop (mkF m 19 #[.val (.int i1)] [(.int i1)])) (fun t k => XS.iloadN X0.here hx rfl (hb hby d1_18) rfl k) ?_
          refine step (s₁.setTop (mkF m 21 #[.val (.int i1)] [(.int (10 : Int32)), (.int i1)])) (fun t k => XS.bipush X0.here hx rfl (hb hby d1_19) k) ?_
          by_cases hc21_6 : i1 = (10 : Int32)
          · -- 21 True
            refine step (s₁.setTop (mkF m 24 #[.val (.int i1)] [])) (fun t k => XS.icmpNo X0.here hx rfl (hb hby d1_21) rfl (teq hc21_6).2 k) ?_
            refine step (s₁.setTop (mkF m 25 #[.val (.int i1)] [(.int (1 : Int32))])) (fun t k => XS.iconst X0.here hx rfl (hb hby d1_24) k) ?_
            refine step (s₁.setTop (mkF m 29 #[.val (.int i1)] [(.int (1 : Int32))])) (fun t k => XS.goto X0.here hx rfl (pc0 := 25) (pc' := 29) rfl (hb hby d1_25) (by decide) (by decide) k) ?_
            exact J29_2 _ (by simp only [if_neg hc3_3, if_neg hc9_4, if_neg hc15_5, if_pos hc21_6, if_true, if_false])
          · -- 21 False
            refine step (s₁.setTop (mkF m 28 #[.val (.int i1)] [])) (fun t k => XS.icmpYes X0.here hx rfl (pc0 := 21) (pc' := 28) rfl (hb hby d1_21) rfl (feq hc21_6).2 (by decide) (by decide) k) ?_
            refine step (s₁.setTop (mkF m 29 #[.val (.int i1)] [(.int (0 : Int32))])) (fun t k => XS.iconst X0.here hx rfl (hb hby d1_28) k) ?_
            exact J29_2 _ (by simp only [if_neg hc3_3, if_neg hc9_4, if_neg hc15_5, if_neg hc21_6, if_true, if_false])
  intro z29_1 hz29_1
  refine fin (v := some (.int (nar .boolean z29_1))) X0 (fun h => by cases h) ?_ (by decide) (by decide) (fun fs hr => retN X0 hx (t := .boolean) hret (by simp) (hb hby d1_29) hr)
  show Q1_1 Z i1 h0 n0 (some (.int (nar .boolean z29_1))) s₁.heap _
  rw [e0]
  exact ⟨z29_1, (congrArg (fun z => some (Value.int z)) (by rw [hz29_1]; (repeat' split) <;> rfl)), N0, rfl, hz29_1⟩
theorem d2_0 : decode method_2_code 0 = .ok (.ldc2_w 7, 3) := by decide +kernel
theorem d2_3 : decode method_2_code 3 = .ok (.lstore_n 1, 1) := by decide +kernel
theorem d2_4 : decode method_2_code 4 = .ok (.iload_n 0, 1) := by decide +kernel
theorem d2_5 : decode method_2_code 5 = .ok (.bipush 32, 2) := by decide +kernel
theorem d2_7 : decode method_2_code 7 = .ok (.if_icmp .le 5, 3) := by decide +kernel
theorem d2_10 : decode method_2_code 10 = .ok (.iconst 0, 1) := by decide +kernel
theorem d2_11 : decode method_2_code 11 = .ok (.ireturn, 1) := by decide +kernel
theorem d2_12 : decode method_2_code 12 = .ok (.lconst 1, 1) := by decide +kernel
theorem d2_13 : decode method_2_code 13 = .ok (.iload_n 0, 1) := by decide +kernel
theorem d2_14 : decode method_2_code 14 = .ok (.lshl, 1) := by decide +kernel
theorem d2_15 : decode method_2_code 15 = .ok (.lload_n 1, 1) := by decide +kernel
theorem d2_16 : decode method_2_code 16 = .ok (.land, 1) := by decide +kernel
theorem d2_17 : decode method_2_code 17 = .ok (.lconst 0, 1) := by decide +kernel
theorem d2_18 : decode method_2_code 18 = .ok (.lcmp, 1) := by decide +kernel
theorem d2_19 : decode method_2_code 19 = .ok (.ifCond .eq 7, 3) := by decide +kernel
theorem d2_22 : decode method_2_code 22 = .ok (.iconst 1, 1) := by decide +kernel
theorem d2_23 : decode method_2_code 23 = .ok (.goto 4, 3) := by decide +kernel
theorem d2_26 : decode method_2_code 26 = .ok (.iconst 0, 1) := by decide +kernel
theorem d2_27 : decode method_2_code 27 = .ok (.ireturn, 1) := by decide +kernel
theorem ef_2_2 (m : MethodId) (x0 : Int32) : entryFrame m #[(.int x0)] 3 = mkF m 0 #[.val (.int x0), .unset, .unset] [] := by first | (simp [entryFrame, mkF, argsToLocals, Value.category]; done) | rfl
def Q2_2 (Z : State) (i1 : Int32) (h0 : Heap) (n0 : Nat) (v : Option Value) (h : Heap) (L : List Loc) : Prop := ∃ (z_1 : Int32), v = some (.int z_1) ∧ Fr n0 L ∧ h = h0 ∧ z_1 = (if (32 : Int32) < i1 then (0 : Int32) else (if (((1 : Int64) <<< (i1 &&& 0x3f).toInt64) &&& (4294977024 : Int64)) = (0 : Int64) then (0 : Int32) else (1 : Int32)))
set_option maxRecDepth 65536 in
set_option maxHeartbeats 40000000 in
theorem rm2_2 (l : Launch) (Z : State) (a0 : Array Value) (hw : ∀ d ∈ tables_1, d.before a0 Z = true) (ws : List Jvm.Cond) (i1 : Int32) (h0 : Heap) (n0 : Nat) (Z0 : n0 ≤ h0.size)  :
    MetFree l (⟨"org/vouchsafe/DomIsXmlSpacePinLaw", "expected", "(C)Z"⟩ : MethodName) (head1 (Jvm.Cond.code (⟨"org/vouchsafe/DomIsXmlSpacePinLaw", "expected", "(C)Z"⟩ : MethodName) method_2_code 3 (some .boolean) :: ws) ({ frames := 0, cells := 0, slots := 0, locals := 0 } : Room)) (fun a U => a = #[(.int i1)] ∧ Z.Warmed39 U.vm ∧ U.heap = h0) (fun _ _ _ _ _ => True) (fun _ U o U' => ∃ v L, o = .returned v ∧ Q2_2 Z i1 h0 n0 v U'.heap L ∧ FrameEnd U o U' L ({ frames := 0, cells := 0, slots := 0, locals := 0 } : Room).cells ({ frames := 0, cells := 0, slots := 0, locals := 0 } : Room).slots) := by
  refine own_body (plainFor_of_name pn_0) ?_
  intro p e s m below meth c s₁ G hx hby hml hZ hown hnm hret X0 e0 step fin
  replace hown : s.vm.findClass "org/vouchsafe/DomIsXmlSpacePinLaw" = some m.cls := hown
  replace hnm : meth.name = "expected" := hnm
  replace hret : meth.sig.returnType = some .boolean := hret
  replace hml : c.maxLocals = 3 := hml
  have N0 := Fr.nil n0
  refine step (s₁.setTop (mkF m 0 #[.val (.int i1), .unset, .unset] [])) (fun t k => castTop (ef_2_2 m i1) k) ?_
  refine step (s₁.setTop (mkF m 3 #[.val (.int i1), .unset, .unset] [(.long (4294977024 : Int64))])) (fun t k => X0.ldc2Long hx hown (mvT hZ (hw _ (List.mem_of_getElem? (i := 10) rfl))) (g := (mkF m 0 #[.val (.int i1), .unset, .unset] [])) rfl (hb hby d2_0) t k) ?_
  refine step (s₁.setTop (mkF m 4 #[.val (.int i1), .val (.long (4294977024 : Int64)), .second] [])) (fun t k => XS.lstoreN X0.here hx rfl (hb hby d2_3) rfl (l' := #[.val (.int i1), .val (.long (4294977024 : Int64)), .second]) rfl k) ?_
  refine step (s₁.setTop (mkF m 5 #[.val (.int i1), .val (.long (4294977024 : Int64)), .second] [(.int i1)])) (fun t k => XS.iloadN X0.here hx rfl (hb hby d2_4) rfl k) ?_
  refine step (s₁.setTop (mkF m 7 #[.val (.int i1), .val (.long (4294977024 : Int64)), .second] [(.int (32 : Int32)), (.int i1)])) (fun t k => XS.bipush X0.here hx rfl (hb hby d2_5) k) ?_
  by_cases hc7_2 : (32 : Int32) < i1
  · -- 7 True
    refine step (s₁.setTop (mkF m 10 #[.val (.int i1), .val (.long (4294977024 : Int64)), .second] [])) (fun t k => XS.icmpNo X0.here hx rfl (hb hby d2_7) rfl (tlt hc7_2).2.2.2 k) ?_
    refine step (s₁.setTop (mkF m 11 #[.val (.int i1), .val (.long (4294977024 : Int64)), .second] [(.int (0 : Int32))])) (fun t k => XS.iconst X0.here hx rfl (hb hby d2_10) k) ?_
    refine fin (v := some (.int (nar .boolean (0 : Int32)))) X0 (fun h => by cases h) ?_ (by decide) (by decide) (fun fs hr => retN X0 hx (t := .boolean) hret (by simp) (hb hby d2_11) hr)
    show Q2_2 Z i1 h0 n0 (some (.int (nar .boolean (0 : Int32)))) s₁.heap _
    rw [e0]
    exact ⟨(0 : Int32), rfl, N0, rfl, (by simp only [if_pos hc7_2, if_true, if_false])⟩
  · -- 7 False
    refine step (s₁.setTop (mkF m 12 #[.val (.int i1), .val (.long (4294977024 : Int64)), .second] [])) (fun t k => XS.icmpYes X0.here hx rfl (pc0 := 7) (pc' := 12) rfl (hb hby d2_7) rfl (flt hc7_2).2.2.2 (by decide) (by decide) k) ?_
    refine step (s₁.setTop (mkF m 13 #[.val (.int i1), .val (.long (4294977024 : Int64)), .second] [(.long (1 : Int64))])) (fun t k => XS.lconst X0.here hx rfl (hb hby d2_12) k) ?_
    refine step (s₁.setTop (mkF m 14 #[.val (.int i1), .val (.long (4294977024 : Int64)), .second] [(.int i1), (.long (1 : Int64))])) (fun t k => XS.iloadN X0.here hx rfl (hb hby d2_13) rfl k) ?_
    refine step (s₁.setTop (mkF m 15 #[.val (.int i1), .val (.long (4294977024 : Int64)), .second] [(.long ((1 : Int64) <<< (i1 &&& 0x3f).toInt64))])) (fun t k => XS.lshl X0.here hx rfl (hb hby d2_14) rfl k) ?_
    refine step (s₁.setTop (mkF m 16 #[.val (.int i1), .val (.long (4294977024 : Int64)), .second] [(.long (4294977024 : Int64)), (.long ((1 : Int64) <<< (i1 &&& 0x3f).toInt64))])) (fun t k => XS.lloadN X0.here hx rfl (hb hby d2_15) rfl k) ?_
    refine step (s₁.setTop (mkF m 17 #[.val (.int i1), .val (.long (4294977024 : Int64)), .second] [(.long (((1 : Int64) <<< (i1 &&& 0x3f).toInt64) &&& (4294977024 : Int64)))])) (fun t k => XS.land X0.here hx rfl (hb hby d2_16) rfl k) ?_
    refine step (s₁.setTop (mkF m 18 #[.val (.int i1), .val (.long (4294977024 : Int64)), .second] [(.long (0 : Int64)), (.long (((1 : Int64) <<< (i1 &&& 0x3f).toInt64) &&& (4294977024 : Int64)))])) (fun t k => XS.lconst X0.here hx rfl (hb hby d2_17) k) ?_
    refine step (s₁.setTop (mkF m 19 #[.val (.int i1), .val (.long (4294977024 : Int64)), .second] [(.int (lcmpW (((1 : Int64) <<< (i1 &&& 0x3f).toInt64) &&& (4294977024 : Int64)) (0 : Int64)))])) (fun t k => XS.lcmp X0.here hx rfl (hb hby d2_18) rfl k) ?_
    by_cases hc19_3 : (((1 : Int64) <<< (i1 &&& 0x3f).toInt64) &&& (4294977024 : Int64)) = (0 : Int64)
    · -- 19 True
      refine step (s₁.setTop (mkF m 26 #[.val (.int i1), .val (.long (4294977024 : Int64)), .second] [])) (fun t k => XS.ifYes X0.here hx rfl (pc0 := 19) (pc' := 26) rfl (hb hby d2_19) rfl ((if0 _ _).trans (teq ((lw_eq _ _).mpr hc19_3)).1) (by decide) (by decide) k) ?_
      refine step (s₁.setTop (mkF m 27 #[.val (.int i1), .val (.long (4294977024 : Int64)), .second] [(.int (0 : Int32))])) (fun t k => XS.iconst X0.here hx rfl (hb hby d2_26) k) ?_
      refine fin (v := some (.int (nar .boolean (0 : Int32)))) X0 (fun h => by cases h) ?_ (by decide) (by decide) (fun fs hr => retN X0 hx (t := .boolean) hret (by simp) (hb hby d2_27) hr)
      show Q2_2 Z i1 h0 n0 (some (.int (nar .boolean (0 : Int32)))) s₁.heap _
      rw [e0]
      exact ⟨(0 : Int32), rfl, N0, rfl, (by simp only [if_neg hc7_2, if_pos hc19_3, if_true, if_false])⟩
    · -- 19 False
      refine step (s₁.setTop (mkF m 22 #[.val (.int i1), .val (.long (4294977024 : Int64)), .second] [])) (fun t k => XS.ifNo X0.here hx rfl (hb hby d2_19) rfl ((if0 _ _).trans (feq (fun q => hc19_3 ((lw_eq _ _).mp q))).1) k) ?_
      refine step (s₁.setTop (mkF m 23 #[.val (.int i1), .val (.long (4294977024 : Int64)), .second] [(.int (1 : Int32))])) (fun t k => XS.iconst X0.here hx rfl (hb hby d2_22) k) ?_
      refine step (s₁.setTop (mkF m 27 #[.val (.int i1), .val (.long (4294977024 : Int64)), .second] [(.int (1 : Int32))])) (fun t k => XS.goto X0.here hx rfl (pc0 := 23) (pc' := 27) rfl (hb hby d2_23) (by decide) (by decide) k) ?_
      refine fin (v := some (.int (nar .boolean (1 : Int32)))) X0 (fun h => by cases h) ?_ (by decide) (by decide) (fun fs hr => retN X0 hx (t := .boolean) hret (by simp) (hb hby d2_27) hr)
      show Q2_2 Z i1 h0 n0 (some (.int (nar .boolean (1 : Int32)))) s₁.heap _
      rw [e0]
      exact ⟨(1 : Int32), rfl, N0, rfl, (by simp only [if_neg hc7_2, if_neg hc19_3, if_true, if_false])⟩
theorem own_plain2 (p0 : Int32) (p1 : Int32) (c0 : Int32) (i : Int32) (d : Int32) (z29_1_19 : Int32) (z_1_20 : Int32) (z133_21 : Int32) (z29_1_24 : Int32) (z151_25 : Int32) (z159_28 : Int32) (z176_31 : Int32) (hc0 : ((p0 &&& (65535 : Int32)).toUInt32.toUInt16.toUInt32.toInt32) = c0) (hi : (p1 &&& (15 : Int32)) = i) (hd2 : i < 4 ↔ (d = 32 ∨ d = 9 ∨ d = 13 ∨ d = 10)) (hz29_1_19 : z29_1_19 = (if c0 = (32 : Int32) then (1 : Int32) else (if c0 = (9 : Int32) then (1 : Int32) else (if c0 = (13 : Int32) then (1 : Int32) else (if c0 = (10 : Int32) then (1 : Int32) else (0 : Int32)))))) (hz_1_20 : z_1_20 = (if (32 : Int32) < c0 then (0 : Int32) else (if (((1 : Int64) <<< (c0 &&& 0x3f).toInt64) &&& (4294977024 : Int64)) = (0 : Int64) then (0 : Int32) else (1 : Int32)))) (hz133_21 : z133_21 = (if z29_1_19 = z_1_20 then (1 : Int32) else (0 : Int32))) (hz29_1_24 : z29_1_24 = (if d = (32 : Int32) then (1 : Int32) else (if d = (9 : Int32) then (1 : Int32) else (if d = (13 : Int32) then (1 : Int32) else (if d = (10 : Int32) then (1 : Int32) else (0 : Int32)))))) (hz151_25 : z151_25 = (if i < (4 : Int32) then (1 : Int32) else (0 : Int32))) (hz159_28 : z159_28 = (if z29_1_24 = z151_25 then (1 : Int32) else (0 : Int32))) (hz176_31 : z176_31 = (if z133_21 = (0 : Int32) then (0 : Int32) else (if z159_28 = (0 : Int32) then (0 : Int32) else (1 : Int32)))) : z176_31 = 1 := by
  have hb := c_i2c (p0 &&& (65535 : Int32))
  rw [hc0] at hb
  obtain ⟨-, hb0, hb1⟩ := hb
  clear hc0 hi
  have f1 : z133_21 = 1 := by
    clear hz176_31
    subst hz133_21 hz29_1_19 hz_1_20
    by_cases hs : (32 : Int32) < c0
    · have hs' := hs
      rw [Int32.lt_iff_toInt_lt, show (32 : Int32).toInt = 32 by decide] at hs'
      have n1 : ¬ (c0 = (32 : Int32)) := by rw [← Int32.toInt_inj, show (32 : Int32).toInt = 32 by decide]; omega
      have n2 : ¬ (c0 = (9 : Int32)) := by rw [← Int32.toInt_inj, show (9 : Int32).toInt = 9 by decide]; omega
      have n3 : ¬ (c0 = (13 : Int32)) := by rw [← Int32.toInt_inj, show (13 : Int32).toInt = 13 by decide]; omega
      have n4 : ¬ (c0 = (10 : Int32)) := by rw [← Int32.toInt_inj, show (10 : Int32).toInt = 10 by decide]; omega
      simp only [if_pos hs, if_neg n1, if_neg n2, if_neg n3, if_neg n4]
      decide
    · have hs' := hs
      rw [Int32.lt_iff_toInt_lt, show (32 : Int32).toInt = 32 by decide] at hs'
      obtain ⟨n, hn, rfl⟩ : ∃ n : Nat, n < 33 ∧ c0 = Int32.ofNat n := ⟨c0.toInt.toNat, by omega, Int32.toInt_inj.mp (by rw [Int32.toInt_ofNat_small (by omega)]; omega)⟩
      clear hb0 hb1 hs hs'
      revert n
      decide +kernel
  have f2 : z159_28 = 1 := by
    clear hz176_31
    subst hz159_28 hz29_1_24 hz151_25
    by_cases q : i < (4 : Int32)
    · rcases hd2.mp q with rfl | rfl | rfl | rfl <;> simp only [if_pos q] <;> decide
    · have n := fun h => q (hd2.mpr h)
      have n1 : ¬ (d = (32 : Int32)) := fun h => n (Or.inl h)
      have n2 : ¬ (d = (9 : Int32)) := fun h => n (Or.inr (Or.inl h))
      have n3 : ¬ (d = (13 : Int32)) := fun h => n (Or.inr (Or.inr (Or.inl h)))
      have n4 : ¬ (d = (10 : Int32)) := fun h => n (Or.inr (Or.inr (Or.inr h)))
      simp only [if_neg q, if_neg n1, if_neg n2, if_neg n3, if_neg n4]
      decide
  rw [hz176_31, f1, f2]
  decide
theorem ef_0 (m : MethodId) (x0 : Int32) (x1 : Int32) : entryFrame m #[(.int x0), (.int x1)] maxLocals = mkF m 0 #[.val (.int x0), .val (.int x1), .unset, .unset, .unset, .unset, .unset, .unset] [] := by first | (simp [entryFrame, mkF, argsToLocals, Value.category, maxLocals]; done) | rfl
def Q0 (Z : State) (p0 p1 : Int32) (h0 : Heap) (n0 : Nat) (v : Option Value) (h : Heap) (L : List Loc) : Prop := v = some (.int 1) ∧ Fr n0 L
set_option maxRecDepth 65536 in
set_option maxHeartbeats 40000000 in
theorem rm0 (l : Launch) (Z : State) (a0 : Array Value) (hw : ∀ d ∈ tables_1, d.before a0 Z = true) (ws : List Jvm.Cond) (p0 p1 : Int32) (h0 : Heap) (n0 : Nat) (Z0 : n0 ≤ h0.size)  :
    MetFree l x (head1 (Jvm.Cond.code x code maxLocals ret :: ws) room_1) (fun a U => a = #[(.int p0), (.int p1)] ∧ Z.Warmed39 U.vm ∧ U.heap = h0) (fun _ _ _ _ _ => True) (fun _ U o U' => ∃ v L, o = .returned v ∧ Q0 Z p0 p1 h0 n0 v U'.heap L ∧ FrameEnd U o U' L room_1.cells room_1.slots) := by
  refine own_body (plainFor_of_name pn_0) ?_
  intro p e s m below meth c s₁ G hx hby hml hZ hown hnm hret X0 e0 step fin
  replace hown : s.vm.findClass "org/vouchsafe/DomIsXmlSpacePinLaw" = some m.cls := hown
  replace hnm : meth.name = "law" := hnm
  replace hret : meth.sig.returnType = some .boolean := hret
  replace hml : c.maxLocals = 8 := hml
  have N0 := Fr.nil n0
  refine step (s₁.setTop (mkF m 0 #[.val (.int p0), .val (.int p1), .unset, .unset, .unset, .unset, .unset, .unset] [])) (fun t k => castTop (ef_0 m p0 p1) k) ?_
  refine step (s₁.setTop (mkF m 1 #[.val (.int p0), .val (.int p1), .unset, .unset, .unset, .unset, .unset, .unset] [(.int p0)])) (fun t k => XS.iloadN X0.here hx rfl (hb hby at_0) rfl k) ?_
  refine step (s₁.setTop (mkF m 3 #[.val (.int p0), .val (.int p1), .unset, .unset, .unset, .unset, .unset, .unset] [(.int (65535 : Int32)), (.int p0)])) (fun t k => X0.ldcInt hx hown (mvT hZ (hw _ (List.mem_of_getElem? (i := 0) rfl))) (g := (mkF m 1 #[.val (.int p0), .val (.int p1), .unset, .unset, .unset, .unset, .unset, .unset] [(.int p0)])) rfl (hb hby at_1) t k) ?_
  refine step (s₁.setTop (mkF m 4 #[.val (.int p0), .val (.int p1), .unset, .unset, .unset, .unset, .unset, .unset] [(.int (p0 &&& (65535 : Int32)))])) (fun t k => XS.iand X0.here hx rfl (hb hby at_3) rfl k) ?_
  refine step (s₁.setTop (mkF m 5 #[.val (.int p0), .val (.int p1), .unset, .unset, .unset, .unset, .unset, .unset] [(.int ((p0 &&& (65535 : Int32)).toUInt32.toUInt16.toUInt32.toInt32))])) (fun t k => XS.i2c X0.here hx rfl (hb hby at_4) rfl k) ?_
  generalize hc0 : ((p0 &&& (65535 : Int32)).toUInt32.toUInt16.toUInt32.toInt32) = c0
  refine step (s₁.setTop (mkF m 6 #[.val (.int p0), .val (.int p1), .val (.int c0), .unset, .unset, .unset, .unset, .unset] [])) (fun t k => XS.istoreN X0.here hx rfl (hb hby at_5) rfl (l' := #[.val (.int p0), .val (.int p1), .val (.int c0), .unset, .unset, .unset, .unset, .unset]) rfl k) ?_
  refine step (s₁.setTop (mkF m 8 #[.val (.int p0), .val (.int p1), .val (.int c0), .unset, .unset, .unset, .unset, .unset] [(.int (16 : Int32))])) (fun t k => XS.bipush X0.here hx rfl (hb hby at_6) k) ?_
  obtain ⟨T1, h1, k1, X1, e1, E1, A1, st1⟩ := newP X0 hx hZ (hw _ (List.mem_of_getElem? (i := 1) rfl)) e0 (g := (mkF m 8 #[.val (.int p0), .val (.int p1), .val (.int c0), .unset, .unset, .unset, .unset, .unset] [(.int (16 : Int32))])) rfl (hb hby at_8) rfl (by decide) (cap := 16) (by decide) (by decide) (by decide) (by decide)
  obtain ⟨b1, g1⟩ : ∃ z, z = h0.size := ⟨_, rfl⟩
  rw [← g1] at A1 st1
  have gn_b1 : n0 ≤ b1 := Nat.le_trans Z0 (Nat.le_of_eq g1.symm)
  have sz_b1 : h0.size ≤ b1 := Nat.le_of_eq g1.symm
  have K1 : Keep h0 h1 [] := (Keep.refl h0 []).ext E1
  have V1 : Arv Z h1 b1 k1 .char (16 : Int32) [(.int (0 : Int32)), (.int (0 : Int32)), (.int (0 : Int32)), (.int (0 : Int32)), (.int (0 : Int32)), (.int (0 : Int32)), (.int (0 : Int32)), (.int (0 : Int32)), (.int (0 : Int32)), (.int (0 : Int32)), (.int (0 : Int32)), (.int (0 : Int32)), (.int (0 : Int32)), (.int (0 : Int32)), (.int (0 : Int32)), (.int (0 : Int32))] (.int (0 : Int32)) := (Arv.new A1 (by decide)).pad (pad_rep [] (.int (0 : Int32)) 16)
  refine step (T1.setTop (mkF m 10 #[.val (.int p0), .val (.int p1), .val (.int c0), .unset, .unset, .unset, .unset, .unset] [(.ref b1)])) (fun t k => st1 t k) ?_
  refine step (T1.setTop (mkF m 11 #[.val (.int p0), .val (.int p1), .val (.int c0), .unset, .unset, .unset, .unset, .unset] [(.ref b1), (.ref b1)])) (fun t k => XS.dup X1.here hx rfl (hb hby at_10) rfl rfl k) ?_
  refine step (T1.setTop (mkF m 12 #[.val (.int p0), .val (.int p1), .val (.int c0), .unset, .unset, .unset, .unset, .unset] [(.int (0 : Int32)), (.ref b1), (.ref b1)])) (fun t k => XS.iconst X1.here hx rfl (hb hby at_11) k) ?_
  refine step (T1.setTop (mkF m 14 #[.val (.int p0), .val (.int p1), .val (.int c0), .unset, .unset, .unset, .unset, .unset] [(.int (9 : Int32)), (.int (0 : Int32)), (.ref b1), (.ref b1)])) (fun t k => XS.bipush X1.here hx rfl (hb hby at_12) k) ?_
  obtain ⟨cl2, Ar2, q2, S2, N2n, H2, G2⟩ := id V1
  have hin2 : ¬ ((0 : Int32) < 0 ∨ cl2.slots.size ≤ ((0 : Int32)).toNatClampNeg) := inb_of S2 ⟨by decide, by decide⟩
  obtain ⟨T2, h2, X2, e2, W2, st2⟩ := stC X1 hx hZ e1 Ar2 (j := (0 : Int32)) hin2 (g := (mkF m 14 #[.val (.int p0), .val (.int p1), .val (.int c0), .unset, .unset, .unset, .unset, .unset] [(.int (9 : Int32)), (.int (0 : Int32)), (.ref b1), (.ref b1)])) rfl rfl (hb hby at_14)
  have N2 := Fr.snoc X2 N0 gn_b1
  have K2 : Keep h0 h2 [] := K1.wr W2 (Or.inr sz_b1)
  have V2 : Arv Z h2 b1 k1 .char (16 : Int32) [(.int (9 : Int32)), (.int (0 : Int32)), (.int (0 : Int32)), (.int (0 : Int32)), (.int (0 : Int32)), (.int (0 : Int32)), (.int (0 : Int32)), (.int (0 : Int32)), (.int (0 : Int32)), (.int (0 : Int32)), (.int (0 : Int32)), (.int (0 : Int32)), (.int (0 : Int32)), (.int (0 : Int32)), (.int (0 : Int32)), (.int (0 : Int32))] (.int (0 : Int32)) := Arv.set Ar2 q2 S2 N2n H2 G2 (fits_nar_char (9 : Int32)) W2 0 rfl (Nat.le_of_ble_eq_true rfl)
  refine step (T2.setTop (mkF m 15 #[.val (.int p0), .val (.int p1), .val (.int c0), .unset, .unset, .unset, .unset, .unset] [(.ref b1)])) (fun t k => st2 t k) ?_
  refine step (T2.setTop (mkF m 16 #[.val (.int p0), .val (.int p1), .val (.int c0), .unset, .unset, .unset, .unset, .unset] [(.ref b1), (.ref b1)])) (fun t k => XS.dup X2.here hx rfl (hb hby at_15) rfl rfl k) ?_
  refine step (T2.setTop (mkF m 17 #[.val (.int p0), .val (.int p1), .val (.int c0), .unset, .unset, .unset, .unset, .unset] [(.int (1 : Int32)), (.ref b1), (.ref b1)])) (fun t k => XS.iconst X2.here hx rfl (hb hby at_16) k) ?_
  refine step (T2.setTop (mkF m 19 #[.val (.int p0), .val (.int p1), .val (.int c0), .unset, .unset, .unset, .unset, .unset] [(.int (10 : Int32)), (.int (1 : Int32)), (.ref b1), (.ref b1)])) (fun t k => XS.bipush X2.here hx rfl (hb hby at_17) k) ?_
  obtain ⟨cl3, Ar3, q3, S3, N3n, H3, G3⟩ := id V2
  have hin3 : ¬ ((1 : Int32) < 0 ∨ cl3.slots.size ≤ ((1 : Int32)).toNatClampNeg) := inb_of S3 ⟨by decide, by decide⟩
  obtain ⟨T3, h3, X3, e3, W3, st3⟩ := stC X2 hx hZ e2 Ar3 (j := (1 : Int32)) hin3 (g := (mkF m 19 #[.val (.int p0), .val (.int p1), .val (.int c0), .unset, .unset, .unset, .unset, .unset] [(.int (10 : Int32)), (.int (1 : Int32)), (.ref b1), (.ref b1)])) rfl rfl (hb hby at_19)
  have N3 := Fr.snoc X3 N2 gn_b1
  have K3 : Keep h0 h3 [] := K2.wr W3 (Or.inr sz_b1)
  have V3 : Arv Z h3 b1 k1 .char (16 : Int32) [(.int (9 : Int32)), (.int (10 : Int32)), (.int (0 : Int32)), (.int (0 : Int32)), (.int (0 : Int32)), (.int (0 : Int32)), (.int (0 : Int32)), (.int (0 : Int32)), (.int (0 : Int32)), (.int (0 : Int32)), (.int (0 : Int32)), (.int (0 : Int32)), (.int (0 : Int32)), (.int (0 : Int32)), (.int (0 : Int32)), (.int (0 : Int32))] (.int (0 : Int32)) := Arv.set Ar3 q3 S3 N3n H3 G3 (fits_nar_char (10 : Int32)) W3 1 rfl (Nat.le_of_ble_eq_true rfl)
  refine step (T3.setTop (mkF m 20 #[.val (.int p0), .val (.int p1), .val (.int c0), .unset, .unset, .unset, .unset, .unset] [(.ref b1)])) (fun t k => st3 t k) ?_
  refine step (T3.setTop (mkF m 21 #[.val (.int p0), .val (.int p1), .val (.int c0), .unset, .unset, .unset, .unset, .unset] [(.ref b1), (.ref b1)])) (fun t k => XS.dup X3.here hx rfl (hb hby at_20) rfl rfl k) ?_
  refine step (T3.setTop (mkF m 22 #[.val (.int p0), .val (.int p1), .val (.int c0), .unset, .unset, .unset, .unset, .unset] [(.int (2 : Int32)), (.ref b1), (.ref b1)])) (fun t k => XS.iconst X3.here hx rfl (hb hby at_21) k) ?_
  refine step (T3.setTop (mkF m 24 #[.val (.int p0), .val (.int p1), .val (.int c0), .unset, .unset, .unset, .unset, .unset] [(.int (13 : Int32)), (.int (2 : Int32)), (.ref b1), (.ref b1)])) (fun t k => XS.bipush X3.here hx rfl (hb hby at_22) k) ?_
  obtain ⟨cl4, Ar4, q4, S4, N4n, H4, G4⟩ := id V3
  have hin4 : ¬ ((2 : Int32) < 0 ∨ cl4.slots.size ≤ ((2 : Int32)).toNatClampNeg) := inb_of S4 ⟨by decide, by decide⟩
  obtain ⟨T4, h4, X4, e4, W4, st4⟩ := stC X3 hx hZ e3 Ar4 (j := (2 : Int32)) hin4 (g := (mkF m 24 #[.val (.int p0), .val (.int p1), .val (.int c0), .unset, .unset, .unset, .unset, .unset] [(.int (13 : Int32)), (.int (2 : Int32)), (.ref b1), (.ref b1)])) rfl rfl (hb hby at_24)
  have N4 := Fr.snoc X4 N3 gn_b1
  have K4 : Keep h0 h4 [] := K3.wr W4 (Or.inr sz_b1)
  have V4 : Arv Z h4 b1 k1 .char (16 : Int32) [(.int (9 : Int32)), (.int (10 : Int32)), (.int (13 : Int32)), (.int (0 : Int32)), (.int (0 : Int32)), (.int (0 : Int32)), (.int (0 : Int32)), (.int (0 : Int32)), (.int (0 : Int32)), (.int (0 : Int32)), (.int (0 : Int32)), (.int (0 : Int32)), (.int (0 : Int32)), (.int (0 : Int32)), (.int (0 : Int32)), (.int (0 : Int32))] (.int (0 : Int32)) := Arv.set Ar4 q4 S4 N4n H4 G4 (fits_nar_char (13 : Int32)) W4 2 rfl (Nat.le_of_ble_eq_true rfl)
  refine step (T4.setTop (mkF m 25 #[.val (.int p0), .val (.int p1), .val (.int c0), .unset, .unset, .unset, .unset, .unset] [(.ref b1)])) (fun t k => st4 t k) ?_
  refine step (T4.setTop (mkF m 26 #[.val (.int p0), .val (.int p1), .val (.int c0), .unset, .unset, .unset, .unset, .unset] [(.ref b1), (.ref b1)])) (fun t k => XS.dup X4.here hx rfl (hb hby at_25) rfl rfl k) ?_
  refine step (T4.setTop (mkF m 27 #[.val (.int p0), .val (.int p1), .val (.int c0), .unset, .unset, .unset, .unset, .unset] [(.int (3 : Int32)), (.ref b1), (.ref b1)])) (fun t k => XS.iconst X4.here hx rfl (hb hby at_26) k) ?_
  refine step (T4.setTop (mkF m 29 #[.val (.int p0), .val (.int p1), .val (.int c0), .unset, .unset, .unset, .unset, .unset] [(.int (32 : Int32)), (.int (3 : Int32)), (.ref b1), (.ref b1)])) (fun t k => XS.bipush X4.here hx rfl (hb hby at_27) k) ?_
  obtain ⟨cl5, Ar5, q5, S5, N5n, H5, G5⟩ := id V4
  have hin5 : ¬ ((3 : Int32) < 0 ∨ cl5.slots.size ≤ ((3 : Int32)).toNatClampNeg) := inb_of S5 ⟨by decide, by decide⟩
  obtain ⟨T5, h5, X5, e5, W5, st5⟩ := stC X4 hx hZ e4 Ar5 (j := (3 : Int32)) hin5 (g := (mkF m 29 #[.val (.int p0), .val (.int p1), .val (.int c0), .unset, .unset, .unset, .unset, .unset] [(.int (32 : Int32)), (.int (3 : Int32)), (.ref b1), (.ref b1)])) rfl rfl (hb hby at_29)
  have N5 := Fr.snoc X5 N4 gn_b1
  have K5 : Keep h0 h5 [] := K4.wr W5 (Or.inr sz_b1)
  have V5 : Arv Z h5 b1 k1 .char (16 : Int32) [(.int (9 : Int32)), (.int (10 : Int32)), (.int (13 : Int32)), (.int (32 : Int32)), (.int (0 : Int32)), (.int (0 : Int32)), (.int (0 : Int32)), (.int (0 : Int32)), (.int (0 : Int32)), (.int (0 : Int32)), (.int (0 : Int32)), (.int (0 : Int32)), (.int (0 : Int32)), (.int (0 : Int32)), (.int (0 : Int32)), (.int (0 : Int32))] (.int (0 : Int32)) := Arv.set Ar5 q5 S5 N5n H5 G5 (fits_nar_char (32 : Int32)) W5 3 rfl (Nat.le_of_ble_eq_true rfl)
  refine step (T5.setTop (mkF m 30 #[.val (.int p0), .val (.int p1), .val (.int c0), .unset, .unset, .unset, .unset, .unset] [(.ref b1)])) (fun t k => st5 t k) ?_
  refine step (T5.setTop (mkF m 31 #[.val (.int p0), .val (.int p1), .val (.int c0), .unset, .unset, .unset, .unset, .unset] [(.ref b1), (.ref b1)])) (fun t k => XS.dup X5.here hx rfl (hb hby at_30) rfl rfl k) ?_
  refine step (T5.setTop (mkF m 32 #[.val (.int p0), .val (.int p1), .val (.int c0), .unset, .unset, .unset, .unset, .unset] [(.int (4 : Int32)), (.ref b1), (.ref b1)])) (fun t k => XS.iconst X5.here hx rfl (hb hby at_31) k) ?_
  refine step (T5.setTop (mkF m 34 #[.val (.int p0), .val (.int p1), .val (.int c0), .unset, .unset, .unset, .unset, .unset] [(.int (11 : Int32)), (.int (4 : Int32)), (.ref b1), (.ref b1)])) (fun t k => XS.bipush X5.here hx rfl (hb hby at_32) k) ?_
  obtain ⟨cl6, Ar6, q6, S6, N6n, H6, G6⟩ := id V5
  have hin6 : ¬ ((4 : Int32) < 0 ∨ cl6.slots.size ≤ ((4 : Int32)).toNatClampNeg) := inb_of S6 ⟨by decide, by decide⟩
  obtain ⟨T6, h6, X6, e6, W6, st6⟩ := stC X5 hx hZ e5 Ar6 (j := (4 : Int32)) hin6 (g := (mkF m 34 #[.val (.int p0), .val (.int p1), .val (.int c0), .unset, .unset, .unset, .unset, .unset] [(.int (11 : Int32)), (.int (4 : Int32)), (.ref b1), (.ref b1)])) rfl rfl (hb hby at_34)
  have N6 := Fr.snoc X6 N5 gn_b1
  have K6 : Keep h0 h6 [] := K5.wr W6 (Or.inr sz_b1)
  have V6 : Arv Z h6 b1 k1 .char (16 : Int32) [(.int (9 : Int32)), (.int (10 : Int32)), (.int (13 : Int32)), (.int (32 : Int32)), (.int (11 : Int32)), (.int (0 : Int32)), (.int (0 : Int32)), (.int (0 : Int32)), (.int (0 : Int32)), (.int (0 : Int32)), (.int (0 : Int32)), (.int (0 : Int32)), (.int (0 : Int32)), (.int (0 : Int32)), (.int (0 : Int32)), (.int (0 : Int32))] (.int (0 : Int32)) := Arv.set Ar6 q6 S6 N6n H6 G6 (fits_nar_char (11 : Int32)) W6 4 rfl (Nat.le_of_ble_eq_true rfl)
  refine step (T6.setTop (mkF m 35 #[.val (.int p0), .val (.int p1), .val (.int c0), .unset, .unset, .unset, .unset, .unset] [(.ref b1)])) (fun t k => st6 t k) ?_
  refine step (T6.setTop (mkF m 36 #[.val (.int p0), .val (.int p1), .val (.int c0), .unset, .unset, .unset, .unset, .unset] [(.ref b1), (.ref b1)])) (fun t k => XS.dup X6.here hx rfl (hb hby at_35) rfl rfl k) ?_
  refine step (T6.setTop (mkF m 37 #[.val (.int p0), .val (.int p1), .val (.int c0), .unset, .unset, .unset, .unset, .unset] [(.int (5 : Int32)), (.ref b1), (.ref b1)])) (fun t k => XS.iconst X6.here hx rfl (hb hby at_36) k) ?_
  refine step (T6.setTop (mkF m 39 #[.val (.int p0), .val (.int p1), .val (.int c0), .unset, .unset, .unset, .unset, .unset] [(.int (12 : Int32)), (.int (5 : Int32)), (.ref b1), (.ref b1)])) (fun t k => XS.bipush X6.here hx rfl (hb hby at_37) k) ?_
  obtain ⟨cl7, Ar7, q7, S7, N7n, H7, G7⟩ := id V6
  have hin7 : ¬ ((5 : Int32) < 0 ∨ cl7.slots.size ≤ ((5 : Int32)).toNatClampNeg) := inb_of S7 ⟨by decide, by decide⟩
  obtain ⟨T7, h7, X7, e7, W7, st7⟩ := stC X6 hx hZ e6 Ar7 (j := (5 : Int32)) hin7 (g := (mkF m 39 #[.val (.int p0), .val (.int p1), .val (.int c0), .unset, .unset, .unset, .unset, .unset] [(.int (12 : Int32)), (.int (5 : Int32)), (.ref b1), (.ref b1)])) rfl rfl (hb hby at_39)
  have N7 := Fr.snoc X7 N6 gn_b1
  have K7 : Keep h0 h7 [] := K6.wr W7 (Or.inr sz_b1)
  have V7 : Arv Z h7 b1 k1 .char (16 : Int32) [(.int (9 : Int32)), (.int (10 : Int32)), (.int (13 : Int32)), (.int (32 : Int32)), (.int (11 : Int32)), (.int (12 : Int32)), (.int (0 : Int32)), (.int (0 : Int32)), (.int (0 : Int32)), (.int (0 : Int32)), (.int (0 : Int32)), (.int (0 : Int32)), (.int (0 : Int32)), (.int (0 : Int32)), (.int (0 : Int32)), (.int (0 : Int32))] (.int (0 : Int32)) := Arv.set Ar7 q7 S7 N7n H7 G7 (fits_nar_char (12 : Int32)) W7 5 rfl (Nat.le_of_ble_eq_true rfl)
  refine step (T7.setTop (mkF m 40 #[.val (.int p0), .val (.int p1), .val (.int c0), .unset, .unset, .unset, .unset, .unset] [(.ref b1)])) (fun t k => st7 t k) ?_
  refine step (T7.setTop (mkF m 41 #[.val (.int p0), .val (.int p1), .val (.int c0), .unset, .unset, .unset, .unset, .unset] [(.ref b1), (.ref b1)])) (fun t k => XS.dup X7.here hx rfl (hb hby at_40) rfl rfl k) ?_
  refine step (T7.setTop (mkF m 43 #[.val (.int p0), .val (.int p1), .val (.int c0), .unset, .unset, .unset, .unset, .unset] [(.int (6 : Int32)), (.ref b1), (.ref b1)])) (fun t k => XS.bipush X7.here hx rfl (hb hby at_41) k) ?_
  refine step (T7.setTop (mkF m 46 #[.val (.int p0), .val (.int p1), .val (.int c0), .unset, .unset, .unset, .unset, .unset] [(.int (133 : Int32)), (.int (6 : Int32)), (.ref b1), (.ref b1)])) (fun t k => XS.sipush X7.here hx rfl (hb hby at_43) k) ?_
  obtain ⟨cl8, Ar8, q8, S8, N8n, H8, G8⟩ := id V7
  have hin8 : ¬ ((6 : Int32) < 0 ∨ cl8.slots.size ≤ ((6 : Int32)).toNatClampNeg) := inb_of S8 ⟨by decide, by decide⟩
  obtain ⟨T8, h8, X8, e8, W8, st8⟩ := stC X7 hx hZ e7 Ar8 (j := (6 : Int32)) hin8 (g := (mkF m 46 #[.val (.int p0), .val (.int p1), .val (.int c0), .unset, .unset, .unset, .unset, .unset] [(.int (133 : Int32)), (.int (6 : Int32)), (.ref b1), (.ref b1)])) rfl rfl (hb hby at_46)
  have N8 := Fr.snoc X8 N7 gn_b1
  have K8 : Keep h0 h8 [] := K7.wr W8 (Or.inr sz_b1)
  have V8 : Arv Z h8 b1 k1 .char (16 : Int32) [(.int (9 : Int32)), (.int (10 : Int32)), (.int (13 : Int32)), (.int (32 : Int32)), (.int (11 : Int32)), (.int (12 : Int32)), (.int (133 : Int32)), (.int (0 : Int32)), (.int (0 : Int32)), (.int (0 : Int32)), (.int (0 : Int32)), (.int (0 : Int32)), (.int (0 : Int32)), (.int (0 : Int32)), (.int (0 : Int32)), (.int (0 : Int32))] (.int (0 : Int32)) := Arv.set Ar8 q8 S8 N8n H8 G8 (fits_nar_char (133 : Int32)) W8 6 rfl (Nat.le_of_ble_eq_true rfl)
  refine step (T8.setTop (mkF m 47 #[.val (.int p0), .val (.int p1), .val (.int c0), .unset, .unset, .unset, .unset, .unset] [(.ref b1)])) (fun t k => st8 t k) ?_
  refine step (T8.setTop (mkF m 48 #[.val (.int p0), .val (.int p1), .val (.int c0), .unset, .unset, .unset, .unset, .unset] [(.ref b1), (.ref b1)])) (fun t k => XS.dup X8.here hx rfl (hb hby at_47) rfl rfl k) ?_
  refine step (T8.setTop (mkF m 50 #[.val (.int p0), .val (.int p1), .val (.int c0), .unset, .unset, .unset, .unset, .unset] [(.int (7 : Int32)), (.ref b1), (.ref b1)])) (fun t k => XS.bipush X8.here hx rfl (hb hby at_48) k) ?_
  refine step (T8.setTop (mkF m 53 #[.val (.int p0), .val (.int p1), .val (.int c0), .unset, .unset, .unset, .unset, .unset] [(.int (160 : Int32)), (.int (7 : Int32)), (.ref b1), (.ref b1)])) (fun t k => XS.sipush X8.here hx rfl (hb hby at_50) k) ?_
  obtain ⟨cl9, Ar9, q9, S9, N9n, H9, G9⟩ := id V8
  have hin9 : ¬ ((7 : Int32) < 0 ∨ cl9.slots.size ≤ ((7 : Int32)).toNatClampNeg) := inb_of S9 ⟨by decide, by decide⟩
  obtain ⟨T9, h9, X9, e9, W9, st9⟩ := stC X8 hx hZ e8 Ar9 (j := (7 : Int32)) hin9 (g := (mkF m 53 #[.val (.int p0), .val (.int p1), .val (.int c0), .unset, .unset, .unset, .unset, .unset] [(.int (160 : Int32)), (.int (7 : Int32)), (.ref b1), (.ref b1)])) rfl rfl (hb hby at_53)
  have N9 := Fr.snoc X9 N8 gn_b1
  have K9 : Keep h0 h9 [] := K8.wr W9 (Or.inr sz_b1)
  have V9 : Arv Z h9 b1 k1 .char (16 : Int32) [(.int (9 : Int32)), (.int (10 : Int32)), (.int (13 : Int32)), (.int (32 : Int32)), (.int (11 : Int32)), (.int (12 : Int32)), (.int (133 : Int32)), (.int (160 : Int32)), (.int (0 : Int32)), (.int (0 : Int32)), (.int (0 : Int32)), (.int (0 : Int32)), (.int (0 : Int32)), (.int (0 : Int32)), (.int (0 : Int32)), (.int (0 : Int32))] (.int (0 : Int32)) := Arv.set Ar9 q9 S9 N9n H9 G9 (fits_nar_char (160 : Int32)) W9 7 rfl (Nat.le_of_ble_eq_true rfl)
  refine step (T9.setTop (mkF m 54 #[.val (.int p0), .val (.int p1), .val (.int c0), .unset, .unset, .unset, .unset, .unset] [(.ref b1)])) (fun t k => st9 t k) ?_
  refine step (T9.setTop (mkF m 55 #[.val (.int p0), .val (.int p1), .val (.int c0), .unset, .unset, .unset, .unset, .unset] [(.ref b1), (.ref b1)])) (fun t k => XS.dup X9.here hx rfl (hb hby at_54) rfl rfl k) ?_
  refine step (T9.setTop (mkF m 57 #[.val (.int p0), .val (.int p1), .val (.int c0), .unset, .unset, .unset, .unset, .unset] [(.int (8 : Int32)), (.ref b1), (.ref b1)])) (fun t k => XS.bipush X9.here hx rfl (hb hby at_55) k) ?_
  refine step (T9.setTop (mkF m 60 #[.val (.int p0), .val (.int p1), .val (.int c0), .unset, .unset, .unset, .unset, .unset] [(.int (8232 : Int32)), (.int (8 : Int32)), (.ref b1), (.ref b1)])) (fun t k => XS.sipush X9.here hx rfl (hb hby at_57) k) ?_
  obtain ⟨cl10, Ar10, q10, S10, N10n, H10, G10⟩ := id V9
  have hin10 : ¬ ((8 : Int32) < 0 ∨ cl10.slots.size ≤ ((8 : Int32)).toNatClampNeg) := inb_of S10 ⟨by decide, by decide⟩
  obtain ⟨T10, h10, X10, e10, W10, st10⟩ := stC X9 hx hZ e9 Ar10 (j := (8 : Int32)) hin10 (g := (mkF m 60 #[.val (.int p0), .val (.int p1), .val (.int c0), .unset, .unset, .unset, .unset, .unset] [(.int (8232 : Int32)), (.int (8 : Int32)), (.ref b1), (.ref b1)])) rfl rfl (hb hby at_60)
  have N10 := Fr.snoc X10 N9 gn_b1
  have K10 : Keep h0 h10 [] := K9.wr W10 (Or.inr sz_b1)
  have V10 : Arv Z h10 b1 k1 .char (16 : Int32) [(.int (9 : Int32)), (.int (10 : Int32)), (.int (13 : Int32)), (.int (32 : Int32)), (.int (11 : Int32)), (.int (12 : Int32)), (.int (133 : Int32)), (.int (160 : Int32)), (.int (8232 : Int32)), (.int (0 : Int32)), (.int (0 : Int32)), (.int (0 : Int32)), (.int (0 : Int32)), (.int (0 : Int32)), (.int (0 : Int32)), (.int (0 : Int32))] (.int (0 : Int32)) := Arv.set Ar10 q10 S10 N10n H10 G10 (fits_nar_char (8232 : Int32)) W10 8 rfl (Nat.le_of_ble_eq_true rfl)
  refine step (T10.setTop (mkF m 61 #[.val (.int p0), .val (.int p1), .val (.int c0), .unset, .unset, .unset, .unset, .unset] [(.ref b1)])) (fun t k => st10 t k) ?_
  refine step (T10.setTop (mkF m 62 #[.val (.int p0), .val (.int p1), .val (.int c0), .unset, .unset, .unset, .unset, .unset] [(.ref b1), (.ref b1)])) (fun t k => XS.dup X10.here hx rfl (hb hby at_61) rfl rfl k) ?_
  refine step (T10.setTop (mkF m 64 #[.val (.int p0), .val (.int p1), .val (.int c0), .unset, .unset, .unset, .unset, .unset] [(.int (9 : Int32)), (.ref b1), (.ref b1)])) (fun t k => XS.bipush X10.here hx rfl (hb hby at_62) k) ?_
  refine step (T10.setTop (mkF m 67 #[.val (.int p0), .val (.int p1), .val (.int c0), .unset, .unset, .unset, .unset, .unset] [(.int (12288 : Int32)), (.int (9 : Int32)), (.ref b1), (.ref b1)])) (fun t k => XS.sipush X10.here hx rfl (hb hby at_64) k) ?_
  obtain ⟨cl11, Ar11, q11, S11, N11n, H11, G11⟩ := id V10
  have hin11 : ¬ ((9 : Int32) < 0 ∨ cl11.slots.size ≤ ((9 : Int32)).toNatClampNeg) := inb_of S11 ⟨by decide, by decide⟩
  obtain ⟨T11, h11, X11, e11, W11, st11⟩ := stC X10 hx hZ e10 Ar11 (j := (9 : Int32)) hin11 (g := (mkF m 67 #[.val (.int p0), .val (.int p1), .val (.int c0), .unset, .unset, .unset, .unset, .unset] [(.int (12288 : Int32)), (.int (9 : Int32)), (.ref b1), (.ref b1)])) rfl rfl (hb hby at_67)
  have N11 := Fr.snoc X11 N10 gn_b1
  have K11 : Keep h0 h11 [] := K10.wr W11 (Or.inr sz_b1)
  have V11 : Arv Z h11 b1 k1 .char (16 : Int32) [(.int (9 : Int32)), (.int (10 : Int32)), (.int (13 : Int32)), (.int (32 : Int32)), (.int (11 : Int32)), (.int (12 : Int32)), (.int (133 : Int32)), (.int (160 : Int32)), (.int (8232 : Int32)), (.int (12288 : Int32)), (.int (0 : Int32)), (.int (0 : Int32)), (.int (0 : Int32)), (.int (0 : Int32)), (.int (0 : Int32)), (.int (0 : Int32))] (.int (0 : Int32)) := Arv.set Ar11 q11 S11 N11n H11 G11 (fits_nar_char (12288 : Int32)) W11 9 rfl (Nat.le_of_ble_eq_true rfl)
  refine step (T11.setTop (mkF m 68 #[.val (.int p0), .val (.int p1), .val (.int c0), .unset, .unset, .unset, .unset, .unset] [(.ref b1)])) (fun t k => st11 t k) ?_
  refine step (T11.setTop (mkF m 69 #[.val (.int p0), .val (.int p1), .val (.int c0), .unset, .unset, .unset, .unset, .unset] [(.ref b1), (.ref b1)])) (fun t k => XS.dup X11.here hx rfl (hb hby at_68) rfl rfl k) ?_
  refine step (T11.setTop (mkF m 71 #[.val (.int p0), .val (.int p1), .val (.int c0), .unset, .unset, .unset, .unset, .unset] [(.int (10 : Int32)), (.ref b1), (.ref b1)])) (fun t k => XS.bipush X11.here hx rfl (hb hby at_69) k) ?_
  refine step (T11.setTop (mkF m 73 #[.val (.int p0), .val (.int p1), .val (.int c0), .unset, .unset, .unset, .unset, .unset] [(.int (8 : Int32)), (.int (10 : Int32)), (.ref b1), (.ref b1)])) (fun t k => XS.bipush X11.here hx rfl (hb hby at_71) k) ?_
  obtain ⟨cl12, Ar12, q12, S12, N12n, H12, G12⟩ := id V11
  have hin12 : ¬ ((10 : Int32) < 0 ∨ cl12.slots.size ≤ ((10 : Int32)).toNatClampNeg) := inb_of S12 ⟨by decide, by decide⟩
  obtain ⟨T12, h12, X12, e12, W12, st12⟩ := stC X11 hx hZ e11 Ar12 (j := (10 : Int32)) hin12 (g := (mkF m 73 #[.val (.int p0), .val (.int p1), .val (.int c0), .unset, .unset, .unset, .unset, .unset] [(.int (8 : Int32)), (.int (10 : Int32)), (.ref b1), (.ref b1)])) rfl rfl (hb hby at_73)
  have N12 := Fr.snoc X12 N11 gn_b1
  have K12 : Keep h0 h12 [] := K11.wr W12 (Or.inr sz_b1)
  have V12 : Arv Z h12 b1 k1 .char (16 : Int32) [(.int (9 : Int32)), (.int (10 : Int32)), (.int (13 : Int32)), (.int (32 : Int32)), (.int (11 : Int32)), (.int (12 : Int32)), (.int (133 : Int32)), (.int (160 : Int32)), (.int (8232 : Int32)), (.int (12288 : Int32)), (.int (8 : Int32)), (.int (0 : Int32)), (.int (0 : Int32)), (.int (0 : Int32)), (.int (0 : Int32)), (.int (0 : Int32))] (.int (0 : Int32)) := Arv.set Ar12 q12 S12 N12n H12 G12 (fits_nar_char (8 : Int32)) W12 10 rfl (Nat.le_of_ble_eq_true rfl)
  refine step (T12.setTop (mkF m 74 #[.val (.int p0), .val (.int p1), .val (.int c0), .unset, .unset, .unset, .unset, .unset] [(.ref b1)])) (fun t k => st12 t k) ?_
  refine step (T12.setTop (mkF m 75 #[.val (.int p0), .val (.int p1), .val (.int c0), .unset, .unset, .unset, .unset, .unset] [(.ref b1), (.ref b1)])) (fun t k => XS.dup X12.here hx rfl (hb hby at_74) rfl rfl k) ?_
  refine step (T12.setTop (mkF m 77 #[.val (.int p0), .val (.int p1), .val (.int c0), .unset, .unset, .unset, .unset, .unset] [(.int (11 : Int32)), (.ref b1), (.ref b1)])) (fun t k => XS.bipush X12.here hx rfl (hb hby at_75) k) ?_
  refine step (T12.setTop (mkF m 79 #[.val (.int p0), .val (.int p1), .val (.int c0), .unset, .unset, .unset, .unset, .unset] [(.int (33 : Int32)), (.int (11 : Int32)), (.ref b1), (.ref b1)])) (fun t k => XS.bipush X12.here hx rfl (hb hby at_77) k) ?_
  obtain ⟨cl13, Ar13, q13, S13, N13n, H13, G13⟩ := id V12
  have hin13 : ¬ ((11 : Int32) < 0 ∨ cl13.slots.size ≤ ((11 : Int32)).toNatClampNeg) := inb_of S13 ⟨by decide, by decide⟩
  obtain ⟨T13, h13, X13, e13, W13, st13⟩ := stC X12 hx hZ e12 Ar13 (j := (11 : Int32)) hin13 (g := (mkF m 79 #[.val (.int p0), .val (.int p1), .val (.int c0), .unset, .unset, .unset, .unset, .unset] [(.int (33 : Int32)), (.int (11 : Int32)), (.ref b1), (.ref b1)])) rfl rfl (hb hby at_79)
  have N13 := Fr.snoc X13 N12 gn_b1
  have K13 : Keep h0 h13 [] := K12.wr W13 (Or.inr sz_b1)
  have V13 : Arv Z h13 b1 k1 .char (16 : Int32) [(.int (9 : Int32)), (.int (10 : Int32)), (.int (13 : Int32)), (.int (32 : Int32)), (.int (11 : Int32)), (.int (12 : Int32)), (.int (133 : Int32)), (.int (160 : Int32)), (.int (8232 : Int32)), (.int (12288 : Int32)), (.int (8 : Int32)), (.int (33 : Int32)), (.int (0 : Int32)), (.int (0 : Int32)), (.int (0 : Int32)), (.int (0 : Int32))] (.int (0 : Int32)) := Arv.set Ar13 q13 S13 N13n H13 G13 (fits_nar_char (33 : Int32)) W13 11 rfl (Nat.le_of_ble_eq_true rfl)
  refine step (T13.setTop (mkF m 80 #[.val (.int p0), .val (.int p1), .val (.int c0), .unset, .unset, .unset, .unset, .unset] [(.ref b1)])) (fun t k => st13 t k) ?_
  refine step (T13.setTop (mkF m 81 #[.val (.int p0), .val (.int p1), .val (.int c0), .unset, .unset, .unset, .unset, .unset] [(.ref b1), (.ref b1)])) (fun t k => XS.dup X13.here hx rfl (hb hby at_80) rfl rfl k) ?_
  refine step (T13.setTop (mkF m 83 #[.val (.int p0), .val (.int p1), .val (.int c0), .unset, .unset, .unset, .unset, .unset] [(.int (12 : Int32)), (.ref b1), (.ref b1)])) (fun t k => XS.bipush X13.here hx rfl (hb hby at_81) k) ?_
  refine step (T13.setTop (mkF m 85 #[.val (.int p0), .val (.int p1), .val (.int c0), .unset, .unset, .unset, .unset, .unset] [(.int (31 : Int32)), (.int (12 : Int32)), (.ref b1), (.ref b1)])) (fun t k => XS.bipush X13.here hx rfl (hb hby at_83) k) ?_
  obtain ⟨cl14, Ar14, q14, S14, N14n, H14, G14⟩ := id V13
  have hin14 : ¬ ((12 : Int32) < 0 ∨ cl14.slots.size ≤ ((12 : Int32)).toNatClampNeg) := inb_of S14 ⟨by decide, by decide⟩
  obtain ⟨T14, h14, X14, e14, W14, st14⟩ := stC X13 hx hZ e13 Ar14 (j := (12 : Int32)) hin14 (g := (mkF m 85 #[.val (.int p0), .val (.int p1), .val (.int c0), .unset, .unset, .unset, .unset, .unset] [(.int (31 : Int32)), (.int (12 : Int32)), (.ref b1), (.ref b1)])) rfl rfl (hb hby at_85)
  have N14 := Fr.snoc X14 N13 gn_b1
  have K14 : Keep h0 h14 [] := K13.wr W14 (Or.inr sz_b1)
  have V14 : Arv Z h14 b1 k1 .char (16 : Int32) [(.int (9 : Int32)), (.int (10 : Int32)), (.int (13 : Int32)), (.int (32 : Int32)), (.int (11 : Int32)), (.int (12 : Int32)), (.int (133 : Int32)), (.int (160 : Int32)), (.int (8232 : Int32)), (.int (12288 : Int32)), (.int (8 : Int32)), (.int (33 : Int32)), (.int (31 : Int32)), (.int (0 : Int32)), (.int (0 : Int32)), (.int (0 : Int32))] (.int (0 : Int32)) := Arv.set Ar14 q14 S14 N14n H14 G14 (fits_nar_char (31 : Int32)) W14 12 rfl (Nat.le_of_ble_eq_true rfl)
  refine step (T14.setTop (mkF m 86 #[.val (.int p0), .val (.int p1), .val (.int c0), .unset, .unset, .unset, .unset, .unset] [(.ref b1)])) (fun t k => st14 t k) ?_
  refine step (T14.setTop (mkF m 87 #[.val (.int p0), .val (.int p1), .val (.int c0), .unset, .unset, .unset, .unset, .unset] [(.ref b1), (.ref b1)])) (fun t k => XS.dup X14.here hx rfl (hb hby at_86) rfl rfl k) ?_
  refine step (T14.setTop (mkF m 89 #[.val (.int p0), .val (.int p1), .val (.int c0), .unset, .unset, .unset, .unset, .unset] [(.int (13 : Int32)), (.ref b1), (.ref b1)])) (fun t k => XS.bipush X14.here hx rfl (hb hby at_87) k) ?_
  refine step (T14.setTop (mkF m 91 #[.val (.int p0), .val (.int p1), .val (.int c0), .unset, .unset, .unset, .unset, .unset] [(.int (14 : Int32)), (.int (13 : Int32)), (.ref b1), (.ref b1)])) (fun t k => XS.bipush X14.here hx rfl (hb hby at_89) k) ?_
  obtain ⟨cl15, Ar15, q15, S15, N15n, H15, G15⟩ := id V14
  have hin15 : ¬ ((13 : Int32) < 0 ∨ cl15.slots.size ≤ ((13 : Int32)).toNatClampNeg) := inb_of S15 ⟨by decide, by decide⟩
  obtain ⟨T15, h15, X15, e15, W15, st15⟩ := stC X14 hx hZ e14 Ar15 (j := (13 : Int32)) hin15 (g := (mkF m 91 #[.val (.int p0), .val (.int p1), .val (.int c0), .unset, .unset, .unset, .unset, .unset] [(.int (14 : Int32)), (.int (13 : Int32)), (.ref b1), (.ref b1)])) rfl rfl (hb hby at_91)
  have N15 := Fr.snoc X15 N14 gn_b1
  have K15 : Keep h0 h15 [] := K14.wr W15 (Or.inr sz_b1)
  have V15 : Arv Z h15 b1 k1 .char (16 : Int32) [(.int (9 : Int32)), (.int (10 : Int32)), (.int (13 : Int32)), (.int (32 : Int32)), (.int (11 : Int32)), (.int (12 : Int32)), (.int (133 : Int32)), (.int (160 : Int32)), (.int (8232 : Int32)), (.int (12288 : Int32)), (.int (8 : Int32)), (.int (33 : Int32)), (.int (31 : Int32)), (.int (14 : Int32)), (.int (0 : Int32)), (.int (0 : Int32))] (.int (0 : Int32)) := Arv.set Ar15 q15 S15 N15n H15 G15 (fits_nar_char (14 : Int32)) W15 13 rfl (Nat.le_of_ble_eq_true rfl)
  refine step (T15.setTop (mkF m 92 #[.val (.int p0), .val (.int p1), .val (.int c0), .unset, .unset, .unset, .unset, .unset] [(.ref b1)])) (fun t k => st15 t k) ?_
  refine step (T15.setTop (mkF m 93 #[.val (.int p0), .val (.int p1), .val (.int c0), .unset, .unset, .unset, .unset, .unset] [(.ref b1), (.ref b1)])) (fun t k => XS.dup X15.here hx rfl (hb hby at_92) rfl rfl k) ?_
  refine step (T15.setTop (mkF m 95 #[.val (.int p0), .val (.int p1), .val (.int c0), .unset, .unset, .unset, .unset, .unset] [(.int (14 : Int32)), (.ref b1), (.ref b1)])) (fun t k => XS.bipush X15.here hx rfl (hb hby at_93) k) ?_
  refine step (T15.setTop (mkF m 97 #[.val (.int p0), .val (.int p1), .val (.int c0), .unset, .unset, .unset, .unset, .unset] [(.int (97 : Int32)), (.int (14 : Int32)), (.ref b1), (.ref b1)])) (fun t k => XS.bipush X15.here hx rfl (hb hby at_95) k) ?_
  obtain ⟨cl16, Ar16, q16, S16, N16n, H16, G16⟩ := id V15
  have hin16 : ¬ ((14 : Int32) < 0 ∨ cl16.slots.size ≤ ((14 : Int32)).toNatClampNeg) := inb_of S16 ⟨by decide, by decide⟩
  obtain ⟨T16, h16, X16, e16, W16, st16⟩ := stC X15 hx hZ e15 Ar16 (j := (14 : Int32)) hin16 (g := (mkF m 97 #[.val (.int p0), .val (.int p1), .val (.int c0), .unset, .unset, .unset, .unset, .unset] [(.int (97 : Int32)), (.int (14 : Int32)), (.ref b1), (.ref b1)])) rfl rfl (hb hby at_97)
  have N16 := Fr.snoc X16 N15 gn_b1
  have K16 : Keep h0 h16 [] := K15.wr W16 (Or.inr sz_b1)
  have V16 : Arv Z h16 b1 k1 .char (16 : Int32) [(.int (9 : Int32)), (.int (10 : Int32)), (.int (13 : Int32)), (.int (32 : Int32)), (.int (11 : Int32)), (.int (12 : Int32)), (.int (133 : Int32)), (.int (160 : Int32)), (.int (8232 : Int32)), (.int (12288 : Int32)), (.int (8 : Int32)), (.int (33 : Int32)), (.int (31 : Int32)), (.int (14 : Int32)), (.int (97 : Int32)), (.int (0 : Int32))] (.int (0 : Int32)) := Arv.set Ar16 q16 S16 N16n H16 G16 (fits_nar_char (97 : Int32)) W16 14 rfl (Nat.le_of_ble_eq_true rfl)
  refine step (T16.setTop (mkF m 98 #[.val (.int p0), .val (.int p1), .val (.int c0), .unset, .unset, .unset, .unset, .unset] [(.ref b1)])) (fun t k => st16 t k) ?_
  refine step (T16.setTop (mkF m 99 #[.val (.int p0), .val (.int p1), .val (.int c0), .unset, .unset, .unset, .unset, .unset] [(.ref b1), (.ref b1)])) (fun t k => XS.dup X16.here hx rfl (hb hby at_98) rfl rfl k) ?_
  refine step (T16.setTop (mkF m 101 #[.val (.int p0), .val (.int p1), .val (.int c0), .unset, .unset, .unset, .unset, .unset] [(.int (15 : Int32)), (.ref b1), (.ref b1)])) (fun t k => XS.bipush X16.here hx rfl (hb hby at_99) k) ?_
  refine step (T16.setTop (mkF m 103 #[.val (.int p0), .val (.int p1), .val (.int c0), .unset, .unset, .unset, .unset, .unset] [(.int (65535 : Int32)), (.int (15 : Int32)), (.ref b1), (.ref b1)])) (fun t k => X16.ldcInt hx hown (mvT hZ (hw _ (List.mem_of_getElem? (i := 0) rfl))) (g := (mkF m 101 #[.val (.int p0), .val (.int p1), .val (.int c0), .unset, .unset, .unset, .unset, .unset] [(.int (15 : Int32)), (.ref b1), (.ref b1)])) rfl (hb hby at_101) t k) ?_
  obtain ⟨cl17, Ar17, q17, S17, N17n, H17, G17⟩ := id V16
  have hin17 : ¬ ((15 : Int32) < 0 ∨ cl17.slots.size ≤ ((15 : Int32)).toNatClampNeg) := inb_of S17 ⟨by decide, by decide⟩
  obtain ⟨T17, h17, X17, e17, W17, st17⟩ := stC X16 hx hZ e16 Ar17 (j := (15 : Int32)) hin17 (g := (mkF m 103 #[.val (.int p0), .val (.int p1), .val (.int c0), .unset, .unset, .unset, .unset, .unset] [(.int (65535 : Int32)), (.int (15 : Int32)), (.ref b1), (.ref b1)])) rfl rfl (hb hby at_103)
  have N17 := Fr.snoc X17 N16 gn_b1
  have K17 : Keep h0 h17 [] := K16.wr W17 (Or.inr sz_b1)
  have V17 : Arv Z h17 b1 k1 .char (16 : Int32) [(.int (9 : Int32)), (.int (10 : Int32)), (.int (13 : Int32)), (.int (32 : Int32)), (.int (11 : Int32)), (.int (12 : Int32)), (.int (133 : Int32)), (.int (160 : Int32)), (.int (8232 : Int32)), (.int (12288 : Int32)), (.int (8 : Int32)), (.int (33 : Int32)), (.int (31 : Int32)), (.int (14 : Int32)), (.int (97 : Int32)), (.int (65535 : Int32))] (.int (0 : Int32)) := Arv.set Ar17 q17 S17 N17n H17 G17 (fits_nar_char (65535 : Int32)) W17 15 rfl (Nat.le_of_ble_eq_true rfl)
  refine step (T17.setTop (mkF m 104 #[.val (.int p0), .val (.int p1), .val (.int c0), .unset, .unset, .unset, .unset, .unset] [(.ref b1)])) (fun t k => st17 t k) ?_
  refine step (T17.setTop (mkF m 105 #[.val (.int p0), .val (.int p1), .val (.int c0), .val (.ref b1), .unset, .unset, .unset, .unset] [])) (fun t k => XS.astoreN X17.here hx rfl (hb hby at_104) rfl rfl (l' := #[.val (.int p0), .val (.int p1), .val (.int c0), .val (.ref b1), .unset, .unset, .unset, .unset]) rfl k) ?_
  refine step (T17.setTop (mkF m 106 #[.val (.int p0), .val (.int p1), .val (.int c0), .val (.ref b1), .unset, .unset, .unset, .unset] [(.int p1)])) (fun t k => XS.iloadN X17.here hx rfl (hb hby at_105) rfl k) ?_
  refine step (T17.setTop (mkF m 108 #[.val (.int p0), .val (.int p1), .val (.int c0), .val (.ref b1), .unset, .unset, .unset, .unset] [(.int (15 : Int32)), (.int p1)])) (fun t k => XS.bipush X17.here hx rfl (hb hby at_106) k) ?_
  refine step (T17.setTop (mkF m 109 #[.val (.int p0), .val (.int p1), .val (.int c0), .val (.ref b1), .unset, .unset, .unset, .unset] [(.int (p1 &&& (15 : Int32)))])) (fun t k => XS.iand X17.here hx rfl (hb hby at_108) rfl k) ?_
  generalize hi : (p1 &&& (15 : Int32)) = i
  refine step (T17.setTop (mkF m 111 #[.val (.int p0), .val (.int p1), .val (.int c0), .val (.ref b1), .val (.int i), .unset, .unset, .unset] [])) (fun t k => XS.istore X17.here hx rfl (hb hby at_109) rfl (l' := #[.val (.int p0), .val (.int p1), .val (.int c0), .val (.ref b1), .val (.int i), .unset, .unset, .unset]) rfl k) ?_
  refine step (T17.setTop (mkF m 112 #[.val (.int p0), .val (.int p1), .val (.int c0), .val (.ref b1), .val (.int i), .unset, .unset, .unset] [(.ref b1)])) (fun t k => XS.aloadN X17.here hx rfl (hb hby at_111) rfl rfl k) ?_
  refine step (T17.setTop (mkF m 114 #[.val (.int p0), .val (.int p1), .val (.int c0), .val (.ref b1), .val (.int i), .unset, .unset, .unset] [(.int i), (.ref b1)])) (fun t k => XS.iload X17.here hx rfl (hb hby at_112) rfl k) ?_
  have hi0 := c_mask p1 15 4 (by decide) (by decide)
  rw [hi] at hi0
  obtain ⟨d, hd1, hd2⟩ := own_tab i (by omega) (by omega)
  obtain ⟨cl18, Ar18, q18, S18, N18n, H18, G18⟩ := id V17
  have hin18 : ¬ (i < 0 ∨ cl18.slots.size ≤ (i).toNatClampNeg) := inb_of S18 ⟨own_ge0 (by omega), own_lt16 (by omega)⟩
  have hat18 : cl18.slots[(i).toNatClampNeg]? = some (.int d) := H18.at hin18 hd1
  refine step (T17.setTop (mkF m 115 #[.val (.int p0), .val (.int p1), .val (.int c0), .val (.ref b1), .val (.int i), .unset, .unset, .unset] [(.int d)])) (fun t k => X17.caload hx (j := i) (v := (.int d)) (by rw [e17]; exact Ar18.1) (State.isArrayOf_alike hZ.alike Ar18.2.1) Ar18.2.2 hin18 hat18 (g := (mkF m 114 #[.val (.int p0), .val (.int p1), .val (.int c0), .val (.ref b1), .val (.int i), .unset, .unset, .unset] [(.int i), (.ref b1)])) rfl rfl (hb hby at_114) t k) ?_
  refine step (T17.setTop (mkF m 117 #[.val (.int p0), .val (.int p1), .val (.int c0), .val (.ref b1), .val (.int i), .val (.int d), .unset, .unset] [])) (fun t k => XS.istore X17.here hx rfl (hb hby at_115) rfl (l' := #[.val (.int p0), .val (.int p1), .val (.int c0), .val (.ref b1), .val (.int i), .val (.int d), .unset, .unset]) rfl k) ?_
  refine step (T17.setTop (mkF m 118 #[.val (.int p0), .val (.int p1), .val (.int c0), .val (.ref b1), .val (.int i), .val (.int d), .unset, .unset] [(.int c0)])) (fun t k => XS.iloadN X17.here hx rfl (hb hby at_117) rfl k) ?_
  obtain ⟨_, _, ⟨T19, L19, k19, n19⟩, -, X19, ⟨Lc19, hQ19, l19, y19, z19⟩, st19⟩ := Jvm.LawKit.callS X17 hx (y := (⟨"org/vouchsafe/Dom", "isXmlSpace", "(C)Z"⟩ : MethodName)) hown (mvT hZ (hw _ (List.mem_of_getElem? (i := 2) rfl))) (mvT hZ (hw _ (List.mem_of_getElem? (i := 3) rfl))) (mvT hZ (hw _ (List.mem_of_getElem? (i := 4) rfl))) (mvT hZ (hw _ (List.mem_of_getElem? (i := 5) rfl))) (by decide) (backOf (W := 0) (rm1_1 l Z a0 hw [] c0 h17 n0 (Nat.le_trans Z0 K17.1) ) hZ (hw _ (List.mem_of_getElem? (i := 5) rfl)) (hw _ (List.mem_of_getElem? (i := 4) rfl)) (by decide) (by decide)) (g := (mkF m 118 #[.val (.int p0), .val (.int p1), .val (.int c0), .val (.ref b1), .val (.int i), .val (.int d), .unset, .unset] [(.int c0)])) rfl (by rw [hml]; rfl) (argsL := [(.int c0)]) (rest := []) (lenOf pd_0 rfl) rfl (by show 2 * 0 + _ ≤ _; exact Nat.le_of_eq rfl) (hb hby at_118) (fun _ _ => ⟨rfl, e17, (by decide : 1 + 0 ≤ _), (by decide : 16 + 0 ≤ _)⟩)
  dsimp only [Pt.U, Pt.locs, Pt.cells, Pt.slots] at X19 l19 y19 z19 st19 hQ19
  subst l19 y19 z19
  obtain ⟨z29_1_19, rfl, N19q, e19q, hz29_1_19⟩ := hQ19
  have N19 := Fr.app N17 N19q
  refine step (T19.setTop (mkF m 121 #[.val (.int p0), .val (.int p1), .val (.int c0), .val (.ref b1), .val (.int i), .val (.int d), .unset, .unset] [(.int z29_1_19)])) (fun t k => st19 t k) ?_
  refine step (T19.setTop (mkF m 122 #[.val (.int p0), .val (.int p1), .val (.int c0), .val (.ref b1), .val (.int i), .val (.int d), .unset, .unset] [(.int c0), (.int z29_1_19)])) (fun t k => XS.iloadN X19.here hx rfl (hb hby at_121) rfl k) ?_
  obtain ⟨_, _, ⟨T20, L20, k20, n20⟩, -, X20, ⟨Lc20, hQ20, l20, y20, z20⟩, st20⟩ := Jvm.LawKit.callS X19 hx (y := (⟨"org/vouchsafe/DomIsXmlSpacePinLaw", "expected", "(C)Z"⟩ : MethodName)) hown (mvT hZ (hw _ (List.mem_of_getElem? (i := 6) rfl))) (mvT hZ (hw _ (List.mem_of_getElem? (i := 7) rfl))) (mvT hZ (hw _ (List.mem_of_getElem? (i := 8) rfl))) (mvT hZ (hw _ (List.mem_of_getElem? (i := 9) rfl))) (by decide) (backOf (W := 1) (rm2_2 l Z a0 hw [] c0 h17 n0 (Nat.le_trans Z0 K17.1) ) hZ (hw _ (List.mem_of_getElem? (i := 9) rfl)) (hw _ (List.mem_of_getElem? (i := 8) rfl)) (by decide) (by decide)) (g := (mkF m 122 #[.val (.int p0), .val (.int p1), .val (.int c0), .val (.ref b1), .val (.int i), .val (.int d), .unset, .unset] [(.int c0), (.int z29_1_19)])) rfl (by rw [hml]; rfl) (argsL := [(.int c0)]) (rest := [(.int z29_1_19)]) (lenOf pd_0 rfl) rfl (by show 2 * 0 + _ ≤ _; exact Nat.le_of_eq rfl) (hb hby at_122) (fun _ _ => ⟨rfl, e19q, (by decide : 1 + 0 ≤ _), (by decide : 16 + 0 ≤ _)⟩)
  dsimp only [Pt.U, Pt.locs, Pt.cells, Pt.slots] at X20 l20 y20 z20 st20 hQ20
  subst l20 y20 z20
  obtain ⟨z_1_20, rfl, N20q, e20q, hz_1_20⟩ := hQ20
  have N20 := Fr.app N19 N20q
  refine step (T20.setTop (mkF m 125 #[.val (.int p0), .val (.int p1), .val (.int c0), .val (.ref b1), .val (.int i), .val (.int d), .unset, .unset] [(.int z_1_20), (.int z29_1_19)])) (fun t k => st20 t k) ?_
  suffices J133_22 : ∀ (z133_21 : Int32), z133_21 = (if z29_1_19 = z_1_20 then (1 : Int32) else (0 : Int32)) → G (T20.setTop (mkF m 133 #[.val (.int p0), .val (.int p1), .val (.int c0), .val (.ref b1), .val (.int i), .val (.int d), .unset, .unset] [(.int z133_21)])) by
    by_cases hc125_23 : z29_1_19 = z_1_20
    · -- 125 True
      refine step (T20.setTop (mkF m 128 #[.val (.int p0), .val (.int p1), .val (.int c0), .val (.ref b1), .val (.int i), .val (.int d), .unset, .unset] [])) (fun t k => XS.icmpNo X20.here hx rfl (hb hby at_125) rfl (teq hc125_23).2 k) ?_
      refine step (T20.setTop (mkF m 129 #[.val (.int p0), .val (.int p1), .val (.int c0), .val (.ref b1), .val (.int i), .val (.int d), .unset, .unset] [(.int (1 : Int32))])) (fun t k => XS.iconst X20.here hx rfl (hb hby at_128) k) ?_
      refine step (T20.setTop (mkF m 133 #[.val (.int p0), .val (.int p1), .val (.int c0), .val (.ref b1), .val (.int i), .val (.int d), .unset, .unset] [(.int (1 : Int32))])) (fun t k => XS.goto X20.here hx rfl (pc0 := 129) (pc' := 133) rfl (hb hby at_129) (by decide) (by decide) k) ?_
      exact J133_22 _ (by simp only [if_pos hc125_23, if_true, if_false])
    · -- 125 False
      refine step (T20.setTop (mkF m 132 #[.val (.int p0), .val (.int p1), .val (.int c0), .val (.ref b1), .val (.int i), .val (.int d), .unset, .unset] [])) (fun t k => XS.icmpYes X20.here hx rfl (pc0 := 125) (pc' := 132) rfl (hb hby at_125) rfl (feq hc125_23).2 (by decide) (by decide) k) ?_
      refine step (T20.setTop (mkF m 133 #[.val (.int p0), .val (.int p1), .val (.int c0), .val (.ref b1), .val (.int i), .val (.int d), .unset, .unset] [(.int (0 : Int32))])) (fun t k => XS.iconst X20.here hx rfl (hb hby at_132) k) ?_
      exact J133_22 _ (by simp only [if_neg hc125_23, if_true, if_false])
  intro z133_21 hz133_21
  refine step (T20.setTop (mkF m 135 #[.val (.int p0), .val (.int p1), .val (.int c0), .val (.ref b1), .val (.int i), .val (.int d), .val (.int z133_21), .unset] [])) (fun t k => XS.istore X20.here hx rfl (hb hby at_133) rfl (l' := #[.val (.int p0), .val (.int p1), .val (.int c0), .val (.ref b1), .val (.int i), .val (.int d), .val (.int z133_21), .unset]) rfl k) ?_
  refine step (T20.setTop (mkF m 137 #[.val (.int p0), .val (.int p1), .val (.int c0), .val (.ref b1), .val (.int i), .val (.int d), .val (.int z133_21), .unset] [(.int d)])) (fun t k => XS.iload X20.here hx rfl (hb hby at_135) rfl k) ?_
  obtain ⟨_, _, ⟨T24, L24, k24, n24⟩, -, X24, ⟨Lc24, hQ24, l24, y24, z24⟩, st24⟩ := Jvm.LawKit.callS X20 hx (y := (⟨"org/vouchsafe/Dom", "isXmlSpace", "(C)Z"⟩ : MethodName)) hown (mvT hZ (hw _ (List.mem_of_getElem? (i := 2) rfl))) (mvT hZ (hw _ (List.mem_of_getElem? (i := 3) rfl))) (mvT hZ (hw _ (List.mem_of_getElem? (i := 4) rfl))) (mvT hZ (hw _ (List.mem_of_getElem? (i := 5) rfl))) (by decide) (backOf (W := 0) (rm1_1 l Z a0 hw [] d h17 n0 (Nat.le_trans Z0 K17.1) ) hZ (hw _ (List.mem_of_getElem? (i := 5) rfl)) (hw _ (List.mem_of_getElem? (i := 4) rfl)) (by decide) (by decide)) (g := (mkF m 137 #[.val (.int p0), .val (.int p1), .val (.int c0), .val (.ref b1), .val (.int i), .val (.int d), .val (.int z133_21), .unset] [(.int d)])) rfl (by rw [hml]; rfl) (argsL := [(.int d)]) (rest := []) (lenOf pd_0 rfl) rfl (by show 2 * 0 + _ ≤ _; exact Nat.le_of_eq rfl) (hb hby at_137) (fun _ _ => ⟨rfl, e20q, (by decide : 1 + 0 ≤ _), (by decide : 16 + 0 ≤ _)⟩)
  dsimp only [Pt.U, Pt.locs, Pt.cells, Pt.slots] at X24 l24 y24 z24 st24 hQ24
  subst l24 y24 z24
  obtain ⟨z29_1_24, rfl, N24q, e24q, hz29_1_24⟩ := hQ24
  have N24 := Fr.app N20 N24q
  refine step (T24.setTop (mkF m 140 #[.val (.int p0), .val (.int p1), .val (.int c0), .val (.ref b1), .val (.int i), .val (.int d), .val (.int z133_21), .unset] [(.int z29_1_24)])) (fun t k => st24 t k) ?_
  refine step (T24.setTop (mkF m 142 #[.val (.int p0), .val (.int p1), .val (.int c0), .val (.ref b1), .val (.int i), .val (.int d), .val (.int z133_21), .unset] [(.int i), (.int z29_1_24)])) (fun t k => XS.iload X24.here hx rfl (hb hby at_140) rfl k) ?_
  refine step (T24.setTop (mkF m 143 #[.val (.int p0), .val (.int p1), .val (.int c0), .val (.ref b1), .val (.int i), .val (.int d), .val (.int z133_21), .unset] [(.int (4 : Int32)), (.int i), (.int z29_1_24)])) (fun t k => XS.iconst X24.here hx rfl (hb hby at_142) k) ?_
  suffices J151_26 : ∀ (z151_25 : Int32), z151_25 = (if i < (4 : Int32) then (1 : Int32) else (0 : Int32)) → G (T24.setTop (mkF m 151 #[.val (.int p0), .val (.int p1), .val (.int c0), .val (.ref b1), .val (.int i), .val (.int d), .val (.int z133_21), .unset] [(.int z151_25), (.int z29_1_24)])) by
    by_cases hc143_27 : i < (4 : Int32)
    · -- 143 True
      refine step (T24.setTop (mkF m 146 #[.val (.int p0), .val (.int p1), .val (.int c0), .val (.ref b1), .val (.int i), .val (.int d), .val (.int z133_21), .unset] [(.int z29_1_24)])) (fun t k => XS.icmpNo X24.here hx rfl (hb hby at_143) rfl (tlt hc143_27).2.1 k) ?_
      refine step (T24.setTop (mkF m 147 #[.val (.int p0), .val (.int p1), .val (.int c0), .val (.ref b1), .val (.int i), .val (.int d), .val (.int z133_21), .unset] [(.int (1 : Int32)), (.int z29_1_24)])) (fun t k => XS.iconst X24.here hx rfl (hb hby at_146) k) ?_
      refine step (T24.setTop (mkF m 151 #[.val (.int p0), .val (.int p1), .val (.int c0), .val (.ref b1), .val (.int i), .val (.int d), .val (.int z133_21), .unset] [(.int (1 : Int32)), (.int z29_1_24)])) (fun t k => XS.goto X24.here hx rfl (pc0 := 147) (pc' := 151) rfl (hb hby at_147) (by decide) (by decide) k) ?_
      exact J151_26 _ (by simp only [if_pos hc143_27, if_true, if_false])
    · -- 143 False
      refine step (T24.setTop (mkF m 150 #[.val (.int p0), .val (.int p1), .val (.int c0), .val (.ref b1), .val (.int i), .val (.int d), .val (.int z133_21), .unset] [(.int z29_1_24)])) (fun t k => XS.icmpYes X24.here hx rfl (pc0 := 143) (pc' := 150) rfl (hb hby at_143) rfl (flt hc143_27).2.1 (by decide) (by decide) k) ?_
      refine step (T24.setTop (mkF m 151 #[.val (.int p0), .val (.int p1), .val (.int c0), .val (.ref b1), .val (.int i), .val (.int d), .val (.int z133_21), .unset] [(.int (0 : Int32)), (.int z29_1_24)])) (fun t k => XS.iconst X24.here hx rfl (hb hby at_150) k) ?_
      exact J151_26 _ (by simp only [if_neg hc143_27, if_true, if_false])
  intro z151_25 hz151_25
  suffices J159_29 : ∀ (z159_28 : Int32), z159_28 = (if z29_1_24 = z151_25 then (1 : Int32) else (0 : Int32)) → G (T24.setTop (mkF m 159 #[.val (.int p0), .val (.int p1), .val (.int c0), .val (.ref b1), .val (.int i), .val (.int d), .val (.int z133_21), .unset] [(.int z159_28)])) by
    by_cases hc151_30 : z29_1_24 = z151_25
    · -- 151 True
      refine step (T24.setTop (mkF m 154 #[.val (.int p0), .val (.int p1), .val (.int c0), .val (.ref b1), .val (.int i), .val (.int d), .val (.int z133_21), .unset] [])) (fun t k => XS.icmpNo X24.here hx rfl (hb hby at_151) rfl (teq hc151_30).2 k) ?_
      refine step (T24.setTop (mkF m 155 #[.val (.int p0), .val (.int p1), .val (.int c0), .val (.ref b1), .val (.int i), .val (.int d), .val (.int z133_21), .unset] [(.int (1 : Int32))])) (fun t k => XS.iconst X24.here hx rfl (hb hby at_154) k) ?_
      refine step (T24.setTop (mkF m 159 #[.val (.int p0), .val (.int p1), .val (.int c0), .val (.ref b1), .val (.int i), .val (.int d), .val (.int z133_21), .unset] [(.int (1 : Int32))])) (fun t k => XS.goto X24.here hx rfl (pc0 := 155) (pc' := 159) rfl (hb hby at_155) (by decide) (by decide) k) ?_
      exact J159_29 _ (by simp only [if_pos hc151_30, if_true, if_false])
    · -- 151 False
      refine step (T24.setTop (mkF m 158 #[.val (.int p0), .val (.int p1), .val (.int c0), .val (.ref b1), .val (.int i), .val (.int d), .val (.int z133_21), .unset] [])) (fun t k => XS.icmpYes X24.here hx rfl (pc0 := 151) (pc' := 158) rfl (hb hby at_151) rfl (feq hc151_30).2 (by decide) (by decide) k) ?_
      refine step (T24.setTop (mkF m 159 #[.val (.int p0), .val (.int p1), .val (.int c0), .val (.ref b1), .val (.int i), .val (.int d), .val (.int z133_21), .unset] [(.int (0 : Int32))])) (fun t k => XS.iconst X24.here hx rfl (hb hby at_158) k) ?_
      exact J159_29 _ (by simp only [if_neg hc151_30, if_true, if_false])
  intro z159_28 hz159_28
  refine step (T24.setTop (mkF m 161 #[.val (.int p0), .val (.int p1), .val (.int c0), .val (.ref b1), .val (.int i), .val (.int d), .val (.int z133_21), .val (.int z159_28)] [])) (fun t k => XS.istore X24.here hx rfl (hb hby at_159) rfl (l' := #[.val (.int p0), .val (.int p1), .val (.int c0), .val (.ref b1), .val (.int i), .val (.int d), .val (.int z133_21), .val (.int z159_28)]) rfl k) ?_
  refine step (T24.setTop (mkF m 163 #[.val (.int p0), .val (.int p1), .val (.int c0), .val (.ref b1), .val (.int i), .val (.int d), .val (.int z133_21), .val (.int z159_28)] [(.int z133_21)])) (fun t k => XS.iload X24.here hx rfl (hb hby at_161) rfl k) ?_
  suffices J176_32 : ∀ (z176_31 : Int32), z176_31 = (if z133_21 = (0 : Int32) then (0 : Int32) else (if z159_28 = (0 : Int32) then (0 : Int32) else (1 : Int32))) → G (T24.setTop (mkF m 176 #[.val (.int p0), .val (.int p1), .val (.int c0), .val (.ref b1), .val (.int i), .val (.int d), .val (.int z133_21), .val (.int z159_28)] [(.int z176_31)])) by
    by_cases hc163_33 : z133_21 = (0 : Int32)
    · -- 163 True
      refine step (T24.setTop (mkF m 175 #[.val (.int p0), .val (.int p1), .val (.int c0), .val (.ref b1), .val (.int i), .val (.int d), .val (.int z133_21), .val (.int z159_28)] [])) (fun t k => XS.ifYes X24.here hx rfl (pc0 := 163) (pc' := 175) rfl (hb hby at_163) rfl ((if0 _ _).trans (teq hc163_33).1) (by decide) (by decide) k) ?_
      refine step (T24.setTop (mkF m 176 #[.val (.int p0), .val (.int p1), .val (.int c0), .val (.ref b1), .val (.int i), .val (.int d), .val (.int z133_21), .val (.int z159_28)] [(.int (0 : Int32))])) (fun t k => XS.iconst X24.here hx rfl (hb hby at_175) k) ?_
      exact J176_32 _ (by simp only [if_pos hc163_33, if_true, if_false])
    · -- 163 False
      refine step (T24.setTop (mkF m 166 #[.val (.int p0), .val (.int p1), .val (.int c0), .val (.ref b1), .val (.int i), .val (.int d), .val (.int z133_21), .val (.int z159_28)] [])) (fun t k => XS.ifNo X24.here hx rfl (hb hby at_163) rfl ((if0 _ _).trans (feq hc163_33).1) k) ?_
      refine step (T24.setTop (mkF m 168 #[.val (.int p0), .val (.int p1), .val (.int c0), .val (.ref b1), .val (.int i), .val (.int d), .val (.int z133_21), .val (.int z159_28)] [(.int z159_28)])) (fun t k => XS.iload X24.here hx rfl (hb hby at_166) rfl k) ?_
      by_cases hc168_34 : z159_28 = (0 : Int32)
      · -- 168 True
        refine step (T24.setTop (mkF m 175 #[.val (.int p0), .val (.int p1), .val (.int c0), .val (.ref b1), .val (.int i), .val (.int d), .val (.int z133_21), .val (.int z159_28)] [])) (fun t k => XS.ifYes X24.here hx rfl (pc0 := 168) (pc' := 175) rfl (hb hby at_168) rfl ((if0 _ _).trans (teq hc168_34).1) (by decide) (by decide) k) ?_
        refine step (T24.setTop (mkF m 176 #[.val (.int p0), .val (.int p1), .val (.int c0), .val (.ref b1), .val (.int i), .val (.int d), .val (.int z133_21), .val (.int z159_28)] [(.int (0 : Int32))])) (fun t k => XS.iconst X24.here hx rfl (hb hby at_175) k) ?_
        exact J176_32 _ (by simp only [if_neg hc163_33, if_pos hc168_34, if_true, if_false])
      · -- 168 False
        refine step (T24.setTop (mkF m 171 #[.val (.int p0), .val (.int p1), .val (.int c0), .val (.ref b1), .val (.int i), .val (.int d), .val (.int z133_21), .val (.int z159_28)] [])) (fun t k => XS.ifNo X24.here hx rfl (hb hby at_168) rfl ((if0 _ _).trans (feq hc168_34).1) k) ?_
        refine step (T24.setTop (mkF m 172 #[.val (.int p0), .val (.int p1), .val (.int c0), .val (.ref b1), .val (.int i), .val (.int d), .val (.int z133_21), .val (.int z159_28)] [(.int (1 : Int32))])) (fun t k => XS.iconst X24.here hx rfl (hb hby at_171) k) ?_
        refine step (T24.setTop (mkF m 176 #[.val (.int p0), .val (.int p1), .val (.int c0), .val (.ref b1), .val (.int i), .val (.int d), .val (.int z133_21), .val (.int z159_28)] [(.int (1 : Int32))])) (fun t k => XS.goto X24.here hx rfl (pc0 := 172) (pc' := 176) rfl (hb hby at_172) (by decide) (by decide) k) ?_
        exact J176_32 _ (by simp only [if_neg hc163_33, if_neg hc168_34, if_true, if_false])
  intro z176_31 hz176_31
  refine fin (v := some (.int (nar .boolean z176_31))) X24 (fun h => by cases h) ?_ (by decide) (by decide) (fun fs hr => retN X24 hx (t := .boolean) hret (by simp) (hb hby at_176) hr)
  show Q0 Z p0 p1 h0 n0 (some (.int (nar .boolean z176_31))) T24.heap _
  rw [e24q]
  exact ⟨own_fin (own_plain2 p0 p1 c0 i d z29_1_19 z_1_20 z133_21 z29_1_24 z151_25 z159_28 z176_31 hc0 hi hd2 hz29_1_19 hz_1_20 hz133_21 hz29_1_24 hz151_25 hz159_28 hz176_31), N24⟩
set_option maxRecDepth 65536 in
set_option maxHeartbeats 40000000 in
theorem comes_1 {Post : Tables → Env → Array Value → State → Outcome → State → Prop} (hpost : ∀ tb e args s v u, (limb_1_1.after args s (.returned v) u = true ∧ limb_1_2.after args s (.returned v) u = true ∧ True) → FrameEnd s (.returned v) u (Jvm.fieldLocs frame_1_writes args s ++ Jvm.arrayLocs frame_1_arrays args s ++ Jvm.staticLocs frame_1_statics s) 16 128 → Post tb e args s (.returned v) u) :
    ArmFor flags0 classFile x code maxLocals ret World_1 tables_1 room_1 Calls_1 rest_1 Pre_1 Post := by
  intro l hfl _ _ p e ha hc hk s m args below hf hA hF happ hP
  obtain ⟨hcalls, hrest, hpre⟩ := hP
  obtain ⟨-, -, -, hnamed, -, -, -, hat⟩ := (Spec.applies_iff hf).mp happ
  obtain ⟨hg, hn⟩ := and_e (Cond.before_iff.mp (show (Jvm.Cond.and given_1 narrow_1).before args s = true from hpre))
  obtain ⟨hcount, hr0⟩ := and_e hg
  obtain ⟨ha0, hr1⟩ := and_e hr0
  have ha1 := hr1
  obtain ⟨w0, w1, rfl⟩ : ∃ w0 w1 : Value, args = #[w0, w1] := by
    have hs : args.size = 2 := by simpa [Cond.value, given_1] using hcount
    obtain ⟨L⟩ := args
    match L, hs with
    | [w0, w1], _ => exact ⟨w0, w1, rfl⟩
  have hw := fun d (hd : d ∈ tables_1) => atoms_spec (ws := Jvm.Cond.code x code maxLocals ret :: tables_1) hat d (List.mem_cons_of_mem _ hd)
  have hfit : Fit s := fun {y c} hc i hi => by
    obtain ⟨ha, rfl⟩ := Array.getElem?_eq_some_iff.mp hc
    have q := List.all_eq_true.mp ((Array.all_eq_true_iff_forall_mem.mp hF) _ (Array.getElem_mem ha)) i (List.mem_range.mpr hi)
    simpa [Array.getElem?_eq_getElem hi] using q
  obtain ⟨i0, ei0⟩ := is_v ha0
  obtain rfl : w0 = (.int i0) := Option.some.inj ei0
  obtain ⟨i1, ei1⟩ := is_v ha1
  obtain rfl : w1 = (.int i1) := Option.some.inj ei1
  obtain ⟨n, o, h1, h2, h3, _, L, rfl, ⟨rfl, N⟩, hq⟩ := rm0 l s _ hw tables_1 i0 i1 s.heap s.heap.size (Nat.le_refl _) p e ha hc hk s m _ below hf ((Spec.applies_iff_loose hf).mp happ).1 ⟨rfl, State.Warmed39.refl s, rfl⟩ trivial
  refine ⟨n, _, h1, h2, h3, hpost _ _ _ _ _ _ ⟨Cond.after_iff.mpr rfl, Cond.after_iff.mpr (eq_i res_at (Term.int_eval (1)) rfl), trivial⟩ ⟨hq.1, hq.2.1, (hq.2.2.sift fun y hy => Or.inr (N y hy)).mono (by decide) (by decide)⟩⟩
theorem main_1_1 : Claimed_1_1 := comes_1 fun _ _ _ _ _ _ h hF => ⟨h.1, hF⟩
theorem main_1_2 : Claimed_1_2 := comes_1 fun _ _ _ _ _ _ h hF => ⟨h.2.1, hF⟩
end Jvm.Pilot.@@N@@
namespace Jvm.Pilot.@@N@@
open Jvm Jvm.ClassFile Sem Op Lib Jvm.Free Jvm.Stand Jvm.Pilot.@@N@@.Jvm.D
/-! MADE BY PROGRAM (witnessworld.py) out of the Statement's table words and the real class files: 11 classes; the members and pool entries that the words name. The judged class is class 1, her method 2. -/
namespace start1
open Jvm.ClassFile
def u (s : String) : CpInfo := .utf8 (stringToUtf16 s)
/-- a pool by its gaps: so many unusable entries, then the entry; so many at the end -/
def gap : Nat → List CpInfo → List CpInfo
  | 0, r => r
  | n + 1, r => .unusable :: gap n r
def poolList (es : List (Nat × CpInfo)) (last : Nat) : List CpInfo := es.foldr (fun e r => gap e.1 (e.2 :: r)) (gap last [])
def pool (es : List (Nat × CpInfo)) (last : Nat) : Array CpInfo := ⟨poolList es last⟩
def fileOf (pool : Array CpInfo) (this : Nat) (attrs : Array Attribute := #[]) (ms : Array MethodInfo := #[]) (fl : Nat := 33) (sup : Nat := 0) (ifs : Array Nat := #[]) (fds : Array FieldInfo := #[]) : ClassFile where
  minorVersion := 0
  majorVersion := 65
  constantPool := pool
  accessFlags := fl
  thisClass := this
  superClass := sup
  interfaces := ifs
  fields := fds
  methods := ms
  attributes := attrs
def plain (name : String) (sup : Option ClassId) : Class where
  name := name
  kind := .ordinary
  loader := none
  accessFlags := 33
  super := sup
  interfaces := #[]
  cf := none
  fields := #[]
  methods := #[]
  instanceTypes := #[]
  staticTypes := #[]
  resolved := #[]
  callSites := []
  init := .initialized
  statics := none
  mirror := none

def pool0 : Array CpInfo := pool [(5, u "<init>"), (0, u "()V"), (1, .class_ 10), (1, u "java/lang/Object")] 113

def k0m0 : Method := { name := "<init>", desc := "()V", sig := { parameters := [], returnType := none }, accessFlags := 1, code := none }
/-- java/lang/Object -/
def k0 : Class := { plain "java/lang/Object" none with
  accessFlags := 33
  interfaces := #[]
  cf := some (fileOf pool0 8 #[] #[{ accessFlags := 1, nameIndex := 5, descriptorIndex := 6, attributes := #[] }] 33 0 #[] #[])
  fields := #[]
  methods := #[k0m0]
  instanceTypes := #[]
  staticTypes := #[]
  resolved := Array.replicate 124 none
  statics := none }

def pool1 : Array CpInfo := pool [(2, .class_ 4), (1, u "java/lang/Object"), (0, u "<init>"), (0, u "()V"), (0, .long 4294977024), (1, .integer 65535), (0, .methodref 11 12), (0, .class_ 13), (0, .nameAndType 14 15), (0, u "org/vouchsafe/Dom"), (0, u "isXmlSpace"), (0, u "(C)Z"), (0, .methodref 17 18), (0, .class_ 19), (0, .nameAndType 20 15), (0, u "org/vouchsafe/DomIsXmlSpacePinLaw"), (0, u "expected"), (3, u "law"), (0, u "(II)Z")] 4

def k1m0 : Method := { name := "<init>", desc := "()V", sig := { parameters := [], returnType := none }, accessFlags := 2, code := none }
def k1c1 : Code := { maxStack := 4, maxLocals := 3, code := method_2_code, exceptionTable := #[], attributes := #[] }
def k1m1 : Method := { name := "expected", desc := "(C)Z", sig := { parameters := [.char], returnType := some .boolean }, accessFlags := 10, code := some k1c1 }
def k1c2 : Code := { maxStack := 4, maxLocals := 8, code := code, exceptionTable := #[], attributes := #[] }
def k1m2 : Method := { name := "law", desc := "(II)Z", sig := { parameters := [.int, .int], returnType := some .boolean }, accessFlags := 9, code := some k1c2 }
/-- org/vouchsafe/DomIsXmlSpacePinLaw -/
def k1 : Class := { plain "org/vouchsafe/DomIsXmlSpacePinLaw" (some 0) with
  accessFlags := 49
  interfaces := #[]
  cf := some (fileOf pool1 17 #[] #[{ accessFlags := 2, nameIndex := 5, descriptorIndex := 6, attributes := #[] }, { accessFlags := 10, nameIndex := 20, descriptorIndex := 15, attributes := #[] }, { accessFlags := 9, nameIndex := 24, descriptorIndex := 25, attributes := #[] }] 49 2 #[] #[])
  fields := #[]
  methods := #[k1m0, k1m1, k1m2]
  instanceTypes := #[]
  staticTypes := #[]
  resolved := Array.replicate 30 none
  statics := none }

def pool2 : Array CpInfo := pool [(2, .class_ 4), (1, u "java/lang/Object"), (0, u "<init>"), (0, u "()V"), (21, .class_ 30), (1, u "org/vouchsafe/Dom"), (159, u "(C)Z"), (13, u "isXmlSpace"), (16, u "NAME_START"), (0, u "[I"), (6, u "NAME_REST"), (30, u "AFTER_YEAR"), (0, u "Ljava/lang/String;"), (1, u "OFFSET"), (0, u "MOST_YEAR_DIGITS"), (0, u "I"), (1, u "NANO_DIGITS"), (0, u "MOST_OFFSET_MINUTES"), (1, u "SECONDS_PER_DAY"), (0, u "J")] 65

def k2m0 : Method := { name := "<init>", desc := "()V", sig := { parameters := [], returnType := none }, accessFlags := 2, code := none }
def k2c1 : Code := { maxStack := 2, maxLocals := 1, code := prog_10_method_19_code, exceptionTable := #[], attributes := #[] }
def k2m1 : Method := { name := "isXmlSpace", desc := "(C)Z", sig := { parameters := [.char], returnType := some .boolean }, accessFlags := 8, code := some k2c1 }
/-- org/vouchsafe/Dom -/
def k2 : Class := { plain "org/vouchsafe/Dom" (some 0) with
  accessFlags := 48
  interfaces := #[]
  cf := some (fileOf pool2 28 #[] #[{ accessFlags := 2, nameIndex := 5, descriptorIndex := 6, attributes := #[] }, { accessFlags := 8, nameIndex := 204, descriptorIndex := 190, attributes := #[] }] 48 2 #[] #[{ accessFlags := 26, nameIndex := 260, descriptorIndex := 261, attributes := #[] }, { accessFlags := 26, nameIndex := 263, descriptorIndex := 261, attributes := #[] }, { accessFlags := 26, nameIndex := 264, descriptorIndex := 265, attributes := #[] }, { accessFlags := 26, nameIndex := 267, descriptorIndex := 265, attributes := #[] }, { accessFlags := 26, nameIndex := 268, descriptorIndex := 265, attributes := #[] }, { accessFlags := 26, nameIndex := 270, descriptorIndex := 271, attributes := #[] }, { accessFlags := 26, nameIndex := 221, descriptorIndex := 222, attributes := #[] }, { accessFlags := 26, nameIndex := 229, descriptorIndex := 222, attributes := #[] }])
  fields := #[{ name := "AFTER_YEAR", type := (.object "java/lang/String"), accessFlags := 26, slot := 0, constantValue := 0 }, { name := "OFFSET", type := (.object "java/lang/String"), accessFlags := 26, slot := 1, constantValue := 0 }, { name := "MOST_YEAR_DIGITS", type := .int, accessFlags := 26, slot := 2, constantValue := 0 }, { name := "NANO_DIGITS", type := .int, accessFlags := 26, slot := 3, constantValue := 0 }, { name := "MOST_OFFSET_MINUTES", type := .int, accessFlags := 26, slot := 4, constantValue := 0 }, { name := "SECONDS_PER_DAY", type := .long, accessFlags := 26, slot := 5, constantValue := 0 }, { name := "NAME_START", type := (.array .int), accessFlags := 26, slot := 6, constantValue := 0 }, { name := "NAME_REST", type := (.array .int), accessFlags := 26, slot := 7, constantValue := 0 }]
  methods := #[k2m0, k2m1]
  instanceTypes := #[]
  staticTypes := #[(.object "java/lang/String"), (.object "java/lang/String"), .int, .int, .int, .long, (.array .int), (.array .int)]
  resolved := Array.replicate 337 none
  statics := none }

def pool3 : Array CpInfo := pool [(1, u "java/lang/Cloneable"), (0, .class_ 1), (0, u "java/lang/Object"), (0, .class_ 3)] 3

/-- java/lang/Cloneable -/
def k3 : Class := { plain "java/lang/Cloneable" (some 0) with
  accessFlags := 1537
  interfaces := #[]
  cf := some (fileOf pool3 2 #[] #[] 1537 4 #[] #[])
  fields := #[]
  methods := #[]
  instanceTypes := #[]
  staticTypes := #[]
  resolved := Array.replicate 8 none
  statics := none }

def pool4 : Array CpInfo := pool [(1, u "java/io/Serializable"), (0, .class_ 1), (0, u "java/lang/Object"), (0, .class_ 3)] 3

/-- java/io/Serializable -/
def k4 : Class := { plain "java/io/Serializable" (some 0) with
  accessFlags := 1537
  interfaces := #[]
  cf := some (fileOf pool4 2 #[] #[] 1537 4 #[] #[])
  fields := #[]
  methods := #[]
  instanceTypes := #[]
  staticTypes := #[]
  resolved := Array.replicate 8 none
  statics := none }

/-- the primitive byte -/
def k5 : Class := { plain "byte" none with kind := .primitive 'B', accessFlags := 0x411 }
/-- [B -/
def k6 : Class := { plain "[B" (some 0) with kind := .array 5 .byte, interfaces := #[3, 4], accessFlags := 1041 }

/-- the primitive char -/
def k7 : Class := { plain "char" none with kind := .primitive 'C', accessFlags := 0x411 }
/-- [C -/
def k8 : Class := { plain "[C" (some 0) with kind := .array 7 .char, interfaces := #[3, 4], accessFlags := 1041 }

/-- the primitive int -/
def k9 : Class := { plain "int" none with kind := .primitive 'I', accessFlags := 0x411 }
/-- [I -/
def k10 : Class := { plain "[I" (some 0) with kind := .array 9 .int, interfaces := #[3, 4], accessFlags := 1041 }

def heap : Heap := #[]
def classes : Array Class := #[k0, k1, k2, k3, k4, k5, k6, k7, k8, k9, k10]
def interned : List (Array UInt16 × Addr) := []
def slotsUsed : Nat := 0
def theMethod : MethodId := ⟨1, 2⟩
def args0 : Array Value := #[.int 5, .int 6]
def aboutOver (below : List Frame) : State where
  vm := { classes := classes, interned := interned.toArray }
  heap := heap
  slotsUsed := slotsUsed
  threads := #[{ frames := .invoking theMethod args0 :: below }]
def below0 : List Frame := [.native { method := ⟨0, 0⟩, args := #[] }]
def about1 : State := aboutOver below0
def p0 : Program := .bare "" "" ""
def e0 : Env := launch0.env 0 0 0
theorem w_frames : about1.frames = Frame.invoking theMethod args0 :: below0 := rfl
set_option maxRecDepth 65536 in
theorem w_args : argsFit about1.vm theMethod args0 = true := by decide +kernel
set_option maxRecDepth 65536 in
theorem w_heap : heapFits about1 = true := by decide +kernel
set_option maxRecDepth 65536 in
theorem w_runnable : about1.curStatus? = some .runnable := by decide +kernel
set_option maxRecDepth 65536 in
theorem w_alone : about1.alone = true := by decide +kernel
set_option maxRecDepth 65536 in
theorem w_named : about1.methodNamed? x = some theMethod := by decide +kernel
set_option maxRecDepth 65536 in
theorem w_hears : about1.hears theMethod below0 = true := by decide +kernel
set_option maxRecDepth 65536 in
theorem w_ripe : about1.ripe theMethod args0 below0 = true := by decide +kernel
theorem w_running : about1.status = .running := rfl
set_option maxRecDepth 65536 in
theorem w_room : about1.hasRoom e0.platform room_1 = true :=
  launch0.hasRoom_least _ room_1 (by decide +kernel) (by decide +kernel) (by decide +kernel) (by decide +kernel) (by decide +kernel) (by decide +kernel)
theorem allAtoms_all (ts : List Jvm.Cond) (a : Array Jvm.Value) (st : Jvm.State) : (allAtoms ts).before a st = ts.all (fun c => c.before a st) := by
  induction ts with
  | nil => rfl
  | cons c t ih =>
    show (Jvm.Cond.and c (allAtoms t)).before a st = _
    rw [Jvm.Cond.before_and, ih, List.all_cons]
def words1 : List Jvm.Cond := Jvm.Cond.code x code maxLocals ret :: tables_1
/-- a 'code' word, met by the world's own term for the bytes: nothing is compared byte by byte -/
theorem code_word {y : MethodName} {bytes : ByteArray} {mx : Nat} {rt : Option FieldType} {a : Array Value} {s : State} {m : MethodId} {meth : Method} {c : Code} (h1 : s.methodNamed? y = some m) (h2 : s.vm.method? m = some meth) (h3 : meth.code = some c) (h4 : c.code = bytes)
    (h5 : (c.maxLocals == mx && c.exceptionTable.isEmpty && decide (c.maxStack ≤ mostOperands) && decide (meth.sig.returnType = rt) && !meth.locks && decide (parseMethodDescriptor y.desc = some meth.sig)) = true) : (Jvm.Cond.code y bytes mx rt).before a s = true := by
  simp only [Bool.and_eq_true, beq_iff_eq, Bool.not_eq_true', decide_eq_true_eq] at h5
  obtain ⟨⟨⟨⟨⟨g1, g2⟩, g3⟩, g4⟩, g5⟩, g6⟩ := h5
  simp [Cond.before, Cond.holds, Cond.value, h1, h2, h3, h4, g1, g2, g3, g4, g5, g6]
def isCode : Jvm.Cond → Bool
  | .code _ _ _ _ => true
  | _ => false
theorem all_split {L : List Jvm.Cond} {P : Jvm.Cond → Bool} (h1 : L.all (fun c => isCode c || P c) = true) (h2 : ∀ c ∈ L.filter isCode, P c = true) : L.all P = true := by
  refine List.all_eq_true.mpr fun c hc => ?_
  have h := List.all_eq_true.mp h1 c hc
  rcases Bool.eq_false_or_eq_true (isCode c) with hi | hi
  · exact h2 c (List.mem_filter.mpr ⟨hc, hi⟩)
  · simpa [hi] using h
set_option maxRecDepth 65536 in
theorem w_c0 : (Jvm.Cond.code x code maxLocals ret).before args0 about1 = true := code_word (m := ⟨1, 2⟩) (meth := k1m2) (c := k1c2) (by decide +kernel) rfl rfl rfl (by decide +kernel)
set_option maxRecDepth 65536 in
theorem w_c1 : (Jvm.Cond.code ({ cls := "org/vouchsafe/Dom", name := "isXmlSpace", desc := "(C)Z" } : Jvm.MethodName) prog_10_method_19_code (1 : Nat) (Option.some Jvm.ClassFile.FieldType.boolean)).before args0 about1 = true := code_word (m := ⟨2, 1⟩) (meth := k2m1) (c := k2c1) (by decide +kernel) rfl rfl rfl (by decide +kernel)
set_option maxRecDepth 65536 in
theorem w_c2 : (Jvm.Cond.code ({ cls := "org/vouchsafe/DomIsXmlSpacePinLaw", name := "expected", desc := "(C)Z" } : Jvm.MethodName) method_2_code (3 : Nat) (Option.some Jvm.ClassFile.FieldType.boolean)).before args0 about1 = true := code_word (m := ⟨1, 1⟩) (meth := k1m1) (c := k1c1) (by decide +kernel) rfl rfl rfl (by decide +kernel)
def codes1 : List Jvm.Cond := [Jvm.Cond.code x code maxLocals ret, Jvm.Cond.code ({ cls := "org/vouchsafe/Dom", name := "isXmlSpace", desc := "(C)Z" } : Jvm.MethodName) prog_10_method_19_code (1 : Nat) (Option.some Jvm.ClassFile.FieldType.boolean), Jvm.Cond.code ({ cls := "org/vouchsafe/DomIsXmlSpacePinLaw", name := "expected", desc := "(C)Z" } : Jvm.MethodName) method_2_code (3 : Nat) (Option.some Jvm.ClassFile.FieldType.boolean)]
set_option maxRecDepth 65536 in
theorem codes_eq : words1.filter isCode = codes1 := rfl
theorem w_codes : ∀ c ∈ words1.filter isCode, c.before args0 about1 = true := by
  rw [codes_eq]
  intro c hc
  simp only [codes1, List.mem_cons, List.not_mem_nil, or_false] at hc
  rcases hc with rfl | rfl | rfl
  · exact w_c0
  · exact w_c1
  · exact w_c2
set_option maxRecDepth 65536 in
theorem w_t1 : words1.all (fun c => isCode c || c.before args0 about1) = true := by decide +kernel
theorem w_tables : (allAtoms (Jvm.Cond.code x code maxLocals ret :: tables_1)).before args0 about1 = true := by
  rw [allAtoms_all]
  show words1.all (fun c => c.before args0 about1) = true
  refine all_split ?_ w_codes
  rw [w_t1]
set_option maxRecDepth 65536 in
theorem w_case : (Jvm.Cond.and given_1 narrow_1).before args0 about1 = true := by decide +kernel
theorem w_applies : (headSpec (Jvm.Cond.code x code maxLocals ret :: tables_1) room_1).applies x e0.platform about1 = true :=
  (Spec.applies_iff w_frames).mpr ⟨w_running, w_runnable, w_alone, w_named, w_hears, w_ripe, w_room, w_tables⟩
theorem atStart : AtStart classFile x code maxLocals ret World_1 tables_1 room_1 Calls_1 rest_1 Pre_1 launch0 p0 e0 about1 theMethod args0 below0 :=
  ⟨lists_1, trivial, launch0.admits_env _ _ _, launch0.least_env, fairChoices_fair.cas, fairChoices_fair.clock, w_frames, w_args, w_heap, w_applies, trivial, trivial, w_case⟩
end start1
theorem witness_1 : WitnessClaimed_1 := ⟨start1.p0, start1.e0, start1.about1, start1.theMethod, start1.args0, start1.below0, start1.atStart⟩
end Jvm.Pilot.@@N@@
