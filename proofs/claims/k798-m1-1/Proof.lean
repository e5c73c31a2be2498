import JvmDerived
import JvmDerived.Pilot.@@N@@Statement
import JvmDerived.Pilot.@@N@@Code
set_option linter.unusedVariables false
set_option linter.unusedSimpArgs false
namespace Jvm.RoadKit
open Sem ClassFile Op Lib Jvm.Stand Jvm.Free Jvm.LawKit
section New
variable {p : Program} {l : Launch} {e : Env} {R : Room} {s : State} {m : MethodId} {args : Array Value} {below : List Frame} {meth : Method} {c : Code} {T : State} {locs : List Loc} {cells slots : Nat}
theorem retI (X : Stand p l e R s m args below meth c T locs cells slots) (hx : p.tables.exec = Jvm.exec) {pc : Nat} {Ls : Array Slot} {z : Int32} {rest : List Value} (hret : meth.sig.returnType = some .int) (hd : decode c.code pc = .ok (.ireturn, 1)) {fs : List Frame}
    (hl : ∀ (f : JFrame) (acts : List Action), f.method = m → f.locked = none → f.entered = [] → (doReturn e (T.setTop f) acts (some (.int z))).1 = T.setFrames fs) : Steps p.tables e below (T.setTop (mkF m pc Ls (.int z :: rest))) (T.setFrames fs) := by
  have hm' : T.vm.method? m = some meth := X.method'
  have hn : narrow .int (.int z) = .int z := rfl
  show Steps p.tables e below (T.setTop { method := m, pc := pc, locals := Ls, stack := _ :: rest, locked := none }) _
  jvm_step X.here [X.here.top, hx, hd, hm', hret, hn]
  first | (intro acts; rw [hl _ acts rfl rfl rfl]) | rw [hl _ _ rfl rfl rfl]
  exact Steps.refl _
end New
end Jvm.RoadKit
namespace Jvm.Pilot.@@N@@
open Jvm Jvm.ClassFile Sem Op Lib Jvm.Free Jvm.Stand Jvm.LawKit Jvm.RoadKit Bundle Jvm.Pilot.@@N@@.Jvm.D
/-- a body's contract, by a walk forwards: G U says that the run from U comes to an end that the contract allows -/
theorem own_body {l : Launch} {Z : State} {y : MethodName} {bytes : ByteArray} {maxL : Nat} {ret : Option FieldType} {ws : List Jvm.Cond} {rm : Room} {as' : Array Value} {h0 : Heap} {Q : Option Value → Heap → List Loc → Prop} (hpl : plainFor y = true)
    (body : ∀ (p : Program) (e : Env) (s : State) (m : MethodId) (below : List Frame) (meth : Method) (c : Code) (s₁ : State) (G : State → Prop),
      p.tables.exec = Jvm.exec → c.code = bytes → c.maxLocals = maxL → Z.Warmed39 s.vm → s.vm.findClass y.cls = some m.cls → meth.name = y.name → meth.sig.returnType = ret →
      Stand p l e rm s m as' below meth c s₁ [] 0 0 → s₁.heap = h0 →
      (∀ (U' : State) {U : State}, (∀ t, Steps p.tables e below U' t → Steps p.tables e below U t) → G U' → G U) →
      (∀ {U T : State} {locs : List Loc} {cells slots : Nat} {v : Option Value}, Stand p l e rm s m as' below meth c T locs cells slots → (ret = none → v = none) → Q v T.heap locs → cells ≤ rm.cells → slots ≤ rm.slots →
        (∀ fs, (∀ (f : JFrame) (acts : List Action), f.method = m → f.locked = none → f.entered = [] → (doReturn e (T.setTop f) acts v).1 = T.setFrames fs) → Steps p.tables e below U (T.setFrames fs)) → G U) →
      G (s₁.setTop (entryFrame m as' maxL))) :
    MetFree l y (head1 (Jvm.Cond.code y bytes maxL ret :: ws) rm) (fun a U => a = as' ∧ Z.Warmed39 U.vm ∧ U.heap = h0) (fun _ _ _ _ _ => True) (fun _ U o U' => ∃ v L, o = .returned v ∧ Q v U'.heap L ∧ FrameEnd U o U' L rm.cells rm.slots) := by
  refine MetFree.of_bodySF hpl hisR ?_
  intro p e s m args below meth c s₁ Bd hml0 hP hK
  obtain ⟨rfl, hZ, hh⟩ := hP
  have hnm := (name_of_methodNamed Bd.named Bd.method).1
  exact body p e s m below meth c s₁ (fun U => ∃ s₂ o, Steps p.tables e below U s₂ ∧ s₂.status = .running ∧ Ended s₂ below o ∧ ∃ v L, o = .returned v ∧ Q v s₂.heap L ∧ FrameEnd s o s₂ L rm.cells rm.slots)
    Bd.exec Bd.bytes hml0 hZ (findClass_of_methodNamed Bd.named) hnm Bd.returns (Stand.of_body Bd) (by rw [← hh, Bd.state]; rfl)
    (fun U' U h k => by obtain ⟨s₂, o, h1, h2⟩ := k; exact ⟨s₂, o, h _ h1, h2⟩)
    (fun {U T locs cells slots v} X hv hQ hc hs hst => by
      obtain ⟨fs, hr, hrun, hended, hW, hsame⟩ := X.leave (v := v) (fun h => hv (by rw [← Bd.returns]; exact h))
      exact ⟨_, _, hst fs hr, hrun, hended, v, locs, rfl, hQ, ⟨_, rfl⟩, hW, hsame.mono hc hs⟩)
/-- the same, of a body that may intern String constants on its way -/
theorem own_bodyW {l : Launch} {Z : State} {y : MethodName} {bytes : ByteArray} {maxL : Nat} {ret : Option FieldType} {ws : List Jvm.Cond} {rm : Room} {as' : Array Value} {h0 : Heap} {Q : Option Value → Heap → List Loc → Prop} (hpl : plainFor y = true)
    (body : ∀ (p : Program) (e : Env) (s : State) (m : MethodId) (below : List Frame) (meth : Method) (c : Code) (s₁ : State) (G : State → Prop) (vm0 : Vm) (k0 : Nat),
      p.tables.exec = Jvm.exec → c.code = bytes → c.maxLocals = maxL → Z.Warmed39 vm0 → vm0.findClass y.cls = some m.cls → meth.name = y.name → meth.sig.returnType = ret → s.Since vm0 k0 → k0 ≤ h0.size →
      Stand p l e rm (s.setVm vm0) m as' below meth c s₁ [] 0 0 → s₁.heap = h0 →
      (∀ (U' : State) {U : State}, (∀ t, Steps p.tables e below U' t → Steps p.tables e below U t) → G U' → G U) →
      (∀ {U T : State} {locs : List Loc} {cells slots : Nat} {v : Option Value} {vm1 : Vm} {k1 : Nat}, Stand p l e rm (s.setVm vm1) m as' below meth c T locs cells slots → s.Since vm1 k1 → k1 ≤ T.heap.size → (ret = none → v = none) → Q v T.heap locs → cells ≤ rm.cells → slots ≤ rm.slots →
        (∀ fs, (∀ (f : JFrame) (acts : List Action), f.method = m → f.locked = none → f.entered = [] → (doReturn e (T.setTop f) acts v).1 = T.setFrames fs) → Steps p.tables e below U (T.setFrames fs)) → G U) →
      G (s₁.setTop (entryFrame m as' maxL))) :
    MetFree l y (head1 (Jvm.Cond.code y bytes maxL ret :: ws) rm) (fun a U => a = as' ∧ Z.Warmed39 U.vm ∧ U.heap = h0) (fun _ _ _ _ _ => True) (fun _ U o U' => ∃ v L, o = .returned v ∧ Q v U'.heap L ∧ ReturnedEndW U o U' L rm.cells rm.slots) := by
  refine MetFree.of_bodySF hpl hisR ?_
  intro p e s m args below meth c s₁ Bd hml0 hP hK
  obtain ⟨rfl, hZ, hh⟩ := hP
  have hnm := (name_of_methodNamed Bd.named Bd.method).1
  have X0 := Stand.of_body Bd
  exact body p e s m below meth c s₁ (fun U => ∃ s₂ o, Steps p.tables e below U s₂ ∧ s₂.status = .running ∧ Ended s₂ below o ∧ ∃ v L, o = .returned v ∧ Q v s₂.heap L ∧ ReturnedEndW s o s₂ L rm.cells rm.slots)
    s.vm h0.size Bd.exec Bd.bytes hml0 hZ (findClass_of_methodNamed Bd.named) hnm Bd.returns ((State.WarmedH.refl s).since _) (Nat.le_refl _) X0 (by rw [← hh, Bd.state]; rfl)
    (fun U' U h k => by obtain ⟨s₂, o, h1, h2⟩ := k; exact ⟨s₂, o, h _ h1, h2⟩)
    (fun {U T locs cells slots v vm1 k1} X hS hk hv hQ hc hs hst => by
      obtain ⟨fs, hr, hrun, hended, hE⟩ := X.leaveW hS hk (v := v) (fun h => hv (by rw [← Bd.returns]; exact h))
      exact ⟨_, _, hst fs hr, hrun, hended, v, locs, rfl, hQ, hE.1, hE.2.1, hE.2.2.1, hE.2.2.2.mono hc hs⟩)
theorem own_fin {z : Int32} (h : z = 1) : some (Value.int (nar .boolean z)) = some (.int 1) := by subst h; rfl
theorem own_and3 (p : Int32) : p &&& 3 = 0 ∨ p &&& 3 = 1 ∨ p &&& 3 = 2 ∨ p &&& 3 = 3 := by
  have h := c_mask p 3 2 (by decide) (by decide)
  have h4 : (p &&& 3).toInt = 0 ∨ (p &&& 3).toInt = 1 ∨ (p &&& 3).toInt = 2 ∨ (p &&& 3).toInt = 3 := by omega
  rcases h4 with h | h | h | h
  · exact Or.inl (Int32.toInt_inj.mp h)
  · exact Or.inr (Or.inl (Int32.toInt_inj.mp h))
  · exact Or.inr (Or.inr (Or.inl (Int32.toInt_inj.mp h)))
  · exact Or.inr (Or.inr (Or.inr (Int32.toInt_inj.mp h)))
theorem own_eqi {args : Array Value} {s : State} {t : Term} {n : Int32} (h : (Jvm.Cond.eq t (.int n)).value args s none s [] = some true) : t.eval args s none [] s = some (.int n) := by
  simp only [Cond.value, Term.eval] at h
  cases ht : t.eval args s none [] s with
  | none => simp [ht] at h
  | some x => cases x <;> simp [ht] at h ⊢; exact h
theorem own_irr {x : Int32} : ¬ (x < x) := by rw [Int32.lt_iff_toInt_lt]; omega
theorem own_selP {args : Array Value} {s : State} {y : MethodName} {k : Nat} (hinst : (Jvm.Cond.instanceMethod y).before args s = true) (hi : (Jvm.Cond.instantiable y.cls k).before args s = true) (hp : s.PrivateAt y) (hy : y.cls ≠ "java/lang/invoke/MethodHandle" ∧ y.cls ≠ "java/lang/invoke/VarHandle") : (Jvm.Cond.selects y.cls y y).before args s = true := by
  obtain ⟨m, meth, hn, hm, -, -⟩ := Cond.instanceMethod_spec hinst
  obtain ⟨c, kk, h1, h2, -, h4, -⟩ := Cond.instantiable_spec hi
  have hf := State.methodFound?_of_named hn hy
  have hc := findClass_of_methodNamed hn
  cases h1.symm.trans hc
  have hs := selectMethod_private (p := {}) (c := m.cls) hm (hp m meth hn hm)
  have h5 : kk.isInterface = false := by simp only [Bool.or_eq_false_iff] at h4; exact h4.1
  simp [Cond.before, Cond.holds, Cond.value, hc, hf, hn, hs, h2, h5]
theorem own_add0 (x : Int32) : x = (x + (0 : Int32)) := (Int32.add_zero x).symm
theorem own_nn (x y : Int32) (h : (x &&& (2147483647 : Int32)) = y) : ¬ (y < (0 : Int32)) := by
  subst h
  have h := c_mask x 2147483647 31 (by decide) (by decide)
  rw [Int32.lt_iff_toInt_lt]
  have e : (0 : Int32).toInt = 0 := by decide
  omega
theorem own_255 (x y : Int32) (h : ((x &&& (255 : Int32)).toUInt32.toUInt16.toUInt32.toInt32) = y) : ¬ ((255 : Int32) < y) := by
  subst h
  have h := c_mask x 255 8 (by decide) (by decide)
  have h2 := c_i2c (x &&& 255)
  rw [Int32.lt_iff_toInt_lt]
  have e : (255 : Int32).toInt = 255 := by decide
  omega
theorem own_exaP {Z : State} {h : Heap} {a : Addr} {C : String} (F : Exa Z h a C) : ∀ cell : Cell, h[a]? = some cell → cell.vm.isStatics = false := fun cell q => by
  obtain ⟨c', _, h1, -, -, h4, -⟩ := F
  cases h1.symm.trans q
  exact h4
theorem own_arvP {Z : State} {h : Heap} {a : Addr} {k : ClassId} {ty : FieldType} {z : Int32} {vs : List Value} {dv : Value} (F : Arv Z h a k ty z vs dv) : ∀ cell : Cell, h[a]? = some cell → cell.vm.isStatics = false := fun cell q => by
  obtain ⟨c', A, -⟩ := F
  cases A.1.symm.trans q
  exact A.plain
theorem own_staK {Z : State} {h h' : Heap} {ws : List Addr} {C n d : String} {v : Value} (F : Sta Z h C n d v) (K : Keep h h' ws) (q : ∀ x ∈ ws, ∀ cell : Cell, h[x]? = some cell → cell.vm.isStatics = false) : Sta Z h' C n d v := by
  obtain ⟨cf, i, k, f, st, cell, h1, h2, h3, h4, h5, h6, h7⟩ := F
  exact ⟨cf, i, k, f, st, cell, h1, h2, h3, h4, K.2.1 st cell h5 (fun hm => by rw [q st hm cell h5] at h6; cases h6), h6, h7⟩
theorem own_arr0 {args : Array Value} {s : State} {t : Term} {a : Addr} {ty : FieldType} {dv : Value} (hf : Fit s) (ev : t.eval args s none [] s = some (.ref a)) (hA : (Jvm.Cond.arrayOf t ty).value args s none s [] = some true) (hl : (Jvm.Cond.eq (.length t) (.int 0)).value args s none s [] = some true) : ∃ k, Arv s s.heap a k ty 0 [] dv := by
  obtain ⟨c, A⟩ := Arr.start ev hA
  have h0 := own_eqi hl
  obtain ⟨a', cell, e1, e2, e3⟩ := Term.length_spec h0
  cases ev.symm.trans e1
  have e4 : s.arrayAt? a = some c := Arr.fin (U := s) (Vm.Alike.refl _) A
  cases e4.symm.trans e2
  have hq : c.slots.size < 2 ^ 31 := by
    by_cases q : c.slots.size < 2 ^ 31
    · exact q
    · simp [Term.eval, ev, e4, q] at h0
  have e5 : c.slots.size.toInt32 = 0 := by injection e3 with e; exact e.symm
  exact ⟨_, Arv.start hf A hq e5 (by decide) rfl trivial⟩
theorem own_255n (x y : Int32) (h : ((x &&& (255 : Int32)).toUInt32.toUInt16.toUInt32.toInt32) = y) : ¬ ((255 : Int32) < (nar .char y)) := by
  have h1 := own_255 x y h
  have h0 := (c_i2c (x &&& 255)).2.1
  rw [h] at h0
  have h2 : (nar .char y).toInt = (y.toUInt32.toUInt16.toUInt32.toInt32).toInt := rfl
  have h3 := c_i2c y
  rw [Int32.lt_iff_toInt_lt] at *
  have e : (255 : Int32).toInt = 255 := by decide
  omega
theorem own_tri (a b : Int64) : (a < b ∧ ¬ a = b ∧ ¬ b = a ∧ ¬ b < a) ∨ (¬ a < b ∧ a = b ∧ b = a ∧ ¬ b < a) ∨ (¬ a < b ∧ ¬ a = b ∧ ¬ b = a ∧ b < a) := by
  simp only [Int64.lt_iff_toInt_lt, ← Int64.toInt_inj]
  omega
def own_ap {α β : Type} (e : α) (F : α → β) : β := F e
theorem own_let {α β : Type} {z e : α} {F : α → β} {g : β} (h : z = e) (k : g = F z) : g = own_ap e F := by subst h; exact k
theorem own_getD (xs : List Int32) (n : Nat) (d : Int32) : (xs.map Value.int).getD n (.int d) = .int (xs.getD n d) := by
  simp only [List.getD_eq_getElem?_getD, List.getElem?_map]
  cases xs[n]? <;> rfl
/-- what headEnd comes to, from the place i on -/
def own_he : Nat → List Int32 → Int32 → Int32 → Int32
  | 0, _, _, _ => -1
  | n + 1, xs, i, to => if i < to then (if (List.getD xs (i).toNatClampNeg (0 : Int32)) = (10 : Int32) then
      (if (i + (1 : Int32)) < to then (if (List.getD xs ((i + (1 : Int32))).toNatClampNeg (0 : Int32)) = (10 : Int32) then (i + (2 : Int32))
        else (if (i + (2 : Int32)) < to then (if (List.getD xs ((i + (1 : Int32))).toNatClampNeg (0 : Int32)) = (13 : Int32) then (if (List.getD xs ((i + (2 : Int32))).toNatClampNeg (0 : Int32)) = (10 : Int32) then (i + (3 : Int32)) else own_he n xs (i + (1 : Int32)) to) else own_he n xs (i + (1 : Int32)) to) else own_he n xs (i + (1 : Int32)) to))
      else (if (i + (2 : Int32)) < to then (if (List.getD xs ((i + (1 : Int32))).toNatClampNeg (0 : Int32)) = (13 : Int32) then (if (List.getD xs ((i + (2 : Int32))).toNatClampNeg (0 : Int32)) = (10 : Int32) then (i + (3 : Int32)) else own_he n xs (i + (1 : Int32)) to) else own_he n xs (i + (1 : Int32)) to) else own_he n xs (i + (1 : Int32)) to))
      else own_he n xs (i + (1 : Int32)) to) else (-1 : Int32)
theorem own_lits : (0 : Int32).toInt = 0 ∧ (1 : Int32).toInt = 1 ∧ (2 : Int32).toInt = 2 ∧ (6 : Int32).toInt = 6 := by decide
theorem own_in0 {i to : Int32} (h0 : 0 ≤ i.toInt) (h : i < to) (ht : to.toInt ≤ 6) : ¬ i < 0 ∧ i < (6 : Int32) := by
  have := own_lits
  rw [Int32.lt_iff_toInt_lt, Int32.lt_iff_toInt_lt] at *
  omega
theorem own_in1 {i to : Int32} (h0 : 0 ≤ i.toInt) (h : i < to) (ht : to.toInt ≤ 6) (h1 : (i + (1 : Int32)) < to) : ¬ (i + (1 : Int32)) < 0 ∧ (i + (1 : Int32)) < (6 : Int32) := by
  have := own_lits
  have := c_iadd i 1
  have := rng32 (i + 1)
  rw [Int32.lt_iff_toInt_lt, Int32.lt_iff_toInt_lt] at *
  omega
theorem own_in2 {i to : Int32} (h0 : 0 ≤ i.toInt) (h : i < to) (ht : to.toInt ≤ 6) (h1 : (i + (2 : Int32)) < to) : ¬ (i + (2 : Int32)) < 0 ∧ (i + (2 : Int32)) < (6 : Int32) := by
  have := own_lits
  have := c_iadd i 2
  have := rng32 (i + 2)
  rw [Int32.lt_iff_toInt_lt, Int32.lt_iff_toInt_lt] at *
  omega
theorem own_in12 {i to : Int32} (h0 : 0 ≤ i.toInt) (h : i < to) (ht : to.toInt ≤ 6) (h1 : (i + (2 : Int32)) < to) : ¬ (i + (1 : Int32)) < 0 ∧ (i + (1 : Int32)) < (6 : Int32) := by
  have := own_lits
  have := c_iadd i 1
  have := rng32 (i + 1)
  have := c_iadd i 2
  have := rng32 (i + 2)
  rw [Int32.lt_iff_toInt_lt, Int32.lt_iff_toInt_lt] at *
  omega
theorem own_succ {i to : Int32} (h0 : 0 ≤ i.toInt) (h : i < to) (ht : to.toInt ≤ 6) : (i + (1 : Int32)).toInt = i.toInt + 1 := by
  have := own_lits
  have := c_iadd i 1
  have := rng32 (i + 1)
  rw [Int32.lt_iff_toInt_lt] at *
  omega
theorem own_stop {i to : Int32} (h : to.toInt ≤ i.toInt + (0 : Nat)) : ¬ i < to := by
  rw [Int32.lt_iff_toInt_lt]
  omega
theorem d3_0 : decode prog_17_method_2_code 0 = .ok (.iload_n 1, 1) := by decide +kernel
theorem d3_1 : decode prog_17_method_2_code 1 = .ok (.istore_n 3, 1) := by decide +kernel
theorem d3_2 : decode prog_17_method_2_code 2 = .ok (.iload_n 3, 1) := by decide +kernel
theorem d3_3 : decode prog_17_method_2_code 3 = .ok (.iload_n 2, 1) := by decide +kernel
theorem d3_4 : decode prog_17_method_2_code 4 = .ok (.if_icmp .ge 72, 3) := by decide +kernel
theorem d3_7 : decode prog_17_method_2_code 7 = .ok (.aload_n 0, 1) := by decide +kernel
theorem d3_8 : decode prog_17_method_2_code 8 = .ok (.iload_n 3, 1) := by decide +kernel
theorem d3_9 : decode prog_17_method_2_code 9 = .ok (.baload, 1) := by decide +kernel
theorem d3_10 : decode prog_17_method_2_code 10 = .ok (.bipush 10, 2) := by decide +kernel
theorem d3_12 : decode prog_17_method_2_code 12 = .ok (.if_icmp .eq 6, 3) := by decide +kernel
theorem d3_15 : decode prog_17_method_2_code 15 = .ok (.goto 55, 3) := by decide +kernel
theorem d3_18 : decode prog_17_method_2_code 18 = .ok (.iload_n 3, 1) := by decide +kernel
theorem d3_19 : decode prog_17_method_2_code 19 = .ok (.iconst 1, 1) := by decide +kernel
theorem d3_20 : decode prog_17_method_2_code 20 = .ok (.iadd, 1) := by decide +kernel
theorem d3_21 : decode prog_17_method_2_code 21 = .ok (.iload_n 2, 1) := by decide +kernel
theorem d3_22 : decode prog_17_method_2_code 22 = .ok (.if_icmp .ge 17, 3) := by decide +kernel
theorem d3_25 : decode prog_17_method_2_code 25 = .ok (.aload_n 0, 1) := by decide +kernel
theorem d3_26 : decode prog_17_method_2_code 26 = .ok (.iload_n 3, 1) := by decide +kernel
theorem d3_27 : decode prog_17_method_2_code 27 = .ok (.iconst 1, 1) := by decide +kernel
theorem d3_28 : decode prog_17_method_2_code 28 = .ok (.iadd, 1) := by decide +kernel
theorem d3_29 : decode prog_17_method_2_code 29 = .ok (.baload, 1) := by decide +kernel
theorem d3_30 : decode prog_17_method_2_code 30 = .ok (.bipush 10, 2) := by decide +kernel
theorem d3_32 : decode prog_17_method_2_code 32 = .ok (.if_icmp .ne 7, 3) := by decide +kernel
theorem d3_35 : decode prog_17_method_2_code 35 = .ok (.iload_n 3, 1) := by decide +kernel
theorem d3_36 : decode prog_17_method_2_code 36 = .ok (.iconst 2, 1) := by decide +kernel
theorem d3_37 : decode prog_17_method_2_code 37 = .ok (.iadd, 1) := by decide +kernel
theorem d3_38 : decode prog_17_method_2_code 38 = .ok (.ireturn, 1) := by decide +kernel
theorem d3_39 : decode prog_17_method_2_code 39 = .ok (.iload_n 3, 1) := by decide +kernel
theorem d3_40 : decode prog_17_method_2_code 40 = .ok (.iconst 2, 1) := by decide +kernel
theorem d3_41 : decode prog_17_method_2_code 41 = .ok (.iadd, 1) := by decide +kernel
theorem d3_42 : decode prog_17_method_2_code 42 = .ok (.iload_n 2, 1) := by decide +kernel
theorem d3_43 : decode prog_17_method_2_code 43 = .ok (.if_icmp .ge 27, 3) := by decide +kernel
theorem d3_46 : decode prog_17_method_2_code 46 = .ok (.aload_n 0, 1) := by decide +kernel
theorem d3_47 : decode prog_17_method_2_code 47 = .ok (.iload_n 3, 1) := by decide +kernel
theorem d3_48 : decode prog_17_method_2_code 48 = .ok (.iconst 1, 1) := by decide +kernel
theorem d3_49 : decode prog_17_method_2_code 49 = .ok (.iadd, 1) := by decide +kernel
theorem d3_50 : decode prog_17_method_2_code 50 = .ok (.baload, 1) := by decide +kernel
theorem d3_51 : decode prog_17_method_2_code 51 = .ok (.bipush 13, 2) := by decide +kernel
theorem d3_53 : decode prog_17_method_2_code 53 = .ok (.if_icmp .ne 17, 3) := by decide +kernel
theorem d3_56 : decode prog_17_method_2_code 56 = .ok (.aload_n 0, 1) := by decide +kernel
theorem d3_57 : decode prog_17_method_2_code 57 = .ok (.iload_n 3, 1) := by decide +kernel
theorem d3_58 : decode prog_17_method_2_code 58 = .ok (.iconst 2, 1) := by decide +kernel
theorem d3_59 : decode prog_17_method_2_code 59 = .ok (.iadd, 1) := by decide +kernel
theorem d3_60 : decode prog_17_method_2_code 60 = .ok (.baload, 1) := by decide +kernel
theorem d3_61 : decode prog_17_method_2_code 61 = .ok (.bipush 10, 2) := by decide +kernel
theorem d3_63 : decode prog_17_method_2_code 63 = .ok (.if_icmp .ne 7, 3) := by decide +kernel
theorem d3_66 : decode prog_17_method_2_code 66 = .ok (.iload_n 3, 1) := by decide +kernel
theorem d3_67 : decode prog_17_method_2_code 67 = .ok (.iconst 3, 1) := by decide +kernel
theorem d3_68 : decode prog_17_method_2_code 68 = .ok (.iadd, 1) := by decide +kernel
theorem d3_69 : decode prog_17_method_2_code 69 = .ok (.ireturn, 1) := by decide +kernel
theorem d3_70 : decode prog_17_method_2_code 70 = .ok (.iinc 3 1, 3) := by decide +kernel
theorem d3_73 : decode prog_17_method_2_code 73 = .ok (.goto (-71), 3) := by decide +kernel
theorem d3_76 : decode prog_17_method_2_code 76 = .ok (.iconst (-1), 1) := by decide +kernel
theorem d3_77 : decode prog_17_method_2_code 77 = .ok (.ireturn, 1) := by decide +kernel
theorem pn_0 : plainName "com/example/whisman/whisman/connector/RequestHeadParser" = true := by first | (simp [plainName, overriddenIn]; done) | decide +kernel
theorem ef_3 (m : MethodId) (x0 : Addr) (x1 : Int32) (x2 : Int32) : entryFrame m #[(.ref x0), (.int x1), (.int x2)] 4 = mkF m 0 #[.val (.ref x0), .val (.int x1), .val (.int x2), .unset] [] := by first | (simp [entryFrame, mkF, argsToLocals, Value.category]; done) | rfl
def Q3 (Z : State) (o1 : Addr) (kc : ClassId) (b0 b1 b2 b3 b4 b5 fm to : Int32) (h0 : Heap) (n0 : Nat) (v : Option Value) (h : Heap) (L : List Loc) : Prop := v = some (.int (own_he 7 [b0, b1, b2, b3, b4, b5] fm to)) ∧ Fr n0 L ∧ h = h0
set_option maxRecDepth 65536 in
set_option maxHeartbeats 40000000 in
theorem rm3 (l : Launch) (Z : State) (a0 : Array Value) (hw : ∀ d ∈ tables_1, d.before a0 Z = true) (ws : List Jvm.Cond) (o1 : Addr) (kc : ClassId) (b0 b1 b2 b3 b4 b5 fm to : Int32) (h0 : Heap) (n0 : Nat) (Z0 : n0 ≤ h0.size) (Va : Arv Z h0 o1 kc .byte (6 : Int32) [(.int b0), (.int b1), (.int b2), (.int b3), (.int b4), (.int b5)] (.int (0 : Int32))) (hf : 0 ≤ fm.toInt) (ht : to.toInt ≤ 6) :
    MetFree l (⟨"com/example/whisman/whisman/connector/RequestHeadParser", "headEnd", "([BII)I"⟩ : MethodName) (head1 (Jvm.Cond.code (⟨"com/example/whisman/whisman/connector/RequestHeadParser", "headEnd", "([BII)I"⟩ : MethodName) prog_17_method_2_code 4 (some .int) :: ws) ({ frames := 0, cells := 0, slots := 0, locals := 0 } : Room)) (fun a U => a = #[(.ref o1), (.int fm), (.int to)] ∧ Z.Warmed39 U.vm ∧ U.heap = h0) (fun _ _ _ _ _ => True) (fun _ U o U' => ∃ v L, o = .returned v ∧ Q3 Z o1 kc b0 b1 b2 b3 b4 b5 fm to h0 n0 v U'.heap L ∧ FrameEnd U o U' L ({ frames := 0, cells := 0, slots := 0, locals := 0 } : Room).cells ({ frames := 0, cells := 0, slots := 0, locals := 0 } : Room).slots) := by
  refine own_body (plainFor_of_name pn_0) ?_
  intro p e s m below meth c s₁ G hx hby hml hZ hown hnm hret X0 e0 step fin
  replace hown : s.vm.findClass "com/example/whisman/whisman/connector/RequestHeadParser" = some m.cls := hown
  replace hnm : meth.name = "headEnd" := hnm
  replace hret : meth.sig.returnType = some .int := hret
  replace hml : c.maxLocals = 4 := hml
  have N0 := Fr.nil n0
  refine step (s₁.setTop (mkF m 0 #[.val (.ref o1), .val (.int fm), .val (.int to), .unset] [])) (fun t k => castTop (ef_3 m o1 fm to) k) ?_
  refine step (s₁.setTop (mkF m 1 #[.val (.ref o1), .val (.int fm), .val (.int to), .unset] [(.int fm)])) (fun t k => XS.iloadN X0.here hx rfl (hb hby d3_0) rfl k) ?_
  refine step (s₁.setTop (mkF m 2 #[.val (.ref o1), .val (.int fm), .val (.int to), .val (.int fm)] [])) (fun t k => XS.istoreN X0.here hx rfl (hb hby d3_1) rfl (l' := #[.val (.ref o1), .val (.int fm), .val (.int to), .val (.int fm)]) rfl k) ?_
  suffices loop : ∀ (n : Nat) (i : Int32), 0 ≤ i.toInt → to.toInt ≤ i.toInt + n → own_he n [b0, b1, b2, b3, b4, b5] i to = own_he 7 [b0, b1, b2, b3, b4, b5] fm to → G (s₁.setTop (mkF m 2 #[.val (.ref o1), .val (.int fm), .val (.int to), .val (.int i)] [])) by exact loop 7 fm hf (by omega) rfl
  intro n
  induction n with
  | zero =>
    intro i h0i h1i hR
    refine step (s₁.setTop (mkF m 3 #[.val (.ref o1), .val (.int fm), .val (.int to), .val (.int i)] [(.int i)])) (fun t k => XS.iloadN X0.here hx rfl (hb hby d3_2) rfl k) ?_
    refine step (s₁.setTop (mkF m 4 #[.val (.ref o1), .val (.int fm), .val (.int to), .val (.int i)] [(.int to), (.int i)])) (fun t k => XS.iloadN X0.here hx rfl (hb hby d3_3) rfl k) ?_
    have hc4_1 : ¬ (i < to) := own_stop h1i
    refine step (s₁.setTop (mkF m 76 #[.val (.ref o1), .val (.int fm), .val (.int to), .val (.int i)] [])) (fun t k => XS.icmpYes X0.here hx rfl (pc0 := 4) (pc' := 76) rfl (hb hby d3_4) rfl (flt hc4_1).2.1 (by decide) (by decide) k) ?_
    refine step (s₁.setTop (mkF m 77 #[.val (.ref o1), .val (.int fm), .val (.int to), .val (.int i)] [(.int (-1 : Int32))])) (fun t k => XS.iconst X0.here hx rfl (hb hby d3_76) k) ?_
    refine fin (v := some (.int (-1 : Int32))) X0 (fun h => by cases h) ?_ (by decide) (by decide) (fun fs hr => retI X0 hx hret (hb hby d3_77) hr)
    show Q3 Z o1 kc b0 b1 b2 b3 b4 b5 fm to h0 n0 (some (.int (-1 : Int32))) s₁.heap _
    rw [e0]
    have hv : (-1 : Int32) = own_he 7 [b0, b1, b2, b3, b4, b5] fm to := by rw [← hR]; simp only [own_he]
    exact ⟨congrArg (fun z => some (Value.int z)) hv, N0, rfl⟩
  | succ n ih =>
    intro i h0i h1i hR
    refine step (s₁.setTop (mkF m 3 #[.val (.ref o1), .val (.int fm), .val (.int to), .val (.int i)] [(.int i)])) (fun t k => XS.iloadN X0.here hx rfl (hb hby d3_2) rfl k) ?_
    refine step (s₁.setTop (mkF m 4 #[.val (.ref o1), .val (.int fm), .val (.int to), .val (.int i)] [(.int to), (.int i)])) (fun t k => XS.iloadN X0.here hx rfl (hb hby d3_3) rfl k) ?_
    by_cases hc4_2 : i < to
    · -- pc 4: i < to True
      refine step (s₁.setTop (mkF m 7 #[.val (.ref o1), .val (.int fm), .val (.int to), .val (.int i)] [])) (fun t k => XS.icmpNo X0.here hx rfl (hb hby d3_4) rfl (tlt hc4_2).2.1 k) ?_
      refine step (s₁.setTop (mkF m 8 #[.val (.ref o1), .val (.int fm), .val (.int to), .val (.int i)] [(.ref o1)])) (fun t k => XS.aloadN X0.here hx rfl (hb hby d3_7) rfl rfl k) ?_
      refine step (s₁.setTop (mkF m 9 #[.val (.ref o1), .val (.int fm), .val (.int to), .val (.int i)] [(.int i), (.ref o1)])) (fun t k => XS.iloadN X0.here hx rfl (hb hby d3_8) rfl k) ?_
      obtain ⟨cl3, Ar3, q3, S3, N3n, H3, G3⟩ := id Va
      have hin3 : ¬ (i < 0 ∨ cl3.slots.size ≤ (i).toNatClampNeg) := inb_of S3 (own_in0 h0i hc4_2 ht)
      have hat3 : cl3.slots[(i).toNatClampNeg]? = some (.int (List.getD [b0, b1, b2, b3, b4, b5] (i).toNatClampNeg (0 : Int32))) := H3.at hin3 (own_getD [b0, b1, b2, b3, b4, b5] _ _)
      refine step (s₁.setTop (mkF m 10 #[.val (.ref o1), .val (.int fm), .val (.int to), .val (.int i)] [(.int (List.getD [b0, b1, b2, b3, b4, b5] (i).toNatClampNeg (0 : Int32)))])) (fun t k => X0.baloadBytes hx (j := i) (v := (.int (List.getD [b0, b1, b2, b3, b4, b5] (i).toNatClampNeg (0 : Int32)))) (by rw [e0]; exact Ar3.1) (State.isArrayOf_alike hZ.alike Ar3.2.1) Ar3.2.2 hin3 hat3 (g := (mkF m 9 #[.val (.ref o1), .val (.int fm), .val (.int to), .val (.int i)] [(.int i), (.ref o1)])) rfl rfl (hb hby d3_9) t k) ?_
      refine step (s₁.setTop (mkF m 12 #[.val (.ref o1), .val (.int fm), .val (.int to), .val (.int i)] [(.int (10 : Int32)), (.int (List.getD [b0, b1, b2, b3, b4, b5] (i).toNatClampNeg (0 : Int32)))])) (fun t k => XS.bipush X0.here hx rfl (hb hby d3_10) k) ?_
      by_cases hc12_4 : (List.getD [b0, b1, b2, b3, b4, b5] (i).toNatClampNeg (0 : Int32)) = (10 : Int32)
      · -- pc 12: (List.getD [b0, b1, b2, b3, b4, b5] (i).toNatClampNeg (0 : Int32)) = (10 : Int32) True
        refine step (s₁.setTop (mkF m 18 #[.val (.ref o1), .val (.int fm), .val (.int to), .val (.int i)] [])) (fun t k => XS.icmpYes X0.here hx rfl (pc0 := 12) (pc' := 18) rfl (hb hby d3_12) rfl (teq hc12_4).1 (by decide) (by decide) k) ?_
        refine step (s₁.setTop (mkF m 19 #[.val (.ref o1), .val (.int fm), .val (.int to), .val (.int i)] [(.int i)])) (fun t k => XS.iloadN X0.here hx rfl (hb hby d3_18) rfl k) ?_
        refine step (s₁.setTop (mkF m 20 #[.val (.ref o1), .val (.int fm), .val (.int to), .val (.int i)] [(.int (1 : Int32)), (.int i)])) (fun t k => XS.iconst X0.here hx rfl (hb hby d3_19) k) ?_
        refine step (s₁.setTop (mkF m 21 #[.val (.ref o1), .val (.int fm), .val (.int to), .val (.int i)] [(.int (i + (1 : Int32)))])) (fun t k => XS.iadd X0.here hx rfl (hb hby d3_20) rfl k) ?_
        refine step (s₁.setTop (mkF m 22 #[.val (.ref o1), .val (.int fm), .val (.int to), .val (.int i)] [(.int to), (.int (i + (1 : Int32)))])) (fun t k => XS.iloadN X0.here hx rfl (hb hby d3_21) rfl k) ?_
        by_cases hc22_5 : (i + (1 : Int32)) < to
        · -- pc 22: (i + (1 : Int32)) < to True
          refine step (s₁.setTop (mkF m 25 #[.val (.ref o1), .val (.int fm), .val (.int to), .val (.int i)] [])) (fun t k => XS.icmpNo X0.here hx rfl (hb hby d3_22) rfl (tlt hc22_5).2.1 k) ?_
          refine step (s₁.setTop (mkF m 26 #[.val (.ref o1), .val (.int fm), .val (.int to), .val (.int i)] [(.ref o1)])) (fun t k => XS.aloadN X0.here hx rfl (hb hby d3_25) rfl rfl k) ?_
          refine step (s₁.setTop (mkF m 27 #[.val (.ref o1), .val (.int fm), .val (.int to), .val (.int i)] [(.int i), (.ref o1)])) (fun t k => XS.iloadN X0.here hx rfl (hb hby d3_26) rfl k) ?_
          refine step (s₁.setTop (mkF m 28 #[.val (.ref o1), .val (.int fm), .val (.int to), .val (.int i)] [(.int (1 : Int32)), (.int i), (.ref o1)])) (fun t k => XS.iconst X0.here hx rfl (hb hby d3_27) k) ?_
          refine step (s₁.setTop (mkF m 29 #[.val (.ref o1), .val (.int fm), .val (.int to), .val (.int i)] [(.int (i + (1 : Int32))), (.ref o1)])) (fun t k => XS.iadd X0.here hx rfl (hb hby d3_28) rfl k) ?_
          obtain ⟨cl6, Ar6, q6, S6, N6n, H6, G6⟩ := id Va
          have hin6 : ¬ ((i + (1 : Int32)) < 0 ∨ cl6.slots.size ≤ ((i + (1 : Int32))).toNatClampNeg) := inb_of S6 (own_in1 h0i hc4_2 ht hc22_5)
          have hat6 : cl6.slots[((i + (1 : Int32))).toNatClampNeg]? = some (.int (List.getD [b0, b1, b2, b3, b4, b5] ((i + (1 : Int32))).toNatClampNeg (0 : Int32))) := H6.at hin6 (own_getD [b0, b1, b2, b3, b4, b5] _ _)
          refine step (s₁.setTop (mkF m 30 #[.val (.ref o1), .val (.int fm), .val (.int to), .val (.int i)] [(.int (List.getD [b0, b1, b2, b3, b4, b5] ((i + (1 : Int32))).toNatClampNeg (0 : Int32)))])) (fun t k => X0.baloadBytes hx (j := (i + (1 : Int32))) (v := (.int (List.getD [b0, b1, b2, b3, b4, b5] ((i + (1 : Int32))).toNatClampNeg (0 : Int32)))) (by rw [e0]; exact Ar6.1) (State.isArrayOf_alike hZ.alike Ar6.2.1) Ar6.2.2 hin6 hat6 (g := (mkF m 29 #[.val (.ref o1), .val (.int fm), .val (.int to), .val (.int i)] [(.int (i + (1 : Int32))), (.ref o1)])) rfl rfl (hb hby d3_29) t k) ?_
          refine step (s₁.setTop (mkF m 32 #[.val (.ref o1), .val (.int fm), .val (.int to), .val (.int i)] [(.int (10 : Int32)), (.int (List.getD [b0, b1, b2, b3, b4, b5] ((i + (1 : Int32))).toNatClampNeg (0 : Int32)))])) (fun t k => XS.bipush X0.here hx rfl (hb hby d3_30) k) ?_
          by_cases hc32_7 : (List.getD [b0, b1, b2, b3, b4, b5] ((i + (1 : Int32))).toNatClampNeg (0 : Int32)) = (10 : Int32)
          · -- pc 32: (List.getD [b0, b1, b2, b3, b4, b5] ((i + (1 : Int32))).toNatClampNeg (0 : Int32)) = (10 : Int32) True
            refine step (s₁.setTop (mkF m 35 #[.val (.ref o1), .val (.int fm), .val (.int to), .val (.int i)] [])) (fun t k => XS.icmpNo X0.here hx rfl (hb hby d3_32) rfl (teq hc32_7).2 k) ?_
            refine step (s₁.setTop (mkF m 36 #[.val (.ref o1), .val (.int fm), .val (.int to), .val (.int i)] [(.int i)])) (fun t k => XS.iloadN X0.here hx rfl (hb hby d3_35) rfl k) ?_
            refine step (s₁.setTop (mkF m 37 #[.val (.ref o1), .val (.int fm), .val (.int to), .val (.int i)] [(.int (2 : Int32)), (.int i)])) (fun t k => XS.iconst X0.here hx rfl (hb hby d3_36) k) ?_
            refine step (s₁.setTop (mkF m 38 #[.val (.ref o1), .val (.int fm), .val (.int to), .val (.int i)] [(.int (i + (2 : Int32)))])) (fun t k => XS.iadd X0.here hx rfl (hb hby d3_37) rfl k) ?_
            refine fin (v := some (.int (i + (2 : Int32)))) X0 (fun h => by cases h) ?_ (by decide) (by decide) (fun fs hr => retI X0 hx hret (hb hby d3_38) hr)
            show Q3 Z o1 kc b0 b1 b2 b3 b4 b5 fm to h0 n0 (some (.int (i + (2 : Int32)))) s₁.heap _
            rw [e0]
            have hv : (i + (2 : Int32)) = own_he 7 [b0, b1, b2, b3, b4, b5] fm to := by rw [← hR]; simp only [own_he, if_pos hc4_2, if_pos hc12_4, if_pos hc22_5, if_pos hc32_7]
            exact ⟨congrArg (fun z => some (Value.int z)) hv, N0, rfl⟩
          · -- pc 32: (List.getD [b0, b1, b2, b3, b4, b5] ((i + (1 : Int32))).toNatClampNeg (0 : Int32)) = (10 : Int32) False
            refine step (s₁.setTop (mkF m 39 #[.val (.ref o1), .val (.int fm), .val (.int to), .val (.int i)] [])) (fun t k => XS.icmpYes X0.here hx rfl (pc0 := 32) (pc' := 39) rfl (hb hby d3_32) rfl (feq hc32_7).2 (by decide) (by decide) k) ?_
            refine step (s₁.setTop (mkF m 40 #[.val (.ref o1), .val (.int fm), .val (.int to), .val (.int i)] [(.int i)])) (fun t k => XS.iloadN X0.here hx rfl (hb hby d3_39) rfl k) ?_
            refine step (s₁.setTop (mkF m 41 #[.val (.ref o1), .val (.int fm), .val (.int to), .val (.int i)] [(.int (2 : Int32)), (.int i)])) (fun t k => XS.iconst X0.here hx rfl (hb hby d3_40) k) ?_
            refine step (s₁.setTop (mkF m 42 #[.val (.ref o1), .val (.int fm), .val (.int to), .val (.int i)] [(.int (i + (2 : Int32)))])) (fun t k => XS.iadd X0.here hx rfl (hb hby d3_41) rfl k) ?_
            refine step (s₁.setTop (mkF m 43 #[.val (.ref o1), .val (.int fm), .val (.int to), .val (.int i)] [(.int to), (.int (i + (2 : Int32)))])) (fun t k => XS.iloadN X0.here hx rfl (hb hby d3_42) rfl k) ?_
            by_cases hc43_8 : (i + (2 : Int32)) < to
            · -- pc 43: (i + (2 : Int32)) < to True
              refine step (s₁.setTop (mkF m 46 #[.val (.ref o1), .val (.int fm), .val (.int to), .val (.int i)] [])) (fun t k => XS.icmpNo X0.here hx rfl (hb hby d3_43) rfl (tlt hc43_8).2.1 k) ?_
              refine step (s₁.setTop (mkF m 47 #[.val (.ref o1), .val (.int fm), .val (.int to), .val (.int i)] [(.ref o1)])) (fun t k => XS.aloadN X0.here hx rfl (hb hby d3_46) rfl rfl k) ?_
              refine step (s₁.setTop (mkF m 48 #[.val (.ref o1), .val (.int fm), .val (.int to), .val (.int i)] [(.int i), (.ref o1)])) (fun t k => XS.iloadN X0.here hx rfl (hb hby d3_47) rfl k) ?_
              refine step (s₁.setTop (mkF m 49 #[.val (.ref o1), .val (.int fm), .val (.int to), .val (.int i)] [(.int (1 : Int32)), (.int i), (.ref o1)])) (fun t k => XS.iconst X0.here hx rfl (hb hby d3_48) k) ?_
              refine step (s₁.setTop (mkF m 50 #[.val (.ref o1), .val (.int fm), .val (.int to), .val (.int i)] [(.int (i + (1 : Int32))), (.ref o1)])) (fun t k => XS.iadd X0.here hx rfl (hb hby d3_49) rfl k) ?_
              obtain ⟨cl9, Ar9, q9, S9, N9n, H9, G9⟩ := id Va
              have hin9 : ¬ ((i + (1 : Int32)) < 0 ∨ cl9.slots.size ≤ ((i + (1 : Int32))).toNatClampNeg) := inb_of S9 (own_in12 h0i hc4_2 ht hc43_8)
              have hat9 : cl9.slots[((i + (1 : Int32))).toNatClampNeg]? = some (.int (List.getD [b0, b1, b2, b3, b4, b5] ((i + (1 : Int32))).toNatClampNeg (0 : Int32))) := H9.at hin9 (own_getD [b0, b1, b2, b3, b4, b5] _ _)
              refine step (s₁.setTop (mkF m 51 #[.val (.ref o1), .val (.int fm), .val (.int to), .val (.int i)] [(.int (List.getD [b0, b1, b2, b3, b4, b5] ((i + (1 : Int32))).toNatClampNeg (0 : Int32)))])) (fun t k => X0.baloadBytes hx (j := (i + (1 : Int32))) (v := (.int (List.getD [b0, b1, b2, b3, b4, b5] ((i + (1 : Int32))).toNatClampNeg (0 : Int32)))) (by rw [e0]; exact Ar9.1) (State.isArrayOf_alike hZ.alike Ar9.2.1) Ar9.2.2 hin9 hat9 (g := (mkF m 50 #[.val (.ref o1), .val (.int fm), .val (.int to), .val (.int i)] [(.int (i + (1 : Int32))), (.ref o1)])) rfl rfl (hb hby d3_50) t k) ?_
              refine step (s₁.setTop (mkF m 53 #[.val (.ref o1), .val (.int fm), .val (.int to), .val (.int i)] [(.int (13 : Int32)), (.int (List.getD [b0, b1, b2, b3, b4, b5] ((i + (1 : Int32))).toNatClampNeg (0 : Int32)))])) (fun t k => XS.bipush X0.here hx rfl (hb hby d3_51) k) ?_
              by_cases hc53_10 : (List.getD [b0, b1, b2, b3, b4, b5] ((i + (1 : Int32))).toNatClampNeg (0 : Int32)) = (13 : Int32)
              · -- pc 53: (List.getD [b0, b1, b2, b3, b4, b5] ((i + (1 : Int32))).toNatClampNeg (0 : Int32)) = (13 : Int32) True
                refine step (s₁.setTop (mkF m 56 #[.val (.ref o1), .val (.int fm), .val (.int to), .val (.int i)] [])) (fun t k => XS.icmpNo X0.here hx rfl (hb hby d3_53) rfl (teq hc53_10).2 k) ?_
                refine step (s₁.setTop (mkF m 57 #[.val (.ref o1), .val (.int fm), .val (.int to), .val (.int i)] [(.ref o1)])) (fun t k => XS.aloadN X0.here hx rfl (hb hby d3_56) rfl rfl k) ?_
                refine step (s₁.setTop (mkF m 58 #[.val (.ref o1), .val (.int fm), .val (.int to), .val (.int i)] [(.int i), (.ref o1)])) (fun t k => XS.iloadN X0.here hx rfl (hb hby d3_57) rfl k) ?_
                refine step (s₁.setTop (mkF m 59 #[.val (.ref o1), .val (.int fm), .val (.int to), .val (.int i)] [(.int (2 : Int32)), (.int i), (.ref o1)])) (fun t k => XS.iconst X0.here hx rfl (hb hby d3_58) k) ?_
                refine step (s₁.setTop (mkF m 60 #[.val (.ref o1), .val (.int fm), .val (.int to), .val (.int i)] [(.int (i + (2 : Int32))), (.ref o1)])) (fun t k => XS.iadd X0.here hx rfl (hb hby d3_59) rfl k) ?_
                obtain ⟨cl11, Ar11, q11, S11, N11n, H11, G11⟩ := id Va
                have hin11 : ¬ ((i + (2 : Int32)) < 0 ∨ cl11.slots.size ≤ ((i + (2 : Int32))).toNatClampNeg) := inb_of S11 (own_in2 h0i hc4_2 ht hc43_8)
                have hat11 : cl11.slots[((i + (2 : Int32))).toNatClampNeg]? = some (.int (List.getD [b0, b1, b2, b3, b4, b5] ((i + (2 : Int32))).toNatClampNeg (0 : Int32))) := H11.at hin11 (own_getD [b0, b1, b2, b3, b4, b5] _ _)
                refine step (s₁.setTop (mkF m 61 #[.val (.ref o1), .val (.int fm), .val (.int to), .val (.int i)] [(.int (List.getD [b0, b1, b2, b3, b4, b5] ((i + (2 : Int32))).toNatClampNeg (0 : Int32)))])) (fun t k => X0.baloadBytes hx (j := (i + (2 : Int32))) (v := (.int (List.getD [b0, b1, b2, b3, b4, b5] ((i + (2 : Int32))).toNatClampNeg (0 : Int32)))) (by rw [e0]; exact Ar11.1) (State.isArrayOf_alike hZ.alike Ar11.2.1) Ar11.2.2 hin11 hat11 (g := (mkF m 60 #[.val (.ref o1), .val (.int fm), .val (.int to), .val (.int i)] [(.int (i + (2 : Int32))), (.ref o1)])) rfl rfl (hb hby d3_60) t k) ?_
                refine step (s₁.setTop (mkF m 63 #[.val (.ref o1), .val (.int fm), .val (.int to), .val (.int i)] [(.int (10 : Int32)), (.int (List.getD [b0, b1, b2, b3, b4, b5] ((i + (2 : Int32))).toNatClampNeg (0 : Int32)))])) (fun t k => XS.bipush X0.here hx rfl (hb hby d3_61) k) ?_
                by_cases hc63_12 : (List.getD [b0, b1, b2, b3, b4, b5] ((i + (2 : Int32))).toNatClampNeg (0 : Int32)) = (10 : Int32)
                · -- pc 63: (List.getD [b0, b1, b2, b3, b4, b5] ((i + (2 : Int32))).toNatClampNeg (0 : Int32)) = (10 : Int32) True
                  refine step (s₁.setTop (mkF m 66 #[.val (.ref o1), .val (.int fm), .val (.int to), .val (.int i)] [])) (fun t k => XS.icmpNo X0.here hx rfl (hb hby d3_63) rfl (teq hc63_12).2 k) ?_
                  refine step (s₁.setTop (mkF m 67 #[.val (.ref o1), .val (.int fm), .val (.int to), .val (.int i)] [(.int i)])) (fun t k => XS.iloadN X0.here hx rfl (hb hby d3_66) rfl k) ?_
                  refine step (s₁.setTop (mkF m 68 #[.val (.ref o1), .val (.int fm), .val (.int to), .val (.int i)] [(.int (3 : Int32)), (.int i)])) (fun t k => XS.iconst X0.here hx rfl (hb hby d3_67) k) ?_
                  refine step (s₁.setTop (mkF m 69 #[.val (.ref o1), .val (.int fm), .val (.int to), .val (.int i)] [(.int (i + (3 : Int32)))])) (fun t k => XS.iadd X0.here hx rfl (hb hby d3_68) rfl k) ?_
                  refine fin (v := some (.int (i + (3 : Int32)))) X0 (fun h => by cases h) ?_ (by decide) (by decide) (fun fs hr => retI X0 hx hret (hb hby d3_69) hr)
                  show Q3 Z o1 kc b0 b1 b2 b3 b4 b5 fm to h0 n0 (some (.int (i + (3 : Int32)))) s₁.heap _
                  rw [e0]
                  have hv : (i + (3 : Int32)) = own_he 7 [b0, b1, b2, b3, b4, b5] fm to := by rw [← hR]; simp only [own_he, if_pos hc4_2, if_pos hc12_4, if_pos hc22_5, if_neg hc32_7, if_pos hc43_8, if_pos hc53_10, if_pos hc63_12]
                  exact ⟨congrArg (fun z => some (Value.int z)) hv, N0, rfl⟩
                · -- pc 63: (List.getD [b0, b1, b2, b3, b4, b5] ((i + (2 : Int32))).toNatClampNeg (0 : Int32)) = (10 : Int32) False
                  refine step (s₁.setTop (mkF m 70 #[.val (.ref o1), .val (.int fm), .val (.int to), .val (.int i)] [])) (fun t k => XS.icmpYes X0.here hx rfl (pc0 := 63) (pc' := 70) rfl (hb hby d3_63) rfl (feq hc63_12).2 (by decide) (by decide) k) ?_
                  refine step (s₁.setTop (mkF m 73 #[.val (.ref o1), .val (.int fm), .val (.int to), .val (.int (i + (1 : Int32)))] [])) (fun t k => XS.iinc X0.here hx rfl (hb hby d3_70) rfl (l' := #[.val (.ref o1), .val (.int fm), .val (.int to), .val (.int (i + (1 : Int32)))]) rfl k) ?_
                  refine step (s₁.setTop (mkF m 2 #[.val (.ref o1), .val (.int fm), .val (.int to), .val (.int (i + (1 : Int32)))] [])) (fun t k => XS.goto X0.here hx rfl (pc0 := 73) (pc' := 2) rfl (hb hby d3_73) (by decide) (by decide) k) ?_
                  have es := own_succ h0i hc4_2 ht
                  exact ih _ (by omega) (by omega) (by rw [← hR]; simp only [own_he, if_pos hc4_2, if_pos hc12_4, if_pos hc22_5, if_neg hc32_7, if_pos hc43_8, if_pos hc53_10, if_neg hc63_12])
              · -- pc 53: (List.getD [b0, b1, b2, b3, b4, b5] ((i + (1 : Int32))).toNatClampNeg (0 : Int32)) = (13 : Int32) False
                refine step (s₁.setTop (mkF m 70 #[.val (.ref o1), .val (.int fm), .val (.int to), .val (.int i)] [])) (fun t k => XS.icmpYes X0.here hx rfl (pc0 := 53) (pc' := 70) rfl (hb hby d3_53) rfl (feq hc53_10).2 (by decide) (by decide) k) ?_
                refine step (s₁.setTop (mkF m 73 #[.val (.ref o1), .val (.int fm), .val (.int to), .val (.int (i + (1 : Int32)))] [])) (fun t k => XS.iinc X0.here hx rfl (hb hby d3_70) rfl (l' := #[.val (.ref o1), .val (.int fm), .val (.int to), .val (.int (i + (1 : Int32)))]) rfl k) ?_
                refine step (s₁.setTop (mkF m 2 #[.val (.ref o1), .val (.int fm), .val (.int to), .val (.int (i + (1 : Int32)))] [])) (fun t k => XS.goto X0.here hx rfl (pc0 := 73) (pc' := 2) rfl (hb hby d3_73) (by decide) (by decide) k) ?_
                have es := own_succ h0i hc4_2 ht
                exact ih _ (by omega) (by omega) (by rw [← hR]; simp only [own_he, if_pos hc4_2, if_pos hc12_4, if_pos hc22_5, if_neg hc32_7, if_pos hc43_8, if_neg hc53_10])
            · -- pc 43: (i + (2 : Int32)) < to False
              refine step (s₁.setTop (mkF m 70 #[.val (.ref o1), .val (.int fm), .val (.int to), .val (.int i)] [])) (fun t k => XS.icmpYes X0.here hx rfl (pc0 := 43) (pc' := 70) rfl (hb hby d3_43) rfl (flt hc43_8).2.1 (by decide) (by decide) k) ?_
              refine step (s₁.setTop (mkF m 73 #[.val (.ref o1), .val (.int fm), .val (.int to), .val (.int (i + (1 : Int32)))] [])) (fun t k => XS.iinc X0.here hx rfl (hb hby d3_70) rfl (l' := #[.val (.ref o1), .val (.int fm), .val (.int to), .val (.int (i + (1 : Int32)))]) rfl k) ?_
              refine step (s₁.setTop (mkF m 2 #[.val (.ref o1), .val (.int fm), .val (.int to), .val (.int (i + (1 : Int32)))] [])) (fun t k => XS.goto X0.here hx rfl (pc0 := 73) (pc' := 2) rfl (hb hby d3_73) (by decide) (by decide) k) ?_
              have es := own_succ h0i hc4_2 ht
              exact ih _ (by omega) (by omega) (by rw [← hR]; simp only [own_he, if_pos hc4_2, if_pos hc12_4, if_pos hc22_5, if_neg hc32_7, if_neg hc43_8])
        · -- pc 22: (i + (1 : Int32)) < to False
          refine step (s₁.setTop (mkF m 39 #[.val (.ref o1), .val (.int fm), .val (.int to), .val (.int i)] [])) (fun t k => XS.icmpYes X0.here hx rfl (pc0 := 22) (pc' := 39) rfl (hb hby d3_22) rfl (flt hc22_5).2.1 (by decide) (by decide) k) ?_
          refine step (s₁.setTop (mkF m 40 #[.val (.ref o1), .val (.int fm), .val (.int to), .val (.int i)] [(.int i)])) (fun t k => XS.iloadN X0.here hx rfl (hb hby d3_39) rfl k) ?_
          refine step (s₁.setTop (mkF m 41 #[.val (.ref o1), .val (.int fm), .val (.int to), .val (.int i)] [(.int (2 : Int32)), (.int i)])) (fun t k => XS.iconst X0.here hx rfl (hb hby d3_40) k) ?_
          refine step (s₁.setTop (mkF m 42 #[.val (.ref o1), .val (.int fm), .val (.int to), .val (.int i)] [(.int (i + (2 : Int32)))])) (fun t k => XS.iadd X0.here hx rfl (hb hby d3_41) rfl k) ?_
          refine step (s₁.setTop (mkF m 43 #[.val (.ref o1), .val (.int fm), .val (.int to), .val (.int i)] [(.int to), (.int (i + (2 : Int32)))])) (fun t k => XS.iloadN X0.here hx rfl (hb hby d3_42) rfl k) ?_
          by_cases hc43_13 : (i + (2 : Int32)) < to
          · -- pc 43: (i + (2 : Int32)) < to True
            refine step (s₁.setTop (mkF m 46 #[.val (.ref o1), .val (.int fm), .val (.int to), .val (.int i)] [])) (fun t k => XS.icmpNo X0.here hx rfl (hb hby d3_43) rfl (tlt hc43_13).2.1 k) ?_
            refine step (s₁.setTop (mkF m 47 #[.val (.ref o1), .val (.int fm), .val (.int to), .val (.int i)] [(.ref o1)])) (fun t k => XS.aloadN X0.here hx rfl (hb hby d3_46) rfl rfl k) ?_
            refine step (s₁.setTop (mkF m 48 #[.val (.ref o1), .val (.int fm), .val (.int to), .val (.int i)] [(.int i), (.ref o1)])) (fun t k => XS.iloadN X0.here hx rfl (hb hby d3_47) rfl k) ?_
            refine step (s₁.setTop (mkF m 49 #[.val (.ref o1), .val (.int fm), .val (.int to), .val (.int i)] [(.int (1 : Int32)), (.int i), (.ref o1)])) (fun t k => XS.iconst X0.here hx rfl (hb hby d3_48) k) ?_
            refine step (s₁.setTop (mkF m 50 #[.val (.ref o1), .val (.int fm), .val (.int to), .val (.int i)] [(.int (i + (1 : Int32))), (.ref o1)])) (fun t k => XS.iadd X0.here hx rfl (hb hby d3_49) rfl k) ?_
            obtain ⟨cl14, Ar14, q14, S14, N14n, H14, G14⟩ := id Va
            have hin14 : ¬ ((i + (1 : Int32)) < 0 ∨ cl14.slots.size ≤ ((i + (1 : Int32))).toNatClampNeg) := inb_of S14 (own_in12 h0i hc4_2 ht hc43_13)
            have hat14 : cl14.slots[((i + (1 : Int32))).toNatClampNeg]? = some (.int (List.getD [b0, b1, b2, b3, b4, b5] ((i + (1 : Int32))).toNatClampNeg (0 : Int32))) := H14.at hin14 (own_getD [b0, b1, b2, b3, b4, b5] _ _)
            refine step (s₁.setTop (mkF m 51 #[.val (.ref o1), .val (.int fm), .val (.int to), .val (.int i)] [(.int (List.getD [b0, b1, b2, b3, b4, b5] ((i + (1 : Int32))).toNatClampNeg (0 : Int32)))])) (fun t k => X0.baloadBytes hx (j := (i + (1 : Int32))) (v := (.int (List.getD [b0, b1, b2, b3, b4, b5] ((i + (1 : Int32))).toNatClampNeg (0 : Int32)))) (by rw [e0]; exact Ar14.1) (State.isArrayOf_alike hZ.alike Ar14.2.1) Ar14.2.2 hin14 hat14 (g := (mkF m 50 #[.val (.ref o1), .val (.int fm), .val (.int to), .val (.int i)] [(.int (i + (1 : Int32))), (.ref o1)])) rfl rfl (hb hby d3_50) t k) ?_
            refine step (s₁.setTop (mkF m 53 #[.val (.ref o1), .val (.int fm), .val (.int to), .val (.int i)] [(.int (13 : Int32)), (.int (List.getD [b0, b1, b2, b3, b4, b5] ((i + (1 : Int32))).toNatClampNeg (0 : Int32)))])) (fun t k => XS.bipush X0.here hx rfl (hb hby d3_51) k) ?_
            by_cases hc53_15 : (List.getD [b0, b1, b2, b3, b4, b5] ((i + (1 : Int32))).toNatClampNeg (0 : Int32)) = (13 : Int32)
            · -- pc 53: (List.getD [b0, b1, b2, b3, b4, b5] ((i + (1 : Int32))).toNatClampNeg (0 : Int32)) = (13 : Int32) True
              refine step (s₁.setTop (mkF m 56 #[.val (.ref o1), .val (.int fm), .val (.int to), .val (.int i)] [])) (fun t k => XS.icmpNo X0.here hx rfl (hb hby d3_53) rfl (teq hc53_15).2 k) ?_
              refine step (s₁.setTop (mkF m 57 #[.val (.ref o1), .val (.int fm), .val (.int to), .val (.int i)] [(.ref o1)])) (fun t k => XS.aloadN X0.here hx rfl (hb hby d3_56) rfl rfl k) ?_
              refine step (s₁.setTop (mkF m 58 #[.val (.ref o1), .val (.int fm), .val (.int to), .val (.int i)] [(.int i), (.ref o1)])) (fun t k => XS.iloadN X0.here hx rfl (hb hby d3_57) rfl k) ?_
              refine step (s₁.setTop (mkF m 59 #[.val (.ref o1), .val (.int fm), .val (.int to), .val (.int i)] [(.int (2 : Int32)), (.int i), (.ref o1)])) (fun t k => XS.iconst X0.here hx rfl (hb hby d3_58) k) ?_
              refine step (s₁.setTop (mkF m 60 #[.val (.ref o1), .val (.int fm), .val (.int to), .val (.int i)] [(.int (i + (2 : Int32))), (.ref o1)])) (fun t k => XS.iadd X0.here hx rfl (hb hby d3_59) rfl k) ?_
              obtain ⟨cl16, Ar16, q16, S16, N16n, H16, G16⟩ := id Va
              have hin16 : ¬ ((i + (2 : Int32)) < 0 ∨ cl16.slots.size ≤ ((i + (2 : Int32))).toNatClampNeg) := inb_of S16 (own_in2 h0i hc4_2 ht hc43_13)
              have hat16 : cl16.slots[((i + (2 : Int32))).toNatClampNeg]? = some (.int (List.getD [b0, b1, b2, b3, b4, b5] ((i + (2 : Int32))).toNatClampNeg (0 : Int32))) := H16.at hin16 (own_getD [b0, b1, b2, b3, b4, b5] _ _)
              refine step (s₁.setTop (mkF m 61 #[.val (.ref o1), .val (.int fm), .val (.int to), .val (.int i)] [(.int (List.getD [b0, b1, b2, b3, b4, b5] ((i + (2 : Int32))).toNatClampNeg (0 : Int32)))])) (fun t k => X0.baloadBytes hx (j := (i + (2 : Int32))) (v := (.int (List.getD [b0, b1, b2, b3, b4, b5] ((i + (2 : Int32))).toNatClampNeg (0 : Int32)))) (by rw [e0]; exact Ar16.1) (State.isArrayOf_alike hZ.alike Ar16.2.1) Ar16.2.2 hin16 hat16 (g := (mkF m 60 #[.val (.ref o1), .val (.int fm), .val (.int to), .val (.int i)] [(.int (i + (2 : Int32))), (.ref o1)])) rfl rfl (hb hby d3_60) t k) ?_
              refine step (s₁.setTop (mkF m 63 #[.val (.ref o1), .val (.int fm), .val (.int to), .val (.int i)] [(.int (10 : Int32)), (.int (List.getD [b0, b1, b2, b3, b4, b5] ((i + (2 : Int32))).toNatClampNeg (0 : Int32)))])) (fun t k => XS.bipush X0.here hx rfl (hb hby d3_61) k) ?_
              by_cases hc63_17 : (List.getD [b0, b1, b2, b3, b4, b5] ((i + (2 : Int32))).toNatClampNeg (0 : Int32)) = (10 : Int32)
              · -- pc 63: (List.getD [b0, b1, b2, b3, b4, b5] ((i + (2 : Int32))).toNatClampNeg (0 : Int32)) = (10 : Int32) True
                refine step (s₁.setTop (mkF m 66 #[.val (.ref o1), .val (.int fm), .val (.int to), .val (.int i)] [])) (fun t k => XS.icmpNo X0.here hx rfl (hb hby d3_63) rfl (teq hc63_17).2 k) ?_
                refine step (s₁.setTop (mkF m 67 #[.val (.ref o1), .val (.int fm), .val (.int to), .val (.int i)] [(.int i)])) (fun t k => XS.iloadN X0.here hx rfl (hb hby d3_66) rfl k) ?_
                refine step (s₁.setTop (mkF m 68 #[.val (.ref o1), .val (.int fm), .val (.int to), .val (.int i)] [(.int (3 : Int32)), (.int i)])) (fun t k => XS.iconst X0.here hx rfl (hb hby d3_67) k) ?_
                refine step (s₁.setTop (mkF m 69 #[.val (.ref o1), .val (.int fm), .val (.int to), .val (.int i)] [(.int (i + (3 : Int32)))])) (fun t k => XS.iadd X0.here hx rfl (hb hby d3_68) rfl k) ?_
                refine fin (v := some (.int (i + (3 : Int32)))) X0 (fun h => by cases h) ?_ (by decide) (by decide) (fun fs hr => retI X0 hx hret (hb hby d3_69) hr)
                show Q3 Z o1 kc b0 b1 b2 b3 b4 b5 fm to h0 n0 (some (.int (i + (3 : Int32)))) s₁.heap _
                rw [e0]
                have hv : (i + (3 : Int32)) = own_he 7 [b0, b1, b2, b3, b4, b5] fm to := by rw [← hR]; simp only [own_he, if_pos hc4_2, if_pos hc12_4, if_neg hc22_5, if_pos hc43_13, if_pos hc53_15, if_pos hc63_17]
                exact ⟨congrArg (fun z => some (Value.int z)) hv, N0, rfl⟩
              · -- pc 63: (List.getD [b0, b1, b2, b3, b4, b5] ((i + (2 : Int32))).toNatClampNeg (0 : Int32)) = (10 : Int32) False
                refine step (s₁.setTop (mkF m 70 #[.val (.ref o1), .val (.int fm), .val (.int to), .val (.int i)] [])) (fun t k => XS.icmpYes X0.here hx rfl (pc0 := 63) (pc' := 70) rfl (hb hby d3_63) rfl (feq hc63_17).2 (by decide) (by decide) k) ?_
                refine step (s₁.setTop (mkF m 73 #[.val (.ref o1), .val (.int fm), .val (.int to), .val (.int (i + (1 : Int32)))] [])) (fun t k => XS.iinc X0.here hx rfl (hb hby d3_70) rfl (l' := #[.val (.ref o1), .val (.int fm), .val (.int to), .val (.int (i + (1 : Int32)))]) rfl k) ?_
                refine step (s₁.setTop (mkF m 2 #[.val (.ref o1), .val (.int fm), .val (.int to), .val (.int (i + (1 : Int32)))] [])) (fun t k => XS.goto X0.here hx rfl (pc0 := 73) (pc' := 2) rfl (hb hby d3_73) (by decide) (by decide) k) ?_
                have es := own_succ h0i hc4_2 ht
                exact ih _ (by omega) (by omega) (by rw [← hR]; simp only [own_he, if_pos hc4_2, if_pos hc12_4, if_neg hc22_5, if_pos hc43_13, if_pos hc53_15, if_neg hc63_17])
            · -- pc 53: (List.getD [b0, b1, b2, b3, b4, b5] ((i + (1 : Int32))).toNatClampNeg (0 : Int32)) = (13 : Int32) False
              refine step (s₁.setTop (mkF m 70 #[.val (.ref o1), .val (.int fm), .val (.int to), .val (.int i)] [])) (fun t k => XS.icmpYes X0.here hx rfl (pc0 := 53) (pc' := 70) rfl (hb hby d3_53) rfl (feq hc53_15).2 (by decide) (by decide) k) ?_
              refine step (s₁.setTop (mkF m 73 #[.val (.ref o1), .val (.int fm), .val (.int to), .val (.int (i + (1 : Int32)))] [])) (fun t k => XS.iinc X0.here hx rfl (hb hby d3_70) rfl (l' := #[.val (.ref o1), .val (.int fm), .val (.int to), .val (.int (i + (1 : Int32)))]) rfl k) ?_
              refine step (s₁.setTop (mkF m 2 #[.val (.ref o1), .val (.int fm), .val (.int to), .val (.int (i + (1 : Int32)))] [])) (fun t k => XS.goto X0.here hx rfl (pc0 := 73) (pc' := 2) rfl (hb hby d3_73) (by decide) (by decide) k) ?_
              have es := own_succ h0i hc4_2 ht
              exact ih _ (by omega) (by omega) (by rw [← hR]; simp only [own_he, if_pos hc4_2, if_pos hc12_4, if_neg hc22_5, if_pos hc43_13, if_neg hc53_15])
          · -- pc 43: (i + (2 : Int32)) < to False
            refine step (s₁.setTop (mkF m 70 #[.val (.ref o1), .val (.int fm), .val (.int to), .val (.int i)] [])) (fun t k => XS.icmpYes X0.here hx rfl (pc0 := 43) (pc' := 70) rfl (hb hby d3_43) rfl (flt hc43_13).2.1 (by decide) (by decide) k) ?_
            refine step (s₁.setTop (mkF m 73 #[.val (.ref o1), .val (.int fm), .val (.int to), .val (.int (i + (1 : Int32)))] [])) (fun t k => XS.iinc X0.here hx rfl (hb hby d3_70) rfl (l' := #[.val (.ref o1), .val (.int fm), .val (.int to), .val (.int (i + (1 : Int32)))]) rfl k) ?_
            refine step (s₁.setTop (mkF m 2 #[.val (.ref o1), .val (.int fm), .val (.int to), .val (.int (i + (1 : Int32)))] [])) (fun t k => XS.goto X0.here hx rfl (pc0 := 73) (pc' := 2) rfl (hb hby d3_73) (by decide) (by decide) k) ?_
            have es := own_succ h0i hc4_2 ht
            exact ih _ (by omega) (by omega) (by rw [← hR]; simp only [own_he, if_pos hc4_2, if_pos hc12_4, if_neg hc22_5, if_neg hc43_13])
      · -- pc 12: (List.getD [b0, b1, b2, b3, b4, b5] (i).toNatClampNeg (0 : Int32)) = (10 : Int32) False
        refine step (s₁.setTop (mkF m 15 #[.val (.ref o1), .val (.int fm), .val (.int to), .val (.int i)] [])) (fun t k => XS.icmpNo X0.here hx rfl (hb hby d3_12) rfl (feq hc12_4).1 k) ?_
        refine step (s₁.setTop (mkF m 70 #[.val (.ref o1), .val (.int fm), .val (.int to), .val (.int i)] [])) (fun t k => XS.goto X0.here hx rfl (pc0 := 15) (pc' := 70) rfl (hb hby d3_15) (by decide) (by decide) k) ?_
        refine step (s₁.setTop (mkF m 73 #[.val (.ref o1), .val (.int fm), .val (.int to), .val (.int (i + (1 : Int32)))] [])) (fun t k => XS.iinc X0.here hx rfl (hb hby d3_70) rfl (l' := #[.val (.ref o1), .val (.int fm), .val (.int to), .val (.int (i + (1 : Int32)))]) rfl k) ?_
        refine step (s₁.setTop (mkF m 2 #[.val (.ref o1), .val (.int fm), .val (.int to), .val (.int (i + (1 : Int32)))] [])) (fun t k => XS.goto X0.here hx rfl (pc0 := 73) (pc' := 2) rfl (hb hby d3_73) (by decide) (by decide) k) ?_
        have es := own_succ h0i hc4_2 ht
        exact ih _ (by omega) (by omega) (by rw [← hR]; simp only [own_he, if_pos hc4_2, if_neg hc12_4])
    · -- pc 4: i < to False
      refine step (s₁.setTop (mkF m 76 #[.val (.ref o1), .val (.int fm), .val (.int to), .val (.int i)] [])) (fun t k => XS.icmpYes X0.here hx rfl (pc0 := 4) (pc' := 76) rfl (hb hby d3_4) rfl (flt hc4_2).2.1 (by decide) (by decide) k) ?_
      refine step (s₁.setTop (mkF m 77 #[.val (.ref o1), .val (.int fm), .val (.int to), .val (.int i)] [(.int (-1 : Int32))])) (fun t k => XS.iconst X0.here hx rfl (hb hby d3_76) k) ?_
      refine fin (v := some (.int (-1 : Int32))) X0 (fun h => by cases h) ?_ (by decide) (by decide) (fun fs hr => retI X0 hx hret (hb hby d3_77) hr)
      show Q3 Z o1 kc b0 b1 b2 b3 b4 b5 fm to h0 n0 (some (.int (-1 : Int32))) s₁.heap _
      rw [e0]
      have hv : (-1 : Int32) = own_he 7 [b0, b1, b2, b3, b4, b5] fm to := by rw [← hR]; simp only [own_he, if_neg hc4_2]
      exact ⟨congrArg (fun z => some (Value.int z)) hv, N0, rfl⟩
theorem own_r7 (x r : Int32) (h : ((x &&& (2147483647 : Int32)) % (7 : Int32)) = r) : 0 ≤ r.toInt ∧ r.toInt ≤ 6 := by
  subst h
  have h1 := c_mask x 2147483647 31 (by decide) (by decide)
  have h2 := c_irem (x &&& 2147483647) 7 7 (by decide)
  omega
theorem own_gm {r : Int32} (h : 0 ≤ r.toInt) : (-1 : Int32) < r := by
  rw [Int32.lt_iff_toInt_lt]
  have e : (-1 : Int32).toInt = -1 := by decide
  omega
def own_ex (b0 b1 b2 b3 b4 b5 fm to : Int32) : Int32 := (if (if to < (2 : Int32) then (0 : Int32) else (if (if (0 : Int32) < fm then (0 : Int32) else (if b0 = (10 : Int32) then (if b1 = (10 : Int32) then (1 : Int32) else (0 : Int32)) else (0 : Int32))) = (0 : Int32) then (0 : Int32) else (1 : Int32))) = (0 : Int32) then (if (if to < (3 : Int32) then (0 : Int32) else (if (if (1 : Int32) < fm then (0 : Int32) else (if b1 = (10 : Int32) then (if b2 = (10 : Int32) then (1 : Int32) else (0 : Int32)) else (0 : Int32))) = (0 : Int32) then (if (if (0 : Int32) < fm then (0 : Int32) else (if b0 = (10 : Int32) then (if b1 = (13 : Int32) then (if b2 = (10 : Int32) then (1 : Int32) else (0 : Int32)) else (0 : Int32)) else (0 : Int32))) = (0 : Int32) then (0 : Int32) else (1 : Int32)) else (1 : Int32))) = (0 : Int32) then (if (if to < (4 : Int32) then (0 : Int32) else (if (if (2 : Int32) < fm then (0 : Int32) else (if b2 = (10 : Int32) then (if b3 = (10 : Int32) then (1 : Int32) else (0 : Int32)) else (0 : Int32))) = (0 : Int32) then (if (if (1 : Int32) < fm then (0 : Int32) else (if b1 = (10 : Int32) then (if b2 = (13 : Int32) then (if b3 = (10 : Int32) then (1 : Int32) else (0 : Int32)) else (0 : Int32)) else (0 : Int32))) = (0 : Int32) then (0 : Int32) else (1 : Int32)) else (1 : Int32))) = (0 : Int32) then (if (if to < (5 : Int32) then (0 : Int32) else (if (if (3 : Int32) < fm then (0 : Int32) else (if b3 = (10 : Int32) then (if b4 = (10 : Int32) then (1 : Int32) else (0 : Int32)) else (0 : Int32))) = (0 : Int32) then (if (if (2 : Int32) < fm then (0 : Int32) else (if b2 = (10 : Int32) then (if b3 = (13 : Int32) then (if b4 = (10 : Int32) then (1 : Int32) else (0 : Int32)) else (0 : Int32)) else (0 : Int32))) = (0 : Int32) then (0 : Int32) else (1 : Int32)) else (1 : Int32))) = (0 : Int32) then (if (if to < (6 : Int32) then (0 : Int32) else (if (if (4 : Int32) < fm then (0 : Int32) else (if b4 = (10 : Int32) then (if b5 = (10 : Int32) then (1 : Int32) else (0 : Int32)) else (0 : Int32))) = (0 : Int32) then (if (if (3 : Int32) < fm then (0 : Int32) else (if b3 = (10 : Int32) then (if b4 = (13 : Int32) then (if b5 = (10 : Int32) then (1 : Int32) else (0 : Int32)) else (0 : Int32)) else (0 : Int32))) = (0 : Int32) then (0 : Int32) else (1 : Int32)) else (1 : Int32))) = (0 : Int32) then (-1 : Int32) else (6 : Int32)) else (5 : Int32)) else (4 : Int32)) else (3 : Int32)) else (2 : Int32))
def own_cl (x : Int32) : Int32 := if x = (10 : Int32) then (10 : Int32) else if x = (13 : Int32) then (13 : Int32) else (0 : Int32)
def own_g (k : Fin 3) : Int32 := if k.1 = 0 then (10 : Int32) else if k.1 = 1 then (13 : Int32) else (0 : Int32)
theorem own_cl10 (x : Int32) : (own_cl x = (10 : Int32)) = (x = (10 : Int32)) := by
  unfold own_cl
  by_cases h : x = (10 : Int32)
  · rw [if_pos h]; exact propext ⟨fun _ => h, fun _ => rfl⟩
  · rw [if_neg h]
    by_cases h' : x = (13 : Int32)
    · rw [if_pos h']; exact propext ⟨fun c => absurd c (by decide), fun c => absurd c h⟩
    · rw [if_neg h']; exact propext ⟨fun c => absurd c (by decide), fun c => absurd c h⟩
theorem own_cl13 (x : Int32) : (own_cl x = (13 : Int32)) = (x = (13 : Int32)) := by
  unfold own_cl
  by_cases h : x = (10 : Int32)
  · rw [if_pos h]; exact propext ⟨fun c => absurd c (by decide), fun c => absurd (h.symm.trans c) (by decide)⟩
  · rw [if_neg h]
    by_cases h' : x = (13 : Int32)
    · rw [if_pos h']; exact propext ⟨fun _ => h', fun _ => rfl⟩
    · rw [if_neg h']; exact propext ⟨fun c => absurd c (by decide), fun c => absurd c h'⟩
theorem own_clD (xs : List Int32) (k : Nat) : (xs.map own_cl).getD k (0 : Int32) = own_cl (xs.getD k (0 : Int32)) := by
  simp only [List.getD_eq_getElem?_getD, List.getElem?_map]
  cases xs[k]? <;> rfl
theorem own_heC (n : Nat) (xs : List Int32) (i to : Int32) : own_he n (xs.map own_cl) i to = own_he n xs i to := by
  induction n generalizing i with
  | zero => rfl
  | succ n ih => simp only [own_he, own_clD, own_cl10, own_cl13, ih]
theorem own_clg (x : Int32) : ∃ k : Fin 3, own_cl x = own_g k := by
  unfold own_cl
  split
  · exact ⟨0, rfl⟩
  · split
    · exact ⟨1, rfl⟩
    · exact ⟨2, rfl⟩
theorem own_all : ∀ (f q : Fin 7) (k0 k1 k2 k3 k4 k5 : Fin 3), own_he 7 [own_g k0, own_g k1, own_g k2, own_g k3, own_g k4, own_g k5] (Int32.ofNat f.1) (Int32.ofNat q.1) = own_ex (own_g k0) (own_g k1) (own_g k2) (own_g k3) (own_g k4) (own_g k5) (Int32.ofNat f.1) (Int32.ofNat q.1) := by decide +kernel
theorem own_7 {r : Int32} (h : 0 ≤ r.toInt ∧ r.toInt ≤ 6) : ∃ k : Fin 7, r = Int32.ofNat k.1 := ⟨⟨r.toInt.toNat, by omega⟩, Int32.toInt_inj.mp (by rw [Int32.toInt_ofNat_small (by show r.toInt.toNat < _; omega)]; show r.toInt = (r.toInt.toNat : Int); omega)⟩
theorem own_heEx (b0 b1 b2 b3 b4 b5 fm to : Int32) (hf : 0 ≤ fm.toInt ∧ fm.toInt ≤ 6) (ht : 0 ≤ to.toInt ∧ to.toInt ≤ 6) : own_he 7 [b0, b1, b2, b3, b4, b5] fm to = own_ex b0 b1 b2 b3 b4 b5 fm to := by
  obtain ⟨f, rfl⟩ := own_7 hf
  obtain ⟨q, rfl⟩ := own_7 ht
  obtain ⟨k0, h0⟩ := own_clg b0
  obtain ⟨k1, h1⟩ := own_clg b1
  obtain ⟨k2, h2⟩ := own_clg b2
  obtain ⟨k3, h3⟩ := own_clg b3
  obtain ⟨k4, h4⟩ := own_clg b4
  obtain ⟨k5, h5⟩ := own_clg b5
  have hc : ∀ fm to : Int32, own_ex (own_cl b0) (own_cl b1) (own_cl b2) (own_cl b3) (own_cl b4) (own_cl b5) fm to = own_ex b0 b1 b2 b3 b4 b5 fm to := by
    intro fm to
    simp only [own_ex, own_cl10, own_cl13]
  rw [← own_heC, ← hc]
  simp only [List.map, h0, h1, h2, h3, h4, h5]
  exact own_all f q k0 k1 k2 k3 k4 k5
theorem pn_1 : plainName "com/example/whisman/whisman/connector/RequestHeadParserHeadEndPinLaw" = true := by first | (simp [plainName, overriddenIn]; done) | decide +kernel
theorem pd_0 : parseMethodDescriptor "(IJI)B" = some ⟨[.int, .long, .int], some .byte⟩ := by decide +kernel
theorem pd_1 : parseMethodDescriptor "([BIII)Z" = some ⟨[(.array .byte), .int, .int, .int], some .boolean⟩ := by decide +kernel
theorem pd_2 : parseMethodDescriptor "([BII)I" = some ⟨[(.array .byte), .int, .int], some .int⟩ := by decide +kernel
theorem d1_0 : decode method_3_code 0 = .ok (.iload_n 0, 1) := by decide +kernel
theorem d1_1 : decode method_3_code 1 = .ok (.iconst 2, 1) := by decide +kernel
theorem d1_2 : decode method_3_code 2 = .ok (.iload_n 3, 1) := by decide +kernel
theorem d1_3 : decode method_3_code 3 = .ok (.imul, 1) := by decide +kernel
theorem d1_4 : decode method_3_code 4 = .ok (.iushr, 1) := by decide +kernel
theorem d1_5 : decode method_3_code 5 = .ok (.iconst 3, 1) := by decide +kernel
theorem d1_6 : decode method_3_code 6 = .ok (.iand, 1) := by decide +kernel
theorem d1_7 : decode method_3_code 7 = .ok (.istore 4, 2) := by decide +kernel
theorem d1_9 : decode method_3_code 9 = .ok (.iload 4, 2) := by decide +kernel
theorem d1_11 : decode method_3_code 11 = .ok (.ifCond .ne 6, 3) := by decide +kernel
theorem d1_14 : decode method_3_code 14 = .ok (.bipush 10, 2) := by decide +kernel
theorem d1_16 : decode method_3_code 16 = .ok (.ireturn, 1) := by decide +kernel
theorem d1_17 : decode method_3_code 17 = .ok (.iload 4, 2) := by decide +kernel
theorem d1_19 : decode method_3_code 19 = .ok (.iconst 1, 1) := by decide +kernel
theorem d1_20 : decode method_3_code 20 = .ok (.if_icmp .ne 6, 3) := by decide +kernel
theorem d1_23 : decode method_3_code 23 = .ok (.bipush 13, 2) := by decide +kernel
theorem d1_25 : decode method_3_code 25 = .ok (.ireturn, 1) := by decide +kernel
theorem d1_26 : decode method_3_code 26 = .ok (.iload 4, 2) := by decide +kernel
theorem d1_28 : decode method_3_code 28 = .ok (.iconst 2, 1) := by decide +kernel
theorem d1_29 : decode method_3_code 29 = .ok (.if_icmp .ne 12, 3) := by decide +kernel
theorem d1_32 : decode method_3_code 32 = .ok (.lload_n 1, 1) := by decide +kernel
theorem d1_33 : decode method_3_code 33 = .ok (.bipush 8, 2) := by decide +kernel
theorem d1_35 : decode method_3_code 35 = .ok (.iload_n 3, 1) := by decide +kernel
theorem d1_36 : decode method_3_code 36 = .ok (.imul, 1) := by decide +kernel
theorem d1_37 : decode method_3_code 37 = .ok (.lushr, 1) := by decide +kernel
theorem d1_38 : decode method_3_code 38 = .ok (.l2i, 1) := by decide +kernel
theorem d1_39 : decode method_3_code 39 = .ok (.i2b, 1) := by decide +kernel
theorem d1_40 : decode method_3_code 40 = .ok (.ireturn, 1) := by decide +kernel
theorem d1_41 : decode method_3_code 41 = .ok (.bipush 120, 2) := by decide +kernel
theorem d1_43 : decode method_3_code 43 = .ok (.ireturn, 1) := by decide +kernel
theorem ef_1_1 (m : MethodId) (x0 : Int32) (x1 : Int64) : entryFrame m #[(.int x0), (.long x1), (.int (0 : Int32))] 5 = mkF m 0 #[.val (.int x0), .val (.long x1), .second, .val (.int (0 : Int32)), .unset] [] := by first | (simp [entryFrame, mkF, argsToLocals, Value.category]; done) | rfl
def Q1_1 (Z : State) (i1 : Int32) (j2 : Int64) (h0 : Heap) (n0 : Nat) (v : Option Value) (h : Heap) (L : List Loc) : Prop := ∃ (z_1 : Int32), v = some (.int (nar .byte z_1)) ∧ Fr n0 L ∧ h = h0 ∧ z_1 = (if (((i1.toUInt32 >>> ((0 : Int32) &&& 31).toUInt32).toInt32) &&& (3 : Int32)) = (0 : Int32) then (10 : Int32) else (if (((i1.toUInt32 >>> ((0 : Int32) &&& 31).toUInt32).toInt32) &&& (3 : Int32)) = (1 : Int32) then (13 : Int32) else (if (((i1.toUInt32 >>> ((0 : Int32) &&& 31).toUInt32).toInt32) &&& (3 : Int32)) = (2 : Int32) then ((((j2.toUInt64 >>> ((0 : Int32) &&& 0x3f).toInt64.toUInt64).toInt64).toInt32).toInt8.toInt32) else (120 : Int32))))
set_option maxRecDepth 65536 in
set_option maxHeartbeats 40000000 in
theorem rm1_1 (l : Launch) (Z : State) (a0 : Array Value) (hw : ∀ d ∈ tables_1, d.before a0 Z = true) (ws : List Jvm.Cond) (i1 : Int32) (j2 : Int64) (h0 : Heap) (n0 : Nat) (Z0 : n0 ≤ h0.size)  :
    MetFree l (⟨"com/example/whisman/whisman/connector/RequestHeadParserHeadEndPinLaw", "pick", "(IJI)B"⟩ : MethodName) (head1 (Jvm.Cond.code (⟨"com/example/whisman/whisman/connector/RequestHeadParserHeadEndPinLaw", "pick", "(IJI)B"⟩ : MethodName) method_3_code 5 (some .byte) :: ws) ({ frames := 0, cells := 0, slots := 0, locals := 0 } : Room)) (fun a U => a = #[(.int i1), (.long j2), (.int (0 : Int32))] ∧ Z.Warmed39 U.vm ∧ U.heap = h0) (fun _ _ _ _ _ => True) (fun _ U o U' => ∃ v L, o = .returned v ∧ Q1_1 Z i1 j2 h0 n0 v U'.heap L ∧ FrameEnd U o U' L ({ frames := 0, cells := 0, slots := 0, locals := 0 } : Room).cells ({ frames := 0, cells := 0, slots := 0, locals := 0 } : Room).slots) := by
  refine own_body (plainFor_of_name pn_1) ?_
  intro p e s m below meth c s₁ G hx hby hml hZ hown hnm hret X0 e0 step fin
  replace hown : s.vm.findClass "com/example/whisman/whisman/connector/RequestHeadParserHeadEndPinLaw" = some m.cls := hown
  replace hnm : meth.name = "pick" := hnm
  replace hret : meth.sig.returnType = some .byte := hret
  replace hml : c.maxLocals = 5 := hml
  have N0 := Fr.nil n0
  refine step (s₁.setTop (mkF m 0 #[.val (.int i1), .val (.long j2), .second, .val (.int (0 : Int32)), .unset] [])) (fun t k => castTop (ef_1_1 m i1 j2) k) ?_
  refine step (s₁.setTop (mkF m 1 #[.val (.int i1), .val (.long j2), .second, .val (.int (0 : Int32)), .unset] [(.int i1)])) (fun t k => XS.iloadN X0.here hx rfl (hb hby d1_0) rfl k) ?_
  refine step (s₁.setTop (mkF m 2 #[.val (.int i1), .val (.long j2), .second, .val (.int (0 : Int32)), .unset] [(.int (2 : Int32)), (.int i1)])) (fun t k => XS.iconst X0.here hx rfl (hb hby d1_1) k) ?_
  refine step (s₁.setTop (mkF m 3 #[.val (.int i1), .val (.long j2), .second, .val (.int (0 : Int32)), .unset] [(.int (0 : Int32)), (.int (2 : Int32)), (.int i1)])) (fun t k => XS.iloadN X0.here hx rfl (hb hby d1_2) rfl k) ?_
  refine step (s₁.setTop (mkF m 4 #[.val (.int i1), .val (.long j2), .second, .val (.int (0 : Int32)), .unset] [(.int (0 : Int32)), (.int i1)])) (fun t k => XS.imul X0.here hx rfl (hb hby d1_3) rfl k) ?_
  refine step (s₁.setTop (mkF m 5 #[.val (.int i1), .val (.long j2), .second, .val (.int (0 : Int32)), .unset] [(.int ((i1.toUInt32 >>> ((0 : Int32) &&& 31).toUInt32).toInt32))])) (fun t k => XS.iushr X0.here hx rfl (hb hby d1_4) rfl k) ?_
  refine step (s₁.setTop (mkF m 6 #[.val (.int i1), .val (.long j2), .second, .val (.int (0 : Int32)), .unset] [(.int (3 : Int32)), (.int ((i1.toUInt32 >>> ((0 : Int32) &&& 31).toUInt32).toInt32))])) (fun t k => XS.iconst X0.here hx rfl (hb hby d1_5) k) ?_
  refine step (s₁.setTop (mkF m 7 #[.val (.int i1), .val (.long j2), .second, .val (.int (0 : Int32)), .unset] [(.int (((i1.toUInt32 >>> ((0 : Int32) &&& 31).toUInt32).toInt32) &&& (3 : Int32)))])) (fun t k => XS.iand X0.here hx rfl (hb hby d1_6) rfl k) ?_
  refine step (s₁.setTop (mkF m 9 #[.val (.int i1), .val (.long j2), .second, .val (.int (0 : Int32)), .val (.int (((i1.toUInt32 >>> ((0 : Int32) &&& 31).toUInt32).toInt32) &&& (3 : Int32)))] [])) (fun t k => XS.istore X0.here hx rfl (hb hby d1_7) rfl (l' := #[.val (.int i1), .val (.long j2), .second, .val (.int (0 : Int32)), .val (.int (((i1.toUInt32 >>> ((0 : Int32) &&& 31).toUInt32).toInt32) &&& (3 : Int32)))]) rfl k) ?_
  refine step (s₁.setTop (mkF m 11 #[.val (.int i1), .val (.long j2), .second, .val (.int (0 : Int32)), .val (.int (((i1.toUInt32 >>> ((0 : Int32) &&& 31).toUInt32).toInt32) &&& (3 : Int32)))] [(.int (((i1.toUInt32 >>> ((0 : Int32) &&& 31).toUInt32).toInt32) &&& (3 : Int32)))])) (fun t k => XS.iload X0.here hx rfl (hb hby d1_9) rfl k) ?_
  by_cases hc11_2 : (((i1.toUInt32 >>> ((0 : Int32) &&& 31).toUInt32).toInt32) &&& (3 : Int32)) = (0 : Int32)
  · -- 11 True
    refine step (s₁.setTop (mkF m 14 #[.val (.int i1), .val (.long j2), .second, .val (.int (0 : Int32)), .val (.int (((i1.toUInt32 >>> ((0 : Int32) &&& 31).toUInt32).toInt32) &&& (3 : Int32)))] [])) (fun t k => XS.ifNo X0.here hx rfl (hb hby d1_11) rfl ((if0 _ _).trans (teq hc11_2).2) k) ?_
    refine step (s₁.setTop (mkF m 16 #[.val (.int i1), .val (.long j2), .second, .val (.int (0 : Int32)), .val (.int (((i1.toUInt32 >>> ((0 : Int32) &&& 31).toUInt32).toInt32) &&& (3 : Int32)))] [(.int (10 : Int32))])) (fun t k => XS.bipush X0.here hx rfl (hb hby d1_14) k) ?_
    refine fin (v := some (.int (nar .byte (10 : Int32)))) X0 (fun h => by cases h) ?_ (by decide) (by decide) (fun fs hr => retN X0 hx (t := .byte) hret (by simp) (hb hby d1_16) hr)
    show Q1_1 Z i1 j2 h0 n0 (some (.int (nar .byte (10 : Int32)))) s₁.heap _
    rw [e0]
    exact ⟨(10 : Int32), rfl, N0, rfl, (by simp only [if_pos hc11_2, if_true, if_false] <;> rfl)⟩
  · -- 11 False
    refine step (s₁.setTop (mkF m 17 #[.val (.int i1), .val (.long j2), .second, .val (.int (0 : Int32)), .val (.int (((i1.toUInt32 >>> ((0 : Int32) &&& 31).toUInt32).toInt32) &&& (3 : Int32)))] [])) (fun t k => XS.ifYes X0.here hx rfl (pc0 := 11) (pc' := 17) rfl (hb hby d1_11) rfl ((if0 _ _).trans (feq hc11_2).2) (by decide) (by decide) k) ?_
    refine step (s₁.setTop (mkF m 19 #[.val (.int i1), .val (.long j2), .second, .val (.int (0 : Int32)), .val (.int (((i1.toUInt32 >>> ((0 : Int32) &&& 31).toUInt32).toInt32) &&& (3 : Int32)))] [(.int (((i1.toUInt32 >>> ((0 : Int32) &&& 31).toUInt32).toInt32) &&& (3 : Int32)))])) (fun t k => XS.iload X0.here hx rfl (hb hby d1_17) rfl k) ?_
    refine step (s₁.setTop (mkF m 20 #[.val (.int i1), .val (.long j2), .second, .val (.int (0 : Int32)), .val (.int (((i1.toUInt32 >>> ((0 : Int32) &&& 31).toUInt32).toInt32) &&& (3 : Int32)))] [(.int (1 : Int32)), (.int (((i1.toUInt32 >>> ((0 : Int32) &&& 31).toUInt32).toInt32) &&& (3 : Int32)))])) (fun t k => XS.iconst X0.here hx rfl (hb hby d1_19) k) ?_
    by_cases hc20_3 : (((i1.toUInt32 >>> ((0 : Int32) &&& 31).toUInt32).toInt32) &&& (3 : Int32)) = (1 : Int32)
    · -- 20 True
      refine step (s₁.setTop (mkF m 23 #[.val (.int i1), .val (.long j2), .second, .val (.int (0 : Int32)), .val (.int (((i1.toUInt32 >>> ((0 : Int32) &&& 31).toUInt32).toInt32) &&& (3 : Int32)))] [])) (fun t k => XS.icmpNo X0.here hx rfl (hb hby d1_20) rfl (teq hc20_3).2 k) ?_
      refine step (s₁.setTop (mkF m 25 #[.val (.int i1), .val (.long j2), .second, .val (.int (0 : Int32)), .val (.int (((i1.toUInt32 >>> ((0 : Int32) &&& 31).toUInt32).toInt32) &&& (3 : Int32)))] [(.int (13 : Int32))])) (fun t k => XS.bipush X0.here hx rfl (hb hby d1_23) k) ?_
      refine fin (v := some (.int (nar .byte (13 : Int32)))) X0 (fun h => by cases h) ?_ (by decide) (by decide) (fun fs hr => retN X0 hx (t := .byte) hret (by simp) (hb hby d1_25) hr)
      show Q1_1 Z i1 j2 h0 n0 (some (.int (nar .byte (13 : Int32)))) s₁.heap _
      rw [e0]
      exact ⟨(13 : Int32), rfl, N0, rfl, (by simp only [if_neg hc11_2, if_pos hc20_3, if_true, if_false] <;> rfl)⟩
    · -- 20 False
      refine step (s₁.setTop (mkF m 26 #[.val (.int i1), .val (.long j2), .second, .val (.int (0 : Int32)), .val (.int (((i1.toUInt32 >>> ((0 : Int32) &&& 31).toUInt32).toInt32) &&& (3 : Int32)))] [])) (fun t k => XS.icmpYes X0.here hx rfl (pc0 := 20) (pc' := 26) rfl (hb hby d1_20) rfl (feq hc20_3).2 (by decide) (by decide) k) ?_
      refine step (s₁.setTop (mkF m 28 #[.val (.int i1), .val (.long j2), .second, .val (.int (0 : Int32)), .val (.int (((i1.toUInt32 >>> ((0 : Int32) &&& 31).toUInt32).toInt32) &&& (3 : Int32)))] [(.int (((i1.toUInt32 >>> ((0 : Int32) &&& 31).toUInt32).toInt32) &&& (3 : Int32)))])) (fun t k => XS.iload X0.here hx rfl (hb hby d1_26) rfl k) ?_
      refine step (s₁.setTop (mkF m 29 #[.val (.int i1), .val (.long j2), .second, .val (.int (0 : Int32)), .val (.int (((i1.toUInt32 >>> ((0 : Int32) &&& 31).toUInt32).toInt32) &&& (3 : Int32)))] [(.int (2 : Int32)), (.int (((i1.toUInt32 >>> ((0 : Int32) &&& 31).toUInt32).toInt32) &&& (3 : Int32)))])) (fun t k => XS.iconst X0.here hx rfl (hb hby d1_28) k) ?_
      by_cases hc29_4 : (((i1.toUInt32 >>> ((0 : Int32) &&& 31).toUInt32).toInt32) &&& (3 : Int32)) = (2 : Int32)
      · -- 29 True
        refine step (s₁.setTop (mkF m 32 #[.val (.int i1), .val (.long j2), .second, .val (.int (0 : Int32)), .val (.int (((i1.toUInt32 >>> ((0 : Int32) &&& 31).toUInt32).toInt32) &&& (3 : Int32)))] [])) (fun t k => XS.icmpNo X0.here hx rfl (hb hby d1_29) rfl (teq hc29_4).2 k) ?_
        refine step (s₁.setTop (mkF m 33 #[.val (.int i1), .val (.long j2), .second, .val (.int (0 : Int32)), .val (.int (((i1.toUInt32 >>> ((0 : Int32) &&& 31).toUInt32).toInt32) &&& (3 : Int32)))] [(.long j2)])) (fun t k => XS.lloadN X0.here hx rfl (hb hby d1_32) rfl k) ?_
        refine step (s₁.setTop (mkF m 35 #[.val (.int i1), .val (.long j2), .second, .val (.int (0 : Int32)), .val (.int (((i1.toUInt32 >>> ((0 : Int32) &&& 31).toUInt32).toInt32) &&& (3 : Int32)))] [(.int (8 : Int32)), (.long j2)])) (fun t k => XS.bipush X0.here hx rfl (hb hby d1_33) k) ?_
        refine step (s₁.setTop (mkF m 36 #[.val (.int i1), .val (.long j2), .second, .val (.int (0 : Int32)), .val (.int (((i1.toUInt32 >>> ((0 : Int32) &&& 31).toUInt32).toInt32) &&& (3 : Int32)))] [(.int (0 : Int32)), (.int (8 : Int32)), (.long j2)])) (fun t k => XS.iloadN X0.here hx rfl (hb hby d1_35) rfl k) ?_
        refine step (s₁.setTop (mkF m 37 #[.val (.int i1), .val (.long j2), .second, .val (.int (0 : Int32)), .val (.int (((i1.toUInt32 >>> ((0 : Int32) &&& 31).toUInt32).toInt32) &&& (3 : Int32)))] [(.int (0 : Int32)), (.long j2)])) (fun t k => XS.imul X0.here hx rfl (hb hby d1_36) rfl k) ?_
        refine step (s₁.setTop (mkF m 38 #[.val (.int i1), .val (.long j2), .second, .val (.int (0 : Int32)), .val (.int (((i1.toUInt32 >>> ((0 : Int32) &&& 31).toUInt32).toInt32) &&& (3 : Int32)))] [(.long ((j2.toUInt64 >>> ((0 : Int32) &&& 0x3f).toInt64.toUInt64).toInt64))])) (fun t k => XS.lushr X0.here hx rfl (hb hby d1_37) rfl k) ?_
        refine step (s₁.setTop (mkF m 39 #[.val (.int i1), .val (.long j2), .second, .val (.int (0 : Int32)), .val (.int (((i1.toUInt32 >>> ((0 : Int32) &&& 31).toUInt32).toInt32) &&& (3 : Int32)))] [(.int (((j2.toUInt64 >>> ((0 : Int32) &&& 0x3f).toInt64.toUInt64).toInt64).toInt32))])) (fun t k => XS.l2i X0.here hx rfl (hb hby d1_38) rfl k) ?_
        refine step (s₁.setTop (mkF m 40 #[.val (.int i1), .val (.long j2), .second, .val (.int (0 : Int32)), .val (.int (((i1.toUInt32 >>> ((0 : Int32) &&& 31).toUInt32).toInt32) &&& (3 : Int32)))] [(.int ((((j2.toUInt64 >>> ((0 : Int32) &&& 0x3f).toInt64.toUInt64).toInt64).toInt32).toInt8.toInt32))])) (fun t k => XS.i2b X0.here hx rfl (hb hby d1_39) rfl k) ?_
        refine fin (v := some (.int (nar .byte ((((j2.toUInt64 >>> ((0 : Int32) &&& 0x3f).toInt64.toUInt64).toInt64).toInt32).toInt8.toInt32)))) X0 (fun h => by cases h) ?_ (by decide) (by decide) (fun fs hr => retN X0 hx (t := .byte) hret (by simp) (hb hby d1_40) hr)
        show Q1_1 Z i1 j2 h0 n0 (some (.int (nar .byte ((((j2.toUInt64 >>> ((0 : Int32) &&& 0x3f).toInt64.toUInt64).toInt64).toInt32).toInt8.toInt32)))) s₁.heap _
        rw [e0]
        exact ⟨((((j2.toUInt64 >>> ((0 : Int32) &&& 0x3f).toInt64.toUInt64).toInt64).toInt32).toInt8.toInt32), rfl, N0, rfl, (by simp only [if_neg hc11_2, if_neg hc20_3, if_pos hc29_4, if_true, if_false] <;> rfl)⟩
      · -- 29 False
        refine step (s₁.setTop (mkF m 41 #[.val (.int i1), .val (.long j2), .second, .val (.int (0 : Int32)), .val (.int (((i1.toUInt32 >>> ((0 : Int32) &&& 31).toUInt32).toInt32) &&& (3 : Int32)))] [])) (fun t k => XS.icmpYes X0.here hx rfl (pc0 := 29) (pc' := 41) rfl (hb hby d1_29) rfl (feq hc29_4).2 (by decide) (by decide) k) ?_
        refine step (s₁.setTop (mkF m 43 #[.val (.int i1), .val (.long j2), .second, .val (.int (0 : Int32)), .val (.int (((i1.toUInt32 >>> ((0 : Int32) &&& 31).toUInt32).toInt32) &&& (3 : Int32)))] [(.int (120 : Int32))])) (fun t k => XS.bipush X0.here hx rfl (hb hby d1_41) k) ?_
        refine fin (v := some (.int (nar .byte (120 : Int32)))) X0 (fun h => by cases h) ?_ (by decide) (by decide) (fun fs hr => retN X0 hx (t := .byte) hret (by simp) (hb hby d1_43) hr)
        show Q1_1 Z i1 j2 h0 n0 (some (.int (nar .byte (120 : Int32)))) s₁.heap _
        rw [e0]
        exact ⟨(120 : Int32), rfl, N0, rfl, (by simp only [if_neg hc11_2, if_neg hc20_3, if_neg hc29_4, if_true, if_false] <;> rfl)⟩
theorem ef_1_2 (m : MethodId) (x0 : Int32) (x1 : Int64) : entryFrame m #[(.int x0), (.long x1), (.int (1 : Int32))] 5 = mkF m 0 #[.val (.int x0), .val (.long x1), .second, .val (.int (1 : Int32)), .unset] [] := by first | (simp [entryFrame, mkF, argsToLocals, Value.category]; done) | rfl
def Q1_2 (Z : State) (i1 : Int32) (j2 : Int64) (h0 : Heap) (n0 : Nat) (v : Option Value) (h : Heap) (L : List Loc) : Prop := ∃ (z_1 : Int32), v = some (.int (nar .byte z_1)) ∧ Fr n0 L ∧ h = h0 ∧ z_1 = (if (((i1.toUInt32 >>> ((2 : Int32) &&& 31).toUInt32).toInt32) &&& (3 : Int32)) = (0 : Int32) then (10 : Int32) else (if (((i1.toUInt32 >>> ((2 : Int32) &&& 31).toUInt32).toInt32) &&& (3 : Int32)) = (1 : Int32) then (13 : Int32) else (if (((i1.toUInt32 >>> ((2 : Int32) &&& 31).toUInt32).toInt32) &&& (3 : Int32)) = (2 : Int32) then ((((j2.toUInt64 >>> ((8 : Int32) &&& 0x3f).toInt64.toUInt64).toInt64).toInt32).toInt8.toInt32) else (120 : Int32))))
set_option maxRecDepth 65536 in
set_option maxHeartbeats 40000000 in
theorem rm1_2 (l : Launch) (Z : State) (a0 : Array Value) (hw : ∀ d ∈ tables_1, d.before a0 Z = true) (ws : List Jvm.Cond) (i1 : Int32) (j2 : Int64) (h0 : Heap) (n0 : Nat) (Z0 : n0 ≤ h0.size)  :
    MetFree l (⟨"com/example/whisman/whisman/connector/RequestHeadParserHeadEndPinLaw", "pick", "(IJI)B"⟩ : MethodName) (head1 (Jvm.Cond.code (⟨"com/example/whisman/whisman/connector/RequestHeadParserHeadEndPinLaw", "pick", "(IJI)B"⟩ : MethodName) method_3_code 5 (some .byte) :: ws) ({ frames := 0, cells := 0, slots := 0, locals := 0 } : Room)) (fun a U => a = #[(.int i1), (.long j2), (.int (1 : Int32))] ∧ Z.Warmed39 U.vm ∧ U.heap = h0) (fun _ _ _ _ _ => True) (fun _ U o U' => ∃ v L, o = .returned v ∧ Q1_2 Z i1 j2 h0 n0 v U'.heap L ∧ FrameEnd U o U' L ({ frames := 0, cells := 0, slots := 0, locals := 0 } : Room).cells ({ frames := 0, cells := 0, slots := 0, locals := 0 } : Room).slots) := by
  refine own_body (plainFor_of_name pn_1) ?_
  intro p e s m below meth c s₁ G hx hby hml hZ hown hnm hret X0 e0 step fin
  replace hown : s.vm.findClass "com/example/whisman/whisman/connector/RequestHeadParserHeadEndPinLaw" = some m.cls := hown
  replace hnm : meth.name = "pick" := hnm
  replace hret : meth.sig.returnType = some .byte := hret
  replace hml : c.maxLocals = 5 := hml
  have N0 := Fr.nil n0
  refine step (s₁.setTop (mkF m 0 #[.val (.int i1), .val (.long j2), .second, .val (.int (1 : Int32)), .unset] [])) (fun t k => castTop (ef_1_2 m i1 j2) k) ?_
  refine step (s₁.setTop (mkF m 1 #[.val (.int i1), .val (.long j2), .second, .val (.int (1 : Int32)), .unset] [(.int i1)])) (fun t k => XS.iloadN X0.here hx rfl (hb hby d1_0) rfl k) ?_
  refine step (s₁.setTop (mkF m 2 #[.val (.int i1), .val (.long j2), .second, .val (.int (1 : Int32)), .unset] [(.int (2 : Int32)), (.int i1)])) (fun t k => XS.iconst X0.here hx rfl (hb hby d1_1) k) ?_
  refine step (s₁.setTop (mkF m 3 #[.val (.int i1), .val (.long j2), .second, .val (.int (1 : Int32)), .unset] [(.int (1 : Int32)), (.int (2 : Int32)), (.int i1)])) (fun t k => XS.iloadN X0.here hx rfl (hb hby d1_2) rfl k) ?_
  refine step (s₁.setTop (mkF m 4 #[.val (.int i1), .val (.long j2), .second, .val (.int (1 : Int32)), .unset] [(.int (2 : Int32)), (.int i1)])) (fun t k => XS.imul X0.here hx rfl (hb hby d1_3) rfl k) ?_
  refine step (s₁.setTop (mkF m 5 #[.val (.int i1), .val (.long j2), .second, .val (.int (1 : Int32)), .unset] [(.int ((i1.toUInt32 >>> ((2 : Int32) &&& 31).toUInt32).toInt32))])) (fun t k => XS.iushr X0.here hx rfl (hb hby d1_4) rfl k) ?_
  refine step (s₁.setTop (mkF m 6 #[.val (.int i1), .val (.long j2), .second, .val (.int (1 : Int32)), .unset] [(.int (3 : Int32)), (.int ((i1.toUInt32 >>> ((2 : Int32) &&& 31).toUInt32).toInt32))])) (fun t k => XS.iconst X0.here hx rfl (hb hby d1_5) k) ?_
  refine step (s₁.setTop (mkF m 7 #[.val (.int i1), .val (.long j2), .second, .val (.int (1 : Int32)), .unset] [(.int (((i1.toUInt32 >>> ((2 : Int32) &&& 31).toUInt32).toInt32) &&& (3 : Int32)))])) (fun t k => XS.iand X0.here hx rfl (hb hby d1_6) rfl k) ?_
  refine step (s₁.setTop (mkF m 9 #[.val (.int i1), .val (.long j2), .second, .val (.int (1 : Int32)), .val (.int (((i1.toUInt32 >>> ((2 : Int32) &&& 31).toUInt32).toInt32) &&& (3 : Int32)))] [])) (fun t k => XS.istore X0.here hx rfl (hb hby d1_7) rfl (l' := #[.val (.int i1), .val (.long j2), .second, .val (.int (1 : Int32)), .val (.int (((i1.toUInt32 >>> ((2 : Int32) &&& 31).toUInt32).toInt32) &&& (3 : Int32)))]) rfl k) ?_
  refine step (s₁.setTop (mkF m 11 #[.val (.int i1), .val (.long j2), .second, .val (.int (1 : Int32)), .val (.int (((i1.toUInt32 >>> ((2 : Int32) &&& 31).toUInt32).toInt32) &&& (3 : Int32)))] [(.int (((i1.toUInt32 >>> ((2 : Int32) &&& 31).toUInt32).toInt32) &&& (3 : Int32)))])) (fun t k => XS.iload X0.here hx rfl (hb hby d1_9) rfl k) ?_
  by_cases hc11_2 : (((i1.toUInt32 >>> ((2 : Int32) &&& 31).toUInt32).toInt32) &&& (3 : Int32)) = (0 : Int32)
  · -- 11 True
    refine step (s₁.setTop (mkF m 14 #[.val (.int i1), .val (.long j2), .second, .val (.int (1 : Int32)), .val (.int (((i1.toUInt32 >>> ((2 : Int32) &&& 31).toUInt32).toInt32) &&& (3 : Int32)))] [])) (fun t k => XS.ifNo X0.here hx rfl (hb hby d1_11) rfl ((if0 _ _).trans (teq hc11_2).2) k) ?_
    refine step (s₁.setTop (mkF m 16 #[.val (.int i1), .val (.long j2), .second, .val (.int (1 : Int32)), .val (.int (((i1.toUInt32 >>> ((2 : Int32) &&& 31).toUInt32).toInt32) &&& (3 : Int32)))] [(.int (10 : Int32))])) (fun t k => XS.bipush X0.here hx rfl (hb hby d1_14) k) ?_
    refine fin (v := some (.int (nar .byte (10 : Int32)))) X0 (fun h => by cases h) ?_ (by decide) (by decide) (fun fs hr => retN X0 hx (t := .byte) hret (by simp) (hb hby d1_16) hr)
    show Q1_2 Z i1 j2 h0 n0 (some (.int (nar .byte (10 : Int32)))) s₁.heap _
    rw [e0]
    exact ⟨(10 : Int32), rfl, N0, rfl, (by simp only [if_pos hc11_2, if_true, if_false] <;> rfl)⟩
  · -- 11 False
    refine step (s₁.setTop (mkF m 17 #[.val (.int i1), .val (.long j2), .second, .val (.int (1 : Int32)), .val (.int (((i1.toUInt32 >>> ((2 : Int32) &&& 31).toUInt32).toInt32) &&& (3 : Int32)))] [])) (fun t k => XS.ifYes X0.here hx rfl (pc0 := 11) (pc' := 17) rfl (hb hby d1_11) rfl ((if0 _ _).trans (feq hc11_2).2) (by decide) (by decide) k) ?_
    refine step (s₁.setTop (mkF m 19 #[.val (.int i1), .val (.long j2), .second, .val (.int (1 : Int32)), .val (.int (((i1.toUInt32 >>> ((2 : Int32) &&& 31).toUInt32).toInt32) &&& (3 : Int32)))] [(.int (((i1.toUInt32 >>> ((2 : Int32) &&& 31).toUInt32).toInt32) &&& (3 : Int32)))])) (fun t k => XS.iload X0.here hx rfl (hb hby d1_17) rfl k) ?_
    refine step (s₁.setTop (mkF m 20 #[.val (.int i1), .val (.long j2), .second, .val (.int (1 : Int32)), .val (.int (((i1.toUInt32 >>> ((2 : Int32) &&& 31).toUInt32).toInt32) &&& (3 : Int32)))] [(.int (1 : Int32)), (.int (((i1.toUInt32 >>> ((2 : Int32) &&& 31).toUInt32).toInt32) &&& (3 : Int32)))])) (fun t k => XS.iconst X0.here hx rfl (hb hby d1_19) k) ?_
    by_cases hc20_3 : (((i1.toUInt32 >>> ((2 : Int32) &&& 31).toUInt32).toInt32) &&& (3 : Int32)) = (1 : Int32)
    · -- 20 True
      refine step (s₁.setTop (mkF m 23 #[.val (.int i1), .val (.long j2), .second, .val (.int (1 : Int32)), .val (.int (((i1.toUInt32 >>> ((2 : Int32) &&& 31).toUInt32).toInt32) &&& (3 : Int32)))] [])) (fun t k => XS.icmpNo X0.here hx rfl (hb hby d1_20) rfl (teq hc20_3).2 k) ?_
      refine step (s₁.setTop (mkF m 25 #[.val (.int i1), .val (.long j2), .second, .val (.int (1 : Int32)), .val (.int (((i1.toUInt32 >>> ((2 : Int32) &&& 31).toUInt32).toInt32) &&& (3 : Int32)))] [(.int (13 : Int32))])) (fun t k => XS.bipush X0.here hx rfl (hb hby d1_23) k) ?_
      refine fin (v := some (.int (nar .byte (13 : Int32)))) X0 (fun h => by cases h) ?_ (by decide) (by decide) (fun fs hr => retN X0 hx (t := .byte) hret (by simp) (hb hby d1_25) hr)
      show Q1_2 Z i1 j2 h0 n0 (some (.int (nar .byte (13 : Int32)))) s₁.heap _
      rw [e0]
      exact ⟨(13 : Int32), rfl, N0, rfl, (by simp only [if_neg hc11_2, if_pos hc20_3, if_true, if_false] <;> rfl)⟩
    · -- 20 False
      refine step (s₁.setTop (mkF m 26 #[.val (.int i1), .val (.long j2), .second, .val (.int (1 : Int32)), .val (.int (((i1.toUInt32 >>> ((2 : Int32) &&& 31).toUInt32).toInt32) &&& (3 : Int32)))] [])) (fun t k => XS.icmpYes X0.here hx rfl (pc0 := 20) (pc' := 26) rfl (hb hby d1_20) rfl (feq hc20_3).2 (by decide) (by decide) k) ?_
      refine step (s₁.setTop (mkF m 28 #[.val (.int i1), .val (.long j2), .second, .val (.int (1 : Int32)), .val (.int (((i1.toUInt32 >>> ((2 : Int32) &&& 31).toUInt32).toInt32) &&& (3 : Int32)))] [(.int (((i1.toUInt32 >>> ((2 : Int32) &&& 31).toUInt32).toInt32) &&& (3 : Int32)))])) (fun t k => XS.iload X0.here hx rfl (hb hby d1_26) rfl k) ?_
      refine step (s₁.setTop (mkF m 29 #[.val (.int i1), .val (.long j2), .second, .val (.int (1 : Int32)), .val (.int (((i1.toUInt32 >>> ((2 : Int32) &&& 31).toUInt32).toInt32) &&& (3 : Int32)))] [(.int (2 : Int32)), (.int (((i1.toUInt32 >>> ((2 : Int32) &&& 31).toUInt32).toInt32) &&& (3 : Int32)))])) (fun t k => XS.iconst X0.here hx rfl (hb hby d1_28) k) ?_
      by_cases hc29_4 : (((i1.toUInt32 >>> ((2 : Int32) &&& 31).toUInt32).toInt32) &&& (3 : Int32)) = (2 : Int32)
      · -- 29 True
        refine step (s₁.setTop (mkF m 32 #[.val (.int i1), .val (.long j2), .second, .val (.int (1 : Int32)), .val (.int (((i1.toUInt32 >>> ((2 : Int32) &&& 31).toUInt32).toInt32) &&& (3 : Int32)))] [])) (fun t k => XS.icmpNo X0.here hx rfl (hb hby d1_29) rfl (teq hc29_4).2 k) ?_
        refine step (s₁.setTop (mkF m 33 #[.val (.int i1), .val (.long j2), .second, .val (.int (1 : Int32)), .val (.int (((i1.toUInt32 >>> ((2 : Int32) &&& 31).toUInt32).toInt32) &&& (3 : Int32)))] [(.long j2)])) (fun t k => XS.lloadN X0.here hx rfl (hb hby d1_32) rfl k) ?_
        refine step (s₁.setTop (mkF m 35 #[.val (.int i1), .val (.long j2), .second, .val (.int (1 : Int32)), .val (.int (((i1.toUInt32 >>> ((2 : Int32) &&& 31).toUInt32).toInt32) &&& (3 : Int32)))] [(.int (8 : Int32)), (.long j2)])) (fun t k => XS.bipush X0.here hx rfl (hb hby d1_33) k) ?_
        refine step (s₁.setTop (mkF m 36 #[.val (.int i1), .val (.long j2), .second, .val (.int (1 : Int32)), .val (.int (((i1.toUInt32 >>> ((2 : Int32) &&& 31).toUInt32).toInt32) &&& (3 : Int32)))] [(.int (1 : Int32)), (.int (8 : Int32)), (.long j2)])) (fun t k => XS.iloadN X0.here hx rfl (hb hby d1_35) rfl k) ?_
        refine step (s₁.setTop (mkF m 37 #[.val (.int i1), .val (.long j2), .second, .val (.int (1 : Int32)), .val (.int (((i1.toUInt32 >>> ((2 : Int32) &&& 31).toUInt32).toInt32) &&& (3 : Int32)))] [(.int (8 : Int32)), (.long j2)])) (fun t k => XS.imul X0.here hx rfl (hb hby d1_36) rfl k) ?_
        refine step (s₁.setTop (mkF m 38 #[.val (.int i1), .val (.long j2), .second, .val (.int (1 : Int32)), .val (.int (((i1.toUInt32 >>> ((2 : Int32) &&& 31).toUInt32).toInt32) &&& (3 : Int32)))] [(.long ((j2.toUInt64 >>> ((8 : Int32) &&& 0x3f).toInt64.toUInt64).toInt64))])) (fun t k => XS.lushr X0.here hx rfl (hb hby d1_37) rfl k) ?_
        refine step (s₁.setTop (mkF m 39 #[.val (.int i1), .val (.long j2), .second, .val (.int (1 : Int32)), .val (.int (((i1.toUInt32 >>> ((2 : Int32) &&& 31).toUInt32).toInt32) &&& (3 : Int32)))] [(.int (((j2.toUInt64 >>> ((8 : Int32) &&& 0x3f).toInt64.toUInt64).toInt64).toInt32))])) (fun t k => XS.l2i X0.here hx rfl (hb hby d1_38) rfl k) ?_
        refine step (s₁.setTop (mkF m 40 #[.val (.int i1), .val (.long j2), .second, .val (.int (1 : Int32)), .val (.int (((i1.toUInt32 >>> ((2 : Int32) &&& 31).toUInt32).toInt32) &&& (3 : Int32)))] [(.int ((((j2.toUInt64 >>> ((8 : Int32) &&& 0x3f).toInt64.toUInt64).toInt64).toInt32).toInt8.toInt32))])) (fun t k => XS.i2b X0.here hx rfl (hb hby d1_39) rfl k) ?_
        refine fin (v := some (.int (nar .byte ((((j2.toUInt64 >>> ((8 : Int32) &&& 0x3f).toInt64.toUInt64).toInt64).toInt32).toInt8.toInt32)))) X0 (fun h => by cases h) ?_ (by decide) (by decide) (fun fs hr => retN X0 hx (t := .byte) hret (by simp) (hb hby d1_40) hr)
        show Q1_2 Z i1 j2 h0 n0 (some (.int (nar .byte ((((j2.toUInt64 >>> ((8 : Int32) &&& 0x3f).toInt64.toUInt64).toInt64).toInt32).toInt8.toInt32)))) s₁.heap _
        rw [e0]
        exact ⟨((((j2.toUInt64 >>> ((8 : Int32) &&& 0x3f).toInt64.toUInt64).toInt64).toInt32).toInt8.toInt32), rfl, N0, rfl, (by simp only [if_neg hc11_2, if_neg hc20_3, if_pos hc29_4, if_true, if_false] <;> rfl)⟩
      · -- 29 False
        refine step (s₁.setTop (mkF m 41 #[.val (.int i1), .val (.long j2), .second, .val (.int (1 : Int32)), .val (.int (((i1.toUInt32 >>> ((2 : Int32) &&& 31).toUInt32).toInt32) &&& (3 : Int32)))] [])) (fun t k => XS.icmpYes X0.here hx rfl (pc0 := 29) (pc' := 41) rfl (hb hby d1_29) rfl (feq hc29_4).2 (by decide) (by decide) k) ?_
        refine step (s₁.setTop (mkF m 43 #[.val (.int i1), .val (.long j2), .second, .val (.int (1 : Int32)), .val (.int (((i1.toUInt32 >>> ((2 : Int32) &&& 31).toUInt32).toInt32) &&& (3 : Int32)))] [(.int (120 : Int32))])) (fun t k => XS.bipush X0.here hx rfl (hb hby d1_41) k) ?_
        refine fin (v := some (.int (nar .byte (120 : Int32)))) X0 (fun h => by cases h) ?_ (by decide) (by decide) (fun fs hr => retN X0 hx (t := .byte) hret (by simp) (hb hby d1_43) hr)
        show Q1_2 Z i1 j2 h0 n0 (some (.int (nar .byte (120 : Int32)))) s₁.heap _
        rw [e0]
        exact ⟨(120 : Int32), rfl, N0, rfl, (by simp only [if_neg hc11_2, if_neg hc20_3, if_neg hc29_4, if_true, if_false] <;> rfl)⟩
theorem ef_1_3 (m : MethodId) (x0 : Int32) (x1 : Int64) : entryFrame m #[(.int x0), (.long x1), (.int (2 : Int32))] 5 = mkF m 0 #[.val (.int x0), .val (.long x1), .second, .val (.int (2 : Int32)), .unset] [] := by first | (simp [entryFrame, mkF, argsToLocals, Value.category]; done) | rfl
def Q1_3 (Z : State) (i1 : Int32) (j2 : Int64) (h0 : Heap) (n0 : Nat) (v : Option Value) (h : Heap) (L : List Loc) : Prop := ∃ (z_1 : Int32), v = some (.int (nar .byte z_1)) ∧ Fr n0 L ∧ h = h0 ∧ z_1 = (if (((i1.toUInt32 >>> ((4 : Int32) &&& 31).toUInt32).toInt32) &&& (3 : Int32)) = (0 : Int32) then (10 : Int32) else (if (((i1.toUInt32 >>> ((4 : Int32) &&& 31).toUInt32).toInt32) &&& (3 : Int32)) = (1 : Int32) then (13 : Int32) else (if (((i1.toUInt32 >>> ((4 : Int32) &&& 31).toUInt32).toInt32) &&& (3 : Int32)) = (2 : Int32) then ((((j2.toUInt64 >>> ((16 : Int32) &&& 0x3f).toInt64.toUInt64).toInt64).toInt32).toInt8.toInt32) else (120 : Int32))))
set_option maxRecDepth 65536 in
set_option maxHeartbeats 40000000 in
theorem rm1_3 (l : Launch) (Z : State) (a0 : Array Value) (hw : ∀ d ∈ tables_1, d.before a0 Z = true) (ws : List Jvm.Cond) (i1 : Int32) (j2 : Int64) (h0 : Heap) (n0 : Nat) (Z0 : n0 ≤ h0.size)  :
    MetFree l (⟨"com/example/whisman/whisman/connector/RequestHeadParserHeadEndPinLaw", "pick", "(IJI)B"⟩ : MethodName) (head1 (Jvm.Cond.code (⟨"com/example/whisman/whisman/connector/RequestHeadParserHeadEndPinLaw", "pick", "(IJI)B"⟩ : MethodName) method_3_code 5 (some .byte) :: ws) ({ frames := 0, cells := 0, slots := 0, locals := 0 } : Room)) (fun a U => a = #[(.int i1), (.long j2), (.int (2 : Int32))] ∧ Z.Warmed39 U.vm ∧ U.heap = h0) (fun _ _ _ _ _ => True) (fun _ U o U' => ∃ v L, o = .returned v ∧ Q1_3 Z i1 j2 h0 n0 v U'.heap L ∧ FrameEnd U o U' L ({ frames := 0, cells := 0, slots := 0, locals := 0 } : Room).cells ({ frames := 0, cells := 0, slots := 0, locals := 0 } : Room).slots) := by
  refine own_body (plainFor_of_name pn_1) ?_
  intro p e s m below meth c s₁ G hx hby hml hZ hown hnm hret X0 e0 step fin
  replace hown : s.vm.findClass "com/example/whisman/whisman/connector/RequestHeadParserHeadEndPinLaw" = some m.cls := hown
  replace hnm : meth.name = "pick" := hnm
  replace hret : meth.sig.returnType = some .byte := hret
  replace hml : c.maxLocals = 5 := hml
  have N0 := Fr.nil n0
  refine step (s₁.setTop (mkF m 0 #[.val (.int i1), .val (.long j2), .second, .val (.int (2 : Int32)), .unset] [])) (fun t k => castTop (ef_1_3 m i1 j2) k) ?_
  refine step (s₁.setTop (mkF m 1 #[.val (.int i1), .val (.long j2), .second, .val (.int (2 : Int32)), .unset] [(.int i1)])) (fun t k => XS.iloadN X0.here hx rfl (hb hby d1_0) rfl k) ?_
  refine step (s₁.setTop (mkF m 2 #[.val (.int i1), .val (.long j2), .second, .val (.int (2 : Int32)), .unset] [(.int (2 : Int32)), (.int i1)])) (fun t k => XS.iconst X0.here hx rfl (hb hby d1_1) k) ?_
  refine step (s₁.setTop (mkF m 3 #[.val (.int i1), .val (.long j2), .second, .val (.int (2 : Int32)), .unset] [(.int (2 : Int32)), (.int (2 : Int32)), (.int i1)])) (fun t k => XS.iloadN X0.here hx rfl (hb hby d1_2) rfl k) ?_
  refine step (s₁.setTop (mkF m 4 #[.val (.int i1), .val (.long j2), .second, .val (.int (2 : Int32)), .unset] [(.int (4 : Int32)), (.int i1)])) (fun t k => XS.imul X0.here hx rfl (hb hby d1_3) rfl k) ?_
  refine step (s₁.setTop (mkF m 5 #[.val (.int i1), .val (.long j2), .second, .val (.int (2 : Int32)), .unset] [(.int ((i1.toUInt32 >>> ((4 : Int32) &&& 31).toUInt32).toInt32))])) (fun t k => XS.iushr X0.here hx rfl (hb hby d1_4) rfl k) ?_
  refine step (s₁.setTop (mkF m 6 #[.val (.int i1), .val (.long j2), .second, .val (.int (2 : Int32)), .unset] [(.int (3 : Int32)), (.int ((i1.toUInt32 >>> ((4 : Int32) &&& 31).toUInt32).toInt32))])) (fun t k => XS.iconst X0.here hx rfl (hb hby d1_5) k) ?_
  refine step (s₁.setTop (mkF m 7 #[.val (.int i1), .val (.long j2), .second, .val (.int (2 : Int32)), .unset] [(.int (((i1.toUInt32 >>> ((4 : Int32) &&& 31).toUInt32).toInt32) &&& (3 : Int32)))])) (fun t k => XS.iand X0.here hx rfl (hb hby d1_6) rfl k) ?_
  refine step (s₁.setTop (mkF m 9 #[.val (.int i1), .val (.long j2), .second, .val (.int (2 : Int32)), .val (.int (((i1.toUInt32 >>> ((4 : Int32) &&& 31).toUInt32).toInt32) &&& (3 : Int32)))] [])) (fun t k => XS.istore X0.here hx rfl (hb hby d1_7) rfl (l' := #[.val (.int i1), .val (.long j2), .second, .val (.int (2 : Int32)), .val (.int (((i1.toUInt32 >>> ((4 : Int32) &&& 31).toUInt32).toInt32) &&& (3 : Int32)))]) rfl k) ?_
  refine step (s₁.setTop (mkF m 11 #[.val (.int i1), .val (.long j2), .second, .val (.int (2 : Int32)), .val (.int (((i1.toUInt32 >>> ((4 : Int32) &&& 31).toUInt32).toInt32) &&& (3 : Int32)))] [(.int (((i1.toUInt32 >>> ((4 : Int32) &&& 31).toUInt32).toInt32) &&& (3 : Int32)))])) (fun t k => XS.iload X0.here hx rfl (hb hby d1_9) rfl k) ?_
  by_cases hc11_2 : (((i1.toUInt32 >>> ((4 : Int32) &&& 31).toUInt32).toInt32) &&& (3 : Int32)) = (0 : Int32)
  · -- 11 True
    refine step (s₁.setTop (mkF m 14 #[.val (.int i1), .val (.long j2), .second, .val (.int (2 : Int32)), .val (.int (((i1.toUInt32 >>> ((4 : Int32) &&& 31).toUInt32).toInt32) &&& (3 : Int32)))] [])) (fun t k => XS.ifNo X0.here hx rfl (hb hby d1_11) rfl ((if0 _ _).trans (teq hc11_2).2) k) ?_
    refine step (s₁.setTop (mkF m 16 #[.val (.int i1), .val (.long j2), .second, .val (.int (2 : Int32)), .val (.int (((i1.toUInt32 >>> ((4 : Int32) &&& 31).toUInt32).toInt32) &&& (3 : Int32)))] [(.int (10 : Int32))])) (fun t k => XS.bipush X0.here hx rfl (hb hby d1_14) k) ?_
    refine fin (v := some (.int (nar .byte (10 : Int32)))) X0 (fun h => by cases h) ?_ (by decide) (by decide) (fun fs hr => retN X0 hx (t := .byte) hret (by simp) (hb hby d1_16) hr)
    show Q1_3 Z i1 j2 h0 n0 (some (.int (nar .byte (10 : Int32)))) s₁.heap _
    rw [e0]
    exact ⟨(10 : Int32), rfl, N0, rfl, (by simp only [if_pos hc11_2, if_true, if_false] <;> rfl)⟩
  · -- 11 False
    refine step (s₁.setTop (mkF m 17 #[.val (.int i1), .val (.long j2), .second, .val (.int (2 : Int32)), .val (.int (((i1.toUInt32 >>> ((4 : Int32) &&& 31).toUInt32).toInt32) &&& (3 : Int32)))] [])) (fun t k => XS.ifYes X0.here hx rfl (pc0 := 11) (pc' := 17) rfl (hb hby d1_11) rfl ((if0 _ _).trans (feq hc11_2).2) (by decide) (by decide) k) ?_
    refine step (s₁.setTop (mkF m 19 #[.val (.int i1), .val (.long j2), .second, .val (.int (2 : Int32)), .val (.int (((i1.toUInt32 >>> ((4 : Int32) &&& 31).toUInt32).toInt32) &&& (3 : Int32)))] [(.int (((i1.toUInt32 >>> ((4 : Int32) &&& 31).toUInt32).toInt32) &&& (3 : Int32)))])) (fun t k => XS.iload X0.here hx rfl (hb hby d1_17) rfl k) ?_
    refine step (s₁.setTop (mkF m 20 #[.val (.int i1), .val (.long j2), .second, .val (.int (2 : Int32)), .val (.int (((i1.toUInt32 >>> ((4 : Int32) &&& 31).toUInt32).toInt32) &&& (3 : Int32)))] [(.int (1 : Int32)), (.int (((i1.toUInt32 >>> ((4 : Int32) &&& 31).toUInt32).toInt32) &&& (3 : Int32)))])) (fun t k => XS.iconst X0.here hx rfl (hb hby d1_19) k) ?_
    by_cases hc20_3 : (((i1.toUInt32 >>> ((4 : Int32) &&& 31).toUInt32).toInt32) &&& (3 : Int32)) = (1 : Int32)
    · -- 20 True
      refine step (s₁.setTop (mkF m 23 #[.val (.int i1), .val (.long j2), .second, .val (.int (2 : Int32)), .val (.int (((i1.toUInt32 >>> ((4 : Int32) &&& 31).toUInt32).toInt32) &&& (3 : Int32)))] [])) (fun t k => XS.icmpNo X0.here hx rfl (hb hby d1_20) rfl (teq hc20_3).2 k) ?_
      refine step (s₁.setTop (mkF m 25 #[.val (.int i1), .val (.long j2), .second, .val (.int (2 : Int32)), .val (.int (((i1.toUInt32 >>> ((4 : Int32) &&& 31).toUInt32).toInt32) &&& (3 : Int32)))] [(.int (13 : Int32))])) (fun t k => XS.bipush X0.here hx rfl (hb hby d1_23) k) ?_
      refine fin (v := some (.int (nar .byte (13 : Int32)))) X0 (fun h => by cases h) ?_ (by decide) (by decide) (fun fs hr => retN X0 hx (t := .byte) hret (by simp) (hb hby d1_25) hr)
      show Q1_3 Z i1 j2 h0 n0 (some (.int (nar .byte (13 : Int32)))) s₁.heap _
      rw [e0]
      exact ⟨(13 : Int32), rfl, N0, rfl, (by simp only [if_neg hc11_2, if_pos hc20_3, if_true, if_false] <;> rfl)⟩
    · -- 20 False
      refine step (s₁.setTop (mkF m 26 #[.val (.int i1), .val (.long j2), .second, .val (.int (2 : Int32)), .val (.int (((i1.toUInt32 >>> ((4 : Int32) &&& 31).toUInt32).toInt32) &&& (3 : Int32)))] [])) (fun t k => XS.icmpYes X0.here hx rfl (pc0 := 20) (pc' := 26) rfl (hb hby d1_20) rfl (feq hc20_3).2 (by decide) (by decide) k) ?_
      refine step (s₁.setTop (mkF m 28 #[.val (.int i1), .val (.long j2), .second, .val (.int (2 : Int32)), .val (.int (((i1.toUInt32 >>> ((4 : Int32) &&& 31).toUInt32).toInt32) &&& (3 : Int32)))] [(.int (((i1.toUInt32 >>> ((4 : Int32) &&& 31).toUInt32).toInt32) &&& (3 : Int32)))])) (fun t k => XS.iload X0.here hx rfl (hb hby d1_26) rfl k) ?_
      refine step (s₁.setTop (mkF m 29 #[.val (.int i1), .val (.long j2), .second, .val (.int (2 : Int32)), .val (.int (((i1.toUInt32 >>> ((4 : Int32) &&& 31).toUInt32).toInt32) &&& (3 : Int32)))] [(.int (2 : Int32)), (.int (((i1.toUInt32 >>> ((4 : Int32) &&& 31).toUInt32).toInt32) &&& (3 : Int32)))])) (fun t k => XS.iconst X0.here hx rfl (hb hby d1_28) k) ?_
      by_cases hc29_4 : (((i1.toUInt32 >>> ((4 : Int32) &&& 31).toUInt32).toInt32) &&& (3 : Int32)) = (2 : Int32)
      · -- 29 True
        refine step (s₁.setTop (mkF m 32 #[.val (.int i1), .val (.long j2), .second, .val (.int (2 : Int32)), .val (.int (((i1.toUInt32 >>> ((4 : Int32) &&& 31).toUInt32).toInt32) &&& (3 : Int32)))] [])) (fun t k => XS.icmpNo X0.here hx rfl (hb hby d1_29) rfl (teq hc29_4).2 k) ?_
        refine step (s₁.setTop (mkF m 33 #[.val (.int i1), .val (.long j2), .second, .val (.int (2 : Int32)), .val (.int (((i1.toUInt32 >>> ((4 : Int32) &&& 31).toUInt32).toInt32) &&& (3 : Int32)))] [(.long j2)])) (fun t k => XS.lloadN X0.here hx rfl (hb hby d1_32) rfl k) ?_
        refine step (s₁.setTop (mkF m 35 #[.val (.int i1), .val (.long j2), .second, .val (.int (2 : Int32)), .val (.int (((i1.toUInt32 >>> ((4 : Int32) &&& 31).toUInt32).toInt32) &&& (3 : Int32)))] [(.int (8 : Int32)), (.long j2)])) (fun t k => XS.bipush X0.here hx rfl (hb hby d1_33) k) ?_
        refine step (s₁.setTop (mkF m 36 #[.val (.int i1), .val (.long j2), .second, .val (.int (2 : Int32)), .val (.int (((i1.toUInt32 >>> ((4 : Int32) &&& 31).toUInt32).toInt32) &&& (3 : Int32)))] [(.int (2 : Int32)), (.int (8 : Int32)), (.long j2)])) (fun t k => XS.iloadN X0.here hx rfl (hb hby d1_35) rfl k) ?_
        refine step (s₁.setTop (mkF m 37 #[.val (.int i1), .val (.long j2), .second, .val (.int (2 : Int32)), .val (.int (((i1.toUInt32 >>> ((4 : Int32) &&& 31).toUInt32).toInt32) &&& (3 : Int32)))] [(.int (16 : Int32)), (.long j2)])) (fun t k => XS.imul X0.here hx rfl (hb hby d1_36) rfl k) ?_
        refine step (s₁.setTop (mkF m 38 #[.val (.int i1), .val (.long j2), .second, .val (.int (2 : Int32)), .val (.int (((i1.toUInt32 >>> ((4 : Int32) &&& 31).toUInt32).toInt32) &&& (3 : Int32)))] [(.long ((j2.toUInt64 >>> ((16 : Int32) &&& 0x3f).toInt64.toUInt64).toInt64))])) (fun t k => XS.lushr X0.here hx rfl (hb hby d1_37) rfl k) ?_
        refine step (s₁.setTop (mkF m 39 #[.val (.int i1), .val (.long j2), .second, .val (.int (2 : Int32)), .val (.int (((i1.toUInt32 >>> ((4 : Int32) &&& 31).toUInt32).toInt32) &&& (3 : Int32)))] [(.int (((j2.toUInt64 >>> ((16 : Int32) &&& 0x3f).toInt64.toUInt64).toInt64).toInt32))])) (fun t k => XS.l2i X0.here hx rfl (hb hby d1_38) rfl k) ?_
        refine step (s₁.setTop (mkF m 40 #[.val (.int i1), .val (.long j2), .second, .val (.int (2 : Int32)), .val (.int (((i1.toUInt32 >>> ((4 : Int32) &&& 31).toUInt32).toInt32) &&& (3 : Int32)))] [(.int ((((j2.toUInt64 >>> ((16 : Int32) &&& 0x3f).toInt64.toUInt64).toInt64).toInt32).toInt8.toInt32))])) (fun t k => XS.i2b X0.here hx rfl (hb hby d1_39) rfl k) ?_
        refine fin (v := some (.int (nar .byte ((((j2.toUInt64 >>> ((16 : Int32) &&& 0x3f).toInt64.toUInt64).toInt64).toInt32).toInt8.toInt32)))) X0 (fun h => by cases h) ?_ (by decide) (by decide) (fun fs hr => retN X0 hx (t := .byte) hret (by simp) (hb hby d1_40) hr)
        show Q1_3 Z i1 j2 h0 n0 (some (.int (nar .byte ((((j2.toUInt64 >>> ((16 : Int32) &&& 0x3f).toInt64.toUInt64).toInt64).toInt32).toInt8.toInt32)))) s₁.heap _
        rw [e0]
        exact ⟨((((j2.toUInt64 >>> ((16 : Int32) &&& 0x3f).toInt64.toUInt64).toInt64).toInt32).toInt8.toInt32), rfl, N0, rfl, (by simp only [if_neg hc11_2, if_neg hc20_3, if_pos hc29_4, if_true, if_false] <;> rfl)⟩
      · -- 29 False
        refine step (s₁.setTop (mkF m 41 #[.val (.int i1), .val (.long j2), .second, .val (.int (2 : Int32)), .val (.int (((i1.toUInt32 >>> ((4 : Int32) &&& 31).toUInt32).toInt32) &&& (3 : Int32)))] [])) (fun t k => XS.icmpYes X0.here hx rfl (pc0 := 29) (pc' := 41) rfl (hb hby d1_29) rfl (feq hc29_4).2 (by decide) (by decide) k) ?_
        refine step (s₁.setTop (mkF m 43 #[.val (.int i1), .val (.long j2), .second, .val (.int (2 : Int32)), .val (.int (((i1.toUInt32 >>> ((4 : Int32) &&& 31).toUInt32).toInt32) &&& (3 : Int32)))] [(.int (120 : Int32))])) (fun t k => XS.bipush X0.here hx rfl (hb hby d1_41) k) ?_
        refine fin (v := some (.int (nar .byte (120 : Int32)))) X0 (fun h => by cases h) ?_ (by decide) (by decide) (fun fs hr => retN X0 hx (t := .byte) hret (by simp) (hb hby d1_43) hr)
        show Q1_3 Z i1 j2 h0 n0 (some (.int (nar .byte (120 : Int32)))) s₁.heap _
        rw [e0]
        exact ⟨(120 : Int32), rfl, N0, rfl, (by simp only [if_neg hc11_2, if_neg hc20_3, if_neg hc29_4, if_true, if_false] <;> rfl)⟩
theorem ef_1_4 (m : MethodId) (x0 : Int32) (x1 : Int64) : entryFrame m #[(.int x0), (.long x1), (.int (3 : Int32))] 5 = mkF m 0 #[.val (.int x0), .val (.long x1), .second, .val (.int (3 : Int32)), .unset] [] := by first | (simp [entryFrame, mkF, argsToLocals, Value.category]; done) | rfl
def Q1_4 (Z : State) (i1 : Int32) (j2 : Int64) (h0 : Heap) (n0 : Nat) (v : Option Value) (h : Heap) (L : List Loc) : Prop := ∃ (z_1 : Int32), v = some (.int (nar .byte z_1)) ∧ Fr n0 L ∧ h = h0 ∧ z_1 = (if (((i1.toUInt32 >>> ((6 : Int32) &&& 31).toUInt32).toInt32) &&& (3 : Int32)) = (0 : Int32) then (10 : Int32) else (if (((i1.toUInt32 >>> ((6 : Int32) &&& 31).toUInt32).toInt32) &&& (3 : Int32)) = (1 : Int32) then (13 : Int32) else (if (((i1.toUInt32 >>> ((6 : Int32) &&& 31).toUInt32).toInt32) &&& (3 : Int32)) = (2 : Int32) then ((((j2.toUInt64 >>> ((24 : Int32) &&& 0x3f).toInt64.toUInt64).toInt64).toInt32).toInt8.toInt32) else (120 : Int32))))
set_option maxRecDepth 65536 in
set_option maxHeartbeats 40000000 in
theorem rm1_4 (l : Launch) (Z : State) (a0 : Array Value) (hw : ∀ d ∈ tables_1, d.before a0 Z = true) (ws : List Jvm.Cond) (i1 : Int32) (j2 : Int64) (h0 : Heap) (n0 : Nat) (Z0 : n0 ≤ h0.size)  :
    MetFree l (⟨"com/example/whisman/whisman/connector/RequestHeadParserHeadEndPinLaw", "pick", "(IJI)B"⟩ : MethodName) (head1 (Jvm.Cond.code (⟨"com/example/whisman/whisman/connector/RequestHeadParserHeadEndPinLaw", "pick", "(IJI)B"⟩ : MethodName) method_3_code 5 (some .byte) :: ws) ({ frames := 0, cells := 0, slots := 0, locals := 0 } : Room)) (fun a U => a = #[(.int i1), (.long j2), (.int (3 : Int32))] ∧ Z.Warmed39 U.vm ∧ U.heap = h0) (fun _ _ _ _ _ => True) (fun _ U o U' => ∃ v L, o = .returned v ∧ Q1_4 Z i1 j2 h0 n0 v U'.heap L ∧ FrameEnd U o U' L ({ frames := 0, cells := 0, slots := 0, locals := 0 } : Room).cells ({ frames := 0, cells := 0, slots := 0, locals := 0 } : Room).slots) := by
  refine own_body (plainFor_of_name pn_1) ?_
  intro p e s m below meth c s₁ G hx hby hml hZ hown hnm hret X0 e0 step fin
  replace hown : s.vm.findClass "com/example/whisman/whisman/connector/RequestHeadParserHeadEndPinLaw" = some m.cls := hown
  replace hnm : meth.name = "pick" := hnm
  replace hret : meth.sig.returnType = some .byte := hret
  replace hml : c.maxLocals = 5 := hml
  have N0 := Fr.nil n0
  refine step (s₁.setTop (mkF m 0 #[.val (.int i1), .val (.long j2), .second, .val (.int (3 : Int32)), .unset] [])) (fun t k => castTop (ef_1_4 m i1 j2) k) ?_
  refine step (s₁.setTop (mkF m 1 #[.val (.int i1), .val (.long j2), .second, .val (.int (3 : Int32)), .unset] [(.int i1)])) (fun t k => XS.iloadN X0.here hx rfl (hb hby d1_0) rfl k) ?_
  refine step (s₁.setTop (mkF m 2 #[.val (.int i1), .val (.long j2), .second, .val (.int (3 : Int32)), .unset] [(.int (2 : Int32)), (.int i1)])) (fun t k => XS.iconst X0.here hx rfl (hb hby d1_1) k) ?_
  refine step (s₁.setTop (mkF m 3 #[.val (.int i1), .val (.long j2), .second, .val (.int (3 : Int32)), .unset] [(.int (3 : Int32)), (.int (2 : Int32)), (.int i1)])) (fun t k => XS.iloadN X0.here hx rfl (hb hby d1_2) rfl k) ?_
  refine step (s₁.setTop (mkF m 4 #[.val (.int i1), .val (.long j2), .second, .val (.int (3 : Int32)), .unset] [(.int (6 : Int32)), (.int i1)])) (fun t k => XS.imul X0.here hx rfl (hb hby d1_3) rfl k) ?_
  refine step (s₁.setTop (mkF m 5 #[.val (.int i1), .val (.long j2), .second, .val (.int (3 : Int32)), .unset] [(.int ((i1.toUInt32 >>> ((6 : Int32) &&& 31).toUInt32).toInt32))])) (fun t k => XS.iushr X0.here hx rfl (hb hby d1_4) rfl k) ?_
  refine step (s₁.setTop (mkF m 6 #[.val (.int i1), .val (.long j2), .second, .val (.int (3 : Int32)), .unset] [(.int (3 : Int32)), (.int ((i1.toUInt32 >>> ((6 : Int32) &&& 31).toUInt32).toInt32))])) (fun t k => XS.iconst X0.here hx rfl (hb hby d1_5) k) ?_
  refine step (s₁.setTop (mkF m 7 #[.val (.int i1), .val (.long j2), .second, .val (.int (3 : Int32)), .unset] [(.int (((i1.toUInt32 >>> ((6 : Int32) &&& 31).toUInt32).toInt32) &&& (3 : Int32)))])) (fun t k => XS.iand X0.here hx rfl (hb hby d1_6) rfl k) ?_
  refine step (s₁.setTop (mkF m 9 #[.val (.int i1), .val (.long j2), .second, .val (.int (3 : Int32)), .val (.int (((i1.toUInt32 >>> ((6 : Int32) &&& 31).toUInt32).toInt32) &&& (3 : Int32)))] [])) (fun t k => XS.istore X0.here hx rfl (hb hby d1_7) rfl (l' := #[.val (.int i1), .val (.long j2), .second, .val (.int (3 : Int32)), .val (.int (((i1.toUInt32 >>> ((6 : Int32) &&& 31).toUInt32).toInt32) &&& (3 : Int32)))]) rfl k) ?_
  refine step (s₁.setTop (mkF m 11 #[.val (.int i1), .val (.long j2), .second, .val (.int (3 : Int32)), .val (.int (((i1.toUInt32 >>> ((6 : Int32) &&& 31).toUInt32).toInt32) &&& (3 : Int32)))] [(.int (((i1.toUInt32 >>> ((6 : Int32) &&& 31).toUInt32).toInt32) &&& (3 : Int32)))])) (fun t k => XS.iload X0.here hx rfl (hb hby d1_9) rfl k) ?_
  by_cases hc11_2 : (((i1.toUInt32 >>> ((6 : Int32) &&& 31).toUInt32).toInt32) &&& (3 : Int32)) = (0 : Int32)
  · -- 11 True
    refine step (s₁.setTop (mkF m 14 #[.val (.int i1), .val (.long j2), .second, .val (.int (3 : Int32)), .val (.int (((i1.toUInt32 >>> ((6 : Int32) &&& 31).toUInt32).toInt32) &&& (3 : Int32)))] [])) (fun t k => XS.ifNo X0.here hx rfl (hb hby d1_11) rfl ((if0 _ _).trans (teq hc11_2).2) k) ?_
    refine step (s₁.setTop (mkF m 16 #[.val (.int i1), .val (.long j2), .second, .val (.int (3 : Int32)), .val (.int (((i1.toUInt32 >>> ((6 : Int32) &&& 31).toUInt32).toInt32) &&& (3 : Int32)))] [(.int (10 : Int32))])) (fun t k => XS.bipush X0.here hx rfl (hb hby d1_14) k) ?_
    refine fin (v := some (.int (nar .byte (10 : Int32)))) X0 (fun h => by cases h) ?_ (by decide) (by decide) (fun fs hr => retN X0 hx (t := .byte) hret (by simp) (hb hby d1_16) hr)
    show Q1_4 Z i1 j2 h0 n0 (some (.int (nar .byte (10 : Int32)))) s₁.heap _
    rw [e0]
    exact ⟨(10 : Int32), rfl, N0, rfl, (by simp only [if_pos hc11_2, if_true, if_false] <;> rfl)⟩
  · -- 11 False
    refine step (s₁.setTop (mkF m 17 #[.val (.int i1), .val (.long j2), .second, .val (.int (3 : Int32)), .val (.int (((i1.toUInt32 >>> ((6 : Int32) &&& 31).toUInt32).toInt32) &&& (3 : Int32)))] [])) (fun t k => XS.ifYes X0.here hx rfl (pc0 := 11) (pc' := 17) rfl (hb hby d1_11) rfl ((if0 _ _).trans (feq hc11_2).2) (by decide) (by decide) k) ?_
    refine step (s₁.setTop (mkF m 19 #[.val (.int i1), .val (.long j2), .second, .val (.int (3 : Int32)), .val (.int (((i1.toUInt32 >>> ((6 : Int32) &&& 31).toUInt32).toInt32) &&& (3 : Int32)))] [(.int (((i1.toUInt32 >>> ((6 : Int32) &&& 31).toUInt32).toInt32) &&& (3 : Int32)))])) (fun t k => XS.iload X0.here hx rfl (hb hby d1_17) rfl k) ?_
    refine step (s₁.setTop (mkF m 20 #[.val (.int i1), .val (.long j2), .second, .val (.int (3 : Int32)), .val (.int (((i1.toUInt32 >>> ((6 : Int32) &&& 31).toUInt32).toInt32) &&& (3 : Int32)))] [(.int (1 : Int32)), (.int (((i1.toUInt32 >>> ((6 : Int32) &&& 31).toUInt32).toInt32) &&& (3 : Int32)))])) (fun t k => XS.iconst X0.here hx rfl (hb hby d1_19) k) ?_
    by_cases hc20_3 : (((i1.toUInt32 >>> ((6 : Int32) &&& 31).toUInt32).toInt32) &&& (3 : Int32)) = (1 : Int32)
    · -- 20 True
      refine step (s₁.setTop (mkF m 23 #[.val (.int i1), .val (.long j2), .second, .val (.int (3 : Int32)), .val (.int (((i1.toUInt32 >>> ((6 : Int32) &&& 31).toUInt32).toInt32) &&& (3 : Int32)))] [])) (fun t k => XS.icmpNo X0.here hx rfl (hb hby d1_20) rfl (teq hc20_3).2 k) ?_
      refine step (s₁.setTop (mkF m 25 #[.val (.int i1), .val (.long j2), .second, .val (.int (3 : Int32)), .val (.int (((i1.toUInt32 >>> ((6 : Int32) &&& 31).toUInt32).toInt32) &&& (3 : Int32)))] [(.int (13 : Int32))])) (fun t k => XS.bipush X0.here hx rfl (hb hby d1_23) k) ?_
      refine fin (v := some (.int (nar .byte (13 : Int32)))) X0 (fun h => by cases h) ?_ (by decide) (by decide) (fun fs hr => retN X0 hx (t := .byte) hret (by simp) (hb hby d1_25) hr)
      show Q1_4 Z i1 j2 h0 n0 (some (.int (nar .byte (13 : Int32)))) s₁.heap _
      rw [e0]
      exact ⟨(13 : Int32), rfl, N0, rfl, (by simp only [if_neg hc11_2, if_pos hc20_3, if_true, if_false] <;> rfl)⟩
    · -- 20 False
      refine step (s₁.setTop (mkF m 26 #[.val (.int i1), .val (.long j2), .second, .val (.int (3 : Int32)), .val (.int (((i1.toUInt32 >>> ((6 : Int32) &&& 31).toUInt32).toInt32) &&& (3 : Int32)))] [])) (fun t k => XS.icmpYes X0.here hx rfl (pc0 := 20) (pc' := 26) rfl (hb hby d1_20) rfl (feq hc20_3).2 (by decide) (by decide) k) ?_
      refine step (s₁.setTop (mkF m 28 #[.val (.int i1), .val (.long j2), .second, .val (.int (3 : Int32)), .val (.int (((i1.toUInt32 >>> ((6 : Int32) &&& 31).toUInt32).toInt32) &&& (3 : Int32)))] [(.int (((i1.toUInt32 >>> ((6 : Int32) &&& 31).toUInt32).toInt32) &&& (3 : Int32)))])) (fun t k => XS.iload X0.here hx rfl (hb hby d1_26) rfl k) ?_
      refine step (s₁.setTop (mkF m 29 #[.val (.int i1), .val (.long j2), .second, .val (.int (3 : Int32)), .val (.int (((i1.toUInt32 >>> ((6 : Int32) &&& 31).toUInt32).toInt32) &&& (3 : Int32)))] [(.int (2 : Int32)), (.int (((i1.toUInt32 >>> ((6 : Int32) &&& 31).toUInt32).toInt32) &&& (3 : Int32)))])) (fun t k => XS.iconst X0.here hx rfl (hb hby d1_28) k) ?_
      by_cases hc29_4 : (((i1.toUInt32 >>> ((6 : Int32) &&& 31).toUInt32).toInt32) &&& (3 : Int32)) = (2 : Int32)
      · -- 29 True
        refine step (s₁.setTop (mkF m 32 #[.val (.int i1), .val (.long j2), .second, .val (.int (3 : Int32)), .val (.int (((i1.toUInt32 >>> ((6 : Int32) &&& 31).toUInt32).toInt32) &&& (3 : Int32)))] [])) (fun t k => XS.icmpNo X0.here hx rfl (hb hby d1_29) rfl (teq hc29_4).2 k) ?_
        refine step (s₁.setTop (mkF m 33 #[.val (.int i1), .val (.long j2), .second, .val (.int (3 : Int32)), .val (.int (((i1.toUInt32 >>> ((6 : Int32) &&& 31).toUInt32).toInt32) &&& (3 : Int32)))] [(.long j2)])) (fun t k => XS.lloadN X0.here hx rfl (hb hby d1_32) rfl k) ?_
        refine step (s₁.setTop (mkF m 35 #[.val (.int i1), .val (.long j2), .second, .val (.int (3 : Int32)), .val (.int (((i1.toUInt32 >>> ((6 : Int32) &&& 31).toUInt32).toInt32) &&& (3 : Int32)))] [(.int (8 : Int32)), (.long j2)])) (fun t k => XS.bipush X0.here hx rfl (hb hby d1_33) k) ?_
        refine step (s₁.setTop (mkF m 36 #[.val (.int i1), .val (.long j2), .second, .val (.int (3 : Int32)), .val (.int (((i1.toUInt32 >>> ((6 : Int32) &&& 31).toUInt32).toInt32) &&& (3 : Int32)))] [(.int (3 : Int32)), (.int (8 : Int32)), (.long j2)])) (fun t k => XS.iloadN X0.here hx rfl (hb hby d1_35) rfl k) ?_
        refine step (s₁.setTop (mkF m 37 #[.val (.int i1), .val (.long j2), .second, .val (.int (3 : Int32)), .val (.int (((i1.toUInt32 >>> ((6 : Int32) &&& 31).toUInt32).toInt32) &&& (3 : Int32)))] [(.int (24 : Int32)), (.long j2)])) (fun t k => XS.imul X0.here hx rfl (hb hby d1_36) rfl k) ?_
        refine step (s₁.setTop (mkF m 38 #[.val (.int i1), .val (.long j2), .second, .val (.int (3 : Int32)), .val (.int (((i1.toUInt32 >>> ((6 : Int32) &&& 31).toUInt32).toInt32) &&& (3 : Int32)))] [(.long ((j2.toUInt64 >>> ((24 : Int32) &&& 0x3f).toInt64.toUInt64).toInt64))])) (fun t k => XS.lushr X0.here hx rfl (hb hby d1_37) rfl k) ?_
        refine step (s₁.setTop (mkF m 39 #[.val (.int i1), .val (.long j2), .second, .val (.int (3 : Int32)), .val (.int (((i1.toUInt32 >>> ((6 : Int32) &&& 31).toUInt32).toInt32) &&& (3 : Int32)))] [(.int (((j2.toUInt64 >>> ((24 : Int32) &&& 0x3f).toInt64.toUInt64).toInt64).toInt32))])) (fun t k => XS.l2i X0.here hx rfl (hb hby d1_38) rfl k) ?_
        refine step (s₁.setTop (mkF m 40 #[.val (.int i1), .val (.long j2), .second, .val (.int (3 : Int32)), .val (.int (((i1.toUInt32 >>> ((6 : Int32) &&& 31).toUInt32).toInt32) &&& (3 : Int32)))] [(.int ((((j2.toUInt64 >>> ((24 : Int32) &&& 0x3f).toInt64.toUInt64).toInt64).toInt32).toInt8.toInt32))])) (fun t k => XS.i2b X0.here hx rfl (hb hby d1_39) rfl k) ?_
        refine fin (v := some (.int (nar .byte ((((j2.toUInt64 >>> ((24 : Int32) &&& 0x3f).toInt64.toUInt64).toInt64).toInt32).toInt8.toInt32)))) X0 (fun h => by cases h) ?_ (by decide) (by decide) (fun fs hr => retN X0 hx (t := .byte) hret (by simp) (hb hby d1_40) hr)
        show Q1_4 Z i1 j2 h0 n0 (some (.int (nar .byte ((((j2.toUInt64 >>> ((24 : Int32) &&& 0x3f).toInt64.toUInt64).toInt64).toInt32).toInt8.toInt32)))) s₁.heap _
        rw [e0]
        exact ⟨((((j2.toUInt64 >>> ((24 : Int32) &&& 0x3f).toInt64.toUInt64).toInt64).toInt32).toInt8.toInt32), rfl, N0, rfl, (by simp only [if_neg hc11_2, if_neg hc20_3, if_pos hc29_4, if_true, if_false] <;> rfl)⟩
      · -- 29 False
        refine step (s₁.setTop (mkF m 41 #[.val (.int i1), .val (.long j2), .second, .val (.int (3 : Int32)), .val (.int (((i1.toUInt32 >>> ((6 : Int32) &&& 31).toUInt32).toInt32) &&& (3 : Int32)))] [])) (fun t k => XS.icmpYes X0.here hx rfl (pc0 := 29) (pc' := 41) rfl (hb hby d1_29) rfl (feq hc29_4).2 (by decide) (by decide) k) ?_
        refine step (s₁.setTop (mkF m 43 #[.val (.int i1), .val (.long j2), .second, .val (.int (3 : Int32)), .val (.int (((i1.toUInt32 >>> ((6 : Int32) &&& 31).toUInt32).toInt32) &&& (3 : Int32)))] [(.int (120 : Int32))])) (fun t k => XS.bipush X0.here hx rfl (hb hby d1_41) k) ?_
        refine fin (v := some (.int (nar .byte (120 : Int32)))) X0 (fun h => by cases h) ?_ (by decide) (by decide) (fun fs hr => retN X0 hx (t := .byte) hret (by simp) (hb hby d1_43) hr)
        show Q1_4 Z i1 j2 h0 n0 (some (.int (nar .byte (120 : Int32)))) s₁.heap _
        rw [e0]
        exact ⟨(120 : Int32), rfl, N0, rfl, (by simp only [if_neg hc11_2, if_neg hc20_3, if_neg hc29_4, if_true, if_false] <;> rfl)⟩
theorem ef_1_5 (m : MethodId) (x0 : Int32) (x1 : Int64) : entryFrame m #[(.int x0), (.long x1), (.int (4 : Int32))] 5 = mkF m 0 #[.val (.int x0), .val (.long x1), .second, .val (.int (4 : Int32)), .unset] [] := by first | (simp [entryFrame, mkF, argsToLocals, Value.category]; done) | rfl
def Q1_5 (Z : State) (i1 : Int32) (j2 : Int64) (h0 : Heap) (n0 : Nat) (v : Option Value) (h : Heap) (L : List Loc) : Prop := ∃ (z_1 : Int32), v = some (.int (nar .byte z_1)) ∧ Fr n0 L ∧ h = h0 ∧ z_1 = (if (((i1.toUInt32 >>> ((8 : Int32) &&& 31).toUInt32).toInt32) &&& (3 : Int32)) = (0 : Int32) then (10 : Int32) else (if (((i1.toUInt32 >>> ((8 : Int32) &&& 31).toUInt32).toInt32) &&& (3 : Int32)) = (1 : Int32) then (13 : Int32) else (if (((i1.toUInt32 >>> ((8 : Int32) &&& 31).toUInt32).toInt32) &&& (3 : Int32)) = (2 : Int32) then ((((j2.toUInt64 >>> ((32 : Int32) &&& 0x3f).toInt64.toUInt64).toInt64).toInt32).toInt8.toInt32) else (120 : Int32))))
set_option maxRecDepth 65536 in
set_option maxHeartbeats 40000000 in
theorem rm1_5 (l : Launch) (Z : State) (a0 : Array Value) (hw : ∀ d ∈ tables_1, d.before a0 Z = true) (ws : List Jvm.Cond) (i1 : Int32) (j2 : Int64) (h0 : Heap) (n0 : Nat) (Z0 : n0 ≤ h0.size)  :
    MetFree l (⟨"com/example/whisman/whisman/connector/RequestHeadParserHeadEndPinLaw", "pick", "(IJI)B"⟩ : MethodName) (head1 (Jvm.Cond.code (⟨"com/example/whisman/whisman/connector/RequestHeadParserHeadEndPinLaw", "pick", "(IJI)B"⟩ : MethodName) method_3_code 5 (some .byte) :: ws) ({ frames := 0, cells := 0, slots := 0, locals := 0 } : Room)) (fun a U => a = #[(.int i1), (.long j2), (.int (4 : Int32))] ∧ Z.Warmed39 U.vm ∧ U.heap = h0) (fun _ _ _ _ _ => True) (fun _ U o U' => ∃ v L, o = .returned v ∧ Q1_5 Z i1 j2 h0 n0 v U'.heap L ∧ FrameEnd U o U' L ({ frames := 0, cells := 0, slots := 0, locals := 0 } : Room).cells ({ frames := 0, cells := 0, slots := 0, locals := 0 } : Room).slots) := by
  refine own_body (plainFor_of_name pn_1) ?_
  intro p e s m below meth c s₁ G hx hby hml hZ hown hnm hret X0 e0 step fin
  replace hown : s.vm.findClass "com/example/whisman/whisman/connector/RequestHeadParserHeadEndPinLaw" = some m.cls := hown
  replace hnm : meth.name = "pick" := hnm
  replace hret : meth.sig.returnType = some .byte := hret
  replace hml : c.maxLocals = 5 := hml
  have N0 := Fr.nil n0
  refine step (s₁.setTop (mkF m 0 #[.val (.int i1), .val (.long j2), .second, .val (.int (4 : Int32)), .unset] [])) (fun t k => castTop (ef_1_5 m i1 j2) k) ?_
  refine step (s₁.setTop (mkF m 1 #[.val (.int i1), .val (.long j2), .second, .val (.int (4 : Int32)), .unset] [(.int i1)])) (fun t k => XS.iloadN X0.here hx rfl (hb hby d1_0) rfl k) ?_
  refine step (s₁.setTop (mkF m 2 #[.val (.int i1), .val (.long j2), .second, .val (.int (4 : Int32)), .unset] [(.int (2 : Int32)), (.int i1)])) (fun t k => XS.iconst X0.here hx rfl (hb hby d1_1) k) ?_
  refine step (s₁.setTop (mkF m 3 #[.val (.int i1), .val (.long j2), .second, .val (.int (4 : Int32)), .unset] [(.int (4 : Int32)), (.int (2 : Int32)), (.int i1)])) (fun t k => XS.iloadN X0.here hx rfl (hb hby d1_2) rfl k) ?_
  refine step (s₁.setTop (mkF m 4 #[.val (.int i1), .val (.long j2), .second, .val (.int (4 : Int32)), .unset] [(.int (8 : Int32)), (.int i1)])) (fun t k => XS.imul X0.here hx rfl (hb hby d1_3) rfl k) ?_
  refine step (s₁.setTop (mkF m 5 #[.val (.int i1), .val (.long j2), .second, .val (.int (4 : Int32)), .unset] [(.int ((i1.toUInt32 >>> ((8 : Int32) &&& 31).toUInt32).toInt32))])) (fun t k => XS.iushr X0.here hx rfl (hb hby d1_4) rfl k) ?_
  refine step (s₁.setTop (mkF m 6 #[.val (.int i1), .val (.long j2), .second, .val (.int (4 : Int32)), .unset] [(.int (3 : Int32)), (.int ((i1.toUInt32 >>> ((8 : Int32) &&& 31).toUInt32).toInt32))])) (fun t k => XS.iconst X0.here hx rfl (hb hby d1_5) k) ?_
  refine step (s₁.setTop (mkF m 7 #[.val (.int i1), .val (.long j2), .second, .val (.int (4 : Int32)), .unset] [(.int (((i1.toUInt32 >>> ((8 : Int32) &&& 31).toUInt32).toInt32) &&& (3 : Int32)))])) (fun t k => XS.iand X0.here hx rfl (hb hby d1_6) rfl k) ?_
  refine step (s₁.setTop (mkF m 9 #[.val (.int i1), .val (.long j2), .second, .val (.int (4 : Int32)), .val (.int (((i1.toUInt32 >>> ((8 : Int32) &&& 31).toUInt32).toInt32) &&& (3 : Int32)))] [])) (fun t k => XS.istore X0.here hx rfl (hb hby d1_7) rfl (l' := #[.val (.int i1), .val (.long j2), .second, .val (.int (4 : Int32)), .val (.int (((i1.toUInt32 >>> ((8 : Int32) &&& 31).toUInt32).toInt32) &&& (3 : Int32)))]) rfl k) ?_
  refine step (s₁.setTop (mkF m 11 #[.val (.int i1), .val (.long j2), .second, .val (.int (4 : Int32)), .val (.int (((i1.toUInt32 >>> ((8 : Int32) &&& 31).toUInt32).toInt32) &&& (3 : Int32)))] [(.int (((i1.toUInt32 >>> ((8 : Int32) &&& 31).toUInt32).toInt32) &&& (3 : Int32)))])) (fun t k => XS.iload X0.here hx rfl (hb hby d1_9) rfl k) ?_
  by_cases hc11_2 : (((i1.toUInt32 >>> ((8 : Int32) &&& 31).toUInt32).toInt32) &&& (3 : Int32)) = (0 : Int32)
  · -- 11 True
    refine step (s₁.setTop (mkF m 14 #[.val (.int i1), .val (.long j2), .second, .val (.int (4 : Int32)), .val (.int (((i1.toUInt32 >>> ((8 : Int32) &&& 31).toUInt32).toInt32) &&& (3 : Int32)))] [])) (fun t k => XS.ifNo X0.here hx rfl (hb hby d1_11) rfl ((if0 _ _).trans (teq hc11_2).2) k) ?_
    refine step (s₁.setTop (mkF m 16 #[.val (.int i1), .val (.long j2), .second, .val (.int (4 : Int32)), .val (.int (((i1.toUInt32 >>> ((8 : Int32) &&& 31).toUInt32).toInt32) &&& (3 : Int32)))] [(.int (10 : Int32))])) (fun t k => XS.bipush X0.here hx rfl (hb hby d1_14) k) ?_
    refine fin (v := some (.int (nar .byte (10 : Int32)))) X0 (fun h => by cases h) ?_ (by decide) (by decide) (fun fs hr => retN X0 hx (t := .byte) hret (by simp) (hb hby d1_16) hr)
    show Q1_5 Z i1 j2 h0 n0 (some (.int (nar .byte (10 : Int32)))) s₁.heap _
    rw [e0]
    exact ⟨(10 : Int32), rfl, N0, rfl, (by simp only [if_pos hc11_2, if_true, if_false] <;> rfl)⟩
  · -- 11 False
    refine step (s₁.setTop (mkF m 17 #[.val (.int i1), .val (.long j2), .second, .val (.int (4 : Int32)), .val (.int (((i1.toUInt32 >>> ((8 : Int32) &&& 31).toUInt32).toInt32) &&& (3 : Int32)))] [])) (fun t k => XS.ifYes X0.here hx rfl (pc0 := 11) (pc' := 17) rfl (hb hby d1_11) rfl ((if0 _ _).trans (feq hc11_2).2) (by decide) (by decide) k) ?_
    refine step (s₁.setTop (mkF m 19 #[.val (.int i1), .val (.long j2), .second, .val (.int (4 : Int32)), .val (.int (((i1.toUInt32 >>> ((8 : Int32) &&& 31).toUInt32).toInt32) &&& (3 : Int32)))] [(.int (((i1.toUInt32 >>> ((8 : Int32) &&& 31).toUInt32).toInt32) &&& (3 : Int32)))])) (fun t k => XS.iload X0.here hx rfl (hb hby d1_17) rfl k) ?_
    refine step (s₁.setTop (mkF m 20 #[.val (.int i1), .val (.long j2), .second, .val (.int (4 : Int32)), .val (.int (((i1.toUInt32 >>> ((8 : Int32) &&& 31).toUInt32).toInt32) &&& (3 : Int32)))] [(.int (1 : Int32)), (.int (((i1.toUInt32 >>> ((8 : Int32) &&& 31).toUInt32).toInt32) &&& (3 : Int32)))])) (fun t k => XS.iconst X0.here hx rfl (hb hby d1_19) k) ?_
    by_cases hc20_3 : (((i1.toUInt32 >>> ((8 : Int32) &&& 31).toUInt32).toInt32) &&& (3 : Int32)) = (1 : Int32)
    · -- 20 True
      refine step (s₁.setTop (mkF m 23 #[.val (.int i1), .val (.long j2), .second, .val (.int (4 : Int32)), .val (.int (((i1.toUInt32 >>> ((8 : Int32) &&& 31).toUInt32).toInt32) &&& (3 : Int32)))] [])) (fun t k => XS.icmpNo X0.here hx rfl (hb hby d1_20) rfl (teq hc20_3).2 k) ?_
      refine step (s₁.setTop (mkF m 25 #[.val (.int i1), .val (.long j2), .second, .val (.int (4 : Int32)), .val (.int (((i1.toUInt32 >>> ((8 : Int32) &&& 31).toUInt32).toInt32) &&& (3 : Int32)))] [(.int (13 : Int32))])) (fun t k => XS.bipush X0.here hx rfl (hb hby d1_23) k) ?_
      refine fin (v := some (.int (nar .byte (13 : Int32)))) X0 (fun h => by cases h) ?_ (by decide) (by decide) (fun fs hr => retN X0 hx (t := .byte) hret (by simp) (hb hby d1_25) hr)
      show Q1_5 Z i1 j2 h0 n0 (some (.int (nar .byte (13 : Int32)))) s₁.heap _
      rw [e0]
      exact ⟨(13 : Int32), rfl, N0, rfl, (by simp only [if_neg hc11_2, if_pos hc20_3, if_true, if_false] <;> rfl)⟩
    · -- 20 False
      refine step (s₁.setTop (mkF m 26 #[.val (.int i1), .val (.long j2), .second, .val (.int (4 : Int32)), .val (.int (((i1.toUInt32 >>> ((8 : Int32) &&& 31).toUInt32).toInt32) &&& (3 : Int32)))] [])) (fun t k => XS.icmpYes X0.here hx rfl (pc0 := 20) (pc' := 26) rfl (hb hby d1_20) rfl (feq hc20_3).2 (by decide) (by decide) k) ?_
      refine step (s₁.setTop (mkF m 28 #[.val (.int i1), .val (.long j2), .second, .val (.int (4 : Int32)), .val (.int (((i1.toUInt32 >>> ((8 : Int32) &&& 31).toUInt32).toInt32) &&& (3 : Int32)))] [(.int (((i1.toUInt32 >>> ((8 : Int32) &&& 31).toUInt32).toInt32) &&& (3 : Int32)))])) (fun t k => XS.iload X0.here hx rfl (hb hby d1_26) rfl k) ?_
      refine step (s₁.setTop (mkF m 29 #[.val (.int i1), .val (.long j2), .second, .val (.int (4 : Int32)), .val (.int (((i1.toUInt32 >>> ((8 : Int32) &&& 31).toUInt32).toInt32) &&& (3 : Int32)))] [(.int (2 : Int32)), (.int (((i1.toUInt32 >>> ((8 : Int32) &&& 31).toUInt32).toInt32) &&& (3 : Int32)))])) (fun t k => XS.iconst X0.here hx rfl (hb hby d1_28) k) ?_
      by_cases hc29_4 : (((i1.toUInt32 >>> ((8 : Int32) &&& 31).toUInt32).toInt32) &&& (3 : Int32)) = (2 : Int32)
      · -- 29 True
        refine step (s₁.setTop (mkF m 32 #[.val (.int i1), .val (.long j2), .second, .val (.int (4 : Int32)), .val (.int (((i1.toUInt32 >>> ((8 : Int32) &&& 31).toUInt32).toInt32) &&& (3 : Int32)))] [])) (fun t k => XS.icmpNo X0.here hx rfl (hb hby d1_29) rfl (teq hc29_4).2 k) ?_
        refine step (s₁.setTop (mkF m 33 #[.val (.int i1), .val (.long j2), .second, .val (.int (4 : Int32)), .val (.int (((i1.toUInt32 >>> ((8 : Int32) &&& 31).toUInt32).toInt32) &&& (3 : Int32)))] [(.long j2)])) (fun t k => XS.lloadN X0.here hx rfl (hb hby d1_32) rfl k) ?_
        refine step (s₁.setTop (mkF m 35 #[.val (.int i1), .val (.long j2), .second, .val (.int (4 : Int32)), .val (.int (((i1.toUInt32 >>> ((8 : Int32) &&& 31).toUInt32).toInt32) &&& (3 : Int32)))] [(.int (8 : Int32)), (.long j2)])) (fun t k => XS.bipush X0.here hx rfl (hb hby d1_33) k) ?_
        refine step (s₁.setTop (mkF m 36 #[.val (.int i1), .val (.long j2), .second, .val (.int (4 : Int32)), .val (.int (((i1.toUInt32 >>> ((8 : Int32) &&& 31).toUInt32).toInt32) &&& (3 : Int32)))] [(.int (4 : Int32)), (.int (8 : Int32)), (.long j2)])) (fun t k => XS.iloadN X0.here hx rfl (hb hby d1_35) rfl k) ?_
        refine step (s₁.setTop (mkF m 37 #[.val (.int i1), .val (.long j2), .second, .val (.int (4 : Int32)), .val (.int (((i1.toUInt32 >>> ((8 : Int32) &&& 31).toUInt32).toInt32) &&& (3 : Int32)))] [(.int (32 : Int32)), (.long j2)])) (fun t k => XS.imul X0.here hx rfl (hb hby d1_36) rfl k) ?_
        refine step (s₁.setTop (mkF m 38 #[.val (.int i1), .val (.long j2), .second, .val (.int (4 : Int32)), .val (.int (((i1.toUInt32 >>> ((8 : Int32) &&& 31).toUInt32).toInt32) &&& (3 : Int32)))] [(.long ((j2.toUInt64 >>> ((32 : Int32) &&& 0x3f).toInt64.toUInt64).toInt64))])) (fun t k => XS.lushr X0.here hx rfl (hb hby d1_37) rfl k) ?_
        refine step (s₁.setTop (mkF m 39 #[.val (.int i1), .val (.long j2), .second, .val (.int (4 : Int32)), .val (.int (((i1.toUInt32 >>> ((8 : Int32) &&& 31).toUInt32).toInt32) &&& (3 : Int32)))] [(.int (((j2.toUInt64 >>> ((32 : Int32) &&& 0x3f).toInt64.toUInt64).toInt64).toInt32))])) (fun t k => XS.l2i X0.here hx rfl (hb hby d1_38) rfl k) ?_
        refine step (s₁.setTop (mkF m 40 #[.val (.int i1), .val (.long j2), .second, .val (.int (4 : Int32)), .val (.int (((i1.toUInt32 >>> ((8 : Int32) &&& 31).toUInt32).toInt32) &&& (3 : Int32)))] [(.int ((((j2.toUInt64 >>> ((32 : Int32) &&& 0x3f).toInt64.toUInt64).toInt64).toInt32).toInt8.toInt32))])) (fun t k => XS.i2b X0.here hx rfl (hb hby d1_39) rfl k) ?_
        refine fin (v := some (.int (nar .byte ((((j2.toUInt64 >>> ((32 : Int32) &&& 0x3f).toInt64.toUInt64).toInt64).toInt32).toInt8.toInt32)))) X0 (fun h => by cases h) ?_ (by decide) (by decide) (fun fs hr => retN X0 hx (t := .byte) hret (by simp) (hb hby d1_40) hr)
        show Q1_5 Z i1 j2 h0 n0 (some (.int (nar .byte ((((j2.toUInt64 >>> ((32 : Int32) &&& 0x3f).toInt64.toUInt64).toInt64).toInt32).toInt8.toInt32)))) s₁.heap _
        rw [e0]
        exact ⟨((((j2.toUInt64 >>> ((32 : Int32) &&& 0x3f).toInt64.toUInt64).toInt64).toInt32).toInt8.toInt32), rfl, N0, rfl, (by simp only [if_neg hc11_2, if_neg hc20_3, if_pos hc29_4, if_true, if_false] <;> rfl)⟩
      · -- 29 False
        refine step (s₁.setTop (mkF m 41 #[.val (.int i1), .val (.long j2), .second, .val (.int (4 : Int32)), .val (.int (((i1.toUInt32 >>> ((8 : Int32) &&& 31).toUInt32).toInt32) &&& (3 : Int32)))] [])) (fun t k => XS.icmpYes X0.here hx rfl (pc0 := 29) (pc' := 41) rfl (hb hby d1_29) rfl (feq hc29_4).2 (by decide) (by decide) k) ?_
        refine step (s₁.setTop (mkF m 43 #[.val (.int i1), .val (.long j2), .second, .val (.int (4 : Int32)), .val (.int (((i1.toUInt32 >>> ((8 : Int32) &&& 31).toUInt32).toInt32) &&& (3 : Int32)))] [(.int (120 : Int32))])) (fun t k => XS.bipush X0.here hx rfl (hb hby d1_41) k) ?_
        refine fin (v := some (.int (nar .byte (120 : Int32)))) X0 (fun h => by cases h) ?_ (by decide) (by decide) (fun fs hr => retN X0 hx (t := .byte) hret (by simp) (hb hby d1_43) hr)
        show Q1_5 Z i1 j2 h0 n0 (some (.int (nar .byte (120 : Int32)))) s₁.heap _
        rw [e0]
        exact ⟨(120 : Int32), rfl, N0, rfl, (by simp only [if_neg hc11_2, if_neg hc20_3, if_neg hc29_4, if_true, if_false] <;> rfl)⟩
theorem ef_1_6 (m : MethodId) (x0 : Int32) (x1 : Int64) : entryFrame m #[(.int x0), (.long x1), (.int (5 : Int32))] 5 = mkF m 0 #[.val (.int x0), .val (.long x1), .second, .val (.int (5 : Int32)), .unset] [] := by first | (simp [entryFrame, mkF, argsToLocals, Value.category]; done) | rfl
def Q1_6 (Z : State) (i1 : Int32) (j2 : Int64) (h0 : Heap) (n0 : Nat) (v : Option Value) (h : Heap) (L : List Loc) : Prop := ∃ (z_1 : Int32), v = some (.int (nar .byte z_1)) ∧ Fr n0 L ∧ h = h0 ∧ z_1 = (if (((i1.toUInt32 >>> ((10 : Int32) &&& 31).toUInt32).toInt32) &&& (3 : Int32)) = (0 : Int32) then (10 : Int32) else (if (((i1.toUInt32 >>> ((10 : Int32) &&& 31).toUInt32).toInt32) &&& (3 : Int32)) = (1 : Int32) then (13 : Int32) else (if (((i1.toUInt32 >>> ((10 : Int32) &&& 31).toUInt32).toInt32) &&& (3 : Int32)) = (2 : Int32) then ((((j2.toUInt64 >>> ((40 : Int32) &&& 0x3f).toInt64.toUInt64).toInt64).toInt32).toInt8.toInt32) else (120 : Int32))))
set_option maxRecDepth 65536 in
set_option maxHeartbeats 40000000 in
theorem rm1_6 (l : Launch) (Z : State) (a0 : Array Value) (hw : ∀ d ∈ tables_1, d.before a0 Z = true) (ws : List Jvm.Cond) (i1 : Int32) (j2 : Int64) (h0 : Heap) (n0 : Nat) (Z0 : n0 ≤ h0.size)  :
    MetFree l (⟨"com/example/whisman/whisman/connector/RequestHeadParserHeadEndPinLaw", "pick", "(IJI)B"⟩ : MethodName) (head1 (Jvm.Cond.code (⟨"com/example/whisman/whisman/connector/RequestHeadParserHeadEndPinLaw", "pick", "(IJI)B"⟩ : MethodName) method_3_code 5 (some .byte) :: ws) ({ frames := 0, cells := 0, slots := 0, locals := 0 } : Room)) (fun a U => a = #[(.int i1), (.long j2), (.int (5 : Int32))] ∧ Z.Warmed39 U.vm ∧ U.heap = h0) (fun _ _ _ _ _ => True) (fun _ U o U' => ∃ v L, o = .returned v ∧ Q1_6 Z i1 j2 h0 n0 v U'.heap L ∧ FrameEnd U o U' L ({ frames := 0, cells := 0, slots := 0, locals := 0 } : Room).cells ({ frames := 0, cells := 0, slots := 0, locals := 0 } : Room).slots) := by
  refine own_body (plainFor_of_name pn_1) ?_
  intro p e s m below meth c s₁ G hx hby hml hZ hown hnm hret X0 e0 step fin
  replace hown : s.vm.findClass "com/example/whisman/whisman/connector/RequestHeadParserHeadEndPinLaw" = some m.cls := hown
  replace hnm : meth.name = "pick" := hnm
  replace hret : meth.sig.returnType = some .byte := hret
  replace hml : c.maxLocals = 5 := hml
  have N0 := Fr.nil n0
  refine step (s₁.setTop (mkF m 0 #[.val (.int i1), .val (.long j2), .second, .val (.int (5 : Int32)), .unset] [])) (fun t k => castTop (ef_1_6 m i1 j2) k) ?_
  refine step (s₁.setTop (mkF m 1 #[.val (.int i1), .val (.long j2), .second, .val (.int (5 : Int32)), .unset] [(.int i1)])) (fun t k => XS.iloadN X0.here hx rfl (hb hby d1_0) rfl k) ?_
  refine step (s₁.setTop (mkF m 2 #[.val (.int i1), .val (.long j2), .second, .val (.int (5 : Int32)), .unset] [(.int (2 : Int32)), (.int i1)])) (fun t k => XS.iconst X0.here hx rfl (hb hby d1_1) k) ?_
  refine step (s₁.setTop (mkF m 3 #[.val (.int i1), .val (.long j2), .second, .val (.int (5 : Int32)), .unset] [(.int (5 : Int32)), (.int (2 : Int32)), (.int i1)])) (fun t k => XS.iloadN X0.here hx rfl (hb hby d1_2) rfl k) ?_
  refine step (s₁.setTop (mkF m 4 #[.val (.int i1), .val (.long j2), .second, .val (.int (5 : Int32)), .unset] [(.int (10 : Int32)), (.int i1)])) (fun t k => XS.imul X0.here hx rfl (hb hby d1_3) rfl k) ?_
  refine step (s₁.setTop (mkF m 5 #[.val (.int i1), .val (.long j2), .second, .val (.int (5 : Int32)), .unset] [(.int ((i1.toUInt32 >>> ((10 : Int32) &&& 31).toUInt32).toInt32))])) (fun t k => XS.iushr X0.here hx rfl (hb hby d1_4) rfl k) ?_
  refine step (s₁.setTop (mkF m 6 #[.val (.int i1), .val (.long j2), .second, .val (.int (5 : Int32)), .unset] [(.int (3 : Int32)), (.int ((i1.toUInt32 >>> ((10 : Int32) &&& 31).toUInt32).toInt32))])) (fun t k => XS.iconst X0.here hx rfl (hb hby d1_5) k) ?_
  refine step (s₁.setTop (mkF m 7 #[.val (.int i1), .val (.long j2), .second, .val (.int (5 : Int32)), .unset] [(.int (((i1.toUInt32 >>> ((10 : Int32) &&& 31).toUInt32).toInt32) &&& (3 : Int32)))])) (fun t k => XS.iand X0.here hx rfl (hb hby d1_6) rfl k) ?_
  refine step (s₁.setTop (mkF m 9 #[.val (.int i1), .val (.long j2), .second, .val (.int (5 : Int32)), .val (.int (((i1.toUInt32 >>> ((10 : Int32) &&& 31).toUInt32).toInt32) &&& (3 : Int32)))] [])) (fun t k => XS.istore X0.here hx rfl (hb hby d1_7) rfl (l' := #[.val (.int i1), .val (.long j2), .second, .val (.int (5 : Int32)), .val (.int (((i1.toUInt32 >>> ((10 : Int32) &&& 31).toUInt32).toInt32) &&& (3 : Int32)))]) rfl k) ?_
  refine step (s₁.setTop (mkF m 11 #[.val (.int i1), .val (.long j2), .second, .val (.int (5 : Int32)), .val (.int (((i1.toUInt32 >>> ((10 : Int32) &&& 31).toUInt32).toInt32) &&& (3 : Int32)))] [(.int (((i1.toUInt32 >>> ((10 : Int32) &&& 31).toUInt32).toInt32) &&& (3 : Int32)))])) (fun t k => XS.iload X0.here hx rfl (hb hby d1_9) rfl k) ?_
  by_cases hc11_2 : (((i1.toUInt32 >>> ((10 : Int32) &&& 31).toUInt32).toInt32) &&& (3 : Int32)) = (0 : Int32)
  · -- 11 True
    refine step (s₁.setTop (mkF m 14 #[.val (.int i1), .val (.long j2), .second, .val (.int (5 : Int32)), .val (.int (((i1.toUInt32 >>> ((10 : Int32) &&& 31).toUInt32).toInt32) &&& (3 : Int32)))] [])) (fun t k => XS.ifNo X0.here hx rfl (hb hby d1_11) rfl ((if0 _ _).trans (teq hc11_2).2) k) ?_
    refine step (s₁.setTop (mkF m 16 #[.val (.int i1), .val (.long j2), .second, .val (.int (5 : Int32)), .val (.int (((i1.toUInt32 >>> ((10 : Int32) &&& 31).toUInt32).toInt32) &&& (3 : Int32)))] [(.int (10 : Int32))])) (fun t k => XS.bipush X0.here hx rfl (hb hby d1_14) k) ?_
    refine fin (v := some (.int (nar .byte (10 : Int32)))) X0 (fun h => by cases h) ?_ (by decide) (by decide) (fun fs hr => retN X0 hx (t := .byte) hret (by simp) (hb hby d1_16) hr)
    show Q1_6 Z i1 j2 h0 n0 (some (.int (nar .byte (10 : Int32)))) s₁.heap _
    rw [e0]
    exact ⟨(10 : Int32), rfl, N0, rfl, (by simp only [if_pos hc11_2, if_true, if_false] <;> rfl)⟩
  · -- 11 False
    refine step (s₁.setTop (mkF m 17 #[.val (.int i1), .val (.long j2), .second, .val (.int (5 : Int32)), .val (.int (((i1.toUInt32 >>> ((10 : Int32) &&& 31).toUInt32).toInt32) &&& (3 : Int32)))] [])) (fun t k => XS.ifYes X0.here hx rfl (pc0 := 11) (pc' := 17) rfl (hb hby d1_11) rfl ((if0 _ _).trans (feq hc11_2).2) (by decide) (by decide) k) ?_
    refine step (s₁.setTop (mkF m 19 #[.val (.int i1), .val (.long j2), .second, .val (.int (5 : Int32)), .val (.int (((i1.toUInt32 >>> ((10 : Int32) &&& 31).toUInt32).toInt32) &&& (3 : Int32)))] [(.int (((i1.toUInt32 >>> ((10 : Int32) &&& 31).toUInt32).toInt32) &&& (3 : Int32)))])) (fun t k => XS.iload X0.here hx rfl (hb hby d1_17) rfl k) ?_
    refine step (s₁.setTop (mkF m 20 #[.val (.int i1), .val (.long j2), .second, .val (.int (5 : Int32)), .val (.int (((i1.toUInt32 >>> ((10 : Int32) &&& 31).toUInt32).toInt32) &&& (3 : Int32)))] [(.int (1 : Int32)), (.int (((i1.toUInt32 >>> ((10 : Int32) &&& 31).toUInt32).toInt32) &&& (3 : Int32)))])) (fun t k => XS.iconst X0.here hx rfl (hb hby d1_19) k) ?_
    by_cases hc20_3 : (((i1.toUInt32 >>> ((10 : Int32) &&& 31).toUInt32).toInt32) &&& (3 : Int32)) = (1 : Int32)
    · -- 20 True
      refine step (s₁.setTop (mkF m 23 #[.val (.int i1), .val (.long j2), .second, .val (.int (5 : Int32)), .val (.int (((i1.toUInt32 >>> ((10 : Int32) &&& 31).toUInt32).toInt32) &&& (3 : Int32)))] [])) (fun t k => XS.icmpNo X0.here hx rfl (hb hby d1_20) rfl (teq hc20_3).2 k) ?_
      refine step (s₁.setTop (mkF m 25 #[.val (.int i1), .val (.long j2), .second, .val (.int (5 : Int32)), .val (.int (((i1.toUInt32 >>> ((10 : Int32) &&& 31).toUInt32).toInt32) &&& (3 : Int32)))] [(.int (13 : Int32))])) (fun t k => XS.bipush X0.here hx rfl (hb hby d1_23) k) ?_
      refine fin (v := some (.int (nar .byte (13 : Int32)))) X0 (fun h => by cases h) ?_ (by decide) (by decide) (fun fs hr => retN X0 hx (t := .byte) hret (by simp) (hb hby d1_25) hr)
      show Q1_6 Z i1 j2 h0 n0 (some (.int (nar .byte (13 : Int32)))) s₁.heap _
      rw [e0]
      exact ⟨(13 : Int32), rfl, N0, rfl, (by simp only [if_neg hc11_2, if_pos hc20_3, if_true, if_false] <;> rfl)⟩
    · -- 20 False
      refine step (s₁.setTop (mkF m 26 #[.val (.int i1), .val (.long j2), .second, .val (.int (5 : Int32)), .val (.int (((i1.toUInt32 >>> ((10 : Int32) &&& 31).toUInt32).toInt32) &&& (3 : Int32)))] [])) (fun t k => XS.icmpYes X0.here hx rfl (pc0 := 20) (pc' := 26) rfl (hb hby d1_20) rfl (feq hc20_3).2 (by decide) (by decide) k) ?_
      refine step (s₁.setTop (mkF m 28 #[.val (.int i1), .val (.long j2), .second, .val (.int (5 : Int32)), .val (.int (((i1.toUInt32 >>> ((10 : Int32) &&& 31).toUInt32).toInt32) &&& (3 : Int32)))] [(.int (((i1.toUInt32 >>> ((10 : Int32) &&& 31).toUInt32).toInt32) &&& (3 : Int32)))])) (fun t k => XS.iload X0.here hx rfl (hb hby d1_26) rfl k) ?_
      refine step (s₁.setTop (mkF m 29 #[.val (.int i1), .val (.long j2), .second, .val (.int (5 : Int32)), .val (.int (((i1.toUInt32 >>> ((10 : Int32) &&& 31).toUInt32).toInt32) &&& (3 : Int32)))] [(.int (2 : Int32)), (.int (((i1.toUInt32 >>> ((10 : Int32) &&& 31).toUInt32).toInt32) &&& (3 : Int32)))])) (fun t k => XS.iconst X0.here hx rfl (hb hby d1_28) k) ?_
      by_cases hc29_4 : (((i1.toUInt32 >>> ((10 : Int32) &&& 31).toUInt32).toInt32) &&& (3 : Int32)) = (2 : Int32)
      · -- 29 True
        refine step (s₁.setTop (mkF m 32 #[.val (.int i1), .val (.long j2), .second, .val (.int (5 : Int32)), .val (.int (((i1.toUInt32 >>> ((10 : Int32) &&& 31).toUInt32).toInt32) &&& (3 : Int32)))] [])) (fun t k => XS.icmpNo X0.here hx rfl (hb hby d1_29) rfl (teq hc29_4).2 k) ?_
        refine step (s₁.setTop (mkF m 33 #[.val (.int i1), .val (.long j2), .second, .val (.int (5 : Int32)), .val (.int (((i1.toUInt32 >>> ((10 : Int32) &&& 31).toUInt32).toInt32) &&& (3 : Int32)))] [(.long j2)])) (fun t k => XS.lloadN X0.here hx rfl (hb hby d1_32) rfl k) ?_
        refine step (s₁.setTop (mkF m 35 #[.val (.int i1), .val (.long j2), .second, .val (.int (5 : Int32)), .val (.int (((i1.toUInt32 >>> ((10 : Int32) &&& 31).toUInt32).toInt32) &&& (3 : Int32)))] [(.int (8 : Int32)), (.long j2)])) (fun t k => XS.bipush X0.here hx rfl (hb hby d1_33) k) ?_
        refine step (s₁.setTop (mkF m 36 #[.val (.int i1), .val (.long j2), .second, .val (.int (5 : Int32)), .val (.int (((i1.toUInt32 >>> ((10 : Int32) &&& 31).toUInt32).toInt32) &&& (3 : Int32)))] [(.int (5 : Int32)), (.int (8 : Int32)), (.long j2)])) (fun t k => XS.iloadN X0.here hx rfl (hb hby d1_35) rfl k) ?_
        refine step (s₁.setTop (mkF m 37 #[.val (.int i1), .val (.long j2), .second, .val (.int (5 : Int32)), .val (.int (((i1.toUInt32 >>> ((10 : Int32) &&& 31).toUInt32).toInt32) &&& (3 : Int32)))] [(.int (40 : Int32)), (.long j2)])) (fun t k => XS.imul X0.here hx rfl (hb hby d1_36) rfl k) ?_
        refine step (s₁.setTop (mkF m 38 #[.val (.int i1), .val (.long j2), .second, .val (.int (5 : Int32)), .val (.int (((i1.toUInt32 >>> ((10 : Int32) &&& 31).toUInt32).toInt32) &&& (3 : Int32)))] [(.long ((j2.toUInt64 >>> ((40 : Int32) &&& 0x3f).toInt64.toUInt64).toInt64))])) (fun t k => XS.lushr X0.here hx rfl (hb hby d1_37) rfl k) ?_
        refine step (s₁.setTop (mkF m 39 #[.val (.int i1), .val (.long j2), .second, .val (.int (5 : Int32)), .val (.int (((i1.toUInt32 >>> ((10 : Int32) &&& 31).toUInt32).toInt32) &&& (3 : Int32)))] [(.int (((j2.toUInt64 >>> ((40 : Int32) &&& 0x3f).toInt64.toUInt64).toInt64).toInt32))])) (fun t k => XS.l2i X0.here hx rfl (hb hby d1_38) rfl k) ?_
        refine step (s₁.setTop (mkF m 40 #[.val (.int i1), .val (.long j2), .second, .val (.int (5 : Int32)), .val (.int (((i1.toUInt32 >>> ((10 : Int32) &&& 31).toUInt32).toInt32) &&& (3 : Int32)))] [(.int ((((j2.toUInt64 >>> ((40 : Int32) &&& 0x3f).toInt64.toUInt64).toInt64).toInt32).toInt8.toInt32))])) (fun t k => XS.i2b X0.here hx rfl (hb hby d1_39) rfl k) ?_
        refine fin (v := some (.int (nar .byte ((((j2.toUInt64 >>> ((40 : Int32) &&& 0x3f).toInt64.toUInt64).toInt64).toInt32).toInt8.toInt32)))) X0 (fun h => by cases h) ?_ (by decide) (by decide) (fun fs hr => retN X0 hx (t := .byte) hret (by simp) (hb hby d1_40) hr)
        show Q1_6 Z i1 j2 h0 n0 (some (.int (nar .byte ((((j2.toUInt64 >>> ((40 : Int32) &&& 0x3f).toInt64.toUInt64).toInt64).toInt32).toInt8.toInt32)))) s₁.heap _
        rw [e0]
        exact ⟨((((j2.toUInt64 >>> ((40 : Int32) &&& 0x3f).toInt64.toUInt64).toInt64).toInt32).toInt8.toInt32), rfl, N0, rfl, (by simp only [if_neg hc11_2, if_neg hc20_3, if_pos hc29_4, if_true, if_false] <;> rfl)⟩
      · -- 29 False
        refine step (s₁.setTop (mkF m 41 #[.val (.int i1), .val (.long j2), .second, .val (.int (5 : Int32)), .val (.int (((i1.toUInt32 >>> ((10 : Int32) &&& 31).toUInt32).toInt32) &&& (3 : Int32)))] [])) (fun t k => XS.icmpYes X0.here hx rfl (pc0 := 29) (pc' := 41) rfl (hb hby d1_29) rfl (feq hc29_4).2 (by decide) (by decide) k) ?_
        refine step (s₁.setTop (mkF m 43 #[.val (.int i1), .val (.long j2), .second, .val (.int (5 : Int32)), .val (.int (((i1.toUInt32 >>> ((10 : Int32) &&& 31).toUInt32).toInt32) &&& (3 : Int32)))] [(.int (120 : Int32))])) (fun t k => XS.bipush X0.here hx rfl (hb hby d1_41) k) ?_
        refine fin (v := some (.int (nar .byte (120 : Int32)))) X0 (fun h => by cases h) ?_ (by decide) (by decide) (fun fs hr => retN X0 hx (t := .byte) hret (by simp) (hb hby d1_43) hr)
        show Q1_6 Z i1 j2 h0 n0 (some (.int (nar .byte (120 : Int32)))) s₁.heap _
        rw [e0]
        exact ⟨(120 : Int32), rfl, N0, rfl, (by simp only [if_neg hc11_2, if_neg hc20_3, if_neg hc29_4, if_true, if_false] <;> rfl)⟩
theorem d2_0 : decode method_4_code 0 = .ok (.iload_n 1, 1) := by decide +kernel
theorem d2_1 : decode method_4_code 1 = .ok (.iload_n 3, 1) := by decide +kernel
theorem d2_2 : decode method_4_code 2 = .ok (.if_icmp .le 5, 3) := by decide +kernel
theorem d2_5 : decode method_4_code 5 = .ok (.iconst 0, 1) := by decide +kernel
theorem d2_6 : decode method_4_code 6 = .ok (.ireturn, 1) := by decide +kernel
theorem d2_7 : decode method_4_code 7 = .ok (.iload_n 1, 1) := by decide +kernel
theorem d2_8 : decode method_4_code 8 = .ok (.iconst 2, 1) := by decide +kernel
theorem d2_9 : decode method_4_code 9 = .ok (.isub, 1) := by decide +kernel
theorem d2_10 : decode method_4_code 10 = .ok (.iload_n 2, 1) := by decide +kernel
theorem d2_11 : decode method_4_code 11 = .ok (.if_icmp .lt 27, 3) := by decide +kernel
theorem d2_14 : decode method_4_code 14 = .ok (.aload_n 0, 1) := by decide +kernel
theorem d2_15 : decode method_4_code 15 = .ok (.iload_n 1, 1) := by decide +kernel
theorem d2_16 : decode method_4_code 16 = .ok (.iconst 2, 1) := by decide +kernel
theorem d2_17 : decode method_4_code 17 = .ok (.isub, 1) := by decide +kernel
theorem d2_18 : decode method_4_code 18 = .ok (.baload, 1) := by decide +kernel
theorem d2_19 : decode method_4_code 19 = .ok (.bipush 10, 2) := by decide +kernel
theorem d2_21 : decode method_4_code 21 = .ok (.if_icmp .ne 17, 3) := by decide +kernel
theorem d2_24 : decode method_4_code 24 = .ok (.aload_n 0, 1) := by decide +kernel
theorem d2_25 : decode method_4_code 25 = .ok (.iload_n 1, 1) := by decide +kernel
theorem d2_26 : decode method_4_code 26 = .ok (.iconst 1, 1) := by decide +kernel
theorem d2_27 : decode method_4_code 27 = .ok (.isub, 1) := by decide +kernel
theorem d2_28 : decode method_4_code 28 = .ok (.baload, 1) := by decide +kernel
theorem d2_29 : decode method_4_code 29 = .ok (.bipush 10, 2) := by decide +kernel
theorem d2_31 : decode method_4_code 31 = .ok (.if_icmp .ne 7, 3) := by decide +kernel
theorem d2_34 : decode method_4_code 34 = .ok (.iconst 1, 1) := by decide +kernel
theorem d2_35 : decode method_4_code 35 = .ok (.goto 4, 3) := by decide +kernel
theorem d2_38 : decode method_4_code 38 = .ok (.iconst 0, 1) := by decide +kernel
theorem d2_39 : decode method_4_code 39 = .ok (.istore 4, 2) := by decide +kernel
theorem d2_41 : decode method_4_code 41 = .ok (.iload_n 1, 1) := by decide +kernel
theorem d2_42 : decode method_4_code 42 = .ok (.iconst 3, 1) := by decide +kernel
theorem d2_43 : decode method_4_code 43 = .ok (.isub, 1) := by decide +kernel
theorem d2_44 : decode method_4_code 44 = .ok (.iload_n 2, 1) := by decide +kernel
theorem d2_45 : decode method_4_code 45 = .ok (.if_icmp .lt 37, 3) := by decide +kernel
theorem d2_48 : decode method_4_code 48 = .ok (.aload_n 0, 1) := by decide +kernel
theorem d2_49 : decode method_4_code 49 = .ok (.iload_n 1, 1) := by decide +kernel
theorem d2_50 : decode method_4_code 50 = .ok (.iconst 3, 1) := by decide +kernel
theorem d2_51 : decode method_4_code 51 = .ok (.isub, 1) := by decide +kernel
theorem d2_52 : decode method_4_code 52 = .ok (.baload, 1) := by decide +kernel
theorem d2_53 : decode method_4_code 53 = .ok (.bipush 10, 2) := by decide +kernel
theorem d2_55 : decode method_4_code 55 = .ok (.if_icmp .ne 27, 3) := by decide +kernel
theorem d2_58 : decode method_4_code 58 = .ok (.aload_n 0, 1) := by decide +kernel
theorem d2_59 : decode method_4_code 59 = .ok (.iload_n 1, 1) := by decide +kernel
theorem d2_60 : decode method_4_code 60 = .ok (.iconst 2, 1) := by decide +kernel
theorem d2_61 : decode method_4_code 61 = .ok (.isub, 1) := by decide +kernel
theorem d2_62 : decode method_4_code 62 = .ok (.baload, 1) := by decide +kernel
theorem d2_63 : decode method_4_code 63 = .ok (.bipush 13, 2) := by decide +kernel
theorem d2_65 : decode method_4_code 65 = .ok (.if_icmp .ne 17, 3) := by decide +kernel
theorem d2_68 : decode method_4_code 68 = .ok (.aload_n 0, 1) := by decide +kernel
theorem d2_69 : decode method_4_code 69 = .ok (.iload_n 1, 1) := by decide +kernel
theorem d2_70 : decode method_4_code 70 = .ok (.iconst 1, 1) := by decide +kernel
theorem d2_71 : decode method_4_code 71 = .ok (.isub, 1) := by decide +kernel
theorem d2_72 : decode method_4_code 72 = .ok (.baload, 1) := by decide +kernel
theorem d2_73 : decode method_4_code 73 = .ok (.bipush 10, 2) := by decide +kernel
theorem d2_75 : decode method_4_code 75 = .ok (.if_icmp .ne 7, 3) := by decide +kernel
theorem d2_78 : decode method_4_code 78 = .ok (.iconst 1, 1) := by decide +kernel
theorem d2_79 : decode method_4_code 79 = .ok (.goto 4, 3) := by decide +kernel
theorem d2_82 : decode method_4_code 82 = .ok (.iconst 0, 1) := by decide +kernel
theorem d2_83 : decode method_4_code 83 = .ok (.istore 5, 2) := by decide +kernel
theorem d2_85 : decode method_4_code 85 = .ok (.iload 4, 2) := by decide +kernel
theorem d2_87 : decode method_4_code 87 = .ok (.ifCond .ne 8, 3) := by decide +kernel
theorem d2_90 : decode method_4_code 90 = .ok (.iload 5, 2) := by decide +kernel
theorem d2_92 : decode method_4_code 92 = .ok (.ifCond .eq 7, 3) := by decide +kernel
theorem d2_95 : decode method_4_code 95 = .ok (.iconst 1, 1) := by decide +kernel
theorem d2_96 : decode method_4_code 96 = .ok (.goto 4, 3) := by decide +kernel
theorem d2_99 : decode method_4_code 99 = .ok (.iconst 0, 1) := by decide +kernel
theorem d2_100 : decode method_4_code 100 = .ok (.ireturn, 1) := by decide +kernel
theorem ef_2_7 (m : MethodId) (x0 : Addr) (x2 : Int32) (x3 : Int32) : entryFrame m #[(.ref x0), (.int (2 : Int32)), (.int x2), (.int x3)] 6 = mkF m 0 #[.val (.ref x0), .val (.int (2 : Int32)), .val (.int x2), .val (.int x3), .unset, .unset] [] := by first | (simp [entryFrame, mkF, argsToLocals, Value.category]; done) | rfl
def Q2_7 (Z : State) (o1 : Addr) (i1 : Int32) (i2 : Int32) (kc3 : ClassId) (i4 : Int32) (i5 : Int32) (i6 : Int32) (i7 : Int32) (i8 : Int32) (i9 : Int32) (h0 : Heap) (n0 : Nat) (v : Option Value) (h : Heap) (L : List Loc) : Prop := ∃ (y1 : Int32), v = some (.int y1) ∧ Fr n0 L ∧ h = h0 ∧ y1 = (if i2 < (2 : Int32) then (0 : Int32) else (if (if (0 : Int32) < i1 then (0 : Int32) else (if i4 = (10 : Int32) then (if i5 = (10 : Int32) then (1 : Int32) else (0 : Int32)) else (0 : Int32))) = (0 : Int32) then (0 : Int32) else (1 : Int32)))
set_option maxRecDepth 65536 in
set_option maxHeartbeats 40000000 in
theorem rm2_7 (l : Launch) (Z : State) (a0 : Array Value) (hw : ∀ d ∈ tables_1, d.before a0 Z = true) (ws : List Jvm.Cond) (o1 : Addr) (i1 : Int32) (i2 : Int32) (kc3 : ClassId) (i4 : Int32) (i5 : Int32) (i6 : Int32) (i7 : Int32) (i8 : Int32) (i9 : Int32) (h0 : Heap) (n0 : Nat) (Z0 : n0 ≤ h0.size) (Pm0 : Arv Z h0 o1 kc3 .byte (6 : Int32) [(.int i4), (.int i5), (.int i6), (.int i7), (.int i8), (.int i9)] (.int (0 : Int32))) (gn_o1 : n0 ≤ o1) (hy2 : (-1 : Int32) < i1)  :
    MetFree l (⟨"com/example/whisman/whisman/connector/RequestHeadParserHeadEndPinLaw", "endsAt", "([BIII)Z"⟩ : MethodName) (head1 (Jvm.Cond.code (⟨"com/example/whisman/whisman/connector/RequestHeadParserHeadEndPinLaw", "endsAt", "([BIII)Z"⟩ : MethodName) method_4_code 6 (some .boolean) :: ws) ({ frames := 0, cells := 0, slots := 0, locals := 0 } : Room)) (fun a U => a = #[(.ref o1), (.int (2 : Int32)), (.int i1), (.int i2)] ∧ Z.Warmed39 U.vm ∧ U.heap = h0) (fun _ _ _ _ _ => True) (fun _ U o U' => ∃ v L, o = .returned v ∧ Q2_7 Z o1 i1 i2 kc3 i4 i5 i6 i7 i8 i9 h0 n0 v U'.heap L ∧ FrameEnd U o U' L ({ frames := 0, cells := 0, slots := 0, locals := 0 } : Room).cells ({ frames := 0, cells := 0, slots := 0, locals := 0 } : Room).slots) := by
  refine own_body (plainFor_of_name pn_1) ?_
  intro p e s m below meth c s₁ G hx hby hml hZ hown hnm hret X0 e0 step fin
  replace hown : s.vm.findClass "com/example/whisman/whisman/connector/RequestHeadParserHeadEndPinLaw" = some m.cls := hown
  replace hnm : meth.name = "endsAt" := hnm
  replace hret : meth.sig.returnType = some .boolean := hret
  replace hml : c.maxLocals = 6 := hml
  have N0 := Fr.nil n0
  refine step (s₁.setTop (mkF m 0 #[.val (.ref o1), .val (.int (2 : Int32)), .val (.int i1), .val (.int i2), .unset, .unset] [])) (fun t k => castTop (ef_2_7 m o1 i1 i2) k) ?_
  refine step (s₁.setTop (mkF m 1 #[.val (.ref o1), .val (.int (2 : Int32)), .val (.int i1), .val (.int i2), .unset, .unset] [(.int (2 : Int32))])) (fun t k => XS.iloadN X0.here hx rfl (hb hby d2_0) rfl k) ?_
  refine step (s₁.setTop (mkF m 2 #[.val (.ref o1), .val (.int (2 : Int32)), .val (.int i1), .val (.int i2), .unset, .unset] [(.int i2), (.int (2 : Int32))])) (fun t k => XS.iloadN X0.here hx rfl (hb hby d2_1) rfl k) ?_
  by_cases hc2_1 : i2 < (2 : Int32)
  · -- pc 2: i2 < (2 : Int32) True
    refine step (s₁.setTop (mkF m 5 #[.val (.ref o1), .val (.int (2 : Int32)), .val (.int i1), .val (.int i2), .unset, .unset] [])) (fun t k => XS.icmpNo X0.here hx rfl (hb hby d2_2) rfl (tlt hc2_1).2.2.2 k) ?_
    refine step (s₁.setTop (mkF m 6 #[.val (.ref o1), .val (.int (2 : Int32)), .val (.int i1), .val (.int i2), .unset, .unset] [(.int (0 : Int32))])) (fun t k => XS.iconst X0.here hx rfl (hb hby d2_5) k) ?_
    have K0q : Keep h0 h0 [] := Keep.refl _ _
    refine fin (v := some (.int (nar .boolean (0 : Int32)))) X0 (fun h => by cases h) ?_ (by decide) (by decide) (fun fs hr => retN X0 hx (t := .boolean) hret (by simp) (hb hby d2_6) hr)
    show Q2_7 Z o1 i1 i2 kc3 i4 i5 i6 i7 i8 i9 h0 n0 (some (.int (nar .boolean (0 : Int32)))) s₁.heap _
    rw [e0]
    exact ⟨_, rfl, N0, rfl, (by simp only [if_pos hc2_1, if_true, if_false] <;> rfl)⟩
  · -- pc 2: i2 < (2 : Int32) False
    refine step (s₁.setTop (mkF m 7 #[.val (.ref o1), .val (.int (2 : Int32)), .val (.int i1), .val (.int i2), .unset, .unset] [])) (fun t k => XS.icmpYes X0.here hx rfl (pc0 := 2) (pc' := 7) rfl (hb hby d2_2) rfl (flt hc2_1).2.2.2 (by decide) (by decide) k) ?_
    refine step (s₁.setTop (mkF m 8 #[.val (.ref o1), .val (.int (2 : Int32)), .val (.int i1), .val (.int i2), .unset, .unset] [(.int (2 : Int32))])) (fun t k => XS.iloadN X0.here hx rfl (hb hby d2_7) rfl k) ?_
    refine step (s₁.setTop (mkF m 9 #[.val (.ref o1), .val (.int (2 : Int32)), .val (.int i1), .val (.int i2), .unset, .unset] [(.int (2 : Int32)), (.int (2 : Int32))])) (fun t k => XS.iconst X0.here hx rfl (hb hby d2_8) k) ?_
    refine step (s₁.setTop (mkF m 10 #[.val (.ref o1), .val (.int (2 : Int32)), .val (.int i1), .val (.int i2), .unset, .unset] [(.int (0 : Int32))])) (fun t k => XS.isub X0.here hx rfl (hb hby d2_9) rfl k) ?_
    refine step (s₁.setTop (mkF m 11 #[.val (.ref o1), .val (.int (2 : Int32)), .val (.int i1), .val (.int i2), .unset, .unset] [(.int i1), (.int (0 : Int32))])) (fun t k => XS.iloadN X0.here hx rfl (hb hby d2_10) rfl k) ?_
    suffices J39_3 : ∀ (z39_2 : Int32), z39_2 = (if (0 : Int32) < i1 then (0 : Int32) else (if i4 = (10 : Int32) then (if i5 = (10 : Int32) then (1 : Int32) else (0 : Int32)) else (0 : Int32))) → G (s₁.setTop (mkF m 39 #[.val (.ref o1), .val (.int (2 : Int32)), .val (.int i1), .val (.int i2), .unset, .unset] [(.int z39_2)])) by
      by_cases hc11_4 : (0 : Int32) < i1
      · -- 11 True
        refine step (s₁.setTop (mkF m 38 #[.val (.ref o1), .val (.int (2 : Int32)), .val (.int i1), .val (.int i2), .unset, .unset] [])) (fun t k => XS.icmpYes X0.here hx rfl (pc0 := 11) (pc' := 38) rfl (hb hby d2_11) rfl (tlt hc11_4).1 (by decide) (by decide) k) ?_
        refine step (s₁.setTop (mkF m 39 #[.val (.ref o1), .val (.int (2 : Int32)), .val (.int i1), .val (.int i2), .unset, .unset] [(.int (0 : Int32))])) (fun t k => XS.iconst X0.here hx rfl (hb hby d2_38) k) ?_
        exact J39_3 _ (by simp only [if_pos hc11_4, if_true, if_false] <;> rfl)
      · -- 11 False
        refine step (s₁.setTop (mkF m 14 #[.val (.ref o1), .val (.int (2 : Int32)), .val (.int i1), .val (.int i2), .unset, .unset] [])) (fun t k => XS.icmpNo X0.here hx rfl (hb hby d2_11) rfl (flt hc11_4).1 k) ?_
        refine step (s₁.setTop (mkF m 15 #[.val (.ref o1), .val (.int (2 : Int32)), .val (.int i1), .val (.int i2), .unset, .unset] [(.ref o1)])) (fun t k => XS.aloadN X0.here hx rfl (hb hby d2_14) rfl rfl k) ?_
        refine step (s₁.setTop (mkF m 16 #[.val (.ref o1), .val (.int (2 : Int32)), .val (.int i1), .val (.int i2), .unset, .unset] [(.int (2 : Int32)), (.ref o1)])) (fun t k => XS.iloadN X0.here hx rfl (hb hby d2_15) rfl k) ?_
        refine step (s₁.setTop (mkF m 17 #[.val (.ref o1), .val (.int (2 : Int32)), .val (.int i1), .val (.int i2), .unset, .unset] [(.int (2 : Int32)), (.int (2 : Int32)), (.ref o1)])) (fun t k => XS.iconst X0.here hx rfl (hb hby d2_16) k) ?_
        refine step (s₁.setTop (mkF m 18 #[.val (.ref o1), .val (.int (2 : Int32)), .val (.int i1), .val (.int i2), .unset, .unset] [(.int (0 : Int32)), (.ref o1)])) (fun t k => XS.isub X0.here hx rfl (hb hby d2_17) rfl k) ?_
        obtain ⟨cl5, Ar5, q5, S5, N5n, H5, G5⟩ := id Pm0
        have hin5 : ¬ ((0 : Int32) < 0 ∨ cl5.slots.size ≤ ((0 : Int32)).toNatClampNeg) := inb_of S5 ⟨by decide, by decide⟩
        have hat5 : cl5.slots[((0 : Int32)).toNatClampNeg]? = some (.int i4) := H5.at hin5 rfl
        refine step (s₁.setTop (mkF m 19 #[.val (.ref o1), .val (.int (2 : Int32)), .val (.int i1), .val (.int i2), .unset, .unset] [(.int i4)])) (fun t k => X0.baloadBytes hx (j := (0 : Int32)) (v := (.int i4)) (by rw [e0]; exact Ar5.1) (State.isArrayOf_alike hZ.alike Ar5.2.1) Ar5.2.2 hin5 hat5 (g := (mkF m 18 #[.val (.ref o1), .val (.int (2 : Int32)), .val (.int i1), .val (.int i2), .unset, .unset] [(.int (0 : Int32)), (.ref o1)])) rfl rfl (hb hby d2_18) t k) ?_
        refine step (s₁.setTop (mkF m 21 #[.val (.ref o1), .val (.int (2 : Int32)), .val (.int i1), .val (.int i2), .unset, .unset] [(.int (10 : Int32)), (.int i4)])) (fun t k => XS.bipush X0.here hx rfl (hb hby d2_19) k) ?_
        by_cases hc21_6 : i4 = (10 : Int32)
        · -- 21 True
          refine step (s₁.setTop (mkF m 24 #[.val (.ref o1), .val (.int (2 : Int32)), .val (.int i1), .val (.int i2), .unset, .unset] [])) (fun t k => XS.icmpNo X0.here hx rfl (hb hby d2_21) rfl (teq hc21_6).2 k) ?_
          refine step (s₁.setTop (mkF m 25 #[.val (.ref o1), .val (.int (2 : Int32)), .val (.int i1), .val (.int i2), .unset, .unset] [(.ref o1)])) (fun t k => XS.aloadN X0.here hx rfl (hb hby d2_24) rfl rfl k) ?_
          refine step (s₁.setTop (mkF m 26 #[.val (.ref o1), .val (.int (2 : Int32)), .val (.int i1), .val (.int i2), .unset, .unset] [(.int (2 : Int32)), (.ref o1)])) (fun t k => XS.iloadN X0.here hx rfl (hb hby d2_25) rfl k) ?_
          refine step (s₁.setTop (mkF m 27 #[.val (.ref o1), .val (.int (2 : Int32)), .val (.int i1), .val (.int i2), .unset, .unset] [(.int (1 : Int32)), (.int (2 : Int32)), (.ref o1)])) (fun t k => XS.iconst X0.here hx rfl (hb hby d2_26) k) ?_
          refine step (s₁.setTop (mkF m 28 #[.val (.ref o1), .val (.int (2 : Int32)), .val (.int i1), .val (.int i2), .unset, .unset] [(.int (1 : Int32)), (.ref o1)])) (fun t k => XS.isub X0.here hx rfl (hb hby d2_27) rfl k) ?_
          obtain ⟨cl7, Ar7, q7, S7, N7n, H7, G7⟩ := id Pm0
          have hin7 : ¬ ((1 : Int32) < 0 ∨ cl7.slots.size ≤ ((1 : Int32)).toNatClampNeg) := inb_of S7 ⟨by decide, by decide⟩
          have hat7 : cl7.slots[((1 : Int32)).toNatClampNeg]? = some (.int i5) := H7.at hin7 rfl
          refine step (s₁.setTop (mkF m 29 #[.val (.ref o1), .val (.int (2 : Int32)), .val (.int i1), .val (.int i2), .unset, .unset] [(.int i5)])) (fun t k => X0.baloadBytes hx (j := (1 : Int32)) (v := (.int i5)) (by rw [e0]; exact Ar7.1) (State.isArrayOf_alike hZ.alike Ar7.2.1) Ar7.2.2 hin7 hat7 (g := (mkF m 28 #[.val (.ref o1), .val (.int (2 : Int32)), .val (.int i1), .val (.int i2), .unset, .unset] [(.int (1 : Int32)), (.ref o1)])) rfl rfl (hb hby d2_28) t k) ?_
          refine step (s₁.setTop (mkF m 31 #[.val (.ref o1), .val (.int (2 : Int32)), .val (.int i1), .val (.int i2), .unset, .unset] [(.int (10 : Int32)), (.int i5)])) (fun t k => XS.bipush X0.here hx rfl (hb hby d2_29) k) ?_
          by_cases hc31_8 : i5 = (10 : Int32)
          · -- 31 True
            refine step (s₁.setTop (mkF m 34 #[.val (.ref o1), .val (.int (2 : Int32)), .val (.int i1), .val (.int i2), .unset, .unset] [])) (fun t k => XS.icmpNo X0.here hx rfl (hb hby d2_31) rfl (teq hc31_8).2 k) ?_
            refine step (s₁.setTop (mkF m 35 #[.val (.ref o1), .val (.int (2 : Int32)), .val (.int i1), .val (.int i2), .unset, .unset] [(.int (1 : Int32))])) (fun t k => XS.iconst X0.here hx rfl (hb hby d2_34) k) ?_
            refine step (s₁.setTop (mkF m 39 #[.val (.ref o1), .val (.int (2 : Int32)), .val (.int i1), .val (.int i2), .unset, .unset] [(.int (1 : Int32))])) (fun t k => XS.goto X0.here hx rfl (pc0 := 35) (pc' := 39) rfl (hb hby d2_35) (by decide) (by decide) k) ?_
            exact J39_3 _ (by simp only [if_neg hc11_4, if_pos hc21_6, if_pos hc31_8, if_true, if_false] <;> rfl)
          · -- 31 False
            refine step (s₁.setTop (mkF m 38 #[.val (.ref o1), .val (.int (2 : Int32)), .val (.int i1), .val (.int i2), .unset, .unset] [])) (fun t k => XS.icmpYes X0.here hx rfl (pc0 := 31) (pc' := 38) rfl (hb hby d2_31) rfl (feq hc31_8).2 (by decide) (by decide) k) ?_
            refine step (s₁.setTop (mkF m 39 #[.val (.ref o1), .val (.int (2 : Int32)), .val (.int i1), .val (.int i2), .unset, .unset] [(.int (0 : Int32))])) (fun t k => XS.iconst X0.here hx rfl (hb hby d2_38) k) ?_
            exact J39_3 _ (by simp only [if_neg hc11_4, if_pos hc21_6, if_neg hc31_8, if_true, if_false] <;> rfl)
        · -- 21 False
          refine step (s₁.setTop (mkF m 38 #[.val (.ref o1), .val (.int (2 : Int32)), .val (.int i1), .val (.int i2), .unset, .unset] [])) (fun t k => XS.icmpYes X0.here hx rfl (pc0 := 21) (pc' := 38) rfl (hb hby d2_21) rfl (feq hc21_6).2 (by decide) (by decide) k) ?_
          refine step (s₁.setTop (mkF m 39 #[.val (.ref o1), .val (.int (2 : Int32)), .val (.int i1), .val (.int i2), .unset, .unset] [(.int (0 : Int32))])) (fun t k => XS.iconst X0.here hx rfl (hb hby d2_38) k) ?_
          exact J39_3 _ (by simp only [if_neg hc11_4, if_neg hc21_6, if_true, if_false] <;> rfl)
    intro z39_2 hz39_2
    refine step (s₁.setTop (mkF m 41 #[.val (.ref o1), .val (.int (2 : Int32)), .val (.int i1), .val (.int i2), .val (.int z39_2), .unset] [])) (fun t k => XS.istore X0.here hx rfl (hb hby d2_39) rfl (l' := #[.val (.ref o1), .val (.int (2 : Int32)), .val (.int i1), .val (.int i2), .val (.int z39_2), .unset]) rfl k) ?_
    refine step (s₁.setTop (mkF m 42 #[.val (.ref o1), .val (.int (2 : Int32)), .val (.int i1), .val (.int i2), .val (.int z39_2), .unset] [(.int (2 : Int32))])) (fun t k => XS.iloadN X0.here hx rfl (hb hby d2_41) rfl k) ?_
    refine step (s₁.setTop (mkF m 43 #[.val (.ref o1), .val (.int (2 : Int32)), .val (.int i1), .val (.int i2), .val (.int z39_2), .unset] [(.int (3 : Int32)), (.int (2 : Int32))])) (fun t k => XS.iconst X0.here hx rfl (hb hby d2_42) k) ?_
    refine step (s₁.setTop (mkF m 44 #[.val (.ref o1), .val (.int (2 : Int32)), .val (.int i1), .val (.int i2), .val (.int z39_2), .unset] [(.int (-1 : Int32))])) (fun t k => XS.isub X0.here hx rfl (hb hby d2_43) rfl k) ?_
    refine step (s₁.setTop (mkF m 45 #[.val (.ref o1), .val (.int (2 : Int32)), .val (.int i1), .val (.int i2), .val (.int z39_2), .unset] [(.int i1), (.int (-1 : Int32))])) (fun t k => XS.iloadN X0.here hx rfl (hb hby d2_44) rfl k) ?_
    have hc45_9 : (-1 : Int32) < i1 := hy2
    refine step (s₁.setTop (mkF m 82 #[.val (.ref o1), .val (.int (2 : Int32)), .val (.int i1), .val (.int i2), .val (.int z39_2), .unset] [])) (fun t k => XS.icmpYes X0.here hx rfl (pc0 := 45) (pc' := 82) rfl (hb hby d2_45) rfl (tlt hc45_9).1 (by decide) (by decide) k) ?_
    refine step (s₁.setTop (mkF m 83 #[.val (.ref o1), .val (.int (2 : Int32)), .val (.int i1), .val (.int i2), .val (.int z39_2), .unset] [(.int (0 : Int32))])) (fun t k => XS.iconst X0.here hx rfl (hb hby d2_82) k) ?_
    refine step (s₁.setTop (mkF m 85 #[.val (.ref o1), .val (.int (2 : Int32)), .val (.int i1), .val (.int i2), .val (.int z39_2), .val (.int (0 : Int32))] [])) (fun t k => XS.istore X0.here hx rfl (hb hby d2_83) rfl (l' := #[.val (.ref o1), .val (.int (2 : Int32)), .val (.int i1), .val (.int i2), .val (.int z39_2), .val (.int (0 : Int32))]) rfl k) ?_
    refine step (s₁.setTop (mkF m 87 #[.val (.ref o1), .val (.int (2 : Int32)), .val (.int i1), .val (.int i2), .val (.int z39_2), .val (.int (0 : Int32))] [(.int z39_2)])) (fun t k => XS.iload X0.here hx rfl (hb hby d2_85) rfl k) ?_
    suffices J100_11 : ∀ (z100_10 : Int32), z100_10 = (if z39_2 = (0 : Int32) then (0 : Int32) else (1 : Int32)) → G (s₁.setTop (mkF m 100 #[.val (.ref o1), .val (.int (2 : Int32)), .val (.int i1), .val (.int i2), .val (.int z39_2), .val (.int (0 : Int32))] [(.int z100_10)])) by
      by_cases hc87_12 : z39_2 = (0 : Int32)
      · -- 87 True
        refine step (s₁.setTop (mkF m 90 #[.val (.ref o1), .val (.int (2 : Int32)), .val (.int i1), .val (.int i2), .val (.int z39_2), .val (.int (0 : Int32))] [])) (fun t k => XS.ifNo X0.here hx rfl (hb hby d2_87) rfl ((if0 _ _).trans (teq hc87_12).2) k) ?_
        refine step (s₁.setTop (mkF m 92 #[.val (.ref o1), .val (.int (2 : Int32)), .val (.int i1), .val (.int i2), .val (.int z39_2), .val (.int (0 : Int32))] [(.int (0 : Int32))])) (fun t k => XS.iload X0.here hx rfl (hb hby d2_90) rfl k) ?_
        refine step (s₁.setTop (mkF m 99 #[.val (.ref o1), .val (.int (2 : Int32)), .val (.int i1), .val (.int i2), .val (.int z39_2), .val (.int (0 : Int32))] [])) (fun t k => XS.ifYes X0.here hx rfl (pc0 := 92) (pc' := 99) rfl (hb hby d2_92) rfl ((if0 _ _).trans (teq (by decide : (0 : Int32) = (0 : Int32))).1) (by decide) (by decide) k) ?_
        refine step (s₁.setTop (mkF m 100 #[.val (.ref o1), .val (.int (2 : Int32)), .val (.int i1), .val (.int i2), .val (.int z39_2), .val (.int (0 : Int32))] [(.int (0 : Int32))])) (fun t k => XS.iconst X0.here hx rfl (hb hby d2_99) k) ?_
        exact J100_11 _ (by simp only [if_pos hc87_12, if_true, if_false] <;> rfl)
      · -- 87 False
        refine step (s₁.setTop (mkF m 95 #[.val (.ref o1), .val (.int (2 : Int32)), .val (.int i1), .val (.int i2), .val (.int z39_2), .val (.int (0 : Int32))] [])) (fun t k => XS.ifYes X0.here hx rfl (pc0 := 87) (pc' := 95) rfl (hb hby d2_87) rfl ((if0 _ _).trans (feq hc87_12).2) (by decide) (by decide) k) ?_
        refine step (s₁.setTop (mkF m 96 #[.val (.ref o1), .val (.int (2 : Int32)), .val (.int i1), .val (.int i2), .val (.int z39_2), .val (.int (0 : Int32))] [(.int (1 : Int32))])) (fun t k => XS.iconst X0.here hx rfl (hb hby d2_95) k) ?_
        refine step (s₁.setTop (mkF m 100 #[.val (.ref o1), .val (.int (2 : Int32)), .val (.int i1), .val (.int i2), .val (.int z39_2), .val (.int (0 : Int32))] [(.int (1 : Int32))])) (fun t k => XS.goto X0.here hx rfl (pc0 := 96) (pc' := 100) rfl (hb hby d2_96) (by decide) (by decide) k) ?_
        exact J100_11 _ (by simp only [if_neg hc87_12, if_true, if_false] <;> rfl)
    intro z100_10 hz100_10
    have K0q : Keep h0 h0 [] := Keep.refl _ _
    refine fin (v := some (.int (nar .boolean z100_10))) X0 (fun h => by cases h) ?_ (by decide) (by decide) (fun fs hr => retN X0 hx (t := .boolean) hret (by simp) (hb hby d2_100) hr)
    show Q2_7 Z o1 i1 i2 kc3 i4 i5 i6 i7 i8 i9 h0 n0 (some (.int (nar .boolean z100_10))) s₁.heap _
    rw [e0]
    exact ⟨_, (congrArg (fun z => some (Value.int z)) (by rw [hz100_10]; (repeat' split) <;> rfl : nar .boolean z100_10 = z100_10)), N0, rfl, (by subst hz100_10 hz39_2; simp only [if_neg hc2_1, if_true, if_false] <;> rfl)⟩
theorem ef_2_8 (m : MethodId) (x0 : Addr) (x2 : Int32) (x3 : Int32) : entryFrame m #[(.ref x0), (.int (3 : Int32)), (.int x2), (.int x3)] 6 = mkF m 0 #[.val (.ref x0), .val (.int (3 : Int32)), .val (.int x2), .val (.int x3), .unset, .unset] [] := by first | (simp [entryFrame, mkF, argsToLocals, Value.category]; done) | rfl
def Q2_8 (Z : State) (o1 : Addr) (i1 : Int32) (i2 : Int32) (kc3 : ClassId) (i4 : Int32) (i5 : Int32) (i6 : Int32) (i7 : Int32) (i8 : Int32) (i9 : Int32) (h0 : Heap) (n0 : Nat) (v : Option Value) (h : Heap) (L : List Loc) : Prop := ∃ (y1 : Int32), v = some (.int y1) ∧ Fr n0 L ∧ h = h0 ∧ y1 = (if i2 < (3 : Int32) then (0 : Int32) else (if (if (1 : Int32) < i1 then (0 : Int32) else (if i5 = (10 : Int32) then (if i6 = (10 : Int32) then (1 : Int32) else (0 : Int32)) else (0 : Int32))) = (0 : Int32) then (if (if (0 : Int32) < i1 then (0 : Int32) else (if i4 = (10 : Int32) then (if i5 = (13 : Int32) then (if i6 = (10 : Int32) then (1 : Int32) else (0 : Int32)) else (0 : Int32)) else (0 : Int32))) = (0 : Int32) then (0 : Int32) else (1 : Int32)) else (1 : Int32)))
set_option maxRecDepth 65536 in
set_option maxHeartbeats 40000000 in
theorem rm2_8 (l : Launch) (Z : State) (a0 : Array Value) (hw : ∀ d ∈ tables_1, d.before a0 Z = true) (ws : List Jvm.Cond) (o1 : Addr) (i1 : Int32) (i2 : Int32) (kc3 : ClassId) (i4 : Int32) (i5 : Int32) (i6 : Int32) (i7 : Int32) (i8 : Int32) (i9 : Int32) (h0 : Heap) (n0 : Nat) (Z0 : n0 ≤ h0.size) (Pm0 : Arv Z h0 o1 kc3 .byte (6 : Int32) [(.int i4), (.int i5), (.int i6), (.int i7), (.int i8), (.int i9)] (.int (0 : Int32))) (gn_o1 : n0 ≤ o1) (hy2 : (-1 : Int32) < i1)  :
    MetFree l (⟨"com/example/whisman/whisman/connector/RequestHeadParserHeadEndPinLaw", "endsAt", "([BIII)Z"⟩ : MethodName) (head1 (Jvm.Cond.code (⟨"com/example/whisman/whisman/connector/RequestHeadParserHeadEndPinLaw", "endsAt", "([BIII)Z"⟩ : MethodName) method_4_code 6 (some .boolean) :: ws) ({ frames := 0, cells := 0, slots := 0, locals := 0 } : Room)) (fun a U => a = #[(.ref o1), (.int (3 : Int32)), (.int i1), (.int i2)] ∧ Z.Warmed39 U.vm ∧ U.heap = h0) (fun _ _ _ _ _ => True) (fun _ U o U' => ∃ v L, o = .returned v ∧ Q2_8 Z o1 i1 i2 kc3 i4 i5 i6 i7 i8 i9 h0 n0 v U'.heap L ∧ FrameEnd U o U' L ({ frames := 0, cells := 0, slots := 0, locals := 0 } : Room).cells ({ frames := 0, cells := 0, slots := 0, locals := 0 } : Room).slots) := by
  refine own_body (plainFor_of_name pn_1) ?_
  intro p e s m below meth c s₁ G hx hby hml hZ hown hnm hret X0 e0 step fin
  replace hown : s.vm.findClass "com/example/whisman/whisman/connector/RequestHeadParserHeadEndPinLaw" = some m.cls := hown
  replace hnm : meth.name = "endsAt" := hnm
  replace hret : meth.sig.returnType = some .boolean := hret
  replace hml : c.maxLocals = 6 := hml
  have N0 := Fr.nil n0
  refine step (s₁.setTop (mkF m 0 #[.val (.ref o1), .val (.int (3 : Int32)), .val (.int i1), .val (.int i2), .unset, .unset] [])) (fun t k => castTop (ef_2_8 m o1 i1 i2) k) ?_
  refine step (s₁.setTop (mkF m 1 #[.val (.ref o1), .val (.int (3 : Int32)), .val (.int i1), .val (.int i2), .unset, .unset] [(.int (3 : Int32))])) (fun t k => XS.iloadN X0.here hx rfl (hb hby d2_0) rfl k) ?_
  refine step (s₁.setTop (mkF m 2 #[.val (.ref o1), .val (.int (3 : Int32)), .val (.int i1), .val (.int i2), .unset, .unset] [(.int i2), (.int (3 : Int32))])) (fun t k => XS.iloadN X0.here hx rfl (hb hby d2_1) rfl k) ?_
  by_cases hc2_1 : i2 < (3 : Int32)
  · -- pc 2: i2 < (3 : Int32) True
    refine step (s₁.setTop (mkF m 5 #[.val (.ref o1), .val (.int (3 : Int32)), .val (.int i1), .val (.int i2), .unset, .unset] [])) (fun t k => XS.icmpNo X0.here hx rfl (hb hby d2_2) rfl (tlt hc2_1).2.2.2 k) ?_
    refine step (s₁.setTop (mkF m 6 #[.val (.ref o1), .val (.int (3 : Int32)), .val (.int i1), .val (.int i2), .unset, .unset] [(.int (0 : Int32))])) (fun t k => XS.iconst X0.here hx rfl (hb hby d2_5) k) ?_
    have K0q : Keep h0 h0 [] := Keep.refl _ _
    refine fin (v := some (.int (nar .boolean (0 : Int32)))) X0 (fun h => by cases h) ?_ (by decide) (by decide) (fun fs hr => retN X0 hx (t := .boolean) hret (by simp) (hb hby d2_6) hr)
    show Q2_8 Z o1 i1 i2 kc3 i4 i5 i6 i7 i8 i9 h0 n0 (some (.int (nar .boolean (0 : Int32)))) s₁.heap _
    rw [e0]
    exact ⟨_, rfl, N0, rfl, (by simp only [if_pos hc2_1, if_true, if_false] <;> rfl)⟩
  · -- pc 2: i2 < (3 : Int32) False
    refine step (s₁.setTop (mkF m 7 #[.val (.ref o1), .val (.int (3 : Int32)), .val (.int i1), .val (.int i2), .unset, .unset] [])) (fun t k => XS.icmpYes X0.here hx rfl (pc0 := 2) (pc' := 7) rfl (hb hby d2_2) rfl (flt hc2_1).2.2.2 (by decide) (by decide) k) ?_
    refine step (s₁.setTop (mkF m 8 #[.val (.ref o1), .val (.int (3 : Int32)), .val (.int i1), .val (.int i2), .unset, .unset] [(.int (3 : Int32))])) (fun t k => XS.iloadN X0.here hx rfl (hb hby d2_7) rfl k) ?_
    refine step (s₁.setTop (mkF m 9 #[.val (.ref o1), .val (.int (3 : Int32)), .val (.int i1), .val (.int i2), .unset, .unset] [(.int (2 : Int32)), (.int (3 : Int32))])) (fun t k => XS.iconst X0.here hx rfl (hb hby d2_8) k) ?_
    refine step (s₁.setTop (mkF m 10 #[.val (.ref o1), .val (.int (3 : Int32)), .val (.int i1), .val (.int i2), .unset, .unset] [(.int (1 : Int32))])) (fun t k => XS.isub X0.here hx rfl (hb hby d2_9) rfl k) ?_
    refine step (s₁.setTop (mkF m 11 #[.val (.ref o1), .val (.int (3 : Int32)), .val (.int i1), .val (.int i2), .unset, .unset] [(.int i1), (.int (1 : Int32))])) (fun t k => XS.iloadN X0.here hx rfl (hb hby d2_10) rfl k) ?_
    suffices J39_3 : ∀ (z39_2 : Int32), z39_2 = (if (1 : Int32) < i1 then (0 : Int32) else (if i5 = (10 : Int32) then (if i6 = (10 : Int32) then (1 : Int32) else (0 : Int32)) else (0 : Int32))) → G (s₁.setTop (mkF m 39 #[.val (.ref o1), .val (.int (3 : Int32)), .val (.int i1), .val (.int i2), .unset, .unset] [(.int z39_2)])) by
      by_cases hc11_4 : (1 : Int32) < i1
      · -- 11 True
        refine step (s₁.setTop (mkF m 38 #[.val (.ref o1), .val (.int (3 : Int32)), .val (.int i1), .val (.int i2), .unset, .unset] [])) (fun t k => XS.icmpYes X0.here hx rfl (pc0 := 11) (pc' := 38) rfl (hb hby d2_11) rfl (tlt hc11_4).1 (by decide) (by decide) k) ?_
        refine step (s₁.setTop (mkF m 39 #[.val (.ref o1), .val (.int (3 : Int32)), .val (.int i1), .val (.int i2), .unset, .unset] [(.int (0 : Int32))])) (fun t k => XS.iconst X0.here hx rfl (hb hby d2_38) k) ?_
        exact J39_3 _ (by simp only [if_pos hc11_4, if_true, if_false] <;> rfl)
      · -- 11 False
        refine step (s₁.setTop (mkF m 14 #[.val (.ref o1), .val (.int (3 : Int32)), .val (.int i1), .val (.int i2), .unset, .unset] [])) (fun t k => XS.icmpNo X0.here hx rfl (hb hby d2_11) rfl (flt hc11_4).1 k) ?_
        refine step (s₁.setTop (mkF m 15 #[.val (.ref o1), .val (.int (3 : Int32)), .val (.int i1), .val (.int i2), .unset, .unset] [(.ref o1)])) (fun t k => XS.aloadN X0.here hx rfl (hb hby d2_14) rfl rfl k) ?_
        refine step (s₁.setTop (mkF m 16 #[.val (.ref o1), .val (.int (3 : Int32)), .val (.int i1), .val (.int i2), .unset, .unset] [(.int (3 : Int32)), (.ref o1)])) (fun t k => XS.iloadN X0.here hx rfl (hb hby d2_15) rfl k) ?_
        refine step (s₁.setTop (mkF m 17 #[.val (.ref o1), .val (.int (3 : Int32)), .val (.int i1), .val (.int i2), .unset, .unset] [(.int (2 : Int32)), (.int (3 : Int32)), (.ref o1)])) (fun t k => XS.iconst X0.here hx rfl (hb hby d2_16) k) ?_
        refine step (s₁.setTop (mkF m 18 #[.val (.ref o1), .val (.int (3 : Int32)), .val (.int i1), .val (.int i2), .unset, .unset] [(.int (1 : Int32)), (.ref o1)])) (fun t k => XS.isub X0.here hx rfl (hb hby d2_17) rfl k) ?_
        obtain ⟨cl5, Ar5, q5, S5, N5n, H5, G5⟩ := id Pm0
        have hin5 : ¬ ((1 : Int32) < 0 ∨ cl5.slots.size ≤ ((1 : Int32)).toNatClampNeg) := inb_of S5 ⟨by decide, by decide⟩
        have hat5 : cl5.slots[((1 : Int32)).toNatClampNeg]? = some (.int i5) := H5.at hin5 rfl
        refine step (s₁.setTop (mkF m 19 #[.val (.ref o1), .val (.int (3 : Int32)), .val (.int i1), .val (.int i2), .unset, .unset] [(.int i5)])) (fun t k => X0.baloadBytes hx (j := (1 : Int32)) (v := (.int i5)) (by rw [e0]; exact Ar5.1) (State.isArrayOf_alike hZ.alike Ar5.2.1) Ar5.2.2 hin5 hat5 (g := (mkF m 18 #[.val (.ref o1), .val (.int (3 : Int32)), .val (.int i1), .val (.int i2), .unset, .unset] [(.int (1 : Int32)), (.ref o1)])) rfl rfl (hb hby d2_18) t k) ?_
        refine step (s₁.setTop (mkF m 21 #[.val (.ref o1), .val (.int (3 : Int32)), .val (.int i1), .val (.int i2), .unset, .unset] [(.int (10 : Int32)), (.int i5)])) (fun t k => XS.bipush X0.here hx rfl (hb hby d2_19) k) ?_
        by_cases hc21_6 : i5 = (10 : Int32)
        · -- 21 True
          refine step (s₁.setTop (mkF m 24 #[.val (.ref o1), .val (.int (3 : Int32)), .val (.int i1), .val (.int i2), .unset, .unset] [])) (fun t k => XS.icmpNo X0.here hx rfl (hb hby d2_21) rfl (teq hc21_6).2 k) ?_
          refine step (s₁.setTop (mkF m 25 #[.val (.ref o1), .val (.int (3 : Int32)), .val (.int i1), .val (.int i2), .unset, .unset] [(.ref o1)])) (fun t k => XS.aloadN X0.here hx rfl (hb hby d2_24) rfl rfl k) ?_
          refine step (s₁.setTop (mkF m 26 #[.val (.ref o1), .val (.int (3 : Int32)), .val (.int i1), .val (.int i2), .unset, .unset] [(.int (3 : Int32)), (.ref o1)])) (fun t k => XS.iloadN X0.here hx rfl (hb hby d2_25) rfl k) ?_
          refine step (s₁.setTop (mkF m 27 #[.val (.ref o1), .val (.int (3 : Int32)), .val (.int i1), .val (.int i2), .unset, .unset] [(.int (1 : Int32)), (.int (3 : Int32)), (.ref o1)])) (fun t k => XS.iconst X0.here hx rfl (hb hby d2_26) k) ?_
          refine step (s₁.setTop (mkF m 28 #[.val (.ref o1), .val (.int (3 : Int32)), .val (.int i1), .val (.int i2), .unset, .unset] [(.int (2 : Int32)), (.ref o1)])) (fun t k => XS.isub X0.here hx rfl (hb hby d2_27) rfl k) ?_
          obtain ⟨cl7, Ar7, q7, S7, N7n, H7, G7⟩ := id Pm0
          have hin7 : ¬ ((2 : Int32) < 0 ∨ cl7.slots.size ≤ ((2 : Int32)).toNatClampNeg) := inb_of S7 ⟨by decide, by decide⟩
          have hat7 : cl7.slots[((2 : Int32)).toNatClampNeg]? = some (.int i6) := H7.at hin7 rfl
          refine step (s₁.setTop (mkF m 29 #[.val (.ref o1), .val (.int (3 : Int32)), .val (.int i1), .val (.int i2), .unset, .unset] [(.int i6)])) (fun t k => X0.baloadBytes hx (j := (2 : Int32)) (v := (.int i6)) (by rw [e0]; exact Ar7.1) (State.isArrayOf_alike hZ.alike Ar7.2.1) Ar7.2.2 hin7 hat7 (g := (mkF m 28 #[.val (.ref o1), .val (.int (3 : Int32)), .val (.int i1), .val (.int i2), .unset, .unset] [(.int (2 : Int32)), (.ref o1)])) rfl rfl (hb hby d2_28) t k) ?_
          refine step (s₁.setTop (mkF m 31 #[.val (.ref o1), .val (.int (3 : Int32)), .val (.int i1), .val (.int i2), .unset, .unset] [(.int (10 : Int32)), (.int i6)])) (fun t k => XS.bipush X0.here hx rfl (hb hby d2_29) k) ?_
          by_cases hc31_8 : i6 = (10 : Int32)
          · -- 31 True
            refine step (s₁.setTop (mkF m 34 #[.val (.ref o1), .val (.int (3 : Int32)), .val (.int i1), .val (.int i2), .unset, .unset] [])) (fun t k => XS.icmpNo X0.here hx rfl (hb hby d2_31) rfl (teq hc31_8).2 k) ?_
            refine step (s₁.setTop (mkF m 35 #[.val (.ref o1), .val (.int (3 : Int32)), .val (.int i1), .val (.int i2), .unset, .unset] [(.int (1 : Int32))])) (fun t k => XS.iconst X0.here hx rfl (hb hby d2_34) k) ?_
            refine step (s₁.setTop (mkF m 39 #[.val (.ref o1), .val (.int (3 : Int32)), .val (.int i1), .val (.int i2), .unset, .unset] [(.int (1 : Int32))])) (fun t k => XS.goto X0.here hx rfl (pc0 := 35) (pc' := 39) rfl (hb hby d2_35) (by decide) (by decide) k) ?_
            exact J39_3 _ (by simp only [if_neg hc11_4, if_pos hc21_6, if_pos hc31_8, if_true, if_false] <;> rfl)
          · -- 31 False
            refine step (s₁.setTop (mkF m 38 #[.val (.ref o1), .val (.int (3 : Int32)), .val (.int i1), .val (.int i2), .unset, .unset] [])) (fun t k => XS.icmpYes X0.here hx rfl (pc0 := 31) (pc' := 38) rfl (hb hby d2_31) rfl (feq hc31_8).2 (by decide) (by decide) k) ?_
            refine step (s₁.setTop (mkF m 39 #[.val (.ref o1), .val (.int (3 : Int32)), .val (.int i1), .val (.int i2), .unset, .unset] [(.int (0 : Int32))])) (fun t k => XS.iconst X0.here hx rfl (hb hby d2_38) k) ?_
            exact J39_3 _ (by simp only [if_neg hc11_4, if_pos hc21_6, if_neg hc31_8, if_true, if_false] <;> rfl)
        · -- 21 False
          refine step (s₁.setTop (mkF m 38 #[.val (.ref o1), .val (.int (3 : Int32)), .val (.int i1), .val (.int i2), .unset, .unset] [])) (fun t k => XS.icmpYes X0.here hx rfl (pc0 := 21) (pc' := 38) rfl (hb hby d2_21) rfl (feq hc21_6).2 (by decide) (by decide) k) ?_
          refine step (s₁.setTop (mkF m 39 #[.val (.ref o1), .val (.int (3 : Int32)), .val (.int i1), .val (.int i2), .unset, .unset] [(.int (0 : Int32))])) (fun t k => XS.iconst X0.here hx rfl (hb hby d2_38) k) ?_
          exact J39_3 _ (by simp only [if_neg hc11_4, if_neg hc21_6, if_true, if_false] <;> rfl)
    intro z39_2 hz39_2
    refine step (s₁.setTop (mkF m 41 #[.val (.ref o1), .val (.int (3 : Int32)), .val (.int i1), .val (.int i2), .val (.int z39_2), .unset] [])) (fun t k => XS.istore X0.here hx rfl (hb hby d2_39) rfl (l' := #[.val (.ref o1), .val (.int (3 : Int32)), .val (.int i1), .val (.int i2), .val (.int z39_2), .unset]) rfl k) ?_
    refine step (s₁.setTop (mkF m 42 #[.val (.ref o1), .val (.int (3 : Int32)), .val (.int i1), .val (.int i2), .val (.int z39_2), .unset] [(.int (3 : Int32))])) (fun t k => XS.iloadN X0.here hx rfl (hb hby d2_41) rfl k) ?_
    refine step (s₁.setTop (mkF m 43 #[.val (.ref o1), .val (.int (3 : Int32)), .val (.int i1), .val (.int i2), .val (.int z39_2), .unset] [(.int (3 : Int32)), (.int (3 : Int32))])) (fun t k => XS.iconst X0.here hx rfl (hb hby d2_42) k) ?_
    refine step (s₁.setTop (mkF m 44 #[.val (.ref o1), .val (.int (3 : Int32)), .val (.int i1), .val (.int i2), .val (.int z39_2), .unset] [(.int (0 : Int32))])) (fun t k => XS.isub X0.here hx rfl (hb hby d2_43) rfl k) ?_
    refine step (s₁.setTop (mkF m 45 #[.val (.ref o1), .val (.int (3 : Int32)), .val (.int i1), .val (.int i2), .val (.int z39_2), .unset] [(.int i1), (.int (0 : Int32))])) (fun t k => XS.iloadN X0.here hx rfl (hb hby d2_44) rfl k) ?_
    suffices J83_10 : ∀ (z83_9 : Int32), z83_9 = (if (0 : Int32) < i1 then (0 : Int32) else (if i4 = (10 : Int32) then (if i5 = (13 : Int32) then (if i6 = (10 : Int32) then (1 : Int32) else (0 : Int32)) else (0 : Int32)) else (0 : Int32))) → G (s₁.setTop (mkF m 83 #[.val (.ref o1), .val (.int (3 : Int32)), .val (.int i1), .val (.int i2), .val (.int z39_2), .unset] [(.int z83_9)])) by
      by_cases hc45_11 : (0 : Int32) < i1
      · -- 45 True
        refine step (s₁.setTop (mkF m 82 #[.val (.ref o1), .val (.int (3 : Int32)), .val (.int i1), .val (.int i2), .val (.int z39_2), .unset] [])) (fun t k => XS.icmpYes X0.here hx rfl (pc0 := 45) (pc' := 82) rfl (hb hby d2_45) rfl (tlt hc45_11).1 (by decide) (by decide) k) ?_
        refine step (s₁.setTop (mkF m 83 #[.val (.ref o1), .val (.int (3 : Int32)), .val (.int i1), .val (.int i2), .val (.int z39_2), .unset] [(.int (0 : Int32))])) (fun t k => XS.iconst X0.here hx rfl (hb hby d2_82) k) ?_
        exact J83_10 _ (by simp only [if_pos hc45_11, if_true, if_false] <;> rfl)
      · -- 45 False
        refine step (s₁.setTop (mkF m 48 #[.val (.ref o1), .val (.int (3 : Int32)), .val (.int i1), .val (.int i2), .val (.int z39_2), .unset] [])) (fun t k => XS.icmpNo X0.here hx rfl (hb hby d2_45) rfl (flt hc45_11).1 k) ?_
        refine step (s₁.setTop (mkF m 49 #[.val (.ref o1), .val (.int (3 : Int32)), .val (.int i1), .val (.int i2), .val (.int z39_2), .unset] [(.ref o1)])) (fun t k => XS.aloadN X0.here hx rfl (hb hby d2_48) rfl rfl k) ?_
        refine step (s₁.setTop (mkF m 50 #[.val (.ref o1), .val (.int (3 : Int32)), .val (.int i1), .val (.int i2), .val (.int z39_2), .unset] [(.int (3 : Int32)), (.ref o1)])) (fun t k => XS.iloadN X0.here hx rfl (hb hby d2_49) rfl k) ?_
        refine step (s₁.setTop (mkF m 51 #[.val (.ref o1), .val (.int (3 : Int32)), .val (.int i1), .val (.int i2), .val (.int z39_2), .unset] [(.int (3 : Int32)), (.int (3 : Int32)), (.ref o1)])) (fun t k => XS.iconst X0.here hx rfl (hb hby d2_50) k) ?_
        refine step (s₁.setTop (mkF m 52 #[.val (.ref o1), .val (.int (3 : Int32)), .val (.int i1), .val (.int i2), .val (.int z39_2), .unset] [(.int (0 : Int32)), (.ref o1)])) (fun t k => XS.isub X0.here hx rfl (hb hby d2_51) rfl k) ?_
        obtain ⟨cl12, Ar12, q12, S12, N12n, H12, G12⟩ := id Pm0
        have hin12 : ¬ ((0 : Int32) < 0 ∨ cl12.slots.size ≤ ((0 : Int32)).toNatClampNeg) := inb_of S12 ⟨by decide, by decide⟩
        have hat12 : cl12.slots[((0 : Int32)).toNatClampNeg]? = some (.int i4) := H12.at hin12 rfl
        refine step (s₁.setTop (mkF m 53 #[.val (.ref o1), .val (.int (3 : Int32)), .val (.int i1), .val (.int i2), .val (.int z39_2), .unset] [(.int i4)])) (fun t k => X0.baloadBytes hx (j := (0 : Int32)) (v := (.int i4)) (by rw [e0]; exact Ar12.1) (State.isArrayOf_alike hZ.alike Ar12.2.1) Ar12.2.2 hin12 hat12 (g := (mkF m 52 #[.val (.ref o1), .val (.int (3 : Int32)), .val (.int i1), .val (.int i2), .val (.int z39_2), .unset] [(.int (0 : Int32)), (.ref o1)])) rfl rfl (hb hby d2_52) t k) ?_
        refine step (s₁.setTop (mkF m 55 #[.val (.ref o1), .val (.int (3 : Int32)), .val (.int i1), .val (.int i2), .val (.int z39_2), .unset] [(.int (10 : Int32)), (.int i4)])) (fun t k => XS.bipush X0.here hx rfl (hb hby d2_53) k) ?_
        by_cases hc55_13 : i4 = (10 : Int32)
        · -- 55 True
          refine step (s₁.setTop (mkF m 58 #[.val (.ref o1), .val (.int (3 : Int32)), .val (.int i1), .val (.int i2), .val (.int z39_2), .unset] [])) (fun t k => XS.icmpNo X0.here hx rfl (hb hby d2_55) rfl (teq hc55_13).2 k) ?_
          refine step (s₁.setTop (mkF m 59 #[.val (.ref o1), .val (.int (3 : Int32)), .val (.int i1), .val (.int i2), .val (.int z39_2), .unset] [(.ref o1)])) (fun t k => XS.aloadN X0.here hx rfl (hb hby d2_58) rfl rfl k) ?_
          refine step (s₁.setTop (mkF m 60 #[.val (.ref o1), .val (.int (3 : Int32)), .val (.int i1), .val (.int i2), .val (.int z39_2), .unset] [(.int (3 : Int32)), (.ref o1)])) (fun t k => XS.iloadN X0.here hx rfl (hb hby d2_59) rfl k) ?_
          refine step (s₁.setTop (mkF m 61 #[.val (.ref o1), .val (.int (3 : Int32)), .val (.int i1), .val (.int i2), .val (.int z39_2), .unset] [(.int (2 : Int32)), (.int (3 : Int32)), (.ref o1)])) (fun t k => XS.iconst X0.here hx rfl (hb hby d2_60) k) ?_
          refine step (s₁.setTop (mkF m 62 #[.val (.ref o1), .val (.int (3 : Int32)), .val (.int i1), .val (.int i2), .val (.int z39_2), .unset] [(.int (1 : Int32)), (.ref o1)])) (fun t k => XS.isub X0.here hx rfl (hb hby d2_61) rfl k) ?_
          obtain ⟨cl14, Ar14, q14, S14, N14n, H14, G14⟩ := id Pm0
          have hin14 : ¬ ((1 : Int32) < 0 ∨ cl14.slots.size ≤ ((1 : Int32)).toNatClampNeg) := inb_of S14 ⟨by decide, by decide⟩
          have hat14 : cl14.slots[((1 : Int32)).toNatClampNeg]? = some (.int i5) := H14.at hin14 rfl
          refine step (s₁.setTop (mkF m 63 #[.val (.ref o1), .val (.int (3 : Int32)), .val (.int i1), .val (.int i2), .val (.int z39_2), .unset] [(.int i5)])) (fun t k => X0.baloadBytes hx (j := (1 : Int32)) (v := (.int i5)) (by rw [e0]; exact Ar14.1) (State.isArrayOf_alike hZ.alike Ar14.2.1) Ar14.2.2 hin14 hat14 (g := (mkF m 62 #[.val (.ref o1), .val (.int (3 : Int32)), .val (.int i1), .val (.int i2), .val (.int z39_2), .unset] [(.int (1 : Int32)), (.ref o1)])) rfl rfl (hb hby d2_62) t k) ?_
          refine step (s₁.setTop (mkF m 65 #[.val (.ref o1), .val (.int (3 : Int32)), .val (.int i1), .val (.int i2), .val (.int z39_2), .unset] [(.int (13 : Int32)), (.int i5)])) (fun t k => XS.bipush X0.here hx rfl (hb hby d2_63) k) ?_
          by_cases hc65_15 : i5 = (13 : Int32)
          · -- 65 True
            refine step (s₁.setTop (mkF m 68 #[.val (.ref o1), .val (.int (3 : Int32)), .val (.int i1), .val (.int i2), .val (.int z39_2), .unset] [])) (fun t k => XS.icmpNo X0.here hx rfl (hb hby d2_65) rfl (teq hc65_15).2 k) ?_
            refine step (s₁.setTop (mkF m 69 #[.val (.ref o1), .val (.int (3 : Int32)), .val (.int i1), .val (.int i2), .val (.int z39_2), .unset] [(.ref o1)])) (fun t k => XS.aloadN X0.here hx rfl (hb hby d2_68) rfl rfl k) ?_
            refine step (s₁.setTop (mkF m 70 #[.val (.ref o1), .val (.int (3 : Int32)), .val (.int i1), .val (.int i2), .val (.int z39_2), .unset] [(.int (3 : Int32)), (.ref o1)])) (fun t k => XS.iloadN X0.here hx rfl (hb hby d2_69) rfl k) ?_
            refine step (s₁.setTop (mkF m 71 #[.val (.ref o1), .val (.int (3 : Int32)), .val (.int i1), .val (.int i2), .val (.int z39_2), .unset] [(.int (1 : Int32)), (.int (3 : Int32)), (.ref o1)])) (fun t k => XS.iconst X0.here hx rfl (hb hby d2_70) k) ?_
            refine step (s₁.setTop (mkF m 72 #[.val (.ref o1), .val (.int (3 : Int32)), .val (.int i1), .val (.int i2), .val (.int z39_2), .unset] [(.int (2 : Int32)), (.ref o1)])) (fun t k => XS.isub X0.here hx rfl (hb hby d2_71) rfl k) ?_
            obtain ⟨cl16, Ar16, q16, S16, N16n, H16, G16⟩ := id Pm0
            have hin16 : ¬ ((2 : Int32) < 0 ∨ cl16.slots.size ≤ ((2 : Int32)).toNatClampNeg) := inb_of S16 ⟨by decide, by decide⟩
            have hat16 : cl16.slots[((2 : Int32)).toNatClampNeg]? = some (.int i6) := H16.at hin16 rfl
            refine step (s₁.setTop (mkF m 73 #[.val (.ref o1), .val (.int (3 : Int32)), .val (.int i1), .val (.int i2), .val (.int z39_2), .unset] [(.int i6)])) (fun t k => X0.baloadBytes hx (j := (2 : Int32)) (v := (.int i6)) (by rw [e0]; exact Ar16.1) (State.isArrayOf_alike hZ.alike Ar16.2.1) Ar16.2.2 hin16 hat16 (g := (mkF m 72 #[.val (.ref o1), .val (.int (3 : Int32)), .val (.int i1), .val (.int i2), .val (.int z39_2), .unset] [(.int (2 : Int32)), (.ref o1)])) rfl rfl (hb hby d2_72) t k) ?_
            refine step (s₁.setTop (mkF m 75 #[.val (.ref o1), .val (.int (3 : Int32)), .val (.int i1), .val (.int i2), .val (.int z39_2), .unset] [(.int (10 : Int32)), (.int i6)])) (fun t k => XS.bipush X0.here hx rfl (hb hby d2_73) k) ?_
            by_cases hc75_17 : i6 = (10 : Int32)
            · -- 75 True
              refine step (s₁.setTop (mkF m 78 #[.val (.ref o1), .val (.int (3 : Int32)), .val (.int i1), .val (.int i2), .val (.int z39_2), .unset] [])) (fun t k => XS.icmpNo X0.here hx rfl (hb hby d2_75) rfl (teq hc75_17).2 k) ?_
              refine step (s₁.setTop (mkF m 79 #[.val (.ref o1), .val (.int (3 : Int32)), .val (.int i1), .val (.int i2), .val (.int z39_2), .unset] [(.int (1 : Int32))])) (fun t k => XS.iconst X0.here hx rfl (hb hby d2_78) k) ?_
              refine step (s₁.setTop (mkF m 83 #[.val (.ref o1), .val (.int (3 : Int32)), .val (.int i1), .val (.int i2), .val (.int z39_2), .unset] [(.int (1 : Int32))])) (fun t k => XS.goto X0.here hx rfl (pc0 := 79) (pc' := 83) rfl (hb hby d2_79) (by decide) (by decide) k) ?_
              exact J83_10 _ (by simp only [if_neg hc45_11, if_pos hc55_13, if_pos hc65_15, if_pos hc75_17, if_true, if_false] <;> rfl)
            · -- 75 False
              refine step (s₁.setTop (mkF m 82 #[.val (.ref o1), .val (.int (3 : Int32)), .val (.int i1), .val (.int i2), .val (.int z39_2), .unset] [])) (fun t k => XS.icmpYes X0.here hx rfl (pc0 := 75) (pc' := 82) rfl (hb hby d2_75) rfl (feq hc75_17).2 (by decide) (by decide) k) ?_
              refine step (s₁.setTop (mkF m 83 #[.val (.ref o1), .val (.int (3 : Int32)), .val (.int i1), .val (.int i2), .val (.int z39_2), .unset] [(.int (0 : Int32))])) (fun t k => XS.iconst X0.here hx rfl (hb hby d2_82) k) ?_
              exact J83_10 _ (by simp only [if_neg hc45_11, if_pos hc55_13, if_pos hc65_15, if_neg hc75_17, if_true, if_false] <;> rfl)
          · -- 65 False
            refine step (s₁.setTop (mkF m 82 #[.val (.ref o1), .val (.int (3 : Int32)), .val (.int i1), .val (.int i2), .val (.int z39_2), .unset] [])) (fun t k => XS.icmpYes X0.here hx rfl (pc0 := 65) (pc' := 82) rfl (hb hby d2_65) rfl (feq hc65_15).2 (by decide) (by decide) k) ?_
            refine step (s₁.setTop (mkF m 83 #[.val (.ref o1), .val (.int (3 : Int32)), .val (.int i1), .val (.int i2), .val (.int z39_2), .unset] [(.int (0 : Int32))])) (fun t k => XS.iconst X0.here hx rfl (hb hby d2_82) k) ?_
            exact J83_10 _ (by simp only [if_neg hc45_11, if_pos hc55_13, if_neg hc65_15, if_true, if_false] <;> rfl)
        · -- 55 False
          refine step (s₁.setTop (mkF m 82 #[.val (.ref o1), .val (.int (3 : Int32)), .val (.int i1), .val (.int i2), .val (.int z39_2), .unset] [])) (fun t k => XS.icmpYes X0.here hx rfl (pc0 := 55) (pc' := 82) rfl (hb hby d2_55) rfl (feq hc55_13).2 (by decide) (by decide) k) ?_
          refine step (s₁.setTop (mkF m 83 #[.val (.ref o1), .val (.int (3 : Int32)), .val (.int i1), .val (.int i2), .val (.int z39_2), .unset] [(.int (0 : Int32))])) (fun t k => XS.iconst X0.here hx rfl (hb hby d2_82) k) ?_
          exact J83_10 _ (by simp only [if_neg hc45_11, if_neg hc55_13, if_true, if_false] <;> rfl)
    intro z83_9 hz83_9
    refine step (s₁.setTop (mkF m 85 #[.val (.ref o1), .val (.int (3 : Int32)), .val (.int i1), .val (.int i2), .val (.int z39_2), .val (.int z83_9)] [])) (fun t k => XS.istore X0.here hx rfl (hb hby d2_83) rfl (l' := #[.val (.ref o1), .val (.int (3 : Int32)), .val (.int i1), .val (.int i2), .val (.int z39_2), .val (.int z83_9)]) rfl k) ?_
    refine step (s₁.setTop (mkF m 87 #[.val (.ref o1), .val (.int (3 : Int32)), .val (.int i1), .val (.int i2), .val (.int z39_2), .val (.int z83_9)] [(.int z39_2)])) (fun t k => XS.iload X0.here hx rfl (hb hby d2_85) rfl k) ?_
    suffices J100_19 : ∀ (z100_18 : Int32), z100_18 = (if z39_2 = (0 : Int32) then (if z83_9 = (0 : Int32) then (0 : Int32) else (1 : Int32)) else (1 : Int32)) → G (s₁.setTop (mkF m 100 #[.val (.ref o1), .val (.int (3 : Int32)), .val (.int i1), .val (.int i2), .val (.int z39_2), .val (.int z83_9)] [(.int z100_18)])) by
      by_cases hc87_20 : z39_2 = (0 : Int32)
      · -- 87 True
        refine step (s₁.setTop (mkF m 90 #[.val (.ref o1), .val (.int (3 : Int32)), .val (.int i1), .val (.int i2), .val (.int z39_2), .val (.int z83_9)] [])) (fun t k => XS.ifNo X0.here hx rfl (hb hby d2_87) rfl ((if0 _ _).trans (teq hc87_20).2) k) ?_
        refine step (s₁.setTop (mkF m 92 #[.val (.ref o1), .val (.int (3 : Int32)), .val (.int i1), .val (.int i2), .val (.int z39_2), .val (.int z83_9)] [(.int z83_9)])) (fun t k => XS.iload X0.here hx rfl (hb hby d2_90) rfl k) ?_
        by_cases hc92_21 : z83_9 = (0 : Int32)
        · -- 92 True
          refine step (s₁.setTop (mkF m 99 #[.val (.ref o1), .val (.int (3 : Int32)), .val (.int i1), .val (.int i2), .val (.int z39_2), .val (.int z83_9)] [])) (fun t k => XS.ifYes X0.here hx rfl (pc0 := 92) (pc' := 99) rfl (hb hby d2_92) rfl ((if0 _ _).trans (teq hc92_21).1) (by decide) (by decide) k) ?_
          refine step (s₁.setTop (mkF m 100 #[.val (.ref o1), .val (.int (3 : Int32)), .val (.int i1), .val (.int i2), .val (.int z39_2), .val (.int z83_9)] [(.int (0 : Int32))])) (fun t k => XS.iconst X0.here hx rfl (hb hby d2_99) k) ?_
          exact J100_19 _ (by simp only [if_pos hc87_20, if_pos hc92_21, if_true, if_false] <;> rfl)
        · -- 92 False
          refine step (s₁.setTop (mkF m 95 #[.val (.ref o1), .val (.int (3 : Int32)), .val (.int i1), .val (.int i2), .val (.int z39_2), .val (.int z83_9)] [])) (fun t k => XS.ifNo X0.here hx rfl (hb hby d2_92) rfl ((if0 _ _).trans (feq hc92_21).1) k) ?_
          refine step (s₁.setTop (mkF m 96 #[.val (.ref o1), .val (.int (3 : Int32)), .val (.int i1), .val (.int i2), .val (.int z39_2), .val (.int z83_9)] [(.int (1 : Int32))])) (fun t k => XS.iconst X0.here hx rfl (hb hby d2_95) k) ?_
          refine step (s₁.setTop (mkF m 100 #[.val (.ref o1), .val (.int (3 : Int32)), .val (.int i1), .val (.int i2), .val (.int z39_2), .val (.int z83_9)] [(.int (1 : Int32))])) (fun t k => XS.goto X0.here hx rfl (pc0 := 96) (pc' := 100) rfl (hb hby d2_96) (by decide) (by decide) k) ?_
          exact J100_19 _ (by simp only [if_pos hc87_20, if_neg hc92_21, if_true, if_false] <;> rfl)
      · -- 87 False
        refine step (s₁.setTop (mkF m 95 #[.val (.ref o1), .val (.int (3 : Int32)), .val (.int i1), .val (.int i2), .val (.int z39_2), .val (.int z83_9)] [])) (fun t k => XS.ifYes X0.here hx rfl (pc0 := 87) (pc' := 95) rfl (hb hby d2_87) rfl ((if0 _ _).trans (feq hc87_20).2) (by decide) (by decide) k) ?_
        refine step (s₁.setTop (mkF m 96 #[.val (.ref o1), .val (.int (3 : Int32)), .val (.int i1), .val (.int i2), .val (.int z39_2), .val (.int z83_9)] [(.int (1 : Int32))])) (fun t k => XS.iconst X0.here hx rfl (hb hby d2_95) k) ?_
        refine step (s₁.setTop (mkF m 100 #[.val (.ref o1), .val (.int (3 : Int32)), .val (.int i1), .val (.int i2), .val (.int z39_2), .val (.int z83_9)] [(.int (1 : Int32))])) (fun t k => XS.goto X0.here hx rfl (pc0 := 96) (pc' := 100) rfl (hb hby d2_96) (by decide) (by decide) k) ?_
        exact J100_19 _ (by simp only [if_neg hc87_20, if_true, if_false] <;> rfl)
    intro z100_18 hz100_18
    have K0q : Keep h0 h0 [] := Keep.refl _ _
    refine fin (v := some (.int (nar .boolean z100_18))) X0 (fun h => by cases h) ?_ (by decide) (by decide) (fun fs hr => retN X0 hx (t := .boolean) hret (by simp) (hb hby d2_100) hr)
    show Q2_8 Z o1 i1 i2 kc3 i4 i5 i6 i7 i8 i9 h0 n0 (some (.int (nar .boolean z100_18))) s₁.heap _
    rw [e0]
    exact ⟨_, (congrArg (fun z => some (Value.int z)) (by rw [hz100_18]; (repeat' split) <;> rfl : nar .boolean z100_18 = z100_18)), N0, rfl, (by subst hz100_18 hz39_2 hz83_9; simp only [if_neg hc2_1, if_true, if_false] <;> rfl)⟩
theorem ef_2_9 (m : MethodId) (x0 : Addr) (x2 : Int32) (x3 : Int32) : entryFrame m #[(.ref x0), (.int (4 : Int32)), (.int x2), (.int x3)] 6 = mkF m 0 #[.val (.ref x0), .val (.int (4 : Int32)), .val (.int x2), .val (.int x3), .unset, .unset] [] := by first | (simp [entryFrame, mkF, argsToLocals, Value.category]; done) | rfl
def Q2_9 (Z : State) (o1 : Addr) (i1 : Int32) (i2 : Int32) (kc3 : ClassId) (i4 : Int32) (i5 : Int32) (i6 : Int32) (i7 : Int32) (i8 : Int32) (i9 : Int32) (h0 : Heap) (n0 : Nat) (v : Option Value) (h : Heap) (L : List Loc) : Prop := ∃ (y1 : Int32), v = some (.int y1) ∧ Fr n0 L ∧ h = h0 ∧ y1 = (if i2 < (4 : Int32) then (0 : Int32) else (if (if (2 : Int32) < i1 then (0 : Int32) else (if i6 = (10 : Int32) then (if i7 = (10 : Int32) then (1 : Int32) else (0 : Int32)) else (0 : Int32))) = (0 : Int32) then (if (if (1 : Int32) < i1 then (0 : Int32) else (if i5 = (10 : Int32) then (if i6 = (13 : Int32) then (if i7 = (10 : Int32) then (1 : Int32) else (0 : Int32)) else (0 : Int32)) else (0 : Int32))) = (0 : Int32) then (0 : Int32) else (1 : Int32)) else (1 : Int32)))
set_option maxRecDepth 65536 in
set_option maxHeartbeats 40000000 in
theorem rm2_9 (l : Launch) (Z : State) (a0 : Array Value) (hw : ∀ d ∈ tables_1, d.before a0 Z = true) (ws : List Jvm.Cond) (o1 : Addr) (i1 : Int32) (i2 : Int32) (kc3 : ClassId) (i4 : Int32) (i5 : Int32) (i6 : Int32) (i7 : Int32) (i8 : Int32) (i9 : Int32) (h0 : Heap) (n0 : Nat) (Z0 : n0 ≤ h0.size) (Pm0 : Arv Z h0 o1 kc3 .byte (6 : Int32) [(.int i4), (.int i5), (.int i6), (.int i7), (.int i8), (.int i9)] (.int (0 : Int32))) (gn_o1 : n0 ≤ o1) (hy2 : (-1 : Int32) < i1)  :
    MetFree l (⟨"com/example/whisman/whisman/connector/RequestHeadParserHeadEndPinLaw", "endsAt", "([BIII)Z"⟩ : MethodName) (head1 (Jvm.Cond.code (⟨"com/example/whisman/whisman/connector/RequestHeadParserHeadEndPinLaw", "endsAt", "([BIII)Z"⟩ : MethodName) method_4_code 6 (some .boolean) :: ws) ({ frames := 0, cells := 0, slots := 0, locals := 0 } : Room)) (fun a U => a = #[(.ref o1), (.int (4 : Int32)), (.int i1), (.int i2)] ∧ Z.Warmed39 U.vm ∧ U.heap = h0) (fun _ _ _ _ _ => True) (fun _ U o U' => ∃ v L, o = .returned v ∧ Q2_9 Z o1 i1 i2 kc3 i4 i5 i6 i7 i8 i9 h0 n0 v U'.heap L ∧ FrameEnd U o U' L ({ frames := 0, cells := 0, slots := 0, locals := 0 } : Room).cells ({ frames := 0, cells := 0, slots := 0, locals := 0 } : Room).slots) := by
  refine own_body (plainFor_of_name pn_1) ?_
  intro p e s m below meth c s₁ G hx hby hml hZ hown hnm hret X0 e0 step fin
  replace hown : s.vm.findClass "com/example/whisman/whisman/connector/RequestHeadParserHeadEndPinLaw" = some m.cls := hown
  replace hnm : meth.name = "endsAt" := hnm
  replace hret : meth.sig.returnType = some .boolean := hret
  replace hml : c.maxLocals = 6 := hml
  have N0 := Fr.nil n0
  refine step (s₁.setTop (mkF m 0 #[.val (.ref o1), .val (.int (4 : Int32)), .val (.int i1), .val (.int i2), .unset, .unset] [])) (fun t k => castTop (ef_2_9 m o1 i1 i2) k) ?_
  refine step (s₁.setTop (mkF m 1 #[.val (.ref o1), .val (.int (4 : Int32)), .val (.int i1), .val (.int i2), .unset, .unset] [(.int (4 : Int32))])) (fun t k => XS.iloadN X0.here hx rfl (hb hby d2_0) rfl k) ?_
  refine step (s₁.setTop (mkF m 2 #[.val (.ref o1), .val (.int (4 : Int32)), .val (.int i1), .val (.int i2), .unset, .unset] [(.int i2), (.int (4 : Int32))])) (fun t k => XS.iloadN X0.here hx rfl (hb hby d2_1) rfl k) ?_
  by_cases hc2_1 : i2 < (4 : Int32)
  · -- pc 2: i2 < (4 : Int32) True
    refine step (s₁.setTop (mkF m 5 #[.val (.ref o1), .val (.int (4 : Int32)), .val (.int i1), .val (.int i2), .unset, .unset] [])) (fun t k => XS.icmpNo X0.here hx rfl (hb hby d2_2) rfl (tlt hc2_1).2.2.2 k) ?_
    refine step (s₁.setTop (mkF m 6 #[.val (.ref o1), .val (.int (4 : Int32)), .val (.int i1), .val (.int i2), .unset, .unset] [(.int (0 : Int32))])) (fun t k => XS.iconst X0.here hx rfl (hb hby d2_5) k) ?_
    have K0q : Keep h0 h0 [] := Keep.refl _ _
    refine fin (v := some (.int (nar .boolean (0 : Int32)))) X0 (fun h => by cases h) ?_ (by decide) (by decide) (fun fs hr => retN X0 hx (t := .boolean) hret (by simp) (hb hby d2_6) hr)
    show Q2_9 Z o1 i1 i2 kc3 i4 i5 i6 i7 i8 i9 h0 n0 (some (.int (nar .boolean (0 : Int32)))) s₁.heap _
    rw [e0]
    exact ⟨_, rfl, N0, rfl, (by simp only [if_pos hc2_1, if_true, if_false] <;> rfl)⟩
  · -- pc 2: i2 < (4 : Int32) False
    refine step (s₁.setTop (mkF m 7 #[.val (.ref o1), .val (.int (4 : Int32)), .val (.int i1), .val (.int i2), .unset, .unset] [])) (fun t k => XS.icmpYes X0.here hx rfl (pc0 := 2) (pc' := 7) rfl (hb hby d2_2) rfl (flt hc2_1).2.2.2 (by decide) (by decide) k) ?_
    refine step (s₁.setTop (mkF m 8 #[.val (.ref o1), .val (.int (4 : Int32)), .val (.int i1), .val (.int i2), .unset, .unset] [(.int (4 : Int32))])) (fun t k => XS.iloadN X0.here hx rfl (hb hby d2_7) rfl k) ?_
    refine step (s₁.setTop (mkF m 9 #[.val (.ref o1), .val (.int (4 : Int32)), .val (.int i1), .val (.int i2), .unset, .unset] [(.int (2 : Int32)), (.int (4 : Int32))])) (fun t k => XS.iconst X0.here hx rfl (hb hby d2_8) k) ?_
    refine step (s₁.setTop (mkF m 10 #[.val (.ref o1), .val (.int (4 : Int32)), .val (.int i1), .val (.int i2), .unset, .unset] [(.int (2 : Int32))])) (fun t k => XS.isub X0.here hx rfl (hb hby d2_9) rfl k) ?_
    refine step (s₁.setTop (mkF m 11 #[.val (.ref o1), .val (.int (4 : Int32)), .val (.int i1), .val (.int i2), .unset, .unset] [(.int i1), (.int (2 : Int32))])) (fun t k => XS.iloadN X0.here hx rfl (hb hby d2_10) rfl k) ?_
    suffices J39_3 : ∀ (z39_2 : Int32), z39_2 = (if (2 : Int32) < i1 then (0 : Int32) else (if i6 = (10 : Int32) then (if i7 = (10 : Int32) then (1 : Int32) else (0 : Int32)) else (0 : Int32))) → G (s₁.setTop (mkF m 39 #[.val (.ref o1), .val (.int (4 : Int32)), .val (.int i1), .val (.int i2), .unset, .unset] [(.int z39_2)])) by
      by_cases hc11_4 : (2 : Int32) < i1
      · -- 11 True
        refine step (s₁.setTop (mkF m 38 #[.val (.ref o1), .val (.int (4 : Int32)), .val (.int i1), .val (.int i2), .unset, .unset] [])) (fun t k => XS.icmpYes X0.here hx rfl (pc0 := 11) (pc' := 38) rfl (hb hby d2_11) rfl (tlt hc11_4).1 (by decide) (by decide) k) ?_
        refine step (s₁.setTop (mkF m 39 #[.val (.ref o1), .val (.int (4 : Int32)), .val (.int i1), .val (.int i2), .unset, .unset] [(.int (0 : Int32))])) (fun t k => XS.iconst X0.here hx rfl (hb hby d2_38) k) ?_
        exact J39_3 _ (by simp only [if_pos hc11_4, if_true, if_false] <;> rfl)
      · -- 11 False
        refine step (s₁.setTop (mkF m 14 #[.val (.ref o1), .val (.int (4 : Int32)), .val (.int i1), .val (.int i2), .unset, .unset] [])) (fun t k => XS.icmpNo X0.here hx rfl (hb hby d2_11) rfl (flt hc11_4).1 k) ?_
        refine step (s₁.setTop (mkF m 15 #[.val (.ref o1), .val (.int (4 : Int32)), .val (.int i1), .val (.int i2), .unset, .unset] [(.ref o1)])) (fun t k => XS.aloadN X0.here hx rfl (hb hby d2_14) rfl rfl k) ?_
        refine step (s₁.setTop (mkF m 16 #[.val (.ref o1), .val (.int (4 : Int32)), .val (.int i1), .val (.int i2), .unset, .unset] [(.int (4 : Int32)), (.ref o1)])) (fun t k => XS.iloadN X0.here hx rfl (hb hby d2_15) rfl k) ?_
        refine step (s₁.setTop (mkF m 17 #[.val (.ref o1), .val (.int (4 : Int32)), .val (.int i1), .val (.int i2), .unset, .unset] [(.int (2 : Int32)), (.int (4 : Int32)), (.ref o1)])) (fun t k => XS.iconst X0.here hx rfl (hb hby d2_16) k) ?_
        refine step (s₁.setTop (mkF m 18 #[.val (.ref o1), .val (.int (4 : Int32)), .val (.int i1), .val (.int i2), .unset, .unset] [(.int (2 : Int32)), (.ref o1)])) (fun t k => XS.isub X0.here hx rfl (hb hby d2_17) rfl k) ?_
        obtain ⟨cl5, Ar5, q5, S5, N5n, H5, G5⟩ := id Pm0
        have hin5 : ¬ ((2 : Int32) < 0 ∨ cl5.slots.size ≤ ((2 : Int32)).toNatClampNeg) := inb_of S5 ⟨by decide, by decide⟩
        have hat5 : cl5.slots[((2 : Int32)).toNatClampNeg]? = some (.int i6) := H5.at hin5 rfl
        refine step (s₁.setTop (mkF m 19 #[.val (.ref o1), .val (.int (4 : Int32)), .val (.int i1), .val (.int i2), .unset, .unset] [(.int i6)])) (fun t k => X0.baloadBytes hx (j := (2 : Int32)) (v := (.int i6)) (by rw [e0]; exact Ar5.1) (State.isArrayOf_alike hZ.alike Ar5.2.1) Ar5.2.2 hin5 hat5 (g := (mkF m 18 #[.val (.ref o1), .val (.int (4 : Int32)), .val (.int i1), .val (.int i2), .unset, .unset] [(.int (2 : Int32)), (.ref o1)])) rfl rfl (hb hby d2_18) t k) ?_
        refine step (s₁.setTop (mkF m 21 #[.val (.ref o1), .val (.int (4 : Int32)), .val (.int i1), .val (.int i2), .unset, .unset] [(.int (10 : Int32)), (.int i6)])) (fun t k => XS.bipush X0.here hx rfl (hb hby d2_19) k) ?_
        by_cases hc21_6 : i6 = (10 : Int32)
        · -- 21 True
          refine step (s₁.setTop (mkF m 24 #[.val (.ref o1), .val (.int (4 : Int32)), .val (.int i1), .val (.int i2), .unset, .unset] [])) (fun t k => XS.icmpNo X0.here hx rfl (hb hby d2_21) rfl (teq hc21_6).2 k) ?_
          refine step (s₁.setTop (mkF m 25 #[.val (.ref o1), .val (.int (4 : Int32)), .val (.int i1), .val (.int i2), .unset, .unset] [(.ref o1)])) (fun t k => XS.aloadN X0.here hx rfl (hb hby d2_24) rfl rfl k) ?_
          refine step (s₁.setTop (mkF m 26 #[.val (.ref o1), .val (.int (4 : Int32)), .val (.int i1), .val (.int i2), .unset, .unset] [(.int (4 : Int32)), (.ref o1)])) (fun t k => XS.iloadN X0.here hx rfl (hb hby d2_25) rfl k) ?_
          refine step (s₁.setTop (mkF m 27 #[.val (.ref o1), .val (.int (4 : Int32)), .val (.int i1), .val (.int i2), .unset, .unset] [(.int (1 : Int32)), (.int (4 : Int32)), (.ref o1)])) (fun t k => XS.iconst X0.here hx rfl (hb hby d2_26) k) ?_
          refine step (s₁.setTop (mkF m 28 #[.val (.ref o1), .val (.int (4 : Int32)), .val (.int i1), .val (.int i2), .unset, .unset] [(.int (3 : Int32)), (.ref o1)])) (fun t k => XS.isub X0.here hx rfl (hb hby d2_27) rfl k) ?_
          obtain ⟨cl7, Ar7, q7, S7, N7n, H7, G7⟩ := id Pm0
          have hin7 : ¬ ((3 : Int32) < 0 ∨ cl7.slots.size ≤ ((3 : Int32)).toNatClampNeg) := inb_of S7 ⟨by decide, by decide⟩
          have hat7 : cl7.slots[((3 : Int32)).toNatClampNeg]? = some (.int i7) := H7.at hin7 rfl
          refine step (s₁.setTop (mkF m 29 #[.val (.ref o1), .val (.int (4 : Int32)), .val (.int i1), .val (.int i2), .unset, .unset] [(.int i7)])) (fun t k => X0.baloadBytes hx (j := (3 : Int32)) (v := (.int i7)) (by rw [e0]; exact Ar7.1) (State.isArrayOf_alike hZ.alike Ar7.2.1) Ar7.2.2 hin7 hat7 (g := (mkF m 28 #[.val (.ref o1), .val (.int (4 : Int32)), .val (.int i1), .val (.int i2), .unset, .unset] [(.int (3 : Int32)), (.ref o1)])) rfl rfl (hb hby d2_28) t k) ?_
          refine step (s₁.setTop (mkF m 31 #[.val (.ref o1), .val (.int (4 : Int32)), .val (.int i1), .val (.int i2), .unset, .unset] [(.int (10 : Int32)), (.int i7)])) (fun t k => XS.bipush X0.here hx rfl (hb hby d2_29) k) ?_
          by_cases hc31_8 : i7 = (10 : Int32)
          · -- 31 True
            refine step (s₁.setTop (mkF m 34 #[.val (.ref o1), .val (.int (4 : Int32)), .val (.int i1), .val (.int i2), .unset, .unset] [])) (fun t k => XS.icmpNo X0.here hx rfl (hb hby d2_31) rfl (teq hc31_8).2 k) ?_
            refine step (s₁.setTop (mkF m 35 #[.val (.ref o1), .val (.int (4 : Int32)), .val (.int i1), .val (.int i2), .unset, .unset] [(.int (1 : Int32))])) (fun t k => XS.iconst X0.here hx rfl (hb hby d2_34) k) ?_
            refine step (s₁.setTop (mkF m 39 #[.val (.ref o1), .val (.int (4 : Int32)), .val (.int i1), .val (.int i2), .unset, .unset] [(.int (1 : Int32))])) (fun t k => XS.goto X0.here hx rfl (pc0 := 35) (pc' := 39) rfl (hb hby d2_35) (by decide) (by decide) k) ?_
            exact J39_3 _ (by simp only [if_neg hc11_4, if_pos hc21_6, if_pos hc31_8, if_true, if_false] <;> rfl)
          · -- 31 False
            refine step (s₁.setTop (mkF m 38 #[.val (.ref o1), .val (.int (4 : Int32)), .val (.int i1), .val (.int i2), .unset, .unset] [])) (fun t k => XS.icmpYes X0.here hx rfl (pc0 := 31) (pc' := 38) rfl (hb hby d2_31) rfl (feq hc31_8).2 (by decide) (by decide) k) ?_
            refine step (s₁.setTop (mkF m 39 #[.val (.ref o1), .val (.int (4 : Int32)), .val (.int i1), .val (.int i2), .unset, .unset] [(.int (0 : Int32))])) (fun t k => XS.iconst X0.here hx rfl (hb hby d2_38) k) ?_
            exact J39_3 _ (by simp only [if_neg hc11_4, if_pos hc21_6, if_neg hc31_8, if_true, if_false] <;> rfl)
        · -- 21 False
          refine step (s₁.setTop (mkF m 38 #[.val (.ref o1), .val (.int (4 : Int32)), .val (.int i1), .val (.int i2), .unset, .unset] [])) (fun t k => XS.icmpYes X0.here hx rfl (pc0 := 21) (pc' := 38) rfl (hb hby d2_21) rfl (feq hc21_6).2 (by decide) (by decide) k) ?_
          refine step (s₁.setTop (mkF m 39 #[.val (.ref o1), .val (.int (4 : Int32)), .val (.int i1), .val (.int i2), .unset, .unset] [(.int (0 : Int32))])) (fun t k => XS.iconst X0.here hx rfl (hb hby d2_38) k) ?_
          exact J39_3 _ (by simp only [if_neg hc11_4, if_neg hc21_6, if_true, if_false] <;> rfl)
    intro z39_2 hz39_2
    refine step (s₁.setTop (mkF m 41 #[.val (.ref o1), .val (.int (4 : Int32)), .val (.int i1), .val (.int i2), .val (.int z39_2), .unset] [])) (fun t k => XS.istore X0.here hx rfl (hb hby d2_39) rfl (l' := #[.val (.ref o1), .val (.int (4 : Int32)), .val (.int i1), .val (.int i2), .val (.int z39_2), .unset]) rfl k) ?_
    refine step (s₁.setTop (mkF m 42 #[.val (.ref o1), .val (.int (4 : Int32)), .val (.int i1), .val (.int i2), .val (.int z39_2), .unset] [(.int (4 : Int32))])) (fun t k => XS.iloadN X0.here hx rfl (hb hby d2_41) rfl k) ?_
    refine step (s₁.setTop (mkF m 43 #[.val (.ref o1), .val (.int (4 : Int32)), .val (.int i1), .val (.int i2), .val (.int z39_2), .unset] [(.int (3 : Int32)), (.int (4 : Int32))])) (fun t k => XS.iconst X0.here hx rfl (hb hby d2_42) k) ?_
    refine step (s₁.setTop (mkF m 44 #[.val (.ref o1), .val (.int (4 : Int32)), .val (.int i1), .val (.int i2), .val (.int z39_2), .unset] [(.int (1 : Int32))])) (fun t k => XS.isub X0.here hx rfl (hb hby d2_43) rfl k) ?_
    refine step (s₁.setTop (mkF m 45 #[.val (.ref o1), .val (.int (4 : Int32)), .val (.int i1), .val (.int i2), .val (.int z39_2), .unset] [(.int i1), (.int (1 : Int32))])) (fun t k => XS.iloadN X0.here hx rfl (hb hby d2_44) rfl k) ?_
    suffices J83_10 : ∀ (z83_9 : Int32), z83_9 = (if (1 : Int32) < i1 then (0 : Int32) else (if i5 = (10 : Int32) then (if i6 = (13 : Int32) then (if i7 = (10 : Int32) then (1 : Int32) else (0 : Int32)) else (0 : Int32)) else (0 : Int32))) → G (s₁.setTop (mkF m 83 #[.val (.ref o1), .val (.int (4 : Int32)), .val (.int i1), .val (.int i2), .val (.int z39_2), .unset] [(.int z83_9)])) by
      by_cases hc45_11 : (1 : Int32) < i1
      · -- 45 True
        refine step (s₁.setTop (mkF m 82 #[.val (.ref o1), .val (.int (4 : Int32)), .val (.int i1), .val (.int i2), .val (.int z39_2), .unset] [])) (fun t k => XS.icmpYes X0.here hx rfl (pc0 := 45) (pc' := 82) rfl (hb hby d2_45) rfl (tlt hc45_11).1 (by decide) (by decide) k) ?_
        refine step (s₁.setTop (mkF m 83 #[.val (.ref o1), .val (.int (4 : Int32)), .val (.int i1), .val (.int i2), .val (.int z39_2), .unset] [(.int (0 : Int32))])) (fun t k => XS.iconst X0.here hx rfl (hb hby d2_82) k) ?_
        exact J83_10 _ (by simp only [if_pos hc45_11, if_true, if_false] <;> rfl)
      · -- 45 False
        refine step (s₁.setTop (mkF m 48 #[.val (.ref o1), .val (.int (4 : Int32)), .val (.int i1), .val (.int i2), .val (.int z39_2), .unset] [])) (fun t k => XS.icmpNo X0.here hx rfl (hb hby d2_45) rfl (flt hc45_11).1 k) ?_
        refine step (s₁.setTop (mkF m 49 #[.val (.ref o1), .val (.int (4 : Int32)), .val (.int i1), .val (.int i2), .val (.int z39_2), .unset] [(.ref o1)])) (fun t k => XS.aloadN X0.here hx rfl (hb hby d2_48) rfl rfl k) ?_
        refine step (s₁.setTop (mkF m 50 #[.val (.ref o1), .val (.int (4 : Int32)), .val (.int i1), .val (.int i2), .val (.int z39_2), .unset] [(.int (4 : Int32)), (.ref o1)])) (fun t k => XS.iloadN X0.here hx rfl (hb hby d2_49) rfl k) ?_
        refine step (s₁.setTop (mkF m 51 #[.val (.ref o1), .val (.int (4 : Int32)), .val (.int i1), .val (.int i2), .val (.int z39_2), .unset] [(.int (3 : Int32)), (.int (4 : Int32)), (.ref o1)])) (fun t k => XS.iconst X0.here hx rfl (hb hby d2_50) k) ?_
        refine step (s₁.setTop (mkF m 52 #[.val (.ref o1), .val (.int (4 : Int32)), .val (.int i1), .val (.int i2), .val (.int z39_2), .unset] [(.int (1 : Int32)), (.ref o1)])) (fun t k => XS.isub X0.here hx rfl (hb hby d2_51) rfl k) ?_
        obtain ⟨cl12, Ar12, q12, S12, N12n, H12, G12⟩ := id Pm0
        have hin12 : ¬ ((1 : Int32) < 0 ∨ cl12.slots.size ≤ ((1 : Int32)).toNatClampNeg) := inb_of S12 ⟨by decide, by decide⟩
        have hat12 : cl12.slots[((1 : Int32)).toNatClampNeg]? = some (.int i5) := H12.at hin12 rfl
        refine step (s₁.setTop (mkF m 53 #[.val (.ref o1), .val (.int (4 : Int32)), .val (.int i1), .val (.int i2), .val (.int z39_2), .unset] [(.int i5)])) (fun t k => X0.baloadBytes hx (j := (1 : Int32)) (v := (.int i5)) (by rw [e0]; exact Ar12.1) (State.isArrayOf_alike hZ.alike Ar12.2.1) Ar12.2.2 hin12 hat12 (g := (mkF m 52 #[.val (.ref o1), .val (.int (4 : Int32)), .val (.int i1), .val (.int i2), .val (.int z39_2), .unset] [(.int (1 : Int32)), (.ref o1)])) rfl rfl (hb hby d2_52) t k) ?_
        refine step (s₁.setTop (mkF m 55 #[.val (.ref o1), .val (.int (4 : Int32)), .val (.int i1), .val (.int i2), .val (.int z39_2), .unset] [(.int (10 : Int32)), (.int i5)])) (fun t k => XS.bipush X0.here hx rfl (hb hby d2_53) k) ?_
        by_cases hc55_13 : i5 = (10 : Int32)
        · -- 55 True
          refine step (s₁.setTop (mkF m 58 #[.val (.ref o1), .val (.int (4 : Int32)), .val (.int i1), .val (.int i2), .val (.int z39_2), .unset] [])) (fun t k => XS.icmpNo X0.here hx rfl (hb hby d2_55) rfl (teq hc55_13).2 k) ?_
          refine step (s₁.setTop (mkF m 59 #[.val (.ref o1), .val (.int (4 : Int32)), .val (.int i1), .val (.int i2), .val (.int z39_2), .unset] [(.ref o1)])) (fun t k => XS.aloadN X0.here hx rfl (hb hby d2_58) rfl rfl k) ?_
          refine step (s₁.setTop (mkF m 60 #[.val (.ref o1), .val (.int (4 : Int32)), .val (.int i1), .val (.int i2), .val (.int z39_2), .unset] [(.int (4 : Int32)), (.ref o1)])) (fun t k => XS.iloadN X0.here hx rfl (hb hby d2_59) rfl k) ?_
          refine step (s₁.setTop (mkF m 61 #[.val (.ref o1), .val (.int (4 : Int32)), .val (.int i1), .val (.int i2), .val (.int z39_2), .unset] [(.int (2 : Int32)), (.int (4 : Int32)), (.ref o1)])) (fun t k => XS.iconst X0.here hx rfl (hb hby d2_60) k) ?_
          refine step (s₁.setTop (mkF m 62 #[.val (.ref o1), .val (.int (4 : Int32)), .val (.int i1), .val (.int i2), .val (.int z39_2), .unset] [(.int (2 : Int32)), (.ref o1)])) (fun t k => XS.isub X0.here hx rfl (hb hby d2_61) rfl k) ?_
          obtain ⟨cl14, Ar14, q14, S14, N14n, H14, G14⟩ := id Pm0
          have hin14 : ¬ ((2 : Int32) < 0 ∨ cl14.slots.size ≤ ((2 : Int32)).toNatClampNeg) := inb_of S14 ⟨by decide, by decide⟩
          have hat14 : cl14.slots[((2 : Int32)).toNatClampNeg]? = some (.int i6) := H14.at hin14 rfl
          refine step (s₁.setTop (mkF m 63 #[.val (.ref o1), .val (.int (4 : Int32)), .val (.int i1), .val (.int i2), .val (.int z39_2), .unset] [(.int i6)])) (fun t k => X0.baloadBytes hx (j := (2 : Int32)) (v := (.int i6)) (by rw [e0]; exact Ar14.1) (State.isArrayOf_alike hZ.alike Ar14.2.1) Ar14.2.2 hin14 hat14 (g := (mkF m 62 #[.val (.ref o1), .val (.int (4 : Int32)), .val (.int i1), .val (.int i2), .val (.int z39_2), .unset] [(.int (2 : Int32)), (.ref o1)])) rfl rfl (hb hby d2_62) t k) ?_
          refine step (s₁.setTop (mkF m 65 #[.val (.ref o1), .val (.int (4 : Int32)), .val (.int i1), .val (.int i2), .val (.int z39_2), .unset] [(.int (13 : Int32)), (.int i6)])) (fun t k => XS.bipush X0.here hx rfl (hb hby d2_63) k) ?_
          by_cases hc65_15 : i6 = (13 : Int32)
          · -- 65 True
            refine step (s₁.setTop (mkF m 68 #[.val (.ref o1), .val (.int (4 : Int32)), .val (.int i1), .val (.int i2), .val (.int z39_2), .unset] [])) (fun t k => XS.icmpNo X0.here hx rfl (hb hby d2_65) rfl (teq hc65_15).2 k) ?_
            refine step (s₁.setTop (mkF m 69 #[.val (.ref o1), .val (.int (4 : Int32)), .val (.int i1), .val (.int i2), .val (.int z39_2), .unset] [(.ref o1)])) (fun t k => XS.aloadN X0.here hx rfl (hb hby d2_68) rfl rfl k) ?_
            refine step (s₁.setTop (mkF m 70 #[.val (.ref o1), .val (.int (4 : Int32)), .val (.int i1), .val (.int i2), .val (.int z39_2), .unset] [(.int (4 : Int32)), (.ref o1)])) (fun t k => XS.iloadN X0.here hx rfl (hb hby d2_69) rfl k) ?_
            refine step (s₁.setTop (mkF m 71 #[.val (.ref o1), .val (.int (4 : Int32)), .val (.int i1), .val (.int i2), .val (.int z39_2), .unset] [(.int (1 : Int32)), (.int (4 : Int32)), (.ref o1)])) (fun t k => XS.iconst X0.here hx rfl (hb hby d2_70) k) ?_
            refine step (s₁.setTop (mkF m 72 #[.val (.ref o1), .val (.int (4 : Int32)), .val (.int i1), .val (.int i2), .val (.int z39_2), .unset] [(.int (3 : Int32)), (.ref o1)])) (fun t k => XS.isub X0.here hx rfl (hb hby d2_71) rfl k) ?_
            obtain ⟨cl16, Ar16, q16, S16, N16n, H16, G16⟩ := id Pm0
            have hin16 : ¬ ((3 : Int32) < 0 ∨ cl16.slots.size ≤ ((3 : Int32)).toNatClampNeg) := inb_of S16 ⟨by decide, by decide⟩
            have hat16 : cl16.slots[((3 : Int32)).toNatClampNeg]? = some (.int i7) := H16.at hin16 rfl
            refine step (s₁.setTop (mkF m 73 #[.val (.ref o1), .val (.int (4 : Int32)), .val (.int i1), .val (.int i2), .val (.int z39_2), .unset] [(.int i7)])) (fun t k => X0.baloadBytes hx (j := (3 : Int32)) (v := (.int i7)) (by rw [e0]; exact Ar16.1) (State.isArrayOf_alike hZ.alike Ar16.2.1) Ar16.2.2 hin16 hat16 (g := (mkF m 72 #[.val (.ref o1), .val (.int (4 : Int32)), .val (.int i1), .val (.int i2), .val (.int z39_2), .unset] [(.int (3 : Int32)), (.ref o1)])) rfl rfl (hb hby d2_72) t k) ?_
            refine step (s₁.setTop (mkF m 75 #[.val (.ref o1), .val (.int (4 : Int32)), .val (.int i1), .val (.int i2), .val (.int z39_2), .unset] [(.int (10 : Int32)), (.int i7)])) (fun t k => XS.bipush X0.here hx rfl (hb hby d2_73) k) ?_
            by_cases hc75_17 : i7 = (10 : Int32)
            · -- 75 True
              refine step (s₁.setTop (mkF m 78 #[.val (.ref o1), .val (.int (4 : Int32)), .val (.int i1), .val (.int i2), .val (.int z39_2), .unset] [])) (fun t k => XS.icmpNo X0.here hx rfl (hb hby d2_75) rfl (teq hc75_17).2 k) ?_
              refine step (s₁.setTop (mkF m 79 #[.val (.ref o1), .val (.int (4 : Int32)), .val (.int i1), .val (.int i2), .val (.int z39_2), .unset] [(.int (1 : Int32))])) (fun t k => XS.iconst X0.here hx rfl (hb hby d2_78) k) ?_
              refine step (s₁.setTop (mkF m 83 #[.val (.ref o1), .val (.int (4 : Int32)), .val (.int i1), .val (.int i2), .val (.int z39_2), .unset] [(.int (1 : Int32))])) (fun t k => XS.goto X0.here hx rfl (pc0 := 79) (pc' := 83) rfl (hb hby d2_79) (by decide) (by decide) k) ?_
              exact J83_10 _ (by simp only [if_neg hc45_11, if_pos hc55_13, if_pos hc65_15, if_pos hc75_17, if_true, if_false] <;> rfl)
            · -- 75 False
              refine step (s₁.setTop (mkF m 82 #[.val (.ref o1), .val (.int (4 : Int32)), .val (.int i1), .val (.int i2), .val (.int z39_2), .unset] [])) (fun t k => XS.icmpYes X0.here hx rfl (pc0 := 75) (pc' := 82) rfl (hb hby d2_75) rfl (feq hc75_17).2 (by decide) (by decide) k) ?_
              refine step (s₁.setTop (mkF m 83 #[.val (.ref o1), .val (.int (4 : Int32)), .val (.int i1), .val (.int i2), .val (.int z39_2), .unset] [(.int (0 : Int32))])) (fun t k => XS.iconst X0.here hx rfl (hb hby d2_82) k) ?_
              exact J83_10 _ (by simp only [if_neg hc45_11, if_pos hc55_13, if_pos hc65_15, if_neg hc75_17, if_true, if_false] <;> rfl)
          · -- 65 False
            refine step (s₁.setTop (mkF m 82 #[.val (.ref o1), .val (.int (4 : Int32)), .val (.int i1), .val (.int i2), .val (.int z39_2), .unset] [])) (fun t k => XS.icmpYes X0.here hx rfl (pc0 := 65) (pc' := 82) rfl (hb hby d2_65) rfl (feq hc65_15).2 (by decide) (by decide) k) ?_
            refine step (s₁.setTop (mkF m 83 #[.val (.ref o1), .val (.int (4 : Int32)), .val (.int i1), .val (.int i2), .val (.int z39_2), .unset] [(.int (0 : Int32))])) (fun t k => XS.iconst X0.here hx rfl (hb hby d2_82) k) ?_
            exact J83_10 _ (by simp only [if_neg hc45_11, if_pos hc55_13, if_neg hc65_15, if_true, if_false] <;> rfl)
        · -- 55 False
          refine step (s₁.setTop (mkF m 82 #[.val (.ref o1), .val (.int (4 : Int32)), .val (.int i1), .val (.int i2), .val (.int z39_2), .unset] [])) (fun t k => XS.icmpYes X0.here hx rfl (pc0 := 55) (pc' := 82) rfl (hb hby d2_55) rfl (feq hc55_13).2 (by decide) (by decide) k) ?_
          refine step (s₁.setTop (mkF m 83 #[.val (.ref o1), .val (.int (4 : Int32)), .val (.int i1), .val (.int i2), .val (.int z39_2), .unset] [(.int (0 : Int32))])) (fun t k => XS.iconst X0.here hx rfl (hb hby d2_82) k) ?_
          exact J83_10 _ (by simp only [if_neg hc45_11, if_neg hc55_13, if_true, if_false] <;> rfl)
    intro z83_9 hz83_9
    refine step (s₁.setTop (mkF m 85 #[.val (.ref o1), .val (.int (4 : Int32)), .val (.int i1), .val (.int i2), .val (.int z39_2), .val (.int z83_9)] [])) (fun t k => XS.istore X0.here hx rfl (hb hby d2_83) rfl (l' := #[.val (.ref o1), .val (.int (4 : Int32)), .val (.int i1), .val (.int i2), .val (.int z39_2), .val (.int z83_9)]) rfl k) ?_
    refine step (s₁.setTop (mkF m 87 #[.val (.ref o1), .val (.int (4 : Int32)), .val (.int i1), .val (.int i2), .val (.int z39_2), .val (.int z83_9)] [(.int z39_2)])) (fun t k => XS.iload X0.here hx rfl (hb hby d2_85) rfl k) ?_
    suffices J100_19 : ∀ (z100_18 : Int32), z100_18 = (if z39_2 = (0 : Int32) then (if z83_9 = (0 : Int32) then (0 : Int32) else (1 : Int32)) else (1 : Int32)) → G (s₁.setTop (mkF m 100 #[.val (.ref o1), .val (.int (4 : Int32)), .val (.int i1), .val (.int i2), .val (.int z39_2), .val (.int z83_9)] [(.int z100_18)])) by
      by_cases hc87_20 : z39_2 = (0 : Int32)
      · -- 87 True
        refine step (s₁.setTop (mkF m 90 #[.val (.ref o1), .val (.int (4 : Int32)), .val (.int i1), .val (.int i2), .val (.int z39_2), .val (.int z83_9)] [])) (fun t k => XS.ifNo X0.here hx rfl (hb hby d2_87) rfl ((if0 _ _).trans (teq hc87_20).2) k) ?_
        refine step (s₁.setTop (mkF m 92 #[.val (.ref o1), .val (.int (4 : Int32)), .val (.int i1), .val (.int i2), .val (.int z39_2), .val (.int z83_9)] [(.int z83_9)])) (fun t k => XS.iload X0.here hx rfl (hb hby d2_90) rfl k) ?_
        by_cases hc92_21 : z83_9 = (0 : Int32)
        · -- 92 True
          refine step (s₁.setTop (mkF m 99 #[.val (.ref o1), .val (.int (4 : Int32)), .val (.int i1), .val (.int i2), .val (.int z39_2), .val (.int z83_9)] [])) (fun t k => XS.ifYes X0.here hx rfl (pc0 := 92) (pc' := 99) rfl (hb hby d2_92) rfl ((if0 _ _).trans (teq hc92_21).1) (by decide) (by decide) k) ?_
          refine step (s₁.setTop (mkF m 100 #[.val (.ref o1), .val (.int (4 : Int32)), .val (.int i1), .val (.int i2), .val (.int z39_2), .val (.int z83_9)] [(.int (0 : Int32))])) (fun t k => XS.iconst X0.here hx rfl (hb hby d2_99) k) ?_
          exact J100_19 _ (by simp only [if_pos hc87_20, if_pos hc92_21, if_true, if_false] <;> rfl)
        · -- 92 False
          refine step (s₁.setTop (mkF m 95 #[.val (.ref o1), .val (.int (4 : Int32)), .val (.int i1), .val (.int i2), .val (.int z39_2), .val (.int z83_9)] [])) (fun t k => XS.ifNo X0.here hx rfl (hb hby d2_92) rfl ((if0 _ _).trans (feq hc92_21).1) k) ?_
          refine step (s₁.setTop (mkF m 96 #[.val (.ref o1), .val (.int (4 : Int32)), .val (.int i1), .val (.int i2), .val (.int z39_2), .val (.int z83_9)] [(.int (1 : Int32))])) (fun t k => XS.iconst X0.here hx rfl (hb hby d2_95) k) ?_
          refine step (s₁.setTop (mkF m 100 #[.val (.ref o1), .val (.int (4 : Int32)), .val (.int i1), .val (.int i2), .val (.int z39_2), .val (.int z83_9)] [(.int (1 : Int32))])) (fun t k => XS.goto X0.here hx rfl (pc0 := 96) (pc' := 100) rfl (hb hby d2_96) (by decide) (by decide) k) ?_
          exact J100_19 _ (by simp only [if_pos hc87_20, if_neg hc92_21, if_true, if_false] <;> rfl)
      · -- 87 False
        refine step (s₁.setTop (mkF m 95 #[.val (.ref o1), .val (.int (4 : Int32)), .val (.int i1), .val (.int i2), .val (.int z39_2), .val (.int z83_9)] [])) (fun t k => XS.ifYes X0.here hx rfl (pc0 := 87) (pc' := 95) rfl (hb hby d2_87) rfl ((if0 _ _).trans (feq hc87_20).2) (by decide) (by decide) k) ?_
        refine step (s₁.setTop (mkF m 96 #[.val (.ref o1), .val (.int (4 : Int32)), .val (.int i1), .val (.int i2), .val (.int z39_2), .val (.int z83_9)] [(.int (1 : Int32))])) (fun t k => XS.iconst X0.here hx rfl (hb hby d2_95) k) ?_
        refine step (s₁.setTop (mkF m 100 #[.val (.ref o1), .val (.int (4 : Int32)), .val (.int i1), .val (.int i2), .val (.int z39_2), .val (.int z83_9)] [(.int (1 : Int32))])) (fun t k => XS.goto X0.here hx rfl (pc0 := 96) (pc' := 100) rfl (hb hby d2_96) (by decide) (by decide) k) ?_
        exact J100_19 _ (by simp only [if_neg hc87_20, if_true, if_false] <;> rfl)
    intro z100_18 hz100_18
    have K0q : Keep h0 h0 [] := Keep.refl _ _
    refine fin (v := some (.int (nar .boolean z100_18))) X0 (fun h => by cases h) ?_ (by decide) (by decide) (fun fs hr => retN X0 hx (t := .boolean) hret (by simp) (hb hby d2_100) hr)
    show Q2_9 Z o1 i1 i2 kc3 i4 i5 i6 i7 i8 i9 h0 n0 (some (.int (nar .boolean z100_18))) s₁.heap _
    rw [e0]
    exact ⟨_, (congrArg (fun z => some (Value.int z)) (by rw [hz100_18]; (repeat' split) <;> rfl : nar .boolean z100_18 = z100_18)), N0, rfl, (by subst hz100_18 hz39_2 hz83_9; simp only [if_neg hc2_1, if_true, if_false] <;> rfl)⟩
theorem ef_2_10 (m : MethodId) (x0 : Addr) (x2 : Int32) (x3 : Int32) : entryFrame m #[(.ref x0), (.int (5 : Int32)), (.int x2), (.int x3)] 6 = mkF m 0 #[.val (.ref x0), .val (.int (5 : Int32)), .val (.int x2), .val (.int x3), .unset, .unset] [] := by first | (simp [entryFrame, mkF, argsToLocals, Value.category]; done) | rfl
def Q2_10 (Z : State) (o1 : Addr) (i1 : Int32) (i2 : Int32) (kc3 : ClassId) (i4 : Int32) (i5 : Int32) (i6 : Int32) (i7 : Int32) (i8 : Int32) (i9 : Int32) (h0 : Heap) (n0 : Nat) (v : Option Value) (h : Heap) (L : List Loc) : Prop := ∃ (y1 : Int32), v = some (.int y1) ∧ Fr n0 L ∧ h = h0 ∧ y1 = (if i2 < (5 : Int32) then (0 : Int32) else (if (if (3 : Int32) < i1 then (0 : Int32) else (if i7 = (10 : Int32) then (if i8 = (10 : Int32) then (1 : Int32) else (0 : Int32)) else (0 : Int32))) = (0 : Int32) then (if (if (2 : Int32) < i1 then (0 : Int32) else (if i6 = (10 : Int32) then (if i7 = (13 : Int32) then (if i8 = (10 : Int32) then (1 : Int32) else (0 : Int32)) else (0 : Int32)) else (0 : Int32))) = (0 : Int32) then (0 : Int32) else (1 : Int32)) else (1 : Int32)))
set_option maxRecDepth 65536 in
set_option maxHeartbeats 40000000 in
theorem rm2_10 (l : Launch) (Z : State) (a0 : Array Value) (hw : ∀ d ∈ tables_1, d.before a0 Z = true) (ws : List Jvm.Cond) (o1 : Addr) (i1 : Int32) (i2 : Int32) (kc3 : ClassId) (i4 : Int32) (i5 : Int32) (i6 : Int32) (i7 : Int32) (i8 : Int32) (i9 : Int32) (h0 : Heap) (n0 : Nat) (Z0 : n0 ≤ h0.size) (Pm0 : Arv Z h0 o1 kc3 .byte (6 : Int32) [(.int i4), (.int i5), (.int i6), (.int i7), (.int i8), (.int i9)] (.int (0 : Int32))) (gn_o1 : n0 ≤ o1) (hy2 : (-1 : Int32) < i1)  :
    MetFree l (⟨"com/example/whisman/whisman/connector/RequestHeadParserHeadEndPinLaw", "endsAt", "([BIII)Z"⟩ : MethodName) (head1 (Jvm.Cond.code (⟨"com/example/whisman/whisman/connector/RequestHeadParserHeadEndPinLaw", "endsAt", "([BIII)Z"⟩ : MethodName) method_4_code 6 (some .boolean) :: ws) ({ frames := 0, cells := 0, slots := 0, locals := 0 } : Room)) (fun a U => a = #[(.ref o1), (.int (5 : Int32)), (.int i1), (.int i2)] ∧ Z.Warmed39 U.vm ∧ U.heap = h0) (fun _ _ _ _ _ => True) (fun _ U o U' => ∃ v L, o = .returned v ∧ Q2_10 Z o1 i1 i2 kc3 i4 i5 i6 i7 i8 i9 h0 n0 v U'.heap L ∧ FrameEnd U o U' L ({ frames := 0, cells := 0, slots := 0, locals := 0 } : Room).cells ({ frames := 0, cells := 0, slots := 0, locals := 0 } : Room).slots) := by
  refine own_body (plainFor_of_name pn_1) ?_
  intro p e s m below meth c s₁ G hx hby hml hZ hown hnm hret X0 e0 step fin
  replace hown : s.vm.findClass "com/example/whisman/whisman/connector/RequestHeadParserHeadEndPinLaw" = some m.cls := hown
  replace hnm : meth.name = "endsAt" := hnm
  replace hret : meth.sig.returnType = some .boolean := hret
  replace hml : c.maxLocals = 6 := hml
  have N0 := Fr.nil n0
  refine step (s₁.setTop (mkF m 0 #[.val (.ref o1), .val (.int (5 : Int32)), .val (.int i1), .val (.int i2), .unset, .unset] [])) (fun t k => castTop (ef_2_10 m o1 i1 i2) k) ?_
  refine step (s₁.setTop (mkF m 1 #[.val (.ref o1), .val (.int (5 : Int32)), .val (.int i1), .val (.int i2), .unset, .unset] [(.int (5 : Int32))])) (fun t k => XS.iloadN X0.here hx rfl (hb hby d2_0) rfl k) ?_
  refine step (s₁.setTop (mkF m 2 #[.val (.ref o1), .val (.int (5 : Int32)), .val (.int i1), .val (.int i2), .unset, .unset] [(.int i2), (.int (5 : Int32))])) (fun t k => XS.iloadN X0.here hx rfl (hb hby d2_1) rfl k) ?_
  by_cases hc2_1 : i2 < (5 : Int32)
  · -- pc 2: i2 < (5 : Int32) True
    refine step (s₁.setTop (mkF m 5 #[.val (.ref o1), .val (.int (5 : Int32)), .val (.int i1), .val (.int i2), .unset, .unset] [])) (fun t k => XS.icmpNo X0.here hx rfl (hb hby d2_2) rfl (tlt hc2_1).2.2.2 k) ?_
    refine step (s₁.setTop (mkF m 6 #[.val (.ref o1), .val (.int (5 : Int32)), .val (.int i1), .val (.int i2), .unset, .unset] [(.int (0 : Int32))])) (fun t k => XS.iconst X0.here hx rfl (hb hby d2_5) k) ?_
    have K0q : Keep h0 h0 [] := Keep.refl _ _
    refine fin (v := some (.int (nar .boolean (0 : Int32)))) X0 (fun h => by cases h) ?_ (by decide) (by decide) (fun fs hr => retN X0 hx (t := .boolean) hret (by simp) (hb hby d2_6) hr)
    show Q2_10 Z o1 i1 i2 kc3 i4 i5 i6 i7 i8 i9 h0 n0 (some (.int (nar .boolean (0 : Int32)))) s₁.heap _
    rw [e0]
    exact ⟨_, rfl, N0, rfl, (by simp only [if_pos hc2_1, if_true, if_false] <;> rfl)⟩
  · -- pc 2: i2 < (5 : Int32) False
    refine step (s₁.setTop (mkF m 7 #[.val (.ref o1), .val (.int (5 : Int32)), .val (.int i1), .val (.int i2), .unset, .unset] [])) (fun t k => XS.icmpYes X0.here hx rfl (pc0 := 2) (pc' := 7) rfl (hb hby d2_2) rfl (flt hc2_1).2.2.2 (by decide) (by decide) k) ?_
    refine step (s₁.setTop (mkF m 8 #[.val (.ref o1), .val (.int (5 : Int32)), .val (.int i1), .val (.int i2), .unset, .unset] [(.int (5 : Int32))])) (fun t k => XS.iloadN X0.here hx rfl (hb hby d2_7) rfl k) ?_
    refine step (s₁.setTop (mkF m 9 #[.val (.ref o1), .val (.int (5 : Int32)), .val (.int i1), .val (.int i2), .unset, .unset] [(.int (2 : Int32)), (.int (5 : Int32))])) (fun t k => XS.iconst X0.here hx rfl (hb hby d2_8) k) ?_
    refine step (s₁.setTop (mkF m 10 #[.val (.ref o1), .val (.int (5 : Int32)), .val (.int i1), .val (.int i2), .unset, .unset] [(.int (3 : Int32))])) (fun t k => XS.isub X0.here hx rfl (hb hby d2_9) rfl k) ?_
    refine step (s₁.setTop (mkF m 11 #[.val (.ref o1), .val (.int (5 : Int32)), .val (.int i1), .val (.int i2), .unset, .unset] [(.int i1), (.int (3 : Int32))])) (fun t k => XS.iloadN X0.here hx rfl (hb hby d2_10) rfl k) ?_
    suffices J39_3 : ∀ (z39_2 : Int32), z39_2 = (if (3 : Int32) < i1 then (0 : Int32) else (if i7 = (10 : Int32) then (if i8 = (10 : Int32) then (1 : Int32) else (0 : Int32)) else (0 : Int32))) → G (s₁.setTop (mkF m 39 #[.val (.ref o1), .val (.int (5 : Int32)), .val (.int i1), .val (.int i2), .unset, .unset] [(.int z39_2)])) by
      by_cases hc11_4 : (3 : Int32) < i1
      · -- 11 True
        refine step (s₁.setTop (mkF m 38 #[.val (.ref o1), .val (.int (5 : Int32)), .val (.int i1), .val (.int i2), .unset, .unset] [])) (fun t k => XS.icmpYes X0.here hx rfl (pc0 := 11) (pc' := 38) rfl (hb hby d2_11) rfl (tlt hc11_4).1 (by decide) (by decide) k) ?_
        refine step (s₁.setTop (mkF m 39 #[.val (.ref o1), .val (.int (5 : Int32)), .val (.int i1), .val (.int i2), .unset, .unset] [(.int (0 : Int32))])) (fun t k => XS.iconst X0.here hx rfl (hb hby d2_38) k) ?_
        exact J39_3 _ (by simp only [if_pos hc11_4, if_true, if_false] <;> rfl)
      · -- 11 False
        refine step (s₁.setTop (mkF m 14 #[.val (.ref o1), .val (.int (5 : Int32)), .val (.int i1), .val (.int i2), .unset, .unset] [])) (fun t k => XS.icmpNo X0.here hx rfl (hb hby d2_11) rfl (flt hc11_4).1 k) ?_
        refine step (s₁.setTop (mkF m 15 #[.val (.ref o1), .val (.int (5 : Int32)), .val (.int i1), .val (.int i2), .unset, .unset] [(.ref o1)])) (fun t k => XS.aloadN X0.here hx rfl (hb hby d2_14) rfl rfl k) ?_
        refine step (s₁.setTop (mkF m 16 #[.val (.ref o1), .val (.int (5 : Int32)), .val (.int i1), .val (.int i2), .unset, .unset] [(.int (5 : Int32)), (.ref o1)])) (fun t k => XS.iloadN X0.here hx rfl (hb hby d2_15) rfl k) ?_
        refine step (s₁.setTop (mkF m 17 #[.val (.ref o1), .val (.int (5 : Int32)), .val (.int i1), .val (.int i2), .unset, .unset] [(.int (2 : Int32)), (.int (5 : Int32)), (.ref o1)])) (fun t k => XS.iconst X0.here hx rfl (hb hby d2_16) k) ?_
        refine step (s₁.setTop (mkF m 18 #[.val (.ref o1), .val (.int (5 : Int32)), .val (.int i1), .val (.int i2), .unset, .unset] [(.int (3 : Int32)), (.ref o1)])) (fun t k => XS.isub X0.here hx rfl (hb hby d2_17) rfl k) ?_
        obtain ⟨cl5, Ar5, q5, S5, N5n, H5, G5⟩ := id Pm0
        have hin5 : ¬ ((3 : Int32) < 0 ∨ cl5.slots.size ≤ ((3 : Int32)).toNatClampNeg) := inb_of S5 ⟨by decide, by decide⟩
        have hat5 : cl5.slots[((3 : Int32)).toNatClampNeg]? = some (.int i7) := H5.at hin5 rfl
        refine step (s₁.setTop (mkF m 19 #[.val (.ref o1), .val (.int (5 : Int32)), .val (.int i1), .val (.int i2), .unset, .unset] [(.int i7)])) (fun t k => X0.baloadBytes hx (j := (3 : Int32)) (v := (.int i7)) (by rw [e0]; exact Ar5.1) (State.isArrayOf_alike hZ.alike Ar5.2.1) Ar5.2.2 hin5 hat5 (g := (mkF m 18 #[.val (.ref o1), .val (.int (5 : Int32)), .val (.int i1), .val (.int i2), .unset, .unset] [(.int (3 : Int32)), (.ref o1)])) rfl rfl (hb hby d2_18) t k) ?_
        refine step (s₁.setTop (mkF m 21 #[.val (.ref o1), .val (.int (5 : Int32)), .val (.int i1), .val (.int i2), .unset, .unset] [(.int (10 : Int32)), (.int i7)])) (fun t k => XS.bipush X0.here hx rfl (hb hby d2_19) k) ?_
        by_cases hc21_6 : i7 = (10 : Int32)
        · -- 21 True
          refine step (s₁.setTop (mkF m 24 #[.val (.ref o1), .val (.int (5 : Int32)), .val (.int i1), .val (.int i2), .unset, .unset] [])) (fun t k => XS.icmpNo X0.here hx rfl (hb hby d2_21) rfl (teq hc21_6).2 k) ?_
          refine step (s₁.setTop (mkF m 25 #[.val (.ref o1), .val (.int (5 : Int32)), .val (.int i1), .val (.int i2), .unset, .unset] [(.ref o1)])) (fun t k => XS.aloadN X0.here hx rfl (hb hby d2_24) rfl rfl k) ?_
          refine step (s₁.setTop (mkF m 26 #[.val (.ref o1), .val (.int (5 : Int32)), .val (.int i1), .val (.int i2), .unset, .unset] [(.int (5 : Int32)), (.ref o1)])) (fun t k => XS.iloadN X0.here hx rfl (hb hby d2_25) rfl k) ?_
          refine step (s₁.setTop (mkF m 27 #[.val (.ref o1), .val (.int (5 : Int32)), .val (.int i1), .val (.int i2), .unset, .unset] [(.int (1 : Int32)), (.int (5 : Int32)), (.ref o1)])) (fun t k => XS.iconst X0.here hx rfl (hb hby d2_26) k) ?_
          refine step (s₁.setTop (mkF m 28 #[.val (.ref o1), .val (.int (5 : Int32)), .val (.int i1), .val (.int i2), .unset, .unset] [(.int (4 : Int32)), (.ref o1)])) (fun t k => XS.isub X0.here hx rfl (hb hby d2_27) rfl k) ?_
          obtain ⟨cl7, Ar7, q7, S7, N7n, H7, G7⟩ := id Pm0
          have hin7 : ¬ ((4 : Int32) < 0 ∨ cl7.slots.size ≤ ((4 : Int32)).toNatClampNeg) := inb_of S7 ⟨by decide, by decide⟩
          have hat7 : cl7.slots[((4 : Int32)).toNatClampNeg]? = some (.int i8) := H7.at hin7 rfl
          refine step (s₁.setTop (mkF m 29 #[.val (.ref o1), .val (.int (5 : Int32)), .val (.int i1), .val (.int i2), .unset, .unset] [(.int i8)])) (fun t k => X0.baloadBytes hx (j := (4 : Int32)) (v := (.int i8)) (by rw [e0]; exact Ar7.1) (State.isArrayOf_alike hZ.alike Ar7.2.1) Ar7.2.2 hin7 hat7 (g := (mkF m 28 #[.val (.ref o1), .val (.int (5 : Int32)), .val (.int i1), .val (.int i2), .unset, .unset] [(.int (4 : Int32)), (.ref o1)])) rfl rfl (hb hby d2_28) t k) ?_
          refine step (s₁.setTop (mkF m 31 #[.val (.ref o1), .val (.int (5 : Int32)), .val (.int i1), .val (.int i2), .unset, .unset] [(.int (10 : Int32)), (.int i8)])) (fun t k => XS.bipush X0.here hx rfl (hb hby d2_29) k) ?_
          by_cases hc31_8 : i8 = (10 : Int32)
          · -- 31 True
            refine step (s₁.setTop (mkF m 34 #[.val (.ref o1), .val (.int (5 : Int32)), .val (.int i1), .val (.int i2), .unset, .unset] [])) (fun t k => XS.icmpNo X0.here hx rfl (hb hby d2_31) rfl (teq hc31_8).2 k) ?_
            refine step (s₁.setTop (mkF m 35 #[.val (.ref o1), .val (.int (5 : Int32)), .val (.int i1), .val (.int i2), .unset, .unset] [(.int (1 : Int32))])) (fun t k => XS.iconst X0.here hx rfl (hb hby d2_34) k) ?_
            refine step (s₁.setTop (mkF m 39 #[.val (.ref o1), .val (.int (5 : Int32)), .val (.int i1), .val (.int i2), .unset, .unset] [(.int (1 : Int32))])) (fun t k => XS.goto X0.here hx rfl (pc0 := 35) (pc' := 39) rfl (hb hby d2_35) (by decide) (by decide) k) ?_
            exact J39_3 _ (by simp only [if_neg hc11_4, if_pos hc21_6, if_pos hc31_8, if_true, if_false] <;> rfl)
          · -- 31 False
            refine step (s₁.setTop (mkF m 38 #[.val (.ref o1), .val (.int (5 : Int32)), .val (.int i1), .val (.int i2), .unset, .unset] [])) (fun t k => XS.icmpYes X0.here hx rfl (pc0 := 31) (pc' := 38) rfl (hb hby d2_31) rfl (feq hc31_8).2 (by decide) (by decide) k) ?_
            refine step (s₁.setTop (mkF m 39 #[.val (.ref o1), .val (.int (5 : Int32)), .val (.int i1), .val (.int i2), .unset, .unset] [(.int (0 : Int32))])) (fun t k => XS.iconst X0.here hx rfl (hb hby d2_38) k) ?_
            exact J39_3 _ (by simp only [if_neg hc11_4, if_pos hc21_6, if_neg hc31_8, if_true, if_false] <;> rfl)
        · -- 21 False
          refine step (s₁.setTop (mkF m 38 #[.val (.ref o1), .val (.int (5 : Int32)), .val (.int i1), .val (.int i2), .unset, .unset] [])) (fun t k => XS.icmpYes X0.here hx rfl (pc0 := 21) (pc' := 38) rfl (hb hby d2_21) rfl (feq hc21_6).2 (by decide) (by decide) k) ?_
          refine step (s₁.setTop (mkF m 39 #[.val (.ref o1), .val (.int (5 : Int32)), .val (.int i1), .val (.int i2), .unset, .unset] [(.int (0 : Int32))])) (fun t k => XS.iconst X0.here hx rfl (hb hby d2_38) k) ?_
          exact J39_3 _ (by simp only [if_neg hc11_4, if_neg hc21_6, if_true, if_false] <;> rfl)
    intro z39_2 hz39_2
    refine step (s₁.setTop (mkF m 41 #[.val (.ref o1), .val (.int (5 : Int32)), .val (.int i1), .val (.int i2), .val (.int z39_2), .unset] [])) (fun t k => XS.istore X0.here hx rfl (hb hby d2_39) rfl (l' := #[.val (.ref o1), .val (.int (5 : Int32)), .val (.int i1), .val (.int i2), .val (.int z39_2), .unset]) rfl k) ?_
    refine step (s₁.setTop (mkF m 42 #[.val (.ref o1), .val (.int (5 : Int32)), .val (.int i1), .val (.int i2), .val (.int z39_2), .unset] [(.int (5 : Int32))])) (fun t k => XS.iloadN X0.here hx rfl (hb hby d2_41) rfl k) ?_
    refine step (s₁.setTop (mkF m 43 #[.val (.ref o1), .val (.int (5 : Int32)), .val (.int i1), .val (.int i2), .val (.int z39_2), .unset] [(.int (3 : Int32)), (.int (5 : Int32))])) (fun t k => XS.iconst X0.here hx rfl (hb hby d2_42) k) ?_
    refine step (s₁.setTop (mkF m 44 #[.val (.ref o1), .val (.int (5 : Int32)), .val (.int i1), .val (.int i2), .val (.int z39_2), .unset] [(.int (2 : Int32))])) (fun t k => XS.isub X0.here hx rfl (hb hby d2_43) rfl k) ?_
    refine step (s₁.setTop (mkF m 45 #[.val (.ref o1), .val (.int (5 : Int32)), .val (.int i1), .val (.int i2), .val (.int z39_2), .unset] [(.int i1), (.int (2 : Int32))])) (fun t k => XS.iloadN X0.here hx rfl (hb hby d2_44) rfl k) ?_
    suffices J83_10 : ∀ (z83_9 : Int32), z83_9 = (if (2 : Int32) < i1 then (0 : Int32) else (if i6 = (10 : Int32) then (if i7 = (13 : Int32) then (if i8 = (10 : Int32) then (1 : Int32) else (0 : Int32)) else (0 : Int32)) else (0 : Int32))) → G (s₁.setTop (mkF m 83 #[.val (.ref o1), .val (.int (5 : Int32)), .val (.int i1), .val (.int i2), .val (.int z39_2), .unset] [(.int z83_9)])) by
      by_cases hc45_11 : (2 : Int32) < i1
      · -- 45 True
        refine step (s₁.setTop (mkF m 82 #[.val (.ref o1), .val (.int (5 : Int32)), .val (.int i1), .val (.int i2), .val (.int z39_2), .unset] [])) (fun t k => XS.icmpYes X0.here hx rfl (pc0 := 45) (pc' := 82) rfl (hb hby d2_45) rfl (tlt hc45_11).1 (by decide) (by decide) k) ?_
        refine step (s₁.setTop (mkF m 83 #[.val (.ref o1), .val (.int (5 : Int32)), .val (.int i1), .val (.int i2), .val (.int z39_2), .unset] [(.int (0 : Int32))])) (fun t k => XS.iconst X0.here hx rfl (hb hby d2_82) k) ?_
        exact J83_10 _ (by simp only [if_pos hc45_11, if_true, if_false] <;> rfl)
      · -- 45 False
        refine step (s₁.setTop (mkF m 48 #[.val (.ref o1), .val (.int (5 : Int32)), .val (.int i1), .val (.int i2), .val (.int z39_2), .unset] [])) (fun t k => XS.icmpNo X0.here hx rfl (hb hby d2_45) rfl (flt hc45_11).1 k) ?_
        refine step (s₁.setTop (mkF m 49 #[.val (.ref o1), .val (.int (5 : Int32)), .val (.int i1), .val (.int i2), .val (.int z39_2), .unset] [(.ref o1)])) (fun t k => XS.aloadN X0.here hx rfl (hb hby d2_48) rfl rfl k) ?_
        refine step (s₁.setTop (mkF m 50 #[.val (.ref o1), .val (.int (5 : Int32)), .val (.int i1), .val (.int i2), .val (.int z39_2), .unset] [(.int (5 : Int32)), (.ref o1)])) (fun t k => XS.iloadN X0.here hx rfl (hb hby d2_49) rfl k) ?_
        refine step (s₁.setTop (mkF m 51 #[.val (.ref o1), .val (.int (5 : Int32)), .val (.int i1), .val (.int i2), .val (.int z39_2), .unset] [(.int (3 : Int32)), (.int (5 : Int32)), (.ref o1)])) (fun t k => XS.iconst X0.here hx rfl (hb hby d2_50) k) ?_
        refine step (s₁.setTop (mkF m 52 #[.val (.ref o1), .val (.int (5 : Int32)), .val (.int i1), .val (.int i2), .val (.int z39_2), .unset] [(.int (2 : Int32)), (.ref o1)])) (fun t k => XS.isub X0.here hx rfl (hb hby d2_51) rfl k) ?_
        obtain ⟨cl12, Ar12, q12, S12, N12n, H12, G12⟩ := id Pm0
        have hin12 : ¬ ((2 : Int32) < 0 ∨ cl12.slots.size ≤ ((2 : Int32)).toNatClampNeg) := inb_of S12 ⟨by decide, by decide⟩
        have hat12 : cl12.slots[((2 : Int32)).toNatClampNeg]? = some (.int i6) := H12.at hin12 rfl
        refine step (s₁.setTop (mkF m 53 #[.val (.ref o1), .val (.int (5 : Int32)), .val (.int i1), .val (.int i2), .val (.int z39_2), .unset] [(.int i6)])) (fun t k => X0.baloadBytes hx (j := (2 : Int32)) (v := (.int i6)) (by rw [e0]; exact Ar12.1) (State.isArrayOf_alike hZ.alike Ar12.2.1) Ar12.2.2 hin12 hat12 (g := (mkF m 52 #[.val (.ref o1), .val (.int (5 : Int32)), .val (.int i1), .val (.int i2), .val (.int z39_2), .unset] [(.int (2 : Int32)), (.ref o1)])) rfl rfl (hb hby d2_52) t k) ?_
        refine step (s₁.setTop (mkF m 55 #[.val (.ref o1), .val (.int (5 : Int32)), .val (.int i1), .val (.int i2), .val (.int z39_2), .unset] [(.int (10 : Int32)), (.int i6)])) (fun t k => XS.bipush X0.here hx rfl (hb hby d2_53) k) ?_
        by_cases hc55_13 : i6 = (10 : Int32)
        · -- 55 True
          refine step (s₁.setTop (mkF m 58 #[.val (.ref o1), .val (.int (5 : Int32)), .val (.int i1), .val (.int i2), .val (.int z39_2), .unset] [])) (fun t k => XS.icmpNo X0.here hx rfl (hb hby d2_55) rfl (teq hc55_13).2 k) ?_
          refine step (s₁.setTop (mkF m 59 #[.val (.ref o1), .val (.int (5 : Int32)), .val (.int i1), .val (.int i2), .val (.int z39_2), .unset] [(.ref o1)])) (fun t k => XS.aloadN X0.here hx rfl (hb hby d2_58) rfl rfl k) ?_
          refine step (s₁.setTop (mkF m 60 #[.val (.ref o1), .val (.int (5 : Int32)), .val (.int i1), .val (.int i2), .val (.int z39_2), .unset] [(.int (5 : Int32)), (.ref o1)])) (fun t k => XS.iloadN X0.here hx rfl (hb hby d2_59) rfl k) ?_
          refine step (s₁.setTop (mkF m 61 #[.val (.ref o1), .val (.int (5 : Int32)), .val (.int i1), .val (.int i2), .val (.int z39_2), .unset] [(.int (2 : Int32)), (.int (5 : Int32)), (.ref o1)])) (fun t k => XS.iconst X0.here hx rfl (hb hby d2_60) k) ?_
          refine step (s₁.setTop (mkF m 62 #[.val (.ref o1), .val (.int (5 : Int32)), .val (.int i1), .val (.int i2), .val (.int z39_2), .unset] [(.int (3 : Int32)), (.ref o1)])) (fun t k => XS.isub X0.here hx rfl (hb hby d2_61) rfl k) ?_
          obtain ⟨cl14, Ar14, q14, S14, N14n, H14, G14⟩ := id Pm0
          have hin14 : ¬ ((3 : Int32) < 0 ∨ cl14.slots.size ≤ ((3 : Int32)).toNatClampNeg) := inb_of S14 ⟨by decide, by decide⟩
          have hat14 : cl14.slots[((3 : Int32)).toNatClampNeg]? = some (.int i7) := H14.at hin14 rfl
          refine step (s₁.setTop (mkF m 63 #[.val (.ref o1), .val (.int (5 : Int32)), .val (.int i1), .val (.int i2), .val (.int z39_2), .unset] [(.int i7)])) (fun t k => X0.baloadBytes hx (j := (3 : Int32)) (v := (.int i7)) (by rw [e0]; exact Ar14.1) (State.isArrayOf_alike hZ.alike Ar14.2.1) Ar14.2.2 hin14 hat14 (g := (mkF m 62 #[.val (.ref o1), .val (.int (5 : Int32)), .val (.int i1), .val (.int i2), .val (.int z39_2), .unset] [(.int (3 : Int32)), (.ref o1)])) rfl rfl (hb hby d2_62) t k) ?_
          refine step (s₁.setTop (mkF m 65 #[.val (.ref o1), .val (.int (5 : Int32)), .val (.int i1), .val (.int i2), .val (.int z39_2), .unset] [(.int (13 : Int32)), (.int i7)])) (fun t k => XS.bipush X0.here hx rfl (hb hby d2_63) k) ?_
          by_cases hc65_15 : i7 = (13 : Int32)
          · -- 65 True
            refine step (s₁.setTop (mkF m 68 #[.val (.ref o1), .val (.int (5 : Int32)), .val (.int i1), .val (.int i2), .val (.int z39_2), .unset] [])) (fun t k => XS.icmpNo X0.here hx rfl (hb hby d2_65) rfl (teq hc65_15).2 k) ?_
            refine step (s₁.setTop (mkF m 69 #[.val (.ref o1), .val (.int (5 : Int32)), .val (.int i1), .val (.int i2), .val (.int z39_2), .unset] [(.ref o1)])) (fun t k => XS.aloadN X0.here hx rfl (hb hby d2_68) rfl rfl k) ?_
            refine step (s₁.setTop (mkF m 70 #[.val (.ref o1), .val (.int (5 : Int32)), .val (.int i1), .val (.int i2), .val (.int z39_2), .unset] [(.int (5 : Int32)), (.ref o1)])) (fun t k => XS.iloadN X0.here hx rfl (hb hby d2_69) rfl k) ?_
            refine step (s₁.setTop (mkF m 71 #[.val (.ref o1), .val (.int (5 : Int32)), .val (.int i1), .val (.int i2), .val (.int z39_2), .unset] [(.int (1 : Int32)), (.int (5 : Int32)), (.ref o1)])) (fun t k => XS.iconst X0.here hx rfl (hb hby d2_70) k) ?_
            refine step (s₁.setTop (mkF m 72 #[.val (.ref o1), .val (.int (5 : Int32)), .val (.int i1), .val (.int i2), .val (.int z39_2), .unset] [(.int (4 : Int32)), (.ref o1)])) (fun t k => XS.isub X0.here hx rfl (hb hby d2_71) rfl k) ?_
            obtain ⟨cl16, Ar16, q16, S16, N16n, H16, G16⟩ := id Pm0
            have hin16 : ¬ ((4 : Int32) < 0 ∨ cl16.slots.size ≤ ((4 : Int32)).toNatClampNeg) := inb_of S16 ⟨by decide, by decide⟩
            have hat16 : cl16.slots[((4 : Int32)).toNatClampNeg]? = some (.int i8) := H16.at hin16 rfl
            refine step (s₁.setTop (mkF m 73 #[.val (.ref o1), .val (.int (5 : Int32)), .val (.int i1), .val (.int i2), .val (.int z39_2), .unset] [(.int i8)])) (fun t k => X0.baloadBytes hx (j := (4 : Int32)) (v := (.int i8)) (by rw [e0]; exact Ar16.1) (State.isArrayOf_alike hZ.alike Ar16.2.1) Ar16.2.2 hin16 hat16 (g := (mkF m 72 #[.val (.ref o1), .val (.int (5 : Int32)), .val (.int i1), .val (.int i2), .val (.int z39_2), .unset] [(.int (4 : Int32)), (.ref o1)])) rfl rfl (hb hby d2_72) t k) ?_
            refine step (s₁.setTop (mkF m 75 #[.val (.ref o1), .val (.int (5 : Int32)), .val (.int i1), .val (.int i2), .val (.int z39_2), .unset] [(.int (10 : Int32)), (.int i8)])) (fun t k => XS.bipush X0.here hx rfl (hb hby d2_73) k) ?_
            by_cases hc75_17 : i8 = (10 : Int32)
            · -- 75 True
              refine step (s₁.setTop (mkF m 78 #[.val (.ref o1), .val (.int (5 : Int32)), .val (.int i1), .val (.int i2), .val (.int z39_2), .unset] [])) (fun t k => XS.icmpNo X0.here hx rfl (hb hby d2_75) rfl (teq hc75_17).2 k) ?_
              refine step (s₁.setTop (mkF m 79 #[.val (.ref o1), .val (.int (5 : Int32)), .val (.int i1), .val (.int i2), .val (.int z39_2), .unset] [(.int (1 : Int32))])) (fun t k => XS.iconst X0.here hx rfl (hb hby d2_78) k) ?_
              refine step (s₁.setTop (mkF m 83 #[.val (.ref o1), .val (.int (5 : Int32)), .val (.int i1), .val (.int i2), .val (.int z39_2), .unset] [(.int (1 : Int32))])) (fun t k => XS.goto X0.here hx rfl (pc0 := 79) (pc' := 83) rfl (hb hby d2_79) (by decide) (by decide) k) ?_
              exact J83_10 _ (by simp only [if_neg hc45_11, if_pos hc55_13, if_pos hc65_15, if_pos hc75_17, if_true, if_false] <;> rfl)
            · -- 75 False
              refine step (s₁.setTop (mkF m 82 #[.val (.ref o1), .val (.int (5 : Int32)), .val (.int i1), .val (.int i2), .val (.int z39_2), .unset] [])) (fun t k => XS.icmpYes X0.here hx rfl (pc0 := 75) (pc' := 82) rfl (hb hby d2_75) rfl (feq hc75_17).2 (by decide) (by decide) k) ?_
              refine step (s₁.setTop (mkF m 83 #[.val (.ref o1), .val (.int (5 : Int32)), .val (.int i1), .val (.int i2), .val (.int z39_2), .unset] [(.int (0 : Int32))])) (fun t k => XS.iconst X0.here hx rfl (hb hby d2_82) k) ?_
              exact J83_10 _ (by simp only [if_neg hc45_11, if_pos hc55_13, if_pos hc65_15, if_neg hc75_17, if_true, if_false] <;> rfl)
          · -- 65 False
            refine step (s₁.setTop (mkF m 82 #[.val (.ref o1), .val (.int (5 : Int32)), .val (.int i1), .val (.int i2), .val (.int z39_2), .unset] [])) (fun t k => XS.icmpYes X0.here hx rfl (pc0 := 65) (pc' := 82) rfl (hb hby d2_65) rfl (feq hc65_15).2 (by decide) (by decide) k) ?_
            refine step (s₁.setTop (mkF m 83 #[.val (.ref o1), .val (.int (5 : Int32)), .val (.int i1), .val (.int i2), .val (.int z39_2), .unset] [(.int (0 : Int32))])) (fun t k => XS.iconst X0.here hx rfl (hb hby d2_82) k) ?_
            exact J83_10 _ (by simp only [if_neg hc45_11, if_pos hc55_13, if_neg hc65_15, if_true, if_false] <;> rfl)
        · -- 55 False
          refine step (s₁.setTop (mkF m 82 #[.val (.ref o1), .val (.int (5 : Int32)), .val (.int i1), .val (.int i2), .val (.int z39_2), .unset] [])) (fun t k => XS.icmpYes X0.here hx rfl (pc0 := 55) (pc' := 82) rfl (hb hby d2_55) rfl (feq hc55_13).2 (by decide) (by decide) k) ?_
          refine step (s₁.setTop (mkF m 83 #[.val (.ref o1), .val (.int (5 : Int32)), .val (.int i1), .val (.int i2), .val (.int z39_2), .unset] [(.int (0 : Int32))])) (fun t k => XS.iconst X0.here hx rfl (hb hby d2_82) k) ?_
          exact J83_10 _ (by simp only [if_neg hc45_11, if_neg hc55_13, if_true, if_false] <;> rfl)
    intro z83_9 hz83_9
    refine step (s₁.setTop (mkF m 85 #[.val (.ref o1), .val (.int (5 : Int32)), .val (.int i1), .val (.int i2), .val (.int z39_2), .val (.int z83_9)] [])) (fun t k => XS.istore X0.here hx rfl (hb hby d2_83) rfl (l' := #[.val (.ref o1), .val (.int (5 : Int32)), .val (.int i1), .val (.int i2), .val (.int z39_2), .val (.int z83_9)]) rfl k) ?_
    refine step (s₁.setTop (mkF m 87 #[.val (.ref o1), .val (.int (5 : Int32)), .val (.int i1), .val (.int i2), .val (.int z39_2), .val (.int z83_9)] [(.int z39_2)])) (fun t k => XS.iload X0.here hx rfl (hb hby d2_85) rfl k) ?_
    suffices J100_19 : ∀ (z100_18 : Int32), z100_18 = (if z39_2 = (0 : Int32) then (if z83_9 = (0 : Int32) then (0 : Int32) else (1 : Int32)) else (1 : Int32)) → G (s₁.setTop (mkF m 100 #[.val (.ref o1), .val (.int (5 : Int32)), .val (.int i1), .val (.int i2), .val (.int z39_2), .val (.int z83_9)] [(.int z100_18)])) by
      by_cases hc87_20 : z39_2 = (0 : Int32)
      · -- 87 True
        refine step (s₁.setTop (mkF m 90 #[.val (.ref o1), .val (.int (5 : Int32)), .val (.int i1), .val (.int i2), .val (.int z39_2), .val (.int z83_9)] [])) (fun t k => XS.ifNo X0.here hx rfl (hb hby d2_87) rfl ((if0 _ _).trans (teq hc87_20).2) k) ?_
        refine step (s₁.setTop (mkF m 92 #[.val (.ref o1), .val (.int (5 : Int32)), .val (.int i1), .val (.int i2), .val (.int z39_2), .val (.int z83_9)] [(.int z83_9)])) (fun t k => XS.iload X0.here hx rfl (hb hby d2_90) rfl k) ?_
        by_cases hc92_21 : z83_9 = (0 : Int32)
        · -- 92 True
          refine step (s₁.setTop (mkF m 99 #[.val (.ref o1), .val (.int (5 : Int32)), .val (.int i1), .val (.int i2), .val (.int z39_2), .val (.int z83_9)] [])) (fun t k => XS.ifYes X0.here hx rfl (pc0 := 92) (pc' := 99) rfl (hb hby d2_92) rfl ((if0 _ _).trans (teq hc92_21).1) (by decide) (by decide) k) ?_
          refine step (s₁.setTop (mkF m 100 #[.val (.ref o1), .val (.int (5 : Int32)), .val (.int i1), .val (.int i2), .val (.int z39_2), .val (.int z83_9)] [(.int (0 : Int32))])) (fun t k => XS.iconst X0.here hx rfl (hb hby d2_99) k) ?_
          exact J100_19 _ (by simp only [if_pos hc87_20, if_pos hc92_21, if_true, if_false] <;> rfl)
        · -- 92 False
          refine step (s₁.setTop (mkF m 95 #[.val (.ref o1), .val (.int (5 : Int32)), .val (.int i1), .val (.int i2), .val (.int z39_2), .val (.int z83_9)] [])) (fun t k => XS.ifNo X0.here hx rfl (hb hby d2_92) rfl ((if0 _ _).trans (feq hc92_21).1) k) ?_
          refine step (s₁.setTop (mkF m 96 #[.val (.ref o1), .val (.int (5 : Int32)), .val (.int i1), .val (.int i2), .val (.int z39_2), .val (.int z83_9)] [(.int (1 : Int32))])) (fun t k => XS.iconst X0.here hx rfl (hb hby d2_95) k) ?_
          refine step (s₁.setTop (mkF m 100 #[.val (.ref o1), .val (.int (5 : Int32)), .val (.int i1), .val (.int i2), .val (.int z39_2), .val (.int z83_9)] [(.int (1 : Int32))])) (fun t k => XS.goto X0.here hx rfl (pc0 := 96) (pc' := 100) rfl (hb hby d2_96) (by decide) (by decide) k) ?_
          exact J100_19 _ (by simp only [if_pos hc87_20, if_neg hc92_21, if_true, if_false] <;> rfl)
      · -- 87 False
        refine step (s₁.setTop (mkF m 95 #[.val (.ref o1), .val (.int (5 : Int32)), .val (.int i1), .val (.int i2), .val (.int z39_2), .val (.int z83_9)] [])) (fun t k => XS.ifYes X0.here hx rfl (pc0 := 87) (pc' := 95) rfl (hb hby d2_87) rfl ((if0 _ _).trans (feq hc87_20).2) (by decide) (by decide) k) ?_
        refine step (s₁.setTop (mkF m 96 #[.val (.ref o1), .val (.int (5 : Int32)), .val (.int i1), .val (.int i2), .val (.int z39_2), .val (.int z83_9)] [(.int (1 : Int32))])) (fun t k => XS.iconst X0.here hx rfl (hb hby d2_95) k) ?_
        refine step (s₁.setTop (mkF m 100 #[.val (.ref o1), .val (.int (5 : Int32)), .val (.int i1), .val (.int i2), .val (.int z39_2), .val (.int z83_9)] [(.int (1 : Int32))])) (fun t k => XS.goto X0.here hx rfl (pc0 := 96) (pc' := 100) rfl (hb hby d2_96) (by decide) (by decide) k) ?_
        exact J100_19 _ (by simp only [if_neg hc87_20, if_true, if_false] <;> rfl)
    intro z100_18 hz100_18
    have K0q : Keep h0 h0 [] := Keep.refl _ _
    refine fin (v := some (.int (nar .boolean z100_18))) X0 (fun h => by cases h) ?_ (by decide) (by decide) (fun fs hr => retN X0 hx (t := .boolean) hret (by simp) (hb hby d2_100) hr)
    show Q2_10 Z o1 i1 i2 kc3 i4 i5 i6 i7 i8 i9 h0 n0 (some (.int (nar .boolean z100_18))) s₁.heap _
    rw [e0]
    exact ⟨_, (congrArg (fun z => some (Value.int z)) (by rw [hz100_18]; (repeat' split) <;> rfl : nar .boolean z100_18 = z100_18)), N0, rfl, (by subst hz100_18 hz39_2 hz83_9; simp only [if_neg hc2_1, if_true, if_false] <;> rfl)⟩
theorem ef_2_11 (m : MethodId) (x0 : Addr) (x2 : Int32) (x3 : Int32) : entryFrame m #[(.ref x0), (.int (6 : Int32)), (.int x2), (.int x3)] 6 = mkF m 0 #[.val (.ref x0), .val (.int (6 : Int32)), .val (.int x2), .val (.int x3), .unset, .unset] [] := by first | (simp [entryFrame, mkF, argsToLocals, Value.category]; done) | rfl
def Q2_11 (Z : State) (o1 : Addr) (i1 : Int32) (i2 : Int32) (kc3 : ClassId) (i4 : Int32) (i5 : Int32) (i6 : Int32) (i7 : Int32) (i8 : Int32) (i9 : Int32) (h0 : Heap) (n0 : Nat) (v : Option Value) (h : Heap) (L : List Loc) : Prop := ∃ (y1 : Int32), v = some (.int y1) ∧ Fr n0 L ∧ h = h0 ∧ y1 = (if i2 < (6 : Int32) then (0 : Int32) else (if (if (4 : Int32) < i1 then (0 : Int32) else (if i8 = (10 : Int32) then (if i9 = (10 : Int32) then (1 : Int32) else (0 : Int32)) else (0 : Int32))) = (0 : Int32) then (if (if (3 : Int32) < i1 then (0 : Int32) else (if i7 = (10 : Int32) then (if i8 = (13 : Int32) then (if i9 = (10 : Int32) then (1 : Int32) else (0 : Int32)) else (0 : Int32)) else (0 : Int32))) = (0 : Int32) then (0 : Int32) else (1 : Int32)) else (1 : Int32)))
set_option maxRecDepth 65536 in
set_option maxHeartbeats 40000000 in
theorem rm2_11 (l : Launch) (Z : State) (a0 : Array Value) (hw : ∀ d ∈ tables_1, d.before a0 Z = true) (ws : List Jvm.Cond) (o1 : Addr) (i1 : Int32) (i2 : Int32) (kc3 : ClassId) (i4 : Int32) (i5 : Int32) (i6 : Int32) (i7 : Int32) (i8 : Int32) (i9 : Int32) (h0 : Heap) (n0 : Nat) (Z0 : n0 ≤ h0.size) (Pm0 : Arv Z h0 o1 kc3 .byte (6 : Int32) [(.int i4), (.int i5), (.int i6), (.int i7), (.int i8), (.int i9)] (.int (0 : Int32))) (gn_o1 : n0 ≤ o1) (hy2 : (-1 : Int32) < i1)  :
    MetFree l (⟨"com/example/whisman/whisman/connector/RequestHeadParserHeadEndPinLaw", "endsAt", "([BIII)Z"⟩ : MethodName) (head1 (Jvm.Cond.code (⟨"com/example/whisman/whisman/connector/RequestHeadParserHeadEndPinLaw", "endsAt", "([BIII)Z"⟩ : MethodName) method_4_code 6 (some .boolean) :: ws) ({ frames := 0, cells := 0, slots := 0, locals := 0 } : Room)) (fun a U => a = #[(.ref o1), (.int (6 : Int32)), (.int i1), (.int i2)] ∧ Z.Warmed39 U.vm ∧ U.heap = h0) (fun _ _ _ _ _ => True) (fun _ U o U' => ∃ v L, o = .returned v ∧ Q2_11 Z o1 i1 i2 kc3 i4 i5 i6 i7 i8 i9 h0 n0 v U'.heap L ∧ FrameEnd U o U' L ({ frames := 0, cells := 0, slots := 0, locals := 0 } : Room).cells ({ frames := 0, cells := 0, slots := 0, locals := 0 } : Room).slots) := by
  refine own_body (plainFor_of_name pn_1) ?_
  intro p e s m below meth c s₁ G hx hby hml hZ hown hnm hret X0 e0 step fin
  replace hown : s.vm.findClass "com/example/whisman/whisman/connector/RequestHeadParserHeadEndPinLaw" = some m.cls := hown
  replace hnm : meth.name = "endsAt" := hnm
  replace hret : meth.sig.returnType = some .boolean := hret
  replace hml : c.maxLocals = 6 := hml
  have N0 := Fr.nil n0
  refine step (s₁.setTop (mkF m 0 #[.val (.ref o1), .val (.int (6 : Int32)), .val (.int i1), .val (.int i2), .unset, .unset] [])) (fun t k => castTop (ef_2_11 m o1 i1 i2) k) ?_
  refine step (s₁.setTop (mkF m 1 #[.val (.ref o1), .val (.int (6 : Int32)), .val (.int i1), .val (.int i2), .unset, .unset] [(.int (6 : Int32))])) (fun t k => XS.iloadN X0.here hx rfl (hb hby d2_0) rfl k) ?_
  refine step (s₁.setTop (mkF m 2 #[.val (.ref o1), .val (.int (6 : Int32)), .val (.int i1), .val (.int i2), .unset, .unset] [(.int i2), (.int (6 : Int32))])) (fun t k => XS.iloadN X0.here hx rfl (hb hby d2_1) rfl k) ?_
  by_cases hc2_1 : i2 < (6 : Int32)
  · -- pc 2: i2 < (6 : Int32) True
    refine step (s₁.setTop (mkF m 5 #[.val (.ref o1), .val (.int (6 : Int32)), .val (.int i1), .val (.int i2), .unset, .unset] [])) (fun t k => XS.icmpNo X0.here hx rfl (hb hby d2_2) rfl (tlt hc2_1).2.2.2 k) ?_
    refine step (s₁.setTop (mkF m 6 #[.val (.ref o1), .val (.int (6 : Int32)), .val (.int i1), .val (.int i2), .unset, .unset] [(.int (0 : Int32))])) (fun t k => XS.iconst X0.here hx rfl (hb hby d2_5) k) ?_
    have K0q : Keep h0 h0 [] := Keep.refl _ _
    refine fin (v := some (.int (nar .boolean (0 : Int32)))) X0 (fun h => by cases h) ?_ (by decide) (by decide) (fun fs hr => retN X0 hx (t := .boolean) hret (by simp) (hb hby d2_6) hr)
    show Q2_11 Z o1 i1 i2 kc3 i4 i5 i6 i7 i8 i9 h0 n0 (some (.int (nar .boolean (0 : Int32)))) s₁.heap _
    rw [e0]
    exact ⟨_, rfl, N0, rfl, (by simp only [if_pos hc2_1, if_true, if_false] <;> rfl)⟩
  · -- pc 2: i2 < (6 : Int32) False
    refine step (s₁.setTop (mkF m 7 #[.val (.ref o1), .val (.int (6 : Int32)), .val (.int i1), .val (.int i2), .unset, .unset] [])) (fun t k => XS.icmpYes X0.here hx rfl (pc0 := 2) (pc' := 7) rfl (hb hby d2_2) rfl (flt hc2_1).2.2.2 (by decide) (by decide) k) ?_
    refine step (s₁.setTop (mkF m 8 #[.val (.ref o1), .val (.int (6 : Int32)), .val (.int i1), .val (.int i2), .unset, .unset] [(.int (6 : Int32))])) (fun t k => XS.iloadN X0.here hx rfl (hb hby d2_7) rfl k) ?_
    refine step (s₁.setTop (mkF m 9 #[.val (.ref o1), .val (.int (6 : Int32)), .val (.int i1), .val (.int i2), .unset, .unset] [(.int (2 : Int32)), (.int (6 : Int32))])) (fun t k => XS.iconst X0.here hx rfl (hb hby d2_8) k) ?_
    refine step (s₁.setTop (mkF m 10 #[.val (.ref o1), .val (.int (6 : Int32)), .val (.int i1), .val (.int i2), .unset, .unset] [(.int (4 : Int32))])) (fun t k => XS.isub X0.here hx rfl (hb hby d2_9) rfl k) ?_
    refine step (s₁.setTop (mkF m 11 #[.val (.ref o1), .val (.int (6 : Int32)), .val (.int i1), .val (.int i2), .unset, .unset] [(.int i1), (.int (4 : Int32))])) (fun t k => XS.iloadN X0.here hx rfl (hb hby d2_10) rfl k) ?_
    suffices J39_3 : ∀ (z39_2 : Int32), z39_2 = (if (4 : Int32) < i1 then (0 : Int32) else (if i8 = (10 : Int32) then (if i9 = (10 : Int32) then (1 : Int32) else (0 : Int32)) else (0 : Int32))) → G (s₁.setTop (mkF m 39 #[.val (.ref o1), .val (.int (6 : Int32)), .val (.int i1), .val (.int i2), .unset, .unset] [(.int z39_2)])) by
      by_cases hc11_4 : (4 : Int32) < i1
      · -- 11 True
        refine step (s₁.setTop (mkF m 38 #[.val (.ref o1), .val (.int (6 : Int32)), .val (.int i1), .val (.int i2), .unset, .unset] [])) (fun t k => XS.icmpYes X0.here hx rfl (pc0 := 11) (pc' := 38) rfl (hb hby d2_11) rfl (tlt hc11_4).1 (by decide) (by decide) k) ?_
        refine step (s₁.setTop (mkF m 39 #[.val (.ref o1), .val (.int (6 : Int32)), .val (.int i1), .val (.int i2), .unset, .unset] [(.int (0 : Int32))])) (fun t k => XS.iconst X0.here hx rfl (hb hby d2_38) k) ?_
        exact J39_3 _ (by simp only [if_pos hc11_4, if_true, if_false] <;> rfl)
      · -- 11 False
        refine step (s₁.setTop (mkF m 14 #[.val (.ref o1), .val (.int (6 : Int32)), .val (.int i1), .val (.int i2), .unset, .unset] [])) (fun t k => XS.icmpNo X0.here hx rfl (hb hby d2_11) rfl (flt hc11_4).1 k) ?_
        refine step (s₁.setTop (mkF m 15 #[.val (.ref o1), .val (.int (6 : Int32)), .val (.int i1), .val (.int i2), .unset, .unset] [(.ref o1)])) (fun t k => XS.aloadN X0.here hx rfl (hb hby d2_14) rfl rfl k) ?_
        refine step (s₁.setTop (mkF m 16 #[.val (.ref o1), .val (.int (6 : Int32)), .val (.int i1), .val (.int i2), .unset, .unset] [(.int (6 : Int32)), (.ref o1)])) (fun t k => XS.iloadN X0.here hx rfl (hb hby d2_15) rfl k) ?_
        refine step (s₁.setTop (mkF m 17 #[.val (.ref o1), .val (.int (6 : Int32)), .val (.int i1), .val (.int i2), .unset, .unset] [(.int (2 : Int32)), (.int (6 : Int32)), (.ref o1)])) (fun t k => XS.iconst X0.here hx rfl (hb hby d2_16) k) ?_
        refine step (s₁.setTop (mkF m 18 #[.val (.ref o1), .val (.int (6 : Int32)), .val (.int i1), .val (.int i2), .unset, .unset] [(.int (4 : Int32)), (.ref o1)])) (fun t k => XS.isub X0.here hx rfl (hb hby d2_17) rfl k) ?_
        obtain ⟨cl5, Ar5, q5, S5, N5n, H5, G5⟩ := id Pm0
        have hin5 : ¬ ((4 : Int32) < 0 ∨ cl5.slots.size ≤ ((4 : Int32)).toNatClampNeg) := inb_of S5 ⟨by decide, by decide⟩
        have hat5 : cl5.slots[((4 : Int32)).toNatClampNeg]? = some (.int i8) := H5.at hin5 rfl
        refine step (s₁.setTop (mkF m 19 #[.val (.ref o1), .val (.int (6 : Int32)), .val (.int i1), .val (.int i2), .unset, .unset] [(.int i8)])) (fun t k => X0.baloadBytes hx (j := (4 : Int32)) (v := (.int i8)) (by rw [e0]; exact Ar5.1) (State.isArrayOf_alike hZ.alike Ar5.2.1) Ar5.2.2 hin5 hat5 (g := (mkF m 18 #[.val (.ref o1), .val (.int (6 : Int32)), .val (.int i1), .val (.int i2), .unset, .unset] [(.int (4 : Int32)), (.ref o1)])) rfl rfl (hb hby d2_18) t k) ?_
        refine step (s₁.setTop (mkF m 21 #[.val (.ref o1), .val (.int (6 : Int32)), .val (.int i1), .val (.int i2), .unset, .unset] [(.int (10 : Int32)), (.int i8)])) (fun t k => XS.bipush X0.here hx rfl (hb hby d2_19) k) ?_
        by_cases hc21_6 : i8 = (10 : Int32)
        · -- 21 True
          refine step (s₁.setTop (mkF m 24 #[.val (.ref o1), .val (.int (6 : Int32)), .val (.int i1), .val (.int i2), .unset, .unset] [])) (fun t k => XS.icmpNo X0.here hx rfl (hb hby d2_21) rfl (teq hc21_6).2 k) ?_
          refine step (s₁.setTop (mkF m 25 #[.val (.ref o1), .val (.int (6 : Int32)), .val (.int i1), .val (.int i2), .unset, .unset] [(.ref o1)])) (fun t k => XS.aloadN X0.here hx rfl (hb hby d2_24) rfl rfl k) ?_
          refine step (s₁.setTop (mkF m 26 #[.val (.ref o1), .val (.int (6 : Int32)), .val (.int i1), .val (.int i2), .unset, .unset] [(.int (6 : Int32)), (.ref o1)])) (fun t k => XS.iloadN X0.here hx rfl (hb hby d2_25) rfl k) ?_
          refine step (s₁.setTop (mkF m 27 #[.val (.ref o1), .val (.int (6 : Int32)), .val (.int i1), .val (.int i2), .unset, .unset] [(.int (1 : Int32)), (.int (6 : Int32)), (.ref o1)])) (fun t k => XS.iconst X0.here hx rfl (hb hby d2_26) k) ?_
          refine step (s₁.setTop (mkF m 28 #[.val (.ref o1), .val (.int (6 : Int32)), .val (.int i1), .val (.int i2), .unset, .unset] [(.int (5 : Int32)), (.ref o1)])) (fun t k => XS.isub X0.here hx rfl (hb hby d2_27) rfl k) ?_
          obtain ⟨cl7, Ar7, q7, S7, N7n, H7, G7⟩ := id Pm0
          have hin7 : ¬ ((5 : Int32) < 0 ∨ cl7.slots.size ≤ ((5 : Int32)).toNatClampNeg) := inb_of S7 ⟨by decide, by decide⟩
          have hat7 : cl7.slots[((5 : Int32)).toNatClampNeg]? = some (.int i9) := H7.at hin7 rfl
          refine step (s₁.setTop (mkF m 29 #[.val (.ref o1), .val (.int (6 : Int32)), .val (.int i1), .val (.int i2), .unset, .unset] [(.int i9)])) (fun t k => X0.baloadBytes hx (j := (5 : Int32)) (v := (.int i9)) (by rw [e0]; exact Ar7.1) (State.isArrayOf_alike hZ.alike Ar7.2.1) Ar7.2.2 hin7 hat7 (g := (mkF m 28 #[.val (.ref o1), .val (.int (6 : Int32)), .val (.int i1), .val (.int i2), .unset, .unset] [(.int (5 : Int32)), (.ref o1)])) rfl rfl (hb hby d2_28) t k) ?_
          refine step (s₁.setTop (mkF m 31 #[.val (.ref o1), .val (.int (6 : Int32)), .val (.int i1), .val (.int i2), .unset, .unset] [(.int (10 : Int32)), (.int i9)])) (fun t k => XS.bipush X0.here hx rfl (hb hby d2_29) k) ?_
          by_cases hc31_8 : i9 = (10 : Int32)
          · -- 31 True
            refine step (s₁.setTop (mkF m 34 #[.val (.ref o1), .val (.int (6 : Int32)), .val (.int i1), .val (.int i2), .unset, .unset] [])) (fun t k => XS.icmpNo X0.here hx rfl (hb hby d2_31) rfl (teq hc31_8).2 k) ?_
            refine step (s₁.setTop (mkF m 35 #[.val (.ref o1), .val (.int (6 : Int32)), .val (.int i1), .val (.int i2), .unset, .unset] [(.int (1 : Int32))])) (fun t k => XS.iconst X0.here hx rfl (hb hby d2_34) k) ?_
            refine step (s₁.setTop (mkF m 39 #[.val (.ref o1), .val (.int (6 : Int32)), .val (.int i1), .val (.int i2), .unset, .unset] [(.int (1 : Int32))])) (fun t k => XS.goto X0.here hx rfl (pc0 := 35) (pc' := 39) rfl (hb hby d2_35) (by decide) (by decide) k) ?_
            exact J39_3 _ (by simp only [if_neg hc11_4, if_pos hc21_6, if_pos hc31_8, if_true, if_false] <;> rfl)
          · -- 31 False
            refine step (s₁.setTop (mkF m 38 #[.val (.ref o1), .val (.int (6 : Int32)), .val (.int i1), .val (.int i2), .unset, .unset] [])) (fun t k => XS.icmpYes X0.here hx rfl (pc0 := 31) (pc' := 38) rfl (hb hby d2_31) rfl (feq hc31_8).2 (by decide) (by decide) k) ?_
            refine step (s₁.setTop (mkF m 39 #[.val (.ref o1), .val (.int (6 : Int32)), .val (.int i1), .val (.int i2), .unset, .unset] [(.int (0 : Int32))])) (fun t k => XS.iconst X0.here hx rfl (hb hby d2_38) k) ?_
            exact J39_3 _ (by simp only [if_neg hc11_4, if_pos hc21_6, if_neg hc31_8, if_true, if_false] <;> rfl)
        · -- 21 False
          refine step (s₁.setTop (mkF m 38 #[.val (.ref o1), .val (.int (6 : Int32)), .val (.int i1), .val (.int i2), .unset, .unset] [])) (fun t k => XS.icmpYes X0.here hx rfl (pc0 := 21) (pc' := 38) rfl (hb hby d2_21) rfl (feq hc21_6).2 (by decide) (by decide) k) ?_
          refine step (s₁.setTop (mkF m 39 #[.val (.ref o1), .val (.int (6 : Int32)), .val (.int i1), .val (.int i2), .unset, .unset] [(.int (0 : Int32))])) (fun t k => XS.iconst X0.here hx rfl (hb hby d2_38) k) ?_
          exact J39_3 _ (by simp only [if_neg hc11_4, if_neg hc21_6, if_true, if_false] <;> rfl)
    intro z39_2 hz39_2
    refine step (s₁.setTop (mkF m 41 #[.val (.ref o1), .val (.int (6 : Int32)), .val (.int i1), .val (.int i2), .val (.int z39_2), .unset] [])) (fun t k => XS.istore X0.here hx rfl (hb hby d2_39) rfl (l' := #[.val (.ref o1), .val (.int (6 : Int32)), .val (.int i1), .val (.int i2), .val (.int z39_2), .unset]) rfl k) ?_
    refine step (s₁.setTop (mkF m 42 #[.val (.ref o1), .val (.int (6 : Int32)), .val (.int i1), .val (.int i2), .val (.int z39_2), .unset] [(.int (6 : Int32))])) (fun t k => XS.iloadN X0.here hx rfl (hb hby d2_41) rfl k) ?_
    refine step (s₁.setTop (mkF m 43 #[.val (.ref o1), .val (.int (6 : Int32)), .val (.int i1), .val (.int i2), .val (.int z39_2), .unset] [(.int (3 : Int32)), (.int (6 : Int32))])) (fun t k => XS.iconst X0.here hx rfl (hb hby d2_42) k) ?_
    refine step (s₁.setTop (mkF m 44 #[.val (.ref o1), .val (.int (6 : Int32)), .val (.int i1), .val (.int i2), .val (.int z39_2), .unset] [(.int (3 : Int32))])) (fun t k => XS.isub X0.here hx rfl (hb hby d2_43) rfl k) ?_
    refine step (s₁.setTop (mkF m 45 #[.val (.ref o1), .val (.int (6 : Int32)), .val (.int i1), .val (.int i2), .val (.int z39_2), .unset] [(.int i1), (.int (3 : Int32))])) (fun t k => XS.iloadN X0.here hx rfl (hb hby d2_44) rfl k) ?_
    suffices J83_10 : ∀ (z83_9 : Int32), z83_9 = (if (3 : Int32) < i1 then (0 : Int32) else (if i7 = (10 : Int32) then (if i8 = (13 : Int32) then (if i9 = (10 : Int32) then (1 : Int32) else (0 : Int32)) else (0 : Int32)) else (0 : Int32))) → G (s₁.setTop (mkF m 83 #[.val (.ref o1), .val (.int (6 : Int32)), .val (.int i1), .val (.int i2), .val (.int z39_2), .unset] [(.int z83_9)])) by
      by_cases hc45_11 : (3 : Int32) < i1
      · -- 45 True
        refine step (s₁.setTop (mkF m 82 #[.val (.ref o1), .val (.int (6 : Int32)), .val (.int i1), .val (.int i2), .val (.int z39_2), .unset] [])) (fun t k => XS.icmpYes X0.here hx rfl (pc0 := 45) (pc' := 82) rfl (hb hby d2_45) rfl (tlt hc45_11).1 (by decide) (by decide) k) ?_
        refine step (s₁.setTop (mkF m 83 #[.val (.ref o1), .val (.int (6 : Int32)), .val (.int i1), .val (.int i2), .val (.int z39_2), .unset] [(.int (0 : Int32))])) (fun t k => XS.iconst X0.here hx rfl (hb hby d2_82) k) ?_
        exact J83_10 _ (by simp only [if_pos hc45_11, if_true, if_false] <;> rfl)
      · -- 45 False
        refine step (s₁.setTop (mkF m 48 #[.val (.ref o1), .val (.int (6 : Int32)), .val (.int i1), .val (.int i2), .val (.int z39_2), .unset] [])) (fun t k => XS.icmpNo X0.here hx rfl (hb hby d2_45) rfl (flt hc45_11).1 k) ?_
        refine step (s₁.setTop (mkF m 49 #[.val (.ref o1), .val (.int (6 : Int32)), .val (.int i1), .val (.int i2), .val (.int z39_2), .unset] [(.ref o1)])) (fun t k => XS.aloadN X0.here hx rfl (hb hby d2_48) rfl rfl k) ?_
        refine step (s₁.setTop (mkF m 50 #[.val (.ref o1), .val (.int (6 : Int32)), .val (.int i1), .val (.int i2), .val (.int z39_2), .unset] [(.int (6 : Int32)), (.ref o1)])) (fun t k => XS.iloadN X0.here hx rfl (hb hby d2_49) rfl k) ?_
        refine step (s₁.setTop (mkF m 51 #[.val (.ref o1), .val (.int (6 : Int32)), .val (.int i1), .val (.int i2), .val (.int z39_2), .unset] [(.int (3 : Int32)), (.int (6 : Int32)), (.ref o1)])) (fun t k => XS.iconst X0.here hx rfl (hb hby d2_50) k) ?_
        refine step (s₁.setTop (mkF m 52 #[.val (.ref o1), .val (.int (6 : Int32)), .val (.int i1), .val (.int i2), .val (.int z39_2), .unset] [(.int (3 : Int32)), (.ref o1)])) (fun t k => XS.isub X0.here hx rfl (hb hby d2_51) rfl k) ?_
        obtain ⟨cl12, Ar12, q12, S12, N12n, H12, G12⟩ := id Pm0
        have hin12 : ¬ ((3 : Int32) < 0 ∨ cl12.slots.size ≤ ((3 : Int32)).toNatClampNeg) := inb_of S12 ⟨by decide, by decide⟩
        have hat12 : cl12.slots[((3 : Int32)).toNatClampNeg]? = some (.int i7) := H12.at hin12 rfl
        refine step (s₁.setTop (mkF m 53 #[.val (.ref o1), .val (.int (6 : Int32)), .val (.int i1), .val (.int i2), .val (.int z39_2), .unset] [(.int i7)])) (fun t k => X0.baloadBytes hx (j := (3 : Int32)) (v := (.int i7)) (by rw [e0]; exact Ar12.1) (State.isArrayOf_alike hZ.alike Ar12.2.1) Ar12.2.2 hin12 hat12 (g := (mkF m 52 #[.val (.ref o1), .val (.int (6 : Int32)), .val (.int i1), .val (.int i2), .val (.int z39_2), .unset] [(.int (3 : Int32)), (.ref o1)])) rfl rfl (hb hby d2_52) t k) ?_
        refine step (s₁.setTop (mkF m 55 #[.val (.ref o1), .val (.int (6 : Int32)), .val (.int i1), .val (.int i2), .val (.int z39_2), .unset] [(.int (10 : Int32)), (.int i7)])) (fun t k => XS.bipush X0.here hx rfl (hb hby d2_53) k) ?_
        by_cases hc55_13 : i7 = (10 : Int32)
        · -- 55 True
          refine step (s₁.setTop (mkF m 58 #[.val (.ref o1), .val (.int (6 : Int32)), .val (.int i1), .val (.int i2), .val (.int z39_2), .unset] [])) (fun t k => XS.icmpNo X0.here hx rfl (hb hby d2_55) rfl (teq hc55_13).2 k) ?_
          refine step (s₁.setTop (mkF m 59 #[.val (.ref o1), .val (.int (6 : Int32)), .val (.int i1), .val (.int i2), .val (.int z39_2), .unset] [(.ref o1)])) (fun t k => XS.aloadN X0.here hx rfl (hb hby d2_58) rfl rfl k) ?_
          refine step (s₁.setTop (mkF m 60 #[.val (.ref o1), .val (.int (6 : Int32)), .val (.int i1), .val (.int i2), .val (.int z39_2), .unset] [(.int (6 : Int32)), (.ref o1)])) (fun t k => XS.iloadN X0.here hx rfl (hb hby d2_59) rfl k) ?_
          refine step (s₁.setTop (mkF m 61 #[.val (.ref o1), .val (.int (6 : Int32)), .val (.int i1), .val (.int i2), .val (.int z39_2), .unset] [(.int (2 : Int32)), (.int (6 : Int32)), (.ref o1)])) (fun t k => XS.iconst X0.here hx rfl (hb hby d2_60) k) ?_
          refine step (s₁.setTop (mkF m 62 #[.val (.ref o1), .val (.int (6 : Int32)), .val (.int i1), .val (.int i2), .val (.int z39_2), .unset] [(.int (4 : Int32)), (.ref o1)])) (fun t k => XS.isub X0.here hx rfl (hb hby d2_61) rfl k) ?_
          obtain ⟨cl14, Ar14, q14, S14, N14n, H14, G14⟩ := id Pm0
          have hin14 : ¬ ((4 : Int32) < 0 ∨ cl14.slots.size ≤ ((4 : Int32)).toNatClampNeg) := inb_of S14 ⟨by decide, by decide⟩
          have hat14 : cl14.slots[((4 : Int32)).toNatClampNeg]? = some (.int i8) := H14.at hin14 rfl
          refine step (s₁.setTop (mkF m 63 #[.val (.ref o1), .val (.int (6 : Int32)), .val (.int i1), .val (.int i2), .val (.int z39_2), .unset] [(.int i8)])) (fun t k => X0.baloadBytes hx (j := (4 : Int32)) (v := (.int i8)) (by rw [e0]; exact Ar14.1) (State.isArrayOf_alike hZ.alike Ar14.2.1) Ar14.2.2 hin14 hat14 (g := (mkF m 62 #[.val (.ref o1), .val (.int (6 : Int32)), .val (.int i1), .val (.int i2), .val (.int z39_2), .unset] [(.int (4 : Int32)), (.ref o1)])) rfl rfl (hb hby d2_62) t k) ?_
          refine step (s₁.setTop (mkF m 65 #[.val (.ref o1), .val (.int (6 : Int32)), .val (.int i1), .val (.int i2), .val (.int z39_2), .unset] [(.int (13 : Int32)), (.int i8)])) (fun t k => XS.bipush X0.here hx rfl (hb hby d2_63) k) ?_
          by_cases hc65_15 : i8 = (13 : Int32)
          · -- 65 True
            refine step (s₁.setTop (mkF m 68 #[.val (.ref o1), .val (.int (6 : Int32)), .val (.int i1), .val (.int i2), .val (.int z39_2), .unset] [])) (fun t k => XS.icmpNo X0.here hx rfl (hb hby d2_65) rfl (teq hc65_15).2 k) ?_
            refine step (s₁.setTop (mkF m 69 #[.val (.ref o1), .val (.int (6 : Int32)), .val (.int i1), .val (.int i2), .val (.int z39_2), .unset] [(.ref o1)])) (fun t k => XS.aloadN X0.here hx rfl (hb hby d2_68) rfl rfl k) ?_
            refine step (s₁.setTop (mkF m 70 #[.val (.ref o1), .val (.int (6 : Int32)), .val (.int i1), .val (.int i2), .val (.int z39_2), .unset] [(.int (6 : Int32)), (.ref o1)])) (fun t k => XS.iloadN X0.here hx rfl (hb hby d2_69) rfl k) ?_
            refine step (s₁.setTop (mkF m 71 #[.val (.ref o1), .val (.int (6 : Int32)), .val (.int i1), .val (.int i2), .val (.int z39_2), .unset] [(.int (1 : Int32)), (.int (6 : Int32)), (.ref o1)])) (fun t k => XS.iconst X0.here hx rfl (hb hby d2_70) k) ?_
            refine step (s₁.setTop (mkF m 72 #[.val (.ref o1), .val (.int (6 : Int32)), .val (.int i1), .val (.int i2), .val (.int z39_2), .unset] [(.int (5 : Int32)), (.ref o1)])) (fun t k => XS.isub X0.here hx rfl (hb hby d2_71) rfl k) ?_
            obtain ⟨cl16, Ar16, q16, S16, N16n, H16, G16⟩ := id Pm0
            have hin16 : ¬ ((5 : Int32) < 0 ∨ cl16.slots.size ≤ ((5 : Int32)).toNatClampNeg) := inb_of S16 ⟨by decide, by decide⟩
            have hat16 : cl16.slots[((5 : Int32)).toNatClampNeg]? = some (.int i9) := H16.at hin16 rfl
            refine step (s₁.setTop (mkF m 73 #[.val (.ref o1), .val (.int (6 : Int32)), .val (.int i1), .val (.int i2), .val (.int z39_2), .unset] [(.int i9)])) (fun t k => X0.baloadBytes hx (j := (5 : Int32)) (v := (.int i9)) (by rw [e0]; exact Ar16.1) (State.isArrayOf_alike hZ.alike Ar16.2.1) Ar16.2.2 hin16 hat16 (g := (mkF m 72 #[.val (.ref o1), .val (.int (6 : Int32)), .val (.int i1), .val (.int i2), .val (.int z39_2), .unset] [(.int (5 : Int32)), (.ref o1)])) rfl rfl (hb hby d2_72) t k) ?_
            refine step (s₁.setTop (mkF m 75 #[.val (.ref o1), .val (.int (6 : Int32)), .val (.int i1), .val (.int i2), .val (.int z39_2), .unset] [(.int (10 : Int32)), (.int i9)])) (fun t k => XS.bipush X0.here hx rfl (hb hby d2_73) k) ?_
            by_cases hc75_17 : i9 = (10 : Int32)
            · -- 75 True
              refine step (s₁.setTop (mkF m 78 #[.val (.ref o1), .val (.int (6 : Int32)), .val (.int i1), .val (.int i2), .val (.int z39_2), .unset] [])) (fun t k => XS.icmpNo X0.here hx rfl (hb hby d2_75) rfl (teq hc75_17).2 k) ?_
              refine step (s₁.setTop (mkF m 79 #[.val (.ref o1), .val (.int (6 : Int32)), .val (.int i1), .val (.int i2), .val (.int z39_2), .unset] [(.int (1 : Int32))])) (fun t k => XS.iconst X0.here hx rfl (hb hby d2_78) k) ?_
              refine step (s₁.setTop (mkF m 83 #[.val (.ref o1), .val (.int (6 : Int32)), .val (.int i1), .val (.int i2), .val (.int z39_2), .unset] [(.int (1 : Int32))])) (fun t k => XS.goto X0.here hx rfl (pc0 := 79) (pc' := 83) rfl (hb hby d2_79) (by decide) (by decide) k) ?_
              exact J83_10 _ (by simp only [if_neg hc45_11, if_pos hc55_13, if_pos hc65_15, if_pos hc75_17, if_true, if_false] <;> rfl)
            · -- 75 False
              refine step (s₁.setTop (mkF m 82 #[.val (.ref o1), .val (.int (6 : Int32)), .val (.int i1), .val (.int i2), .val (.int z39_2), .unset] [])) (fun t k => XS.icmpYes X0.here hx rfl (pc0 := 75) (pc' := 82) rfl (hb hby d2_75) rfl (feq hc75_17).2 (by decide) (by decide) k) ?_
              refine step (s₁.setTop (mkF m 83 #[.val (.ref o1), .val (.int (6 : Int32)), .val (.int i1), .val (.int i2), .val (.int z39_2), .unset] [(.int (0 : Int32))])) (fun t k => XS.iconst X0.here hx rfl (hb hby d2_82) k) ?_
              exact J83_10 _ (by simp only [if_neg hc45_11, if_pos hc55_13, if_pos hc65_15, if_neg hc75_17, if_true, if_false] <;> rfl)
          · -- 65 False
            refine step (s₁.setTop (mkF m 82 #[.val (.ref o1), .val (.int (6 : Int32)), .val (.int i1), .val (.int i2), .val (.int z39_2), .unset] [])) (fun t k => XS.icmpYes X0.here hx rfl (pc0 := 65) (pc' := 82) rfl (hb hby d2_65) rfl (feq hc65_15).2 (by decide) (by decide) k) ?_
            refine step (s₁.setTop (mkF m 83 #[.val (.ref o1), .val (.int (6 : Int32)), .val (.int i1), .val (.int i2), .val (.int z39_2), .unset] [(.int (0 : Int32))])) (fun t k => XS.iconst X0.here hx rfl (hb hby d2_82) k) ?_
            exact J83_10 _ (by simp only [if_neg hc45_11, if_pos hc55_13, if_neg hc65_15, if_true, if_false] <;> rfl)
        · -- 55 False
          refine step (s₁.setTop (mkF m 82 #[.val (.ref o1), .val (.int (6 : Int32)), .val (.int i1), .val (.int i2), .val (.int z39_2), .unset] [])) (fun t k => XS.icmpYes X0.here hx rfl (pc0 := 55) (pc' := 82) rfl (hb hby d2_55) rfl (feq hc55_13).2 (by decide) (by decide) k) ?_
          refine step (s₁.setTop (mkF m 83 #[.val (.ref o1), .val (.int (6 : Int32)), .val (.int i1), .val (.int i2), .val (.int z39_2), .unset] [(.int (0 : Int32))])) (fun t k => XS.iconst X0.here hx rfl (hb hby d2_82) k) ?_
          exact J83_10 _ (by simp only [if_neg hc45_11, if_neg hc55_13, if_true, if_false] <;> rfl)
    intro z83_9 hz83_9
    refine step (s₁.setTop (mkF m 85 #[.val (.ref o1), .val (.int (6 : Int32)), .val (.int i1), .val (.int i2), .val (.int z39_2), .val (.int z83_9)] [])) (fun t k => XS.istore X0.here hx rfl (hb hby d2_83) rfl (l' := #[.val (.ref o1), .val (.int (6 : Int32)), .val (.int i1), .val (.int i2), .val (.int z39_2), .val (.int z83_9)]) rfl k) ?_
    refine step (s₁.setTop (mkF m 87 #[.val (.ref o1), .val (.int (6 : Int32)), .val (.int i1), .val (.int i2), .val (.int z39_2), .val (.int z83_9)] [(.int z39_2)])) (fun t k => XS.iload X0.here hx rfl (hb hby d2_85) rfl k) ?_
    suffices J100_19 : ∀ (z100_18 : Int32), z100_18 = (if z39_2 = (0 : Int32) then (if z83_9 = (0 : Int32) then (0 : Int32) else (1 : Int32)) else (1 : Int32)) → G (s₁.setTop (mkF m 100 #[.val (.ref o1), .val (.int (6 : Int32)), .val (.int i1), .val (.int i2), .val (.int z39_2), .val (.int z83_9)] [(.int z100_18)])) by
      by_cases hc87_20 : z39_2 = (0 : Int32)
      · -- 87 True
        refine step (s₁.setTop (mkF m 90 #[.val (.ref o1), .val (.int (6 : Int32)), .val (.int i1), .val (.int i2), .val (.int z39_2), .val (.int z83_9)] [])) (fun t k => XS.ifNo X0.here hx rfl (hb hby d2_87) rfl ((if0 _ _).trans (teq hc87_20).2) k) ?_
        refine step (s₁.setTop (mkF m 92 #[.val (.ref o1), .val (.int (6 : Int32)), .val (.int i1), .val (.int i2), .val (.int z39_2), .val (.int z83_9)] [(.int z83_9)])) (fun t k => XS.iload X0.here hx rfl (hb hby d2_90) rfl k) ?_
        by_cases hc92_21 : z83_9 = (0 : Int32)
        · -- 92 True
          refine step (s₁.setTop (mkF m 99 #[.val (.ref o1), .val (.int (6 : Int32)), .val (.int i1), .val (.int i2), .val (.int z39_2), .val (.int z83_9)] [])) (fun t k => XS.ifYes X0.here hx rfl (pc0 := 92) (pc' := 99) rfl (hb hby d2_92) rfl ((if0 _ _).trans (teq hc92_21).1) (by decide) (by decide) k) ?_
          refine step (s₁.setTop (mkF m 100 #[.val (.ref o1), .val (.int (6 : Int32)), .val (.int i1), .val (.int i2), .val (.int z39_2), .val (.int z83_9)] [(.int (0 : Int32))])) (fun t k => XS.iconst X0.here hx rfl (hb hby d2_99) k) ?_
          exact J100_19 _ (by simp only [if_pos hc87_20, if_pos hc92_21, if_true, if_false] <;> rfl)
        · -- 92 False
          refine step (s₁.setTop (mkF m 95 #[.val (.ref o1), .val (.int (6 : Int32)), .val (.int i1), .val (.int i2), .val (.int z39_2), .val (.int z83_9)] [])) (fun t k => XS.ifNo X0.here hx rfl (hb hby d2_92) rfl ((if0 _ _).trans (feq hc92_21).1) k) ?_
          refine step (s₁.setTop (mkF m 96 #[.val (.ref o1), .val (.int (6 : Int32)), .val (.int i1), .val (.int i2), .val (.int z39_2), .val (.int z83_9)] [(.int (1 : Int32))])) (fun t k => XS.iconst X0.here hx rfl (hb hby d2_95) k) ?_
          refine step (s₁.setTop (mkF m 100 #[.val (.ref o1), .val (.int (6 : Int32)), .val (.int i1), .val (.int i2), .val (.int z39_2), .val (.int z83_9)] [(.int (1 : Int32))])) (fun t k => XS.goto X0.here hx rfl (pc0 := 96) (pc' := 100) rfl (hb hby d2_96) (by decide) (by decide) k) ?_
          exact J100_19 _ (by simp only [if_pos hc87_20, if_neg hc92_21, if_true, if_false] <;> rfl)
      · -- 87 False
        refine step (s₁.setTop (mkF m 95 #[.val (.ref o1), .val (.int (6 : Int32)), .val (.int i1), .val (.int i2), .val (.int z39_2), .val (.int z83_9)] [])) (fun t k => XS.ifYes X0.here hx rfl (pc0 := 87) (pc' := 95) rfl (hb hby d2_87) rfl ((if0 _ _).trans (feq hc87_20).2) (by decide) (by decide) k) ?_
        refine step (s₁.setTop (mkF m 96 #[.val (.ref o1), .val (.int (6 : Int32)), .val (.int i1), .val (.int i2), .val (.int z39_2), .val (.int z83_9)] [(.int (1 : Int32))])) (fun t k => XS.iconst X0.here hx rfl (hb hby d2_95) k) ?_
        refine step (s₁.setTop (mkF m 100 #[.val (.ref o1), .val (.int (6 : Int32)), .val (.int i1), .val (.int i2), .val (.int z39_2), .val (.int z83_9)] [(.int (1 : Int32))])) (fun t k => XS.goto X0.here hx rfl (pc0 := 96) (pc' := 100) rfl (hb hby d2_96) (by decide) (by decide) k) ?_
        exact J100_19 _ (by simp only [if_neg hc87_20, if_true, if_false] <;> rfl)
    intro z100_18 hz100_18
    have K0q : Keep h0 h0 [] := Keep.refl _ _
    refine fin (v := some (.int (nar .boolean z100_18))) X0 (fun h => by cases h) ?_ (by decide) (by decide) (fun fs hr => retN X0 hx (t := .boolean) hret (by simp) (hb hby d2_100) hr)
    show Q2_11 Z o1 i1 i2 kc3 i4 i5 i6 i7 i8 i9 h0 n0 (some (.int (nar .boolean z100_18))) s₁.heap _
    rw [e0]
    exact ⟨_, (congrArg (fun z => some (Value.int z)) (by rw [hz100_18]; (repeat' split) <;> rfl : nar .boolean z100_18 = z100_18)), N0, rfl, (by subst hz100_18 hz39_2 hz83_9; simp only [if_neg hc2_1, if_true, if_false] <;> rfl)⟩
theorem own_plain11 (p0 : Int32) (p1 : Int64) (p2 : Int32) (p3 : Int32) (z_1_2 : Int32) (x0 : Int32) (z_1_4 : Int32) (x1 : Int32) (z_1_6 : Int32) (x2 : Int32) (z_1_8 : Int32) (x3 : Int32) (z_1_10 : Int32) (x4 : Int32) (z_1_12 : Int32) (x5 : Int32) (fm : Int32) (to : Int32) (y1_14 : Int32) (y1_16 : Int32) (y1_18 : Int32) (y1_20 : Int32) (y1_22 : Int32) (z201_25 : Int32) (hz_1_2 : z_1_2 = (if (((p0.toUInt32 >>> ((0 : Int32) &&& 31).toUInt32).toInt32) &&& (3 : Int32)) = (0 : Int32) then (10 : Int32) else (if (((p0.toUInt32 >>> ((0 : Int32) &&& 31).toUInt32).toInt32) &&& (3 : Int32)) = (1 : Int32) then (13 : Int32) else (if (((p0.toUInt32 >>> ((0 : Int32) &&& 31).toUInt32).toInt32) &&& (3 : Int32)) = (2 : Int32) then ((((p1.toUInt64 >>> ((0 : Int32) &&& 0x3f).toInt64.toUInt64).toInt64).toInt32).toInt8.toInt32) else (120 : Int32))))) (hx0 : (nar .byte z_1_2) = x0) (hz_1_4 : z_1_4 = (if (((p0.toUInt32 >>> ((2 : Int32) &&& 31).toUInt32).toInt32) &&& (3 : Int32)) = (0 : Int32) then (10 : Int32) else (if (((p0.toUInt32 >>> ((2 : Int32) &&& 31).toUInt32).toInt32) &&& (3 : Int32)) = (1 : Int32) then (13 : Int32) else (if (((p0.toUInt32 >>> ((2 : Int32) &&& 31).toUInt32).toInt32) &&& (3 : Int32)) = (2 : Int32) then ((((p1.toUInt64 >>> ((8 : Int32) &&& 0x3f).toInt64.toUInt64).toInt64).toInt32).toInt8.toInt32) else (120 : Int32))))) (hx1 : (nar .byte z_1_4) = x1) (hz_1_6 : z_1_6 = (if (((p0.toUInt32 >>> ((4 : Int32) &&& 31).toUInt32).toInt32) &&& (3 : Int32)) = (0 : Int32) then (10 : Int32) else (if (((p0.toUInt32 >>> ((4 : Int32) &&& 31).toUInt32).toInt32) &&& (3 : Int32)) = (1 : Int32) then (13 : Int32) else (if (((p0.toUInt32 >>> ((4 : Int32) &&& 31).toUInt32).toInt32) &&& (3 : Int32)) = (2 : Int32) then ((((p1.toUInt64 >>> ((16 : Int32) &&& 0x3f).toInt64.toUInt64).toInt64).toInt32).toInt8.toInt32) else (120 : Int32))))) (hx2 : (nar .byte z_1_6) = x2) (hz_1_8 : z_1_8 = (if (((p0.toUInt32 >>> ((6 : Int32) &&& 31).toUInt32).toInt32) &&& (3 : Int32)) = (0 : Int32) then (10 : Int32) else (if (((p0.toUInt32 >>> ((6 : Int32) &&& 31).toUInt32).toInt32) &&& (3 : Int32)) = (1 : Int32) then (13 : Int32) else (if (((p0.toUInt32 >>> ((6 : Int32) &&& 31).toUInt32).toInt32) &&& (3 : Int32)) = (2 : Int32) then ((((p1.toUInt64 >>> ((24 : Int32) &&& 0x3f).toInt64.toUInt64).toInt64).toInt32).toInt8.toInt32) else (120 : Int32))))) (hx3 : (nar .byte z_1_8) = x3) (hz_1_10 : z_1_10 = (if (((p0.toUInt32 >>> ((8 : Int32) &&& 31).toUInt32).toInt32) &&& (3 : Int32)) = (0 : Int32) then (10 : Int32) else (if (((p0.toUInt32 >>> ((8 : Int32) &&& 31).toUInt32).toInt32) &&& (3 : Int32)) = (1 : Int32) then (13 : Int32) else (if (((p0.toUInt32 >>> ((8 : Int32) &&& 31).toUInt32).toInt32) &&& (3 : Int32)) = (2 : Int32) then ((((p1.toUInt64 >>> ((32 : Int32) &&& 0x3f).toInt64.toUInt64).toInt64).toInt32).toInt8.toInt32) else (120 : Int32))))) (hx4 : (nar .byte z_1_10) = x4) (hz_1_12 : z_1_12 = (if (((p0.toUInt32 >>> ((10 : Int32) &&& 31).toUInt32).toInt32) &&& (3 : Int32)) = (0 : Int32) then (10 : Int32) else (if (((p0.toUInt32 >>> ((10 : Int32) &&& 31).toUInt32).toInt32) &&& (3 : Int32)) = (1 : Int32) then (13 : Int32) else (if (((p0.toUInt32 >>> ((10 : Int32) &&& 31).toUInt32).toInt32) &&& (3 : Int32)) = (2 : Int32) then ((((p1.toUInt64 >>> ((40 : Int32) &&& 0x3f).toInt64.toUInt64).toInt64).toInt32).toInt8.toInt32) else (120 : Int32))))) (hx5 : (nar .byte z_1_12) = x5) (hfm : ((p2 &&& (2147483647 : Int32)) % (7 : Int32)) = fm) (hto : ((p3 &&& (2147483647 : Int32)) % (7 : Int32)) = to) (hy1_14 : y1_14 = (if to < (2 : Int32) then (0 : Int32) else (if (if (0 : Int32) < fm then (0 : Int32) else (if (nar .byte x0) = (10 : Int32) then (if (nar .byte x1) = (10 : Int32) then (1 : Int32) else (0 : Int32)) else (0 : Int32))) = (0 : Int32) then (0 : Int32) else (1 : Int32)))) (hy1_16 : y1_16 = (if to < (3 : Int32) then (0 : Int32) else (if (if (1 : Int32) < fm then (0 : Int32) else (if (nar .byte x1) = (10 : Int32) then (if (nar .byte x2) = (10 : Int32) then (1 : Int32) else (0 : Int32)) else (0 : Int32))) = (0 : Int32) then (if (if (0 : Int32) < fm then (0 : Int32) else (if (nar .byte x0) = (10 : Int32) then (if (nar .byte x1) = (13 : Int32) then (if (nar .byte x2) = (10 : Int32) then (1 : Int32) else (0 : Int32)) else (0 : Int32)) else (0 : Int32))) = (0 : Int32) then (0 : Int32) else (1 : Int32)) else (1 : Int32)))) (hy1_18 : y1_18 = (if to < (4 : Int32) then (0 : Int32) else (if (if (2 : Int32) < fm then (0 : Int32) else (if (nar .byte x2) = (10 : Int32) then (if (nar .byte x3) = (10 : Int32) then (1 : Int32) else (0 : Int32)) else (0 : Int32))) = (0 : Int32) then (if (if (1 : Int32) < fm then (0 : Int32) else (if (nar .byte x1) = (10 : Int32) then (if (nar .byte x2) = (13 : Int32) then (if (nar .byte x3) = (10 : Int32) then (1 : Int32) else (0 : Int32)) else (0 : Int32)) else (0 : Int32))) = (0 : Int32) then (0 : Int32) else (1 : Int32)) else (1 : Int32)))) (hy1_20 : y1_20 = (if to < (5 : Int32) then (0 : Int32) else (if (if (3 : Int32) < fm then (0 : Int32) else (if (nar .byte x3) = (10 : Int32) then (if (nar .byte x4) = (10 : Int32) then (1 : Int32) else (0 : Int32)) else (0 : Int32))) = (0 : Int32) then (if (if (2 : Int32) < fm then (0 : Int32) else (if (nar .byte x2) = (10 : Int32) then (if (nar .byte x3) = (13 : Int32) then (if (nar .byte x4) = (10 : Int32) then (1 : Int32) else (0 : Int32)) else (0 : Int32)) else (0 : Int32))) = (0 : Int32) then (0 : Int32) else (1 : Int32)) else (1 : Int32)))) (hy1_22 : y1_22 = (if to < (6 : Int32) then (0 : Int32) else (if (if (4 : Int32) < fm then (0 : Int32) else (if (nar .byte x4) = (10 : Int32) then (if (nar .byte x5) = (10 : Int32) then (1 : Int32) else (0 : Int32)) else (0 : Int32))) = (0 : Int32) then (if (if (3 : Int32) < fm then (0 : Int32) else (if (nar .byte x3) = (10 : Int32) then (if (nar .byte x4) = (13 : Int32) then (if (nar .byte x5) = (10 : Int32) then (1 : Int32) else (0 : Int32)) else (0 : Int32)) else (0 : Int32))) = (0 : Int32) then (0 : Int32) else (1 : Int32)) else (1 : Int32)))) (hz201_25 : z201_25 = (if (own_he 7 [(nar .byte x0), (nar .byte x1), (nar .byte x2), (nar .byte x3), (nar .byte x4), (nar .byte x5)] fm to) = (-1 : Int32) then (1 : Int32) else (0 : Int32))) (hc98_15 : y1_14 = (0 : Int32)) (hc117_17 : y1_16 = (0 : Int32)) (hc136_19 : y1_18 = (0 : Int32)) (hc155_21 : y1_20 = (0 : Int32)) (hc175_23 : y1_22 = (0 : Int32)) : z201_25 = 1 := by
  have hx := own_heEx (nar .byte x0) (nar .byte x1) (nar .byte x2) (nar .byte x3) (nar .byte x4) (nar .byte x5) fm to (own_r7 _ _ hfm) (own_r7 _ _ hto)
  rw [hy1_14] at hc98_15
  rw [hy1_16] at hc117_17
  rw [hy1_18] at hc136_19
  rw [hy1_20] at hc155_21
  rw [hy1_22] at hc175_23
  simp only [own_ex, if_pos hc98_15, if_pos hc117_17, if_pos hc136_19, if_pos hc155_21, if_pos hc175_23] at hx
  rw [hz201_25, if_pos hx]
theorem own_plain12 (p0 : Int32) (p1 : Int64) (p2 : Int32) (p3 : Int32) (z_1_2 : Int32) (x0 : Int32) (z_1_4 : Int32) (x1 : Int32) (z_1_6 : Int32) (x2 : Int32) (z_1_8 : Int32) (x3 : Int32) (z_1_10 : Int32) (x4 : Int32) (z_1_12 : Int32) (x5 : Int32) (fm : Int32) (to : Int32) (y1_14 : Int32) (y1_16 : Int32) (y1_18 : Int32) (y1_20 : Int32) (y1_22 : Int32) (z201_29 : Int32) (hz_1_2 : z_1_2 = (if (((p0.toUInt32 >>> ((0 : Int32) &&& 31).toUInt32).toInt32) &&& (3 : Int32)) = (0 : Int32) then (10 : Int32) else (if (((p0.toUInt32 >>> ((0 : Int32) &&& 31).toUInt32).toInt32) &&& (3 : Int32)) = (1 : Int32) then (13 : Int32) else (if (((p0.toUInt32 >>> ((0 : Int32) &&& 31).toUInt32).toInt32) &&& (3 : Int32)) = (2 : Int32) then ((((p1.toUInt64 >>> ((0 : Int32) &&& 0x3f).toInt64.toUInt64).toInt64).toInt32).toInt8.toInt32) else (120 : Int32))))) (hx0 : (nar .byte z_1_2) = x0) (hz_1_4 : z_1_4 = (if (((p0.toUInt32 >>> ((2 : Int32) &&& 31).toUInt32).toInt32) &&& (3 : Int32)) = (0 : Int32) then (10 : Int32) else (if (((p0.toUInt32 >>> ((2 : Int32) &&& 31).toUInt32).toInt32) &&& (3 : Int32)) = (1 : Int32) then (13 : Int32) else (if (((p0.toUInt32 >>> ((2 : Int32) &&& 31).toUInt32).toInt32) &&& (3 : Int32)) = (2 : Int32) then ((((p1.toUInt64 >>> ((8 : Int32) &&& 0x3f).toInt64.toUInt64).toInt64).toInt32).toInt8.toInt32) else (120 : Int32))))) (hx1 : (nar .byte z_1_4) = x1) (hz_1_6 : z_1_6 = (if (((p0.toUInt32 >>> ((4 : Int32) &&& 31).toUInt32).toInt32) &&& (3 : Int32)) = (0 : Int32) then (10 : Int32) else (if (((p0.toUInt32 >>> ((4 : Int32) &&& 31).toUInt32).toInt32) &&& (3 : Int32)) = (1 : Int32) then (13 : Int32) else (if (((p0.toUInt32 >>> ((4 : Int32) &&& 31).toUInt32).toInt32) &&& (3 : Int32)) = (2 : Int32) then ((((p1.toUInt64 >>> ((16 : Int32) &&& 0x3f).toInt64.toUInt64).toInt64).toInt32).toInt8.toInt32) else (120 : Int32))))) (hx2 : (nar .byte z_1_6) = x2) (hz_1_8 : z_1_8 = (if (((p0.toUInt32 >>> ((6 : Int32) &&& 31).toUInt32).toInt32) &&& (3 : Int32)) = (0 : Int32) then (10 : Int32) else (if (((p0.toUInt32 >>> ((6 : Int32) &&& 31).toUInt32).toInt32) &&& (3 : Int32)) = (1 : Int32) then (13 : Int32) else (if (((p0.toUInt32 >>> ((6 : Int32) &&& 31).toUInt32).toInt32) &&& (3 : Int32)) = (2 : Int32) then ((((p1.toUInt64 >>> ((24 : Int32) &&& 0x3f).toInt64.toUInt64).toInt64).toInt32).toInt8.toInt32) else (120 : Int32))))) (hx3 : (nar .byte z_1_8) = x3) (hz_1_10 : z_1_10 = (if (((p0.toUInt32 >>> ((8 : Int32) &&& 31).toUInt32).toInt32) &&& (3 : Int32)) = (0 : Int32) then (10 : Int32) else (if (((p0.toUInt32 >>> ((8 : Int32) &&& 31).toUInt32).toInt32) &&& (3 : Int32)) = (1 : Int32) then (13 : Int32) else (if (((p0.toUInt32 >>> ((8 : Int32) &&& 31).toUInt32).toInt32) &&& (3 : Int32)) = (2 : Int32) then ((((p1.toUInt64 >>> ((32 : Int32) &&& 0x3f).toInt64.toUInt64).toInt64).toInt32).toInt8.toInt32) else (120 : Int32))))) (hx4 : (nar .byte z_1_10) = x4) (hz_1_12 : z_1_12 = (if (((p0.toUInt32 >>> ((10 : Int32) &&& 31).toUInt32).toInt32) &&& (3 : Int32)) = (0 : Int32) then (10 : Int32) else (if (((p0.toUInt32 >>> ((10 : Int32) &&& 31).toUInt32).toInt32) &&& (3 : Int32)) = (1 : Int32) then (13 : Int32) else (if (((p0.toUInt32 >>> ((10 : Int32) &&& 31).toUInt32).toInt32) &&& (3 : Int32)) = (2 : Int32) then ((((p1.toUInt64 >>> ((40 : Int32) &&& 0x3f).toInt64.toUInt64).toInt64).toInt32).toInt8.toInt32) else (120 : Int32))))) (hx5 : (nar .byte z_1_12) = x5) (hfm : ((p2 &&& (2147483647 : Int32)) % (7 : Int32)) = fm) (hto : ((p3 &&& (2147483647 : Int32)) % (7 : Int32)) = to) (hy1_14 : y1_14 = (if to < (2 : Int32) then (0 : Int32) else (if (if (0 : Int32) < fm then (0 : Int32) else (if (nar .byte x0) = (10 : Int32) then (if (nar .byte x1) = (10 : Int32) then (1 : Int32) else (0 : Int32)) else (0 : Int32))) = (0 : Int32) then (0 : Int32) else (1 : Int32)))) (hy1_16 : y1_16 = (if to < (3 : Int32) then (0 : Int32) else (if (if (1 : Int32) < fm then (0 : Int32) else (if (nar .byte x1) = (10 : Int32) then (if (nar .byte x2) = (10 : Int32) then (1 : Int32) else (0 : Int32)) else (0 : Int32))) = (0 : Int32) then (if (if (0 : Int32) < fm then (0 : Int32) else (if (nar .byte x0) = (10 : Int32) then (if (nar .byte x1) = (13 : Int32) then (if (nar .byte x2) = (10 : Int32) then (1 : Int32) else (0 : Int32)) else (0 : Int32)) else (0 : Int32))) = (0 : Int32) then (0 : Int32) else (1 : Int32)) else (1 : Int32)))) (hy1_18 : y1_18 = (if to < (4 : Int32) then (0 : Int32) else (if (if (2 : Int32) < fm then (0 : Int32) else (if (nar .byte x2) = (10 : Int32) then (if (nar .byte x3) = (10 : Int32) then (1 : Int32) else (0 : Int32)) else (0 : Int32))) = (0 : Int32) then (if (if (1 : Int32) < fm then (0 : Int32) else (if (nar .byte x1) = (10 : Int32) then (if (nar .byte x2) = (13 : Int32) then (if (nar .byte x3) = (10 : Int32) then (1 : Int32) else (0 : Int32)) else (0 : Int32)) else (0 : Int32))) = (0 : Int32) then (0 : Int32) else (1 : Int32)) else (1 : Int32)))) (hy1_20 : y1_20 = (if to < (5 : Int32) then (0 : Int32) else (if (if (3 : Int32) < fm then (0 : Int32) else (if (nar .byte x3) = (10 : Int32) then (if (nar .byte x4) = (10 : Int32) then (1 : Int32) else (0 : Int32)) else (0 : Int32))) = (0 : Int32) then (if (if (2 : Int32) < fm then (0 : Int32) else (if (nar .byte x2) = (10 : Int32) then (if (nar .byte x3) = (13 : Int32) then (if (nar .byte x4) = (10 : Int32) then (1 : Int32) else (0 : Int32)) else (0 : Int32)) else (0 : Int32))) = (0 : Int32) then (0 : Int32) else (1 : Int32)) else (1 : Int32)))) (hy1_22 : y1_22 = (if to < (6 : Int32) then (0 : Int32) else (if (if (4 : Int32) < fm then (0 : Int32) else (if (nar .byte x4) = (10 : Int32) then (if (nar .byte x5) = (10 : Int32) then (1 : Int32) else (0 : Int32)) else (0 : Int32))) = (0 : Int32) then (if (if (3 : Int32) < fm then (0 : Int32) else (if (nar .byte x3) = (10 : Int32) then (if (nar .byte x4) = (13 : Int32) then (if (nar .byte x5) = (10 : Int32) then (1 : Int32) else (0 : Int32)) else (0 : Int32)) else (0 : Int32))) = (0 : Int32) then (0 : Int32) else (1 : Int32)) else (1 : Int32)))) (hz201_29 : z201_29 = (if (own_he 7 [(nar .byte x0), (nar .byte x1), (nar .byte x2), (nar .byte x3), (nar .byte x4), (nar .byte x5)] fm to) = (6 : Int32) then (1 : Int32) else (0 : Int32))) (hc98_15 : y1_14 = (0 : Int32)) (hc117_17 : y1_16 = (0 : Int32)) (hc136_19 : y1_18 = (0 : Int32)) (hc155_21 : y1_20 = (0 : Int32)) (hc175_23 : ¬ (y1_22 = (0 : Int32))) : z201_29 = 1 := by
  have hx := own_heEx (nar .byte x0) (nar .byte x1) (nar .byte x2) (nar .byte x3) (nar .byte x4) (nar .byte x5) fm to (own_r7 _ _ hfm) (own_r7 _ _ hto)
  rw [hy1_14] at hc98_15
  rw [hy1_16] at hc117_17
  rw [hy1_18] at hc136_19
  rw [hy1_20] at hc155_21
  rw [hy1_22] at hc175_23
  simp only [own_ex, if_pos hc98_15, if_pos hc117_17, if_pos hc136_19, if_pos hc155_21, if_neg hc175_23] at hx
  rw [hz201_29, if_pos hx]
theorem own_plain13 (p0 : Int32) (p1 : Int64) (p2 : Int32) (p3 : Int32) (z_1_2 : Int32) (x0 : Int32) (z_1_4 : Int32) (x1 : Int32) (z_1_6 : Int32) (x2 : Int32) (z_1_8 : Int32) (x3 : Int32) (z_1_10 : Int32) (x4 : Int32) (z_1_12 : Int32) (x5 : Int32) (fm : Int32) (to : Int32) (y1_14 : Int32) (y1_16 : Int32) (y1_18 : Int32) (y1_20 : Int32) (z201_33 : Int32) (hz_1_2 : z_1_2 = (if (((p0.toUInt32 >>> ((0 : Int32) &&& 31).toUInt32).toInt32) &&& (3 : Int32)) = (0 : Int32) then (10 : Int32) else (if (((p0.toUInt32 >>> ((0 : Int32) &&& 31).toUInt32).toInt32) &&& (3 : Int32)) = (1 : Int32) then (13 : Int32) else (if (((p0.toUInt32 >>> ((0 : Int32) &&& 31).toUInt32).toInt32) &&& (3 : Int32)) = (2 : Int32) then ((((p1.toUInt64 >>> ((0 : Int32) &&& 0x3f).toInt64.toUInt64).toInt64).toInt32).toInt8.toInt32) else (120 : Int32))))) (hx0 : (nar .byte z_1_2) = x0) (hz_1_4 : z_1_4 = (if (((p0.toUInt32 >>> ((2 : Int32) &&& 31).toUInt32).toInt32) &&& (3 : Int32)) = (0 : Int32) then (10 : Int32) else (if (((p0.toUInt32 >>> ((2 : Int32) &&& 31).toUInt32).toInt32) &&& (3 : Int32)) = (1 : Int32) then (13 : Int32) else (if (((p0.toUInt32 >>> ((2 : Int32) &&& 31).toUInt32).toInt32) &&& (3 : Int32)) = (2 : Int32) then ((((p1.toUInt64 >>> ((8 : Int32) &&& 0x3f).toInt64.toUInt64).toInt64).toInt32).toInt8.toInt32) else (120 : Int32))))) (hx1 : (nar .byte z_1_4) = x1) (hz_1_6 : z_1_6 = (if (((p0.toUInt32 >>> ((4 : Int32) &&& 31).toUInt32).toInt32) &&& (3 : Int32)) = (0 : Int32) then (10 : Int32) else (if (((p0.toUInt32 >>> ((4 : Int32) &&& 31).toUInt32).toInt32) &&& (3 : Int32)) = (1 : Int32) then (13 : Int32) else (if (((p0.toUInt32 >>> ((4 : Int32) &&& 31).toUInt32).toInt32) &&& (3 : Int32)) = (2 : Int32) then ((((p1.toUInt64 >>> ((16 : Int32) &&& 0x3f).toInt64.toUInt64).toInt64).toInt32).toInt8.toInt32) else (120 : Int32))))) (hx2 : (nar .byte z_1_6) = x2) (hz_1_8 : z_1_8 = (if (((p0.toUInt32 >>> ((6 : Int32) &&& 31).toUInt32).toInt32) &&& (3 : Int32)) = (0 : Int32) then (10 : Int32) else (if (((p0.toUInt32 >>> ((6 : Int32) &&& 31).toUInt32).toInt32) &&& (3 : Int32)) = (1 : Int32) then (13 : Int32) else (if (((p0.toUInt32 >>> ((6 : Int32) &&& 31).toUInt32).toInt32) &&& (3 : Int32)) = (2 : Int32) then ((((p1.toUInt64 >>> ((24 : Int32) &&& 0x3f).toInt64.toUInt64).toInt64).toInt32).toInt8.toInt32) else (120 : Int32))))) (hx3 : (nar .byte z_1_8) = x3) (hz_1_10 : z_1_10 = (if (((p0.toUInt32 >>> ((8 : Int32) &&& 31).toUInt32).toInt32) &&& (3 : Int32)) = (0 : Int32) then (10 : Int32) else (if (((p0.toUInt32 >>> ((8 : Int32) &&& 31).toUInt32).toInt32) &&& (3 : Int32)) = (1 : Int32) then (13 : Int32) else (if (((p0.toUInt32 >>> ((8 : Int32) &&& 31).toUInt32).toInt32) &&& (3 : Int32)) = (2 : Int32) then ((((p1.toUInt64 >>> ((32 : Int32) &&& 0x3f).toInt64.toUInt64).toInt64).toInt32).toInt8.toInt32) else (120 : Int32))))) (hx4 : (nar .byte z_1_10) = x4) (hz_1_12 : z_1_12 = (if (((p0.toUInt32 >>> ((10 : Int32) &&& 31).toUInt32).toInt32) &&& (3 : Int32)) = (0 : Int32) then (10 : Int32) else (if (((p0.toUInt32 >>> ((10 : Int32) &&& 31).toUInt32).toInt32) &&& (3 : Int32)) = (1 : Int32) then (13 : Int32) else (if (((p0.toUInt32 >>> ((10 : Int32) &&& 31).toUInt32).toInt32) &&& (3 : Int32)) = (2 : Int32) then ((((p1.toUInt64 >>> ((40 : Int32) &&& 0x3f).toInt64.toUInt64).toInt64).toInt32).toInt8.toInt32) else (120 : Int32))))) (hx5 : (nar .byte z_1_12) = x5) (hfm : ((p2 &&& (2147483647 : Int32)) % (7 : Int32)) = fm) (hto : ((p3 &&& (2147483647 : Int32)) % (7 : Int32)) = to) (hy1_14 : y1_14 = (if to < (2 : Int32) then (0 : Int32) else (if (if (0 : Int32) < fm then (0 : Int32) else (if (nar .byte x0) = (10 : Int32) then (if (nar .byte x1) = (10 : Int32) then (1 : Int32) else (0 : Int32)) else (0 : Int32))) = (0 : Int32) then (0 : Int32) else (1 : Int32)))) (hy1_16 : y1_16 = (if to < (3 : Int32) then (0 : Int32) else (if (if (1 : Int32) < fm then (0 : Int32) else (if (nar .byte x1) = (10 : Int32) then (if (nar .byte x2) = (10 : Int32) then (1 : Int32) else (0 : Int32)) else (0 : Int32))) = (0 : Int32) then (if (if (0 : Int32) < fm then (0 : Int32) else (if (nar .byte x0) = (10 : Int32) then (if (nar .byte x1) = (13 : Int32) then (if (nar .byte x2) = (10 : Int32) then (1 : Int32) else (0 : Int32)) else (0 : Int32)) else (0 : Int32))) = (0 : Int32) then (0 : Int32) else (1 : Int32)) else (1 : Int32)))) (hy1_18 : y1_18 = (if to < (4 : Int32) then (0 : Int32) else (if (if (2 : Int32) < fm then (0 : Int32) else (if (nar .byte x2) = (10 : Int32) then (if (nar .byte x3) = (10 : Int32) then (1 : Int32) else (0 : Int32)) else (0 : Int32))) = (0 : Int32) then (if (if (1 : Int32) < fm then (0 : Int32) else (if (nar .byte x1) = (10 : Int32) then (if (nar .byte x2) = (13 : Int32) then (if (nar .byte x3) = (10 : Int32) then (1 : Int32) else (0 : Int32)) else (0 : Int32)) else (0 : Int32))) = (0 : Int32) then (0 : Int32) else (1 : Int32)) else (1 : Int32)))) (hy1_20 : y1_20 = (if to < (5 : Int32) then (0 : Int32) else (if (if (3 : Int32) < fm then (0 : Int32) else (if (nar .byte x3) = (10 : Int32) then (if (nar .byte x4) = (10 : Int32) then (1 : Int32) else (0 : Int32)) else (0 : Int32))) = (0 : Int32) then (if (if (2 : Int32) < fm then (0 : Int32) else (if (nar .byte x2) = (10 : Int32) then (if (nar .byte x3) = (13 : Int32) then (if (nar .byte x4) = (10 : Int32) then (1 : Int32) else (0 : Int32)) else (0 : Int32)) else (0 : Int32))) = (0 : Int32) then (0 : Int32) else (1 : Int32)) else (1 : Int32)))) (hz201_33 : z201_33 = (if (own_he 7 [(nar .byte x0), (nar .byte x1), (nar .byte x2), (nar .byte x3), (nar .byte x4), (nar .byte x5)] fm to) = (5 : Int32) then (1 : Int32) else (0 : Int32))) (hc98_15 : y1_14 = (0 : Int32)) (hc117_17 : y1_16 = (0 : Int32)) (hc136_19 : y1_18 = (0 : Int32)) (hc155_21 : ¬ (y1_20 = (0 : Int32))) : z201_33 = 1 := by
  have hx := own_heEx (nar .byte x0) (nar .byte x1) (nar .byte x2) (nar .byte x3) (nar .byte x4) (nar .byte x5) fm to (own_r7 _ _ hfm) (own_r7 _ _ hto)
  rw [hy1_14] at hc98_15
  rw [hy1_16] at hc117_17
  rw [hy1_18] at hc136_19
  rw [hy1_20] at hc155_21
  simp only [own_ex, if_pos hc98_15, if_pos hc117_17, if_pos hc136_19, if_neg hc155_21] at hx
  rw [hz201_33, if_pos hx]
theorem own_plain14 (p0 : Int32) (p1 : Int64) (p2 : Int32) (p3 : Int32) (z_1_2 : Int32) (x0 : Int32) (z_1_4 : Int32) (x1 : Int32) (z_1_6 : Int32) (x2 : Int32) (z_1_8 : Int32) (x3 : Int32) (z_1_10 : Int32) (x4 : Int32) (z_1_12 : Int32) (x5 : Int32) (fm : Int32) (to : Int32) (y1_14 : Int32) (y1_16 : Int32) (y1_18 : Int32) (z201_37 : Int32) (hz_1_2 : z_1_2 = (if (((p0.toUInt32 >>> ((0 : Int32) &&& 31).toUInt32).toInt32) &&& (3 : Int32)) = (0 : Int32) then (10 : Int32) else (if (((p0.toUInt32 >>> ((0 : Int32) &&& 31).toUInt32).toInt32) &&& (3 : Int32)) = (1 : Int32) then (13 : Int32) else (if (((p0.toUInt32 >>> ((0 : Int32) &&& 31).toUInt32).toInt32) &&& (3 : Int32)) = (2 : Int32) then ((((p1.toUInt64 >>> ((0 : Int32) &&& 0x3f).toInt64.toUInt64).toInt64).toInt32).toInt8.toInt32) else (120 : Int32))))) (hx0 : (nar .byte z_1_2) = x0) (hz_1_4 : z_1_4 = (if (((p0.toUInt32 >>> ((2 : Int32) &&& 31).toUInt32).toInt32) &&& (3 : Int32)) = (0 : Int32) then (10 : Int32) else (if (((p0.toUInt32 >>> ((2 : Int32) &&& 31).toUInt32).toInt32) &&& (3 : Int32)) = (1 : Int32) then (13 : Int32) else (if (((p0.toUInt32 >>> ((2 : Int32) &&& 31).toUInt32).toInt32) &&& (3 : Int32)) = (2 : Int32) then ((((p1.toUInt64 >>> ((8 : Int32) &&& 0x3f).toInt64.toUInt64).toInt64).toInt32).toInt8.toInt32) else (120 : Int32))))) (hx1 : (nar .byte z_1_4) = x1) (hz_1_6 : z_1_6 = (if (((p0.toUInt32 >>> ((4 : Int32) &&& 31).toUInt32).toInt32) &&& (3 : Int32)) = (0 : Int32) then (10 : Int32) else (if (((p0.toUInt32 >>> ((4 : Int32) &&& 31).toUInt32).toInt32) &&& (3 : Int32)) = (1 : Int32) then (13 : Int32) else (if (((p0.toUInt32 >>> ((4 : Int32) &&& 31).toUInt32).toInt32) &&& (3 : Int32)) = (2 : Int32) then ((((p1.toUInt64 >>> ((16 : Int32) &&& 0x3f).toInt64.toUInt64).toInt64).toInt32).toInt8.toInt32) else (120 : Int32))))) (hx2 : (nar .byte z_1_6) = x2) (hz_1_8 : z_1_8 = (if (((p0.toUInt32 >>> ((6 : Int32) &&& 31).toUInt32).toInt32) &&& (3 : Int32)) = (0 : Int32) then (10 : Int32) else (if (((p0.toUInt32 >>> ((6 : Int32) &&& 31).toUInt32).toInt32) &&& (3 : Int32)) = (1 : Int32) then (13 : Int32) else (if (((p0.toUInt32 >>> ((6 : Int32) &&& 31).toUInt32).toInt32) &&& (3 : Int32)) = (2 : Int32) then ((((p1.toUInt64 >>> ((24 : Int32) &&& 0x3f).toInt64.toUInt64).toInt64).toInt32).toInt8.toInt32) else (120 : Int32))))) (hx3 : (nar .byte z_1_8) = x3) (hz_1_10 : z_1_10 = (if (((p0.toUInt32 >>> ((8 : Int32) &&& 31).toUInt32).toInt32) &&& (3 : Int32)) = (0 : Int32) then (10 : Int32) else (if (((p0.toUInt32 >>> ((8 : Int32) &&& 31).toUInt32).toInt32) &&& (3 : Int32)) = (1 : Int32) then (13 : Int32) else (if (((p0.toUInt32 >>> ((8 : Int32) &&& 31).toUInt32).toInt32) &&& (3 : Int32)) = (2 : Int32) then ((((p1.toUInt64 >>> ((32 : Int32) &&& 0x3f).toInt64.toUInt64).toInt64).toInt32).toInt8.toInt32) else (120 : Int32))))) (hx4 : (nar .byte z_1_10) = x4) (hz_1_12 : z_1_12 = (if (((p0.toUInt32 >>> ((10 : Int32) &&& 31).toUInt32).toInt32) &&& (3 : Int32)) = (0 : Int32) then (10 : Int32) else (if (((p0.toUInt32 >>> ((10 : Int32) &&& 31).toUInt32).toInt32) &&& (3 : Int32)) = (1 : Int32) then (13 : Int32) else (if (((p0.toUInt32 >>> ((10 : Int32) &&& 31).toUInt32).toInt32) &&& (3 : Int32)) = (2 : Int32) then ((((p1.toUInt64 >>> ((40 : Int32) &&& 0x3f).toInt64.toUInt64).toInt64).toInt32).toInt8.toInt32) else (120 : Int32))))) (hx5 : (nar .byte z_1_12) = x5) (hfm : ((p2 &&& (2147483647 : Int32)) % (7 : Int32)) = fm) (hto : ((p3 &&& (2147483647 : Int32)) % (7 : Int32)) = to) (hy1_14 : y1_14 = (if to < (2 : Int32) then (0 : Int32) else (if (if (0 : Int32) < fm then (0 : Int32) else (if (nar .byte x0) = (10 : Int32) then (if (nar .byte x1) = (10 : Int32) then (1 : Int32) else (0 : Int32)) else (0 : Int32))) = (0 : Int32) then (0 : Int32) else (1 : Int32)))) (hy1_16 : y1_16 = (if to < (3 : Int32) then (0 : Int32) else (if (if (1 : Int32) < fm then (0 : Int32) else (if (nar .byte x1) = (10 : Int32) then (if (nar .byte x2) = (10 : Int32) then (1 : Int32) else (0 : Int32)) else (0 : Int32))) = (0 : Int32) then (if (if (0 : Int32) < fm then (0 : Int32) else (if (nar .byte x0) = (10 : Int32) then (if (nar .byte x1) = (13 : Int32) then (if (nar .byte x2) = (10 : Int32) then (1 : Int32) else (0 : Int32)) else (0 : Int32)) else (0 : Int32))) = (0 : Int32) then (0 : Int32) else (1 : Int32)) else (1 : Int32)))) (hy1_18 : y1_18 = (if to < (4 : Int32) then (0 : Int32) else (if (if (2 : Int32) < fm then (0 : Int32) else (if (nar .byte x2) = (10 : Int32) then (if (nar .byte x3) = (10 : Int32) then (1 : Int32) else (0 : Int32)) else (0 : Int32))) = (0 : Int32) then (if (if (1 : Int32) < fm then (0 : Int32) else (if (nar .byte x1) = (10 : Int32) then (if (nar .byte x2) = (13 : Int32) then (if (nar .byte x3) = (10 : Int32) then (1 : Int32) else (0 : Int32)) else (0 : Int32)) else (0 : Int32))) = (0 : Int32) then (0 : Int32) else (1 : Int32)) else (1 : Int32)))) (hz201_37 : z201_37 = (if (own_he 7 [(nar .byte x0), (nar .byte x1), (nar .byte x2), (nar .byte x3), (nar .byte x4), (nar .byte x5)] fm to) = (4 : Int32) then (1 : Int32) else (0 : Int32))) (hc98_15 : y1_14 = (0 : Int32)) (hc117_17 : y1_16 = (0 : Int32)) (hc136_19 : ¬ (y1_18 = (0 : Int32))) : z201_37 = 1 := by
  have hx := own_heEx (nar .byte x0) (nar .byte x1) (nar .byte x2) (nar .byte x3) (nar .byte x4) (nar .byte x5) fm to (own_r7 _ _ hfm) (own_r7 _ _ hto)
  rw [hy1_14] at hc98_15
  rw [hy1_16] at hc117_17
  rw [hy1_18] at hc136_19
  simp only [own_ex, if_pos hc98_15, if_pos hc117_17, if_neg hc136_19] at hx
  rw [hz201_37, if_pos hx]
theorem own_plain15 (p0 : Int32) (p1 : Int64) (p2 : Int32) (p3 : Int32) (z_1_2 : Int32) (x0 : Int32) (z_1_4 : Int32) (x1 : Int32) (z_1_6 : Int32) (x2 : Int32) (z_1_8 : Int32) (x3 : Int32) (z_1_10 : Int32) (x4 : Int32) (z_1_12 : Int32) (x5 : Int32) (fm : Int32) (to : Int32) (y1_14 : Int32) (y1_16 : Int32) (z201_41 : Int32) (hz_1_2 : z_1_2 = (if (((p0.toUInt32 >>> ((0 : Int32) &&& 31).toUInt32).toInt32) &&& (3 : Int32)) = (0 : Int32) then (10 : Int32) else (if (((p0.toUInt32 >>> ((0 : Int32) &&& 31).toUInt32).toInt32) &&& (3 : Int32)) = (1 : Int32) then (13 : Int32) else (if (((p0.toUInt32 >>> ((0 : Int32) &&& 31).toUInt32).toInt32) &&& (3 : Int32)) = (2 : Int32) then ((((p1.toUInt64 >>> ((0 : Int32) &&& 0x3f).toInt64.toUInt64).toInt64).toInt32).toInt8.toInt32) else (120 : Int32))))) (hx0 : (nar .byte z_1_2) = x0) (hz_1_4 : z_1_4 = (if (((p0.toUInt32 >>> ((2 : Int32) &&& 31).toUInt32).toInt32) &&& (3 : Int32)) = (0 : Int32) then (10 : Int32) else (if (((p0.toUInt32 >>> ((2 : Int32) &&& 31).toUInt32).toInt32) &&& (3 : Int32)) = (1 : Int32) then (13 : Int32) else (if (((p0.toUInt32 >>> ((2 : Int32) &&& 31).toUInt32).toInt32) &&& (3 : Int32)) = (2 : Int32) then ((((p1.toUInt64 >>> ((8 : Int32) &&& 0x3f).toInt64.toUInt64).toInt64).toInt32).toInt8.toInt32) else (120 : Int32))))) (hx1 : (nar .byte z_1_4) = x1) (hz_1_6 : z_1_6 = (if (((p0.toUInt32 >>> ((4 : Int32) &&& 31).toUInt32).toInt32) &&& (3 : Int32)) = (0 : Int32) then (10 : Int32) else (if (((p0.toUInt32 >>> ((4 : Int32) &&& 31).toUInt32).toInt32) &&& (3 : Int32)) = (1 : Int32) then (13 : Int32) else (if (((p0.toUInt32 >>> ((4 : Int32) &&& 31).toUInt32).toInt32) &&& (3 : Int32)) = (2 : Int32) then ((((p1.toUInt64 >>> ((16 : Int32) &&& 0x3f).toInt64.toUInt64).toInt64).toInt32).toInt8.toInt32) else (120 : Int32))))) (hx2 : (nar .byte z_1_6) = x2) (hz_1_8 : z_1_8 = (if (((p0.toUInt32 >>> ((6 : Int32) &&& 31).toUInt32).toInt32) &&& (3 : Int32)) = (0 : Int32) then (10 : Int32) else (if (((p0.toUInt32 >>> ((6 : Int32) &&& 31).toUInt32).toInt32) &&& (3 : Int32)) = (1 : Int32) then (13 : Int32) else (if (((p0.toUInt32 >>> ((6 : Int32) &&& 31).toUInt32).toInt32) &&& (3 : Int32)) = (2 : Int32) then ((((p1.toUInt64 >>> ((24 : Int32) &&& 0x3f).toInt64.toUInt64).toInt64).toInt32).toInt8.toInt32) else (120 : Int32))))) (hx3 : (nar .byte z_1_8) = x3) (hz_1_10 : z_1_10 = (if (((p0.toUInt32 >>> ((8 : Int32) &&& 31).toUInt32).toInt32) &&& (3 : Int32)) = (0 : Int32) then (10 : Int32) else (if (((p0.toUInt32 >>> ((8 : Int32) &&& 31).toUInt32).toInt32) &&& (3 : Int32)) = (1 : Int32) then (13 : Int32) else (if (((p0.toUInt32 >>> ((8 : Int32) &&& 31).toUInt32).toInt32) &&& (3 : Int32)) = (2 : Int32) then ((((p1.toUInt64 >>> ((32 : Int32) &&& 0x3f).toInt64.toUInt64).toInt64).toInt32).toInt8.toInt32) else (120 : Int32))))) (hx4 : (nar .byte z_1_10) = x4) (hz_1_12 : z_1_12 = (if (((p0.toUInt32 >>> ((10 : Int32) &&& 31).toUInt32).toInt32) &&& (3 : Int32)) = (0 : Int32) then (10 : Int32) else (if (((p0.toUInt32 >>> ((10 : Int32) &&& 31).toUInt32).toInt32) &&& (3 : Int32)) = (1 : Int32) then (13 : Int32) else (if (((p0.toUInt32 >>> ((10 : Int32) &&& 31).toUInt32).toInt32) &&& (3 : Int32)) = (2 : Int32) then ((((p1.toUInt64 >>> ((40 : Int32) &&& 0x3f).toInt64.toUInt64).toInt64).toInt32).toInt8.toInt32) else (120 : Int32))))) (hx5 : (nar .byte z_1_12) = x5) (hfm : ((p2 &&& (2147483647 : Int32)) % (7 : Int32)) = fm) (hto : ((p3 &&& (2147483647 : Int32)) % (7 : Int32)) = to) (hy1_14 : y1_14 = (if to < (2 : Int32) then (0 : Int32) else (if (if (0 : Int32) < fm then (0 : Int32) else (if (nar .byte x0) = (10 : Int32) then (if (nar .byte x1) = (10 : Int32) then (1 : Int32) else (0 : Int32)) else (0 : Int32))) = (0 : Int32) then (0 : Int32) else (1 : Int32)))) (hy1_16 : y1_16 = (if to < (3 : Int32) then (0 : Int32) else (if (if (1 : Int32) < fm then (0 : Int32) else (if (nar .byte x1) = (10 : Int32) then (if (nar .byte x2) = (10 : Int32) then (1 : Int32) else (0 : Int32)) else (0 : Int32))) = (0 : Int32) then (if (if (0 : Int32) < fm then (0 : Int32) else (if (nar .byte x0) = (10 : Int32) then (if (nar .byte x1) = (13 : Int32) then (if (nar .byte x2) = (10 : Int32) then (1 : Int32) else (0 : Int32)) else (0 : Int32)) else (0 : Int32))) = (0 : Int32) then (0 : Int32) else (1 : Int32)) else (1 : Int32)))) (hz201_41 : z201_41 = (if (own_he 7 [(nar .byte x0), (nar .byte x1), (nar .byte x2), (nar .byte x3), (nar .byte x4), (nar .byte x5)] fm to) = (3 : Int32) then (1 : Int32) else (0 : Int32))) (hc98_15 : y1_14 = (0 : Int32)) (hc117_17 : ¬ (y1_16 = (0 : Int32))) : z201_41 = 1 := by
  have hx := own_heEx (nar .byte x0) (nar .byte x1) (nar .byte x2) (nar .byte x3) (nar .byte x4) (nar .byte x5) fm to (own_r7 _ _ hfm) (own_r7 _ _ hto)
  rw [hy1_14] at hc98_15
  rw [hy1_16] at hc117_17
  simp only [own_ex, if_pos hc98_15, if_neg hc117_17] at hx
  rw [hz201_41, if_pos hx]
theorem own_plain16 (p0 : Int32) (p1 : Int64) (p2 : Int32) (p3 : Int32) (z_1_2 : Int32) (x0 : Int32) (z_1_4 : Int32) (x1 : Int32) (z_1_6 : Int32) (x2 : Int32) (z_1_8 : Int32) (x3 : Int32) (z_1_10 : Int32) (x4 : Int32) (z_1_12 : Int32) (x5 : Int32) (fm : Int32) (to : Int32) (y1_14 : Int32) (z201_45 : Int32) (hz_1_2 : z_1_2 = (if (((p0.toUInt32 >>> ((0 : Int32) &&& 31).toUInt32).toInt32) &&& (3 : Int32)) = (0 : Int32) then (10 : Int32) else (if (((p0.toUInt32 >>> ((0 : Int32) &&& 31).toUInt32).toInt32) &&& (3 : Int32)) = (1 : Int32) then (13 : Int32) else (if (((p0.toUInt32 >>> ((0 : Int32) &&& 31).toUInt32).toInt32) &&& (3 : Int32)) = (2 : Int32) then ((((p1.toUInt64 >>> ((0 : Int32) &&& 0x3f).toInt64.toUInt64).toInt64).toInt32).toInt8.toInt32) else (120 : Int32))))) (hx0 : (nar .byte z_1_2) = x0) (hz_1_4 : z_1_4 = (if (((p0.toUInt32 >>> ((2 : Int32) &&& 31).toUInt32).toInt32) &&& (3 : Int32)) = (0 : Int32) then (10 : Int32) else (if (((p0.toUInt32 >>> ((2 : Int32) &&& 31).toUInt32).toInt32) &&& (3 : Int32)) = (1 : Int32) then (13 : Int32) else (if (((p0.toUInt32 >>> ((2 : Int32) &&& 31).toUInt32).toInt32) &&& (3 : Int32)) = (2 : Int32) then ((((p1.toUInt64 >>> ((8 : Int32) &&& 0x3f).toInt64.toUInt64).toInt64).toInt32).toInt8.toInt32) else (120 : Int32))))) (hx1 : (nar .byte z_1_4) = x1) (hz_1_6 : z_1_6 = (if (((p0.toUInt32 >>> ((4 : Int32) &&& 31).toUInt32).toInt32) &&& (3 : Int32)) = (0 : Int32) then (10 : Int32) else (if (((p0.toUInt32 >>> ((4 : Int32) &&& 31).toUInt32).toInt32) &&& (3 : Int32)) = (1 : Int32) then (13 : Int32) else (if (((p0.toUInt32 >>> ((4 : Int32) &&& 31).toUInt32).toInt32) &&& (3 : Int32)) = (2 : Int32) then ((((p1.toUInt64 >>> ((16 : Int32) &&& 0x3f).toInt64.toUInt64).toInt64).toInt32).toInt8.toInt32) else (120 : Int32))))) (hx2 : (nar .byte z_1_6) = x2) (hz_1_8 : z_1_8 = (if (((p0.toUInt32 >>> ((6 : Int32) &&& 31).toUInt32).toInt32) &&& (3 : Int32)) = (0 : Int32) then (10 : Int32) else (if (((p0.toUInt32 >>> ((6 : Int32) &&& 31).toUInt32).toInt32) &&& (3 : Int32)) = (1 : Int32) then (13 : Int32) else (if (((p0.toUInt32 >>> ((6 : Int32) &&& 31).toUInt32).toInt32) &&& (3 : Int32)) = (2 : Int32) then ((((p1.toUInt64 >>> ((24 : Int32) &&& 0x3f).toInt64.toUInt64).toInt64).toInt32).toInt8.toInt32) else (120 : Int32))))) (hx3 : (nar .byte z_1_8) = x3) (hz_1_10 : z_1_10 = (if (((p0.toUInt32 >>> ((8 : Int32) &&& 31).toUInt32).toInt32) &&& (3 : Int32)) = (0 : Int32) then (10 : Int32) else (if (((p0.toUInt32 >>> ((8 : Int32) &&& 31).toUInt32).toInt32) &&& (3 : Int32)) = (1 : Int32) then (13 : Int32) else (if (((p0.toUInt32 >>> ((8 : Int32) &&& 31).toUInt32).toInt32) &&& (3 : Int32)) = (2 : Int32) then ((((p1.toUInt64 >>> ((32 : Int32) &&& 0x3f).toInt64.toUInt64).toInt64).toInt32).toInt8.toInt32) else (120 : Int32))))) (hx4 : (nar .byte z_1_10) = x4) (hz_1_12 : z_1_12 = (if (((p0.toUInt32 >>> ((10 : Int32) &&& 31).toUInt32).toInt32) &&& (3 : Int32)) = (0 : Int32) then (10 : Int32) else (if (((p0.toUInt32 >>> ((10 : Int32) &&& 31).toUInt32).toInt32) &&& (3 : Int32)) = (1 : Int32) then (13 : Int32) else (if (((p0.toUInt32 >>> ((10 : Int32) &&& 31).toUInt32).toInt32) &&& (3 : Int32)) = (2 : Int32) then ((((p1.toUInt64 >>> ((40 : Int32) &&& 0x3f).toInt64.toUInt64).toInt64).toInt32).toInt8.toInt32) else (120 : Int32))))) (hx5 : (nar .byte z_1_12) = x5) (hfm : ((p2 &&& (2147483647 : Int32)) % (7 : Int32)) = fm) (hto : ((p3 &&& (2147483647 : Int32)) % (7 : Int32)) = to) (hy1_14 : y1_14 = (if to < (2 : Int32) then (0 : Int32) else (if (if (0 : Int32) < fm then (0 : Int32) else (if (nar .byte x0) = (10 : Int32) then (if (nar .byte x1) = (10 : Int32) then (1 : Int32) else (0 : Int32)) else (0 : Int32))) = (0 : Int32) then (0 : Int32) else (1 : Int32)))) (hz201_45 : z201_45 = (if (own_he 7 [(nar .byte x0), (nar .byte x1), (nar .byte x2), (nar .byte x3), (nar .byte x4), (nar .byte x5)] fm to) = (2 : Int32) then (1 : Int32) else (0 : Int32))) (hc98_15 : ¬ (y1_14 = (0 : Int32))) : z201_45 = 1 := by
  have hx := own_heEx (nar .byte x0) (nar .byte x1) (nar .byte x2) (nar .byte x3) (nar .byte x4) (nar .byte x5) fm to (own_r7 _ _ hfm) (own_r7 _ _ hto)
  rw [hy1_14] at hc98_15
  simp only [own_ex, if_neg hc98_15] at hx
  rw [hz201_45, if_pos hx]
theorem ef_0 (m : MethodId) (x0 : Int32) (x1 : Int64) (x2 : Int32) (x3 : Int32) : entryFrame m #[(.int x0), (.long x1), (.int x2), (.int x3)] maxLocals = mkF m 0 #[.val (.int x0), .val (.long x1), .second, .val (.int x2), .val (.int x3), .unset, .unset, .unset, .unset] [] := by first | (simp [entryFrame, mkF, argsToLocals, Value.category, maxLocals]; done) | rfl
def Q0 (Z : State) (p0 : Int32) (p1 : Int64) (p2 p3 : Int32) (h0 : Heap) (n0 : Nat) (v : Option Value) (h : Heap) (L : List Loc) : Prop := v = some (.int 1) ∧ Fr n0 L
set_option maxRecDepth 65536 in
set_option maxHeartbeats 40000000 in
theorem rm0 (l : Launch) (Z : State) (a0 : Array Value) (hw : ∀ d ∈ tables_1, d.before a0 Z = true) (ws : List Jvm.Cond) (p0 : Int32) (p1 : Int64) (p2 p3 : Int32) (h0 : Heap) (n0 : Nat) (Z0 : n0 ≤ h0.size)  :
    MetFree l x (head1 (Jvm.Cond.code x code maxLocals ret :: ws) room_1) (fun a U => a = #[(.int p0), (.long p1), (.int p2), (.int p3)] ∧ Z.Warmed39 U.vm ∧ U.heap = h0) (fun _ _ _ _ _ => True) (fun _ U o U' => ∃ v L, o = .returned v ∧ Q0 Z p0 p1 p2 p3 h0 n0 v U'.heap L ∧ FrameEnd U o U' L room_1.cells room_1.slots) := by
  refine own_body (plainFor_of_name pn_1) ?_
  intro p e s m below meth c s₁ G hx hby hml hZ hown hnm hret X0 e0 step fin
  replace hown : s.vm.findClass "com/example/whisman/whisman/connector/RequestHeadParserHeadEndPinLaw" = some m.cls := hown
  replace hnm : meth.name = "law" := hnm
  replace hret : meth.sig.returnType = some .boolean := hret
  replace hml : c.maxLocals = 9 := hml
  have N0 := Fr.nil n0
  refine step (s₁.setTop (mkF m 0 #[.val (.int p0), .val (.long p1), .second, .val (.int p2), .val (.int p3), .unset, .unset, .unset, .unset] [])) (fun t k => castTop (ef_0 m p0 p1 p2 p3) k) ?_
  refine step (s₁.setTop (mkF m 2 #[.val (.int p0), .val (.long p1), .second, .val (.int p2), .val (.int p3), .unset, .unset, .unset, .unset] [(.int (6 : Int32))])) (fun t k => XS.bipush X0.here hx rfl (hb hby at_0) k) ?_
  obtain ⟨T1, h1, k1, X1, e1, E1, A1, st1⟩ := newP X0 hx hZ (hw _ (List.mem_of_getElem? (i := 0) rfl)) e0 (g := (mkF m 2 #[.val (.int p0), .val (.long p1), .second, .val (.int p2), .val (.int p3), .unset, .unset, .unset, .unset] [(.int (6 : Int32))])) rfl (hb hby at_2) rfl (by decide) (cap := 6) (by decide) (by decide) (by decide) (by decide)
  obtain ⟨b1, g1⟩ : ∃ z, z = h0.size := ⟨_, rfl⟩
  rw [← g1] at A1 st1
  have gn_b1 : n0 ≤ b1 := Nat.le_trans Z0 (Nat.le_of_eq g1.symm)
  have sz_b1 : h0.size ≤ b1 := Nat.le_of_eq g1.symm
  have K1 : Keep h0 h1 [] := (Keep.refl h0 []).ext E1
  have V1 : Arv Z h1 b1 k1 .byte (6 : Int32) [(.int (0 : Int32)), (.int (0 : Int32)), (.int (0 : Int32)), (.int (0 : Int32)), (.int (0 : Int32)), (.int (0 : Int32))] (.int (0 : Int32)) := (Arv.new A1 (by decide)).pad (pad_rep [] (.int (0 : Int32)) 6)
  refine step (T1.setTop (mkF m 4 #[.val (.int p0), .val (.long p1), .second, .val (.int p2), .val (.int p3), .unset, .unset, .unset, .unset] [(.ref b1)])) (fun t k => st1 t k) ?_
  refine step (T1.setTop (mkF m 6 #[.val (.int p0), .val (.long p1), .second, .val (.int p2), .val (.int p3), .val (.ref b1), .unset, .unset, .unset] [])) (fun t k => XS.astore X1.here hx rfl (hb hby at_4) rfl rfl (l' := #[.val (.int p0), .val (.long p1), .second, .val (.int p2), .val (.int p3), .val (.ref b1), .unset, .unset, .unset]) rfl k) ?_
  refine step (T1.setTop (mkF m 8 #[.val (.int p0), .val (.long p1), .second, .val (.int p2), .val (.int p3), .val (.ref b1), .unset, .unset, .unset] [(.ref b1)])) (fun t k => XS.aload X1.here hx rfl (hb hby at_6) rfl rfl k) ?_
  refine step (T1.setTop (mkF m 9 #[.val (.int p0), .val (.long p1), .second, .val (.int p2), .val (.int p3), .val (.ref b1), .unset, .unset, .unset] [(.int (0 : Int32)), (.ref b1)])) (fun t k => XS.iconst X1.here hx rfl (hb hby at_8) k) ?_
  refine step (T1.setTop (mkF m 10 #[.val (.int p0), .val (.long p1), .second, .val (.int p2), .val (.int p3), .val (.ref b1), .unset, .unset, .unset] [(.int p0), (.int (0 : Int32)), (.ref b1)])) (fun t k => XS.iloadN X1.here hx rfl (hb hby at_9) rfl k) ?_
  refine step (T1.setTop (mkF m 11 #[.val (.int p0), .val (.long p1), .second, .val (.int p2), .val (.int p3), .val (.ref b1), .unset, .unset, .unset] [(.long p1), (.int p0), (.int (0 : Int32)), (.ref b1)])) (fun t k => XS.lloadN X1.here hx rfl (hb hby at_10) rfl k) ?_
  refine step (T1.setTop (mkF m 12 #[.val (.int p0), .val (.long p1), .second, .val (.int p2), .val (.int p3), .val (.ref b1), .unset, .unset, .unset] [(.int (0 : Int32)), (.long p1), (.int p0), (.int (0 : Int32)), (.ref b1)])) (fun t k => XS.iconst X1.here hx rfl (hb hby at_11) k) ?_
  obtain ⟨_, _, ⟨T2, L2, k2, n2⟩, -, X2, ⟨Lc2, hQ2, l2, y2, z2⟩, st2⟩ := Jvm.LawKit.callS X1 hx (y := (⟨"com/example/whisman/whisman/connector/RequestHeadParserHeadEndPinLaw", "pick", "(IJI)B"⟩ : MethodName)) hown (mvT hZ (hw _ (List.mem_of_getElem? (i := 1) rfl))) (mvT hZ (hw _ (List.mem_of_getElem? (i := 2) rfl))) (mvT hZ (hw _ (List.mem_of_getElem? (i := 3) rfl))) (mvT hZ (hw _ (List.mem_of_getElem? (i := 4) rfl))) (by decide) (backOf (W := 2) (rm1_1 l Z a0 hw [] p0 p1 h1 n0 (Nat.le_trans Z0 K1.1) ) hZ (hw _ (List.mem_of_getElem? (i := 4) rfl)) (hw _ (List.mem_of_getElem? (i := 3) rfl)) (by decide) (by decide)) (g := (mkF m 12 #[.val (.int p0), .val (.long p1), .second, .val (.int p2), .val (.int p3), .val (.ref b1), .unset, .unset, .unset] [(.int (0 : Int32)), (.long p1), (.int p0), (.int (0 : Int32)), (.ref b1)])) rfl (by rw [hml]; rfl) (argsL := [(.int p0), (.long p1), (.int (0 : Int32))]) (rest := [(.int (0 : Int32)), (.ref b1)]) (lenOf pd_0 rfl) rfl (by show 2 * 0 + _ ≤ _; exact Nat.le_of_eq rfl) (hb hby at_12) (fun _ _ => ⟨rfl, e1, (by decide : 1 + 0 ≤ _), (by decide : 6 + 0 ≤ _)⟩)
  dsimp only [Pt.U, Pt.locs, Pt.cells, Pt.slots] at X2 l2 y2 z2 st2 hQ2
  subst l2 y2 z2
  obtain ⟨z_1_2, rfl, N2q, e2q, hz_1_2⟩ := hQ2
  have N2 := Fr.app N0 N2q
  refine step (T2.setTop (mkF m 15 #[.val (.int p0), .val (.long p1), .second, .val (.int p2), .val (.int p3), .val (.ref b1), .unset, .unset, .unset] [(.int (nar .byte z_1_2)), (.int (0 : Int32)), (.ref b1)])) (fun t k => st2 t k) ?_
  generalize hx0 : (nar .byte z_1_2) = x0
  obtain ⟨cl3, Ar3, q3, S3, N3n, H3, G3⟩ := id V1
  have hin3 : ¬ ((0 : Int32) < 0 ∨ cl3.slots.size ≤ ((0 : Int32)).toNatClampNeg) := inb_of S3 ⟨by decide, by decide⟩
  obtain ⟨T3, h3, X3, e3, W3, st3⟩ := stB X2 hx hZ e2q Ar3 (j := (0 : Int32)) hin3 (g := (mkF m 15 #[.val (.int p0), .val (.long p1), .second, .val (.int p2), .val (.int p3), .val (.ref b1), .unset, .unset, .unset] [(.int x0), (.int (0 : Int32)), (.ref b1)])) rfl rfl (hb hby at_15)
  have N3 := Fr.snoc X3 N2 gn_b1
  have K3 : Keep h0 h3 [] := K1.wr W3 (Or.inr sz_b1)
  have V3 : Arv Z h3 b1 k1 .byte (6 : Int32) [(.int (nar .byte x0)), (.int (0 : Int32)), (.int (0 : Int32)), (.int (0 : Int32)), (.int (0 : Int32)), (.int (0 : Int32))] (.int (0 : Int32)) := Arv.set Ar3 q3 S3 N3n H3 G3 (fits_nar_byte x0) W3 0 rfl (Nat.le_of_ble_eq_true rfl)
  refine step (T3.setTop (mkF m 16 #[.val (.int p0), .val (.long p1), .second, .val (.int p2), .val (.int p3), .val (.ref b1), .unset, .unset, .unset] [])) (fun t k => st3 t k) ?_
  refine step (T3.setTop (mkF m 18 #[.val (.int p0), .val (.long p1), .second, .val (.int p2), .val (.int p3), .val (.ref b1), .unset, .unset, .unset] [(.ref b1)])) (fun t k => XS.aload X3.here hx rfl (hb hby at_16) rfl rfl k) ?_
  refine step (T3.setTop (mkF m 19 #[.val (.int p0), .val (.long p1), .second, .val (.int p2), .val (.int p3), .val (.ref b1), .unset, .unset, .unset] [(.int (1 : Int32)), (.ref b1)])) (fun t k => XS.iconst X3.here hx rfl (hb hby at_18) k) ?_
  refine step (T3.setTop (mkF m 20 #[.val (.int p0), .val (.long p1), .second, .val (.int p2), .val (.int p3), .val (.ref b1), .unset, .unset, .unset] [(.int p0), (.int (1 : Int32)), (.ref b1)])) (fun t k => XS.iloadN X3.here hx rfl (hb hby at_19) rfl k) ?_
  refine step (T3.setTop (mkF m 21 #[.val (.int p0), .val (.long p1), .second, .val (.int p2), .val (.int p3), .val (.ref b1), .unset, .unset, .unset] [(.long p1), (.int p0), (.int (1 : Int32)), (.ref b1)])) (fun t k => XS.lloadN X3.here hx rfl (hb hby at_20) rfl k) ?_
  refine step (T3.setTop (mkF m 22 #[.val (.int p0), .val (.long p1), .second, .val (.int p2), .val (.int p3), .val (.ref b1), .unset, .unset, .unset] [(.int (1 : Int32)), (.long p1), (.int p0), (.int (1 : Int32)), (.ref b1)])) (fun t k => XS.iconst X3.here hx rfl (hb hby at_21) k) ?_
  obtain ⟨_, _, ⟨T4, L4, k4, n4⟩, -, X4, ⟨Lc4, hQ4, l4, y4, z4⟩, st4⟩ := Jvm.LawKit.callS X3 hx (y := (⟨"com/example/whisman/whisman/connector/RequestHeadParserHeadEndPinLaw", "pick", "(IJI)B"⟩ : MethodName)) hown (mvT hZ (hw _ (List.mem_of_getElem? (i := 1) rfl))) (mvT hZ (hw _ (List.mem_of_getElem? (i := 2) rfl))) (mvT hZ (hw _ (List.mem_of_getElem? (i := 3) rfl))) (mvT hZ (hw _ (List.mem_of_getElem? (i := 4) rfl))) (by decide) (backOf (W := 2) (rm1_2 l Z a0 hw [] p0 p1 h3 n0 (Nat.le_trans Z0 K3.1) ) hZ (hw _ (List.mem_of_getElem? (i := 4) rfl)) (hw _ (List.mem_of_getElem? (i := 3) rfl)) (by decide) (by decide)) (g := (mkF m 22 #[.val (.int p0), .val (.long p1), .second, .val (.int p2), .val (.int p3), .val (.ref b1), .unset, .unset, .unset] [(.int (1 : Int32)), (.long p1), (.int p0), (.int (1 : Int32)), (.ref b1)])) rfl (by rw [hml]; rfl) (argsL := [(.int p0), (.long p1), (.int (1 : Int32))]) (rest := [(.int (1 : Int32)), (.ref b1)]) (lenOf pd_0 rfl) rfl (by show 2 * 0 + _ ≤ _; exact Nat.le_of_eq rfl) (hb hby at_22) (fun _ _ => ⟨rfl, e3, (by decide : 1 + 0 ≤ _), (by decide : 6 + 0 ≤ _)⟩)
  dsimp only [Pt.U, Pt.locs, Pt.cells, Pt.slots] at X4 l4 y4 z4 st4 hQ4
  subst l4 y4 z4
  obtain ⟨z_1_4, rfl, N4q, e4q, hz_1_4⟩ := hQ4
  have N4 := Fr.app N3 N4q
  refine step (T4.setTop (mkF m 25 #[.val (.int p0), .val (.long p1), .second, .val (.int p2), .val (.int p3), .val (.ref b1), .unset, .unset, .unset] [(.int (nar .byte z_1_4)), (.int (1 : Int32)), (.ref b1)])) (fun t k => st4 t k) ?_
  generalize hx1 : (nar .byte z_1_4) = x1
  obtain ⟨cl5, Ar5, q5, S5, N5n, H5, G5⟩ := id V3
  have hin5 : ¬ ((1 : Int32) < 0 ∨ cl5.slots.size ≤ ((1 : Int32)).toNatClampNeg) := inb_of S5 ⟨by decide, by decide⟩
  obtain ⟨T5, h5, X5, e5, W5, st5⟩ := stB X4 hx hZ e4q Ar5 (j := (1 : Int32)) hin5 (g := (mkF m 25 #[.val (.int p0), .val (.long p1), .second, .val (.int p2), .val (.int p3), .val (.ref b1), .unset, .unset, .unset] [(.int x1), (.int (1 : Int32)), (.ref b1)])) rfl rfl (hb hby at_25)
  have N5 := Fr.snoc X5 N4 gn_b1
  have K5 : Keep h0 h5 [] := K3.wr W5 (Or.inr sz_b1)
  have V5 : Arv Z h5 b1 k1 .byte (6 : Int32) [(.int (nar .byte x0)), (.int (nar .byte x1)), (.int (0 : Int32)), (.int (0 : Int32)), (.int (0 : Int32)), (.int (0 : Int32))] (.int (0 : Int32)) := Arv.set Ar5 q5 S5 N5n H5 G5 (fits_nar_byte x1) W5 1 rfl (Nat.le_of_ble_eq_true rfl)
  refine step (T5.setTop (mkF m 26 #[.val (.int p0), .val (.long p1), .second, .val (.int p2), .val (.int p3), .val (.ref b1), .unset, .unset, .unset] [])) (fun t k => st5 t k) ?_
  refine step (T5.setTop (mkF m 28 #[.val (.int p0), .val (.long p1), .second, .val (.int p2), .val (.int p3), .val (.ref b1), .unset, .unset, .unset] [(.ref b1)])) (fun t k => XS.aload X5.here hx rfl (hb hby at_26) rfl rfl k) ?_
  refine step (T5.setTop (mkF m 29 #[.val (.int p0), .val (.long p1), .second, .val (.int p2), .val (.int p3), .val (.ref b1), .unset, .unset, .unset] [(.int (2 : Int32)), (.ref b1)])) (fun t k => XS.iconst X5.here hx rfl (hb hby at_28) k) ?_
  refine step (T5.setTop (mkF m 30 #[.val (.int p0), .val (.long p1), .second, .val (.int p2), .val (.int p3), .val (.ref b1), .unset, .unset, .unset] [(.int p0), (.int (2 : Int32)), (.ref b1)])) (fun t k => XS.iloadN X5.here hx rfl (hb hby at_29) rfl k) ?_
  refine step (T5.setTop (mkF m 31 #[.val (.int p0), .val (.long p1), .second, .val (.int p2), .val (.int p3), .val (.ref b1), .unset, .unset, .unset] [(.long p1), (.int p0), (.int (2 : Int32)), (.ref b1)])) (fun t k => XS.lloadN X5.here hx rfl (hb hby at_30) rfl k) ?_
  refine step (T5.setTop (mkF m 32 #[.val (.int p0), .val (.long p1), .second, .val (.int p2), .val (.int p3), .val (.ref b1), .unset, .unset, .unset] [(.int (2 : Int32)), (.long p1), (.int p0), (.int (2 : Int32)), (.ref b1)])) (fun t k => XS.iconst X5.here hx rfl (hb hby at_31) k) ?_
  obtain ⟨_, _, ⟨T6, L6, k6, n6⟩, -, X6, ⟨Lc6, hQ6, l6, y6, z6⟩, st6⟩ := Jvm.LawKit.callS X5 hx (y := (⟨"com/example/whisman/whisman/connector/RequestHeadParserHeadEndPinLaw", "pick", "(IJI)B"⟩ : MethodName)) hown (mvT hZ (hw _ (List.mem_of_getElem? (i := 1) rfl))) (mvT hZ (hw _ (List.mem_of_getElem? (i := 2) rfl))) (mvT hZ (hw _ (List.mem_of_getElem? (i := 3) rfl))) (mvT hZ (hw _ (List.mem_of_getElem? (i := 4) rfl))) (by decide) (backOf (W := 2) (rm1_3 l Z a0 hw [] p0 p1 h5 n0 (Nat.le_trans Z0 K5.1) ) hZ (hw _ (List.mem_of_getElem? (i := 4) rfl)) (hw _ (List.mem_of_getElem? (i := 3) rfl)) (by decide) (by decide)) (g := (mkF m 32 #[.val (.int p0), .val (.long p1), .second, .val (.int p2), .val (.int p3), .val (.ref b1), .unset, .unset, .unset] [(.int (2 : Int32)), (.long p1), (.int p0), (.int (2 : Int32)), (.ref b1)])) rfl (by rw [hml]; rfl) (argsL := [(.int p0), (.long p1), (.int (2 : Int32))]) (rest := [(.int (2 : Int32)), (.ref b1)]) (lenOf pd_0 rfl) rfl (by show 2 * 0 + _ ≤ _; exact Nat.le_of_eq rfl) (hb hby at_32) (fun _ _ => ⟨rfl, e5, (by decide : 1 + 0 ≤ _), (by decide : 6 + 0 ≤ _)⟩)
  dsimp only [Pt.U, Pt.locs, Pt.cells, Pt.slots] at X6 l6 y6 z6 st6 hQ6
  subst l6 y6 z6
  obtain ⟨z_1_6, rfl, N6q, e6q, hz_1_6⟩ := hQ6
  have N6 := Fr.app N5 N6q
  refine step (T6.setTop (mkF m 35 #[.val (.int p0), .val (.long p1), .second, .val (.int p2), .val (.int p3), .val (.ref b1), .unset, .unset, .unset] [(.int (nar .byte z_1_6)), (.int (2 : Int32)), (.ref b1)])) (fun t k => st6 t k) ?_
  generalize hx2 : (nar .byte z_1_6) = x2
  obtain ⟨cl7, Ar7, q7, S7, N7n, H7, G7⟩ := id V5
  have hin7 : ¬ ((2 : Int32) < 0 ∨ cl7.slots.size ≤ ((2 : Int32)).toNatClampNeg) := inb_of S7 ⟨by decide, by decide⟩
  obtain ⟨T7, h7, X7, e7, W7, st7⟩ := stB X6 hx hZ e6q Ar7 (j := (2 : Int32)) hin7 (g := (mkF m 35 #[.val (.int p0), .val (.long p1), .second, .val (.int p2), .val (.int p3), .val (.ref b1), .unset, .unset, .unset] [(.int x2), (.int (2 : Int32)), (.ref b1)])) rfl rfl (hb hby at_35)
  have N7 := Fr.snoc X7 N6 gn_b1
  have K7 : Keep h0 h7 [] := K5.wr W7 (Or.inr sz_b1)
  have V7 : Arv Z h7 b1 k1 .byte (6 : Int32) [(.int (nar .byte x0)), (.int (nar .byte x1)), (.int (nar .byte x2)), (.int (0 : Int32)), (.int (0 : Int32)), (.int (0 : Int32))] (.int (0 : Int32)) := Arv.set Ar7 q7 S7 N7n H7 G7 (fits_nar_byte x2) W7 2 rfl (Nat.le_of_ble_eq_true rfl)
  refine step (T7.setTop (mkF m 36 #[.val (.int p0), .val (.long p1), .second, .val (.int p2), .val (.int p3), .val (.ref b1), .unset, .unset, .unset] [])) (fun t k => st7 t k) ?_
  refine step (T7.setTop (mkF m 38 #[.val (.int p0), .val (.long p1), .second, .val (.int p2), .val (.int p3), .val (.ref b1), .unset, .unset, .unset] [(.ref b1)])) (fun t k => XS.aload X7.here hx rfl (hb hby at_36) rfl rfl k) ?_
  refine step (T7.setTop (mkF m 39 #[.val (.int p0), .val (.long p1), .second, .val (.int p2), .val (.int p3), .val (.ref b1), .unset, .unset, .unset] [(.int (3 : Int32)), (.ref b1)])) (fun t k => XS.iconst X7.here hx rfl (hb hby at_38) k) ?_
  refine step (T7.setTop (mkF m 40 #[.val (.int p0), .val (.long p1), .second, .val (.int p2), .val (.int p3), .val (.ref b1), .unset, .unset, .unset] [(.int p0), (.int (3 : Int32)), (.ref b1)])) (fun t k => XS.iloadN X7.here hx rfl (hb hby at_39) rfl k) ?_
  refine step (T7.setTop (mkF m 41 #[.val (.int p0), .val (.long p1), .second, .val (.int p2), .val (.int p3), .val (.ref b1), .unset, .unset, .unset] [(.long p1), (.int p0), (.int (3 : Int32)), (.ref b1)])) (fun t k => XS.lloadN X7.here hx rfl (hb hby at_40) rfl k) ?_
  refine step (T7.setTop (mkF m 42 #[.val (.int p0), .val (.long p1), .second, .val (.int p2), .val (.int p3), .val (.ref b1), .unset, .unset, .unset] [(.int (3 : Int32)), (.long p1), (.int p0), (.int (3 : Int32)), (.ref b1)])) (fun t k => XS.iconst X7.here hx rfl (hb hby at_41) k) ?_
  obtain ⟨_, _, ⟨T8, L8, k8, n8⟩, -, X8, ⟨Lc8, hQ8, l8, y8, z8⟩, st8⟩ := Jvm.LawKit.callS X7 hx (y := (⟨"com/example/whisman/whisman/connector/RequestHeadParserHeadEndPinLaw", "pick", "(IJI)B"⟩ : MethodName)) hown (mvT hZ (hw _ (List.mem_of_getElem? (i := 1) rfl))) (mvT hZ (hw _ (List.mem_of_getElem? (i := 2) rfl))) (mvT hZ (hw _ (List.mem_of_getElem? (i := 3) rfl))) (mvT hZ (hw _ (List.mem_of_getElem? (i := 4) rfl))) (by decide) (backOf (W := 2) (rm1_4 l Z a0 hw [] p0 p1 h7 n0 (Nat.le_trans Z0 K7.1) ) hZ (hw _ (List.mem_of_getElem? (i := 4) rfl)) (hw _ (List.mem_of_getElem? (i := 3) rfl)) (by decide) (by decide)) (g := (mkF m 42 #[.val (.int p0), .val (.long p1), .second, .val (.int p2), .val (.int p3), .val (.ref b1), .unset, .unset, .unset] [(.int (3 : Int32)), (.long p1), (.int p0), (.int (3 : Int32)), (.ref b1)])) rfl (by rw [hml]; rfl) (argsL := [(.int p0), (.long p1), (.int (3 : Int32))]) (rest := [(.int (3 : Int32)), (.ref b1)]) (lenOf pd_0 rfl) rfl (by show 2 * 0 + _ ≤ _; exact Nat.le_of_eq rfl) (hb hby at_42) (fun _ _ => ⟨rfl, e7, (by decide : 1 + 0 ≤ _), (by decide : 6 + 0 ≤ _)⟩)
  dsimp only [Pt.U, Pt.locs, Pt.cells, Pt.slots] at X8 l8 y8 z8 st8 hQ8
  subst l8 y8 z8
  obtain ⟨z_1_8, rfl, N8q, e8q, hz_1_8⟩ := hQ8
  have N8 := Fr.app N7 N8q
  refine step (T8.setTop (mkF m 45 #[.val (.int p0), .val (.long p1), .second, .val (.int p2), .val (.int p3), .val (.ref b1), .unset, .unset, .unset] [(.int (nar .byte z_1_8)), (.int (3 : Int32)), (.ref b1)])) (fun t k => st8 t k) ?_
  generalize hx3 : (nar .byte z_1_8) = x3
  obtain ⟨cl9, Ar9, q9, S9, N9n, H9, G9⟩ := id V7
  have hin9 : ¬ ((3 : Int32) < 0 ∨ cl9.slots.size ≤ ((3 : Int32)).toNatClampNeg) := inb_of S9 ⟨by decide, by decide⟩
  obtain ⟨T9, h9, X9, e9, W9, st9⟩ := stB X8 hx hZ e8q Ar9 (j := (3 : Int32)) hin9 (g := (mkF m 45 #[.val (.int p0), .val (.long p1), .second, .val (.int p2), .val (.int p3), .val (.ref b1), .unset, .unset, .unset] [(.int x3), (.int (3 : Int32)), (.ref b1)])) rfl rfl (hb hby at_45)
  have N9 := Fr.snoc X9 N8 gn_b1
  have K9 : Keep h0 h9 [] := K7.wr W9 (Or.inr sz_b1)
  have V9 : Arv Z h9 b1 k1 .byte (6 : Int32) [(.int (nar .byte x0)), (.int (nar .byte x1)), (.int (nar .byte x2)), (.int (nar .byte x3)), (.int (0 : Int32)), (.int (0 : Int32))] (.int (0 : Int32)) := Arv.set Ar9 q9 S9 N9n H9 G9 (fits_nar_byte x3) W9 3 rfl (Nat.le_of_ble_eq_true rfl)
  refine step (T9.setTop (mkF m 46 #[.val (.int p0), .val (.long p1), .second, .val (.int p2), .val (.int p3), .val (.ref b1), .unset, .unset, .unset] [])) (fun t k => st9 t k) ?_
  refine step (T9.setTop (mkF m 48 #[.val (.int p0), .val (.long p1), .second, .val (.int p2), .val (.int p3), .val (.ref b1), .unset, .unset, .unset] [(.ref b1)])) (fun t k => XS.aload X9.here hx rfl (hb hby at_46) rfl rfl k) ?_
  refine step (T9.setTop (mkF m 49 #[.val (.int p0), .val (.long p1), .second, .val (.int p2), .val (.int p3), .val (.ref b1), .unset, .unset, .unset] [(.int (4 : Int32)), (.ref b1)])) (fun t k => XS.iconst X9.here hx rfl (hb hby at_48) k) ?_
  refine step (T9.setTop (mkF m 50 #[.val (.int p0), .val (.long p1), .second, .val (.int p2), .val (.int p3), .val (.ref b1), .unset, .unset, .unset] [(.int p0), (.int (4 : Int32)), (.ref b1)])) (fun t k => XS.iloadN X9.here hx rfl (hb hby at_49) rfl k) ?_
  refine step (T9.setTop (mkF m 51 #[.val (.int p0), .val (.long p1), .second, .val (.int p2), .val (.int p3), .val (.ref b1), .unset, .unset, .unset] [(.long p1), (.int p0), (.int (4 : Int32)), (.ref b1)])) (fun t k => XS.lloadN X9.here hx rfl (hb hby at_50) rfl k) ?_
  refine step (T9.setTop (mkF m 52 #[.val (.int p0), .val (.long p1), .second, .val (.int p2), .val (.int p3), .val (.ref b1), .unset, .unset, .unset] [(.int (4 : Int32)), (.long p1), (.int p0), (.int (4 : Int32)), (.ref b1)])) (fun t k => XS.iconst X9.here hx rfl (hb hby at_51) k) ?_
  obtain ⟨_, _, ⟨T10, L10, k10, n10⟩, -, X10, ⟨Lc10, hQ10, l10, y10, z10⟩, st10⟩ := Jvm.LawKit.callS X9 hx (y := (⟨"com/example/whisman/whisman/connector/RequestHeadParserHeadEndPinLaw", "pick", "(IJI)B"⟩ : MethodName)) hown (mvT hZ (hw _ (List.mem_of_getElem? (i := 1) rfl))) (mvT hZ (hw _ (List.mem_of_getElem? (i := 2) rfl))) (mvT hZ (hw _ (List.mem_of_getElem? (i := 3) rfl))) (mvT hZ (hw _ (List.mem_of_getElem? (i := 4) rfl))) (by decide) (backOf (W := 2) (rm1_5 l Z a0 hw [] p0 p1 h9 n0 (Nat.le_trans Z0 K9.1) ) hZ (hw _ (List.mem_of_getElem? (i := 4) rfl)) (hw _ (List.mem_of_getElem? (i := 3) rfl)) (by decide) (by decide)) (g := (mkF m 52 #[.val (.int p0), .val (.long p1), .second, .val (.int p2), .val (.int p3), .val (.ref b1), .unset, .unset, .unset] [(.int (4 : Int32)), (.long p1), (.int p0), (.int (4 : Int32)), (.ref b1)])) rfl (by rw [hml]; rfl) (argsL := [(.int p0), (.long p1), (.int (4 : Int32))]) (rest := [(.int (4 : Int32)), (.ref b1)]) (lenOf pd_0 rfl) rfl (by show 2 * 0 + _ ≤ _; exact Nat.le_of_eq rfl) (hb hby at_52) (fun _ _ => ⟨rfl, e9, (by decide : 1 + 0 ≤ _), (by decide : 6 + 0 ≤ _)⟩)
  dsimp only [Pt.U, Pt.locs, Pt.cells, Pt.slots] at X10 l10 y10 z10 st10 hQ10
  subst l10 y10 z10
  obtain ⟨z_1_10, rfl, N10q, e10q, hz_1_10⟩ := hQ10
  have N10 := Fr.app N9 N10q
  refine step (T10.setTop (mkF m 55 #[.val (.int p0), .val (.long p1), .second, .val (.int p2), .val (.int p3), .val (.ref b1), .unset, .unset, .unset] [(.int (nar .byte z_1_10)), (.int (4 : Int32)), (.ref b1)])) (fun t k => st10 t k) ?_
  generalize hx4 : (nar .byte z_1_10) = x4
  obtain ⟨cl11, Ar11, q11, S11, N11n, H11, G11⟩ := id V9
  have hin11 : ¬ ((4 : Int32) < 0 ∨ cl11.slots.size ≤ ((4 : Int32)).toNatClampNeg) := inb_of S11 ⟨by decide, by decide⟩
  obtain ⟨T11, h11, X11, e11, W11, st11⟩ := stB X10 hx hZ e10q Ar11 (j := (4 : Int32)) hin11 (g := (mkF m 55 #[.val (.int p0), .val (.long p1), .second, .val (.int p2), .val (.int p3), .val (.ref b1), .unset, .unset, .unset] [(.int x4), (.int (4 : Int32)), (.ref b1)])) rfl rfl (hb hby at_55)
  have N11 := Fr.snoc X11 N10 gn_b1
  have K11 : Keep h0 h11 [] := K9.wr W11 (Or.inr sz_b1)
  have V11 : Arv Z h11 b1 k1 .byte (6 : Int32) [(.int (nar .byte x0)), (.int (nar .byte x1)), (.int (nar .byte x2)), (.int (nar .byte x3)), (.int (nar .byte x4)), (.int (0 : Int32))] (.int (0 : Int32)) := Arv.set Ar11 q11 S11 N11n H11 G11 (fits_nar_byte x4) W11 4 rfl (Nat.le_of_ble_eq_true rfl)
  refine step (T11.setTop (mkF m 56 #[.val (.int p0), .val (.long p1), .second, .val (.int p2), .val (.int p3), .val (.ref b1), .unset, .unset, .unset] [])) (fun t k => st11 t k) ?_
  refine step (T11.setTop (mkF m 58 #[.val (.int p0), .val (.long p1), .second, .val (.int p2), .val (.int p3), .val (.ref b1), .unset, .unset, .unset] [(.ref b1)])) (fun t k => XS.aload X11.here hx rfl (hb hby at_56) rfl rfl k) ?_
  refine step (T11.setTop (mkF m 59 #[.val (.int p0), .val (.long p1), .second, .val (.int p2), .val (.int p3), .val (.ref b1), .unset, .unset, .unset] [(.int (5 : Int32)), (.ref b1)])) (fun t k => XS.iconst X11.here hx rfl (hb hby at_58) k) ?_
  refine step (T11.setTop (mkF m 60 #[.val (.int p0), .val (.long p1), .second, .val (.int p2), .val (.int p3), .val (.ref b1), .unset, .unset, .unset] [(.int p0), (.int (5 : Int32)), (.ref b1)])) (fun t k => XS.iloadN X11.here hx rfl (hb hby at_59) rfl k) ?_
  refine step (T11.setTop (mkF m 61 #[.val (.int p0), .val (.long p1), .second, .val (.int p2), .val (.int p3), .val (.ref b1), .unset, .unset, .unset] [(.long p1), (.int p0), (.int (5 : Int32)), (.ref b1)])) (fun t k => XS.lloadN X11.here hx rfl (hb hby at_60) rfl k) ?_
  refine step (T11.setTop (mkF m 62 #[.val (.int p0), .val (.long p1), .second, .val (.int p2), .val (.int p3), .val (.ref b1), .unset, .unset, .unset] [(.int (5 : Int32)), (.long p1), (.int p0), (.int (5 : Int32)), (.ref b1)])) (fun t k => XS.iconst X11.here hx rfl (hb hby at_61) k) ?_
  obtain ⟨_, _, ⟨T12, L12, k12, n12⟩, -, X12, ⟨Lc12, hQ12, l12, y12, z12⟩, st12⟩ := Jvm.LawKit.callS X11 hx (y := (⟨"com/example/whisman/whisman/connector/RequestHeadParserHeadEndPinLaw", "pick", "(IJI)B"⟩ : MethodName)) hown (mvT hZ (hw _ (List.mem_of_getElem? (i := 1) rfl))) (mvT hZ (hw _ (List.mem_of_getElem? (i := 2) rfl))) (mvT hZ (hw _ (List.mem_of_getElem? (i := 3) rfl))) (mvT hZ (hw _ (List.mem_of_getElem? (i := 4) rfl))) (by decide) (backOf (W := 2) (rm1_6 l Z a0 hw [] p0 p1 h11 n0 (Nat.le_trans Z0 K11.1) ) hZ (hw _ (List.mem_of_getElem? (i := 4) rfl)) (hw _ (List.mem_of_getElem? (i := 3) rfl)) (by decide) (by decide)) (g := (mkF m 62 #[.val (.int p0), .val (.long p1), .second, .val (.int p2), .val (.int p3), .val (.ref b1), .unset, .unset, .unset] [(.int (5 : Int32)), (.long p1), (.int p0), (.int (5 : Int32)), (.ref b1)])) rfl (by rw [hml]; rfl) (argsL := [(.int p0), (.long p1), (.int (5 : Int32))]) (rest := [(.int (5 : Int32)), (.ref b1)]) (lenOf pd_0 rfl) rfl (by show 2 * 0 + _ ≤ _; exact Nat.le_of_eq rfl) (hb hby at_62) (fun _ _ => ⟨rfl, e11, (by decide : 1 + 0 ≤ _), (by decide : 6 + 0 ≤ _)⟩)
  dsimp only [Pt.U, Pt.locs, Pt.cells, Pt.slots] at X12 l12 y12 z12 st12 hQ12
  subst l12 y12 z12
  obtain ⟨z_1_12, rfl, N12q, e12q, hz_1_12⟩ := hQ12
  have N12 := Fr.app N11 N12q
  refine step (T12.setTop (mkF m 65 #[.val (.int p0), .val (.long p1), .second, .val (.int p2), .val (.int p3), .val (.ref b1), .unset, .unset, .unset] [(.int (nar .byte z_1_12)), (.int (5 : Int32)), (.ref b1)])) (fun t k => st12 t k) ?_
  generalize hx5 : (nar .byte z_1_12) = x5
  obtain ⟨cl13, Ar13, q13, S13, N13n, H13, G13⟩ := id V11
  have hin13 : ¬ ((5 : Int32) < 0 ∨ cl13.slots.size ≤ ((5 : Int32)).toNatClampNeg) := inb_of S13 ⟨by decide, by decide⟩
  obtain ⟨T13, h13, X13, e13, W13, st13⟩ := stB X12 hx hZ e12q Ar13 (j := (5 : Int32)) hin13 (g := (mkF m 65 #[.val (.int p0), .val (.long p1), .second, .val (.int p2), .val (.int p3), .val (.ref b1), .unset, .unset, .unset] [(.int x5), (.int (5 : Int32)), (.ref b1)])) rfl rfl (hb hby at_65)
  have N13 := Fr.snoc X13 N12 gn_b1
  have K13 : Keep h0 h13 [] := K11.wr W13 (Or.inr sz_b1)
  have V13 : Arv Z h13 b1 k1 .byte (6 : Int32) [(.int (nar .byte x0)), (.int (nar .byte x1)), (.int (nar .byte x2)), (.int (nar .byte x3)), (.int (nar .byte x4)), (.int (nar .byte x5))] (.int (0 : Int32)) := Arv.set Ar13 q13 S13 N13n H13 G13 (fits_nar_byte x5) W13 5 rfl (Nat.le_of_ble_eq_true rfl)
  refine step (T13.setTop (mkF m 66 #[.val (.int p0), .val (.long p1), .second, .val (.int p2), .val (.int p3), .val (.ref b1), .unset, .unset, .unset] [])) (fun t k => st13 t k) ?_
  refine step (T13.setTop (mkF m 67 #[.val (.int p0), .val (.long p1), .second, .val (.int p2), .val (.int p3), .val (.ref b1), .unset, .unset, .unset] [(.int p2)])) (fun t k => XS.iloadN X13.here hx rfl (hb hby at_66) rfl k) ?_
  refine step (T13.setTop (mkF m 69 #[.val (.int p0), .val (.long p1), .second, .val (.int p2), .val (.int p3), .val (.ref b1), .unset, .unset, .unset] [(.int (2147483647 : Int32)), (.int p2)])) (fun t k => X13.ldcInt hx hown (mvT hZ (hw _ (List.mem_of_getElem? (i := 5) rfl))) (g := (mkF m 67 #[.val (.int p0), .val (.long p1), .second, .val (.int p2), .val (.int p3), .val (.ref b1), .unset, .unset, .unset] [(.int p2)])) rfl (hb hby at_67) t k) ?_
  refine step (T13.setTop (mkF m 70 #[.val (.int p0), .val (.long p1), .second, .val (.int p2), .val (.int p3), .val (.ref b1), .unset, .unset, .unset] [(.int (p2 &&& (2147483647 : Int32)))])) (fun t k => XS.iand X13.here hx rfl (hb hby at_69) rfl k) ?_
  refine step (T13.setTop (mkF m 72 #[.val (.int p0), .val (.long p1), .second, .val (.int p2), .val (.int p3), .val (.ref b1), .unset, .unset, .unset] [(.int (7 : Int32)), (.int (p2 &&& (2147483647 : Int32)))])) (fun t k => XS.bipush X13.here hx rfl (hb hby at_70) k) ?_
  refine step (T13.setTop (mkF m 73 #[.val (.int p0), .val (.long p1), .second, .val (.int p2), .val (.int p3), .val (.ref b1), .unset, .unset, .unset] [(.int ((p2 &&& (2147483647 : Int32)) % (7 : Int32)))])) (fun t k => iremM X13 hx rfl (hb hby at_72) rfl (by decide) k) ?_
  generalize hfm : ((p2 &&& (2147483647 : Int32)) % (7 : Int32)) = fm
  have gm := own_gm (own_r7 _ _ hfm).1
  refine step (T13.setTop (mkF m 75 #[.val (.int p0), .val (.long p1), .second, .val (.int p2), .val (.int p3), .val (.ref b1), .val (.int fm), .unset, .unset] [])) (fun t k => XS.istore X13.here hx rfl (hb hby at_73) rfl (l' := #[.val (.int p0), .val (.long p1), .second, .val (.int p2), .val (.int p3), .val (.ref b1), .val (.int fm), .unset, .unset]) rfl k) ?_
  refine step (T13.setTop (mkF m 77 #[.val (.int p0), .val (.long p1), .second, .val (.int p2), .val (.int p3), .val (.ref b1), .val (.int fm), .unset, .unset] [(.int p3)])) (fun t k => XS.iload X13.here hx rfl (hb hby at_75) rfl k) ?_
  refine step (T13.setTop (mkF m 79 #[.val (.int p0), .val (.long p1), .second, .val (.int p2), .val (.int p3), .val (.ref b1), .val (.int fm), .unset, .unset] [(.int (2147483647 : Int32)), (.int p3)])) (fun t k => X13.ldcInt hx hown (mvT hZ (hw _ (List.mem_of_getElem? (i := 5) rfl))) (g := (mkF m 77 #[.val (.int p0), .val (.long p1), .second, .val (.int p2), .val (.int p3), .val (.ref b1), .val (.int fm), .unset, .unset] [(.int p3)])) rfl (hb hby at_77) t k) ?_
  refine step (T13.setTop (mkF m 80 #[.val (.int p0), .val (.long p1), .second, .val (.int p2), .val (.int p3), .val (.ref b1), .val (.int fm), .unset, .unset] [(.int (p3 &&& (2147483647 : Int32)))])) (fun t k => XS.iand X13.here hx rfl (hb hby at_79) rfl k) ?_
  refine step (T13.setTop (mkF m 82 #[.val (.int p0), .val (.long p1), .second, .val (.int p2), .val (.int p3), .val (.ref b1), .val (.int fm), .unset, .unset] [(.int (7 : Int32)), (.int (p3 &&& (2147483647 : Int32)))])) (fun t k => XS.bipush X13.here hx rfl (hb hby at_80) k) ?_
  refine step (T13.setTop (mkF m 83 #[.val (.int p0), .val (.long p1), .second, .val (.int p2), .val (.int p3), .val (.ref b1), .val (.int fm), .unset, .unset] [(.int ((p3 &&& (2147483647 : Int32)) % (7 : Int32)))])) (fun t k => iremM X13 hx rfl (hb hby at_82) rfl (by decide) k) ?_
  generalize hto : ((p3 &&& (2147483647 : Int32)) % (7 : Int32)) = to
  refine step (T13.setTop (mkF m 85 #[.val (.int p0), .val (.long p1), .second, .val (.int p2), .val (.int p3), .val (.ref b1), .val (.int fm), .val (.int to), .unset] [])) (fun t k => XS.istore X13.here hx rfl (hb hby at_83) rfl (l' := #[.val (.int p0), .val (.long p1), .second, .val (.int p2), .val (.int p3), .val (.ref b1), .val (.int fm), .val (.int to), .unset]) rfl k) ?_
  refine step (T13.setTop (mkF m 86 #[.val (.int p0), .val (.long p1), .second, .val (.int p2), .val (.int p3), .val (.ref b1), .val (.int fm), .val (.int to), .unset] [(.int (-1 : Int32))])) (fun t k => XS.iconst X13.here hx rfl (hb hby at_85) k) ?_
  refine step (T13.setTop (mkF m 88 #[.val (.int p0), .val (.long p1), .second, .val (.int p2), .val (.int p3), .val (.ref b1), .val (.int fm), .val (.int to), .val (.int (-1 : Int32))] [])) (fun t k => XS.istore X13.here hx rfl (hb hby at_86) rfl (l' := #[.val (.int p0), .val (.long p1), .second, .val (.int p2), .val (.int p3), .val (.ref b1), .val (.int fm), .val (.int to), .val (.int (-1 : Int32))]) rfl k) ?_
  refine step (T13.setTop (mkF m 90 #[.val (.int p0), .val (.long p1), .second, .val (.int p2), .val (.int p3), .val (.ref b1), .val (.int fm), .val (.int to), .val (.int (-1 : Int32))] [(.ref b1)])) (fun t k => XS.aload X13.here hx rfl (hb hby at_88) rfl rfl k) ?_
  refine step (T13.setTop (mkF m 91 #[.val (.int p0), .val (.long p1), .second, .val (.int p2), .val (.int p3), .val (.ref b1), .val (.int fm), .val (.int to), .val (.int (-1 : Int32))] [(.int (2 : Int32)), (.ref b1)])) (fun t k => XS.iconst X13.here hx rfl (hb hby at_90) k) ?_
  refine step (T13.setTop (mkF m 93 #[.val (.int p0), .val (.long p1), .second, .val (.int p2), .val (.int p3), .val (.ref b1), .val (.int fm), .val (.int to), .val (.int (-1 : Int32))] [(.int fm), (.int (2 : Int32)), (.ref b1)])) (fun t k => XS.iload X13.here hx rfl (hb hby at_91) rfl k) ?_
  refine step (T13.setTop (mkF m 95 #[.val (.int p0), .val (.long p1), .second, .val (.int p2), .val (.int p3), .val (.ref b1), .val (.int fm), .val (.int to), .val (.int (-1 : Int32))] [(.int to), (.int fm), (.int (2 : Int32)), (.ref b1)])) (fun t k => XS.iload X13.here hx rfl (hb hby at_93) rfl k) ?_
  obtain ⟨_, _, ⟨T14, L14, k14, n14⟩, -, X14, ⟨Lc14, hQ14, l14, y14, z14⟩, st14⟩ := Jvm.LawKit.callS X13 hx (y := (⟨"com/example/whisman/whisman/connector/RequestHeadParserHeadEndPinLaw", "endsAt", "([BIII)Z"⟩ : MethodName)) hown (mvT hZ (hw _ (List.mem_of_getElem? (i := 6) rfl))) (mvT hZ (hw _ (List.mem_of_getElem? (i := 7) rfl))) (mvT hZ (hw _ (List.mem_of_getElem? (i := 3) rfl))) (mvT hZ (hw _ (List.mem_of_getElem? (i := 8) rfl))) (by decide) (backOf (W := 0) (rm2_7 l Z a0 hw [] b1 fm to k1 (nar .byte x0) (nar .byte x1) (nar .byte x2) (nar .byte x3) (nar .byte x4) (nar .byte x5) h13 n0 (Nat.le_trans Z0 K13.1) V13 gn_b1 gm) hZ (hw _ (List.mem_of_getElem? (i := 8) rfl)) (hw _ (List.mem_of_getElem? (i := 3) rfl)) (by decide) (by decide)) (g := (mkF m 95 #[.val (.int p0), .val (.long p1), .second, .val (.int p2), .val (.int p3), .val (.ref b1), .val (.int fm), .val (.int to), .val (.int (-1 : Int32))] [(.int to), (.int fm), (.int (2 : Int32)), (.ref b1)])) rfl (by rw [hml]; rfl) (argsL := [(.ref b1), (.int (2 : Int32)), (.int fm), (.int to)]) (rest := []) (lenOf pd_1 rfl) rfl (by show 2 * 0 + _ ≤ _; exact Nat.le_of_eq rfl) (hb hby at_95) (fun _ _ => ⟨rfl, e13, (by decide : 1 + 0 ≤ _), (by decide : 6 + 0 ≤ _)⟩)
  dsimp only [Pt.U, Pt.locs, Pt.cells, Pt.slots] at X14 l14 y14 z14 st14 hQ14
  subst l14 y14 z14
  obtain ⟨y1_14, rfl, N14q, e14q, hy1_14⟩ := hQ14
  have N14 := Fr.app N13 N14q
  refine step (T14.setTop (mkF m 98 #[.val (.int p0), .val (.long p1), .second, .val (.int p2), .val (.int p3), .val (.ref b1), .val (.int fm), .val (.int to), .val (.int (-1 : Int32))] [(.int y1_14)])) (fun t k => st14 t k) ?_
  by_cases hc98_15 : y1_14 = (0 : Int32)
  · -- pc 98: y1_14 = (0 : Int32) True
    refine step (T14.setTop (mkF m 107 #[.val (.int p0), .val (.long p1), .second, .val (.int p2), .val (.int p3), .val (.ref b1), .val (.int fm), .val (.int to), .val (.int (-1 : Int32))] [])) (fun t k => XS.ifYes X14.here hx rfl (pc0 := 98) (pc' := 107) rfl (hb hby at_98) rfl ((if0 _ _).trans (teq hc98_15).1) (by decide) (by decide) k) ?_
    refine step (T14.setTop (mkF m 109 #[.val (.int p0), .val (.long p1), .second, .val (.int p2), .val (.int p3), .val (.ref b1), .val (.int fm), .val (.int to), .val (.int (-1 : Int32))] [(.ref b1)])) (fun t k => XS.aload X14.here hx rfl (hb hby at_107) rfl rfl k) ?_
    refine step (T14.setTop (mkF m 110 #[.val (.int p0), .val (.long p1), .second, .val (.int p2), .val (.int p3), .val (.ref b1), .val (.int fm), .val (.int to), .val (.int (-1 : Int32))] [(.int (3 : Int32)), (.ref b1)])) (fun t k => XS.iconst X14.here hx rfl (hb hby at_109) k) ?_
    refine step (T14.setTop (mkF m 112 #[.val (.int p0), .val (.long p1), .second, .val (.int p2), .val (.int p3), .val (.ref b1), .val (.int fm), .val (.int to), .val (.int (-1 : Int32))] [(.int fm), (.int (3 : Int32)), (.ref b1)])) (fun t k => XS.iload X14.here hx rfl (hb hby at_110) rfl k) ?_
    refine step (T14.setTop (mkF m 114 #[.val (.int p0), .val (.long p1), .second, .val (.int p2), .val (.int p3), .val (.ref b1), .val (.int fm), .val (.int to), .val (.int (-1 : Int32))] [(.int to), (.int fm), (.int (3 : Int32)), (.ref b1)])) (fun t k => XS.iload X14.here hx rfl (hb hby at_112) rfl k) ?_
    obtain ⟨_, _, ⟨T16, L16, k16, n16⟩, -, X16, ⟨Lc16, hQ16, l16, y16, z16⟩, st16⟩ := Jvm.LawKit.callS X14 hx (y := (⟨"com/example/whisman/whisman/connector/RequestHeadParserHeadEndPinLaw", "endsAt", "([BIII)Z"⟩ : MethodName)) hown (mvT hZ (hw _ (List.mem_of_getElem? (i := 6) rfl))) (mvT hZ (hw _ (List.mem_of_getElem? (i := 7) rfl))) (mvT hZ (hw _ (List.mem_of_getElem? (i := 3) rfl))) (mvT hZ (hw _ (List.mem_of_getElem? (i := 8) rfl))) (by decide) (backOf (W := 0) (rm2_8 l Z a0 hw [] b1 fm to k1 (nar .byte x0) (nar .byte x1) (nar .byte x2) (nar .byte x3) (nar .byte x4) (nar .byte x5) h13 n0 (Nat.le_trans Z0 K13.1) V13 gn_b1 gm) hZ (hw _ (List.mem_of_getElem? (i := 8) rfl)) (hw _ (List.mem_of_getElem? (i := 3) rfl)) (by decide) (by decide)) (g := (mkF m 114 #[.val (.int p0), .val (.long p1), .second, .val (.int p2), .val (.int p3), .val (.ref b1), .val (.int fm), .val (.int to), .val (.int (-1 : Int32))] [(.int to), (.int fm), (.int (3 : Int32)), (.ref b1)])) rfl (by rw [hml]; rfl) (argsL := [(.ref b1), (.int (3 : Int32)), (.int fm), (.int to)]) (rest := []) (lenOf pd_1 rfl) rfl (by show 2 * 0 + _ ≤ _; exact Nat.le_of_eq rfl) (hb hby at_114) (fun _ _ => ⟨rfl, e14q, (by decide : 1 + 0 ≤ _), (by decide : 6 + 0 ≤ _)⟩)
    dsimp only [Pt.U, Pt.locs, Pt.cells, Pt.slots] at X16 l16 y16 z16 st16 hQ16
    subst l16 y16 z16
    obtain ⟨y1_16, rfl, N16q, e16q, hy1_16⟩ := hQ16
    have N16 := Fr.app N14 N16q
    refine step (T16.setTop (mkF m 117 #[.val (.int p0), .val (.long p1), .second, .val (.int p2), .val (.int p3), .val (.ref b1), .val (.int fm), .val (.int to), .val (.int (-1 : Int32))] [(.int y1_16)])) (fun t k => st16 t k) ?_
    by_cases hc117_17 : y1_16 = (0 : Int32)
    · -- pc 117: y1_16 = (0 : Int32) True
      refine step (T16.setTop (mkF m 126 #[.val (.int p0), .val (.long p1), .second, .val (.int p2), .val (.int p3), .val (.ref b1), .val (.int fm), .val (.int to), .val (.int (-1 : Int32))] [])) (fun t k => XS.ifYes X16.here hx rfl (pc0 := 117) (pc' := 126) rfl (hb hby at_117) rfl ((if0 _ _).trans (teq hc117_17).1) (by decide) (by decide) k) ?_
      refine step (T16.setTop (mkF m 128 #[.val (.int p0), .val (.long p1), .second, .val (.int p2), .val (.int p3), .val (.ref b1), .val (.int fm), .val (.int to), .val (.int (-1 : Int32))] [(.ref b1)])) (fun t k => XS.aload X16.here hx rfl (hb hby at_126) rfl rfl k) ?_
      refine step (T16.setTop (mkF m 129 #[.val (.int p0), .val (.long p1), .second, .val (.int p2), .val (.int p3), .val (.ref b1), .val (.int fm), .val (.int to), .val (.int (-1 : Int32))] [(.int (4 : Int32)), (.ref b1)])) (fun t k => XS.iconst X16.here hx rfl (hb hby at_128) k) ?_
      refine step (T16.setTop (mkF m 131 #[.val (.int p0), .val (.long p1), .second, .val (.int p2), .val (.int p3), .val (.ref b1), .val (.int fm), .val (.int to), .val (.int (-1 : Int32))] [(.int fm), (.int (4 : Int32)), (.ref b1)])) (fun t k => XS.iload X16.here hx rfl (hb hby at_129) rfl k) ?_
      refine step (T16.setTop (mkF m 133 #[.val (.int p0), .val (.long p1), .second, .val (.int p2), .val (.int p3), .val (.ref b1), .val (.int fm), .val (.int to), .val (.int (-1 : Int32))] [(.int to), (.int fm), (.int (4 : Int32)), (.ref b1)])) (fun t k => XS.iload X16.here hx rfl (hb hby at_131) rfl k) ?_
      obtain ⟨_, _, ⟨T18, L18, k18, n18⟩, -, X18, ⟨Lc18, hQ18, l18, y18, z18⟩, st18⟩ := Jvm.LawKit.callS X16 hx (y := (⟨"com/example/whisman/whisman/connector/RequestHeadParserHeadEndPinLaw", "endsAt", "([BIII)Z"⟩ : MethodName)) hown (mvT hZ (hw _ (List.mem_of_getElem? (i := 6) rfl))) (mvT hZ (hw _ (List.mem_of_getElem? (i := 7) rfl))) (mvT hZ (hw _ (List.mem_of_getElem? (i := 3) rfl))) (mvT hZ (hw _ (List.mem_of_getElem? (i := 8) rfl))) (by decide) (backOf (W := 0) (rm2_9 l Z a0 hw [] b1 fm to k1 (nar .byte x0) (nar .byte x1) (nar .byte x2) (nar .byte x3) (nar .byte x4) (nar .byte x5) h13 n0 (Nat.le_trans Z0 K13.1) V13 gn_b1 gm) hZ (hw _ (List.mem_of_getElem? (i := 8) rfl)) (hw _ (List.mem_of_getElem? (i := 3) rfl)) (by decide) (by decide)) (g := (mkF m 133 #[.val (.int p0), .val (.long p1), .second, .val (.int p2), .val (.int p3), .val (.ref b1), .val (.int fm), .val (.int to), .val (.int (-1 : Int32))] [(.int to), (.int fm), (.int (4 : Int32)), (.ref b1)])) rfl (by rw [hml]; rfl) (argsL := [(.ref b1), (.int (4 : Int32)), (.int fm), (.int to)]) (rest := []) (lenOf pd_1 rfl) rfl (by show 2 * 0 + _ ≤ _; exact Nat.le_of_eq rfl) (hb hby at_133) (fun _ _ => ⟨rfl, e16q, (by decide : 1 + 0 ≤ _), (by decide : 6 + 0 ≤ _)⟩)
      dsimp only [Pt.U, Pt.locs, Pt.cells, Pt.slots] at X18 l18 y18 z18 st18 hQ18
      subst l18 y18 z18
      obtain ⟨y1_18, rfl, N18q, e18q, hy1_18⟩ := hQ18
      have N18 := Fr.app N16 N18q
      refine step (T18.setTop (mkF m 136 #[.val (.int p0), .val (.long p1), .second, .val (.int p2), .val (.int p3), .val (.ref b1), .val (.int fm), .val (.int to), .val (.int (-1 : Int32))] [(.int y1_18)])) (fun t k => st18 t k) ?_
      by_cases hc136_19 : y1_18 = (0 : Int32)
      · -- pc 136: y1_18 = (0 : Int32) True
        refine step (T18.setTop (mkF m 145 #[.val (.int p0), .val (.long p1), .second, .val (.int p2), .val (.int p3), .val (.ref b1), .val (.int fm), .val (.int to), .val (.int (-1 : Int32))] [])) (fun t k => XS.ifYes X18.here hx rfl (pc0 := 136) (pc' := 145) rfl (hb hby at_136) rfl ((if0 _ _).trans (teq hc136_19).1) (by decide) (by decide) k) ?_
        refine step (T18.setTop (mkF m 147 #[.val (.int p0), .val (.long p1), .second, .val (.int p2), .val (.int p3), .val (.ref b1), .val (.int fm), .val (.int to), .val (.int (-1 : Int32))] [(.ref b1)])) (fun t k => XS.aload X18.here hx rfl (hb hby at_145) rfl rfl k) ?_
        refine step (T18.setTop (mkF m 148 #[.val (.int p0), .val (.long p1), .second, .val (.int p2), .val (.int p3), .val (.ref b1), .val (.int fm), .val (.int to), .val (.int (-1 : Int32))] [(.int (5 : Int32)), (.ref b1)])) (fun t k => XS.iconst X18.here hx rfl (hb hby at_147) k) ?_
        refine step (T18.setTop (mkF m 150 #[.val (.int p0), .val (.long p1), .second, .val (.int p2), .val (.int p3), .val (.ref b1), .val (.int fm), .val (.int to), .val (.int (-1 : Int32))] [(.int fm), (.int (5 : Int32)), (.ref b1)])) (fun t k => XS.iload X18.here hx rfl (hb hby at_148) rfl k) ?_
        refine step (T18.setTop (mkF m 152 #[.val (.int p0), .val (.long p1), .second, .val (.int p2), .val (.int p3), .val (.ref b1), .val (.int fm), .val (.int to), .val (.int (-1 : Int32))] [(.int to), (.int fm), (.int (5 : Int32)), (.ref b1)])) (fun t k => XS.iload X18.here hx rfl (hb hby at_150) rfl k) ?_
        obtain ⟨_, _, ⟨T20, L20, k20, n20⟩, -, X20, ⟨Lc20, hQ20, l20, y20, z20⟩, st20⟩ := Jvm.LawKit.callS X18 hx (y := (⟨"com/example/whisman/whisman/connector/RequestHeadParserHeadEndPinLaw", "endsAt", "([BIII)Z"⟩ : MethodName)) hown (mvT hZ (hw _ (List.mem_of_getElem? (i := 6) rfl))) (mvT hZ (hw _ (List.mem_of_getElem? (i := 7) rfl))) (mvT hZ (hw _ (List.mem_of_getElem? (i := 3) rfl))) (mvT hZ (hw _ (List.mem_of_getElem? (i := 8) rfl))) (by decide) (backOf (W := 0) (rm2_10 l Z a0 hw [] b1 fm to k1 (nar .byte x0) (nar .byte x1) (nar .byte x2) (nar .byte x3) (nar .byte x4) (nar .byte x5) h13 n0 (Nat.le_trans Z0 K13.1) V13 gn_b1 gm) hZ (hw _ (List.mem_of_getElem? (i := 8) rfl)) (hw _ (List.mem_of_getElem? (i := 3) rfl)) (by decide) (by decide)) (g := (mkF m 152 #[.val (.int p0), .val (.long p1), .second, .val (.int p2), .val (.int p3), .val (.ref b1), .val (.int fm), .val (.int to), .val (.int (-1 : Int32))] [(.int to), (.int fm), (.int (5 : Int32)), (.ref b1)])) rfl (by rw [hml]; rfl) (argsL := [(.ref b1), (.int (5 : Int32)), (.int fm), (.int to)]) (rest := []) (lenOf pd_1 rfl) rfl (by show 2 * 0 + _ ≤ _; exact Nat.le_of_eq rfl) (hb hby at_152) (fun _ _ => ⟨rfl, e18q, (by decide : 1 + 0 ≤ _), (by decide : 6 + 0 ≤ _)⟩)
        dsimp only [Pt.U, Pt.locs, Pt.cells, Pt.slots] at X20 l20 y20 z20 st20 hQ20
        subst l20 y20 z20
        obtain ⟨y1_20, rfl, N20q, e20q, hy1_20⟩ := hQ20
        have N20 := Fr.app N18 N20q
        refine step (T20.setTop (mkF m 155 #[.val (.int p0), .val (.long p1), .second, .val (.int p2), .val (.int p3), .val (.ref b1), .val (.int fm), .val (.int to), .val (.int (-1 : Int32))] [(.int y1_20)])) (fun t k => st20 t k) ?_
        by_cases hc155_21 : y1_20 = (0 : Int32)
        · -- pc 155: y1_20 = (0 : Int32) True
          refine step (T20.setTop (mkF m 164 #[.val (.int p0), .val (.long p1), .second, .val (.int p2), .val (.int p3), .val (.ref b1), .val (.int fm), .val (.int to), .val (.int (-1 : Int32))] [])) (fun t k => XS.ifYes X20.here hx rfl (pc0 := 155) (pc' := 164) rfl (hb hby at_155) rfl ((if0 _ _).trans (teq hc155_21).1) (by decide) (by decide) k) ?_
          refine step (T20.setTop (mkF m 166 #[.val (.int p0), .val (.long p1), .second, .val (.int p2), .val (.int p3), .val (.ref b1), .val (.int fm), .val (.int to), .val (.int (-1 : Int32))] [(.ref b1)])) (fun t k => XS.aload X20.here hx rfl (hb hby at_164) rfl rfl k) ?_
          refine step (T20.setTop (mkF m 168 #[.val (.int p0), .val (.long p1), .second, .val (.int p2), .val (.int p3), .val (.ref b1), .val (.int fm), .val (.int to), .val (.int (-1 : Int32))] [(.int (6 : Int32)), (.ref b1)])) (fun t k => XS.bipush X20.here hx rfl (hb hby at_166) k) ?_
          refine step (T20.setTop (mkF m 170 #[.val (.int p0), .val (.long p1), .second, .val (.int p2), .val (.int p3), .val (.ref b1), .val (.int fm), .val (.int to), .val (.int (-1 : Int32))] [(.int fm), (.int (6 : Int32)), (.ref b1)])) (fun t k => XS.iload X20.here hx rfl (hb hby at_168) rfl k) ?_
          refine step (T20.setTop (mkF m 172 #[.val (.int p0), .val (.long p1), .second, .val (.int p2), .val (.int p3), .val (.ref b1), .val (.int fm), .val (.int to), .val (.int (-1 : Int32))] [(.int to), (.int fm), (.int (6 : Int32)), (.ref b1)])) (fun t k => XS.iload X20.here hx rfl (hb hby at_170) rfl k) ?_
          obtain ⟨_, _, ⟨T22, L22, k22, n22⟩, -, X22, ⟨Lc22, hQ22, l22, y22, z22⟩, st22⟩ := Jvm.LawKit.callS X20 hx (y := (⟨"com/example/whisman/whisman/connector/RequestHeadParserHeadEndPinLaw", "endsAt", "([BIII)Z"⟩ : MethodName)) hown (mvT hZ (hw _ (List.mem_of_getElem? (i := 6) rfl))) (mvT hZ (hw _ (List.mem_of_getElem? (i := 7) rfl))) (mvT hZ (hw _ (List.mem_of_getElem? (i := 3) rfl))) (mvT hZ (hw _ (List.mem_of_getElem? (i := 8) rfl))) (by decide) (backOf (W := 0) (rm2_11 l Z a0 hw [] b1 fm to k1 (nar .byte x0) (nar .byte x1) (nar .byte x2) (nar .byte x3) (nar .byte x4) (nar .byte x5) h13 n0 (Nat.le_trans Z0 K13.1) V13 gn_b1 gm) hZ (hw _ (List.mem_of_getElem? (i := 8) rfl)) (hw _ (List.mem_of_getElem? (i := 3) rfl)) (by decide) (by decide)) (g := (mkF m 172 #[.val (.int p0), .val (.long p1), .second, .val (.int p2), .val (.int p3), .val (.ref b1), .val (.int fm), .val (.int to), .val (.int (-1 : Int32))] [(.int to), (.int fm), (.int (6 : Int32)), (.ref b1)])) rfl (by rw [hml]; rfl) (argsL := [(.ref b1), (.int (6 : Int32)), (.int fm), (.int to)]) (rest := []) (lenOf pd_1 rfl) rfl (by show 2 * 0 + _ ≤ _; exact Nat.le_of_eq rfl) (hb hby at_172) (fun _ _ => ⟨rfl, e20q, (by decide : 1 + 0 ≤ _), (by decide : 6 + 0 ≤ _)⟩)
          dsimp only [Pt.U, Pt.locs, Pt.cells, Pt.slots] at X22 l22 y22 z22 st22 hQ22
          subst l22 y22 z22
          obtain ⟨y1_22, rfl, N22q, e22q, hy1_22⟩ := hQ22
          have N22 := Fr.app N20 N22q
          refine step (T22.setTop (mkF m 175 #[.val (.int p0), .val (.long p1), .second, .val (.int p2), .val (.int p3), .val (.ref b1), .val (.int fm), .val (.int to), .val (.int (-1 : Int32))] [(.int y1_22)])) (fun t k => st22 t k) ?_
          by_cases hc175_23 : y1_22 = (0 : Int32)
          · -- pc 175: y1_22 = (0 : Int32) True
            refine step (T22.setTop (mkF m 182 #[.val (.int p0), .val (.long p1), .second, .val (.int p2), .val (.int p3), .val (.ref b1), .val (.int fm), .val (.int to), .val (.int (-1 : Int32))] [])) (fun t k => XS.ifYes X22.here hx rfl (pc0 := 175) (pc' := 182) rfl (hb hby at_175) rfl ((if0 _ _).trans (teq hc175_23).1) (by decide) (by decide) k) ?_
            refine step (T22.setTop (mkF m 184 #[.val (.int p0), .val (.long p1), .second, .val (.int p2), .val (.int p3), .val (.ref b1), .val (.int fm), .val (.int to), .val (.int (-1 : Int32))] [(.ref b1)])) (fun t k => XS.aload X22.here hx rfl (hb hby at_182) rfl rfl k) ?_
            refine step (T22.setTop (mkF m 186 #[.val (.int p0), .val (.long p1), .second, .val (.int p2), .val (.int p3), .val (.ref b1), .val (.int fm), .val (.int to), .val (.int (-1 : Int32))] [(.int fm), (.ref b1)])) (fun t k => XS.iload X22.here hx rfl (hb hby at_184) rfl k) ?_
            refine step (T22.setTop (mkF m 188 #[.val (.int p0), .val (.long p1), .second, .val (.int p2), .val (.int p3), .val (.ref b1), .val (.int fm), .val (.int to), .val (.int (-1 : Int32))] [(.int to), (.int fm), (.ref b1)])) (fun t k => XS.iload X22.here hx rfl (hb hby at_186) rfl k) ?_
            obtain ⟨_, _, ⟨T24, L24, k24, n24⟩, -, X24, ⟨Lc24, hQ24, l24, y24, z24⟩, st24⟩ := Jvm.LawKit.callS X22 hx (y := (⟨"com/example/whisman/whisman/connector/RequestHeadParser", "headEnd", "([BII)I"⟩ : MethodName)) hown (mvT hZ (hw _ (List.mem_of_getElem? (i := 9) rfl))) (mvT hZ (hw _ (List.mem_of_getElem? (i := 10) rfl))) (mvT hZ (hw _ (List.mem_of_getElem? (i := 11) rfl))) (mvT hZ (hw _ (List.mem_of_getElem? (i := 12) rfl))) (by decide) (backOf (W := 0) (rm3 l Z a0 hw [] b1 k1 (nar .byte x0) (nar .byte x1) (nar .byte x2) (nar .byte x3) (nar .byte x4) (nar .byte x5) fm to h13 n0 (Nat.le_trans Z0 K13.1) V13 (own_r7 _ _ hfm).1 (own_r7 _ _ hto).2) hZ (hw _ (List.mem_of_getElem? (i := 12) rfl)) (hw _ (List.mem_of_getElem? (i := 11) rfl)) (by decide) (by decide)) (g := (mkF m 188 #[.val (.int p0), .val (.long p1), .second, .val (.int p2), .val (.int p3), .val (.ref b1), .val (.int fm), .val (.int to), .val (.int (-1 : Int32))] [(.int to), (.int fm), (.ref b1)])) rfl (by rw [hml]; rfl) (argsL := [(.ref b1), (.int fm), (.int to)]) (rest := []) (lenOf pd_2 rfl) rfl (by show 2 * 0 + _ ≤ _; exact Nat.le_of_eq rfl) (hb hby at_188) (fun _ _ => ⟨rfl, e22q, (by decide : 1 + 0 ≤ _), (by decide : 6 + 0 ≤ _)⟩)
            dsimp only [Pt.U, Pt.locs, Pt.cells, Pt.slots] at X24 l24 y24 z24 st24 hQ24
            subst l24 y24 z24
            obtain ⟨rfl, N24q, e24q⟩ := hQ24
            have N24 := Fr.app N22 N24q
            refine step (T24.setTop (mkF m 191 #[.val (.int p0), .val (.long p1), .second, .val (.int p2), .val (.int p3), .val (.ref b1), .val (.int fm), .val (.int to), .val (.int (-1 : Int32))] [(.int (own_he 7 [(nar .byte x0), (nar .byte x1), (nar .byte x2), (nar .byte x3), (nar .byte x4), (nar .byte x5)] fm to))])) (fun t k => st24 t k) ?_
            refine step (T24.setTop (mkF m 193 #[.val (.int p0), .val (.long p1), .second, .val (.int p2), .val (.int p3), .val (.ref b1), .val (.int fm), .val (.int to), .val (.int (-1 : Int32))] [(.int (-1 : Int32)), (.int (own_he 7 [(nar .byte x0), (nar .byte x1), (nar .byte x2), (nar .byte x3), (nar .byte x4), (nar .byte x5)] fm to))])) (fun t k => XS.iload X24.here hx rfl (hb hby at_191) rfl k) ?_
            suffices J201_26 : ∀ (z201_25 : Int32), z201_25 = (if (own_he 7 [(nar .byte x0), (nar .byte x1), (nar .byte x2), (nar .byte x3), (nar .byte x4), (nar .byte x5)] fm to) = (-1 : Int32) then (1 : Int32) else (0 : Int32)) → G (T24.setTop (mkF m 201 #[.val (.int p0), .val (.long p1), .second, .val (.int p2), .val (.int p3), .val (.ref b1), .val (.int fm), .val (.int to), .val (.int (-1 : Int32))] [(.int z201_25)])) by
              by_cases hc193_27 : (own_he 7 [(nar .byte x0), (nar .byte x1), (nar .byte x2), (nar .byte x3), (nar .byte x4), (nar .byte x5)] fm to) = (-1 : Int32)
              · -- 193 True
                refine step (T24.setTop (mkF m 196 #[.val (.int p0), .val (.long p1), .second, .val (.int p2), .val (.int p3), .val (.ref b1), .val (.int fm), .val (.int to), .val (.int (-1 : Int32))] [])) (fun t k => XS.icmpNo X24.here hx rfl (hb hby at_193) rfl (teq hc193_27).2 k) ?_
                refine step (T24.setTop (mkF m 197 #[.val (.int p0), .val (.long p1), .second, .val (.int p2), .val (.int p3), .val (.ref b1), .val (.int fm), .val (.int to), .val (.int (-1 : Int32))] [(.int (1 : Int32))])) (fun t k => XS.iconst X24.here hx rfl (hb hby at_196) k) ?_
                refine step (T24.setTop (mkF m 201 #[.val (.int p0), .val (.long p1), .second, .val (.int p2), .val (.int p3), .val (.ref b1), .val (.int fm), .val (.int to), .val (.int (-1 : Int32))] [(.int (1 : Int32))])) (fun t k => XS.goto X24.here hx rfl (pc0 := 197) (pc' := 201) rfl (hb hby at_197) (by decide) (by decide) k) ?_
                exact J201_26 _ (by simp only [if_pos hc193_27, if_true, if_false] <;> rfl)
              · -- 193 False
                refine step (T24.setTop (mkF m 200 #[.val (.int p0), .val (.long p1), .second, .val (.int p2), .val (.int p3), .val (.ref b1), .val (.int fm), .val (.int to), .val (.int (-1 : Int32))] [])) (fun t k => XS.icmpYes X24.here hx rfl (pc0 := 193) (pc' := 200) rfl (hb hby at_193) rfl (feq hc193_27).2 (by decide) (by decide) k) ?_
                refine step (T24.setTop (mkF m 201 #[.val (.int p0), .val (.long p1), .second, .val (.int p2), .val (.int p3), .val (.ref b1), .val (.int fm), .val (.int to), .val (.int (-1 : Int32))] [(.int (0 : Int32))])) (fun t k => XS.iconst X24.here hx rfl (hb hby at_200) k) ?_
                exact J201_26 _ (by simp only [if_neg hc193_27, if_true, if_false] <;> rfl)
            intro z201_25 hz201_25
            refine fin (v := some (.int (nar .boolean z201_25))) X24 (fun h => by cases h) ?_ (by decide) (by decide) (fun fs hr => retN X24 hx (t := .boolean) hret (by simp) (hb hby at_201) hr)
            show Q0 Z p0 p1 p2 p3 h0 n0 (some (.int (nar .boolean z201_25))) T24.heap _
            rw [e24q]
            exact ⟨own_fin (own_plain11 p0 p1 p2 p3 z_1_2 x0 z_1_4 x1 z_1_6 x2 z_1_8 x3 z_1_10 x4 z_1_12 x5 fm to y1_14 y1_16 y1_18 y1_20 y1_22 z201_25 hz_1_2 hx0 hz_1_4 hx1 hz_1_6 hx2 hz_1_8 hx3 hz_1_10 hx4 hz_1_12 hx5 hfm hto hy1_14 hy1_16 hy1_18 hy1_20 hy1_22 hz201_25 hc98_15 hc117_17 hc136_19 hc155_21 hc175_23), N24⟩
          · -- pc 175: y1_22 = (0 : Int32) False
            refine step (T22.setTop (mkF m 178 #[.val (.int p0), .val (.long p1), .second, .val (.int p2), .val (.int p3), .val (.ref b1), .val (.int fm), .val (.int to), .val (.int (-1 : Int32))] [])) (fun t k => XS.ifNo X22.here hx rfl (hb hby at_175) rfl ((if0 _ _).trans (feq hc175_23).1) k) ?_
            refine step (T22.setTop (mkF m 180 #[.val (.int p0), .val (.long p1), .second, .val (.int p2), .val (.int p3), .val (.ref b1), .val (.int fm), .val (.int to), .val (.int (-1 : Int32))] [(.int (6 : Int32))])) (fun t k => XS.bipush X22.here hx rfl (hb hby at_178) k) ?_
            refine step (T22.setTop (mkF m 182 #[.val (.int p0), .val (.long p1), .second, .val (.int p2), .val (.int p3), .val (.ref b1), .val (.int fm), .val (.int to), .val (.int (6 : Int32))] [])) (fun t k => XS.istore X22.here hx rfl (hb hby at_180) rfl (l' := #[.val (.int p0), .val (.long p1), .second, .val (.int p2), .val (.int p3), .val (.ref b1), .val (.int fm), .val (.int to), .val (.int (6 : Int32))]) rfl k) ?_
            refine step (T22.setTop (mkF m 184 #[.val (.int p0), .val (.long p1), .second, .val (.int p2), .val (.int p3), .val (.ref b1), .val (.int fm), .val (.int to), .val (.int (6 : Int32))] [(.ref b1)])) (fun t k => XS.aload X22.here hx rfl (hb hby at_182) rfl rfl k) ?_
            refine step (T22.setTop (mkF m 186 #[.val (.int p0), .val (.long p1), .second, .val (.int p2), .val (.int p3), .val (.ref b1), .val (.int fm), .val (.int to), .val (.int (6 : Int32))] [(.int fm), (.ref b1)])) (fun t k => XS.iload X22.here hx rfl (hb hby at_184) rfl k) ?_
            refine step (T22.setTop (mkF m 188 #[.val (.int p0), .val (.long p1), .second, .val (.int p2), .val (.int p3), .val (.ref b1), .val (.int fm), .val (.int to), .val (.int (6 : Int32))] [(.int to), (.int fm), (.ref b1)])) (fun t k => XS.iload X22.here hx rfl (hb hby at_186) rfl k) ?_
            obtain ⟨_, _, ⟨T28, L28, k28, n28⟩, -, X28, ⟨Lc28, hQ28, l28, y28, z28⟩, st28⟩ := Jvm.LawKit.callS X22 hx (y := (⟨"com/example/whisman/whisman/connector/RequestHeadParser", "headEnd", "([BII)I"⟩ : MethodName)) hown (mvT hZ (hw _ (List.mem_of_getElem? (i := 9) rfl))) (mvT hZ (hw _ (List.mem_of_getElem? (i := 10) rfl))) (mvT hZ (hw _ (List.mem_of_getElem? (i := 11) rfl))) (mvT hZ (hw _ (List.mem_of_getElem? (i := 12) rfl))) (by decide) (backOf (W := 0) (rm3 l Z a0 hw [] b1 k1 (nar .byte x0) (nar .byte x1) (nar .byte x2) (nar .byte x3) (nar .byte x4) (nar .byte x5) fm to h13 n0 (Nat.le_trans Z0 K13.1) V13 (own_r7 _ _ hfm).1 (own_r7 _ _ hto).2) hZ (hw _ (List.mem_of_getElem? (i := 12) rfl)) (hw _ (List.mem_of_getElem? (i := 11) rfl)) (by decide) (by decide)) (g := (mkF m 188 #[.val (.int p0), .val (.long p1), .second, .val (.int p2), .val (.int p3), .val (.ref b1), .val (.int fm), .val (.int to), .val (.int (6 : Int32))] [(.int to), (.int fm), (.ref b1)])) rfl (by rw [hml]; rfl) (argsL := [(.ref b1), (.int fm), (.int to)]) (rest := []) (lenOf pd_2 rfl) rfl (by show 2 * 0 + _ ≤ _; exact Nat.le_of_eq rfl) (hb hby at_188) (fun _ _ => ⟨rfl, e22q, (by decide : 1 + 0 ≤ _), (by decide : 6 + 0 ≤ _)⟩)
            dsimp only [Pt.U, Pt.locs, Pt.cells, Pt.slots] at X28 l28 y28 z28 st28 hQ28
            subst l28 y28 z28
            obtain ⟨rfl, N28q, e28q⟩ := hQ28
            have N28 := Fr.app N22 N28q
            refine step (T28.setTop (mkF m 191 #[.val (.int p0), .val (.long p1), .second, .val (.int p2), .val (.int p3), .val (.ref b1), .val (.int fm), .val (.int to), .val (.int (6 : Int32))] [(.int (own_he 7 [(nar .byte x0), (nar .byte x1), (nar .byte x2), (nar .byte x3), (nar .byte x4), (nar .byte x5)] fm to))])) (fun t k => st28 t k) ?_
            refine step (T28.setTop (mkF m 193 #[.val (.int p0), .val (.long p1), .second, .val (.int p2), .val (.int p3), .val (.ref b1), .val (.int fm), .val (.int to), .val (.int (6 : Int32))] [(.int (6 : Int32)), (.int (own_he 7 [(nar .byte x0), (nar .byte x1), (nar .byte x2), (nar .byte x3), (nar .byte x4), (nar .byte x5)] fm to))])) (fun t k => XS.iload X28.here hx rfl (hb hby at_191) rfl k) ?_
            suffices J201_30 : ∀ (z201_29 : Int32), z201_29 = (if (own_he 7 [(nar .byte x0), (nar .byte x1), (nar .byte x2), (nar .byte x3), (nar .byte x4), (nar .byte x5)] fm to) = (6 : Int32) then (1 : Int32) else (0 : Int32)) → G (T28.setTop (mkF m 201 #[.val (.int p0), .val (.long p1), .second, .val (.int p2), .val (.int p3), .val (.ref b1), .val (.int fm), .val (.int to), .val (.int (6 : Int32))] [(.int z201_29)])) by
              by_cases hc193_31 : (own_he 7 [(nar .byte x0), (nar .byte x1), (nar .byte x2), (nar .byte x3), (nar .byte x4), (nar .byte x5)] fm to) = (6 : Int32)
              · -- 193 True
                refine step (T28.setTop (mkF m 196 #[.val (.int p0), .val (.long p1), .second, .val (.int p2), .val (.int p3), .val (.ref b1), .val (.int fm), .val (.int to), .val (.int (6 : Int32))] [])) (fun t k => XS.icmpNo X28.here hx rfl (hb hby at_193) rfl (teq hc193_31).2 k) ?_
                refine step (T28.setTop (mkF m 197 #[.val (.int p0), .val (.long p1), .second, .val (.int p2), .val (.int p3), .val (.ref b1), .val (.int fm), .val (.int to), .val (.int (6 : Int32))] [(.int (1 : Int32))])) (fun t k => XS.iconst X28.here hx rfl (hb hby at_196) k) ?_
                refine step (T28.setTop (mkF m 201 #[.val (.int p0), .val (.long p1), .second, .val (.int p2), .val (.int p3), .val (.ref b1), .val (.int fm), .val (.int to), .val (.int (6 : Int32))] [(.int (1 : Int32))])) (fun t k => XS.goto X28.here hx rfl (pc0 := 197) (pc' := 201) rfl (hb hby at_197) (by decide) (by decide) k) ?_
                exact J201_30 _ (by simp only [if_pos hc193_31, if_true, if_false] <;> rfl)
              · -- 193 False
                refine step (T28.setTop (mkF m 200 #[.val (.int p0), .val (.long p1), .second, .val (.int p2), .val (.int p3), .val (.ref b1), .val (.int fm), .val (.int to), .val (.int (6 : Int32))] [])) (fun t k => XS.icmpYes X28.here hx rfl (pc0 := 193) (pc' := 200) rfl (hb hby at_193) rfl (feq hc193_31).2 (by decide) (by decide) k) ?_
                refine step (T28.setTop (mkF m 201 #[.val (.int p0), .val (.long p1), .second, .val (.int p2), .val (.int p3), .val (.ref b1), .val (.int fm), .val (.int to), .val (.int (6 : Int32))] [(.int (0 : Int32))])) (fun t k => XS.iconst X28.here hx rfl (hb hby at_200) k) ?_
                exact J201_30 _ (by simp only [if_neg hc193_31, if_true, if_false] <;> rfl)
            intro z201_29 hz201_29
            refine fin (v := some (.int (nar .boolean z201_29))) X28 (fun h => by cases h) ?_ (by decide) (by decide) (fun fs hr => retN X28 hx (t := .boolean) hret (by simp) (hb hby at_201) hr)
            show Q0 Z p0 p1 p2 p3 h0 n0 (some (.int (nar .boolean z201_29))) T28.heap _
            rw [e28q]
            exact ⟨own_fin (own_plain12 p0 p1 p2 p3 z_1_2 x0 z_1_4 x1 z_1_6 x2 z_1_8 x3 z_1_10 x4 z_1_12 x5 fm to y1_14 y1_16 y1_18 y1_20 y1_22 z201_29 hz_1_2 hx0 hz_1_4 hx1 hz_1_6 hx2 hz_1_8 hx3 hz_1_10 hx4 hz_1_12 hx5 hfm hto hy1_14 hy1_16 hy1_18 hy1_20 hy1_22 hz201_29 hc98_15 hc117_17 hc136_19 hc155_21 hc175_23), N28⟩
        · -- pc 155: y1_20 = (0 : Int32) False
          refine step (T20.setTop (mkF m 158 #[.val (.int p0), .val (.long p1), .second, .val (.int p2), .val (.int p3), .val (.ref b1), .val (.int fm), .val (.int to), .val (.int (-1 : Int32))] [])) (fun t k => XS.ifNo X20.here hx rfl (hb hby at_155) rfl ((if0 _ _).trans (feq hc155_21).1) k) ?_
          refine step (T20.setTop (mkF m 159 #[.val (.int p0), .val (.long p1), .second, .val (.int p2), .val (.int p3), .val (.ref b1), .val (.int fm), .val (.int to), .val (.int (-1 : Int32))] [(.int (5 : Int32))])) (fun t k => XS.iconst X20.here hx rfl (hb hby at_158) k) ?_
          refine step (T20.setTop (mkF m 161 #[.val (.int p0), .val (.long p1), .second, .val (.int p2), .val (.int p3), .val (.ref b1), .val (.int fm), .val (.int to), .val (.int (5 : Int32))] [])) (fun t k => XS.istore X20.here hx rfl (hb hby at_159) rfl (l' := #[.val (.int p0), .val (.long p1), .second, .val (.int p2), .val (.int p3), .val (.ref b1), .val (.int fm), .val (.int to), .val (.int (5 : Int32))]) rfl k) ?_
          refine step (T20.setTop (mkF m 182 #[.val (.int p0), .val (.long p1), .second, .val (.int p2), .val (.int p3), .val (.ref b1), .val (.int fm), .val (.int to), .val (.int (5 : Int32))] [])) (fun t k => XS.goto X20.here hx rfl (pc0 := 161) (pc' := 182) rfl (hb hby at_161) (by decide) (by decide) k) ?_
          refine step (T20.setTop (mkF m 184 #[.val (.int p0), .val (.long p1), .second, .val (.int p2), .val (.int p3), .val (.ref b1), .val (.int fm), .val (.int to), .val (.int (5 : Int32))] [(.ref b1)])) (fun t k => XS.aload X20.here hx rfl (hb hby at_182) rfl rfl k) ?_
          refine step (T20.setTop (mkF m 186 #[.val (.int p0), .val (.long p1), .second, .val (.int p2), .val (.int p3), .val (.ref b1), .val (.int fm), .val (.int to), .val (.int (5 : Int32))] [(.int fm), (.ref b1)])) (fun t k => XS.iload X20.here hx rfl (hb hby at_184) rfl k) ?_
          refine step (T20.setTop (mkF m 188 #[.val (.int p0), .val (.long p1), .second, .val (.int p2), .val (.int p3), .val (.ref b1), .val (.int fm), .val (.int to), .val (.int (5 : Int32))] [(.int to), (.int fm), (.ref b1)])) (fun t k => XS.iload X20.here hx rfl (hb hby at_186) rfl k) ?_
          obtain ⟨_, _, ⟨T32, L32, k32, n32⟩, -, X32, ⟨Lc32, hQ32, l32, y32, z32⟩, st32⟩ := Jvm.LawKit.callS X20 hx (y := (⟨"com/example/whisman/whisman/connector/RequestHeadParser", "headEnd", "([BII)I"⟩ : MethodName)) hown (mvT hZ (hw _ (List.mem_of_getElem? (i := 9) rfl))) (mvT hZ (hw _ (List.mem_of_getElem? (i := 10) rfl))) (mvT hZ (hw _ (List.mem_of_getElem? (i := 11) rfl))) (mvT hZ (hw _ (List.mem_of_getElem? (i := 12) rfl))) (by decide) (backOf (W := 0) (rm3 l Z a0 hw [] b1 k1 (nar .byte x0) (nar .byte x1) (nar .byte x2) (nar .byte x3) (nar .byte x4) (nar .byte x5) fm to h13 n0 (Nat.le_trans Z0 K13.1) V13 (own_r7 _ _ hfm).1 (own_r7 _ _ hto).2) hZ (hw _ (List.mem_of_getElem? (i := 12) rfl)) (hw _ (List.mem_of_getElem? (i := 11) rfl)) (by decide) (by decide)) (g := (mkF m 188 #[.val (.int p0), .val (.long p1), .second, .val (.int p2), .val (.int p3), .val (.ref b1), .val (.int fm), .val (.int to), .val (.int (5 : Int32))] [(.int to), (.int fm), (.ref b1)])) rfl (by rw [hml]; rfl) (argsL := [(.ref b1), (.int fm), (.int to)]) (rest := []) (lenOf pd_2 rfl) rfl (by show 2 * 0 + _ ≤ _; exact Nat.le_of_eq rfl) (hb hby at_188) (fun _ _ => ⟨rfl, e20q, (by decide : 1 + 0 ≤ _), (by decide : 6 + 0 ≤ _)⟩)
          dsimp only [Pt.U, Pt.locs, Pt.cells, Pt.slots] at X32 l32 y32 z32 st32 hQ32
          subst l32 y32 z32
          obtain ⟨rfl, N32q, e32q⟩ := hQ32
          have N32 := Fr.app N20 N32q
          refine step (T32.setTop (mkF m 191 #[.val (.int p0), .val (.long p1), .second, .val (.int p2), .val (.int p3), .val (.ref b1), .val (.int fm), .val (.int to), .val (.int (5 : Int32))] [(.int (own_he 7 [(nar .byte x0), (nar .byte x1), (nar .byte x2), (nar .byte x3), (nar .byte x4), (nar .byte x5)] fm to))])) (fun t k => st32 t k) ?_
          refine step (T32.setTop (mkF m 193 #[.val (.int p0), .val (.long p1), .second, .val (.int p2), .val (.int p3), .val (.ref b1), .val (.int fm), .val (.int to), .val (.int (5 : Int32))] [(.int (5 : Int32)), (.int (own_he 7 [(nar .byte x0), (nar .byte x1), (nar .byte x2), (nar .byte x3), (nar .byte x4), (nar .byte x5)] fm to))])) (fun t k => XS.iload X32.here hx rfl (hb hby at_191) rfl k) ?_
          suffices J201_34 : ∀ (z201_33 : Int32), z201_33 = (if (own_he 7 [(nar .byte x0), (nar .byte x1), (nar .byte x2), (nar .byte x3), (nar .byte x4), (nar .byte x5)] fm to) = (5 : Int32) then (1 : Int32) else (0 : Int32)) → G (T32.setTop (mkF m 201 #[.val (.int p0), .val (.long p1), .second, .val (.int p2), .val (.int p3), .val (.ref b1), .val (.int fm), .val (.int to), .val (.int (5 : Int32))] [(.int z201_33)])) by
            by_cases hc193_35 : (own_he 7 [(nar .byte x0), (nar .byte x1), (nar .byte x2), (nar .byte x3), (nar .byte x4), (nar .byte x5)] fm to) = (5 : Int32)
            · -- 193 True
              refine step (T32.setTop (mkF m 196 #[.val (.int p0), .val (.long p1), .second, .val (.int p2), .val (.int p3), .val (.ref b1), .val (.int fm), .val (.int to), .val (.int (5 : Int32))] [])) (fun t k => XS.icmpNo X32.here hx rfl (hb hby at_193) rfl (teq hc193_35).2 k) ?_
              refine step (T32.setTop (mkF m 197 #[.val (.int p0), .val (.long p1), .second, .val (.int p2), .val (.int p3), .val (.ref b1), .val (.int fm), .val (.int to), .val (.int (5 : Int32))] [(.int (1 : Int32))])) (fun t k => XS.iconst X32.here hx rfl (hb hby at_196) k) ?_
              refine step (T32.setTop (mkF m 201 #[.val (.int p0), .val (.long p1), .second, .val (.int p2), .val (.int p3), .val (.ref b1), .val (.int fm), .val (.int to), .val (.int (5 : Int32))] [(.int (1 : Int32))])) (fun t k => XS.goto X32.here hx rfl (pc0 := 197) (pc' := 201) rfl (hb hby at_197) (by decide) (by decide) k) ?_
              exact J201_34 _ (by simp only [if_pos hc193_35, if_true, if_false] <;> rfl)
            · -- 193 False
              refine step (T32.setTop (mkF m 200 #[.val (.int p0), .val (.long p1), .second, .val (.int p2), .val (.int p3), .val (.ref b1), .val (.int fm), .val (.int to), .val (.int (5 : Int32))] [])) (fun t k => XS.icmpYes X32.here hx rfl (pc0 := 193) (pc' := 200) rfl (hb hby at_193) rfl (feq hc193_35).2 (by decide) (by decide) k) ?_
              refine step (T32.setTop (mkF m 201 #[.val (.int p0), .val (.long p1), .second, .val (.int p2), .val (.int p3), .val (.ref b1), .val (.int fm), .val (.int to), .val (.int (5 : Int32))] [(.int (0 : Int32))])) (fun t k => XS.iconst X32.here hx rfl (hb hby at_200) k) ?_
              exact J201_34 _ (by simp only [if_neg hc193_35, if_true, if_false] <;> rfl)
          intro z201_33 hz201_33
          refine fin (v := some (.int (nar .boolean z201_33))) X32 (fun h => by cases h) ?_ (by decide) (by decide) (fun fs hr => retN X32 hx (t := .boolean) hret (by simp) (hb hby at_201) hr)
          show Q0 Z p0 p1 p2 p3 h0 n0 (some (.int (nar .boolean z201_33))) T32.heap _
          rw [e32q]
          exact ⟨own_fin (own_plain13 p0 p1 p2 p3 z_1_2 x0 z_1_4 x1 z_1_6 x2 z_1_8 x3 z_1_10 x4 z_1_12 x5 fm to y1_14 y1_16 y1_18 y1_20 z201_33 hz_1_2 hx0 hz_1_4 hx1 hz_1_6 hx2 hz_1_8 hx3 hz_1_10 hx4 hz_1_12 hx5 hfm hto hy1_14 hy1_16 hy1_18 hy1_20 hz201_33 hc98_15 hc117_17 hc136_19 hc155_21), N32⟩
      · -- pc 136: y1_18 = (0 : Int32) False
        refine step (T18.setTop (mkF m 139 #[.val (.int p0), .val (.long p1), .second, .val (.int p2), .val (.int p3), .val (.ref b1), .val (.int fm), .val (.int to), .val (.int (-1 : Int32))] [])) (fun t k => XS.ifNo X18.here hx rfl (hb hby at_136) rfl ((if0 _ _).trans (feq hc136_19).1) k) ?_
        refine step (T18.setTop (mkF m 140 #[.val (.int p0), .val (.long p1), .second, .val (.int p2), .val (.int p3), .val (.ref b1), .val (.int fm), .val (.int to), .val (.int (-1 : Int32))] [(.int (4 : Int32))])) (fun t k => XS.iconst X18.here hx rfl (hb hby at_139) k) ?_
        refine step (T18.setTop (mkF m 142 #[.val (.int p0), .val (.long p1), .second, .val (.int p2), .val (.int p3), .val (.ref b1), .val (.int fm), .val (.int to), .val (.int (4 : Int32))] [])) (fun t k => XS.istore X18.here hx rfl (hb hby at_140) rfl (l' := #[.val (.int p0), .val (.long p1), .second, .val (.int p2), .val (.int p3), .val (.ref b1), .val (.int fm), .val (.int to), .val (.int (4 : Int32))]) rfl k) ?_
        refine step (T18.setTop (mkF m 182 #[.val (.int p0), .val (.long p1), .second, .val (.int p2), .val (.int p3), .val (.ref b1), .val (.int fm), .val (.int to), .val (.int (4 : Int32))] [])) (fun t k => XS.goto X18.here hx rfl (pc0 := 142) (pc' := 182) rfl (hb hby at_142) (by decide) (by decide) k) ?_
        refine step (T18.setTop (mkF m 184 #[.val (.int p0), .val (.long p1), .second, .val (.int p2), .val (.int p3), .val (.ref b1), .val (.int fm), .val (.int to), .val (.int (4 : Int32))] [(.ref b1)])) (fun t k => XS.aload X18.here hx rfl (hb hby at_182) rfl rfl k) ?_
        refine step (T18.setTop (mkF m 186 #[.val (.int p0), .val (.long p1), .second, .val (.int p2), .val (.int p3), .val (.ref b1), .val (.int fm), .val (.int to), .val (.int (4 : Int32))] [(.int fm), (.ref b1)])) (fun t k => XS.iload X18.here hx rfl (hb hby at_184) rfl k) ?_
        refine step (T18.setTop (mkF m 188 #[.val (.int p0), .val (.long p1), .second, .val (.int p2), .val (.int p3), .val (.ref b1), .val (.int fm), .val (.int to), .val (.int (4 : Int32))] [(.int to), (.int fm), (.ref b1)])) (fun t k => XS.iload X18.here hx rfl (hb hby at_186) rfl k) ?_
        obtain ⟨_, _, ⟨T36, L36, k36, n36⟩, -, X36, ⟨Lc36, hQ36, l36, y36, z36⟩, st36⟩ := Jvm.LawKit.callS X18 hx (y := (⟨"com/example/whisman/whisman/connector/RequestHeadParser", "headEnd", "([BII)I"⟩ : MethodName)) hown (mvT hZ (hw _ (List.mem_of_getElem? (i := 9) rfl))) (mvT hZ (hw _ (List.mem_of_getElem? (i := 10) rfl))) (mvT hZ (hw _ (List.mem_of_getElem? (i := 11) rfl))) (mvT hZ (hw _ (List.mem_of_getElem? (i := 12) rfl))) (by decide) (backOf (W := 0) (rm3 l Z a0 hw [] b1 k1 (nar .byte x0) (nar .byte x1) (nar .byte x2) (nar .byte x3) (nar .byte x4) (nar .byte x5) fm to h13 n0 (Nat.le_trans Z0 K13.1) V13 (own_r7 _ _ hfm).1 (own_r7 _ _ hto).2) hZ (hw _ (List.mem_of_getElem? (i := 12) rfl)) (hw _ (List.mem_of_getElem? (i := 11) rfl)) (by decide) (by decide)) (g := (mkF m 188 #[.val (.int p0), .val (.long p1), .second, .val (.int p2), .val (.int p3), .val (.ref b1), .val (.int fm), .val (.int to), .val (.int (4 : Int32))] [(.int to), (.int fm), (.ref b1)])) rfl (by rw [hml]; rfl) (argsL := [(.ref b1), (.int fm), (.int to)]) (rest := []) (lenOf pd_2 rfl) rfl (by show 2 * 0 + _ ≤ _; exact Nat.le_of_eq rfl) (hb hby at_188) (fun _ _ => ⟨rfl, e18q, (by decide : 1 + 0 ≤ _), (by decide : 6 + 0 ≤ _)⟩)
        dsimp only [Pt.U, Pt.locs, Pt.cells, Pt.slots] at X36 l36 y36 z36 st36 hQ36
        subst l36 y36 z36
        obtain ⟨rfl, N36q, e36q⟩ := hQ36
        have N36 := Fr.app N18 N36q
        refine step (T36.setTop (mkF m 191 #[.val (.int p0), .val (.long p1), .second, .val (.int p2), .val (.int p3), .val (.ref b1), .val (.int fm), .val (.int to), .val (.int (4 : Int32))] [(.int (own_he 7 [(nar .byte x0), (nar .byte x1), (nar .byte x2), (nar .byte x3), (nar .byte x4), (nar .byte x5)] fm to))])) (fun t k => st36 t k) ?_
        refine step (T36.setTop (mkF m 193 #[.val (.int p0), .val (.long p1), .second, .val (.int p2), .val (.int p3), .val (.ref b1), .val (.int fm), .val (.int to), .val (.int (4 : Int32))] [(.int (4 : Int32)), (.int (own_he 7 [(nar .byte x0), (nar .byte x1), (nar .byte x2), (nar .byte x3), (nar .byte x4), (nar .byte x5)] fm to))])) (fun t k => XS.iload X36.here hx rfl (hb hby at_191) rfl k) ?_
        suffices J201_38 : ∀ (z201_37 : Int32), z201_37 = (if (own_he 7 [(nar .byte x0), (nar .byte x1), (nar .byte x2), (nar .byte x3), (nar .byte x4), (nar .byte x5)] fm to) = (4 : Int32) then (1 : Int32) else (0 : Int32)) → G (T36.setTop (mkF m 201 #[.val (.int p0), .val (.long p1), .second, .val (.int p2), .val (.int p3), .val (.ref b1), .val (.int fm), .val (.int to), .val (.int (4 : Int32))] [(.int z201_37)])) by
          by_cases hc193_39 : (own_he 7 [(nar .byte x0), (nar .byte x1), (nar .byte x2), (nar .byte x3), (nar .byte x4), (nar .byte x5)] fm to) = (4 : Int32)
          · -- 193 True
            refine step (T36.setTop (mkF m 196 #[.val (.int p0), .val (.long p1), .second, .val (.int p2), .val (.int p3), .val (.ref b1), .val (.int fm), .val (.int to), .val (.int (4 : Int32))] [])) (fun t k => XS.icmpNo X36.here hx rfl (hb hby at_193) rfl (teq hc193_39).2 k) ?_
            refine step (T36.setTop (mkF m 197 #[.val (.int p0), .val (.long p1), .second, .val (.int p2), .val (.int p3), .val (.ref b1), .val (.int fm), .val (.int to), .val (.int (4 : Int32))] [(.int (1 : Int32))])) (fun t k => XS.iconst X36.here hx rfl (hb hby at_196) k) ?_
            refine step (T36.setTop (mkF m 201 #[.val (.int p0), .val (.long p1), .second, .val (.int p2), .val (.int p3), .val (.ref b1), .val (.int fm), .val (.int to), .val (.int (4 : Int32))] [(.int (1 : Int32))])) (fun t k => XS.goto X36.here hx rfl (pc0 := 197) (pc' := 201) rfl (hb hby at_197) (by decide) (by decide) k) ?_
            exact J201_38 _ (by simp only [if_pos hc193_39, if_true, if_false] <;> rfl)
          · -- 193 False
            refine step (T36.setTop (mkF m 200 #[.val (.int p0), .val (.long p1), .second, .val (.int p2), .val (.int p3), .val (.ref b1), .val (.int fm), .val (.int to), .val (.int (4 : Int32))] [])) (fun t k => XS.icmpYes X36.here hx rfl (pc0 := 193) (pc' := 200) rfl (hb hby at_193) rfl (feq hc193_39).2 (by decide) (by decide) k) ?_
            refine step (T36.setTop (mkF m 201 #[.val (.int p0), .val (.long p1), .second, .val (.int p2), .val (.int p3), .val (.ref b1), .val (.int fm), .val (.int to), .val (.int (4 : Int32))] [(.int (0 : Int32))])) (fun t k => XS.iconst X36.here hx rfl (hb hby at_200) k) ?_
            exact J201_38 _ (by simp only [if_neg hc193_39, if_true, if_false] <;> rfl)
        intro z201_37 hz201_37
        refine fin (v := some (.int (nar .boolean z201_37))) X36 (fun h => by cases h) ?_ (by decide) (by decide) (fun fs hr => retN X36 hx (t := .boolean) hret (by simp) (hb hby at_201) hr)
        show Q0 Z p0 p1 p2 p3 h0 n0 (some (.int (nar .boolean z201_37))) T36.heap _
        rw [e36q]
        exact ⟨own_fin (own_plain14 p0 p1 p2 p3 z_1_2 x0 z_1_4 x1 z_1_6 x2 z_1_8 x3 z_1_10 x4 z_1_12 x5 fm to y1_14 y1_16 y1_18 z201_37 hz_1_2 hx0 hz_1_4 hx1 hz_1_6 hx2 hz_1_8 hx3 hz_1_10 hx4 hz_1_12 hx5 hfm hto hy1_14 hy1_16 hy1_18 hz201_37 hc98_15 hc117_17 hc136_19), N36⟩
    · -- pc 117: y1_16 = (0 : Int32) False
      refine step (T16.setTop (mkF m 120 #[.val (.int p0), .val (.long p1), .second, .val (.int p2), .val (.int p3), .val (.ref b1), .val (.int fm), .val (.int to), .val (.int (-1 : Int32))] [])) (fun t k => XS.ifNo X16.here hx rfl (hb hby at_117) rfl ((if0 _ _).trans (feq hc117_17).1) k) ?_
      refine step (T16.setTop (mkF m 121 #[.val (.int p0), .val (.long p1), .second, .val (.int p2), .val (.int p3), .val (.ref b1), .val (.int fm), .val (.int to), .val (.int (-1 : Int32))] [(.int (3 : Int32))])) (fun t k => XS.iconst X16.here hx rfl (hb hby at_120) k) ?_
      refine step (T16.setTop (mkF m 123 #[.val (.int p0), .val (.long p1), .second, .val (.int p2), .val (.int p3), .val (.ref b1), .val (.int fm), .val (.int to), .val (.int (3 : Int32))] [])) (fun t k => XS.istore X16.here hx rfl (hb hby at_121) rfl (l' := #[.val (.int p0), .val (.long p1), .second, .val (.int p2), .val (.int p3), .val (.ref b1), .val (.int fm), .val (.int to), .val (.int (3 : Int32))]) rfl k) ?_
      refine step (T16.setTop (mkF m 182 #[.val (.int p0), .val (.long p1), .second, .val (.int p2), .val (.int p3), .val (.ref b1), .val (.int fm), .val (.int to), .val (.int (3 : Int32))] [])) (fun t k => XS.goto X16.here hx rfl (pc0 := 123) (pc' := 182) rfl (hb hby at_123) (by decide) (by decide) k) ?_
      refine step (T16.setTop (mkF m 184 #[.val (.int p0), .val (.long p1), .second, .val (.int p2), .val (.int p3), .val (.ref b1), .val (.int fm), .val (.int to), .val (.int (3 : Int32))] [(.ref b1)])) (fun t k => XS.aload X16.here hx rfl (hb hby at_182) rfl rfl k) ?_
      refine step (T16.setTop (mkF m 186 #[.val (.int p0), .val (.long p1), .second, .val (.int p2), .val (.int p3), .val (.ref b1), .val (.int fm), .val (.int to), .val (.int (3 : Int32))] [(.int fm), (.ref b1)])) (fun t k => XS.iload X16.here hx rfl (hb hby at_184) rfl k) ?_
      refine step (T16.setTop (mkF m 188 #[.val (.int p0), .val (.long p1), .second, .val (.int p2), .val (.int p3), .val (.ref b1), .val (.int fm), .val (.int to), .val (.int (3 : Int32))] [(.int to), (.int fm), (.ref b1)])) (fun t k => XS.iload X16.here hx rfl (hb hby at_186) rfl k) ?_
      obtain ⟨_, _, ⟨T40, L40, k40, n40⟩, -, X40, ⟨Lc40, hQ40, l40, y40, z40⟩, st40⟩ := Jvm.LawKit.callS X16 hx (y := (⟨"com/example/whisman/whisman/connector/RequestHeadParser", "headEnd", "([BII)I"⟩ : MethodName)) hown (mvT hZ (hw _ (List.mem_of_getElem? (i := 9) rfl))) (mvT hZ (hw _ (List.mem_of_getElem? (i := 10) rfl))) (mvT hZ (hw _ (List.mem_of_getElem? (i := 11) rfl))) (mvT hZ (hw _ (List.mem_of_getElem? (i := 12) rfl))) (by decide) (backOf (W := 0) (rm3 l Z a0 hw [] b1 k1 (nar .byte x0) (nar .byte x1) (nar .byte x2) (nar .byte x3) (nar .byte x4) (nar .byte x5) fm to h13 n0 (Nat.le_trans Z0 K13.1) V13 (own_r7 _ _ hfm).1 (own_r7 _ _ hto).2) hZ (hw _ (List.mem_of_getElem? (i := 12) rfl)) (hw _ (List.mem_of_getElem? (i := 11) rfl)) (by decide) (by decide)) (g := (mkF m 188 #[.val (.int p0), .val (.long p1), .second, .val (.int p2), .val (.int p3), .val (.ref b1), .val (.int fm), .val (.int to), .val (.int (3 : Int32))] [(.int to), (.int fm), (.ref b1)])) rfl (by rw [hml]; rfl) (argsL := [(.ref b1), (.int fm), (.int to)]) (rest := []) (lenOf pd_2 rfl) rfl (by show 2 * 0 + _ ≤ _; exact Nat.le_of_eq rfl) (hb hby at_188) (fun _ _ => ⟨rfl, e16q, (by decide : 1 + 0 ≤ _), (by decide : 6 + 0 ≤ _)⟩)
      dsimp only [Pt.U, Pt.locs, Pt.cells, Pt.slots] at X40 l40 y40 z40 st40 hQ40
      subst l40 y40 z40
      obtain ⟨rfl, N40q, e40q⟩ := hQ40
      have N40 := Fr.app N16 N40q
      refine step (T40.setTop (mkF m 191 #[.val (.int p0), .val (.long p1), .second, .val (.int p2), .val (.int p3), .val (.ref b1), .val (.int fm), .val (.int to), .val (.int (3 : Int32))] [(.int (own_he 7 [(nar .byte x0), (nar .byte x1), (nar .byte x2), (nar .byte x3), (nar .byte x4), (nar .byte x5)] fm to))])) (fun t k => st40 t k) ?_
      refine step (T40.setTop (mkF m 193 #[.val (.int p0), .val (.long p1), .second, .val (.int p2), .val (.int p3), .val (.ref b1), .val (.int fm), .val (.int to), .val (.int (3 : Int32))] [(.int (3 : Int32)), (.int (own_he 7 [(nar .byte x0), (nar .byte x1), (nar .byte x2), (nar .byte x3), (nar .byte x4), (nar .byte x5)] fm to))])) (fun t k => XS.iload X40.here hx rfl (hb hby at_191) rfl k) ?_
      suffices J201_42 : ∀ (z201_41 : Int32), z201_41 = (if (own_he 7 [(nar .byte x0), (nar .byte x1), (nar .byte x2), (nar .byte x3), (nar .byte x4), (nar .byte x5)] fm to) = (3 : Int32) then (1 : Int32) else (0 : Int32)) → G (T40.setTop (mkF m 201 #[.val (.int p0), .val (.long p1), .second, .val (.int p2), .val (.int p3), .val (.ref b1), .val (.int fm), .val (.int to), .val (.int (3 : Int32))] [(.int z201_41)])) by
        by_cases hc193_43 : (own_he 7 [(nar .byte x0), (nar .byte x1), (nar .byte x2), (nar .byte x3), (nar .byte x4), (nar .byte x5)] fm to) = (3 : Int32)
        · -- 193 True
          refine step (T40.setTop (mkF m 196 #[.val (.int p0), .val (.long p1), .second, .val (.int p2), .val (.int p3), .val (.ref b1), .val (.int fm), .val (.int to), .val (.int (3 : Int32))] [])) (fun t k => XS.icmpNo X40.here hx rfl (hb hby at_193) rfl (teq hc193_43).2 k) ?_
          refine step (T40.setTop (mkF m 197 #[.val (.int p0), .val (.long p1), .second, .val (.int p2), .val (.int p3), .val (.ref b1), .val (.int fm), .val (.int to), .val (.int (3 : Int32))] [(.int (1 : Int32))])) (fun t k => XS.iconst X40.here hx rfl (hb hby at_196) k) ?_
          refine step (T40.setTop (mkF m 201 #[.val (.int p0), .val (.long p1), .second, .val (.int p2), .val (.int p3), .val (.ref b1), .val (.int fm), .val (.int to), .val (.int (3 : Int32))] [(.int (1 : Int32))])) (fun t k => XS.goto X40.here hx rfl (pc0 := 197) (pc' := 201) rfl (hb hby at_197) (by decide) (by decide) k) ?_
          exact J201_42 _ (by simp only [if_pos hc193_43, if_true, if_false] <;> rfl)
        · -- 193 False
          refine step (T40.setTop (mkF m 200 #[.val (.int p0), .val (.long p1), .second, .val (.int p2), .val (.int p3), .val (.ref b1), .val (.int fm), .val (.int to), .val (.int (3 : Int32))] [])) (fun t k => XS.icmpYes X40.here hx rfl (pc0 := 193) (pc' := 200) rfl (hb hby at_193) rfl (feq hc193_43).2 (by decide) (by decide) k) ?_
          refine step (T40.setTop (mkF m 201 #[.val (.int p0), .val (.long p1), .second, .val (.int p2), .val (.int p3), .val (.ref b1), .val (.int fm), .val (.int to), .val (.int (3 : Int32))] [(.int (0 : Int32))])) (fun t k => XS.iconst X40.here hx rfl (hb hby at_200) k) ?_
          exact J201_42 _ (by simp only [if_neg hc193_43, if_true, if_false] <;> rfl)
      intro z201_41 hz201_41
      refine fin (v := some (.int (nar .boolean z201_41))) X40 (fun h => by cases h) ?_ (by decide) (by decide) (fun fs hr => retN X40 hx (t := .boolean) hret (by simp) (hb hby at_201) hr)
      show Q0 Z p0 p1 p2 p3 h0 n0 (some (.int (nar .boolean z201_41))) T40.heap _
      rw [e40q]
      exact ⟨own_fin (own_plain15 p0 p1 p2 p3 z_1_2 x0 z_1_4 x1 z_1_6 x2 z_1_8 x3 z_1_10 x4 z_1_12 x5 fm to y1_14 y1_16 z201_41 hz_1_2 hx0 hz_1_4 hx1 hz_1_6 hx2 hz_1_8 hx3 hz_1_10 hx4 hz_1_12 hx5 hfm hto hy1_14 hy1_16 hz201_41 hc98_15 hc117_17), N40⟩
  · -- pc 98: y1_14 = (0 : Int32) False
    refine step (T14.setTop (mkF m 101 #[.val (.int p0), .val (.long p1), .second, .val (.int p2), .val (.int p3), .val (.ref b1), .val (.int fm), .val (.int to), .val (.int (-1 : Int32))] [])) (fun t k => XS.ifNo X14.here hx rfl (hb hby at_98) rfl ((if0 _ _).trans (feq hc98_15).1) k) ?_
    refine step (T14.setTop (mkF m 102 #[.val (.int p0), .val (.long p1), .second, .val (.int p2), .val (.int p3), .val (.ref b1), .val (.int fm), .val (.int to), .val (.int (-1 : Int32))] [(.int (2 : Int32))])) (fun t k => XS.iconst X14.here hx rfl (hb hby at_101) k) ?_
    refine step (T14.setTop (mkF m 104 #[.val (.int p0), .val (.long p1), .second, .val (.int p2), .val (.int p3), .val (.ref b1), .val (.int fm), .val (.int to), .val (.int (2 : Int32))] [])) (fun t k => XS.istore X14.here hx rfl (hb hby at_102) rfl (l' := #[.val (.int p0), .val (.long p1), .second, .val (.int p2), .val (.int p3), .val (.ref b1), .val (.int fm), .val (.int to), .val (.int (2 : Int32))]) rfl k) ?_
    refine step (T14.setTop (mkF m 182 #[.val (.int p0), .val (.long p1), .second, .val (.int p2), .val (.int p3), .val (.ref b1), .val (.int fm), .val (.int to), .val (.int (2 : Int32))] [])) (fun t k => XS.goto X14.here hx rfl (pc0 := 104) (pc' := 182) rfl (hb hby at_104) (by decide) (by decide) k) ?_
    refine step (T14.setTop (mkF m 184 #[.val (.int p0), .val (.long p1), .second, .val (.int p2), .val (.int p3), .val (.ref b1), .val (.int fm), .val (.int to), .val (.int (2 : Int32))] [(.ref b1)])) (fun t k => XS.aload X14.here hx rfl (hb hby at_182) rfl rfl k) ?_
    refine step (T14.setTop (mkF m 186 #[.val (.int p0), .val (.long p1), .second, .val (.int p2), .val (.int p3), .val (.ref b1), .val (.int fm), .val (.int to), .val (.int (2 : Int32))] [(.int fm), (.ref b1)])) (fun t k => XS.iload X14.here hx rfl (hb hby at_184) rfl k) ?_
    refine step (T14.setTop (mkF m 188 #[.val (.int p0), .val (.long p1), .second, .val (.int p2), .val (.int p3), .val (.ref b1), .val (.int fm), .val (.int to), .val (.int (2 : Int32))] [(.int to), (.int fm), (.ref b1)])) (fun t k => XS.iload X14.here hx rfl (hb hby at_186) rfl k) ?_
    obtain ⟨_, _, ⟨T44, L44, k44, n44⟩, -, X44, ⟨Lc44, hQ44, l44, y44, z44⟩, st44⟩ := Jvm.LawKit.callS X14 hx (y := (⟨"com/example/whisman/whisman/connector/RequestHeadParser", "headEnd", "([BII)I"⟩ : MethodName)) hown (mvT hZ (hw _ (List.mem_of_getElem? (i := 9) rfl))) (mvT hZ (hw _ (List.mem_of_getElem? (i := 10) rfl))) (mvT hZ (hw _ (List.mem_of_getElem? (i := 11) rfl))) (mvT hZ (hw _ (List.mem_of_getElem? (i := 12) rfl))) (by decide) (backOf (W := 0) (rm3 l Z a0 hw [] b1 k1 (nar .byte x0) (nar .byte x1) (nar .byte x2) (nar .byte x3) (nar .byte x4) (nar .byte x5) fm to h13 n0 (Nat.le_trans Z0 K13.1) V13 (own_r7 _ _ hfm).1 (own_r7 _ _ hto).2) hZ (hw _ (List.mem_of_getElem? (i := 12) rfl)) (hw _ (List.mem_of_getElem? (i := 11) rfl)) (by decide) (by decide)) (g := (mkF m 188 #[.val (.int p0), .val (.long p1), .second, .val (.int p2), .val (.int p3), .val (.ref b1), .val (.int fm), .val (.int to), .val (.int (2 : Int32))] [(.int to), (.int fm), (.ref b1)])) rfl (by rw [hml]; rfl) (argsL := [(.ref b1), (.int fm), (.int to)]) (rest := []) (lenOf pd_2 rfl) rfl (by show 2 * 0 + _ ≤ _; exact Nat.le_of_eq rfl) (hb hby at_188) (fun _ _ => ⟨rfl, e14q, (by decide : 1 + 0 ≤ _), (by decide : 6 + 0 ≤ _)⟩)
    dsimp only [Pt.U, Pt.locs, Pt.cells, Pt.slots] at X44 l44 y44 z44 st44 hQ44
    subst l44 y44 z44
    obtain ⟨rfl, N44q, e44q⟩ := hQ44
    have N44 := Fr.app N14 N44q
    refine step (T44.setTop (mkF m 191 #[.val (.int p0), .val (.long p1), .second, .val (.int p2), .val (.int p3), .val (.ref b1), .val (.int fm), .val (.int to), .val (.int (2 : Int32))] [(.int (own_he 7 [(nar .byte x0), (nar .byte x1), (nar .byte x2), (nar .byte x3), (nar .byte x4), (nar .byte x5)] fm to))])) (fun t k => st44 t k) ?_
    refine step (T44.setTop (mkF m 193 #[.val (.int p0), .val (.long p1), .second, .val (.int p2), .val (.int p3), .val (.ref b1), .val (.int fm), .val (.int to), .val (.int (2 : Int32))] [(.int (2 : Int32)), (.int (own_he 7 [(nar .byte x0), (nar .byte x1), (nar .byte x2), (nar .byte x3), (nar .byte x4), (nar .byte x5)] fm to))])) (fun t k => XS.iload X44.here hx rfl (hb hby at_191) rfl k) ?_
    suffices J201_46 : ∀ (z201_45 : Int32), z201_45 = (if (own_he 7 [(nar .byte x0), (nar .byte x1), (nar .byte x2), (nar .byte x3), (nar .byte x4), (nar .byte x5)] fm to) = (2 : Int32) then (1 : Int32) else (0 : Int32)) → G (T44.setTop (mkF m 201 #[.val (.int p0), .val (.long p1), .second, .val (.int p2), .val (.int p3), .val (.ref b1), .val (.int fm), .val (.int to), .val (.int (2 : Int32))] [(.int z201_45)])) by
      by_cases hc193_47 : (own_he 7 [(nar .byte x0), (nar .byte x1), (nar .byte x2), (nar .byte x3), (nar .byte x4), (nar .byte x5)] fm to) = (2 : Int32)
      · -- 193 True
        refine step (T44.setTop (mkF m 196 #[.val (.int p0), .val (.long p1), .second, .val (.int p2), .val (.int p3), .val (.ref b1), .val (.int fm), .val (.int to), .val (.int (2 : Int32))] [])) (fun t k => XS.icmpNo X44.here hx rfl (hb hby at_193) rfl (teq hc193_47).2 k) ?_
        refine step (T44.setTop (mkF m 197 #[.val (.int p0), .val (.long p1), .second, .val (.int p2), .val (.int p3), .val (.ref b1), .val (.int fm), .val (.int to), .val (.int (2 : Int32))] [(.int (1 : Int32))])) (fun t k => XS.iconst X44.here hx rfl (hb hby at_196) k) ?_
        refine step (T44.setTop (mkF m 201 #[.val (.int p0), .val (.long p1), .second, .val (.int p2), .val (.int p3), .val (.ref b1), .val (.int fm), .val (.int to), .val (.int (2 : Int32))] [(.int (1 : Int32))])) (fun t k => XS.goto X44.here hx rfl (pc0 := 197) (pc' := 201) rfl (hb hby at_197) (by decide) (by decide) k) ?_
        exact J201_46 _ (by simp only [if_pos hc193_47, if_true, if_false] <;> rfl)
      · -- 193 False
        refine step (T44.setTop (mkF m 200 #[.val (.int p0), .val (.long p1), .second, .val (.int p2), .val (.int p3), .val (.ref b1), .val (.int fm), .val (.int to), .val (.int (2 : Int32))] [])) (fun t k => XS.icmpYes X44.here hx rfl (pc0 := 193) (pc' := 200) rfl (hb hby at_193) rfl (feq hc193_47).2 (by decide) (by decide) k) ?_
        refine step (T44.setTop (mkF m 201 #[.val (.int p0), .val (.long p1), .second, .val (.int p2), .val (.int p3), .val (.ref b1), .val (.int fm), .val (.int to), .val (.int (2 : Int32))] [(.int (0 : Int32))])) (fun t k => XS.iconst X44.here hx rfl (hb hby at_200) k) ?_
        exact J201_46 _ (by simp only [if_neg hc193_47, if_true, if_false] <;> rfl)
    intro z201_45 hz201_45
    refine fin (v := some (.int (nar .boolean z201_45))) X44 (fun h => by cases h) ?_ (by decide) (by decide) (fun fs hr => retN X44 hx (t := .boolean) hret (by simp) (hb hby at_201) hr)
    show Q0 Z p0 p1 p2 p3 h0 n0 (some (.int (nar .boolean z201_45))) T44.heap _
    rw [e44q]
    exact ⟨own_fin (own_plain16 p0 p1 p2 p3 z_1_2 x0 z_1_4 x1 z_1_6 x2 z_1_8 x3 z_1_10 x4 z_1_12 x5 fm to y1_14 z201_45 hz_1_2 hx0 hz_1_4 hx1 hz_1_6 hx2 hz_1_8 hx3 hz_1_10 hx4 hz_1_12 hx5 hfm hto hy1_14 hz201_45 hc98_15), N44⟩
set_option maxRecDepth 65536 in
set_option maxHeartbeats 40000000 in
theorem comes_1 {Post : Tables → Env → Array Value → State → Outcome → State → Prop} (hpost : ∀ tb e args s v u, (limb_1_1.after args s (.returned v) u = true ∧ limb_1_2.after args s (.returned v) u = true ∧ True) → FrameEnd s (.returned v) u (Jvm.fieldLocs frame_1_writes args s ++ Jvm.arrayLocs frame_1_arrays args s ++ Jvm.staticLocs frame_1_statics s) 16 128 → Post tb e args s (.returned v) u) :
    ArmFor flags0 classFile x code maxLocals ret World_1 tables_1 room_1 Calls_1 rest_1 Pre_1 Post := by
  intro l hfl _ _ p e ha hc hk s m args below hf hA hF happ hP
  obtain ⟨hcalls, hrest, hpre⟩ := hP
  obtain ⟨-, -, -, hnamed, -, -, -, hat⟩ := (Spec.applies_iff hf).mp happ
  obtain ⟨hg, hn⟩ := and_e (Cond.before_iff.mp (show (Jvm.Cond.and given_1 narrow_1).before args s = true from hpre))
  obtain ⟨hcount, hr0⟩ := and_e hg
  obtain ⟨ha0, hr1⟩ := and_e hr0
  obtain ⟨ha1, hr2⟩ := and_e hr1
  obtain ⟨ha2, hr3⟩ := and_e hr2
  have ha3 := hr3
  obtain ⟨w0, w1, w2, w3, rfl⟩ : ∃ w0 w1 w2 w3 : Value, args = #[w0, w1, w2, w3] := by
    have hs : args.size = 4 := by simpa [Cond.value, given_1] using hcount
    obtain ⟨L⟩ := args
    match L, hs with
    | [w0, w1, w2, w3], _ => exact ⟨w0, w1, w2, w3, rfl⟩
  have hw := fun d (hd : d ∈ tables_1) => atoms_spec (ws := Jvm.Cond.code x code maxLocals ret :: tables_1) hat d (List.mem_cons_of_mem _ hd)
  have hfit : Fit s := fun {y c} hc i hi => by
    obtain ⟨ha, rfl⟩ := Array.getElem?_eq_some_iff.mp hc
    have q := List.all_eq_true.mp ((Array.all_eq_true_iff_forall_mem.mp hF) _ (Array.getElem_mem ha)) i (List.mem_range.mpr hi)
    simpa [Array.getElem?_eq_getElem hi] using q
  obtain ⟨i0, ei0⟩ := is_v ha0
  obtain rfl : w0 = (.int i0) := Option.some.inj ei0
  obtain ⟨i1, ei1⟩ := isL_v ha1
  obtain rfl : w1 = (.long i1) := Option.some.inj ei1
  obtain ⟨i2, ei2⟩ := is_v ha2
  obtain rfl : w2 = (.int i2) := Option.some.inj ei2
  obtain ⟨i3, ei3⟩ := is_v ha3
  obtain rfl : w3 = (.int i3) := Option.some.inj ei3
  obtain ⟨n, o, h1, h2, h3, _, L, rfl, ⟨rfl, N⟩, hq⟩ := rm0 l s _ hw tables_1 i0 i1 i2 i3 s.heap s.heap.size (Nat.le_refl _) p e ha hc hk s m _ below hf ((Spec.applies_iff_loose hf).mp happ).1 ⟨rfl, State.Warmed39.refl s, rfl⟩ trivial
  refine ⟨n, _, h1, h2, h3, hpost _ _ _ _ _ _ ⟨Cond.after_iff.mpr rfl, Cond.after_iff.mpr (eq_i res_at (Term.int_eval (1)) rfl), trivial⟩ ⟨hq.1, hq.2.1, (hq.2.2.sift fun y hy => Or.inr (N y hy)).mono (by decide) (by decide)⟩⟩
theorem main_1_1 : Claimed_1_1 := comes_1 fun _ _ _ _ _ _ h hF => ⟨h.1, hF⟩
theorem main_1_2 : Claimed_1_2 := comes_1 fun _ _ _ _ _ _ h hF => ⟨h.2.1, hF⟩
end Jvm.Pilot.@@N@@
namespace Jvm.Pilot.@@N@@
open Jvm Jvm.ClassFile Sem Op Lib Jvm.Free Jvm.Stand Jvm.Pilot.@@N@@.Jvm.D
/-! MADE BY PROGRAM (witnessworld.py) out of the Statement's table words and the real class files: 9 classes; the members and pool entries that the words name. The judged class is class 1, her method 1. -/
namespace start1
open Jvm.ClassFile
def u (s : String) : CpInfo := .utf8 (stringToUtf16 s)
/-- a pool by its gaps: so many unusable entries, then the entry; so many at the end -/
def gap : Nat → List CpInfo → List CpInfo
  | 0, r => r
  | n + 1, r => .unusable :: gap n r
def poolList (es : List (Nat × CpInfo)) (last : Nat) : List CpInfo := es.foldr (fun e r => gap e.1 (e.2 :: r)) (gap last [])
def pool (es : List (Nat × CpInfo)) (last : Nat) : Array CpInfo := ⟨poolList es last⟩
def fileOf (pool : Array CpInfo) (this : Nat) (attrs : Array Attribute := #[]) (ms : Array MethodInfo := #[]) (fl : Nat := 33) (sup : Nat := 0) (ifs : Array Nat := #[]) (fds : Array FieldInfo := #[]) : ClassFile where
  minorVersion := 0
  majorVersion := 65
  constantPool := pool
  accessFlags := fl
  thisClass := this
  superClass := sup
  interfaces := ifs
  fields := fds
  methods := ms
  attributes := attrs
def plain (name : String) (sup : Option ClassId) : Class where
  name := name
  kind := .ordinary
  loader := none
  accessFlags := 33
  super := sup
  interfaces := #[]
  cf := none
  fields := #[]
  methods := #[]
  instanceTypes := #[]
  staticTypes := #[]
  resolved := #[]
  callSites := []
  init := .initialized
  statics := none
  mirror := none

def pool0 : Array CpInfo := pool [(5, u "<init>"), (0, u "()V"), (1, .class_ 10), (1, u "java/lang/Object")] 113

def k0m0 : Method := { name := "<init>", desc := "()V", sig := { parameters := [], returnType := none }, accessFlags := 1, code := none }
/-- java/lang/Object -/
def k0 : Class := { plain "java/lang/Object" none with
  accessFlags := 33
  interfaces := #[]
  cf := some (fileOf pool0 8 #[] #[{ accessFlags := 1, nameIndex := 5, descriptorIndex := 6, attributes := #[] }] 33 0 #[] #[])
  fields := #[]
  methods := #[k0m0]
  instanceTypes := #[]
  staticTypes := #[]
  resolved := Array.replicate 124 none
  statics := none }

def pool1 : Array CpInfo := pool [(2, .class_ 4), (1, u "java/lang/Object"), (0, u "<init>"), (0, u "()V"), (0, .methodref 8 9), (0, .class_ 10), (0, .nameAndType 11 12), (0, u "com/example/whisman/whisman/connector/RequestHeadParserHeadEndPinLaw"), (0, u "pick"), (0, u "(IJI)B"), (0, .integer 2147483647), (0, .methodref 8 15), (0, .nameAndType 16 17), (0, u "endsAt"), (0, u "([BIII)Z"), (0, .methodref 19 20), (0, .class_ 21), (0, .nameAndType 22 23), (0, u "com/example/whisman/whisman/connector/RequestHeadParser"), (0, u "headEnd"), (0, u "([BII)I"), (2, u "law"), (0, u "(IJII)Z")] 5

def k1m0 : Method := { name := "<init>", desc := "()V", sig := { parameters := [], returnType := none }, accessFlags := 1, code := none }
def k1c1 : Code := { maxStack := 6, maxLocals := 9, code := code, exceptionTable := #[], attributes := #[] }
def k1m1 : Method := { name := "law", desc := "(IJII)Z", sig := { parameters := [.int, .long, .int, .int], returnType := some .boolean }, accessFlags := 9, code := some k1c1 }
def k1c2 : Code := { maxStack := 4, maxLocals := 5, code := method_3_code, exceptionTable := #[], attributes := #[] }
def k1m2 : Method := { name := "pick", desc := "(IJI)B", sig := { parameters := [.int, .long, .int], returnType := some .byte }, accessFlags := 10, code := some k1c2 }
def k1c3 : Code := { maxStack := 3, maxLocals := 6, code := method_4_code, exceptionTable := #[], attributes := #[] }
def k1m3 : Method := { name := "endsAt", desc := "([BIII)Z", sig := { parameters := [(.array .byte), .int, .int, .int], returnType := some .boolean }, accessFlags := 10, code := some k1c3 }
/-- com/example/whisman/whisman/connector/RequestHeadParserHeadEndPinLaw -/
def k1 : Class := { plain "com/example/whisman/whisman/connector/RequestHeadParserHeadEndPinLaw" (some 0) with
  accessFlags := 49
  interfaces := #[]
  cf := some (fileOf pool1 8 #[] #[{ accessFlags := 1, nameIndex := 5, descriptorIndex := 6, attributes := #[] }, { accessFlags := 9, nameIndex := 26, descriptorIndex := 27, attributes := #[] }, { accessFlags := 10, nameIndex := 11, descriptorIndex := 12, attributes := #[] }, { accessFlags := 10, nameIndex := 16, descriptorIndex := 17, attributes := #[] }] 49 2 #[] #[])
  fields := #[]
  methods := #[k1m0, k1m1, k1m2, k1m3]
  instanceTypes := #[]
  staticTypes := #[]
  resolved := Array.replicate 33 none
  statics := none }

def pool2 : Array CpInfo := pool [(2, .class_ 4), (1, u "java/lang/Object"), (0, u "<init>"), (0, u "()V"), (1, .class_ 10), (1, u "com/example/whisman/whisman/connector/RequestHeadParser"), (48, u "([BII)I"), (12, u "KNOWN_VERSIONS"), (0, u "Ljava/util/List;"), (7, u "KNOWN_METHODS"), (276, u "MAX_FIELDS"), (0, u "I"), (2, u "MAX_CONTENT_LENGTH_DIGITS"), (5, u "headEnd")] 31

def k2m0 : Method := { name := "<init>", desc := "()V", sig := { parameters := [], returnType := none }, accessFlags := 2, code := none }
def k2c1 : Code := { maxStack := 3, maxLocals := 4, code := prog_17_method_2_code, exceptionTable := #[], attributes := #[] }
def k2m1 : Method := { name := "headEnd", desc := "([BII)I", sig := { parameters := [(.array .byte), .int, .int], returnType := some .int }, accessFlags := 8, code := some k2c1 }
/-- com/example/whisman/whisman/connector/RequestHeadParser -/
def k2 : Class := { plain "com/example/whisman/whisman/connector/RequestHeadParser" (some 0) with
  accessFlags := 48
  interfaces := #[]
  cf := some (fileOf pool2 8 #[] #[{ accessFlags := 2, nameIndex := 5, descriptorIndex := 6, attributes := #[] }, { accessFlags := 8, nameIndex := 368, descriptorIndex := 59, attributes := #[] }] 48 2 #[] #[{ accessFlags := 26, nameIndex := 358, descriptorIndex := 359, attributes := #[] }, { accessFlags := 26, nameIndex := 362, descriptorIndex := 359, attributes := #[] }, { accessFlags := 26, nameIndex := 81, descriptorIndex := 73, attributes := #[] }, { accessFlags := 26, nameIndex := 72, descriptorIndex := 73, attributes := #[] }])
  fields := #[{ name := "MAX_FIELDS", type := .int, accessFlags := 26, slot := 0, constantValue := 0 }, { name := "MAX_CONTENT_LENGTH_DIGITS", type := .int, accessFlags := 26, slot := 1, constantValue := 0 }, { name := "KNOWN_METHODS", type := (.object "java/util/List"), accessFlags := 26, slot := 2, constantValue := 0 }, { name := "KNOWN_VERSIONS", type := (.object "java/util/List"), accessFlags := 26, slot := 3, constantValue := 0 }]
  methods := #[k2m0, k2m1]
  instanceTypes := #[]
  staticTypes := #[.int, .int, (.object "java/util/List"), (.object "java/util/List")]
  resolved := Array.replicate 400 none
  statics := none }

def pool3 : Array CpInfo := pool [(1, u "java/lang/Cloneable"), (0, .class_ 1), (0, u "java/lang/Object"), (0, .class_ 3)] 3

/-- java/lang/Cloneable -/
def k3 : Class := { plain "java/lang/Cloneable" (some 0) with
  accessFlags := 1537
  interfaces := #[]
  cf := some (fileOf pool3 2 #[] #[] 1537 4 #[] #[])
  fields := #[]
  methods := #[]
  instanceTypes := #[]
  staticTypes := #[]
  resolved := Array.replicate 8 none
  statics := none }

def pool4 : Array CpInfo := pool [(1, u "java/io/Serializable"), (0, .class_ 1), (0, u "java/lang/Object"), (0, .class_ 3)] 3

/-- java/io/Serializable -/
def k4 : Class := { plain "java/io/Serializable" (some 0) with
  accessFlags := 1537
  interfaces := #[]
  cf := some (fileOf pool4 2 #[] #[] 1537 4 #[] #[])
  fields := #[]
  methods := #[]
  instanceTypes := #[]
  staticTypes := #[]
  resolved := Array.replicate 8 none
  statics := none }

/-- the primitive byte -/
def k5 : Class := { plain "byte" none with kind := .primitive 'B', accessFlags := 0x411 }
/-- [B -/
def k6 : Class := { plain "[B" (some 0) with kind := .array 5 .byte, interfaces := #[3, 4], accessFlags := 1041 }

/-- the primitive int -/
def k7 : Class := { plain "int" none with kind := .primitive 'I', accessFlags := 0x411 }
/-- [I -/
def k8 : Class := { plain "[I" (some 0) with kind := .array 7 .int, interfaces := #[3, 4], accessFlags := 1041 }

def heap : Heap := #[]
def classes : Array Class := #[k0, k1, k2, k3, k4, k5, k6, k7, k8]
def interned : List (Array UInt16 × Addr) := []
def slotsUsed : Nat := 0
def theMethod : MethodId := ⟨1, 1⟩
def args0 : Array Value := #[.int 5, .long 6, .int 7, .int 8]
def aboutOver (below : List Frame) : State where
  vm := { classes := classes, interned := interned.toArray }
  heap := heap
  slotsUsed := slotsUsed
  threads := #[{ frames := .invoking theMethod args0 :: below }]
def below0 : List Frame := [.native { method := ⟨0, 0⟩, args := #[] }]
def about1 : State := aboutOver below0
def p0 : Program := .bare "" "" ""
def e0 : Env := launch0.env 0 0 0
theorem w_frames : about1.frames = Frame.invoking theMethod args0 :: below0 := rfl
set_option maxRecDepth 65536 in
theorem w_args : argsFit about1.vm theMethod args0 = true := by decide +kernel
set_option maxRecDepth 65536 in
theorem w_heap : heapFits about1 = true := by decide +kernel
set_option maxRecDepth 65536 in
theorem w_runnable : about1.curStatus? = some .runnable := by decide +kernel
set_option maxRecDepth 65536 in
theorem w_alone : about1.alone = true := by decide +kernel
set_option maxRecDepth 65536 in
theorem w_named : about1.methodNamed? x = some theMethod := by decide +kernel
set_option maxRecDepth 65536 in
theorem w_hears : about1.hears theMethod below0 = true := by decide +kernel
set_option maxRecDepth 65536 in
theorem w_ripe : about1.ripe theMethod args0 below0 = true := by decide +kernel
theorem w_running : about1.status = .running := rfl
set_option maxRecDepth 65536 in
theorem w_room : about1.hasRoom e0.platform room_1 = true :=
  launch0.hasRoom_least _ room_1 (by decide +kernel) (by decide +kernel) (by decide +kernel) (by decide +kernel) (by decide +kernel) (by decide +kernel)
theorem allAtoms_all (ts : List Jvm.Cond) (a : Array Jvm.Value) (st : Jvm.State) : (allAtoms ts).before a st = ts.all (fun c => c.before a st) := by
  induction ts with
  | nil => rfl
  | cons c t ih =>
    show (Jvm.Cond.and c (allAtoms t)).before a st = _
    rw [Jvm.Cond.before_and, ih, List.all_cons]
def words1 : List Jvm.Cond := Jvm.Cond.code x code maxLocals ret :: tables_1
/-- a 'code' word, met by the world's own term for the bytes: nothing is compared byte by byte -/
theorem code_word {y : MethodName} {bytes : ByteArray} {mx : Nat} {rt : Option FieldType} {a : Array Value} {s : State} {m : MethodId} {meth : Method} {c : Code} (h1 : s.methodNamed? y = some m) (h2 : s.vm.method? m = some meth) (h3 : meth.code = some c) (h4 : c.code = bytes)
    (h5 : (c.maxLocals == mx && c.exceptionTable.isEmpty && decide (c.maxStack ≤ mostOperands) && decide (meth.sig.returnType = rt) && !meth.locks && decide (parseMethodDescriptor y.desc = some meth.sig)) = true) : (Jvm.Cond.code y bytes mx rt).before a s = true := by
  simp only [Bool.and_eq_true, beq_iff_eq, Bool.not_eq_true', decide_eq_true_eq] at h5
  obtain ⟨⟨⟨⟨⟨g1, g2⟩, g3⟩, g4⟩, g5⟩, g6⟩ := h5
  simp [Cond.before, Cond.holds, Cond.value, h1, h2, h3, h4, g1, g2, g3, g4, g5, g6]
def isCode : Jvm.Cond → Bool
  | .code _ _ _ _ => true
  | _ => false
theorem all_split {L : List Jvm.Cond} {P : Jvm.Cond → Bool} (h1 : L.all (fun c => isCode c || P c) = true) (h2 : ∀ c ∈ L.filter isCode, P c = true) : L.all P = true := by
  refine List.all_eq_true.mpr fun c hc => ?_
  have h := List.all_eq_true.mp h1 c hc
  rcases Bool.eq_false_or_eq_true (isCode c) with hi | hi
  · exact h2 c (List.mem_filter.mpr ⟨hc, hi⟩)
  · simpa [hi] using h
set_option maxRecDepth 65536 in
theorem w_c0 : (Jvm.Cond.code x code maxLocals ret).before args0 about1 = true := code_word (m := ⟨1, 1⟩) (meth := k1m1) (c := k1c1) (by decide +kernel) rfl rfl rfl (by decide +kernel)
set_option maxRecDepth 65536 in
theorem w_c1 : (Jvm.Cond.code ({ cls := "com/example/whisman/whisman/connector/RequestHeadParserHeadEndPinLaw", name := "pick", desc := "(IJI)B" } : Jvm.MethodName) method_3_code (5 : Nat) (Option.some Jvm.ClassFile.FieldType.byte)).before args0 about1 = true := code_word (m := ⟨1, 2⟩) (meth := k1m2) (c := k1c2) (by decide +kernel) rfl rfl rfl (by decide +kernel)
set_option maxRecDepth 65536 in
theorem w_c2 : (Jvm.Cond.code ({ cls := "com/example/whisman/whisman/connector/RequestHeadParserHeadEndPinLaw", name := "endsAt", desc := "([BIII)Z" } : Jvm.MethodName) method_4_code (6 : Nat) (Option.some Jvm.ClassFile.FieldType.boolean)).before args0 about1 = true := code_word (m := ⟨1, 3⟩) (meth := k1m3) (c := k1c3) (by decide +kernel) rfl rfl rfl (by decide +kernel)
set_option maxRecDepth 65536 in
theorem w_c3 : (Jvm.Cond.code ({ cls := "com/example/whisman/whisman/connector/RequestHeadParser", name := "headEnd", desc := "([BII)I" } : Jvm.MethodName) prog_17_method_2_code (4 : Nat) (Option.some Jvm.ClassFile.FieldType.int)).before args0 about1 = true := code_word (m := ⟨2, 1⟩) (meth := k2m1) (c := k2c1) (by decide +kernel) rfl rfl rfl (by decide +kernel)
def codes1 : List Jvm.Cond := [Jvm.Cond.code x code maxLocals ret, Jvm.Cond.code ({ cls := "com/example/whisman/whisman/connector/RequestHeadParserHeadEndPinLaw", name := "pick", desc := "(IJI)B" } : Jvm.MethodName) method_3_code (5 : Nat) (Option.some Jvm.ClassFile.FieldType.byte), Jvm.Cond.code ({ cls := "com/example/whisman/whisman/connector/RequestHeadParserHeadEndPinLaw", name := "endsAt", desc := "([BIII)Z" } : Jvm.MethodName) method_4_code (6 : Nat) (Option.some Jvm.ClassFile.FieldType.boolean), Jvm.Cond.code ({ cls := "com/example/whisman/whisman/connector/RequestHeadParser", name := "headEnd", desc := "([BII)I" } : Jvm.MethodName) prog_17_method_2_code (4 : Nat) (Option.some Jvm.ClassFile.FieldType.int)]
set_option maxRecDepth 65536 in
theorem codes_eq : words1.filter isCode = codes1 := rfl
theorem w_codes : ∀ c ∈ words1.filter isCode, c.before args0 about1 = true := by
  rw [codes_eq]
  intro c hc
  simp only [codes1, List.mem_cons, List.not_mem_nil, or_false] at hc
  rcases hc with rfl | rfl | rfl | rfl
  · exact w_c0
  · exact w_c1
  · exact w_c2
  · exact w_c3
set_option maxRecDepth 65536 in
theorem w_t1 : words1.all (fun c => isCode c || c.before args0 about1) = true := by decide +kernel
theorem w_tables : (allAtoms (Jvm.Cond.code x code maxLocals ret :: tables_1)).before args0 about1 = true := by
  rw [allAtoms_all]
  show words1.all (fun c => c.before args0 about1) = true
  refine all_split ?_ w_codes
  rw [w_t1]
set_option maxRecDepth 65536 in
theorem w_case : (Jvm.Cond.and given_1 narrow_1).before args0 about1 = true := by decide +kernel
theorem w_applies : (headSpec (Jvm.Cond.code x code maxLocals ret :: tables_1) room_1).applies x e0.platform about1 = true :=
  (Spec.applies_iff w_frames).mpr ⟨w_running, w_runnable, w_alone, w_named, w_hears, w_ripe, w_room, w_tables⟩
theorem atStart : AtStart classFile x code maxLocals ret World_1 tables_1 room_1 Calls_1 rest_1 Pre_1 launch0 p0 e0 about1 theMethod args0 below0 :=
  ⟨lists_1, trivial, launch0.admits_env _ _ _, launch0.least_env, fairChoices_fair.cas, fairChoices_fair.clock, w_frames, w_args, w_heap, w_applies, trivial, trivial, w_case⟩
end start1
theorem witness_1 : WitnessClaimed_1 := ⟨start1.p0, start1.e0, start1.about1, start1.theMethod, start1.args0, start1.below0, start1.atStart⟩
end Jvm.Pilot.@@N@@
