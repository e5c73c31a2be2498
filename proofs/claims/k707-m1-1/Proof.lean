import JvmDerived
import JvmDerived.Pilot.@@N@@Statement
import JvmDerived.Pilot.@@N@@Code
set_option linter.unusedVariables false
set_option linter.unusedSimpArgs false
namespace Jvm.RoadKit
open Sem ClassFile Op Lib Jvm.Stand Jvm.Free Jvm.LawKit
section New
variable {p : Program} {l : Launch} {e : Env} {R : Room} {s : State} {m : MethodId} {args : Array Value} {below : List Frame} {meth : Method} {c : Code} {T : State} {locs : List Loc} {cells slots : Nat}
theorem retI (X : Stand p l e R s m args below meth c T locs cells slots) (hx : p.tables.exec = Jvm.exec) {pc : Nat} {Ls : Array Slot} {z : Int32} {rest : List Value} (hret : meth.sig.returnType = some .int) (hd : decode c.code pc = .ok (.ireturn, 1)) {fs : List Frame}
    (hl : ∀ (f : JFrame) (acts : List Action), f.method = m → f.locked = none → f.entered = [] → (doReturn e (T.setTop f) acts (some (.int z))).1 = T.setFrames fs) : Steps p.tables e below (T.setTop (mkF m pc Ls (.int z :: rest))) (T.setFrames fs) := by
  have hm' : T.vm.method? m = some meth := X.method'
  have hn : narrow .int (.int z) = .int z := rfl
  show Steps p.tables e below (T.setTop { method := m, pc := pc, locals := Ls, stack := _ :: rest, locked := none }) _
  jvm_step X.here [X.here.top, hx, hd, hm', hret, hn]
  first | (intro acts; rw [hl _ acts rfl rfl rfl]) | rw [hl _ _ rfl rfl rfl]
  exact Steps.refl _
end New
end Jvm.RoadKit
namespace Jvm.Pilot.@@N@@
open Jvm Jvm.ClassFile Sem Op Lib Jvm.Free Jvm.Stand Jvm.LawKit Jvm.RoadKit Bundle Jvm.Pilot.@@N@@.Jvm.D
/-- a body's contract, by a walk forwards: G U says that the run from U comes to an end that the contract allows -/
theorem own_body {l : Launch} {Z : State} {y : MethodName} {bytes : ByteArray} {maxL : Nat} {ret : Option FieldType} {ws : List Jvm.Cond} {rm : Room} {as' : Array Value} {h0 : Heap} {Q : Option Value → Heap → List Loc → Prop} (hpl : plainFor y = true)
    (body : ∀ (p : Program) (e : Env) (s : State) (m : MethodId) (below : List Frame) (meth : Method) (c : Code) (s₁ : State) (G : State → Prop),
      p.tables.exec = Jvm.exec → c.code = bytes → c.maxLocals = maxL → Z.Warmed39 s.vm → s.vm.findClass y.cls = some m.cls → meth.name = y.name → meth.sig.returnType = ret →
      Stand p l e rm s m as' below meth c s₁ [] 0 0 → s₁.heap = h0 →
      (∀ (U' : State) {U : State}, (∀ t, Steps p.tables e below U' t → Steps p.tables e below U t) → G U' → G U) →
      (∀ {U T : State} {locs : List Loc} {cells slots : Nat} {v : Option Value}, Stand p l e rm s m as' below meth c T locs cells slots → (ret = none → v = none) → Q v T.heap locs → cells ≤ rm.cells → slots ≤ rm.slots →
        (∀ fs, (∀ (f : JFrame) (acts : List Action), f.method = m → f.locked = none → f.entered = [] → (doReturn e (T.setTop f) acts v).1 = T.setFrames fs) → Steps p.tables e below U (T.setFrames fs)) → G U) →
      G (s₁.setTop (entryFrame m as' maxL))) :
    MetFree l y (head1 (Jvm.Cond.code y bytes maxL ret :: ws) rm) (fun a U => a = as' ∧ Z.Warmed39 U.vm ∧ U.heap = h0) (fun _ _ _ _ _ => True) (fun _ U o U' => ∃ v L, o = .returned v ∧ Q v U'.heap L ∧ FrameEnd U o U' L rm.cells rm.slots) := by
  refine MetFree.of_bodySF hpl hisR ?_
  intro p e s m args below meth c s₁ Bd hml0 hP hK
  obtain ⟨rfl, hZ, hh⟩ := hP
  have hnm := (name_of_methodNamed Bd.named Bd.method).1
  exact body p e s m below meth c s₁ (fun U => ∃ s₂ o, Steps p.tables e below U s₂ ∧ s₂.status = .running ∧ Ended s₂ below o ∧ ∃ v L, o = .returned v ∧ Q v s₂.heap L ∧ FrameEnd s o s₂ L rm.cells rm.slots)
    Bd.exec Bd.bytes hml0 hZ (findClass_of_methodNamed Bd.named) hnm Bd.returns (Stand.of_body Bd) (by rw [← hh, Bd.state]; rfl)
    (fun U' U h k => by obtain ⟨s₂, o, h1, h2⟩ := k; exact ⟨s₂, o, h _ h1, h2⟩)
    (fun {U T locs cells slots v} X hv hQ hc hs hst => by
      obtain ⟨fs, hr, hrun, hended, hW, hsame⟩ := X.leave (v := v) (fun h => hv (by rw [← Bd.returns]; exact h))
      exact ⟨_, _, hst fs hr, hrun, hended, v, locs, rfl, hQ, ⟨_, rfl⟩, hW, hsame.mono hc hs⟩)
/-- the same, of a body that may intern String constants on its way -/
theorem own_bodyW {l : Launch} {Z : State} {y : MethodName} {bytes : ByteArray} {maxL : Nat} {ret : Option FieldType} {ws : List Jvm.Cond} {rm : Room} {as' : Array Value} {h0 : Heap} {Q : Option Value → Heap → List Loc → Prop} (hpl : plainFor y = true)
    (body : ∀ (p : Program) (e : Env) (s : State) (m : MethodId) (below : List Frame) (meth : Method) (c : Code) (s₁ : State) (G : State → Prop) (vm0 : Vm) (k0 : Nat),
      p.tables.exec = Jvm.exec → c.code = bytes → c.maxLocals = maxL → Z.Warmed39 vm0 → vm0.findClass y.cls = some m.cls → meth.name = y.name → meth.sig.returnType = ret → s.Since vm0 k0 → k0 ≤ h0.size →
      Stand p l e rm (s.setVm vm0) m as' below meth c s₁ [] 0 0 → s₁.heap = h0 →
      (∀ (U' : State) {U : State}, (∀ t, Steps p.tables e below U' t → Steps p.tables e below U t) → G U' → G U) →
      (∀ {U T : State} {locs : List Loc} {cells slots : Nat} {v : Option Value} {vm1 : Vm} {k1 : Nat}, Stand p l e rm (s.setVm vm1) m as' below meth c T locs cells slots → s.Since vm1 k1 → k1 ≤ T.heap.size → (ret = none → v = none) → Q v T.heap locs → cells ≤ rm.cells → slots ≤ rm.slots →
        (∀ fs, (∀ (f : JFrame) (acts : List Action), f.method = m → f.locked = none → f.entered = [] → (doReturn e (T.setTop f) acts v).1 = T.setFrames fs) → Steps p.tables e below U (T.setFrames fs)) → G U) →
      G (s₁.setTop (entryFrame m as' maxL))) :
    MetFree l y (head1 (Jvm.Cond.code y bytes maxL ret :: ws) rm) (fun a U => a = as' ∧ Z.Warmed39 U.vm ∧ U.heap = h0) (fun _ _ _ _ _ => True) (fun _ U o U' => ∃ v L, o = .returned v ∧ Q v U'.heap L ∧ ReturnedEndW U o U' L rm.cells rm.slots) := by
  refine MetFree.of_bodySF hpl hisR ?_
  intro p e s m args below meth c s₁ Bd hml0 hP hK
  obtain ⟨rfl, hZ, hh⟩ := hP
  have hnm := (name_of_methodNamed Bd.named Bd.method).1
  have X0 := Stand.of_body Bd
  exact body p e s m below meth c s₁ (fun U => ∃ s₂ o, Steps p.tables e below U s₂ ∧ s₂.status = .running ∧ Ended s₂ below o ∧ ∃ v L, o = .returned v ∧ Q v s₂.heap L ∧ ReturnedEndW s o s₂ L rm.cells rm.slots)
    s.vm h0.size Bd.exec Bd.bytes hml0 hZ (findClass_of_methodNamed Bd.named) hnm Bd.returns ((State.WarmedH.refl s).since _) (Nat.le_refl _) X0 (by rw [← hh, Bd.state]; rfl)
    (fun U' U h k => by obtain ⟨s₂, o, h1, h2⟩ := k; exact ⟨s₂, o, h _ h1, h2⟩)
    (fun {U T locs cells slots v vm1 k1} X hS hk hv hQ hc hs hst => by
      obtain ⟨fs, hr, hrun, hended, hE⟩ := X.leaveW hS hk (v := v) (fun h => hv (by rw [← Bd.returns]; exact h))
      exact ⟨_, _, hst fs hr, hrun, hended, v, locs, rfl, hQ, hE.1, hE.2.1, hE.2.2.1, hE.2.2.2.mono hc hs⟩)
theorem own_fin {z : Int32} (h : z = 1) : some (Value.int (nar .boolean z)) = some (.int 1) := by subst h; rfl
theorem own_and3 (p : Int32) : p &&& 3 = 0 ∨ p &&& 3 = 1 ∨ p &&& 3 = 2 ∨ p &&& 3 = 3 := by
  have h := c_mask p 3 2 (by decide) (by decide)
  have h4 : (p &&& 3).toInt = 0 ∨ (p &&& 3).toInt = 1 ∨ (p &&& 3).toInt = 2 ∨ (p &&& 3).toInt = 3 := by omega
  rcases h4 with h | h | h | h
  · exact Or.inl (Int32.toInt_inj.mp h)
  · exact Or.inr (Or.inl (Int32.toInt_inj.mp h))
  · exact Or.inr (Or.inr (Or.inl (Int32.toInt_inj.mp h)))
  · exact Or.inr (Or.inr (Or.inr (Int32.toInt_inj.mp h)))
theorem own_eqi {args : Array Value} {s : State} {t : Term} {n : Int32} (h : (Jvm.Cond.eq t (.int n)).value args s none s [] = some true) : t.eval args s none [] s = some (.int n) := by
  simp only [Cond.value, Term.eval] at h
  cases ht : t.eval args s none [] s with
  | none => simp [ht] at h
  | some x => cases x <;> simp [ht] at h ⊢; exact h
theorem own_irr {x : Int32} : ¬ (x < x) := by rw [Int32.lt_iff_toInt_lt]; omega
theorem own_selP {args : Array Value} {s : State} {y : MethodName} {k : Nat} (hinst : (Jvm.Cond.instanceMethod y).before args s = true) (hi : (Jvm.Cond.instantiable y.cls k).before args s = true) (hp : s.PrivateAt y) (hy : y.cls ≠ "java/lang/invoke/MethodHandle" ∧ y.cls ≠ "java/lang/invoke/VarHandle") : (Jvm.Cond.selects y.cls y y).before args s = true := by
  obtain ⟨m, meth, hn, hm, -, -⟩ := Cond.instanceMethod_spec hinst
  obtain ⟨c, kk, h1, h2, -, h4, -⟩ := Cond.instantiable_spec hi
  have hf := State.methodFound?_of_named hn hy
  have hc := findClass_of_methodNamed hn
  cases h1.symm.trans hc
  have hs := selectMethod_private (p := {}) (c := m.cls) hm (hp m meth hn hm)
  have h5 : kk.isInterface = false := by simp only [Bool.or_eq_false_iff] at h4; exact h4.1
  simp [Cond.before, Cond.holds, Cond.value, hc, hf, hn, hs, h2, h5]
theorem own_add0 (x : Int32) : x = (x + (0 : Int32)) := (Int32.add_zero x).symm
theorem own_nn (x y : Int32) (h : (x &&& (2147483647 : Int32)) = y) : ¬ (y < (0 : Int32)) := by
  subst h
  have h := c_mask x 2147483647 31 (by decide) (by decide)
  rw [Int32.lt_iff_toInt_lt]
  have e : (0 : Int32).toInt = 0 := by decide
  omega
theorem own_255 (x y : Int32) (h : ((x &&& (255 : Int32)).toUInt32.toUInt16.toUInt32.toInt32) = y) : ¬ ((255 : Int32) < y) := by
  subst h
  have h := c_mask x 255 8 (by decide) (by decide)
  have h2 := c_i2c (x &&& 255)
  rw [Int32.lt_iff_toInt_lt]
  have e : (255 : Int32).toInt = 255 := by decide
  omega
theorem own_exaP {Z : State} {h : Heap} {a : Addr} {C : String} (F : Exa Z h a C) : ∀ cell : Cell, h[a]? = some cell → cell.vm.isStatics = false := fun cell q => by
  obtain ⟨c', _, h1, -, -, h4, -⟩ := F
  cases h1.symm.trans q
  exact h4
theorem own_arvP {Z : State} {h : Heap} {a : Addr} {k : ClassId} {ty : FieldType} {z : Int32} {vs : List Value} {dv : Value} (F : Arv Z h a k ty z vs dv) : ∀ cell : Cell, h[a]? = some cell → cell.vm.isStatics = false := fun cell q => by
  obtain ⟨c', A, -⟩ := F
  cases A.1.symm.trans q
  exact A.plain
theorem own_staK {Z : State} {h h' : Heap} {ws : List Addr} {C n d : String} {v : Value} (F : Sta Z h C n d v) (K : Keep h h' ws) (q : ∀ x ∈ ws, ∀ cell : Cell, h[x]? = some cell → cell.vm.isStatics = false) : Sta Z h' C n d v := by
  obtain ⟨cf, i, k, f, st, cell, h1, h2, h3, h4, h5, h6, h7⟩ := F
  exact ⟨cf, i, k, f, st, cell, h1, h2, h3, h4, K.2.1 st cell h5 (fun hm => by rw [q st hm cell h5] at h6; cases h6), h6, h7⟩
theorem own_arr0 {args : Array Value} {s : State} {t : Term} {a : Addr} {ty : FieldType} {dv : Value} (hf : Fit s) (ev : t.eval args s none [] s = some (.ref a)) (hA : (Jvm.Cond.arrayOf t ty).value args s none s [] = some true) (hl : (Jvm.Cond.eq (.length t) (.int 0)).value args s none s [] = some true) : ∃ k, Arv s s.heap a k ty 0 [] dv := by
  obtain ⟨c, A⟩ := Arr.start ev hA
  have h0 := own_eqi hl
  obtain ⟨a', cell, e1, e2, e3⟩ := Term.length_spec h0
  cases ev.symm.trans e1
  have e4 : s.arrayAt? a = some c := Arr.fin (U := s) (Vm.Alike.refl _) A
  cases e4.symm.trans e2
  have hq : c.slots.size < 2 ^ 31 := by
    by_cases q : c.slots.size < 2 ^ 31
    · exact q
    · simp [Term.eval, ev, e4, q] at h0
  have e5 : c.slots.size.toInt32 = 0 := by injection e3 with e; exact e.symm
  exact ⟨_, Arv.start hf A hq e5 (by decide) rfl trivial⟩
theorem own_255n (x y : Int32) (h : ((x &&& (255 : Int32)).toUInt32.toUInt16.toUInt32.toInt32) = y) : ¬ ((255 : Int32) < (nar .char y)) := by
  have h1 := own_255 x y h
  have h0 := (c_i2c (x &&& 255)).2.1
  rw [h] at h0
  have h2 : (nar .char y).toInt = (y.toUInt32.toUInt16.toUInt32.toInt32).toInt := rfl
  have h3 := c_i2c y
  rw [Int32.lt_iff_toInt_lt] at *
  have e : (255 : Int32).toInt = 255 := by decide
  omega
theorem own_tri (a b : Int64) : (a < b ∧ ¬ a = b ∧ ¬ b = a ∧ ¬ b < a) ∨ (¬ a < b ∧ a = b ∧ b = a ∧ ¬ b < a) ∨ (¬ a < b ∧ ¬ a = b ∧ ¬ b = a ∧ b < a) := by
  simp only [Int64.lt_iff_toInt_lt, ← Int64.toInt_inj]
  omega
def own_ap {α β : Type} (e : α) (F : α → β) : β := F e
theorem own_let {α β : Type} {z e : α} {F : α → β} {g : β} (h : z = e) (k : g = F z) : g = own_ap e F := by subst h; exact k
theorem own_wS {Z : State} {a0 : Array Value} (hw : ∀ d ∈ tables_1, d.before a0 Z = true) : ∀ a ∈ Bundle.stringAtoms, a.before a0 Z = true := by
  intro a ha
  simp only [Bundle.stringAtoms, List.mem_cons, List.not_mem_nil, or_false] at ha
  rcases ha with rfl | rfl | rfl | rfl | rfl | rfl | rfl
  · exact (hw _ (List.mem_of_getElem? (i := 9) rfl))
  · exact (hw _ (List.mem_of_getElem? (i := 8) rfl))
  · exact (hw _ (List.mem_of_getElem? (i := 26) rfl))
  · exact (hw _ (List.mem_of_getElem? (i := 36) rfl))
  · exact (hw _ (List.mem_of_getElem? (i := 34) rfl))
  · exact (hw _ (List.mem_of_getElem? (i := 47) rfl))
  · exact (hw _ (List.mem_of_getElem? (i := 48) rfl))
def own_n (l : Int32) : Int32 := if l = 1 then 1 else 2
def own_B (c : Int32) : Int32 := nar .byte ((nar .char c).toInt8.toInt32)
def own_bs (l c d : Int32) : List Value := if l = 1 then [.int (own_B c)] else [.int (own_B c), .int (own_B d)]
def own_eq (l c d l' c' d' : Int32) : Int32 := if own_n l = own_n l' then (if own_B c = own_B c' then (if l = 1 then 1 else (if own_B d = own_B d' then 1 else 0)) else 0) else 0
theorem own_nne (l : Int32) : ¬ ((own_n l) = (0 : Int32)) := by unfold own_n; split <;> decide
theorem own_noEdge {Z : State} {a0 : Array Value} {C S O K : String} {n : Nat} (w : (Jvm.Cond.superclass C S).before a0 Z = true) (hS : S = O) (wo : (Jvm.Cond.noSuperclass O).before a0 Z = true) (wk : (Jvm.Cond.instantiable K n).before a0 Z = true) (hn : C ≠ K) (hn' : O ≠ K) : ∃ c t, Z.vm.findClass C = some c ∧ Z.vm.findClass K = some t ∧ Z.vm.assignable c t = false := by
  subst hS
  obtain ⟨t, kt, g1, g2, g3, g4, -⟩ := Cond.instantiable_spec wk
  obtain ⟨o, ko, o1, o2, o3, -, -⟩ := Cond.noSuperclass_spec wo
  obtain ⟨c, h0⟩ := found_sup w
  obtain ⟨p, k, kp, h1, h2, h3, h4, h5, -, h7⟩ := Cond.superclass_spec h0 w
  cases o1.symm.trans h1
  have ne := ids_ne h0 g1 hn
  have ne' := ids_ne o1 g1 hn'
  have g5 : kt.isInterface = false := by simp only [Bool.or_eq_false_iff] at g4; exact g4.1
  have n3 : ∀ fuel, Z.vm.isSubclassAux fuel c t = false := fun fuel => by
    cases fuel with
    | zero => rfl
    | succ f =>
      have n2 : Z.vm.isSubclassAux f o t = false := by
        cases f with
        | zero => rfl
        | succ f => simp [Vm.isSubclassAux, ne', o2, o3]
      simp [Vm.isSubclassAux, ne, h2, h4, n2]
  refine ⟨c, t, h0, g1, ?_⟩
  show Z.vm.assignableAux (255 + 1) c t = false
  simp [Vm.assignableAux, ne, h2, g2, h5, g3, g5, Vm.isSubclass, n3]
theorem d1_0 : decode method_2_code 0 = .ok (.iload_n 0, 1) := by decide +kernel
theorem d1_1 : decode method_2_code 1 = .ok (.iconst 1, 1) := by decide +kernel
theorem d1_2 : decode method_2_code 2 = .ok (.if_icmp .ne 18, 3) := by decide +kernel
theorem d1_5 : decode method_2_code 5 = .ok (.new 7, 3) := by decide +kernel
theorem d1_8 : decode method_2_code 8 = .ok (.dup, 1) := by decide +kernel
theorem d1_9 : decode method_2_code 9 = .ok (.iconst 1, 1) := by decide +kernel
theorem d1_10 : decode method_2_code 10 = .ok (.newarray .char, 2) := by decide +kernel
theorem d1_12 : decode method_2_code 12 = .ok (.dup, 1) := by decide +kernel
theorem d1_13 : decode method_2_code 13 = .ok (.iconst 0, 1) := by decide +kernel
theorem d1_14 : decode method_2_code 14 = .ok (.iload_n 1, 1) := by decide +kernel
theorem d1_15 : decode method_2_code 15 = .ok (.castore, 1) := by decide +kernel
theorem d1_16 : decode method_2_code 16 = .ok (.invokespecial 9, 3) := by decide +kernel
theorem d1_19 : decode method_2_code 19 = .ok (.areturn, 1) := by decide +kernel
theorem d1_20 : decode method_2_code 20 = .ok (.new 7, 3) := by decide +kernel
theorem d1_23 : decode method_2_code 23 = .ok (.dup, 1) := by decide +kernel
theorem d1_24 : decode method_2_code 24 = .ok (.iconst 2, 1) := by decide +kernel
theorem d1_25 : decode method_2_code 25 = .ok (.newarray .char, 2) := by decide +kernel
theorem d1_27 : decode method_2_code 27 = .ok (.dup, 1) := by decide +kernel
theorem d1_28 : decode method_2_code 28 = .ok (.iconst 0, 1) := by decide +kernel
theorem d1_29 : decode method_2_code 29 = .ok (.iload_n 1, 1) := by decide +kernel
theorem d1_30 : decode method_2_code 30 = .ok (.castore, 1) := by decide +kernel
theorem d1_31 : decode method_2_code 31 = .ok (.dup, 1) := by decide +kernel
theorem d1_32 : decode method_2_code 32 = .ok (.iconst 1, 1) := by decide +kernel
theorem d1_33 : decode method_2_code 33 = .ok (.iload_n 2, 1) := by decide +kernel
theorem d1_34 : decode method_2_code 34 = .ok (.castore, 1) := by decide +kernel
theorem d1_35 : decode method_2_code 35 = .ok (.invokespecial 9, 3) := by decide +kernel
theorem d1_38 : decode method_2_code 38 = .ok (.areturn, 1) := by decide +kernel
theorem pn_0 : plainName "com/example/vertex_to_service/vertextoservice/core/EdgeEqualsPinLaw" = true := by first | (simp [plainName, overriddenIn]; done) | decide +kernel
theorem pd_0 : parseMethodDescriptor "([C)V" = some ⟨[(.array .char)], none⟩ := by decide +kernel
theorem d2_0 : decode jdk_42_method_3_code 0 = .ok (.aload_n 0, 1) := by decide +kernel
theorem d2_1 : decode jdk_42_method_3_code 1 = .ok (.aload_n 1, 1) := by decide +kernel
theorem d2_2 : decode jdk_42_method_3_code 2 = .ok (.iconst 0, 1) := by decide +kernel
theorem d2_3 : decode jdk_42_method_3_code 3 = .ok (.aload_n 1, 1) := by decide +kernel
theorem d2_4 : decode jdk_42_method_3_code 4 = .ok (.arraylength, 1) := by decide +kernel
theorem d2_5 : decode jdk_42_method_3_code 5 = .ok (.aconst_null, 1) := by decide +kernel
theorem d2_6 : decode jdk_42_method_3_code 6 = .ok (.invokespecial 27, 3) := by decide +kernel
theorem d2_9 : decode jdk_42_method_3_code 9 = .ok (.return_, 1) := by decide +kernel
theorem pn_1 : plainName "java/lang/String" = true := by first | (simp [plainName, overriddenIn]; done) | decide +kernel
theorem pd_1 : parseMethodDescriptor "([CIILjava/lang/Void;)V" = some ⟨[(.array .char), .int, .int, (.object "java/lang/Void")], none⟩ := by decide +kernel
theorem d3_0 : decode jdk_42_method_149_code 0 = .ok (.aload_n 0, 1) := by decide +kernel
theorem d3_1 : decode jdk_42_method_149_code 1 = .ok (.invokespecial 1, 3) := by decide +kernel
theorem d3_4 : decode jdk_42_method_149_code 4 = .ok (.iload_n 3, 1) := by decide +kernel
theorem d3_5 : decode jdk_42_method_149_code 5 = .ok (.ifCond .ne 22, 3) := by decide +kernel
theorem d3_8 : decode jdk_42_method_149_code 8 = .ok (.aload_n 0, 1) := by decide +kernel
theorem d3_9 : decode jdk_42_method_149_code 9 = .ok (.ldc 7, 2) := by decide +kernel
theorem d3_11 : decode jdk_42_method_149_code 11 = .ok (.getfield 9, 3) := by decide +kernel
theorem d3_14 : decode jdk_42_method_149_code 14 = .ok (.putfield 9, 3) := by decide +kernel
theorem d3_17 : decode jdk_42_method_149_code 17 = .ok (.aload_n 0, 1) := by decide +kernel
theorem d3_18 : decode jdk_42_method_149_code 18 = .ok (.ldc 7, 2) := by decide +kernel
theorem d3_20 : decode jdk_42_method_149_code 20 = .ok (.getfield 15, 3) := by decide +kernel
theorem d3_23 : decode jdk_42_method_149_code 23 = .ok (.putfield 15, 3) := by decide +kernel
theorem d3_26 : decode jdk_42_method_149_code 26 = .ok (.return_, 1) := by decide +kernel
theorem d3_27 : decode jdk_42_method_149_code 27 = .ok (.getstatic 38, 3) := by decide +kernel
theorem d3_30 : decode jdk_42_method_149_code 30 = .ok (.ifCond .eq 28, 3) := by decide +kernel
theorem d3_33 : decode jdk_42_method_149_code 33 = .ok (.aload_n 1, 1) := by decide +kernel
theorem d3_34 : decode jdk_42_method_149_code 34 = .ok (.iload_n 2, 1) := by decide +kernel
theorem d3_35 : decode jdk_42_method_149_code 35 = .ok (.iload_n 3, 1) := by decide +kernel
theorem d3_36 : decode jdk_42_method_149_code 36 = .ok (.invokestatic 177, 3) := by decide +kernel
theorem d3_39 : decode jdk_42_method_149_code 39 = .ok (.astore 5, 2) := by decide +kernel
theorem d3_41 : decode jdk_42_method_149_code 41 = .ok (.aload_n 0, 1) := by decide +kernel
theorem d3_42 : decode jdk_42_method_149_code 42 = .ok (.aload 5, 2) := by decide +kernel
theorem d3_44 : decode jdk_42_method_149_code 44 = .ok (.iload_n 3, 1) := by decide +kernel
theorem d3_45 : decode jdk_42_method_149_code 45 = .ok (.invokestatic 47, 3) := by decide +kernel
theorem d3_48 : decode jdk_42_method_149_code 48 = .ok (.putfield 15, 3) := by decide +kernel
theorem d3_51 : decode jdk_42_method_149_code 51 = .ok (.aload_n 0, 1) := by decide +kernel
theorem d3_52 : decode jdk_42_method_149_code 52 = .ok (.aload 5, 2) := by decide +kernel
theorem d3_54 : decode jdk_42_method_149_code 54 = .ok (.putfield 9, 3) := by decide +kernel
theorem d3_57 : decode jdk_42_method_149_code 57 = .ok (.return_, 1) := by decide +kernel
theorem d3_58 : decode jdk_42_method_149_code 58 = .ok (.aload_n 0, 1) := by decide +kernel
theorem d3_59 : decode jdk_42_method_149_code 59 = .ok (.iconst 1, 1) := by decide +kernel
theorem d3_60 : decode jdk_42_method_149_code 60 = .ok (.putfield 15, 3) := by decide +kernel
theorem d3_63 : decode jdk_42_method_149_code 63 = .ok (.aload_n 0, 1) := by decide +kernel
theorem d3_64 : decode jdk_42_method_149_code 64 = .ok (.aload_n 1, 1) := by decide +kernel
theorem d3_65 : decode jdk_42_method_149_code 65 = .ok (.iload_n 2, 1) := by decide +kernel
theorem d3_66 : decode jdk_42_method_149_code 66 = .ok (.iload_n 3, 1) := by decide +kernel
theorem d3_67 : decode jdk_42_method_149_code 67 = .ok (.invokestatic 180, 3) := by decide +kernel
theorem d3_70 : decode jdk_42_method_149_code 70 = .ok (.putfield 9, 3) := by decide +kernel
theorem d3_73 : decode jdk_42_method_149_code 73 = .ok (.return_, 1) := by decide +kernel
theorem pd_2 : parseMethodDescriptor "()V" = some ⟨[], none⟩ := by decide +kernel
theorem pd_3 : parseMethodDescriptor "([CII)[B" = some ⟨[(.array .char), .int, .int], some (.array .byte)⟩ := by decide +kernel
theorem pd_4 : parseMethodDescriptor "([BI)B" = some ⟨[(.array .byte), .int], some .byte⟩ := by decide +kernel
theorem d5_0 : decode jdk_52_method_16_code 0 = .ok (.iload_n 2, 1) := by decide +kernel
theorem d5_1 : decode jdk_52_method_16_code 1 = .ok (.newarray .byte, 2) := by decide +kernel
theorem d5_3 : decode jdk_52_method_16_code 3 = .ok (.astore_n 3, 1) := by decide +kernel
theorem d5_4 : decode jdk_52_method_16_code 4 = .ok (.aload_n 0, 1) := by decide +kernel
theorem d5_5 : decode jdk_52_method_16_code 5 = .ok (.iload_n 1, 1) := by decide +kernel
theorem d5_6 : decode jdk_52_method_16_code 6 = .ok (.aload_n 3, 1) := by decide +kernel
theorem d5_7 : decode jdk_52_method_16_code 7 = .ok (.iconst 0, 1) := by decide +kernel
theorem d5_8 : decode jdk_52_method_16_code 8 = .ok (.iload_n 2, 1) := by decide +kernel
theorem d5_9 : decode jdk_52_method_16_code 9 = .ok (.invokestatic 115, 3) := by decide +kernel
theorem d5_12 : decode jdk_52_method_16_code 12 = .ok (.istore 4, 2) := by decide +kernel
theorem d5_14 : decode jdk_52_method_16_code 14 = .ok (.iload 4, 2) := by decide +kernel
theorem d5_16 : decode jdk_52_method_16_code 16 = .ok (.iload_n 2, 1) := by decide +kernel
theorem d5_17 : decode jdk_52_method_16_code 17 = .ok (.if_icmp .eq 40, 3) := by decide +kernel
theorem d5_20 : decode jdk_52_method_16_code 20 = .ok (.aload_n 0, 1) := by decide +kernel
theorem d5_21 : decode jdk_52_method_16_code 21 = .ok (.iload_n 1, 1) := by decide +kernel
theorem d5_22 : decode jdk_52_method_16_code 22 = .ok (.iload_n 2, 1) := by decide +kernel
theorem d5_23 : decode jdk_52_method_16_code 23 = .ok (.invokestatic 119, 3) := by decide +kernel
theorem d5_26 : decode jdk_52_method_16_code 26 = .ok (.astore 5, 2) := by decide +kernel
theorem d5_28 : decode jdk_52_method_16_code 28 = .ok (.aload 5, 2) := by decide +kernel
theorem d5_30 : decode jdk_52_method_16_code 30 = .ok (.iload 4, 2) := by decide +kernel
theorem d5_32 : decode jdk_52_method_16_code 32 = .ok (.invokestatic 71, 3) := by decide +kernel
theorem d5_35 : decode jdk_52_method_16_code 35 = .ok (.sipush 255, 3) := by decide +kernel
theorem d5_38 : decode jdk_52_method_16_code 38 = .ok (.if_icmp .gt 16, 3) := by decide +kernel
theorem d5_41 : decode jdk_52_method_16_code 41 = .ok (.aload 5, 2) := by decide +kernel
theorem d5_43 : decode jdk_52_method_16_code 43 = .ok (.iconst 0, 1) := by decide +kernel
theorem d5_44 : decode jdk_52_method_16_code 44 = .ok (.aload_n 3, 1) := by decide +kernel
theorem d5_45 : decode jdk_52_method_16_code 45 = .ok (.iconst 0, 1) := by decide +kernel
theorem d5_46 : decode jdk_52_method_16_code 46 = .ok (.iload_n 2, 1) := by decide +kernel
theorem d5_47 : decode jdk_52_method_16_code 47 = .ok (.invokestatic 123, 3) := by decide +kernel
theorem d5_50 : decode jdk_52_method_16_code 50 = .ok (.iload_n 2, 1) := by decide +kernel
theorem d5_51 : decode jdk_52_method_16_code 51 = .ok (.if_icmp .eq 6, 3) := by decide +kernel
theorem d5_54 : decode jdk_52_method_16_code 54 = .ok (.aload 5, 2) := by decide +kernel
theorem d5_56 : decode jdk_52_method_16_code 56 = .ok (.areturn, 1) := by decide +kernel
theorem d5_57 : decode jdk_52_method_16_code 57 = .ok (.aload_n 3, 1) := by decide +kernel
theorem d5_58 : decode jdk_52_method_16_code 58 = .ok (.areturn, 1) := by decide +kernel
theorem pn_2 : plainName "java/lang/StringUTF16" = true := by first | (simp [plainName, overriddenIn]; done) | decide +kernel
theorem pd_5 : parseMethodDescriptor "([CI[BII)I" = some ⟨[(.array .char), .int, (.array .byte), .int, .int], some .int⟩ := by decide +kernel
theorem d6_0 : decode jdk_52_method_21_code 0 = .ok (.iconst 0, 1) := by decide +kernel
theorem d6_1 : decode jdk_52_method_21_code 1 = .ok (.istore 5, 2) := by decide +kernel
theorem d6_3 : decode jdk_52_method_21_code 3 = .ok (.iload 5, 2) := by decide +kernel
theorem d6_5 : decode jdk_52_method_21_code 5 = .ok (.iload 4, 2) := by decide +kernel
theorem d6_7 : decode jdk_52_method_21_code 7 = .ok (.if_icmp .ge 37, 3) := by decide +kernel
theorem d6_10 : decode jdk_52_method_21_code 10 = .ok (.aload_n 0, 1) := by decide +kernel
theorem d6_11 : decode jdk_52_method_21_code 11 = .ok (.iload_n 1, 1) := by decide +kernel
theorem d6_12 : decode jdk_52_method_21_code 12 = .ok (.caload, 1) := by decide +kernel
theorem d6_13 : decode jdk_52_method_21_code 13 = .ok (.istore 6, 2) := by decide +kernel
theorem d6_15 : decode jdk_52_method_21_code 15 = .ok (.iload 6, 2) := by decide +kernel
theorem d6_17 : decode jdk_52_method_21_code 17 = .ok (.sipush 255, 3) := by decide +kernel
theorem d6_20 : decode jdk_52_method_21_code 20 = .ok (.if_icmp .le 6, 3) := by decide +kernel
theorem d6_23 : decode jdk_52_method_21_code 23 = .ok (.iload 5, 2) := by decide +kernel
theorem d6_25 : decode jdk_52_method_21_code 25 = .ok (.ireturn, 1) := by decide +kernel
theorem d6_26 : decode jdk_52_method_21_code 26 = .ok (.aload_n 2, 1) := by decide +kernel
theorem d6_27 : decode jdk_52_method_21_code 27 = .ok (.iload_n 3, 1) := by decide +kernel
theorem d6_28 : decode jdk_52_method_21_code 28 = .ok (.iload 6, 2) := by decide +kernel
theorem d6_30 : decode jdk_52_method_21_code 30 = .ok (.i2b, 1) := by decide +kernel
theorem d6_31 : decode jdk_52_method_21_code 31 = .ok (.bastore, 1) := by decide +kernel
theorem d6_32 : decode jdk_52_method_21_code 32 = .ok (.iinc 1 1, 3) := by decide +kernel
theorem d6_35 : decode jdk_52_method_21_code 35 = .ok (.iinc 3 1, 3) := by decide +kernel
theorem d6_38 : decode jdk_52_method_21_code 38 = .ok (.iinc 5 1, 3) := by decide +kernel
theorem d6_41 : decode jdk_52_method_21_code 41 = .ok (.goto (-38), 3) := by decide +kernel
theorem d6_44 : decode jdk_52_method_21_code 44 = .ok (.iload 4, 2) := by decide +kernel
theorem d6_46 : decode jdk_52_method_21_code 46 = .ok (.ireturn, 1) := by decide +kernel
theorem ef_6_4 (m : MethodId) (x0 : Addr) (x2 : Addr) : entryFrame m #[(.ref x0), (.int (0 : Int32)), (.ref x2), (.int (0 : Int32)), (.int (1 : Int32))] 7 = mkF m 0 #[.val (.ref x0), .val (.int (0 : Int32)), .val (.ref x2), .val (.int (0 : Int32)), .val (.int (1 : Int32)), .unset, .unset] [] := by first | (simp [entryFrame, mkF, argsToLocals, Value.category]; done) | rfl
def Q6_4 (Z : State) (o1 : Addr) (o2 : Addr) (kc1 : ClassId) (i2 : Int32) (kc3 : ClassId) (h0 : Heap) (n0 : Nat) (v : Option Value) (h : Heap) (L : List Loc) : Prop := v = some (.int (1 : Int32)) ∧ Fr n0 L ∧ Keep h0 h [o2] ∧ Arv Z h o2 kc3 .byte (1 : Int32) [(.int (nar .byte (i2.toInt8.toInt32)))] (.int (0 : Int32))
set_option maxRecDepth 65536 in
set_option maxHeartbeats 40000000 in
theorem rm6_4 (l : Launch) (Z : State) (a0 : Array Value) (hw : ∀ d ∈ tables_1, d.before a0 Z = true) (ws : List Jvm.Cond) (o1 : Addr) (o2 : Addr) (kc1 : ClassId) (i2 : Int32) (kc3 : ClassId) (h0 : Heap) (n0 : Nat) (Z0 : n0 ≤ h0.size) (Pm0 : Arv Z h0 o1 kc1 .char (1 : Int32) [(.int i2)] (.int (0 : Int32))) (Pm1 : Arv Z h0 o2 kc3 .byte (1 : Int32) [(.int (0 : Int32))] (.int (0 : Int32))) (gn_o1 : n0 ≤ o1) (ne_o1_o2 : o1 ≠ o2) (gn_o2 : n0 ≤ o2) (hy5 : ¬ ((255 : Int32) < i2))  :
    MetFree l (⟨"java/lang/StringUTF16", "compress", "([CI[BII)I"⟩ : MethodName) (head1 (Jvm.Cond.code (⟨"java/lang/StringUTF16", "compress", "([CI[BII)I"⟩ : MethodName) jdk_52_method_21_code 7 (some .int) :: ws) ({ frames := 0, cells := 0, slots := 0, locals := 0 } : Room)) (fun a U => a = #[(.ref o1), (.int (0 : Int32)), (.ref o2), (.int (0 : Int32)), (.int (1 : Int32))] ∧ Z.Warmed39 U.vm ∧ U.heap = h0) (fun _ _ _ _ _ => True) (fun _ U o U' => ∃ v L, o = .returned v ∧ Q6_4 Z o1 o2 kc1 i2 kc3 h0 n0 v U'.heap L ∧ FrameEnd U o U' L ({ frames := 0, cells := 0, slots := 0, locals := 0 } : Room).cells ({ frames := 0, cells := 0, slots := 0, locals := 0 } : Room).slots) := by
  refine own_body (plainFor_of_name pn_2) ?_
  intro p e s m below meth c s₁ G hx hby hml hZ hown hnm hret X0 e0 step fin
  replace hown : s.vm.findClass "java/lang/StringUTF16" = some m.cls := hown
  replace hnm : meth.name = "compress" := hnm
  replace hret : meth.sig.returnType = some .int := hret
  replace hml : c.maxLocals = 7 := hml
  have N0 := Fr.nil n0
  refine step (s₁.setTop (mkF m 0 #[.val (.ref o1), .val (.int (0 : Int32)), .val (.ref o2), .val (.int (0 : Int32)), .val (.int (1 : Int32)), .unset, .unset] [])) (fun t k => castTop (ef_6_4 m o1 o2) k) ?_
  refine step (s₁.setTop (mkF m 1 #[.val (.ref o1), .val (.int (0 : Int32)), .val (.ref o2), .val (.int (0 : Int32)), .val (.int (1 : Int32)), .unset, .unset] [(.int (0 : Int32))])) (fun t k => XS.iconst X0.here hx rfl (hb hby d6_0) k) ?_
  refine step (s₁.setTop (mkF m 3 #[.val (.ref o1), .val (.int (0 : Int32)), .val (.ref o2), .val (.int (0 : Int32)), .val (.int (1 : Int32)), .val (.int (0 : Int32)), .unset] [])) (fun t k => XS.istore X0.here hx rfl (hb hby d6_1) rfl (l' := #[.val (.ref o1), .val (.int (0 : Int32)), .val (.ref o2), .val (.int (0 : Int32)), .val (.int (1 : Int32)), .val (.int (0 : Int32)), .unset]) rfl k) ?_
  refine step (s₁.setTop (mkF m 5 #[.val (.ref o1), .val (.int (0 : Int32)), .val (.ref o2), .val (.int (0 : Int32)), .val (.int (1 : Int32)), .val (.int (0 : Int32)), .unset] [(.int (0 : Int32))])) (fun t k => XS.iload X0.here hx rfl (hb hby d6_3) rfl k) ?_
  refine step (s₁.setTop (mkF m 7 #[.val (.ref o1), .val (.int (0 : Int32)), .val (.ref o2), .val (.int (0 : Int32)), .val (.int (1 : Int32)), .val (.int (0 : Int32)), .unset] [(.int (1 : Int32)), (.int (0 : Int32))])) (fun t k => XS.iload X0.here hx rfl (hb hby d6_5) rfl k) ?_
  refine step (s₁.setTop (mkF m 10 #[.val (.ref o1), .val (.int (0 : Int32)), .val (.ref o2), .val (.int (0 : Int32)), .val (.int (1 : Int32)), .val (.int (0 : Int32)), .unset] [])) (fun t k => XS.icmpNo X0.here hx rfl (hb hby d6_7) rfl (tlt (by decide : (0 : Int32) < (1 : Int32))).2.1 k) ?_
  refine step (s₁.setTop (mkF m 11 #[.val (.ref o1), .val (.int (0 : Int32)), .val (.ref o2), .val (.int (0 : Int32)), .val (.int (1 : Int32)), .val (.int (0 : Int32)), .unset] [(.ref o1)])) (fun t k => XS.aloadN X0.here hx rfl (hb hby d6_10) rfl rfl k) ?_
  refine step (s₁.setTop (mkF m 12 #[.val (.ref o1), .val (.int (0 : Int32)), .val (.ref o2), .val (.int (0 : Int32)), .val (.int (1 : Int32)), .val (.int (0 : Int32)), .unset] [(.int (0 : Int32)), (.ref o1)])) (fun t k => XS.iloadN X0.here hx rfl (hb hby d6_11) rfl k) ?_
  obtain ⟨cl1, Ar1, q1, S1, N1n, H1, G1⟩ := id Pm0
  have hin1 : ¬ ((0 : Int32) < 0 ∨ cl1.slots.size ≤ ((0 : Int32)).toNatClampNeg) := inb_of S1 ⟨by decide, by decide⟩
  have hat1 : cl1.slots[((0 : Int32)).toNatClampNeg]? = some (.int i2) := H1.at hin1 rfl
  refine step (s₁.setTop (mkF m 13 #[.val (.ref o1), .val (.int (0 : Int32)), .val (.ref o2), .val (.int (0 : Int32)), .val (.int (1 : Int32)), .val (.int (0 : Int32)), .unset] [(.int i2)])) (fun t k => X0.caload hx (j := (0 : Int32)) (v := (.int i2)) (by rw [e0]; exact Ar1.1) (State.isArrayOf_alike hZ.alike Ar1.2.1) Ar1.2.2 hin1 hat1 (g := (mkF m 12 #[.val (.ref o1), .val (.int (0 : Int32)), .val (.ref o2), .val (.int (0 : Int32)), .val (.int (1 : Int32)), .val (.int (0 : Int32)), .unset] [(.int (0 : Int32)), (.ref o1)])) rfl rfl (hb hby d6_12) t k) ?_
  refine step (s₁.setTop (mkF m 15 #[.val (.ref o1), .val (.int (0 : Int32)), .val (.ref o2), .val (.int (0 : Int32)), .val (.int (1 : Int32)), .val (.int (0 : Int32)), .val (.int i2)] [])) (fun t k => XS.istore X0.here hx rfl (hb hby d6_13) rfl (l' := #[.val (.ref o1), .val (.int (0 : Int32)), .val (.ref o2), .val (.int (0 : Int32)), .val (.int (1 : Int32)), .val (.int (0 : Int32)), .val (.int i2)]) rfl k) ?_
  refine step (s₁.setTop (mkF m 17 #[.val (.ref o1), .val (.int (0 : Int32)), .val (.ref o2), .val (.int (0 : Int32)), .val (.int (1 : Int32)), .val (.int (0 : Int32)), .val (.int i2)] [(.int i2)])) (fun t k => XS.iload X0.here hx rfl (hb hby d6_15) rfl k) ?_
  refine step (s₁.setTop (mkF m 20 #[.val (.ref o1), .val (.int (0 : Int32)), .val (.ref o2), .val (.int (0 : Int32)), .val (.int (1 : Int32)), .val (.int (0 : Int32)), .val (.int i2)] [(.int (255 : Int32)), (.int i2)])) (fun t k => XS.sipush X0.here hx rfl (hb hby d6_17) k) ?_
  have hc20_2 : ¬ ((255 : Int32) < i2) := hy5
  refine step (s₁.setTop (mkF m 26 #[.val (.ref o1), .val (.int (0 : Int32)), .val (.ref o2), .val (.int (0 : Int32)), .val (.int (1 : Int32)), .val (.int (0 : Int32)), .val (.int i2)] [])) (fun t k => XS.icmpYes X0.here hx rfl (pc0 := 20) (pc' := 26) rfl (hb hby d6_20) rfl (flt hc20_2).2.2.2 (by decide) (by decide) k) ?_
  refine step (s₁.setTop (mkF m 27 #[.val (.ref o1), .val (.int (0 : Int32)), .val (.ref o2), .val (.int (0 : Int32)), .val (.int (1 : Int32)), .val (.int (0 : Int32)), .val (.int i2)] [(.ref o2)])) (fun t k => XS.aloadN X0.here hx rfl (hb hby d6_26) rfl rfl k) ?_
  refine step (s₁.setTop (mkF m 28 #[.val (.ref o1), .val (.int (0 : Int32)), .val (.ref o2), .val (.int (0 : Int32)), .val (.int (1 : Int32)), .val (.int (0 : Int32)), .val (.int i2)] [(.int (0 : Int32)), (.ref o2)])) (fun t k => XS.iloadN X0.here hx rfl (hb hby d6_27) rfl k) ?_
  refine step (s₁.setTop (mkF m 30 #[.val (.ref o1), .val (.int (0 : Int32)), .val (.ref o2), .val (.int (0 : Int32)), .val (.int (1 : Int32)), .val (.int (0 : Int32)), .val (.int i2)] [(.int i2), (.int (0 : Int32)), (.ref o2)])) (fun t k => XS.iload X0.here hx rfl (hb hby d6_28) rfl k) ?_
  refine step (s₁.setTop (mkF m 31 #[.val (.ref o1), .val (.int (0 : Int32)), .val (.ref o2), .val (.int (0 : Int32)), .val (.int (1 : Int32)), .val (.int (0 : Int32)), .val (.int i2)] [(.int (i2.toInt8.toInt32)), (.int (0 : Int32)), (.ref o2)])) (fun t k => XS.i2b X0.here hx rfl (hb hby d6_30) rfl k) ?_
  obtain ⟨cl3, Ar3, q3, S3, N3n, H3, G3⟩ := id Pm1
  have hin3 : ¬ ((0 : Int32) < 0 ∨ cl3.slots.size ≤ ((0 : Int32)).toNatClampNeg) := inb_of S3 ⟨by decide, by decide⟩
  obtain ⟨T3, h3, X3, e3, W3, st3⟩ := stB X0 hx hZ e0 Ar3 (j := (0 : Int32)) hin3 (g := (mkF m 31 #[.val (.ref o1), .val (.int (0 : Int32)), .val (.ref o2), .val (.int (0 : Int32)), .val (.int (1 : Int32)), .val (.int (0 : Int32)), .val (.int i2)] [(.int (i2.toInt8.toInt32)), (.int (0 : Int32)), (.ref o2)])) rfl rfl (hb hby d6_31)
  have N3 := Fr.snoc X3 N0 gn_o2
  have K3 : Keep h0 h3 [o2] := (Keep.refl h0 [o2]).wr W3 (Or.inl (List.mem_of_getElem? (i := 0) rfl))
  have V3 : Arv Z h3 o2 kc3 .byte (1 : Int32) [(.int (nar .byte (i2.toInt8.toInt32)))] (.int (0 : Int32)) := Arv.set Ar3 q3 S3 N3n H3 G3 (fits_nar_byte (i2.toInt8.toInt32)) W3 0 rfl (Nat.le_of_ble_eq_true rfl)
  refine step (T3.setTop (mkF m 32 #[.val (.ref o1), .val (.int (0 : Int32)), .val (.ref o2), .val (.int (0 : Int32)), .val (.int (1 : Int32)), .val (.int (0 : Int32)), .val (.int i2)] [])) (fun t k => st3 t k) ?_
  refine step (T3.setTop (mkF m 35 #[.val (.ref o1), .val (.int (1 : Int32)), .val (.ref o2), .val (.int (0 : Int32)), .val (.int (1 : Int32)), .val (.int (0 : Int32)), .val (.int i2)] [])) (fun t k => XS.iinc X3.here hx rfl (hb hby d6_32) rfl (l' := #[.val (.ref o1), .val (.int (1 : Int32)), .val (.ref o2), .val (.int (0 : Int32)), .val (.int (1 : Int32)), .val (.int (0 : Int32)), .val (.int i2)]) rfl k) ?_
  refine step (T3.setTop (mkF m 38 #[.val (.ref o1), .val (.int (1 : Int32)), .val (.ref o2), .val (.int (1 : Int32)), .val (.int (1 : Int32)), .val (.int (0 : Int32)), .val (.int i2)] [])) (fun t k => XS.iinc X3.here hx rfl (hb hby d6_35) rfl (l' := #[.val (.ref o1), .val (.int (1 : Int32)), .val (.ref o2), .val (.int (1 : Int32)), .val (.int (1 : Int32)), .val (.int (0 : Int32)), .val (.int i2)]) rfl k) ?_
  refine step (T3.setTop (mkF m 41 #[.val (.ref o1), .val (.int (1 : Int32)), .val (.ref o2), .val (.int (1 : Int32)), .val (.int (1 : Int32)), .val (.int (1 : Int32)), .val (.int i2)] [])) (fun t k => XS.iinc X3.here hx rfl (hb hby d6_38) rfl (l' := #[.val (.ref o1), .val (.int (1 : Int32)), .val (.ref o2), .val (.int (1 : Int32)), .val (.int (1 : Int32)), .val (.int (1 : Int32)), .val (.int i2)]) rfl k) ?_
  refine step (T3.setTop (mkF m 3 #[.val (.ref o1), .val (.int (1 : Int32)), .val (.ref o2), .val (.int (1 : Int32)), .val (.int (1 : Int32)), .val (.int (1 : Int32)), .val (.int i2)] [])) (fun t k => XS.goto X3.here hx rfl (pc0 := 41) (pc' := 3) rfl (hb hby d6_41) (by decide) (by decide) k) ?_
  refine step (T3.setTop (mkF m 5 #[.val (.ref o1), .val (.int (1 : Int32)), .val (.ref o2), .val (.int (1 : Int32)), .val (.int (1 : Int32)), .val (.int (1 : Int32)), .val (.int i2)] [(.int (1 : Int32))])) (fun t k => XS.iload X3.here hx rfl (hb hby d6_3) rfl k) ?_
  refine step (T3.setTop (mkF m 7 #[.val (.ref o1), .val (.int (1 : Int32)), .val (.ref o2), .val (.int (1 : Int32)), .val (.int (1 : Int32)), .val (.int (1 : Int32)), .val (.int i2)] [(.int (1 : Int32)), (.int (1 : Int32))])) (fun t k => XS.iload X3.here hx rfl (hb hby d6_5) rfl k) ?_
  refine step (T3.setTop (mkF m 44 #[.val (.ref o1), .val (.int (1 : Int32)), .val (.ref o2), .val (.int (1 : Int32)), .val (.int (1 : Int32)), .val (.int (1 : Int32)), .val (.int i2)] [])) (fun t k => XS.icmpYes X3.here hx rfl (pc0 := 7) (pc' := 44) rfl (hb hby d6_7) rfl (flt (by decide : ¬ ((1 : Int32) < (1 : Int32)))).2.1 (by decide) (by decide) k) ?_
  refine step (T3.setTop (mkF m 46 #[.val (.ref o1), .val (.int (1 : Int32)), .val (.ref o2), .val (.int (1 : Int32)), .val (.int (1 : Int32)), .val (.int (1 : Int32)), .val (.int i2)] [(.int (1 : Int32))])) (fun t k => XS.iload X3.here hx rfl (hb hby d6_44) rfl k) ?_
  refine fin (v := some (.int (1 : Int32))) X3 (fun h => by cases h) ?_ (by decide) (by decide) (fun fs hr => retI X3 hx hret (hb hby d6_46) hr)
  show Q6_4 Z o1 o2 kc1 i2 kc3 h0 n0 (some (.int (1 : Int32))) T3.heap _
  rw [e3]
  exact ⟨rfl, N3, K3, V3⟩
theorem ef_5_3 (m : MethodId) (x0 : Addr) : entryFrame m #[(.ref x0), (.int (0 : Int32)), (.int (1 : Int32))] 6 = mkF m 0 #[.val (.ref x0), .val (.int (0 : Int32)), .val (.int (1 : Int32)), .unset, .unset, .unset] [] := by first | (simp [entryFrame, mkF, argsToLocals, Value.category]; done) | rfl
def Q5_3 (Z : State) (o1 : Addr) (kc1 : ClassId) (i2 : Int32) (h0 : Heap) (n0 : Nat) (v : Option Value) (h : Heap) (L : List Loc) : Prop := ∃ (b1 : Addr) (k1 : ClassId), v = some (.ref b1) ∧ Fr n0 L ∧ Keep h0 h [] ∧ h0.size ≤ b1 ∧ Arv Z h b1 k1 .byte (1 : Int32) [(.int (nar .byte (i2.toInt8.toInt32)))] (.int (0 : Int32))
set_option maxRecDepth 65536 in
set_option maxHeartbeats 40000000 in
theorem rm5_3 (l : Launch) (Z : State) (a0 : Array Value) (hw : ∀ d ∈ tables_1, d.before a0 Z = true) (ws : List Jvm.Cond) (o1 : Addr) (kc1 : ClassId) (i2 : Int32) (h0 : Heap) (n0 : Nat) (Z0 : n0 ≤ h0.size) (Pm0 : Arv Z h0 o1 kc1 .char (1 : Int32) [(.int i2)] (.int (0 : Int32))) (gn_o1 : n0 ≤ o1) (hy2 : ¬ ((255 : Int32) < i2))  :
    MetFree l (⟨"java/lang/StringUTF16", "compress", "([CII)[B"⟩ : MethodName) (head1 (Jvm.Cond.code (⟨"java/lang/StringUTF16", "compress", "([CII)[B"⟩ : MethodName) jdk_52_method_16_code 6 (some (.array .byte)) :: ws) ({ frames := 1, cells := 1, slots := 1, locals := 18 } : Room)) (fun a U => a = #[(.ref o1), (.int (0 : Int32)), (.int (1 : Int32))] ∧ Z.Warmed39 U.vm ∧ U.heap = h0) (fun _ _ _ _ _ => True) (fun _ U o U' => ∃ v L, o = .returned v ∧ Q5_3 Z o1 kc1 i2 h0 n0 v U'.heap L ∧ FrameEnd U o U' L ({ frames := 1, cells := 1, slots := 1, locals := 18 } : Room).cells ({ frames := 1, cells := 1, slots := 1, locals := 18 } : Room).slots) := by
  refine own_body (plainFor_of_name pn_2) ?_
  intro p e s m below meth c s₁ G hx hby hml hZ hown hnm hret X0 e0 step fin
  replace hown : s.vm.findClass "java/lang/StringUTF16" = some m.cls := hown
  replace hnm : meth.name = "compress" := hnm
  replace hret : meth.sig.returnType = some (.array .byte) := hret
  replace hml : c.maxLocals = 6 := hml
  have N0 := Fr.nil n0
  refine step (s₁.setTop (mkF m 0 #[.val (.ref o1), .val (.int (0 : Int32)), .val (.int (1 : Int32)), .unset, .unset, .unset] [])) (fun t k => castTop (ef_5_3 m o1) k) ?_
  refine step (s₁.setTop (mkF m 1 #[.val (.ref o1), .val (.int (0 : Int32)), .val (.int (1 : Int32)), .unset, .unset, .unset] [(.int (1 : Int32))])) (fun t k => XS.iloadN X0.here hx rfl (hb hby d5_0) rfl k) ?_
  obtain ⟨T1, h1, k1, X1, e1, E1, A1, st1⟩ := newP X0 hx hZ (hw _ (List.mem_of_getElem? (i := 26) rfl)) e0 (g := (mkF m 1 #[.val (.ref o1), .val (.int (0 : Int32)), .val (.int (1 : Int32)), .unset, .unset, .unset] [(.int (1 : Int32))])) rfl (hb hby d5_1) rfl (by decide) (cap := 1) (by decide) (by decide) (by decide) (by decide)
  obtain ⟨b1, g1⟩ : ∃ z, z = h0.size := ⟨_, rfl⟩
  rw [← g1] at A1 st1
  have ne_o1_b1 : o1 ≠ b1 := Nat.ne_of_lt (Nat.lt_of_lt_of_le Pm0.lt (Nat.le_of_eq g1.symm))
  have gn_b1 : n0 ≤ b1 := Nat.le_trans Z0 (Nat.le_of_eq g1.symm)
  have sz_b1 : h0.size ≤ b1 := Nat.le_of_eq g1.symm
  have K1 : Keep h0 h1 [] := (Keep.refl h0 []).ext E1
  have V1 : Arv Z h1 b1 k1 .byte (1 : Int32) [(.int (0 : Int32))] (.int (0 : Int32)) := (Arv.new A1 (by decide)).pad (pad_rep [] (.int (0 : Int32)) 1)
  refine step (T1.setTop (mkF m 3 #[.val (.ref o1), .val (.int (0 : Int32)), .val (.int (1 : Int32)), .unset, .unset, .unset] [(.ref b1)])) (fun t k => st1 t k) ?_
  refine step (T1.setTop (mkF m 4 #[.val (.ref o1), .val (.int (0 : Int32)), .val (.int (1 : Int32)), .val (.ref b1), .unset, .unset] [])) (fun t k => XS.astoreN X1.here hx rfl (hb hby d5_3) rfl rfl (l' := #[.val (.ref o1), .val (.int (0 : Int32)), .val (.int (1 : Int32)), .val (.ref b1), .unset, .unset]) rfl k) ?_
  refine step (T1.setTop (mkF m 5 #[.val (.ref o1), .val (.int (0 : Int32)), .val (.int (1 : Int32)), .val (.ref b1), .unset, .unset] [(.ref o1)])) (fun t k => XS.aloadN X1.here hx rfl (hb hby d5_4) rfl rfl k) ?_
  refine step (T1.setTop (mkF m 6 #[.val (.ref o1), .val (.int (0 : Int32)), .val (.int (1 : Int32)), .val (.ref b1), .unset, .unset] [(.int (0 : Int32)), (.ref o1)])) (fun t k => XS.iloadN X1.here hx rfl (hb hby d5_5) rfl k) ?_
  refine step (T1.setTop (mkF m 7 #[.val (.ref o1), .val (.int (0 : Int32)), .val (.int (1 : Int32)), .val (.ref b1), .unset, .unset] [(.ref b1), (.int (0 : Int32)), (.ref o1)])) (fun t k => XS.aloadN X1.here hx rfl (hb hby d5_6) rfl rfl k) ?_
  refine step (T1.setTop (mkF m 8 #[.val (.ref o1), .val (.int (0 : Int32)), .val (.int (1 : Int32)), .val (.ref b1), .unset, .unset] [(.int (0 : Int32)), (.ref b1), (.int (0 : Int32)), (.ref o1)])) (fun t k => XS.iconst X1.here hx rfl (hb hby d5_7) k) ?_
  refine step (T1.setTop (mkF m 9 #[.val (.ref o1), .val (.int (0 : Int32)), .val (.int (1 : Int32)), .val (.ref b1), .unset, .unset] [(.int (1 : Int32)), (.int (0 : Int32)), (.ref b1), (.int (0 : Int32)), (.ref o1)])) (fun t k => XS.iloadN X1.here hx rfl (hb hby d5_8) rfl k) ?_
  have f2 := (Pm0.ext E1)
  obtain ⟨_, _, ⟨T3, L3, k3, n3⟩, -, X3, ⟨Lc3, hQ3, l3, y3, z3⟩, st3⟩ := Jvm.LawKit.callS X1 hx (y := (⟨"java/lang/StringUTF16", "compress", "([CI[BII)I"⟩ : MethodName)) hown (mvT hZ (hw _ (List.mem_of_getElem? (i := 27) rfl))) (mvT hZ (hw _ (List.mem_of_getElem? (i := 28) rfl))) (mvT hZ (hw _ (List.mem_of_getElem? (i := 24) rfl))) (mvT hZ (hw _ (List.mem_of_getElem? (i := 29) rfl))) (by decide) (backOf (W := 0) (rm6_4 l Z a0 hw [] o1 b1 kc1 i2 k1 h1 n0 (Nat.le_trans Z0 K1.1) f2 V1 gn_o1 ne_o1_b1 gn_b1 hy2) hZ (hw _ (List.mem_of_getElem? (i := 29) rfl)) (hw _ (List.mem_of_getElem? (i := 24) rfl)) (by decide) (by decide)) (g := (mkF m 9 #[.val (.ref o1), .val (.int (0 : Int32)), .val (.int (1 : Int32)), .val (.ref b1), .unset, .unset] [(.int (1 : Int32)), (.int (0 : Int32)), (.ref b1), (.int (0 : Int32)), (.ref o1)])) rfl (by rw [hml]; rfl) (argsL := [(.ref o1), (.int (0 : Int32)), (.ref b1), (.int (0 : Int32)), (.int (1 : Int32))]) (rest := []) (lenOf pd_5 rfl) rfl (by show 2 * 0 + _ ≤ _; exact Nat.le_of_eq rfl) (hb hby d5_9) (fun _ _ => ⟨rfl, e1, (by decide : 1 + 0 ≤ _), (by decide : 1 + 0 ≤ _)⟩)
  dsimp only [Pt.U, Pt.locs, Pt.cells, Pt.slots] at X3 l3 y3 z3 st3 hQ3
  subst l3 y3 z3
  obtain ⟨h3, e3⟩ : ∃ z, T3.heap = z := ⟨_, rfl⟩
  rw [e3] at hQ3
  obtain ⟨rfl, N3q, K3q, q0_3⟩ := hQ3
  have N3 := Fr.app N0 N3q
  have K3 : Keep h0 h3 [] := K1.trans K3q (allS (Or.inr sz_b1) all0)
  refine step (T3.setTop (mkF m 12 #[.val (.ref o1), .val (.int (0 : Int32)), .val (.int (1 : Int32)), .val (.ref b1), .unset, .unset] [(.int (1 : Int32))])) (fun t k => st3 t k) ?_
  refine step (T3.setTop (mkF m 14 #[.val (.ref o1), .val (.int (0 : Int32)), .val (.int (1 : Int32)), .val (.ref b1), .val (.int (1 : Int32)), .unset] [])) (fun t k => XS.istore X3.here hx rfl (hb hby d5_12) rfl (l' := #[.val (.ref o1), .val (.int (0 : Int32)), .val (.int (1 : Int32)), .val (.ref b1), .val (.int (1 : Int32)), .unset]) rfl k) ?_
  refine step (T3.setTop (mkF m 16 #[.val (.ref o1), .val (.int (0 : Int32)), .val (.int (1 : Int32)), .val (.ref b1), .val (.int (1 : Int32)), .unset] [(.int (1 : Int32))])) (fun t k => XS.iload X3.here hx rfl (hb hby d5_14) rfl k) ?_
  refine step (T3.setTop (mkF m 17 #[.val (.ref o1), .val (.int (0 : Int32)), .val (.int (1 : Int32)), .val (.ref b1), .val (.int (1 : Int32)), .unset] [(.int (1 : Int32)), (.int (1 : Int32))])) (fun t k => XS.iloadN X3.here hx rfl (hb hby d5_16) rfl k) ?_
  refine step (T3.setTop (mkF m 57 #[.val (.ref o1), .val (.int (0 : Int32)), .val (.int (1 : Int32)), .val (.ref b1), .val (.int (1 : Int32)), .unset] [])) (fun t k => XS.icmpYes X3.here hx rfl (pc0 := 17) (pc' := 57) rfl (hb hby d5_17) rfl (teq (by decide : (1 : Int32) = (1 : Int32))).1 (by decide) (by decide) k) ?_
  refine step (T3.setTop (mkF m 58 #[.val (.ref o1), .val (.int (0 : Int32)), .val (.int (1 : Int32)), .val (.ref b1), .val (.int (1 : Int32)), .unset] [(.ref b1)])) (fun t k => XS.aloadN X3.here hx rfl (hb hby d5_57) rfl rfl k) ?_
  refine fin (v := some (.ref b1)) X3 (fun h => by cases h) ?_ (by decide) (by decide) (fun fs hr => X3.areturnOut hx rfl hret rfl (hb hby d5_58) hr)
  show Q5_3 Z o1 kc1 i2 h0 n0 (some (.ref b1)) T3.heap _
  rw [e3]
  exact ⟨b1, k1, rfl, N3, K3, sz_b1, q0_3⟩
theorem d7_0 : decode jdk_52_method_15_code 0 = .ok (.iload_n 1, 1) := by decide +kernel
theorem d7_1 : decode jdk_52_method_15_code 1 = .ok (.aload_n 0, 1) := by decide +kernel
theorem d7_2 : decode jdk_52_method_15_code 2 = .ok (.arraylength, 1) := by decide +kernel
theorem d7_3 : decode jdk_52_method_15_code 3 = .ok (.isub, 1) := by decide +kernel
theorem d7_4 : decode jdk_52_method_15_code 4 = .ok (.bipush 31, 2) := by decide +kernel
theorem d7_6 : decode jdk_52_method_15_code 6 = .ok (.iushr, 1) := by decide +kernel
theorem d7_7 : decode jdk_52_method_15_code 7 = .ok (.i2b, 1) := by decide +kernel
theorem d7_8 : decode jdk_52_method_15_code 8 = .ok (.ireturn, 1) := by decide +kernel
theorem ef_7_5 (m : MethodId) (x0 : Addr) : entryFrame m #[(.ref x0), (.int (1 : Int32))] 2 = mkF m 0 #[.val (.ref x0), .val (.int (1 : Int32))] [] := by first | (simp [entryFrame, mkF, argsToLocals, Value.category]; done) | rfl
def Q7_5 (Z : State) (o1 : Addr) (kc1 : ClassId) (i2 : Int32) (h0 : Heap) (n0 : Nat) (v : Option Value) (h : Heap) (L : List Loc) : Prop := v = some (.int (0 : Int32)) ∧ Fr n0 L ∧ h = h0
set_option maxRecDepth 65536 in
set_option maxHeartbeats 40000000 in
theorem rm7_5 (l : Launch) (Z : State) (a0 : Array Value) (hw : ∀ d ∈ tables_1, d.before a0 Z = true) (ws : List Jvm.Cond) (o1 : Addr) (kc1 : ClassId) (i2 : Int32) (h0 : Heap) (n0 : Nat) (Z0 : n0 ≤ h0.size) (Pm0 : Arv Z h0 o1 kc1 .byte (1 : Int32) [(.int i2)] (.int (0 : Int32))) (gn_o1 : n0 ≤ o1)  :
    MetFree l (⟨"java/lang/StringUTF16", "coderFromArrayLen", "([BI)B"⟩ : MethodName) (head1 (Jvm.Cond.code (⟨"java/lang/StringUTF16", "coderFromArrayLen", "([BI)B"⟩ : MethodName) jdk_52_method_15_code 2 (some .byte) :: ws) ({ frames := 0, cells := 0, slots := 0, locals := 0 } : Room)) (fun a U => a = #[(.ref o1), (.int (1 : Int32))] ∧ Z.Warmed39 U.vm ∧ U.heap = h0) (fun _ _ _ _ _ => True) (fun _ U o U' => ∃ v L, o = .returned v ∧ Q7_5 Z o1 kc1 i2 h0 n0 v U'.heap L ∧ FrameEnd U o U' L ({ frames := 0, cells := 0, slots := 0, locals := 0 } : Room).cells ({ frames := 0, cells := 0, slots := 0, locals := 0 } : Room).slots) := by
  refine own_body (plainFor_of_name pn_2) ?_
  intro p e s m below meth c s₁ G hx hby hml hZ hown hnm hret X0 e0 step fin
  replace hown : s.vm.findClass "java/lang/StringUTF16" = some m.cls := hown
  replace hnm : meth.name = "coderFromArrayLen" := hnm
  replace hret : meth.sig.returnType = some .byte := hret
  replace hml : c.maxLocals = 2 := hml
  have N0 := Fr.nil n0
  refine step (s₁.setTop (mkF m 0 #[.val (.ref o1), .val (.int (1 : Int32))] [])) (fun t k => castTop (ef_7_5 m o1) k) ?_
  refine step (s₁.setTop (mkF m 1 #[.val (.ref o1), .val (.int (1 : Int32))] [(.int (1 : Int32))])) (fun t k => XS.iloadN X0.here hx rfl (hb hby d7_0) rfl k) ?_
  refine step (s₁.setTop (mkF m 2 #[.val (.ref o1), .val (.int (1 : Int32))] [(.ref o1), (.int (1 : Int32))])) (fun t k => XS.aloadN X0.here hx rfl (hb hby d7_1) rfl rfl k) ?_
  obtain ⟨cl1, Ar1, q1, S1, N1n, H1, G1⟩ := id Pm0
  refine step (s₁.setTop (mkF m 3 #[.val (.ref o1), .val (.int (1 : Int32))] [(.int (1 : Int32)), (.int (1 : Int32))])) (fun t k => X0.arraylength hx (by rw [e0]; exact Ar1.1) (State.isArrayOf_alike hZ.alike Ar1.2.1) (g := (mkF m 2 #[.val (.ref o1), .val (.int (1 : Int32))] [(.ref o1), (.int (1 : Int32))])) rfl rfl (hb hby d7_2) t (by rw [len_of S1 N1n]; exact k)) ?_
  refine step (s₁.setTop (mkF m 4 #[.val (.ref o1), .val (.int (1 : Int32))] [(.int (0 : Int32))])) (fun t k => XS.isub X0.here hx rfl (hb hby d7_3) rfl k) ?_
  refine step (s₁.setTop (mkF m 6 #[.val (.ref o1), .val (.int (1 : Int32))] [(.int (31 : Int32)), (.int (0 : Int32))])) (fun t k => XS.bipush X0.here hx rfl (hb hby d7_4) k) ?_
  refine step (s₁.setTop (mkF m 7 #[.val (.ref o1), .val (.int (1 : Int32))] [(.int (0 : Int32))])) (fun t k => XS.iushr X0.here hx rfl (hb hby d7_6) rfl k) ?_
  refine step (s₁.setTop (mkF m 8 #[.val (.ref o1), .val (.int (1 : Int32))] [(.int (0 : Int32))])) (fun t k => XS.i2b X0.here hx rfl (hb hby d7_7) rfl k) ?_
  refine fin (v := some (.int (nar .byte (0 : Int32)))) X0 (fun h => by cases h) ?_ (by decide) (by decide) (fun fs hr => retN X0 hx (t := .byte) hret (by simp) (hb hby d7_8) hr)
  show Q7_5 Z o1 kc1 i2 h0 n0 (some (.int (nar .byte (0 : Int32)))) s₁.heap _
  rw [e0]
  exact ⟨rfl, N0, rfl⟩
theorem ef_3_2 (m : MethodId) (x0 : Addr) (x1 : Addr) : entryFrame m #[(.ref x0), (.ref x1), (.int (0 : Int32)), (.int (1 : Int32)), .null] 6 = mkF m 0 #[.val (.ref x0), .val (.ref x1), .val (.int (0 : Int32)), .val (.int (1 : Int32)), .val .null, .unset] [] := by first | (simp [entryFrame, mkF, argsToLocals, Value.category]; done) | rfl
def Q3_2 (Z : State) (o1 : Addr) (o2 : Addr) (i1 : Int32) (kc2 : ClassId) (i3 : Int32) (h0 : Heap) (n0 : Nat) (v : Option Value) (h : Heap) (L : List Loc) : Prop := ∃ (b1_4 : Addr) (k1_4 : ClassId), v = none ∧ Fr n0 L ∧ Keep h0 h [o1] ∧ h0.size ≤ b1_4 ∧ Fld Z h o1 "java/lang/String" "coder" "B" (.int (0 : Int32)) ∧ Fld Z h o1 "java/lang/String" "value" "[B" (.ref b1_4) ∧ Arv Z h b1_4 k1_4 .byte (1 : Int32) [(.int (nar .byte (i3.toInt8.toInt32)))] (.int (0 : Int32))
set_option maxRecDepth 65536 in
set_option maxHeartbeats 40000000 in
theorem rm3_2 (l : Launch) (Z : State) (a0 : Array Value) (hw : ∀ d ∈ tables_1, d.before a0 Z = true) (ws : List Jvm.Cond) (o1 : Addr) (o2 : Addr) (i1 : Int32) (kc2 : ClassId) (i3 : Int32) (h0 : Heap) (n0 : Nat) (Z0 : n0 ≤ h0.size) (S0 : Sta Z h0 "java/lang/String" "COMPACT_STRINGS" "Z" (.int i1)) (Pm1 : Exa Z h0 o1 "java/lang/String") (Pm2 : Fld Z h0 o1 "java/lang/String" "coder" "B" (.int (0 : Int32))) (Pm3 : Fld Z h0 o1 "java/lang/String" "value" "[B" .null) (Pm4 : Arv Z h0 o2 kc2 .char (1 : Int32) [(.int i3)] (.int (0 : Int32))) (gn_o1 : n0 ≤ o1) (ne_o1_o2 : o1 ≠ o2) (gn_o2 : n0 ≤ o2) (hy8 : ¬ ((255 : Int32) < i3)) (hy9 : ¬ (i1 = (0 : Int32)))  :
    MetFree l (⟨"java/lang/String", "<init>", "([CIILjava/lang/Void;)V"⟩ : MethodName) (head1 (Jvm.Cond.code (⟨"java/lang/String", "<init>", "([CIILjava/lang/Void;)V"⟩ : MethodName) jdk_42_method_149_code 6 none :: ws) ({ frames := 2, cells := 1, slots := 1, locals := 35 } : Room)) (fun a U => a = #[(.ref o1), (.ref o2), (.int (0 : Int32)), (.int (1 : Int32)), .null] ∧ Z.Warmed39 U.vm ∧ U.heap = h0) (fun _ _ _ _ _ => True) (fun _ U o U' => ∃ v L, o = .returned v ∧ Q3_2 Z o1 o2 i1 kc2 i3 h0 n0 v U'.heap L ∧ FrameEnd U o U' L ({ frames := 2, cells := 1, slots := 1, locals := 35 } : Room).cells ({ frames := 2, cells := 1, slots := 1, locals := 35 } : Room).slots) := by
  refine own_body (plainFor_of_name pn_1) ?_
  intro p e s m below meth c s₁ G hx hby hml hZ hown hnm hret X0 e0 step fin
  replace hown : s.vm.findClass "java/lang/String" = some m.cls := hown
  replace hnm : meth.name = "<init>" := hnm
  replace hret : meth.sig.returnType = none := hret
  replace hml : c.maxLocals = 6 := hml
  have N0 := Fr.nil n0
  refine step (s₁.setTop (mkF m 0 #[.val (.ref o1), .val (.ref o2), .val (.int (0 : Int32)), .val (.int (1 : Int32)), .val .null, .unset] [])) (fun t k => castTop (ef_3_2 m o1 o2) k) ?_
  refine step (s₁.setTop (mkF m 1 #[.val (.ref o1), .val (.ref o2), .val (.int (0 : Int32)), .val (.int (1 : Int32)), .val .null, .unset] [(.ref o1)])) (fun t k => XS.aloadN X0.here hx rfl (hb hby d3_0) rfl rfl k) ?_
  obtain ⟨T1, X1, e1, st1⟩ := initO X0 hx hZ hown (hw _ (List.mem_of_getElem? (i := 18) rfl)) (hw _ (List.mem_of_getElem? (i := 19) rfl)) (hw _ (List.mem_of_getElem? (i := 20) rfl)) e0 (g := (mkF m 1 #[.val (.ref o1), .val (.ref o2), .val (.int (0 : Int32)), .val (.int (1 : Int32)), .val .null, .unset] [(.ref o1)])) rfl (by rw [hml]; rfl) rfl (hb hby d3_1) (by decide) (W := 0) (by show 2 * 0 + _ ≤ _; exact Nat.le_of_eq rfl) (by decide)
  refine step (T1.setTop (mkF m 4 #[.val (.ref o1), .val (.ref o2), .val (.int (0 : Int32)), .val (.int (1 : Int32)), .val .null, .unset] [])) (fun t k => st1 t k) ?_
  refine step (T1.setTop (mkF m 5 #[.val (.ref o1), .val (.ref o2), .val (.int (0 : Int32)), .val (.int (1 : Int32)), .val .null, .unset] [(.int (1 : Int32))])) (fun t k => XS.iloadN X1.here hx rfl (hb hby d3_4) rfl k) ?_
  refine step (T1.setTop (mkF m 27 #[.val (.ref o1), .val (.ref o2), .val (.int (0 : Int32)), .val (.int (1 : Int32)), .val .null, .unset] [])) (fun t k => XS.ifYes X1.here hx rfl (pc0 := 5) (pc' := 27) rfl (hb hby d3_5) rfl ((if0 _ _).trans (feq (by decide : ¬ ((1 : Int32) = (0 : Int32)))).2) (by decide) (by decide) k) ?_
  obtain ⟨T2, X2, e2, st2⟩ := getS2 X1 hx hZ hown (host := "") (Or.inl (hw _ (List.mem_of_getElem? (i := 21) rfl))) Via.refl e1 S0 (g := (mkF m 27 #[.val (.ref o1), .val (.ref o2), .val (.int (0 : Int32)), .val (.int (1 : Int32)), .val .null, .unset] [])) rfl (hb hby d3_27)
  refine step (T2.setTop (mkF m 30 #[.val (.ref o1), .val (.ref o2), .val (.int (0 : Int32)), .val (.int (1 : Int32)), .val .null, .unset] [(.int i1)])) (fun t k => st2 t k) ?_
  have hc30_3 : ¬ (i1 = (0 : Int32)) := hy9
  refine step (T2.setTop (mkF m 33 #[.val (.ref o1), .val (.ref o2), .val (.int (0 : Int32)), .val (.int (1 : Int32)), .val .null, .unset] [])) (fun t k => XS.ifNo X2.here hx rfl (hb hby d3_30) rfl ((if0 _ _).trans (feq hc30_3).1) k) ?_
  refine step (T2.setTop (mkF m 34 #[.val (.ref o1), .val (.ref o2), .val (.int (0 : Int32)), .val (.int (1 : Int32)), .val .null, .unset] [(.ref o2)])) (fun t k => XS.aloadN X2.here hx rfl (hb hby d3_33) rfl rfl k) ?_
  refine step (T2.setTop (mkF m 35 #[.val (.ref o1), .val (.ref o2), .val (.int (0 : Int32)), .val (.int (1 : Int32)), .val .null, .unset] [(.int (0 : Int32)), (.ref o2)])) (fun t k => XS.iloadN X2.here hx rfl (hb hby d3_34) rfl k) ?_
  refine step (T2.setTop (mkF m 36 #[.val (.ref o1), .val (.ref o2), .val (.int (0 : Int32)), .val (.int (1 : Int32)), .val .null, .unset] [(.int (1 : Int32)), (.int (0 : Int32)), (.ref o2)])) (fun t k => XS.iloadN X2.here hx rfl (hb hby d3_35) rfl k) ?_
  obtain ⟨_, _, ⟨T4, L4, k4, n4⟩, -, X4, ⟨Lc4, hQ4, l4, y4, z4⟩, st4⟩ := Jvm.LawKit.callS X2 hx (y := (⟨"java/lang/StringUTF16", "compress", "([CII)[B"⟩ : MethodName)) hown (mvT hZ (hw _ (List.mem_of_getElem? (i := 22) rfl))) (mvT hZ (hw _ (List.mem_of_getElem? (i := 23) rfl))) (mvT hZ (hw _ (List.mem_of_getElem? (i := 24) rfl))) (mvT hZ (hw _ (List.mem_of_getElem? (i := 25) rfl))) (by decide) (backOf (W := 0) (rm5_3 l Z a0 hw [] o2 kc2 i3 h0 n0 Z0 Pm4 gn_o2 hy8) hZ (hw _ (List.mem_of_getElem? (i := 25) rfl)) (hw _ (List.mem_of_getElem? (i := 24) rfl)) (by decide) (by decide)) (g := (mkF m 36 #[.val (.ref o1), .val (.ref o2), .val (.int (0 : Int32)), .val (.int (1 : Int32)), .val .null, .unset] [(.int (1 : Int32)), (.int (0 : Int32)), (.ref o2)])) rfl (by rw [hml]; rfl) (argsL := [(.ref o2), (.int (0 : Int32)), (.int (1 : Int32))]) (rest := []) (lenOf pd_3 rfl) rfl (by show 2 * 0 + _ ≤ _; exact Nat.le_of_eq rfl) (hb hby d3_36) (fun _ _ => ⟨rfl, e2, (by decide : 0 + 1 ≤ _), (by decide : 0 + 1 ≤ _)⟩)
  dsimp only [Pt.U, Pt.locs, Pt.cells, Pt.slots] at X4 l4 y4 z4 st4 hQ4
  subst l4 y4 z4
  obtain ⟨h4, e4⟩ : ∃ z, T4.heap = z := ⟨_, rfl⟩
  rw [e4] at hQ4
  obtain ⟨b1_4, k1_4, rfl, N4q, K4q, sz_b1_4, q0_4⟩ := hQ4
  have N4 := Fr.app N0 N4q
  have lt4_o1 := Pm1.lt
  have lt4_o2 := Pm4.lt
  have ne_o1_b1_4 : o1 ≠ b1_4 := Nat.ne_of_lt (Nat.lt_of_lt_of_le lt4_o1 sz_b1_4)
  have ne_o2_b1_4 : o2 ≠ b1_4 := Nat.ne_of_lt (Nat.lt_of_lt_of_le lt4_o2 sz_b1_4)
  have gn_b1_4 : n0 ≤ b1_4 := Nat.le_trans Z0 sz_b1_4
  have K4 : Keep h0 h4 [o1] := (Keep.refl h0 [o1]).trans K4q all0
  have f5 := own_staK S0 K4q all0
  refine step (T4.setTop (mkF m 39 #[.val (.ref o1), .val (.ref o2), .val (.int (0 : Int32)), .val (.int (1 : Int32)), .val .null, .unset] [(.ref b1_4)])) (fun t k => st4 t k) ?_
  refine step (T4.setTop (mkF m 41 #[.val (.ref o1), .val (.ref o2), .val (.int (0 : Int32)), .val (.int (1 : Int32)), .val .null, .val (.ref b1_4)] [])) (fun t k => XS.astore X4.here hx rfl (hb hby d3_39) rfl rfl (l' := #[.val (.ref o1), .val (.ref o2), .val (.int (0 : Int32)), .val (.int (1 : Int32)), .val .null, .val (.ref b1_4)]) rfl k) ?_
  refine step (T4.setTop (mkF m 42 #[.val (.ref o1), .val (.ref o2), .val (.int (0 : Int32)), .val (.int (1 : Int32)), .val .null, .val (.ref b1_4)] [(.ref o1)])) (fun t k => XS.aloadN X4.here hx rfl (hb hby d3_41) rfl rfl k) ?_
  refine step (T4.setTop (mkF m 44 #[.val (.ref o1), .val (.ref o2), .val (.int (0 : Int32)), .val (.int (1 : Int32)), .val .null, .val (.ref b1_4)] [(.ref b1_4), (.ref o1)])) (fun t k => XS.aload X4.here hx rfl (hb hby d3_42) rfl rfl k) ?_
  refine step (T4.setTop (mkF m 45 #[.val (.ref o1), .val (.ref o2), .val (.int (0 : Int32)), .val (.int (1 : Int32)), .val .null, .val (.ref b1_4)] [(.int (1 : Int32)), (.ref b1_4), (.ref o1)])) (fun t k => XS.iloadN X4.here hx rfl (hb hby d3_44) rfl k) ?_
  obtain ⟨_, _, ⟨T6, L6, k6, n6⟩, -, X6, ⟨Lc6, hQ6, l6, y6, z6⟩, st6⟩ := Jvm.LawKit.callS X4 hx (y := (⟨"java/lang/StringUTF16", "coderFromArrayLen", "([BI)B"⟩ : MethodName)) hown (mvT hZ (hw _ (List.mem_of_getElem? (i := 30) rfl))) (mvT hZ (hw _ (List.mem_of_getElem? (i := 31) rfl))) (mvT hZ (hw _ (List.mem_of_getElem? (i := 24) rfl))) (mvT hZ (hw _ (List.mem_of_getElem? (i := 32) rfl))) (by decide) (backOf (W := 1) (rm7_5 l Z a0 hw [] b1_4 k1_4 (nar .byte (i3.toInt8.toInt32)) h4 n0 (Nat.le_trans Z0 K4.1) q0_4 gn_b1_4) hZ (hw _ (List.mem_of_getElem? (i := 32) rfl)) (hw _ (List.mem_of_getElem? (i := 24) rfl)) (by decide) (by decide)) (g := (mkF m 45 #[.val (.ref o1), .val (.ref o2), .val (.int (0 : Int32)), .val (.int (1 : Int32)), .val .null, .val (.ref b1_4)] [(.int (1 : Int32)), (.ref b1_4), (.ref o1)])) rfl (by rw [hml]; rfl) (argsL := [(.ref b1_4), (.int (1 : Int32))]) (rest := [(.ref o1)]) (lenOf pd_4 rfl) rfl (by show 2 * 0 + _ ≤ _; exact Nat.le_of_eq rfl) (hb hby d3_45) (fun _ _ => ⟨rfl, e4, (by decide : 1 + 0 ≤ _), (by decide : 1 + 0 ≤ _)⟩)
  dsimp only [Pt.U, Pt.locs, Pt.cells, Pt.slots] at X6 l6 y6 z6 st6 hQ6
  subst l6 y6 z6
  obtain ⟨rfl, N6q, e6q⟩ := hQ6
  have N6 := Fr.app N4 N6q
  refine step (T6.setTop (mkF m 48 #[.val (.ref o1), .val (.ref o2), .val (.int (0 : Int32)), .val (.int (1 : Int32)), .val .null, .val (.ref b1_4)] [(.int (0 : Int32)), (.ref o1)])) (fun t k => st6 t k) ?_
  have f7 := (Pm1.keep K4q)
  have f8 := (Pm2.keep K4q nin0)
  obtain ⟨T9, h9, X9, e9, W9, st9⟩ := putFN X6 hx hZ hown (hw _ (List.mem_of_getElem? (i := 33) rfl)) Via.refl e6q f8 f7 (Or.inr ⟨(hw _ (List.mem_of_getElem? (i := 34) rfl)), rfl, hnm⟩) (hw _ (List.mem_of_getElem? (i := 8) rfl)) (ty := .byte) (v' := (.int (0 : Int32))) (by decide) rfl (fits_nar_byte (0 : Int32)) (g := (mkF m 48 #[.val (.ref o1), .val (.ref o2), .val (.int (0 : Int32)), .val (.int (1 : Int32)), .val .null, .val (.ref b1_4)] [(.int (0 : Int32)), (.ref o1)])) rfl rfl (hb hby d3_48)
  have N9 := Fr.snoc X9 N6 gn_o1
  have K9 : Keep h0 h9 [o1] := K4.wr W9 (Or.inl (List.mem_of_getElem? (i := 0) rfl))
  have F9 := f8.same W9
  refine step (T9.setTop (mkF m 51 #[.val (.ref o1), .val (.ref o2), .val (.int (0 : Int32)), .val (.int (1 : Int32)), .val .null, .val (.ref b1_4)] [])) (fun t k => st9 t k) ?_
  refine step (T9.setTop (mkF m 52 #[.val (.ref o1), .val (.ref o2), .val (.int (0 : Int32)), .val (.int (1 : Int32)), .val .null, .val (.ref b1_4)] [(.ref o1)])) (fun t k => XS.aloadN X9.here hx rfl (hb hby d3_51) rfl rfl k) ?_
  refine step (T9.setTop (mkF m 54 #[.val (.ref o1), .val (.ref o2), .val (.int (0 : Int32)), .val (.int (1 : Int32)), .val .null, .val (.ref b1_4)] [(.ref b1_4), (.ref o1)])) (fun t k => XS.aload X9.here hx rfl (hb hby d3_52) rfl rfl k) ?_
  have f10 := (f7.wr W9)
  have f11 := ((Pm3.keep K4q nin0).other W9 (Or.inr (slot_ne (Or.inr (hw _ (List.mem_of_getElem? (i := 36) rfl))) (Or.inr (hw _ (List.mem_of_getElem? (i := 34) rfl))) (by decide) (t := (.array .byte)) (t' := .byte) (by decide) (by decide))))
  obtain ⟨T12, h12, X12, e12, W12, st12⟩ := putF X9 hx hZ hown (host := "") (Or.inl (hw _ (List.mem_of_getElem? (i := 35) rfl))) Via.refl e9 f11 f10 (Or.inr ⟨(hw _ (List.mem_of_getElem? (i := 36) rfl)), rfl, hnm⟩) (hw _ (List.mem_of_getElem? (i := 8) rfl)) (ty := (.array .byte)) (by decide) rfl rfl (g := (mkF m 54 #[.val (.ref o1), .val (.ref o2), .val (.int (0 : Int32)), .val (.int (1 : Int32)), .val .null, .val (.ref b1_4)] [(.ref b1_4), (.ref o1)])) rfl rfl (hb hby d3_54)
  have N12 := Fr.snoc X12 N9 gn_o1
  have K12 : Keep h0 h12 [o1] := K9.wr W12 (Or.inl (List.mem_of_getElem? (i := 0) rfl))
  have F12 := f11.same W12
  refine step (T12.setTop (mkF m 57 #[.val (.ref o1), .val (.ref o2), .val (.int (0 : Int32)), .val (.int (1 : Int32)), .val .null, .val (.ref b1_4)] [])) (fun t k => st12 t k) ?_
  have f13 := (F9.other W12 (Or.inr (slot_ne (Or.inr (hw _ (List.mem_of_getElem? (i := 34) rfl))) (Or.inr (hw _ (List.mem_of_getElem? (i := 36) rfl))) (by decide) (t := .byte) (t' := (.array .byte)) (by decide) (by decide))))
  have f14 := ((q0_4.other W9 (Ne.symm ne_o1_b1_4)).other W12 (Ne.symm ne_o1_b1_4))
  refine fin (v := none) X12 (fun _ => rfl) ?_ (by decide) (by decide) (fun fs hr => X12.returnOut hx hret (hb hby d3_57) hr)
  show Q3_2 Z o1 o2 i1 kc2 i3 h0 n0 (none) T12.heap _
  rw [e12]
  exact ⟨b1_4, k1_4, rfl, N12, K12, sz_b1_4, f13, F12, f14⟩
theorem ef_2_1 (m : MethodId) (x0 : Addr) (x1 : Addr) : entryFrame m #[(.ref x0), (.ref x1)] 2 = mkF m 0 #[.val (.ref x0), .val (.ref x1)] [] := by first | (simp [entryFrame, mkF, argsToLocals, Value.category]; done) | rfl
def Q2_1 (Z : State) (o1 : Addr) (o2 : Addr) (i1 : Int32) (kc2 : ClassId) (i3 : Int32) (h0 : Heap) (n0 : Nat) (v : Option Value) (h : Heap) (L : List Loc) : Prop := ∃ (b1_4_2 : Addr) (k1_4_2 : ClassId), v = none ∧ Fr n0 L ∧ Keep h0 h [o1] ∧ h0.size ≤ b1_4_2 ∧ Fld Z h o1 "java/lang/String" "coder" "B" (.int (0 : Int32)) ∧ Fld Z h o1 "java/lang/String" "value" "[B" (.ref b1_4_2) ∧ Arv Z h b1_4_2 k1_4_2 .byte (1 : Int32) [(.int (nar .byte (i3.toInt8.toInt32)))] (.int (0 : Int32))
set_option maxRecDepth 65536 in
set_option maxHeartbeats 40000000 in
theorem rm2_1 (l : Launch) (Z : State) (a0 : Array Value) (hw : ∀ d ∈ tables_1, d.before a0 Z = true) (ws : List Jvm.Cond) (o1 : Addr) (o2 : Addr) (i1 : Int32) (kc2 : ClassId) (i3 : Int32) (h0 : Heap) (n0 : Nat) (Z0 : n0 ≤ h0.size) (S0 : Sta Z h0 "java/lang/String" "COMPACT_STRINGS" "Z" (.int i1)) (Pm1 : Exa Z h0 o1 "java/lang/String") (Pm2 : Fld Z h0 o1 "java/lang/String" "coder" "B" (.int (0 : Int32))) (Pm3 : Fld Z h0 o1 "java/lang/String" "value" "[B" .null) (Pm4 : Arv Z h0 o2 kc2 .char (1 : Int32) [(.int i3)] (.int (0 : Int32))) (gn_o1 : n0 ≤ o1) (ne_o1_o2 : o1 ≠ o2) (gn_o2 : n0 ≤ o2) (hy8 : ¬ ((255 : Int32) < i3)) (hy9 : ¬ (i1 = (0 : Int32)))  :
    MetFree l (⟨"java/lang/String", "<init>", "([C)V"⟩ : MethodName) (head1 (Jvm.Cond.code (⟨"java/lang/String", "<init>", "([C)V"⟩ : MethodName) jdk_42_method_3_code 2 none :: ws) ({ frames := 3, cells := 1, slots := 1, locals := 52 } : Room)) (fun a U => a = #[(.ref o1), (.ref o2)] ∧ Z.Warmed39 U.vm ∧ U.heap = h0) (fun _ _ _ _ _ => True) (fun _ U o U' => ∃ v L, o = .returned v ∧ Q2_1 Z o1 o2 i1 kc2 i3 h0 n0 v U'.heap L ∧ FrameEnd U o U' L ({ frames := 3, cells := 1, slots := 1, locals := 52 } : Room).cells ({ frames := 3, cells := 1, slots := 1, locals := 52 } : Room).slots) := by
  refine own_body (plainFor_of_name pn_1) ?_
  intro p e s m below meth c s₁ G hx hby hml hZ hown hnm hret X0 e0 step fin
  replace hown : s.vm.findClass "java/lang/String" = some m.cls := hown
  replace hnm : meth.name = "<init>" := hnm
  replace hret : meth.sig.returnType = none := hret
  replace hml : c.maxLocals = 2 := hml
  have N0 := Fr.nil n0
  refine step (s₁.setTop (mkF m 0 #[.val (.ref o1), .val (.ref o2)] [])) (fun t k => castTop (ef_2_1 m o1 o2) k) ?_
  refine step (s₁.setTop (mkF m 1 #[.val (.ref o1), .val (.ref o2)] [(.ref o1)])) (fun t k => XS.aloadN X0.here hx rfl (hb hby d2_0) rfl rfl k) ?_
  refine step (s₁.setTop (mkF m 2 #[.val (.ref o1), .val (.ref o2)] [(.ref o2), (.ref o1)])) (fun t k => XS.aloadN X0.here hx rfl (hb hby d2_1) rfl rfl k) ?_
  refine step (s₁.setTop (mkF m 3 #[.val (.ref o1), .val (.ref o2)] [(.int (0 : Int32)), (.ref o2), (.ref o1)])) (fun t k => XS.iconst X0.here hx rfl (hb hby d2_2) k) ?_
  refine step (s₁.setTop (mkF m 4 #[.val (.ref o1), .val (.ref o2)] [(.ref o2), (.int (0 : Int32)), (.ref o2), (.ref o1)])) (fun t k => XS.aloadN X0.here hx rfl (hb hby d2_3) rfl rfl k) ?_
  obtain ⟨cl1, Ar1, q1, S1, N1n, H1, G1⟩ := id Pm4
  refine step (s₁.setTop (mkF m 5 #[.val (.ref o1), .val (.ref o2)] [(.int (1 : Int32)), (.int (0 : Int32)), (.ref o2), (.ref o1)])) (fun t k => X0.arraylength hx (by rw [e0]; exact Ar1.1) (State.isArrayOf_alike hZ.alike Ar1.2.1) (g := (mkF m 4 #[.val (.ref o1), .val (.ref o2)] [(.ref o2), (.int (0 : Int32)), (.ref o2), (.ref o1)])) rfl rfl (hb hby d2_4) t (by rw [len_of S1 N1n]; exact k)) ?_
  refine step (s₁.setTop (mkF m 6 #[.val (.ref o1), .val (.ref o2)] [.null, (.int (1 : Int32)), (.int (0 : Int32)), (.ref o2), (.ref o1)])) (fun t k => XS.aconstNull X0.here hx rfl (hb hby d2_5) k) ?_
  obtain ⟨_, _, ⟨T2, L2, k2, n2⟩, -, X2, ⟨Lc2, hQ2, l2, y2, z2⟩, st2⟩ := X0.specialBack hx (y := (⟨"java/lang/String", "<init>", "([CIILjava/lang/Void;)V"⟩ : MethodName)) rfl hown (mvT hZ (hw _ (List.mem_of_getElem? (i := 14) rfl))) (mvT hZ (hw _ (List.mem_of_getElem? (i := 15) rfl))) (mvT hZ (hw _ (List.mem_of_getElem? (i := 17) rfl))) (by decide) (backOf (W := 0) (rm3_2 l Z a0 hw [] o1 o2 i1 kc2 i3 h0 n0 Z0 S0 Pm1 Pm2 Pm3 Pm4 gn_o1 ne_o1_o2 gn_o2 hy8 hy9) hZ (hw _ (List.mem_of_getElem? (i := 17) rfl)) (hw _ (List.mem_of_getElem? (i := 9) rfl)) (by decide) (by decide)) (g := (mkF m 6 #[.val (.ref o1), .val (.ref o2)] [.null, (.int (1 : Int32)), (.int (0 : Int32)), (.ref o2), (.ref o1)])) rfl (by rw [hml]; rfl) (Steps.refl _) (a := o1) (argsL := [(.ref o2), (.int (0 : Int32)), (.int (1 : Int32)), .null]) (rest := []) (lenOf pd_1 rfl) rfl (by show 2 * 0 + _ ≤ _; exact Nat.le_of_eq rfl) (hb hby d2_6) (fun _ _ => ⟨rfl, e0, (by decide : 0 + 1 ≤ _), (by decide : 0 + 1 ≤ _)⟩)
  dsimp only [Pt.U, Pt.locs, Pt.cells, Pt.slots] at X2 l2 y2 z2 st2 hQ2
  subst l2 y2 z2
  obtain ⟨h2, e2⟩ : ∃ z, T2.heap = z := ⟨_, rfl⟩
  rw [e2] at hQ2
  obtain ⟨b1_4_2, k1_4_2, rfl, N2q, K2q, sz_b1_4_2, q0_2, q1_2, q2_2⟩ := hQ2
  have N2 := Fr.app N0 N2q
  have lt2_o1 := Pm1.lt
  have lt2_o2 := Pm4.lt
  have ne_o1_b1_4_2 : o1 ≠ b1_4_2 := Nat.ne_of_lt (Nat.lt_of_lt_of_le lt2_o1 sz_b1_4_2)
  have ne_o2_b1_4_2 : o2 ≠ b1_4_2 := Nat.ne_of_lt (Nat.lt_of_lt_of_le lt2_o2 sz_b1_4_2)
  have gn_b1_4_2 : n0 ≤ b1_4_2 := Nat.le_trans Z0 sz_b1_4_2
  have K2 : Keep h0 h2 [o1] := (Keep.refl h0 [o1]).trans K2q (allS (Or.inl (List.mem_of_getElem? (i := 0) rfl)) all0)
  have f3 := own_staK S0 K2q (allS (own_exaP Pm1) all0)
  refine step (T2.setTop (mkF m 9 #[.val (.ref o1), .val (.ref o2)] [])) (fun t k => st2.trans k) ?_
  refine fin (v := none) X2 (fun _ => rfl) ?_ (by decide) (by decide) (fun fs hr => X2.returnOut hx hret (hb hby d2_9) hr)
  show Q2_1 Z o1 o2 i1 kc2 i3 h0 n0 (none) T2.heap _
  rw [e2]
  exact ⟨b1_4_2, k1_4_2, rfl, N2, K2, sz_b1_4_2, q0_2, q1_2, q2_2⟩
theorem ef_6_9 (m : MethodId) (x0 : Addr) (x2 : Addr) : entryFrame m #[(.ref x0), (.int (0 : Int32)), (.ref x2), (.int (0 : Int32)), (.int (2 : Int32))] 7 = mkF m 0 #[.val (.ref x0), .val (.int (0 : Int32)), .val (.ref x2), .val (.int (0 : Int32)), .val (.int (2 : Int32)), .unset, .unset] [] := by first | (simp [entryFrame, mkF, argsToLocals, Value.category]; done) | rfl
def Q6_9 (Z : State) (o1 : Addr) (o2 : Addr) (kc1 : ClassId) (i2 : Int32) (i3 : Int32) (kc4 : ClassId) (h0 : Heap) (n0 : Nat) (v : Option Value) (h : Heap) (L : List Loc) : Prop := v = some (.int (2 : Int32)) ∧ Fr n0 L ∧ Keep h0 h [o2] ∧ Arv Z h o2 kc4 .byte (2 : Int32) [(.int (nar .byte (i2.toInt8.toInt32))), (.int (nar .byte (i3.toInt8.toInt32)))] (.int (0 : Int32))
set_option maxRecDepth 65536 in
set_option maxHeartbeats 40000000 in
theorem rm6_9 (l : Launch) (Z : State) (a0 : Array Value) (hw : ∀ d ∈ tables_1, d.before a0 Z = true) (ws : List Jvm.Cond) (o1 : Addr) (o2 : Addr) (kc1 : ClassId) (i2 : Int32) (i3 : Int32) (kc4 : ClassId) (h0 : Heap) (n0 : Nat) (Z0 : n0 ≤ h0.size) (Pm0 : Arv Z h0 o1 kc1 .char (2 : Int32) [(.int i2), (.int i3)] (.int (0 : Int32))) (Pm1 : Arv Z h0 o2 kc4 .byte (2 : Int32) [(.int (0 : Int32)), (.int (0 : Int32))] (.int (0 : Int32))) (gn_o1 : n0 ≤ o1) (ne_o1_o2 : o1 ≠ o2) (gn_o2 : n0 ≤ o2) (hy5 : ¬ ((255 : Int32) < i2)) (hy6 : ¬ ((255 : Int32) < i3))  :
    MetFree l (⟨"java/lang/StringUTF16", "compress", "([CI[BII)I"⟩ : MethodName) (head1 (Jvm.Cond.code (⟨"java/lang/StringUTF16", "compress", "([CI[BII)I"⟩ : MethodName) jdk_52_method_21_code 7 (some .int) :: ws) ({ frames := 0, cells := 0, slots := 0, locals := 0 } : Room)) (fun a U => a = #[(.ref o1), (.int (0 : Int32)), (.ref o2), (.int (0 : Int32)), (.int (2 : Int32))] ∧ Z.Warmed39 U.vm ∧ U.heap = h0) (fun _ _ _ _ _ => True) (fun _ U o U' => ∃ v L, o = .returned v ∧ Q6_9 Z o1 o2 kc1 i2 i3 kc4 h0 n0 v U'.heap L ∧ FrameEnd U o U' L ({ frames := 0, cells := 0, slots := 0, locals := 0 } : Room).cells ({ frames := 0, cells := 0, slots := 0, locals := 0 } : Room).slots) := by
  refine own_body (plainFor_of_name pn_2) ?_
  intro p e s m below meth c s₁ G hx hby hml hZ hown hnm hret X0 e0 step fin
  replace hown : s.vm.findClass "java/lang/StringUTF16" = some m.cls := hown
  replace hnm : meth.name = "compress" := hnm
  replace hret : meth.sig.returnType = some .int := hret
  replace hml : c.maxLocals = 7 := hml
  have N0 := Fr.nil n0
  refine step (s₁.setTop (mkF m 0 #[.val (.ref o1), .val (.int (0 : Int32)), .val (.ref o2), .val (.int (0 : Int32)), .val (.int (2 : Int32)), .unset, .unset] [])) (fun t k => castTop (ef_6_9 m o1 o2) k) ?_
  refine step (s₁.setTop (mkF m 1 #[.val (.ref o1), .val (.int (0 : Int32)), .val (.ref o2), .val (.int (0 : Int32)), .val (.int (2 : Int32)), .unset, .unset] [(.int (0 : Int32))])) (fun t k => XS.iconst X0.here hx rfl (hb hby d6_0) k) ?_
  refine step (s₁.setTop (mkF m 3 #[.val (.ref o1), .val (.int (0 : Int32)), .val (.ref o2), .val (.int (0 : Int32)), .val (.int (2 : Int32)), .val (.int (0 : Int32)), .unset] [])) (fun t k => XS.istore X0.here hx rfl (hb hby d6_1) rfl (l' := #[.val (.ref o1), .val (.int (0 : Int32)), .val (.ref o2), .val (.int (0 : Int32)), .val (.int (2 : Int32)), .val (.int (0 : Int32)), .unset]) rfl k) ?_
  refine step (s₁.setTop (mkF m 5 #[.val (.ref o1), .val (.int (0 : Int32)), .val (.ref o2), .val (.int (0 : Int32)), .val (.int (2 : Int32)), .val (.int (0 : Int32)), .unset] [(.int (0 : Int32))])) (fun t k => XS.iload X0.here hx rfl (hb hby d6_3) rfl k) ?_
  refine step (s₁.setTop (mkF m 7 #[.val (.ref o1), .val (.int (0 : Int32)), .val (.ref o2), .val (.int (0 : Int32)), .val (.int (2 : Int32)), .val (.int (0 : Int32)), .unset] [(.int (2 : Int32)), (.int (0 : Int32))])) (fun t k => XS.iload X0.here hx rfl (hb hby d6_5) rfl k) ?_
  refine step (s₁.setTop (mkF m 10 #[.val (.ref o1), .val (.int (0 : Int32)), .val (.ref o2), .val (.int (0 : Int32)), .val (.int (2 : Int32)), .val (.int (0 : Int32)), .unset] [])) (fun t k => XS.icmpNo X0.here hx rfl (hb hby d6_7) rfl (tlt (by decide : (0 : Int32) < (2 : Int32))).2.1 k) ?_
  refine step (s₁.setTop (mkF m 11 #[.val (.ref o1), .val (.int (0 : Int32)), .val (.ref o2), .val (.int (0 : Int32)), .val (.int (2 : Int32)), .val (.int (0 : Int32)), .unset] [(.ref o1)])) (fun t k => XS.aloadN X0.here hx rfl (hb hby d6_10) rfl rfl k) ?_
  refine step (s₁.setTop (mkF m 12 #[.val (.ref o1), .val (.int (0 : Int32)), .val (.ref o2), .val (.int (0 : Int32)), .val (.int (2 : Int32)), .val (.int (0 : Int32)), .unset] [(.int (0 : Int32)), (.ref o1)])) (fun t k => XS.iloadN X0.here hx rfl (hb hby d6_11) rfl k) ?_
  obtain ⟨cl1, Ar1, q1, S1, N1n, H1, G1⟩ := id Pm0
  have hin1 : ¬ ((0 : Int32) < 0 ∨ cl1.slots.size ≤ ((0 : Int32)).toNatClampNeg) := inb_of S1 ⟨by decide, by decide⟩
  have hat1 : cl1.slots[((0 : Int32)).toNatClampNeg]? = some (.int i2) := H1.at hin1 rfl
  refine step (s₁.setTop (mkF m 13 #[.val (.ref o1), .val (.int (0 : Int32)), .val (.ref o2), .val (.int (0 : Int32)), .val (.int (2 : Int32)), .val (.int (0 : Int32)), .unset] [(.int i2)])) (fun t k => X0.caload hx (j := (0 : Int32)) (v := (.int i2)) (by rw [e0]; exact Ar1.1) (State.isArrayOf_alike hZ.alike Ar1.2.1) Ar1.2.2 hin1 hat1 (g := (mkF m 12 #[.val (.ref o1), .val (.int (0 : Int32)), .val (.ref o2), .val (.int (0 : Int32)), .val (.int (2 : Int32)), .val (.int (0 : Int32)), .unset] [(.int (0 : Int32)), (.ref o1)])) rfl rfl (hb hby d6_12) t k) ?_
  refine step (s₁.setTop (mkF m 15 #[.val (.ref o1), .val (.int (0 : Int32)), .val (.ref o2), .val (.int (0 : Int32)), .val (.int (2 : Int32)), .val (.int (0 : Int32)), .val (.int i2)] [])) (fun t k => XS.istore X0.here hx rfl (hb hby d6_13) rfl (l' := #[.val (.ref o1), .val (.int (0 : Int32)), .val (.ref o2), .val (.int (0 : Int32)), .val (.int (2 : Int32)), .val (.int (0 : Int32)), .val (.int i2)]) rfl k) ?_
  refine step (s₁.setTop (mkF m 17 #[.val (.ref o1), .val (.int (0 : Int32)), .val (.ref o2), .val (.int (0 : Int32)), .val (.int (2 : Int32)), .val (.int (0 : Int32)), .val (.int i2)] [(.int i2)])) (fun t k => XS.iload X0.here hx rfl (hb hby d6_15) rfl k) ?_
  refine step (s₁.setTop (mkF m 20 #[.val (.ref o1), .val (.int (0 : Int32)), .val (.ref o2), .val (.int (0 : Int32)), .val (.int (2 : Int32)), .val (.int (0 : Int32)), .val (.int i2)] [(.int (255 : Int32)), (.int i2)])) (fun t k => XS.sipush X0.here hx rfl (hb hby d6_17) k) ?_
  have hc20_2 : ¬ ((255 : Int32) < i2) := hy5
  refine step (s₁.setTop (mkF m 26 #[.val (.ref o1), .val (.int (0 : Int32)), .val (.ref o2), .val (.int (0 : Int32)), .val (.int (2 : Int32)), .val (.int (0 : Int32)), .val (.int i2)] [])) (fun t k => XS.icmpYes X0.here hx rfl (pc0 := 20) (pc' := 26) rfl (hb hby d6_20) rfl (flt hc20_2).2.2.2 (by decide) (by decide) k) ?_
  refine step (s₁.setTop (mkF m 27 #[.val (.ref o1), .val (.int (0 : Int32)), .val (.ref o2), .val (.int (0 : Int32)), .val (.int (2 : Int32)), .val (.int (0 : Int32)), .val (.int i2)] [(.ref o2)])) (fun t k => XS.aloadN X0.here hx rfl (hb hby d6_26) rfl rfl k) ?_
  refine step (s₁.setTop (mkF m 28 #[.val (.ref o1), .val (.int (0 : Int32)), .val (.ref o2), .val (.int (0 : Int32)), .val (.int (2 : Int32)), .val (.int (0 : Int32)), .val (.int i2)] [(.int (0 : Int32)), (.ref o2)])) (fun t k => XS.iloadN X0.here hx rfl (hb hby d6_27) rfl k) ?_
  refine step (s₁.setTop (mkF m 30 #[.val (.ref o1), .val (.int (0 : Int32)), .val (.ref o2), .val (.int (0 : Int32)), .val (.int (2 : Int32)), .val (.int (0 : Int32)), .val (.int i2)] [(.int i2), (.int (0 : Int32)), (.ref o2)])) (fun t k => XS.iload X0.here hx rfl (hb hby d6_28) rfl k) ?_
  refine step (s₁.setTop (mkF m 31 #[.val (.ref o1), .val (.int (0 : Int32)), .val (.ref o2), .val (.int (0 : Int32)), .val (.int (2 : Int32)), .val (.int (0 : Int32)), .val (.int i2)] [(.int (i2.toInt8.toInt32)), (.int (0 : Int32)), (.ref o2)])) (fun t k => XS.i2b X0.here hx rfl (hb hby d6_30) rfl k) ?_
  obtain ⟨cl3, Ar3, q3, S3, N3n, H3, G3⟩ := id Pm1
  have hin3 : ¬ ((0 : Int32) < 0 ∨ cl3.slots.size ≤ ((0 : Int32)).toNatClampNeg) := inb_of S3 ⟨by decide, by decide⟩
  obtain ⟨T3, h3, X3, e3, W3, st3⟩ := stB X0 hx hZ e0 Ar3 (j := (0 : Int32)) hin3 (g := (mkF m 31 #[.val (.ref o1), .val (.int (0 : Int32)), .val (.ref o2), .val (.int (0 : Int32)), .val (.int (2 : Int32)), .val (.int (0 : Int32)), .val (.int i2)] [(.int (i2.toInt8.toInt32)), (.int (0 : Int32)), (.ref o2)])) rfl rfl (hb hby d6_31)
  have N3 := Fr.snoc X3 N0 gn_o2
  have K3 : Keep h0 h3 [o2] := (Keep.refl h0 [o2]).wr W3 (Or.inl (List.mem_of_getElem? (i := 0) rfl))
  have V3 : Arv Z h3 o2 kc4 .byte (2 : Int32) [(.int (nar .byte (i2.toInt8.toInt32))), (.int (0 : Int32))] (.int (0 : Int32)) := Arv.set Ar3 q3 S3 N3n H3 G3 (fits_nar_byte (i2.toInt8.toInt32)) W3 0 rfl (Nat.le_of_ble_eq_true rfl)
  refine step (T3.setTop (mkF m 32 #[.val (.ref o1), .val (.int (0 : Int32)), .val (.ref o2), .val (.int (0 : Int32)), .val (.int (2 : Int32)), .val (.int (0 : Int32)), .val (.int i2)] [])) (fun t k => st3 t k) ?_
  refine step (T3.setTop (mkF m 35 #[.val (.ref o1), .val (.int (1 : Int32)), .val (.ref o2), .val (.int (0 : Int32)), .val (.int (2 : Int32)), .val (.int (0 : Int32)), .val (.int i2)] [])) (fun t k => XS.iinc X3.here hx rfl (hb hby d6_32) rfl (l' := #[.val (.ref o1), .val (.int (1 : Int32)), .val (.ref o2), .val (.int (0 : Int32)), .val (.int (2 : Int32)), .val (.int (0 : Int32)), .val (.int i2)]) rfl k) ?_
  refine step (T3.setTop (mkF m 38 #[.val (.ref o1), .val (.int (1 : Int32)), .val (.ref o2), .val (.int (1 : Int32)), .val (.int (2 : Int32)), .val (.int (0 : Int32)), .val (.int i2)] [])) (fun t k => XS.iinc X3.here hx rfl (hb hby d6_35) rfl (l' := #[.val (.ref o1), .val (.int (1 : Int32)), .val (.ref o2), .val (.int (1 : Int32)), .val (.int (2 : Int32)), .val (.int (0 : Int32)), .val (.int i2)]) rfl k) ?_
  refine step (T3.setTop (mkF m 41 #[.val (.ref o1), .val (.int (1 : Int32)), .val (.ref o2), .val (.int (1 : Int32)), .val (.int (2 : Int32)), .val (.int (1 : Int32)), .val (.int i2)] [])) (fun t k => XS.iinc X3.here hx rfl (hb hby d6_38) rfl (l' := #[.val (.ref o1), .val (.int (1 : Int32)), .val (.ref o2), .val (.int (1 : Int32)), .val (.int (2 : Int32)), .val (.int (1 : Int32)), .val (.int i2)]) rfl k) ?_
  refine step (T3.setTop (mkF m 3 #[.val (.ref o1), .val (.int (1 : Int32)), .val (.ref o2), .val (.int (1 : Int32)), .val (.int (2 : Int32)), .val (.int (1 : Int32)), .val (.int i2)] [])) (fun t k => XS.goto X3.here hx rfl (pc0 := 41) (pc' := 3) rfl (hb hby d6_41) (by decide) (by decide) k) ?_
  refine step (T3.setTop (mkF m 5 #[.val (.ref o1), .val (.int (1 : Int32)), .val (.ref o2), .val (.int (1 : Int32)), .val (.int (2 : Int32)), .val (.int (1 : Int32)), .val (.int i2)] [(.int (1 : Int32))])) (fun t k => XS.iload X3.here hx rfl (hb hby d6_3) rfl k) ?_
  refine step (T3.setTop (mkF m 7 #[.val (.ref o1), .val (.int (1 : Int32)), .val (.ref o2), .val (.int (1 : Int32)), .val (.int (2 : Int32)), .val (.int (1 : Int32)), .val (.int i2)] [(.int (2 : Int32)), (.int (1 : Int32))])) (fun t k => XS.iload X3.here hx rfl (hb hby d6_5) rfl k) ?_
  refine step (T3.setTop (mkF m 10 #[.val (.ref o1), .val (.int (1 : Int32)), .val (.ref o2), .val (.int (1 : Int32)), .val (.int (2 : Int32)), .val (.int (1 : Int32)), .val (.int i2)] [])) (fun t k => XS.icmpNo X3.here hx rfl (hb hby d6_7) rfl (tlt (by decide : (1 : Int32) < (2 : Int32))).2.1 k) ?_
  refine step (T3.setTop (mkF m 11 #[.val (.ref o1), .val (.int (1 : Int32)), .val (.ref o2), .val (.int (1 : Int32)), .val (.int (2 : Int32)), .val (.int (1 : Int32)), .val (.int i2)] [(.ref o1)])) (fun t k => XS.aloadN X3.here hx rfl (hb hby d6_10) rfl rfl k) ?_
  refine step (T3.setTop (mkF m 12 #[.val (.ref o1), .val (.int (1 : Int32)), .val (.ref o2), .val (.int (1 : Int32)), .val (.int (2 : Int32)), .val (.int (1 : Int32)), .val (.int i2)] [(.int (1 : Int32)), (.ref o1)])) (fun t k => XS.iloadN X3.here hx rfl (hb hby d6_11) rfl k) ?_
  have f4 := (Pm0.other W3 ne_o1_o2)
  obtain ⟨cl5, Ar5, q5, S5, N5n, H5, G5⟩ := id f4
  have hin5 : ¬ ((1 : Int32) < 0 ∨ cl5.slots.size ≤ ((1 : Int32)).toNatClampNeg) := inb_of S5 ⟨by decide, by decide⟩
  have hat5 : cl5.slots[((1 : Int32)).toNatClampNeg]? = some (.int i3) := H5.at hin5 rfl
  refine step (T3.setTop (mkF m 13 #[.val (.ref o1), .val (.int (1 : Int32)), .val (.ref o2), .val (.int (1 : Int32)), .val (.int (2 : Int32)), .val (.int (1 : Int32)), .val (.int i2)] [(.int i3)])) (fun t k => X3.caload hx (j := (1 : Int32)) (v := (.int i3)) (by rw [e3]; exact Ar5.1) (State.isArrayOf_alike hZ.alike Ar5.2.1) Ar5.2.2 hin5 hat5 (g := (mkF m 12 #[.val (.ref o1), .val (.int (1 : Int32)), .val (.ref o2), .val (.int (1 : Int32)), .val (.int (2 : Int32)), .val (.int (1 : Int32)), .val (.int i2)] [(.int (1 : Int32)), (.ref o1)])) rfl rfl (hb hby d6_12) t k) ?_
  refine step (T3.setTop (mkF m 15 #[.val (.ref o1), .val (.int (1 : Int32)), .val (.ref o2), .val (.int (1 : Int32)), .val (.int (2 : Int32)), .val (.int (1 : Int32)), .val (.int i3)] [])) (fun t k => XS.istore X3.here hx rfl (hb hby d6_13) rfl (l' := #[.val (.ref o1), .val (.int (1 : Int32)), .val (.ref o2), .val (.int (1 : Int32)), .val (.int (2 : Int32)), .val (.int (1 : Int32)), .val (.int i3)]) rfl k) ?_
  refine step (T3.setTop (mkF m 17 #[.val (.ref o1), .val (.int (1 : Int32)), .val (.ref o2), .val (.int (1 : Int32)), .val (.int (2 : Int32)), .val (.int (1 : Int32)), .val (.int i3)] [(.int i3)])) (fun t k => XS.iload X3.here hx rfl (hb hby d6_15) rfl k) ?_
  refine step (T3.setTop (mkF m 20 #[.val (.ref o1), .val (.int (1 : Int32)), .val (.ref o2), .val (.int (1 : Int32)), .val (.int (2 : Int32)), .val (.int (1 : Int32)), .val (.int i3)] [(.int (255 : Int32)), (.int i3)])) (fun t k => XS.sipush X3.here hx rfl (hb hby d6_17) k) ?_
  have hc20_6 : ¬ ((255 : Int32) < i3) := hy6
  refine step (T3.setTop (mkF m 26 #[.val (.ref o1), .val (.int (1 : Int32)), .val (.ref o2), .val (.int (1 : Int32)), .val (.int (2 : Int32)), .val (.int (1 : Int32)), .val (.int i3)] [])) (fun t k => XS.icmpYes X3.here hx rfl (pc0 := 20) (pc' := 26) rfl (hb hby d6_20) rfl (flt hc20_6).2.2.2 (by decide) (by decide) k) ?_
  refine step (T3.setTop (mkF m 27 #[.val (.ref o1), .val (.int (1 : Int32)), .val (.ref o2), .val (.int (1 : Int32)), .val (.int (2 : Int32)), .val (.int (1 : Int32)), .val (.int i3)] [(.ref o2)])) (fun t k => XS.aloadN X3.here hx rfl (hb hby d6_26) rfl rfl k) ?_
  refine step (T3.setTop (mkF m 28 #[.val (.ref o1), .val (.int (1 : Int32)), .val (.ref o2), .val (.int (1 : Int32)), .val (.int (2 : Int32)), .val (.int (1 : Int32)), .val (.int i3)] [(.int (1 : Int32)), (.ref o2)])) (fun t k => XS.iloadN X3.here hx rfl (hb hby d6_27) rfl k) ?_
  refine step (T3.setTop (mkF m 30 #[.val (.ref o1), .val (.int (1 : Int32)), .val (.ref o2), .val (.int (1 : Int32)), .val (.int (2 : Int32)), .val (.int (1 : Int32)), .val (.int i3)] [(.int i3), (.int (1 : Int32)), (.ref o2)])) (fun t k => XS.iload X3.here hx rfl (hb hby d6_28) rfl k) ?_
  refine step (T3.setTop (mkF m 31 #[.val (.ref o1), .val (.int (1 : Int32)), .val (.ref o2), .val (.int (1 : Int32)), .val (.int (2 : Int32)), .val (.int (1 : Int32)), .val (.int i3)] [(.int (i3.toInt8.toInt32)), (.int (1 : Int32)), (.ref o2)])) (fun t k => XS.i2b X3.here hx rfl (hb hby d6_30) rfl k) ?_
  obtain ⟨cl7, Ar7, q7, S7, N7n, H7, G7⟩ := id V3
  have hin7 : ¬ ((1 : Int32) < 0 ∨ cl7.slots.size ≤ ((1 : Int32)).toNatClampNeg) := inb_of S7 ⟨by decide, by decide⟩
  obtain ⟨T7, h7, X7, e7, W7, st7⟩ := stB X3 hx hZ e3 Ar7 (j := (1 : Int32)) hin7 (g := (mkF m 31 #[.val (.ref o1), .val (.int (1 : Int32)), .val (.ref o2), .val (.int (1 : Int32)), .val (.int (2 : Int32)), .val (.int (1 : Int32)), .val (.int i3)] [(.int (i3.toInt8.toInt32)), (.int (1 : Int32)), (.ref o2)])) rfl rfl (hb hby d6_31)
  have N7 := Fr.snoc X7 N3 gn_o2
  have K7 : Keep h0 h7 [o2] := K3.wr W7 (Or.inl (List.mem_of_getElem? (i := 0) rfl))
  have V7 : Arv Z h7 o2 kc4 .byte (2 : Int32) [(.int (nar .byte (i2.toInt8.toInt32))), (.int (nar .byte (i3.toInt8.toInt32)))] (.int (0 : Int32)) := Arv.set Ar7 q7 S7 N7n H7 G7 (fits_nar_byte (i3.toInt8.toInt32)) W7 1 rfl (Nat.le_of_ble_eq_true rfl)
  refine step (T7.setTop (mkF m 32 #[.val (.ref o1), .val (.int (1 : Int32)), .val (.ref o2), .val (.int (1 : Int32)), .val (.int (2 : Int32)), .val (.int (1 : Int32)), .val (.int i3)] [])) (fun t k => st7 t k) ?_
  refine step (T7.setTop (mkF m 35 #[.val (.ref o1), .val (.int (2 : Int32)), .val (.ref o2), .val (.int (1 : Int32)), .val (.int (2 : Int32)), .val (.int (1 : Int32)), .val (.int i3)] [])) (fun t k => XS.iinc X7.here hx rfl (hb hby d6_32) rfl (l' := #[.val (.ref o1), .val (.int (2 : Int32)), .val (.ref o2), .val (.int (1 : Int32)), .val (.int (2 : Int32)), .val (.int (1 : Int32)), .val (.int i3)]) rfl k) ?_
  refine step (T7.setTop (mkF m 38 #[.val (.ref o1), .val (.int (2 : Int32)), .val (.ref o2), .val (.int (2 : Int32)), .val (.int (2 : Int32)), .val (.int (1 : Int32)), .val (.int i3)] [])) (fun t k => XS.iinc X7.here hx rfl (hb hby d6_35) rfl (l' := #[.val (.ref o1), .val (.int (2 : Int32)), .val (.ref o2), .val (.int (2 : Int32)), .val (.int (2 : Int32)), .val (.int (1 : Int32)), .val (.int i3)]) rfl k) ?_
  refine step (T7.setTop (mkF m 41 #[.val (.ref o1), .val (.int (2 : Int32)), .val (.ref o2), .val (.int (2 : Int32)), .val (.int (2 : Int32)), .val (.int (2 : Int32)), .val (.int i3)] [])) (fun t k => XS.iinc X7.here hx rfl (hb hby d6_38) rfl (l' := #[.val (.ref o1), .val (.int (2 : Int32)), .val (.ref o2), .val (.int (2 : Int32)), .val (.int (2 : Int32)), .val (.int (2 : Int32)), .val (.int i3)]) rfl k) ?_
  refine step (T7.setTop (mkF m 3 #[.val (.ref o1), .val (.int (2 : Int32)), .val (.ref o2), .val (.int (2 : Int32)), .val (.int (2 : Int32)), .val (.int (2 : Int32)), .val (.int i3)] [])) (fun t k => XS.goto X7.here hx rfl (pc0 := 41) (pc' := 3) rfl (hb hby d6_41) (by decide) (by decide) k) ?_
  refine step (T7.setTop (mkF m 5 #[.val (.ref o1), .val (.int (2 : Int32)), .val (.ref o2), .val (.int (2 : Int32)), .val (.int (2 : Int32)), .val (.int (2 : Int32)), .val (.int i3)] [(.int (2 : Int32))])) (fun t k => XS.iload X7.here hx rfl (hb hby d6_3) rfl k) ?_
  refine step (T7.setTop (mkF m 7 #[.val (.ref o1), .val (.int (2 : Int32)), .val (.ref o2), .val (.int (2 : Int32)), .val (.int (2 : Int32)), .val (.int (2 : Int32)), .val (.int i3)] [(.int (2 : Int32)), (.int (2 : Int32))])) (fun t k => XS.iload X7.here hx rfl (hb hby d6_5) rfl k) ?_
  refine step (T7.setTop (mkF m 44 #[.val (.ref o1), .val (.int (2 : Int32)), .val (.ref o2), .val (.int (2 : Int32)), .val (.int (2 : Int32)), .val (.int (2 : Int32)), .val (.int i3)] [])) (fun t k => XS.icmpYes X7.here hx rfl (pc0 := 7) (pc' := 44) rfl (hb hby d6_7) rfl (flt (by decide : ¬ ((2 : Int32) < (2 : Int32)))).2.1 (by decide) (by decide) k) ?_
  refine step (T7.setTop (mkF m 46 #[.val (.ref o1), .val (.int (2 : Int32)), .val (.ref o2), .val (.int (2 : Int32)), .val (.int (2 : Int32)), .val (.int (2 : Int32)), .val (.int i3)] [(.int (2 : Int32))])) (fun t k => XS.iload X7.here hx rfl (hb hby d6_44) rfl k) ?_
  refine fin (v := some (.int (2 : Int32))) X7 (fun h => by cases h) ?_ (by decide) (by decide) (fun fs hr => retI X7 hx hret (hb hby d6_46) hr)
  show Q6_9 Z o1 o2 kc1 i2 i3 kc4 h0 n0 (some (.int (2 : Int32))) T7.heap _
  rw [e7]
  exact ⟨rfl, N7, K7, V7⟩
theorem ef_5_8 (m : MethodId) (x0 : Addr) : entryFrame m #[(.ref x0), (.int (0 : Int32)), (.int (2 : Int32))] 6 = mkF m 0 #[.val (.ref x0), .val (.int (0 : Int32)), .val (.int (2 : Int32)), .unset, .unset, .unset] [] := by first | (simp [entryFrame, mkF, argsToLocals, Value.category]; done) | rfl
def Q5_8 (Z : State) (o1 : Addr) (kc1 : ClassId) (i2 : Int32) (i3 : Int32) (h0 : Heap) (n0 : Nat) (v : Option Value) (h : Heap) (L : List Loc) : Prop := ∃ (b1 : Addr) (k1 : ClassId), v = some (.ref b1) ∧ Fr n0 L ∧ Keep h0 h [] ∧ h0.size ≤ b1 ∧ Arv Z h b1 k1 .byte (2 : Int32) [(.int (nar .byte (i2.toInt8.toInt32))), (.int (nar .byte (i3.toInt8.toInt32)))] (.int (0 : Int32))
set_option maxRecDepth 65536 in
set_option maxHeartbeats 40000000 in
theorem rm5_8 (l : Launch) (Z : State) (a0 : Array Value) (hw : ∀ d ∈ tables_1, d.before a0 Z = true) (ws : List Jvm.Cond) (o1 : Addr) (kc1 : ClassId) (i2 : Int32) (i3 : Int32) (h0 : Heap) (n0 : Nat) (Z0 : n0 ≤ h0.size) (Pm0 : Arv Z h0 o1 kc1 .char (2 : Int32) [(.int i2), (.int i3)] (.int (0 : Int32))) (gn_o1 : n0 ≤ o1) (hy2 : ¬ ((255 : Int32) < i2)) (hy3 : ¬ ((255 : Int32) < i3))  :
    MetFree l (⟨"java/lang/StringUTF16", "compress", "([CII)[B"⟩ : MethodName) (head1 (Jvm.Cond.code (⟨"java/lang/StringUTF16", "compress", "([CII)[B"⟩ : MethodName) jdk_52_method_16_code 6 (some (.array .byte)) :: ws) ({ frames := 1, cells := 1, slots := 2, locals := 18 } : Room)) (fun a U => a = #[(.ref o1), (.int (0 : Int32)), (.int (2 : Int32))] ∧ Z.Warmed39 U.vm ∧ U.heap = h0) (fun _ _ _ _ _ => True) (fun _ U o U' => ∃ v L, o = .returned v ∧ Q5_8 Z o1 kc1 i2 i3 h0 n0 v U'.heap L ∧ FrameEnd U o U' L ({ frames := 1, cells := 1, slots := 2, locals := 18 } : Room).cells ({ frames := 1, cells := 1, slots := 2, locals := 18 } : Room).slots) := by
  refine own_body (plainFor_of_name pn_2) ?_
  intro p e s m below meth c s₁ G hx hby hml hZ hown hnm hret X0 e0 step fin
  replace hown : s.vm.findClass "java/lang/StringUTF16" = some m.cls := hown
  replace hnm : meth.name = "compress" := hnm
  replace hret : meth.sig.returnType = some (.array .byte) := hret
  replace hml : c.maxLocals = 6 := hml
  have N0 := Fr.nil n0
  refine step (s₁.setTop (mkF m 0 #[.val (.ref o1), .val (.int (0 : Int32)), .val (.int (2 : Int32)), .unset, .unset, .unset] [])) (fun t k => castTop (ef_5_8 m o1) k) ?_
  refine step (s₁.setTop (mkF m 1 #[.val (.ref o1), .val (.int (0 : Int32)), .val (.int (2 : Int32)), .unset, .unset, .unset] [(.int (2 : Int32))])) (fun t k => XS.iloadN X0.here hx rfl (hb hby d5_0) rfl k) ?_
  obtain ⟨T1, h1, k1, X1, e1, E1, A1, st1⟩ := newP X0 hx hZ (hw _ (List.mem_of_getElem? (i := 26) rfl)) e0 (g := (mkF m 1 #[.val (.ref o1), .val (.int (0 : Int32)), .val (.int (2 : Int32)), .unset, .unset, .unset] [(.int (2 : Int32))])) rfl (hb hby d5_1) rfl (by decide) (cap := 2) (by decide) (by decide) (by decide) (by decide)
  obtain ⟨b1, g1⟩ : ∃ z, z = h0.size := ⟨_, rfl⟩
  rw [← g1] at A1 st1
  have ne_o1_b1 : o1 ≠ b1 := Nat.ne_of_lt (Nat.lt_of_lt_of_le Pm0.lt (Nat.le_of_eq g1.symm))
  have gn_b1 : n0 ≤ b1 := Nat.le_trans Z0 (Nat.le_of_eq g1.symm)
  have sz_b1 : h0.size ≤ b1 := Nat.le_of_eq g1.symm
  have K1 : Keep h0 h1 [] := (Keep.refl h0 []).ext E1
  have V1 : Arv Z h1 b1 k1 .byte (2 : Int32) [(.int (0 : Int32)), (.int (0 : Int32))] (.int (0 : Int32)) := (Arv.new A1 (by decide)).pad (pad_rep [] (.int (0 : Int32)) 2)
  refine step (T1.setTop (mkF m 3 #[.val (.ref o1), .val (.int (0 : Int32)), .val (.int (2 : Int32)), .unset, .unset, .unset] [(.ref b1)])) (fun t k => st1 t k) ?_
  refine step (T1.setTop (mkF m 4 #[.val (.ref o1), .val (.int (0 : Int32)), .val (.int (2 : Int32)), .val (.ref b1), .unset, .unset] [])) (fun t k => XS.astoreN X1.here hx rfl (hb hby d5_3) rfl rfl (l' := #[.val (.ref o1), .val (.int (0 : Int32)), .val (.int (2 : Int32)), .val (.ref b1), .unset, .unset]) rfl k) ?_
  refine step (T1.setTop (mkF m 5 #[.val (.ref o1), .val (.int (0 : Int32)), .val (.int (2 : Int32)), .val (.ref b1), .unset, .unset] [(.ref o1)])) (fun t k => XS.aloadN X1.here hx rfl (hb hby d5_4) rfl rfl k) ?_
  refine step (T1.setTop (mkF m 6 #[.val (.ref o1), .val (.int (0 : Int32)), .val (.int (2 : Int32)), .val (.ref b1), .unset, .unset] [(.int (0 : Int32)), (.ref o1)])) (fun t k => XS.iloadN X1.here hx rfl (hb hby d5_5) rfl k) ?_
  refine step (T1.setTop (mkF m 7 #[.val (.ref o1), .val (.int (0 : Int32)), .val (.int (2 : Int32)), .val (.ref b1), .unset, .unset] [(.ref b1), (.int (0 : Int32)), (.ref o1)])) (fun t k => XS.aloadN X1.here hx rfl (hb hby d5_6) rfl rfl k) ?_
  refine step (T1.setTop (mkF m 8 #[.val (.ref o1), .val (.int (0 : Int32)), .val (.int (2 : Int32)), .val (.ref b1), .unset, .unset] [(.int (0 : Int32)), (.ref b1), (.int (0 : Int32)), (.ref o1)])) (fun t k => XS.iconst X1.here hx rfl (hb hby d5_7) k) ?_
  refine step (T1.setTop (mkF m 9 #[.val (.ref o1), .val (.int (0 : Int32)), .val (.int (2 : Int32)), .val (.ref b1), .unset, .unset] [(.int (2 : Int32)), (.int (0 : Int32)), (.ref b1), (.int (0 : Int32)), (.ref o1)])) (fun t k => XS.iloadN X1.here hx rfl (hb hby d5_8) rfl k) ?_
  have f2 := (Pm0.ext E1)
  obtain ⟨_, _, ⟨T3, L3, k3, n3⟩, -, X3, ⟨Lc3, hQ3, l3, y3, z3⟩, st3⟩ := Jvm.LawKit.callS X1 hx (y := (⟨"java/lang/StringUTF16", "compress", "([CI[BII)I"⟩ : MethodName)) hown (mvT hZ (hw _ (List.mem_of_getElem? (i := 27) rfl))) (mvT hZ (hw _ (List.mem_of_getElem? (i := 28) rfl))) (mvT hZ (hw _ (List.mem_of_getElem? (i := 24) rfl))) (mvT hZ (hw _ (List.mem_of_getElem? (i := 29) rfl))) (by decide) (backOf (W := 0) (rm6_9 l Z a0 hw [] o1 b1 kc1 i2 i3 k1 h1 n0 (Nat.le_trans Z0 K1.1) f2 V1 gn_o1 ne_o1_b1 gn_b1 hy2 hy3) hZ (hw _ (List.mem_of_getElem? (i := 29) rfl)) (hw _ (List.mem_of_getElem? (i := 24) rfl)) (by decide) (by decide)) (g := (mkF m 9 #[.val (.ref o1), .val (.int (0 : Int32)), .val (.int (2 : Int32)), .val (.ref b1), .unset, .unset] [(.int (2 : Int32)), (.int (0 : Int32)), (.ref b1), (.int (0 : Int32)), (.ref o1)])) rfl (by rw [hml]; rfl) (argsL := [(.ref o1), (.int (0 : Int32)), (.ref b1), (.int (0 : Int32)), (.int (2 : Int32))]) (rest := []) (lenOf pd_5 rfl) rfl (by show 2 * 0 + _ ≤ _; exact Nat.le_of_eq rfl) (hb hby d5_9) (fun _ _ => ⟨rfl, e1, (by decide : 1 + 0 ≤ _), (by decide : 2 + 0 ≤ _)⟩)
  dsimp only [Pt.U, Pt.locs, Pt.cells, Pt.slots] at X3 l3 y3 z3 st3 hQ3
  subst l3 y3 z3
  obtain ⟨h3, e3⟩ : ∃ z, T3.heap = z := ⟨_, rfl⟩
  rw [e3] at hQ3
  obtain ⟨rfl, N3q, K3q, q0_3⟩ := hQ3
  have N3 := Fr.app N0 N3q
  have K3 : Keep h0 h3 [] := K1.trans K3q (allS (Or.inr sz_b1) all0)
  refine step (T3.setTop (mkF m 12 #[.val (.ref o1), .val (.int (0 : Int32)), .val (.int (2 : Int32)), .val (.ref b1), .unset, .unset] [(.int (2 : Int32))])) (fun t k => st3 t k) ?_
  refine step (T3.setTop (mkF m 14 #[.val (.ref o1), .val (.int (0 : Int32)), .val (.int (2 : Int32)), .val (.ref b1), .val (.int (2 : Int32)), .unset] [])) (fun t k => XS.istore X3.here hx rfl (hb hby d5_12) rfl (l' := #[.val (.ref o1), .val (.int (0 : Int32)), .val (.int (2 : Int32)), .val (.ref b1), .val (.int (2 : Int32)), .unset]) rfl k) ?_
  refine step (T3.setTop (mkF m 16 #[.val (.ref o1), .val (.int (0 : Int32)), .val (.int (2 : Int32)), .val (.ref b1), .val (.int (2 : Int32)), .unset] [(.int (2 : Int32))])) (fun t k => XS.iload X3.here hx rfl (hb hby d5_14) rfl k) ?_
  refine step (T3.setTop (mkF m 17 #[.val (.ref o1), .val (.int (0 : Int32)), .val (.int (2 : Int32)), .val (.ref b1), .val (.int (2 : Int32)), .unset] [(.int (2 : Int32)), (.int (2 : Int32))])) (fun t k => XS.iloadN X3.here hx rfl (hb hby d5_16) rfl k) ?_
  refine step (T3.setTop (mkF m 57 #[.val (.ref o1), .val (.int (0 : Int32)), .val (.int (2 : Int32)), .val (.ref b1), .val (.int (2 : Int32)), .unset] [])) (fun t k => XS.icmpYes X3.here hx rfl (pc0 := 17) (pc' := 57) rfl (hb hby d5_17) rfl (teq (by decide : (2 : Int32) = (2 : Int32))).1 (by decide) (by decide) k) ?_
  refine step (T3.setTop (mkF m 58 #[.val (.ref o1), .val (.int (0 : Int32)), .val (.int (2 : Int32)), .val (.ref b1), .val (.int (2 : Int32)), .unset] [(.ref b1)])) (fun t k => XS.aloadN X3.here hx rfl (hb hby d5_57) rfl rfl k) ?_
  refine fin (v := some (.ref b1)) X3 (fun h => by cases h) ?_ (by decide) (by decide) (fun fs hr => X3.areturnOut hx rfl hret rfl (hb hby d5_58) hr)
  show Q5_8 Z o1 kc1 i2 i3 h0 n0 (some (.ref b1)) T3.heap _
  rw [e3]
  exact ⟨b1, k1, rfl, N3, K3, sz_b1, q0_3⟩
theorem ef_7_10 (m : MethodId) (x0 : Addr) : entryFrame m #[(.ref x0), (.int (2 : Int32))] 2 = mkF m 0 #[.val (.ref x0), .val (.int (2 : Int32))] [] := by first | (simp [entryFrame, mkF, argsToLocals, Value.category]; done) | rfl
def Q7_10 (Z : State) (o1 : Addr) (kc1 : ClassId) (i2 : Int32) (i3 : Int32) (h0 : Heap) (n0 : Nat) (v : Option Value) (h : Heap) (L : List Loc) : Prop := v = some (.int (0 : Int32)) ∧ Fr n0 L ∧ h = h0
set_option maxRecDepth 65536 in
set_option maxHeartbeats 40000000 in
theorem rm7_10 (l : Launch) (Z : State) (a0 : Array Value) (hw : ∀ d ∈ tables_1, d.before a0 Z = true) (ws : List Jvm.Cond) (o1 : Addr) (kc1 : ClassId) (i2 : Int32) (i3 : Int32) (h0 : Heap) (n0 : Nat) (Z0 : n0 ≤ h0.size) (Pm0 : Arv Z h0 o1 kc1 .byte (2 : Int32) [(.int i2), (.int i3)] (.int (0 : Int32))) (gn_o1 : n0 ≤ o1)  :
    MetFree l (⟨"java/lang/StringUTF16", "coderFromArrayLen", "([BI)B"⟩ : MethodName) (head1 (Jvm.Cond.code (⟨"java/lang/StringUTF16", "coderFromArrayLen", "([BI)B"⟩ : MethodName) jdk_52_method_15_code 2 (some .byte) :: ws) ({ frames := 0, cells := 0, slots := 0, locals := 0 } : Room)) (fun a U => a = #[(.ref o1), (.int (2 : Int32))] ∧ Z.Warmed39 U.vm ∧ U.heap = h0) (fun _ _ _ _ _ => True) (fun _ U o U' => ∃ v L, o = .returned v ∧ Q7_10 Z o1 kc1 i2 i3 h0 n0 v U'.heap L ∧ FrameEnd U o U' L ({ frames := 0, cells := 0, slots := 0, locals := 0 } : Room).cells ({ frames := 0, cells := 0, slots := 0, locals := 0 } : Room).slots) := by
  refine own_body (plainFor_of_name pn_2) ?_
  intro p e s m below meth c s₁ G hx hby hml hZ hown hnm hret X0 e0 step fin
  replace hown : s.vm.findClass "java/lang/StringUTF16" = some m.cls := hown
  replace hnm : meth.name = "coderFromArrayLen" := hnm
  replace hret : meth.sig.returnType = some .byte := hret
  replace hml : c.maxLocals = 2 := hml
  have N0 := Fr.nil n0
  refine step (s₁.setTop (mkF m 0 #[.val (.ref o1), .val (.int (2 : Int32))] [])) (fun t k => castTop (ef_7_10 m o1) k) ?_
  refine step (s₁.setTop (mkF m 1 #[.val (.ref o1), .val (.int (2 : Int32))] [(.int (2 : Int32))])) (fun t k => XS.iloadN X0.here hx rfl (hb hby d7_0) rfl k) ?_
  refine step (s₁.setTop (mkF m 2 #[.val (.ref o1), .val (.int (2 : Int32))] [(.ref o1), (.int (2 : Int32))])) (fun t k => XS.aloadN X0.here hx rfl (hb hby d7_1) rfl rfl k) ?_
  obtain ⟨cl1, Ar1, q1, S1, N1n, H1, G1⟩ := id Pm0
  refine step (s₁.setTop (mkF m 3 #[.val (.ref o1), .val (.int (2 : Int32))] [(.int (2 : Int32)), (.int (2 : Int32))])) (fun t k => X0.arraylength hx (by rw [e0]; exact Ar1.1) (State.isArrayOf_alike hZ.alike Ar1.2.1) (g := (mkF m 2 #[.val (.ref o1), .val (.int (2 : Int32))] [(.ref o1), (.int (2 : Int32))])) rfl rfl (hb hby d7_2) t (by rw [len_of S1 N1n]; exact k)) ?_
  refine step (s₁.setTop (mkF m 4 #[.val (.ref o1), .val (.int (2 : Int32))] [(.int (0 : Int32))])) (fun t k => XS.isub X0.here hx rfl (hb hby d7_3) rfl k) ?_
  refine step (s₁.setTop (mkF m 6 #[.val (.ref o1), .val (.int (2 : Int32))] [(.int (31 : Int32)), (.int (0 : Int32))])) (fun t k => XS.bipush X0.here hx rfl (hb hby d7_4) k) ?_
  refine step (s₁.setTop (mkF m 7 #[.val (.ref o1), .val (.int (2 : Int32))] [(.int (0 : Int32))])) (fun t k => XS.iushr X0.here hx rfl (hb hby d7_6) rfl k) ?_
  refine step (s₁.setTop (mkF m 8 #[.val (.ref o1), .val (.int (2 : Int32))] [(.int (0 : Int32))])) (fun t k => XS.i2b X0.here hx rfl (hb hby d7_7) rfl k) ?_
  refine fin (v := some (.int (nar .byte (0 : Int32)))) X0 (fun h => by cases h) ?_ (by decide) (by decide) (fun fs hr => retN X0 hx (t := .byte) hret (by simp) (hb hby d7_8) hr)
  show Q7_10 Z o1 kc1 i2 i3 h0 n0 (some (.int (nar .byte (0 : Int32)))) s₁.heap _
  rw [e0]
  exact ⟨rfl, N0, rfl⟩
theorem ef_3_7 (m : MethodId) (x0 : Addr) (x1 : Addr) : entryFrame m #[(.ref x0), (.ref x1), (.int (0 : Int32)), (.int (2 : Int32)), .null] 6 = mkF m 0 #[.val (.ref x0), .val (.ref x1), .val (.int (0 : Int32)), .val (.int (2 : Int32)), .val .null, .unset] [] := by first | (simp [entryFrame, mkF, argsToLocals, Value.category]; done) | rfl
def Q3_7 (Z : State) (o1 : Addr) (o2 : Addr) (i1 : Int32) (kc2 : ClassId) (i3 : Int32) (i4 : Int32) (h0 : Heap) (n0 : Nat) (v : Option Value) (h : Heap) (L : List Loc) : Prop := ∃ (b1_4 : Addr) (k1_4 : ClassId), v = none ∧ Fr n0 L ∧ Keep h0 h [o1] ∧ h0.size ≤ b1_4 ∧ Fld Z h o1 "java/lang/String" "coder" "B" (.int (0 : Int32)) ∧ Fld Z h o1 "java/lang/String" "value" "[B" (.ref b1_4) ∧ Arv Z h b1_4 k1_4 .byte (2 : Int32) [(.int (nar .byte (i3.toInt8.toInt32))), (.int (nar .byte (i4.toInt8.toInt32)))] (.int (0 : Int32))
set_option maxRecDepth 65536 in
set_option maxHeartbeats 40000000 in
theorem rm3_7 (l : Launch) (Z : State) (a0 : Array Value) (hw : ∀ d ∈ tables_1, d.before a0 Z = true) (ws : List Jvm.Cond) (o1 : Addr) (o2 : Addr) (i1 : Int32) (kc2 : ClassId) (i3 : Int32) (i4 : Int32) (h0 : Heap) (n0 : Nat) (Z0 : n0 ≤ h0.size) (S0 : Sta Z h0 "java/lang/String" "COMPACT_STRINGS" "Z" (.int i1)) (Pm1 : Exa Z h0 o1 "java/lang/String") (Pm2 : Fld Z h0 o1 "java/lang/String" "coder" "B" (.int (0 : Int32))) (Pm3 : Fld Z h0 o1 "java/lang/String" "value" "[B" .null) (Pm4 : Arv Z h0 o2 kc2 .char (2 : Int32) [(.int i3), (.int i4)] (.int (0 : Int32))) (gn_o1 : n0 ≤ o1) (ne_o1_o2 : o1 ≠ o2) (gn_o2 : n0 ≤ o2) (hy8 : ¬ ((255 : Int32) < i3)) (hy9 : ¬ ((255 : Int32) < i4)) (hy10 : ¬ (i1 = (0 : Int32)))  :
    MetFree l (⟨"java/lang/String", "<init>", "([CIILjava/lang/Void;)V"⟩ : MethodName) (head1 (Jvm.Cond.code (⟨"java/lang/String", "<init>", "([CIILjava/lang/Void;)V"⟩ : MethodName) jdk_42_method_149_code 6 none :: ws) ({ frames := 2, cells := 1, slots := 2, locals := 35 } : Room)) (fun a U => a = #[(.ref o1), (.ref o2), (.int (0 : Int32)), (.int (2 : Int32)), .null] ∧ Z.Warmed39 U.vm ∧ U.heap = h0) (fun _ _ _ _ _ => True) (fun _ U o U' => ∃ v L, o = .returned v ∧ Q3_7 Z o1 o2 i1 kc2 i3 i4 h0 n0 v U'.heap L ∧ FrameEnd U o U' L ({ frames := 2, cells := 1, slots := 2, locals := 35 } : Room).cells ({ frames := 2, cells := 1, slots := 2, locals := 35 } : Room).slots) := by
  refine own_body (plainFor_of_name pn_1) ?_
  intro p e s m below meth c s₁ G hx hby hml hZ hown hnm hret X0 e0 step fin
  replace hown : s.vm.findClass "java/lang/String" = some m.cls := hown
  replace hnm : meth.name = "<init>" := hnm
  replace hret : meth.sig.returnType = none := hret
  replace hml : c.maxLocals = 6 := hml
  have N0 := Fr.nil n0
  refine step (s₁.setTop (mkF m 0 #[.val (.ref o1), .val (.ref o2), .val (.int (0 : Int32)), .val (.int (2 : Int32)), .val .null, .unset] [])) (fun t k => castTop (ef_3_7 m o1 o2) k) ?_
  refine step (s₁.setTop (mkF m 1 #[.val (.ref o1), .val (.ref o2), .val (.int (0 : Int32)), .val (.int (2 : Int32)), .val .null, .unset] [(.ref o1)])) (fun t k => XS.aloadN X0.here hx rfl (hb hby d3_0) rfl rfl k) ?_
  obtain ⟨T1, X1, e1, st1⟩ := initO X0 hx hZ hown (hw _ (List.mem_of_getElem? (i := 18) rfl)) (hw _ (List.mem_of_getElem? (i := 19) rfl)) (hw _ (List.mem_of_getElem? (i := 20) rfl)) e0 (g := (mkF m 1 #[.val (.ref o1), .val (.ref o2), .val (.int (0 : Int32)), .val (.int (2 : Int32)), .val .null, .unset] [(.ref o1)])) rfl (by rw [hml]; rfl) rfl (hb hby d3_1) (by decide) (W := 0) (by show 2 * 0 + _ ≤ _; exact Nat.le_of_eq rfl) (by decide)
  refine step (T1.setTop (mkF m 4 #[.val (.ref o1), .val (.ref o2), .val (.int (0 : Int32)), .val (.int (2 : Int32)), .val .null, .unset] [])) (fun t k => st1 t k) ?_
  refine step (T1.setTop (mkF m 5 #[.val (.ref o1), .val (.ref o2), .val (.int (0 : Int32)), .val (.int (2 : Int32)), .val .null, .unset] [(.int (2 : Int32))])) (fun t k => XS.iloadN X1.here hx rfl (hb hby d3_4) rfl k) ?_
  refine step (T1.setTop (mkF m 27 #[.val (.ref o1), .val (.ref o2), .val (.int (0 : Int32)), .val (.int (2 : Int32)), .val .null, .unset] [])) (fun t k => XS.ifYes X1.here hx rfl (pc0 := 5) (pc' := 27) rfl (hb hby d3_5) rfl ((if0 _ _).trans (feq (by decide : ¬ ((2 : Int32) = (0 : Int32)))).2) (by decide) (by decide) k) ?_
  obtain ⟨T2, X2, e2, st2⟩ := getS2 X1 hx hZ hown (host := "") (Or.inl (hw _ (List.mem_of_getElem? (i := 21) rfl))) Via.refl e1 S0 (g := (mkF m 27 #[.val (.ref o1), .val (.ref o2), .val (.int (0 : Int32)), .val (.int (2 : Int32)), .val .null, .unset] [])) rfl (hb hby d3_27)
  refine step (T2.setTop (mkF m 30 #[.val (.ref o1), .val (.ref o2), .val (.int (0 : Int32)), .val (.int (2 : Int32)), .val .null, .unset] [(.int i1)])) (fun t k => st2 t k) ?_
  have hc30_3 : ¬ (i1 = (0 : Int32)) := hy10
  refine step (T2.setTop (mkF m 33 #[.val (.ref o1), .val (.ref o2), .val (.int (0 : Int32)), .val (.int (2 : Int32)), .val .null, .unset] [])) (fun t k => XS.ifNo X2.here hx rfl (hb hby d3_30) rfl ((if0 _ _).trans (feq hc30_3).1) k) ?_
  refine step (T2.setTop (mkF m 34 #[.val (.ref o1), .val (.ref o2), .val (.int (0 : Int32)), .val (.int (2 : Int32)), .val .null, .unset] [(.ref o2)])) (fun t k => XS.aloadN X2.here hx rfl (hb hby d3_33) rfl rfl k) ?_
  refine step (T2.setTop (mkF m 35 #[.val (.ref o1), .val (.ref o2), .val (.int (0 : Int32)), .val (.int (2 : Int32)), .val .null, .unset] [(.int (0 : Int32)), (.ref o2)])) (fun t k => XS.iloadN X2.here hx rfl (hb hby d3_34) rfl k) ?_
  refine step (T2.setTop (mkF m 36 #[.val (.ref o1), .val (.ref o2), .val (.int (0 : Int32)), .val (.int (2 : Int32)), .val .null, .unset] [(.int (2 : Int32)), (.int (0 : Int32)), (.ref o2)])) (fun t k => XS.iloadN X2.here hx rfl (hb hby d3_35) rfl k) ?_
  obtain ⟨_, _, ⟨T4, L4, k4, n4⟩, -, X4, ⟨Lc4, hQ4, l4, y4, z4⟩, st4⟩ := Jvm.LawKit.callS X2 hx (y := (⟨"java/lang/StringUTF16", "compress", "([CII)[B"⟩ : MethodName)) hown (mvT hZ (hw _ (List.mem_of_getElem? (i := 22) rfl))) (mvT hZ (hw _ (List.mem_of_getElem? (i := 23) rfl))) (mvT hZ (hw _ (List.mem_of_getElem? (i := 24) rfl))) (mvT hZ (hw _ (List.mem_of_getElem? (i := 25) rfl))) (by decide) (backOf (W := 0) (rm5_8 l Z a0 hw [] o2 kc2 i3 i4 h0 n0 Z0 Pm4 gn_o2 hy8 hy9) hZ (hw _ (List.mem_of_getElem? (i := 25) rfl)) (hw _ (List.mem_of_getElem? (i := 24) rfl)) (by decide) (by decide)) (g := (mkF m 36 #[.val (.ref o1), .val (.ref o2), .val (.int (0 : Int32)), .val (.int (2 : Int32)), .val .null, .unset] [(.int (2 : Int32)), (.int (0 : Int32)), (.ref o2)])) rfl (by rw [hml]; rfl) (argsL := [(.ref o2), (.int (0 : Int32)), (.int (2 : Int32))]) (rest := []) (lenOf pd_3 rfl) rfl (by show 2 * 0 + _ ≤ _; exact Nat.le_of_eq rfl) (hb hby d3_36) (fun _ _ => ⟨rfl, e2, (by decide : 0 + 1 ≤ _), (by decide : 0 + 2 ≤ _)⟩)
  dsimp only [Pt.U, Pt.locs, Pt.cells, Pt.slots] at X4 l4 y4 z4 st4 hQ4
  subst l4 y4 z4
  obtain ⟨h4, e4⟩ : ∃ z, T4.heap = z := ⟨_, rfl⟩
  rw [e4] at hQ4
  obtain ⟨b1_4, k1_4, rfl, N4q, K4q, sz_b1_4, q0_4⟩ := hQ4
  have N4 := Fr.app N0 N4q
  have lt4_o1 := Pm1.lt
  have lt4_o2 := Pm4.lt
  have ne_o1_b1_4 : o1 ≠ b1_4 := Nat.ne_of_lt (Nat.lt_of_lt_of_le lt4_o1 sz_b1_4)
  have ne_o2_b1_4 : o2 ≠ b1_4 := Nat.ne_of_lt (Nat.lt_of_lt_of_le lt4_o2 sz_b1_4)
  have gn_b1_4 : n0 ≤ b1_4 := Nat.le_trans Z0 sz_b1_4
  have K4 : Keep h0 h4 [o1] := (Keep.refl h0 [o1]).trans K4q all0
  have f5 := own_staK S0 K4q all0
  refine step (T4.setTop (mkF m 39 #[.val (.ref o1), .val (.ref o2), .val (.int (0 : Int32)), .val (.int (2 : Int32)), .val .null, .unset] [(.ref b1_4)])) (fun t k => st4 t k) ?_
  refine step (T4.setTop (mkF m 41 #[.val (.ref o1), .val (.ref o2), .val (.int (0 : Int32)), .val (.int (2 : Int32)), .val .null, .val (.ref b1_4)] [])) (fun t k => XS.astore X4.here hx rfl (hb hby d3_39) rfl rfl (l' := #[.val (.ref o1), .val (.ref o2), .val (.int (0 : Int32)), .val (.int (2 : Int32)), .val .null, .val (.ref b1_4)]) rfl k) ?_
  refine step (T4.setTop (mkF m 42 #[.val (.ref o1), .val (.ref o2), .val (.int (0 : Int32)), .val (.int (2 : Int32)), .val .null, .val (.ref b1_4)] [(.ref o1)])) (fun t k => XS.aloadN X4.here hx rfl (hb hby d3_41) rfl rfl k) ?_
  refine step (T4.setTop (mkF m 44 #[.val (.ref o1), .val (.ref o2), .val (.int (0 : Int32)), .val (.int (2 : Int32)), .val .null, .val (.ref b1_4)] [(.ref b1_4), (.ref o1)])) (fun t k => XS.aload X4.here hx rfl (hb hby d3_42) rfl rfl k) ?_
  refine step (T4.setTop (mkF m 45 #[.val (.ref o1), .val (.ref o2), .val (.int (0 : Int32)), .val (.int (2 : Int32)), .val .null, .val (.ref b1_4)] [(.int (2 : Int32)), (.ref b1_4), (.ref o1)])) (fun t k => XS.iloadN X4.here hx rfl (hb hby d3_44) rfl k) ?_
  obtain ⟨_, _, ⟨T6, L6, k6, n6⟩, -, X6, ⟨Lc6, hQ6, l6, y6, z6⟩, st6⟩ := Jvm.LawKit.callS X4 hx (y := (⟨"java/lang/StringUTF16", "coderFromArrayLen", "([BI)B"⟩ : MethodName)) hown (mvT hZ (hw _ (List.mem_of_getElem? (i := 30) rfl))) (mvT hZ (hw _ (List.mem_of_getElem? (i := 31) rfl))) (mvT hZ (hw _ (List.mem_of_getElem? (i := 24) rfl))) (mvT hZ (hw _ (List.mem_of_getElem? (i := 32) rfl))) (by decide) (backOf (W := 1) (rm7_10 l Z a0 hw [] b1_4 k1_4 (nar .byte (i3.toInt8.toInt32)) (nar .byte (i4.toInt8.toInt32)) h4 n0 (Nat.le_trans Z0 K4.1) q0_4 gn_b1_4) hZ (hw _ (List.mem_of_getElem? (i := 32) rfl)) (hw _ (List.mem_of_getElem? (i := 24) rfl)) (by decide) (by decide)) (g := (mkF m 45 #[.val (.ref o1), .val (.ref o2), .val (.int (0 : Int32)), .val (.int (2 : Int32)), .val .null, .val (.ref b1_4)] [(.int (2 : Int32)), (.ref b1_4), (.ref o1)])) rfl (by rw [hml]; rfl) (argsL := [(.ref b1_4), (.int (2 : Int32))]) (rest := [(.ref o1)]) (lenOf pd_4 rfl) rfl (by show 2 * 0 + _ ≤ _; exact Nat.le_of_eq rfl) (hb hby d3_45) (fun _ _ => ⟨rfl, e4, (by decide : 1 + 0 ≤ _), (by decide : 2 + 0 ≤ _)⟩)
  dsimp only [Pt.U, Pt.locs, Pt.cells, Pt.slots] at X6 l6 y6 z6 st6 hQ6
  subst l6 y6 z6
  obtain ⟨rfl, N6q, e6q⟩ := hQ6
  have N6 := Fr.app N4 N6q
  refine step (T6.setTop (mkF m 48 #[.val (.ref o1), .val (.ref o2), .val (.int (0 : Int32)), .val (.int (2 : Int32)), .val .null, .val (.ref b1_4)] [(.int (0 : Int32)), (.ref o1)])) (fun t k => st6 t k) ?_
  have f7 := (Pm1.keep K4q)
  have f8 := (Pm2.keep K4q nin0)
  obtain ⟨T9, h9, X9, e9, W9, st9⟩ := putFN X6 hx hZ hown (hw _ (List.mem_of_getElem? (i := 33) rfl)) Via.refl e6q f8 f7 (Or.inr ⟨(hw _ (List.mem_of_getElem? (i := 34) rfl)), rfl, hnm⟩) (hw _ (List.mem_of_getElem? (i := 8) rfl)) (ty := .byte) (v' := (.int (0 : Int32))) (by decide) rfl (fits_nar_byte (0 : Int32)) (g := (mkF m 48 #[.val (.ref o1), .val (.ref o2), .val (.int (0 : Int32)), .val (.int (2 : Int32)), .val .null, .val (.ref b1_4)] [(.int (0 : Int32)), (.ref o1)])) rfl rfl (hb hby d3_48)
  have N9 := Fr.snoc X9 N6 gn_o1
  have K9 : Keep h0 h9 [o1] := K4.wr W9 (Or.inl (List.mem_of_getElem? (i := 0) rfl))
  have F9 := f8.same W9
  refine step (T9.setTop (mkF m 51 #[.val (.ref o1), .val (.ref o2), .val (.int (0 : Int32)), .val (.int (2 : Int32)), .val .null, .val (.ref b1_4)] [])) (fun t k => st9 t k) ?_
  refine step (T9.setTop (mkF m 52 #[.val (.ref o1), .val (.ref o2), .val (.int (0 : Int32)), .val (.int (2 : Int32)), .val .null, .val (.ref b1_4)] [(.ref o1)])) (fun t k => XS.aloadN X9.here hx rfl (hb hby d3_51) rfl rfl k) ?_
  refine step (T9.setTop (mkF m 54 #[.val (.ref o1), .val (.ref o2), .val (.int (0 : Int32)), .val (.int (2 : Int32)), .val .null, .val (.ref b1_4)] [(.ref b1_4), (.ref o1)])) (fun t k => XS.aload X9.here hx rfl (hb hby d3_52) rfl rfl k) ?_
  have f10 := (f7.wr W9)
  have f11 := ((Pm3.keep K4q nin0).other W9 (Or.inr (slot_ne (Or.inr (hw _ (List.mem_of_getElem? (i := 36) rfl))) (Or.inr (hw _ (List.mem_of_getElem? (i := 34) rfl))) (by decide) (t := (.array .byte)) (t' := .byte) (by decide) (by decide))))
  obtain ⟨T12, h12, X12, e12, W12, st12⟩ := putF X9 hx hZ hown (host := "") (Or.inl (hw _ (List.mem_of_getElem? (i := 35) rfl))) Via.refl e9 f11 f10 (Or.inr ⟨(hw _ (List.mem_of_getElem? (i := 36) rfl)), rfl, hnm⟩) (hw _ (List.mem_of_getElem? (i := 8) rfl)) (ty := (.array .byte)) (by decide) rfl rfl (g := (mkF m 54 #[.val (.ref o1), .val (.ref o2), .val (.int (0 : Int32)), .val (.int (2 : Int32)), .val .null, .val (.ref b1_4)] [(.ref b1_4), (.ref o1)])) rfl rfl (hb hby d3_54)
  have N12 := Fr.snoc X12 N9 gn_o1
  have K12 : Keep h0 h12 [o1] := K9.wr W12 (Or.inl (List.mem_of_getElem? (i := 0) rfl))
  have F12 := f11.same W12
  refine step (T12.setTop (mkF m 57 #[.val (.ref o1), .val (.ref o2), .val (.int (0 : Int32)), .val (.int (2 : Int32)), .val .null, .val (.ref b1_4)] [])) (fun t k => st12 t k) ?_
  have f13 := (F9.other W12 (Or.inr (slot_ne (Or.inr (hw _ (List.mem_of_getElem? (i := 34) rfl))) (Or.inr (hw _ (List.mem_of_getElem? (i := 36) rfl))) (by decide) (t := .byte) (t' := (.array .byte)) (by decide) (by decide))))
  have f14 := ((q0_4.other W9 (Ne.symm ne_o1_b1_4)).other W12 (Ne.symm ne_o1_b1_4))
  refine fin (v := none) X12 (fun _ => rfl) ?_ (by decide) (by decide) (fun fs hr => X12.returnOut hx hret (hb hby d3_57) hr)
  show Q3_7 Z o1 o2 i1 kc2 i3 i4 h0 n0 (none) T12.heap _
  rw [e12]
  exact ⟨b1_4, k1_4, rfl, N12, K12, sz_b1_4, f13, F12, f14⟩
theorem ef_2_6 (m : MethodId) (x0 : Addr) (x1 : Addr) : entryFrame m #[(.ref x0), (.ref x1)] 2 = mkF m 0 #[.val (.ref x0), .val (.ref x1)] [] := by first | (simp [entryFrame, mkF, argsToLocals, Value.category]; done) | rfl
def Q2_6 (Z : State) (o1 : Addr) (o2 : Addr) (i1 : Int32) (kc2 : ClassId) (i3 : Int32) (i4 : Int32) (h0 : Heap) (n0 : Nat) (v : Option Value) (h : Heap) (L : List Loc) : Prop := ∃ (b1_4_2 : Addr) (k1_4_2 : ClassId), v = none ∧ Fr n0 L ∧ Keep h0 h [o1] ∧ h0.size ≤ b1_4_2 ∧ Fld Z h o1 "java/lang/String" "coder" "B" (.int (0 : Int32)) ∧ Fld Z h o1 "java/lang/String" "value" "[B" (.ref b1_4_2) ∧ Arv Z h b1_4_2 k1_4_2 .byte (2 : Int32) [(.int (nar .byte (i3.toInt8.toInt32))), (.int (nar .byte (i4.toInt8.toInt32)))] (.int (0 : Int32))
set_option maxRecDepth 65536 in
set_option maxHeartbeats 40000000 in
theorem rm2_6 (l : Launch) (Z : State) (a0 : Array Value) (hw : ∀ d ∈ tables_1, d.before a0 Z = true) (ws : List Jvm.Cond) (o1 : Addr) (o2 : Addr) (i1 : Int32) (kc2 : ClassId) (i3 : Int32) (i4 : Int32) (h0 : Heap) (n0 : Nat) (Z0 : n0 ≤ h0.size) (S0 : Sta Z h0 "java/lang/String" "COMPACT_STRINGS" "Z" (.int i1)) (Pm1 : Exa Z h0 o1 "java/lang/String") (Pm2 : Fld Z h0 o1 "java/lang/String" "coder" "B" (.int (0 : Int32))) (Pm3 : Fld Z h0 o1 "java/lang/String" "value" "[B" .null) (Pm4 : Arv Z h0 o2 kc2 .char (2 : Int32) [(.int i3), (.int i4)] (.int (0 : Int32))) (gn_o1 : n0 ≤ o1) (ne_o1_o2 : o1 ≠ o2) (gn_o2 : n0 ≤ o2) (hy8 : ¬ ((255 : Int32) < i3)) (hy9 : ¬ ((255 : Int32) < i4)) (hy10 : ¬ (i1 = (0 : Int32)))  :
    MetFree l (⟨"java/lang/String", "<init>", "([C)V"⟩ : MethodName) (head1 (Jvm.Cond.code (⟨"java/lang/String", "<init>", "([C)V"⟩ : MethodName) jdk_42_method_3_code 2 none :: ws) ({ frames := 3, cells := 1, slots := 2, locals := 52 } : Room)) (fun a U => a = #[(.ref o1), (.ref o2)] ∧ Z.Warmed39 U.vm ∧ U.heap = h0) (fun _ _ _ _ _ => True) (fun _ U o U' => ∃ v L, o = .returned v ∧ Q2_6 Z o1 o2 i1 kc2 i3 i4 h0 n0 v U'.heap L ∧ FrameEnd U o U' L ({ frames := 3, cells := 1, slots := 2, locals := 52 } : Room).cells ({ frames := 3, cells := 1, slots := 2, locals := 52 } : Room).slots) := by
  refine own_body (plainFor_of_name pn_1) ?_
  intro p e s m below meth c s₁ G hx hby hml hZ hown hnm hret X0 e0 step fin
  replace hown : s.vm.findClass "java/lang/String" = some m.cls := hown
  replace hnm : meth.name = "<init>" := hnm
  replace hret : meth.sig.returnType = none := hret
  replace hml : c.maxLocals = 2 := hml
  have N0 := Fr.nil n0
  refine step (s₁.setTop (mkF m 0 #[.val (.ref o1), .val (.ref o2)] [])) (fun t k => castTop (ef_2_6 m o1 o2) k) ?_
  refine step (s₁.setTop (mkF m 1 #[.val (.ref o1), .val (.ref o2)] [(.ref o1)])) (fun t k => XS.aloadN X0.here hx rfl (hb hby d2_0) rfl rfl k) ?_
  refine step (s₁.setTop (mkF m 2 #[.val (.ref o1), .val (.ref o2)] [(.ref o2), (.ref o1)])) (fun t k => XS.aloadN X0.here hx rfl (hb hby d2_1) rfl rfl k) ?_
  refine step (s₁.setTop (mkF m 3 #[.val (.ref o1), .val (.ref o2)] [(.int (0 : Int32)), (.ref o2), (.ref o1)])) (fun t k => XS.iconst X0.here hx rfl (hb hby d2_2) k) ?_
  refine step (s₁.setTop (mkF m 4 #[.val (.ref o1), .val (.ref o2)] [(.ref o2), (.int (0 : Int32)), (.ref o2), (.ref o1)])) (fun t k => XS.aloadN X0.here hx rfl (hb hby d2_3) rfl rfl k) ?_
  obtain ⟨cl1, Ar1, q1, S1, N1n, H1, G1⟩ := id Pm4
  refine step (s₁.setTop (mkF m 5 #[.val (.ref o1), .val (.ref o2)] [(.int (2 : Int32)), (.int (0 : Int32)), (.ref o2), (.ref o1)])) (fun t k => X0.arraylength hx (by rw [e0]; exact Ar1.1) (State.isArrayOf_alike hZ.alike Ar1.2.1) (g := (mkF m 4 #[.val (.ref o1), .val (.ref o2)] [(.ref o2), (.int (0 : Int32)), (.ref o2), (.ref o1)])) rfl rfl (hb hby d2_4) t (by rw [len_of S1 N1n]; exact k)) ?_
  refine step (s₁.setTop (mkF m 6 #[.val (.ref o1), .val (.ref o2)] [.null, (.int (2 : Int32)), (.int (0 : Int32)), (.ref o2), (.ref o1)])) (fun t k => XS.aconstNull X0.here hx rfl (hb hby d2_5) k) ?_
  obtain ⟨_, _, ⟨T2, L2, k2, n2⟩, -, X2, ⟨Lc2, hQ2, l2, y2, z2⟩, st2⟩ := X0.specialBack hx (y := (⟨"java/lang/String", "<init>", "([CIILjava/lang/Void;)V"⟩ : MethodName)) rfl hown (mvT hZ (hw _ (List.mem_of_getElem? (i := 14) rfl))) (mvT hZ (hw _ (List.mem_of_getElem? (i := 15) rfl))) (mvT hZ (hw _ (List.mem_of_getElem? (i := 17) rfl))) (by decide) (backOf (W := 0) (rm3_7 l Z a0 hw [] o1 o2 i1 kc2 i3 i4 h0 n0 Z0 S0 Pm1 Pm2 Pm3 Pm4 gn_o1 ne_o1_o2 gn_o2 hy8 hy9 hy10) hZ (hw _ (List.mem_of_getElem? (i := 17) rfl)) (hw _ (List.mem_of_getElem? (i := 9) rfl)) (by decide) (by decide)) (g := (mkF m 6 #[.val (.ref o1), .val (.ref o2)] [.null, (.int (2 : Int32)), (.int (0 : Int32)), (.ref o2), (.ref o1)])) rfl (by rw [hml]; rfl) (Steps.refl _) (a := o1) (argsL := [(.ref o2), (.int (0 : Int32)), (.int (2 : Int32)), .null]) (rest := []) (lenOf pd_1 rfl) rfl (by show 2 * 0 + _ ≤ _; exact Nat.le_of_eq rfl) (hb hby d2_6) (fun _ _ => ⟨rfl, e0, (by decide : 0 + 1 ≤ _), (by decide : 0 + 2 ≤ _)⟩)
  dsimp only [Pt.U, Pt.locs, Pt.cells, Pt.slots] at X2 l2 y2 z2 st2 hQ2
  subst l2 y2 z2
  obtain ⟨h2, e2⟩ : ∃ z, T2.heap = z := ⟨_, rfl⟩
  rw [e2] at hQ2
  obtain ⟨b1_4_2, k1_4_2, rfl, N2q, K2q, sz_b1_4_2, q0_2, q1_2, q2_2⟩ := hQ2
  have N2 := Fr.app N0 N2q
  have lt2_o1 := Pm1.lt
  have lt2_o2 := Pm4.lt
  have ne_o1_b1_4_2 : o1 ≠ b1_4_2 := Nat.ne_of_lt (Nat.lt_of_lt_of_le lt2_o1 sz_b1_4_2)
  have ne_o2_b1_4_2 : o2 ≠ b1_4_2 := Nat.ne_of_lt (Nat.lt_of_lt_of_le lt2_o2 sz_b1_4_2)
  have gn_b1_4_2 : n0 ≤ b1_4_2 := Nat.le_trans Z0 sz_b1_4_2
  have K2 : Keep h0 h2 [o1] := (Keep.refl h0 [o1]).trans K2q (allS (Or.inl (List.mem_of_getElem? (i := 0) rfl)) all0)
  have f3 := own_staK S0 K2q (allS (own_exaP Pm1) all0)
  refine step (T2.setTop (mkF m 9 #[.val (.ref o1), .val (.ref o2)] [])) (fun t k => st2.trans k) ?_
  refine fin (v := none) X2 (fun _ => rfl) ?_ (by decide) (by decide) (fun fs hr => X2.returnOut hx hret (hb hby d2_9) hr)
  show Q2_6 Z o1 o2 i1 kc2 i3 i4 h0 n0 (none) T2.heap _
  rw [e2]
  exact ⟨b1_4_2, k1_4_2, rfl, N2, K2, sz_b1_4_2, q0_2, q1_2, q2_2⟩
theorem ef_1 (m : MethodId) (x0 : Int32) (x1 : Int32) (x2 : Int32) : entryFrame m #[(.int x0), (.int x1), (.int x2)] 3 = mkF m 0 #[.val (.int x0), .val (.int x1), .val (.int x2)] [] := by first | (simp [entryFrame, mkF, argsToLocals, Value.category]; done) | rfl
def Q1 (Z : State) (ln x0 x1 cs : Int32) (h0 : Heap) (n0 : Nat) (v : Option Value) (h : Heap) (L : List Loc) : Prop := ∃ (r b : Addr) (kk : ClassId), v = some (.ref r) ∧ Fr n0 L ∧ Keep h0 h [] ∧ h0.size ≤ r ∧ h0.size ≤ b ∧ b ≠ r ∧ Exa Z h r "java/lang/String" ∧ Fld Z h r "java/lang/String" "coder" "B" (.int (0 : Int32)) ∧ Fld Z h r "java/lang/String" "value" "[B" (.ref b) ∧ Arv Z h b kk .byte (own_n ln) (own_bs ln x0 x1) (.int (0 : Int32))
set_option maxRecDepth 65536 in
set_option maxHeartbeats 40000000 in
theorem rm1 (l : Launch) (Z : State) (a0 : Array Value) (hw : ∀ d ∈ tables_1, d.before a0 Z = true) (ws : List Jvm.Cond) (ln x0 x1 cs : Int32) (h0 : Heap) (n0 : Nat) (Z0 : n0 ≤ h0.size) (S_cs : Sta Z h0 "java/lang/String" "COMPACT_STRINGS" "Z" (.int cs)) (c_cs : ¬ (cs = (0 : Int32))) (hc0 : ¬ ((255 : Int32) < (nar .char x0))) (hc1 : ¬ ((255 : Int32) < (nar .char x1))) :
    MetFree l (⟨"com/example/vertex_to_service/vertextoservice/core/EdgeEqualsPinLaw", "str", "(ICC)Ljava/lang/String;"⟩ : MethodName) (head1 (Jvm.Cond.code (⟨"com/example/vertex_to_service/vertextoservice/core/EdgeEqualsPinLaw", "str", "(ICC)Ljava/lang/String;"⟩ : MethodName) method_2_code 3 (some (.object "java/lang/String")) :: ws) ({ frames := 4, cells := 3, slots := 8, locals := 66 } : Room)) (fun a U => a = #[(.int ln), (.int x0), (.int x1)] ∧ Z.Warmed39 U.vm ∧ U.heap = h0) (fun _ _ _ _ _ => True) (fun _ U o U' => ∃ v L, o = .returned v ∧ Q1 Z ln x0 x1 cs h0 n0 v U'.heap L ∧ FrameEnd U o U' L ({ frames := 4, cells := 3, slots := 8, locals := 66 } : Room).cells ({ frames := 4, cells := 3, slots := 8, locals := 66 } : Room).slots) := by
  refine own_body (plainFor_of_name pn_0) ?_
  intro p e s m below meth c s₁ G hx hby hml hZ hown hnm hret X0 e0 step fin
  replace hown : s.vm.findClass "com/example/vertex_to_service/vertextoservice/core/EdgeEqualsPinLaw" = some m.cls := hown
  replace hnm : meth.name = "str" := hnm
  replace hret : meth.sig.returnType = some (.object "java/lang/String") := hret
  replace hml : c.maxLocals = 3 := hml
  have N0 := Fr.nil n0
  refine step (s₁.setTop (mkF m 0 #[.val (.int ln), .val (.int x0), .val (.int x1)] [])) (fun t k => castTop (ef_1 m ln x0 x1) k) ?_
  refine step (s₁.setTop (mkF m 1 #[.val (.int ln), .val (.int x0), .val (.int x1)] [(.int ln)])) (fun t k => XS.iloadN X0.here hx rfl (hb hby d1_0) rfl k) ?_
  refine step (s₁.setTop (mkF m 2 #[.val (.int ln), .val (.int x0), .val (.int x1)] [(.int (1 : Int32)), (.int ln)])) (fun t k => XS.iconst X0.here hx rfl (hb hby d1_1) k) ?_
  by_cases hc2_1 : ln = (1 : Int32)
  · -- pc 2: ln = (1 : Int32) True
    refine step (s₁.setTop (mkF m 5 #[.val (.int ln), .val (.int x0), .val (.int x1)] [])) (fun t k => XS.icmpNo X0.here hx rfl (hb hby d1_2) rfl (teq hc2_1).2 k) ?_
    obtain ⟨T2, h2, X2, e2, E2, A2, D2, -, st2⟩ := newO X0 hx hZ hown (hw _ (List.mem_of_getElem? (i := 7) rfl)) (hw _ (List.mem_of_getElem? (i := 8) rfl)) (hw _ (List.mem_of_getElem? (i := 9) rfl)) e0 (g := (mkF m 5 #[.val (.int ln), .val (.int x0), .val (.int x1)] [])) rfl (hb hby d1_5) (by decide) (by decide)
    obtain ⟨b2, g2⟩ : ∃ z, z = h0.size := ⟨_, rfl⟩
    rw [← g2] at A2 D2 st2
    have gn_b2 : n0 ≤ b2 := Nat.le_trans Z0 (Nat.le_of_eq g2.symm)
    have sz_b2 : h0.size ≤ b2 := Nat.le_of_eq g2.symm
    have K2 : Keep h0 h2 [] := (Keep.refl h0 []).ext E2
    have F_coder_b2 : Fld Z h2 b2 "java/lang/String" "coder" "B" (.int (0 : Int32)) := D2 (Or.inr (hw _ (List.mem_of_getElem? (i := 34) rfl))) (ty := .byte) (by decide)
    have F_value_b2 : Fld Z h2 b2 "java/lang/String" "value" "[B" .null := D2 (Or.inr (hw _ (List.mem_of_getElem? (i := 36) rfl))) (ty := (.array .byte)) (by decide)
    refine step (T2.setTop (mkF m 8 #[.val (.int ln), .val (.int x0), .val (.int x1)] [(.ref b2)])) (fun t k => st2 t k) ?_
    refine step (T2.setTop (mkF m 9 #[.val (.int ln), .val (.int x0), .val (.int x1)] [(.ref b2), (.ref b2)])) (fun t k => XS.dup X2.here hx rfl (hb hby d1_8) rfl rfl k) ?_
    refine step (T2.setTop (mkF m 10 #[.val (.int ln), .val (.int x0), .val (.int x1)] [(.int (1 : Int32)), (.ref b2), (.ref b2)])) (fun t k => XS.iconst X2.here hx rfl (hb hby d1_9) k) ?_
    obtain ⟨T3, h3, k3, X3, e3, E3, A3, st3⟩ := newP X2 hx hZ (hw _ (List.mem_of_getElem? (i := 10) rfl)) e2 (g := (mkF m 10 #[.val (.int ln), .val (.int x0), .val (.int x1)] [(.int (1 : Int32)), (.ref b2), (.ref b2)])) rfl (hb hby d1_10) rfl (by decide) (cap := 1) (by decide) (by decide) (by decide) (by decide)
    obtain ⟨b3, g3⟩ : ∃ z, z = h2.size := ⟨_, rfl⟩
    rw [← g3] at A3 st3
    have ne_b2_b3 : b2 ≠ b3 := Nat.ne_of_lt (Nat.lt_of_lt_of_le A2.lt (Nat.le_of_eq g3.symm))
    have gn_b3 : n0 ≤ b3 := Nat.le_trans (Nat.le_trans Z0 K2.1) (Nat.le_of_eq g3.symm)
    have sz_b3 : h0.size ≤ b3 := Nat.le_trans K2.1 (Nat.le_of_eq g3.symm)
    have K3 : Keep h0 h3 [] := K2.ext E3
    have V3 : Arv Z h3 b3 k3 .char (1 : Int32) [(.int (0 : Int32))] (.int (0 : Int32)) := (Arv.new A3 (by decide)).pad (pad_rep [] (.int (0 : Int32)) 1)
    refine step (T3.setTop (mkF m 12 #[.val (.int ln), .val (.int x0), .val (.int x1)] [(.ref b3), (.ref b2), (.ref b2)])) (fun t k => st3 t k) ?_
    refine step (T3.setTop (mkF m 13 #[.val (.int ln), .val (.int x0), .val (.int x1)] [(.ref b3), (.ref b3), (.ref b2), (.ref b2)])) (fun t k => XS.dup X3.here hx rfl (hb hby d1_12) rfl rfl k) ?_
    refine step (T3.setTop (mkF m 14 #[.val (.int ln), .val (.int x0), .val (.int x1)] [(.int (0 : Int32)), (.ref b3), (.ref b3), (.ref b2), (.ref b2)])) (fun t k => XS.iconst X3.here hx rfl (hb hby d1_13) k) ?_
    refine step (T3.setTop (mkF m 15 #[.val (.int ln), .val (.int x0), .val (.int x1)] [(.int x0), (.int (0 : Int32)), (.ref b3), (.ref b3), (.ref b2), (.ref b2)])) (fun t k => XS.iloadN X3.here hx rfl (hb hby d1_14) rfl k) ?_
    obtain ⟨cl4, Ar4, q4, S4, N4n, H4, G4⟩ := id V3
    have hin4 : ¬ ((0 : Int32) < 0 ∨ cl4.slots.size ≤ ((0 : Int32)).toNatClampNeg) := inb_of S4 ⟨by decide, by decide⟩
    obtain ⟨T4, h4, X4, e4, W4, st4⟩ := stC X3 hx hZ e3 Ar4 (j := (0 : Int32)) hin4 (g := (mkF m 15 #[.val (.int ln), .val (.int x0), .val (.int x1)] [(.int x0), (.int (0 : Int32)), (.ref b3), (.ref b3), (.ref b2), (.ref b2)])) rfl rfl (hb hby d1_15)
    have N4 := Fr.snoc X4 N0 gn_b3
    have K4 : Keep h0 h4 [] := K3.wr W4 (Or.inr sz_b3)
    have V4 : Arv Z h4 b3 k3 .char (1 : Int32) [(.int (nar .char x0))] (.int (0 : Int32)) := Arv.set Ar4 q4 S4 N4n H4 G4 (fits_nar_char x0) W4 0 rfl (Nat.le_of_ble_eq_true rfl)
    refine step (T4.setTop (mkF m 16 #[.val (.int ln), .val (.int x0), .val (.int x1)] [(.ref b3), (.ref b2), (.ref b2)])) (fun t k => st4 t k) ?_
    have f5 := (((S_cs.ext E2).ext E3).wr W4)
    have f6 := ((A2.ext E3).wr W4)
    have f7 := ((F_coder_b2.ext E3).other W4 (Or.inl ne_b2_b3))
    have f8 := ((F_value_b2.ext E3).other W4 (Or.inl ne_b2_b3))
    obtain ⟨_, _, ⟨T9, L9, k9, n9⟩, -, X9, ⟨Lc9, hQ9, l9, y9, z9⟩, st9⟩ := X4.specialBack hx (y := (⟨"java/lang/String", "<init>", "([C)V"⟩ : MethodName)) rfl hown (mvT hZ (hw _ (List.mem_of_getElem? (i := 11) rfl))) (mvT hZ (hw _ (List.mem_of_getElem? (i := 12) rfl))) (mvT hZ (hw _ (List.mem_of_getElem? (i := 13) rfl))) (by decide) (backOf (W := 1) (rm2_1 l Z a0 hw [] b2 b3 cs k3 (nar .char x0) h4 n0 (Nat.le_trans Z0 K4.1) f5 f6 f7 f8 V4 gn_b2 ne_b2_b3 gn_b3 hc0 c_cs) hZ (hw _ (List.mem_of_getElem? (i := 13) rfl)) (hw _ (List.mem_of_getElem? (i := 9) rfl)) (by decide) (by decide)) (g := (mkF m 16 #[.val (.int ln), .val (.int x0), .val (.int x1)] [(.ref b3), (.ref b2), (.ref b2)])) rfl (by rw [hml]; rfl) (Steps.refl _) (a := b2) (argsL := [(.ref b3)]) (rest := [(.ref b2)]) (lenOf pd_0 rfl) rfl (by show 2 * 0 + _ ≤ _; exact Nat.le_of_eq rfl) (hb hby d1_16) (fun _ _ => ⟨rfl, e4, (by decide : 2 + 1 ≤ _), (by decide : 5 + 1 ≤ _)⟩)
    dsimp only [Pt.U, Pt.locs, Pt.cells, Pt.slots] at X9 l9 y9 z9 st9 hQ9
    subst l9 y9 z9
    obtain ⟨h9, e9⟩ : ∃ z, T9.heap = z := ⟨_, rfl⟩
    rw [e9] at hQ9
    obtain ⟨b1_4_2_9, k1_4_2_9, rfl, N9q, K9q, sz_b1_4_2_9, q0_9, q1_9, q2_9⟩ := hQ9
    have N9 := Fr.app N4 N9q
    have lt9_b2 := f6.lt
    have lt9_b3 := V4.lt
    have ne_b2_b1_4_2_9 : b2 ≠ b1_4_2_9 := Nat.ne_of_lt (Nat.lt_of_lt_of_le lt9_b2 sz_b1_4_2_9)
    have ne_b3_b1_4_2_9 : b3 ≠ b1_4_2_9 := Nat.ne_of_lt (Nat.lt_of_lt_of_le lt9_b3 sz_b1_4_2_9)
    have gn_b1_4_2_9 : n0 ≤ b1_4_2_9 := Nat.le_trans (Nat.le_trans Z0 K4.1) sz_b1_4_2_9
    have sz_b1_4_2_9' := Nat.le_trans K4.1 sz_b1_4_2_9
    replace sz_b1_4_2_9 := sz_b1_4_2_9'
    have K9 : Keep h0 h9 [] := K4.trans K9q (allS (Or.inr sz_b2) all0)
    have f10 := own_staK f5 K9q (allS (own_exaP f6) all0)
    refine step (T9.setTop (mkF m 19 #[.val (.int ln), .val (.int x0), .val (.int x1)] [(.ref b2)])) (fun t k => st9.trans k) ?_
    refine fin (v := some (.ref b2)) X9 (fun h => by cases h) ?_ (by decide) (by decide) (fun fs hr => X9.areturnOut hx rfl hret rfl (hb hby d1_19) hr)
    show Q1 Z ln x0 x1 cs h0 n0 (some (.ref b2)) T9.heap _
    rw [e9]
    have f11 := (f6.keep K9q)
    exact ⟨b2, b1_4_2_9, k1_4_2_9, rfl, N9, K9, sz_b2, sz_b1_4_2_9, (Ne.symm ne_b2_b1_4_2_9), f11, q0_9, q1_9, by simp only [own_n, own_bs, if_pos hc2_1, if_true, if_false]; exact q2_9⟩
  · -- pc 2: ln = (1 : Int32) False
    refine step (s₁.setTop (mkF m 20 #[.val (.int ln), .val (.int x0), .val (.int x1)] [])) (fun t k => XS.icmpYes X0.here hx rfl (pc0 := 2) (pc' := 20) rfl (hb hby d1_2) rfl (feq hc2_1).2 (by decide) (by decide) k) ?_
    obtain ⟨T12, h12, X12, e12, E12, A12, D12, -, st12⟩ := newO X0 hx hZ hown (hw _ (List.mem_of_getElem? (i := 7) rfl)) (hw _ (List.mem_of_getElem? (i := 8) rfl)) (hw _ (List.mem_of_getElem? (i := 9) rfl)) e0 (g := (mkF m 20 #[.val (.int ln), .val (.int x0), .val (.int x1)] [])) rfl (hb hby d1_20) (by decide) (by decide)
    obtain ⟨b12, g12⟩ : ∃ z, z = h0.size := ⟨_, rfl⟩
    rw [← g12] at A12 D12 st12
    have gn_b12 : n0 ≤ b12 := Nat.le_trans Z0 (Nat.le_of_eq g12.symm)
    have sz_b12 : h0.size ≤ b12 := Nat.le_of_eq g12.symm
    have K12 : Keep h0 h12 [] := (Keep.refl h0 []).ext E12
    have F_coder_b12 : Fld Z h12 b12 "java/lang/String" "coder" "B" (.int (0 : Int32)) := D12 (Or.inr (hw _ (List.mem_of_getElem? (i := 34) rfl))) (ty := .byte) (by decide)
    have F_value_b12 : Fld Z h12 b12 "java/lang/String" "value" "[B" .null := D12 (Or.inr (hw _ (List.mem_of_getElem? (i := 36) rfl))) (ty := (.array .byte)) (by decide)
    refine step (T12.setTop (mkF m 23 #[.val (.int ln), .val (.int x0), .val (.int x1)] [(.ref b12)])) (fun t k => st12 t k) ?_
    refine step (T12.setTop (mkF m 24 #[.val (.int ln), .val (.int x0), .val (.int x1)] [(.ref b12), (.ref b12)])) (fun t k => XS.dup X12.here hx rfl (hb hby d1_23) rfl rfl k) ?_
    refine step (T12.setTop (mkF m 25 #[.val (.int ln), .val (.int x0), .val (.int x1)] [(.int (2 : Int32)), (.ref b12), (.ref b12)])) (fun t k => XS.iconst X12.here hx rfl (hb hby d1_24) k) ?_
    obtain ⟨T13, h13, k13, X13, e13, E13, A13, st13⟩ := newP X12 hx hZ (hw _ (List.mem_of_getElem? (i := 10) rfl)) e12 (g := (mkF m 25 #[.val (.int ln), .val (.int x0), .val (.int x1)] [(.int (2 : Int32)), (.ref b12), (.ref b12)])) rfl (hb hby d1_25) rfl (by decide) (cap := 2) (by decide) (by decide) (by decide) (by decide)
    obtain ⟨b13, g13⟩ : ∃ z, z = h12.size := ⟨_, rfl⟩
    rw [← g13] at A13 st13
    have ne_b12_b13 : b12 ≠ b13 := Nat.ne_of_lt (Nat.lt_of_lt_of_le A12.lt (Nat.le_of_eq g13.symm))
    have gn_b13 : n0 ≤ b13 := Nat.le_trans (Nat.le_trans Z0 K12.1) (Nat.le_of_eq g13.symm)
    have sz_b13 : h0.size ≤ b13 := Nat.le_trans K12.1 (Nat.le_of_eq g13.symm)
    have K13 : Keep h0 h13 [] := K12.ext E13
    have V13 : Arv Z h13 b13 k13 .char (2 : Int32) [(.int (0 : Int32)), (.int (0 : Int32))] (.int (0 : Int32)) := (Arv.new A13 (by decide)).pad (pad_rep [] (.int (0 : Int32)) 2)
    refine step (T13.setTop (mkF m 27 #[.val (.int ln), .val (.int x0), .val (.int x1)] [(.ref b13), (.ref b12), (.ref b12)])) (fun t k => st13 t k) ?_
    refine step (T13.setTop (mkF m 28 #[.val (.int ln), .val (.int x0), .val (.int x1)] [(.ref b13), (.ref b13), (.ref b12), (.ref b12)])) (fun t k => XS.dup X13.here hx rfl (hb hby d1_27) rfl rfl k) ?_
    refine step (T13.setTop (mkF m 29 #[.val (.int ln), .val (.int x0), .val (.int x1)] [(.int (0 : Int32)), (.ref b13), (.ref b13), (.ref b12), (.ref b12)])) (fun t k => XS.iconst X13.here hx rfl (hb hby d1_28) k) ?_
    refine step (T13.setTop (mkF m 30 #[.val (.int ln), .val (.int x0), .val (.int x1)] [(.int x0), (.int (0 : Int32)), (.ref b13), (.ref b13), (.ref b12), (.ref b12)])) (fun t k => XS.iloadN X13.here hx rfl (hb hby d1_29) rfl k) ?_
    obtain ⟨cl14, Ar14, q14, S14, N14n, H14, G14⟩ := id V13
    have hin14 : ¬ ((0 : Int32) < 0 ∨ cl14.slots.size ≤ ((0 : Int32)).toNatClampNeg) := inb_of S14 ⟨by decide, by decide⟩
    obtain ⟨T14, h14, X14, e14, W14, st14⟩ := stC X13 hx hZ e13 Ar14 (j := (0 : Int32)) hin14 (g := (mkF m 30 #[.val (.int ln), .val (.int x0), .val (.int x1)] [(.int x0), (.int (0 : Int32)), (.ref b13), (.ref b13), (.ref b12), (.ref b12)])) rfl rfl (hb hby d1_30)
    have N14 := Fr.snoc X14 N0 gn_b13
    have K14 : Keep h0 h14 [] := K13.wr W14 (Or.inr sz_b13)
    have V14 : Arv Z h14 b13 k13 .char (2 : Int32) [(.int (nar .char x0)), (.int (0 : Int32))] (.int (0 : Int32)) := Arv.set Ar14 q14 S14 N14n H14 G14 (fits_nar_char x0) W14 0 rfl (Nat.le_of_ble_eq_true rfl)
    refine step (T14.setTop (mkF m 31 #[.val (.int ln), .val (.int x0), .val (.int x1)] [(.ref b13), (.ref b12), (.ref b12)])) (fun t k => st14 t k) ?_
    refine step (T14.setTop (mkF m 32 #[.val (.int ln), .val (.int x0), .val (.int x1)] [(.ref b13), (.ref b13), (.ref b12), (.ref b12)])) (fun t k => XS.dup X14.here hx rfl (hb hby d1_31) rfl rfl k) ?_
    refine step (T14.setTop (mkF m 33 #[.val (.int ln), .val (.int x0), .val (.int x1)] [(.int (1 : Int32)), (.ref b13), (.ref b13), (.ref b12), (.ref b12)])) (fun t k => XS.iconst X14.here hx rfl (hb hby d1_32) k) ?_
    refine step (T14.setTop (mkF m 34 #[.val (.int ln), .val (.int x0), .val (.int x1)] [(.int x1), (.int (1 : Int32)), (.ref b13), (.ref b13), (.ref b12), (.ref b12)])) (fun t k => XS.iloadN X14.here hx rfl (hb hby d1_33) rfl k) ?_
    obtain ⟨cl15, Ar15, q15, S15, N15n, H15, G15⟩ := id V14
    have hin15 : ¬ ((1 : Int32) < 0 ∨ cl15.slots.size ≤ ((1 : Int32)).toNatClampNeg) := inb_of S15 ⟨by decide, by decide⟩
    obtain ⟨T15, h15, X15, e15, W15, st15⟩ := stC X14 hx hZ e14 Ar15 (j := (1 : Int32)) hin15 (g := (mkF m 34 #[.val (.int ln), .val (.int x0), .val (.int x1)] [(.int x1), (.int (1 : Int32)), (.ref b13), (.ref b13), (.ref b12), (.ref b12)])) rfl rfl (hb hby d1_34)
    have N15 := Fr.snoc X15 N14 gn_b13
    have K15 : Keep h0 h15 [] := K14.wr W15 (Or.inr sz_b13)
    have V15 : Arv Z h15 b13 k13 .char (2 : Int32) [(.int (nar .char x0)), (.int (nar .char x1))] (.int (0 : Int32)) := Arv.set Ar15 q15 S15 N15n H15 G15 (fits_nar_char x1) W15 1 rfl (Nat.le_of_ble_eq_true rfl)
    refine step (T15.setTop (mkF m 35 #[.val (.int ln), .val (.int x0), .val (.int x1)] [(.ref b13), (.ref b12), (.ref b12)])) (fun t k => st15 t k) ?_
    have f16 := ((((S_cs.ext E12).ext E13).wr W14).wr W15)
    have f17 := (((A12.ext E13).wr W14).wr W15)
    have f18 := (((F_coder_b12.ext E13).other W14 (Or.inl ne_b12_b13)).other W15 (Or.inl ne_b12_b13))
    have f19 := (((F_value_b12.ext E13).other W14 (Or.inl ne_b12_b13)).other W15 (Or.inl ne_b12_b13))
    obtain ⟨_, _, ⟨T20, L20, k20, n20⟩, -, X20, ⟨Lc20, hQ20, l20, y20, z20⟩, st20⟩ := X15.specialBack hx (y := (⟨"java/lang/String", "<init>", "([C)V"⟩ : MethodName)) rfl hown (mvT hZ (hw _ (List.mem_of_getElem? (i := 11) rfl))) (mvT hZ (hw _ (List.mem_of_getElem? (i := 12) rfl))) (mvT hZ (hw _ (List.mem_of_getElem? (i := 13) rfl))) (by decide) (backOf (W := 1) (rm2_6 l Z a0 hw [] b12 b13 cs k13 (nar .char x0) (nar .char x1) h15 n0 (Nat.le_trans Z0 K15.1) f16 f17 f18 f19 V15 gn_b12 ne_b12_b13 gn_b13 hc0 hc1 c_cs) hZ (hw _ (List.mem_of_getElem? (i := 13) rfl)) (hw _ (List.mem_of_getElem? (i := 9) rfl)) (by decide) (by decide)) (g := (mkF m 35 #[.val (.int ln), .val (.int x0), .val (.int x1)] [(.ref b13), (.ref b12), (.ref b12)])) rfl (by rw [hml]; rfl) (Steps.refl _) (a := b12) (argsL := [(.ref b13)]) (rest := [(.ref b12)]) (lenOf pd_0 rfl) rfl (by show 2 * 0 + _ ≤ _; exact Nat.le_of_eq rfl) (hb hby d1_35) (fun _ _ => ⟨rfl, e15, (by decide : 2 + 1 ≤ _), (by decide : 6 + 2 ≤ _)⟩)
    dsimp only [Pt.U, Pt.locs, Pt.cells, Pt.slots] at X20 l20 y20 z20 st20 hQ20
    subst l20 y20 z20
    obtain ⟨h20, e20⟩ : ∃ z, T20.heap = z := ⟨_, rfl⟩
    rw [e20] at hQ20
    obtain ⟨b1_4_2_20, k1_4_2_20, rfl, N20q, K20q, sz_b1_4_2_20, q0_20, q1_20, q2_20⟩ := hQ20
    have N20 := Fr.app N15 N20q
    have lt20_b12 := f17.lt
    have lt20_b13 := V15.lt
    have ne_b12_b1_4_2_20 : b12 ≠ b1_4_2_20 := Nat.ne_of_lt (Nat.lt_of_lt_of_le lt20_b12 sz_b1_4_2_20)
    have ne_b13_b1_4_2_20 : b13 ≠ b1_4_2_20 := Nat.ne_of_lt (Nat.lt_of_lt_of_le lt20_b13 sz_b1_4_2_20)
    have gn_b1_4_2_20 : n0 ≤ b1_4_2_20 := Nat.le_trans (Nat.le_trans Z0 K15.1) sz_b1_4_2_20
    have sz_b1_4_2_20' := Nat.le_trans K15.1 sz_b1_4_2_20
    replace sz_b1_4_2_20 := sz_b1_4_2_20'
    have K20 : Keep h0 h20 [] := K15.trans K20q (allS (Or.inr sz_b12) all0)
    have f21 := own_staK f16 K20q (allS (own_exaP f17) all0)
    refine step (T20.setTop (mkF m 38 #[.val (.int ln), .val (.int x0), .val (.int x1)] [(.ref b12)])) (fun t k => st20.trans k) ?_
    refine fin (v := some (.ref b12)) X20 (fun h => by cases h) ?_ (by decide) (by decide) (fun fs hr => X20.areturnOut hx rfl hret rfl (hb hby d1_38) hr)
    show Q1 Z ln x0 x1 cs h0 n0 (some (.ref b12)) T20.heap _
    rw [e20]
    have f22 := (f17.keep K20q)
    exact ⟨b12, b1_4_2_20, k1_4_2_20, rfl, N20, K20, sz_b12, sz_b1_4_2_20, (Ne.symm ne_b12_b1_4_2_20), f22, q0_20, q1_20, by simp only [own_n, own_bs, if_neg hc2_1, if_true, if_false]; exact q2_20⟩
theorem d15_0 : decode jdk_43_method_13_code 0 = .ok (.aload_n 0, 1) := by decide +kernel
theorem d15_1 : decode jdk_43_method_13_code 1 = .ok (.arraylength, 1) := by decide +kernel
theorem d15_2 : decode jdk_43_method_13_code 2 = .ok (.aload_n 1, 1) := by decide +kernel
theorem d15_3 : decode jdk_43_method_13_code 3 = .ok (.arraylength, 1) := by decide +kernel
theorem d15_4 : decode jdk_43_method_13_code 4 = .ok (.if_icmp .ne 30, 3) := by decide +kernel
theorem d15_7 : decode jdk_43_method_13_code 7 = .ok (.iconst 0, 1) := by decide +kernel
theorem d15_8 : decode jdk_43_method_13_code 8 = .ok (.istore_n 2, 1) := by decide +kernel
theorem d15_9 : decode jdk_43_method_13_code 9 = .ok (.iload_n 2, 1) := by decide +kernel
theorem d15_10 : decode jdk_43_method_13_code 10 = .ok (.aload_n 0, 1) := by decide +kernel
theorem d15_11 : decode jdk_43_method_13_code 11 = .ok (.arraylength, 1) := by decide +kernel
theorem d15_12 : decode jdk_43_method_13_code 12 = .ok (.if_icmp .ge 20, 3) := by decide +kernel
theorem d15_15 : decode jdk_43_method_13_code 15 = .ok (.aload_n 0, 1) := by decide +kernel
theorem d15_16 : decode jdk_43_method_13_code 16 = .ok (.iload_n 2, 1) := by decide +kernel
theorem d15_17 : decode jdk_43_method_13_code 17 = .ok (.baload, 1) := by decide +kernel
theorem d15_18 : decode jdk_43_method_13_code 18 = .ok (.aload_n 1, 1) := by decide +kernel
theorem d15_19 : decode jdk_43_method_13_code 19 = .ok (.iload_n 2, 1) := by decide +kernel
theorem d15_20 : decode jdk_43_method_13_code 20 = .ok (.baload, 1) := by decide +kernel
theorem d15_21 : decode jdk_43_method_13_code 21 = .ok (.if_icmp .eq 5, 3) := by decide +kernel
theorem d15_24 : decode jdk_43_method_13_code 24 = .ok (.iconst 0, 1) := by decide +kernel
theorem d15_25 : decode jdk_43_method_13_code 25 = .ok (.ireturn, 1) := by decide +kernel
theorem d15_26 : decode jdk_43_method_13_code 26 = .ok (.iinc 2 1, 3) := by decide +kernel
theorem d15_29 : decode jdk_43_method_13_code 29 = .ok (.goto (-20), 3) := by decide +kernel
theorem d15_32 : decode jdk_43_method_13_code 32 = .ok (.iconst 1, 1) := by decide +kernel
theorem d15_33 : decode jdk_43_method_13_code 33 = .ok (.ireturn, 1) := by decide +kernel
theorem d15_34 : decode jdk_43_method_13_code 34 = .ok (.iconst 0, 1) := by decide +kernel
theorem d15_35 : decode jdk_43_method_13_code 35 = .ok (.ireturn, 1) := by decide +kernel
theorem pn_3 : plainName "java/lang/StringLatin1" = true := by first | (simp [plainName, overriddenIn]; done) | decide +kernel
theorem ef_15 (m : MethodId) (x0 : Addr) (x1 : Addr) : entryFrame m #[(.ref x0), (.ref x1)] 3 = mkF m 0 #[.val (.ref x0), .val (.ref x1), .unset] [] := by first | (simp [entryFrame, mkF, argsToLocals, Value.category]; done) | rfl
def Q15 (Z : State) (o1 o2 : Addr) (k1 k2 : ClassId) (l1 c1 d1 l2 c2 d2 : Int32) (h0 : Heap) (n0 : Nat) (v : Option Value) (h : Heap) (L : List Loc) : Prop := v = some (.int (own_eq l1 c1 d1 l2 c2 d2)) ∧ Fr n0 L ∧ h = h0
set_option maxRecDepth 65536 in
set_option maxHeartbeats 40000000 in
theorem rm15 (l : Launch) (Z : State) (a0 : Array Value) (hw : ∀ d ∈ tables_1, d.before a0 Z = true) (ws : List Jvm.Cond) (o1 o2 : Addr) (k1 k2 : ClassId) (l1 c1 d1 l2 c2 d2 : Int32) (h0 : Heap) (n0 : Nat) (Z0 : n0 ≤ h0.size) (A1 : Arv Z h0 o1 k1 .byte (own_n l1) (own_bs l1 c1 d1) (.int (0 : Int32))) (A2 : Arv Z h0 o2 k2 .byte (own_n l2) (own_bs l2 c2 d2) (.int (0 : Int32))) :
    MetFree l (⟨"java/lang/StringLatin1", "equals", "([B[B)Z"⟩ : MethodName) (head1 (Jvm.Cond.code (⟨"java/lang/StringLatin1", "equals", "([B[B)Z"⟩ : MethodName) jdk_43_method_13_code 3 (some .boolean) :: ws) ({ frames := 0, cells := 0, slots := 0, locals := 0 } : Room)) (fun a U => a = #[(.ref o1), (.ref o2)] ∧ Z.Warmed39 U.vm ∧ U.heap = h0) (fun _ _ _ _ _ => True) (fun _ U o U' => ∃ v L, o = .returned v ∧ Q15 Z o1 o2 k1 k2 l1 c1 d1 l2 c2 d2 h0 n0 v U'.heap L ∧ FrameEnd U o U' L ({ frames := 0, cells := 0, slots := 0, locals := 0 } : Room).cells ({ frames := 0, cells := 0, slots := 0, locals := 0 } : Room).slots) := by
  refine own_body (plainFor_of_name pn_3) ?_
  intro p e s m below meth c s₁ G hx hby hml hZ hown hnm hret X0 e0 step fin
  replace hown : s.vm.findClass "java/lang/StringLatin1" = some m.cls := hown
  replace hnm : meth.name = "equals" := hnm
  replace hret : meth.sig.returnType = some .boolean := hret
  replace hml : c.maxLocals = 3 := hml
  have N0 := Fr.nil n0
  refine step (s₁.setTop (mkF m 0 #[.val (.ref o1), .val (.ref o2), .unset] [])) (fun t k => castTop (ef_15 m o1 o2) k) ?_
  by_cases g1 : l1 = 1
  ·
    have V1 : Arv Z h0 o1 k1 .byte (1 : Int32) [(.int (own_B c1))] (.int (0 : Int32)) := by have q := A1; simp only [own_n, own_bs, if_pos g1] at q; exact q
    by_cases g2 : l2 = 1
    ·
      have V2 : Arv Z h0 o2 k2 .byte (1 : Int32) [(.int (own_B c2))] (.int (0 : Int32)) := by have q := A2; simp only [own_n, own_bs, if_pos g2] at q; exact q
      refine step (s₁.setTop (mkF m 1 #[.val (.ref o1), .val (.ref o2), .unset] [(.ref o1)])) (fun t k => XS.aloadN X0.here hx rfl (hb hby d15_0) rfl rfl k) ?_
      obtain ⟨cl1, Ar1, q1, S1, N1n, H1, G1⟩ := id V1
      refine step (s₁.setTop (mkF m 2 #[.val (.ref o1), .val (.ref o2), .unset] [(.int (1 : Int32))])) (fun t k => X0.arraylength hx (by rw [e0]; exact Ar1.1) (State.isArrayOf_alike hZ.alike Ar1.2.1) (g := (mkF m 1 #[.val (.ref o1), .val (.ref o2), .unset] [(.ref o1)])) rfl rfl (hb hby d15_1) t (by rw [len_of S1 N1n]; exact k)) ?_
      refine step (s₁.setTop (mkF m 3 #[.val (.ref o1), .val (.ref o2), .unset] [(.ref o2), (.int (1 : Int32))])) (fun t k => XS.aloadN X0.here hx rfl (hb hby d15_2) rfl rfl k) ?_
      obtain ⟨cl2, Ar2, q2, S2, N2n, H2, G2⟩ := id V2
      refine step (s₁.setTop (mkF m 4 #[.val (.ref o1), .val (.ref o2), .unset] [(.int (1 : Int32)), (.int (1 : Int32))])) (fun t k => X0.arraylength hx (by rw [e0]; exact Ar2.1) (State.isArrayOf_alike hZ.alike Ar2.2.1) (g := (mkF m 3 #[.val (.ref o1), .val (.ref o2), .unset] [(.ref o2), (.int (1 : Int32))])) rfl rfl (hb hby d15_3) t (by rw [len_of S2 N2n]; exact k)) ?_
      refine step (s₁.setTop (mkF m 7 #[.val (.ref o1), .val (.ref o2), .unset] [])) (fun t k => XS.icmpNo X0.here hx rfl (hb hby d15_4) rfl (teq (by decide : (1 : Int32) = (1 : Int32))).2 k) ?_
      refine step (s₁.setTop (mkF m 8 #[.val (.ref o1), .val (.ref o2), .unset] [(.int (0 : Int32))])) (fun t k => XS.iconst X0.here hx rfl (hb hby d15_7) k) ?_
      refine step (s₁.setTop (mkF m 9 #[.val (.ref o1), .val (.ref o2), .val (.int (0 : Int32))] [])) (fun t k => XS.istoreN X0.here hx rfl (hb hby d15_8) rfl (l' := #[.val (.ref o1), .val (.ref o2), .val (.int (0 : Int32))]) rfl k) ?_
      refine step (s₁.setTop (mkF m 10 #[.val (.ref o1), .val (.ref o2), .val (.int (0 : Int32))] [(.int (0 : Int32))])) (fun t k => XS.iloadN X0.here hx rfl (hb hby d15_9) rfl k) ?_
      refine step (s₁.setTop (mkF m 11 #[.val (.ref o1), .val (.ref o2), .val (.int (0 : Int32))] [(.ref o1), (.int (0 : Int32))])) (fun t k => XS.aloadN X0.here hx rfl (hb hby d15_10) rfl rfl k) ?_
      obtain ⟨cl3, Ar3, q3, S3, N3n, H3, G3⟩ := id V1
      refine step (s₁.setTop (mkF m 12 #[.val (.ref o1), .val (.ref o2), .val (.int (0 : Int32))] [(.int (1 : Int32)), (.int (0 : Int32))])) (fun t k => X0.arraylength hx (by rw [e0]; exact Ar3.1) (State.isArrayOf_alike hZ.alike Ar3.2.1) (g := (mkF m 11 #[.val (.ref o1), .val (.ref o2), .val (.int (0 : Int32))] [(.ref o1), (.int (0 : Int32))])) rfl rfl (hb hby d15_11) t (by rw [len_of S3 N3n]; exact k)) ?_
      refine step (s₁.setTop (mkF m 15 #[.val (.ref o1), .val (.ref o2), .val (.int (0 : Int32))] [])) (fun t k => XS.icmpNo X0.here hx rfl (hb hby d15_12) rfl (tlt (by decide : (0 : Int32) < (1 : Int32))).2.1 k) ?_
      refine step (s₁.setTop (mkF m 16 #[.val (.ref o1), .val (.ref o2), .val (.int (0 : Int32))] [(.ref o1)])) (fun t k => XS.aloadN X0.here hx rfl (hb hby d15_15) rfl rfl k) ?_
      refine step (s₁.setTop (mkF m 17 #[.val (.ref o1), .val (.ref o2), .val (.int (0 : Int32))] [(.int (0 : Int32)), (.ref o1)])) (fun t k => XS.iloadN X0.here hx rfl (hb hby d15_16) rfl k) ?_
      obtain ⟨cl4, Ar4, q4, S4, N4n, H4, G4⟩ := id V1
      have hin4 : ¬ ((0 : Int32) < 0 ∨ cl4.slots.size ≤ ((0 : Int32)).toNatClampNeg) := inb_of S4 ⟨by decide, by decide⟩
      have hat4 : cl4.slots[((0 : Int32)).toNatClampNeg]? = some (.int (own_B c1)) := H4.at hin4 rfl
      refine step (s₁.setTop (mkF m 18 #[.val (.ref o1), .val (.ref o2), .val (.int (0 : Int32))] [(.int (own_B c1))])) (fun t k => X0.baloadBytes hx (j := (0 : Int32)) (v := (.int (own_B c1))) (by rw [e0]; exact Ar4.1) (State.isArrayOf_alike hZ.alike Ar4.2.1) Ar4.2.2 hin4 hat4 (g := (mkF m 17 #[.val (.ref o1), .val (.ref o2), .val (.int (0 : Int32))] [(.int (0 : Int32)), (.ref o1)])) rfl rfl (hb hby d15_17) t k) ?_
      refine step (s₁.setTop (mkF m 19 #[.val (.ref o1), .val (.ref o2), .val (.int (0 : Int32))] [(.ref o2), (.int (own_B c1))])) (fun t k => XS.aloadN X0.here hx rfl (hb hby d15_18) rfl rfl k) ?_
      refine step (s₁.setTop (mkF m 20 #[.val (.ref o1), .val (.ref o2), .val (.int (0 : Int32))] [(.int (0 : Int32)), (.ref o2), (.int (own_B c1))])) (fun t k => XS.iloadN X0.here hx rfl (hb hby d15_19) rfl k) ?_
      obtain ⟨cl5, Ar5, q5, S5, N5n, H5, G5⟩ := id V2
      have hin5 : ¬ ((0 : Int32) < 0 ∨ cl5.slots.size ≤ ((0 : Int32)).toNatClampNeg) := inb_of S5 ⟨by decide, by decide⟩
      have hat5 : cl5.slots[((0 : Int32)).toNatClampNeg]? = some (.int (own_B c2)) := H5.at hin5 rfl
      refine step (s₁.setTop (mkF m 21 #[.val (.ref o1), .val (.ref o2), .val (.int (0 : Int32))] [(.int (own_B c2)), (.int (own_B c1))])) (fun t k => X0.baloadBytes hx (j := (0 : Int32)) (v := (.int (own_B c2))) (by rw [e0]; exact Ar5.1) (State.isArrayOf_alike hZ.alike Ar5.2.1) Ar5.2.2 hin5 hat5 (g := (mkF m 20 #[.val (.ref o1), .val (.ref o2), .val (.int (0 : Int32))] [(.int (0 : Int32)), (.ref o2), (.int (own_B c1))])) rfl rfl (hb hby d15_20) t k) ?_
      by_cases hc21_6 : (own_B c1) = (own_B c2)
      · -- pc 21: (own_B c1) = (own_B c2) True
        refine step (s₁.setTop (mkF m 26 #[.val (.ref o1), .val (.ref o2), .val (.int (0 : Int32))] [])) (fun t k => XS.icmpYes X0.here hx rfl (pc0 := 21) (pc' := 26) rfl (hb hby d15_21) rfl (teq hc21_6).1 (by decide) (by decide) k) ?_
        refine step (s₁.setTop (mkF m 29 #[.val (.ref o1), .val (.ref o2), .val (.int (1 : Int32))] [])) (fun t k => XS.iinc X0.here hx rfl (hb hby d15_26) rfl (l' := #[.val (.ref o1), .val (.ref o2), .val (.int (1 : Int32))]) rfl k) ?_
        refine step (s₁.setTop (mkF m 9 #[.val (.ref o1), .val (.ref o2), .val (.int (1 : Int32))] [])) (fun t k => XS.goto X0.here hx rfl (pc0 := 29) (pc' := 9) rfl (hb hby d15_29) (by decide) (by decide) k) ?_
        refine step (s₁.setTop (mkF m 10 #[.val (.ref o1), .val (.ref o2), .val (.int (1 : Int32))] [(.int (1 : Int32))])) (fun t k => XS.iloadN X0.here hx rfl (hb hby d15_9) rfl k) ?_
        refine step (s₁.setTop (mkF m 11 #[.val (.ref o1), .val (.ref o2), .val (.int (1 : Int32))] [(.ref o1), (.int (1 : Int32))])) (fun t k => XS.aloadN X0.here hx rfl (hb hby d15_10) rfl rfl k) ?_
        obtain ⟨cl7, Ar7, q7, S7, N7n, H7, G7⟩ := id V1
        refine step (s₁.setTop (mkF m 12 #[.val (.ref o1), .val (.ref o2), .val (.int (1 : Int32))] [(.int (1 : Int32)), (.int (1 : Int32))])) (fun t k => X0.arraylength hx (by rw [e0]; exact Ar7.1) (State.isArrayOf_alike hZ.alike Ar7.2.1) (g := (mkF m 11 #[.val (.ref o1), .val (.ref o2), .val (.int (1 : Int32))] [(.ref o1), (.int (1 : Int32))])) rfl rfl (hb hby d15_11) t (by rw [len_of S7 N7n]; exact k)) ?_
        refine step (s₁.setTop (mkF m 32 #[.val (.ref o1), .val (.ref o2), .val (.int (1 : Int32))] [])) (fun t k => XS.icmpYes X0.here hx rfl (pc0 := 12) (pc' := 32) rfl (hb hby d15_12) rfl (flt (by decide : ¬ ((1 : Int32) < (1 : Int32)))).2.1 (by decide) (by decide) k) ?_
        refine step (s₁.setTop (mkF m 33 #[.val (.ref o1), .val (.ref o2), .val (.int (1 : Int32))] [(.int (1 : Int32))])) (fun t k => XS.iconst X0.here hx rfl (hb hby d15_32) k) ?_
        refine fin (v := some (.int (nar .boolean (1 : Int32)))) X0 (fun h => by cases h) ?_ (by decide) (by decide) (fun fs hr => retN X0 hx (t := .boolean) hret (by simp) (hb hby d15_33) hr)
        show Q15 Z o1 o2 k1 k2 l1 c1 d1 l2 c2 d2 h0 n0 (some (.int (nar .boolean (1 : Int32)))) s₁.heap _
        rw [e0]
        exact ⟨congrArg (fun z => some (Value.int z)) (by simp only [own_eq, own_n, if_pos g1, if_pos g2, if_pos hc21_6]; first | decide | rfl), N0, rfl⟩
      · -- pc 21: (own_B c1) = (own_B c2) False
        refine step (s₁.setTop (mkF m 24 #[.val (.ref o1), .val (.ref o2), .val (.int (0 : Int32))] [])) (fun t k => XS.icmpNo X0.here hx rfl (hb hby d15_21) rfl (feq hc21_6).1 k) ?_
        refine step (s₁.setTop (mkF m 25 #[.val (.ref o1), .val (.ref o2), .val (.int (0 : Int32))] [(.int (0 : Int32))])) (fun t k => XS.iconst X0.here hx rfl (hb hby d15_24) k) ?_
        refine fin (v := some (.int (nar .boolean (0 : Int32)))) X0 (fun h => by cases h) ?_ (by decide) (by decide) (fun fs hr => retN X0 hx (t := .boolean) hret (by simp) (hb hby d15_25) hr)
        show Q15 Z o1 o2 k1 k2 l1 c1 d1 l2 c2 d2 h0 n0 (some (.int (nar .boolean (0 : Int32)))) s₁.heap _
        rw [e0]
        exact ⟨congrArg (fun z => some (Value.int z)) (by simp only [own_eq, own_n, if_pos g1, if_pos g2, if_neg hc21_6]; first | decide | rfl), N0, rfl⟩
    ·
      have V2 : Arv Z h0 o2 k2 .byte (2 : Int32) [(.int (own_B c2)), (.int (own_B d2))] (.int (0 : Int32)) := by have q := A2; simp only [own_n, own_bs, if_neg g2] at q; exact q
      refine step (s₁.setTop (mkF m 1 #[.val (.ref o1), .val (.ref o2), .unset] [(.ref o1)])) (fun t k => XS.aloadN X0.here hx rfl (hb hby d15_0) rfl rfl k) ?_
      obtain ⟨cl8, Ar8, q8, S8, N8n, H8, G8⟩ := id V1
      refine step (s₁.setTop (mkF m 2 #[.val (.ref o1), .val (.ref o2), .unset] [(.int (1 : Int32))])) (fun t k => X0.arraylength hx (by rw [e0]; exact Ar8.1) (State.isArrayOf_alike hZ.alike Ar8.2.1) (g := (mkF m 1 #[.val (.ref o1), .val (.ref o2), .unset] [(.ref o1)])) rfl rfl (hb hby d15_1) t (by rw [len_of S8 N8n]; exact k)) ?_
      refine step (s₁.setTop (mkF m 3 #[.val (.ref o1), .val (.ref o2), .unset] [(.ref o2), (.int (1 : Int32))])) (fun t k => XS.aloadN X0.here hx rfl (hb hby d15_2) rfl rfl k) ?_
      obtain ⟨cl9, Ar9, q9, S9, N9n, H9, G9⟩ := id V2
      refine step (s₁.setTop (mkF m 4 #[.val (.ref o1), .val (.ref o2), .unset] [(.int (2 : Int32)), (.int (1 : Int32))])) (fun t k => X0.arraylength hx (by rw [e0]; exact Ar9.1) (State.isArrayOf_alike hZ.alike Ar9.2.1) (g := (mkF m 3 #[.val (.ref o1), .val (.ref o2), .unset] [(.ref o2), (.int (1 : Int32))])) rfl rfl (hb hby d15_3) t (by rw [len_of S9 N9n]; exact k)) ?_
      refine step (s₁.setTop (mkF m 34 #[.val (.ref o1), .val (.ref o2), .unset] [])) (fun t k => XS.icmpYes X0.here hx rfl (pc0 := 4) (pc' := 34) rfl (hb hby d15_4) rfl (feq (by decide : ¬ ((1 : Int32) = (2 : Int32)))).2 (by decide) (by decide) k) ?_
      refine step (s₁.setTop (mkF m 35 #[.val (.ref o1), .val (.ref o2), .unset] [(.int (0 : Int32))])) (fun t k => XS.iconst X0.here hx rfl (hb hby d15_34) k) ?_
      refine fin (v := some (.int (nar .boolean (0 : Int32)))) X0 (fun h => by cases h) ?_ (by decide) (by decide) (fun fs hr => retN X0 hx (t := .boolean) hret (by simp) (hb hby d15_35) hr)
      show Q15 Z o1 o2 k1 k2 l1 c1 d1 l2 c2 d2 h0 n0 (some (.int (nar .boolean (0 : Int32)))) s₁.heap _
      rw [e0]
      exact ⟨congrArg (fun z => some (Value.int z)) (by simp only [own_eq, own_n, if_pos g1, if_neg g2]; first | decide | rfl), N0, rfl⟩
  ·
    have V1 : Arv Z h0 o1 k1 .byte (2 : Int32) [(.int (own_B c1)), (.int (own_B d1))] (.int (0 : Int32)) := by have q := A1; simp only [own_n, own_bs, if_neg g1] at q; exact q
    by_cases g2 : l2 = 1
    ·
      have V2 : Arv Z h0 o2 k2 .byte (1 : Int32) [(.int (own_B c2))] (.int (0 : Int32)) := by have q := A2; simp only [own_n, own_bs, if_pos g2] at q; exact q
      refine step (s₁.setTop (mkF m 1 #[.val (.ref o1), .val (.ref o2), .unset] [(.ref o1)])) (fun t k => XS.aloadN X0.here hx rfl (hb hby d15_0) rfl rfl k) ?_
      obtain ⟨cl10, Ar10, q10, S10, N10n, H10, G10⟩ := id V1
      refine step (s₁.setTop (mkF m 2 #[.val (.ref o1), .val (.ref o2), .unset] [(.int (2 : Int32))])) (fun t k => X0.arraylength hx (by rw [e0]; exact Ar10.1) (State.isArrayOf_alike hZ.alike Ar10.2.1) (g := (mkF m 1 #[.val (.ref o1), .val (.ref o2), .unset] [(.ref o1)])) rfl rfl (hb hby d15_1) t (by rw [len_of S10 N10n]; exact k)) ?_
      refine step (s₁.setTop (mkF m 3 #[.val (.ref o1), .val (.ref o2), .unset] [(.ref o2), (.int (2 : Int32))])) (fun t k => XS.aloadN X0.here hx rfl (hb hby d15_2) rfl rfl k) ?_
      obtain ⟨cl11, Ar11, q11, S11, N11n, H11, G11⟩ := id V2
      refine step (s₁.setTop (mkF m 4 #[.val (.ref o1), .val (.ref o2), .unset] [(.int (1 : Int32)), (.int (2 : Int32))])) (fun t k => X0.arraylength hx (by rw [e0]; exact Ar11.1) (State.isArrayOf_alike hZ.alike Ar11.2.1) (g := (mkF m 3 #[.val (.ref o1), .val (.ref o2), .unset] [(.ref o2), (.int (2 : Int32))])) rfl rfl (hb hby d15_3) t (by rw [len_of S11 N11n]; exact k)) ?_
      refine step (s₁.setTop (mkF m 34 #[.val (.ref o1), .val (.ref o2), .unset] [])) (fun t k => XS.icmpYes X0.here hx rfl (pc0 := 4) (pc' := 34) rfl (hb hby d15_4) rfl (feq (by decide : ¬ ((2 : Int32) = (1 : Int32)))).2 (by decide) (by decide) k) ?_
      refine step (s₁.setTop (mkF m 35 #[.val (.ref o1), .val (.ref o2), .unset] [(.int (0 : Int32))])) (fun t k => XS.iconst X0.here hx rfl (hb hby d15_34) k) ?_
      refine fin (v := some (.int (nar .boolean (0 : Int32)))) X0 (fun h => by cases h) ?_ (by decide) (by decide) (fun fs hr => retN X0 hx (t := .boolean) hret (by simp) (hb hby d15_35) hr)
      show Q15 Z o1 o2 k1 k2 l1 c1 d1 l2 c2 d2 h0 n0 (some (.int (nar .boolean (0 : Int32)))) s₁.heap _
      rw [e0]
      exact ⟨congrArg (fun z => some (Value.int z)) (by simp only [own_eq, own_n, if_neg g1, if_pos g2]; first | decide | rfl), N0, rfl⟩
    ·
      have V2 : Arv Z h0 o2 k2 .byte (2 : Int32) [(.int (own_B c2)), (.int (own_B d2))] (.int (0 : Int32)) := by have q := A2; simp only [own_n, own_bs, if_neg g2] at q; exact q
      refine step (s₁.setTop (mkF m 1 #[.val (.ref o1), .val (.ref o2), .unset] [(.ref o1)])) (fun t k => XS.aloadN X0.here hx rfl (hb hby d15_0) rfl rfl k) ?_
      obtain ⟨cl12, Ar12, q12, S12, N12n, H12, G12⟩ := id V1
      refine step (s₁.setTop (mkF m 2 #[.val (.ref o1), .val (.ref o2), .unset] [(.int (2 : Int32))])) (fun t k => X0.arraylength hx (by rw [e0]; exact Ar12.1) (State.isArrayOf_alike hZ.alike Ar12.2.1) (g := (mkF m 1 #[.val (.ref o1), .val (.ref o2), .unset] [(.ref o1)])) rfl rfl (hb hby d15_1) t (by rw [len_of S12 N12n]; exact k)) ?_
      refine step (s₁.setTop (mkF m 3 #[.val (.ref o1), .val (.ref o2), .unset] [(.ref o2), (.int (2 : Int32))])) (fun t k => XS.aloadN X0.here hx rfl (hb hby d15_2) rfl rfl k) ?_
      obtain ⟨cl13, Ar13, q13, S13, N13n, H13, G13⟩ := id V2
      refine step (s₁.setTop (mkF m 4 #[.val (.ref o1), .val (.ref o2), .unset] [(.int (2 : Int32)), (.int (2 : Int32))])) (fun t k => X0.arraylength hx (by rw [e0]; exact Ar13.1) (State.isArrayOf_alike hZ.alike Ar13.2.1) (g := (mkF m 3 #[.val (.ref o1), .val (.ref o2), .unset] [(.ref o2), (.int (2 : Int32))])) rfl rfl (hb hby d15_3) t (by rw [len_of S13 N13n]; exact k)) ?_
      refine step (s₁.setTop (mkF m 7 #[.val (.ref o1), .val (.ref o2), .unset] [])) (fun t k => XS.icmpNo X0.here hx rfl (hb hby d15_4) rfl (teq (by decide : (2 : Int32) = (2 : Int32))).2 k) ?_
      refine step (s₁.setTop (mkF m 8 #[.val (.ref o1), .val (.ref o2), .unset] [(.int (0 : Int32))])) (fun t k => XS.iconst X0.here hx rfl (hb hby d15_7) k) ?_
      refine step (s₁.setTop (mkF m 9 #[.val (.ref o1), .val (.ref o2), .val (.int (0 : Int32))] [])) (fun t k => XS.istoreN X0.here hx rfl (hb hby d15_8) rfl (l' := #[.val (.ref o1), .val (.ref o2), .val (.int (0 : Int32))]) rfl k) ?_
      refine step (s₁.setTop (mkF m 10 #[.val (.ref o1), .val (.ref o2), .val (.int (0 : Int32))] [(.int (0 : Int32))])) (fun t k => XS.iloadN X0.here hx rfl (hb hby d15_9) rfl k) ?_
      refine step (s₁.setTop (mkF m 11 #[.val (.ref o1), .val (.ref o2), .val (.int (0 : Int32))] [(.ref o1), (.int (0 : Int32))])) (fun t k => XS.aloadN X0.here hx rfl (hb hby d15_10) rfl rfl k) ?_
      obtain ⟨cl14, Ar14, q14, S14, N14n, H14, G14⟩ := id V1
      refine step (s₁.setTop (mkF m 12 #[.val (.ref o1), .val (.ref o2), .val (.int (0 : Int32))] [(.int (2 : Int32)), (.int (0 : Int32))])) (fun t k => X0.arraylength hx (by rw [e0]; exact Ar14.1) (State.isArrayOf_alike hZ.alike Ar14.2.1) (g := (mkF m 11 #[.val (.ref o1), .val (.ref o2), .val (.int (0 : Int32))] [(.ref o1), (.int (0 : Int32))])) rfl rfl (hb hby d15_11) t (by rw [len_of S14 N14n]; exact k)) ?_
      refine step (s₁.setTop (mkF m 15 #[.val (.ref o1), .val (.ref o2), .val (.int (0 : Int32))] [])) (fun t k => XS.icmpNo X0.here hx rfl (hb hby d15_12) rfl (tlt (by decide : (0 : Int32) < (2 : Int32))).2.1 k) ?_
      refine step (s₁.setTop (mkF m 16 #[.val (.ref o1), .val (.ref o2), .val (.int (0 : Int32))] [(.ref o1)])) (fun t k => XS.aloadN X0.here hx rfl (hb hby d15_15) rfl rfl k) ?_
      refine step (s₁.setTop (mkF m 17 #[.val (.ref o1), .val (.ref o2), .val (.int (0 : Int32))] [(.int (0 : Int32)), (.ref o1)])) (fun t k => XS.iloadN X0.here hx rfl (hb hby d15_16) rfl k) ?_
      obtain ⟨cl15, Ar15, q15, S15, N15n, H15, G15⟩ := id V1
      have hin15 : ¬ ((0 : Int32) < 0 ∨ cl15.slots.size ≤ ((0 : Int32)).toNatClampNeg) := inb_of S15 ⟨by decide, by decide⟩
      have hat15 : cl15.slots[((0 : Int32)).toNatClampNeg]? = some (.int (own_B c1)) := H15.at hin15 rfl
      refine step (s₁.setTop (mkF m 18 #[.val (.ref o1), .val (.ref o2), .val (.int (0 : Int32))] [(.int (own_B c1))])) (fun t k => X0.baloadBytes hx (j := (0 : Int32)) (v := (.int (own_B c1))) (by rw [e0]; exact Ar15.1) (State.isArrayOf_alike hZ.alike Ar15.2.1) Ar15.2.2 hin15 hat15 (g := (mkF m 17 #[.val (.ref o1), .val (.ref o2), .val (.int (0 : Int32))] [(.int (0 : Int32)), (.ref o1)])) rfl rfl (hb hby d15_17) t k) ?_
      refine step (s₁.setTop (mkF m 19 #[.val (.ref o1), .val (.ref o2), .val (.int (0 : Int32))] [(.ref o2), (.int (own_B c1))])) (fun t k => XS.aloadN X0.here hx rfl (hb hby d15_18) rfl rfl k) ?_
      refine step (s₁.setTop (mkF m 20 #[.val (.ref o1), .val (.ref o2), .val (.int (0 : Int32))] [(.int (0 : Int32)), (.ref o2), (.int (own_B c1))])) (fun t k => XS.iloadN X0.here hx rfl (hb hby d15_19) rfl k) ?_
      obtain ⟨cl16, Ar16, q16, S16, N16n, H16, G16⟩ := id V2
      have hin16 : ¬ ((0 : Int32) < 0 ∨ cl16.slots.size ≤ ((0 : Int32)).toNatClampNeg) := inb_of S16 ⟨by decide, by decide⟩
      have hat16 : cl16.slots[((0 : Int32)).toNatClampNeg]? = some (.int (own_B c2)) := H16.at hin16 rfl
      refine step (s₁.setTop (mkF m 21 #[.val (.ref o1), .val (.ref o2), .val (.int (0 : Int32))] [(.int (own_B c2)), (.int (own_B c1))])) (fun t k => X0.baloadBytes hx (j := (0 : Int32)) (v := (.int (own_B c2))) (by rw [e0]; exact Ar16.1) (State.isArrayOf_alike hZ.alike Ar16.2.1) Ar16.2.2 hin16 hat16 (g := (mkF m 20 #[.val (.ref o1), .val (.ref o2), .val (.int (0 : Int32))] [(.int (0 : Int32)), (.ref o2), (.int (own_B c1))])) rfl rfl (hb hby d15_20) t k) ?_
      by_cases hc21_17 : (own_B c1) = (own_B c2)
      · -- pc 21: (own_B c1) = (own_B c2) True
        refine step (s₁.setTop (mkF m 26 #[.val (.ref o1), .val (.ref o2), .val (.int (0 : Int32))] [])) (fun t k => XS.icmpYes X0.here hx rfl (pc0 := 21) (pc' := 26) rfl (hb hby d15_21) rfl (teq hc21_17).1 (by decide) (by decide) k) ?_
        refine step (s₁.setTop (mkF m 29 #[.val (.ref o1), .val (.ref o2), .val (.int (1 : Int32))] [])) (fun t k => XS.iinc X0.here hx rfl (hb hby d15_26) rfl (l' := #[.val (.ref o1), .val (.ref o2), .val (.int (1 : Int32))]) rfl k) ?_
        refine step (s₁.setTop (mkF m 9 #[.val (.ref o1), .val (.ref o2), .val (.int (1 : Int32))] [])) (fun t k => XS.goto X0.here hx rfl (pc0 := 29) (pc' := 9) rfl (hb hby d15_29) (by decide) (by decide) k) ?_
        refine step (s₁.setTop (mkF m 10 #[.val (.ref o1), .val (.ref o2), .val (.int (1 : Int32))] [(.int (1 : Int32))])) (fun t k => XS.iloadN X0.here hx rfl (hb hby d15_9) rfl k) ?_
        refine step (s₁.setTop (mkF m 11 #[.val (.ref o1), .val (.ref o2), .val (.int (1 : Int32))] [(.ref o1), (.int (1 : Int32))])) (fun t k => XS.aloadN X0.here hx rfl (hb hby d15_10) rfl rfl k) ?_
        obtain ⟨cl18, Ar18, q18, S18, N18n, H18, G18⟩ := id V1
        refine step (s₁.setTop (mkF m 12 #[.val (.ref o1), .val (.ref o2), .val (.int (1 : Int32))] [(.int (2 : Int32)), (.int (1 : Int32))])) (fun t k => X0.arraylength hx (by rw [e0]; exact Ar18.1) (State.isArrayOf_alike hZ.alike Ar18.2.1) (g := (mkF m 11 #[.val (.ref o1), .val (.ref o2), .val (.int (1 : Int32))] [(.ref o1), (.int (1 : Int32))])) rfl rfl (hb hby d15_11) t (by rw [len_of S18 N18n]; exact k)) ?_
        refine step (s₁.setTop (mkF m 15 #[.val (.ref o1), .val (.ref o2), .val (.int (1 : Int32))] [])) (fun t k => XS.icmpNo X0.here hx rfl (hb hby d15_12) rfl (tlt (by decide : (1 : Int32) < (2 : Int32))).2.1 k) ?_
        refine step (s₁.setTop (mkF m 16 #[.val (.ref o1), .val (.ref o2), .val (.int (1 : Int32))] [(.ref o1)])) (fun t k => XS.aloadN X0.here hx rfl (hb hby d15_15) rfl rfl k) ?_
        refine step (s₁.setTop (mkF m 17 #[.val (.ref o1), .val (.ref o2), .val (.int (1 : Int32))] [(.int (1 : Int32)), (.ref o1)])) (fun t k => XS.iloadN X0.here hx rfl (hb hby d15_16) rfl k) ?_
        obtain ⟨cl19, Ar19, q19, S19, N19n, H19, G19⟩ := id V1
        have hin19 : ¬ ((1 : Int32) < 0 ∨ cl19.slots.size ≤ ((1 : Int32)).toNatClampNeg) := inb_of S19 ⟨by decide, by decide⟩
        have hat19 : cl19.slots[((1 : Int32)).toNatClampNeg]? = some (.int (own_B d1)) := H19.at hin19 rfl
        refine step (s₁.setTop (mkF m 18 #[.val (.ref o1), .val (.ref o2), .val (.int (1 : Int32))] [(.int (own_B d1))])) (fun t k => X0.baloadBytes hx (j := (1 : Int32)) (v := (.int (own_B d1))) (by rw [e0]; exact Ar19.1) (State.isArrayOf_alike hZ.alike Ar19.2.1) Ar19.2.2 hin19 hat19 (g := (mkF m 17 #[.val (.ref o1), .val (.ref o2), .val (.int (1 : Int32))] [(.int (1 : Int32)), (.ref o1)])) rfl rfl (hb hby d15_17) t k) ?_
        refine step (s₁.setTop (mkF m 19 #[.val (.ref o1), .val (.ref o2), .val (.int (1 : Int32))] [(.ref o2), (.int (own_B d1))])) (fun t k => XS.aloadN X0.here hx rfl (hb hby d15_18) rfl rfl k) ?_
        refine step (s₁.setTop (mkF m 20 #[.val (.ref o1), .val (.ref o2), .val (.int (1 : Int32))] [(.int (1 : Int32)), (.ref o2), (.int (own_B d1))])) (fun t k => XS.iloadN X0.here hx rfl (hb hby d15_19) rfl k) ?_
        obtain ⟨cl20, Ar20, q20, S20, N20n, H20, G20⟩ := id V2
        have hin20 : ¬ ((1 : Int32) < 0 ∨ cl20.slots.size ≤ ((1 : Int32)).toNatClampNeg) := inb_of S20 ⟨by decide, by decide⟩
        have hat20 : cl20.slots[((1 : Int32)).toNatClampNeg]? = some (.int (own_B d2)) := H20.at hin20 rfl
        refine step (s₁.setTop (mkF m 21 #[.val (.ref o1), .val (.ref o2), .val (.int (1 : Int32))] [(.int (own_B d2)), (.int (own_B d1))])) (fun t k => X0.baloadBytes hx (j := (1 : Int32)) (v := (.int (own_B d2))) (by rw [e0]; exact Ar20.1) (State.isArrayOf_alike hZ.alike Ar20.2.1) Ar20.2.2 hin20 hat20 (g := (mkF m 20 #[.val (.ref o1), .val (.ref o2), .val (.int (1 : Int32))] [(.int (1 : Int32)), (.ref o2), (.int (own_B d1))])) rfl rfl (hb hby d15_20) t k) ?_
        by_cases hc21_21 : (own_B d1) = (own_B d2)
        · -- pc 21: (own_B d1) = (own_B d2) True
          refine step (s₁.setTop (mkF m 26 #[.val (.ref o1), .val (.ref o2), .val (.int (1 : Int32))] [])) (fun t k => XS.icmpYes X0.here hx rfl (pc0 := 21) (pc' := 26) rfl (hb hby d15_21) rfl (teq hc21_21).1 (by decide) (by decide) k) ?_
          refine step (s₁.setTop (mkF m 29 #[.val (.ref o1), .val (.ref o2), .val (.int (2 : Int32))] [])) (fun t k => XS.iinc X0.here hx rfl (hb hby d15_26) rfl (l' := #[.val (.ref o1), .val (.ref o2), .val (.int (2 : Int32))]) rfl k) ?_
          refine step (s₁.setTop (mkF m 9 #[.val (.ref o1), .val (.ref o2), .val (.int (2 : Int32))] [])) (fun t k => XS.goto X0.here hx rfl (pc0 := 29) (pc' := 9) rfl (hb hby d15_29) (by decide) (by decide) k) ?_
          refine step (s₁.setTop (mkF m 10 #[.val (.ref o1), .val (.ref o2), .val (.int (2 : Int32))] [(.int (2 : Int32))])) (fun t k => XS.iloadN X0.here hx rfl (hb hby d15_9) rfl k) ?_
          refine step (s₁.setTop (mkF m 11 #[.val (.ref o1), .val (.ref o2), .val (.int (2 : Int32))] [(.ref o1), (.int (2 : Int32))])) (fun t k => XS.aloadN X0.here hx rfl (hb hby d15_10) rfl rfl k) ?_
          obtain ⟨cl22, Ar22, q22, S22, N22n, H22, G22⟩ := id V1
          refine step (s₁.setTop (mkF m 12 #[.val (.ref o1), .val (.ref o2), .val (.int (2 : Int32))] [(.int (2 : Int32)), (.int (2 : Int32))])) (fun t k => X0.arraylength hx (by rw [e0]; exact Ar22.1) (State.isArrayOf_alike hZ.alike Ar22.2.1) (g := (mkF m 11 #[.val (.ref o1), .val (.ref o2), .val (.int (2 : Int32))] [(.ref o1), (.int (2 : Int32))])) rfl rfl (hb hby d15_11) t (by rw [len_of S22 N22n]; exact k)) ?_
          refine step (s₁.setTop (mkF m 32 #[.val (.ref o1), .val (.ref o2), .val (.int (2 : Int32))] [])) (fun t k => XS.icmpYes X0.here hx rfl (pc0 := 12) (pc' := 32) rfl (hb hby d15_12) rfl (flt (by decide : ¬ ((2 : Int32) < (2 : Int32)))).2.1 (by decide) (by decide) k) ?_
          refine step (s₁.setTop (mkF m 33 #[.val (.ref o1), .val (.ref o2), .val (.int (2 : Int32))] [(.int (1 : Int32))])) (fun t k => XS.iconst X0.here hx rfl (hb hby d15_32) k) ?_
          refine fin (v := some (.int (nar .boolean (1 : Int32)))) X0 (fun h => by cases h) ?_ (by decide) (by decide) (fun fs hr => retN X0 hx (t := .boolean) hret (by simp) (hb hby d15_33) hr)
          show Q15 Z o1 o2 k1 k2 l1 c1 d1 l2 c2 d2 h0 n0 (some (.int (nar .boolean (1 : Int32)))) s₁.heap _
          rw [e0]
          exact ⟨congrArg (fun z => some (Value.int z)) (by simp only [own_eq, own_n, if_neg g1, if_neg g2, if_pos hc21_17, if_pos hc21_21]; first | decide | rfl), N0, rfl⟩
        · -- pc 21: (own_B d1) = (own_B d2) False
          refine step (s₁.setTop (mkF m 24 #[.val (.ref o1), .val (.ref o2), .val (.int (1 : Int32))] [])) (fun t k => XS.icmpNo X0.here hx rfl (hb hby d15_21) rfl (feq hc21_21).1 k) ?_
          refine step (s₁.setTop (mkF m 25 #[.val (.ref o1), .val (.ref o2), .val (.int (1 : Int32))] [(.int (0 : Int32))])) (fun t k => XS.iconst X0.here hx rfl (hb hby d15_24) k) ?_
          refine fin (v := some (.int (nar .boolean (0 : Int32)))) X0 (fun h => by cases h) ?_ (by decide) (by decide) (fun fs hr => retN X0 hx (t := .boolean) hret (by simp) (hb hby d15_25) hr)
          show Q15 Z o1 o2 k1 k2 l1 c1 d1 l2 c2 d2 h0 n0 (some (.int (nar .boolean (0 : Int32)))) s₁.heap _
          rw [e0]
          exact ⟨congrArg (fun z => some (Value.int z)) (by simp only [own_eq, own_n, if_neg g1, if_neg g2, if_pos hc21_17, if_neg hc21_21]; first | decide | rfl), N0, rfl⟩
      · -- pc 21: (own_B c1) = (own_B c2) False
        refine step (s₁.setTop (mkF m 24 #[.val (.ref o1), .val (.ref o2), .val (.int (0 : Int32))] [])) (fun t k => XS.icmpNo X0.here hx rfl (hb hby d15_21) rfl (feq hc21_17).1 k) ?_
        refine step (s₁.setTop (mkF m 25 #[.val (.ref o1), .val (.ref o2), .val (.int (0 : Int32))] [(.int (0 : Int32))])) (fun t k => XS.iconst X0.here hx rfl (hb hby d15_24) k) ?_
        refine fin (v := some (.int (nar .boolean (0 : Int32)))) X0 (fun h => by cases h) ?_ (by decide) (by decide) (fun fs hr => retN X0 hx (t := .boolean) hret (by simp) (hb hby d15_25) hr)
        show Q15 Z o1 o2 k1 k2 l1 c1 d1 l2 c2 d2 h0 n0 (some (.int (nar .boolean (0 : Int32)))) s₁.heap _
        rw [e0]
        exact ⟨congrArg (fun z => some (Value.int z)) (by simp only [own_eq, own_n, if_neg g1, if_neg g2, if_neg hc21_17]; first | decide | rfl), N0, rfl⟩
theorem own_Binv : ∀ k : Fin 256, (own_B (Int32.ofNat k.1) &&& (255 : Int32)) = Int32.ofNat k.1 := by decide +kernel
theorem own_Bi (c : Int32) (h : 0 ≤ c.toInt ∧ c.toInt ≤ 255) : (own_B c &&& (255 : Int32)) = c := by
  obtain ⟨k, rfl⟩ : ∃ k : Fin 256, c = Int32.ofNat k.1 := ⟨⟨c.toInt.toNat, by omega⟩, Int32.toInt_inj.mp (by rw [Int32.toInt_ofNat_small (by show c.toInt.toNat < _; omega)]; show c.toInt = (c.toInt.toNat : Int); omega)⟩
  exact own_Binv k
theorem own_Beq (c d : Int32) (h : 0 ≤ c.toInt ∧ c.toInt ≤ 255) (h' : 0 ≤ d.toInt ∧ d.toInt ≤ 255) : (own_B c = own_B d) = (c = d) :=
  propext ⟨fun q => by rw [← own_Bi c h, ← own_Bi d h', q], fun q => by rw [q]⟩
theorem own_chr (x y : Int32) (h : ((x &&& (255 : Int32)).toUInt32.toUInt16.toUInt32.toInt32) = y) : 0 ≤ y.toInt ∧ y.toInt ≤ 255 := by
  have h1 := own_255 x y h
  have h0 := (c_i2c (x &&& 255)).2.1
  rw [h] at h0
  rw [Int32.lt_iff_toInt_lt] at h1
  have e : (255 : Int32).toInt = 255 := by decide
  omega
theorem own_len (x y : Int32) (h : ((1 : Int32) + (x &&& (1 : Int32))) = y) : y = 1 ∨ y = 2 := by
  have h1 := c_mask x 1 1 (by decide) (by decide)
  have h2 : (x &&& (1 : Int32)) = 0 ∨ (x &&& (1 : Int32)) = 1 := by
    rw [← Int32.toInt_inj, ← Int32.toInt_inj, show (0 : Int32).toInt = 0 by decide, show (1 : Int32).toInt = 1 by decide]
    omega
  rcases h2 with e | e <;> rw [e] at h <;> subst h <;> decide
theorem own_sm {l c d l' c' d' : Int32} (hl : l = 1 ∨ l = 2) (hl' : l' = 1 ∨ l' = 2) (hc : 0 ≤ c.toInt ∧ c.toInt ≤ 255) (hd : 0 ≤ d.toInt ∧ d.toInt ≤ 255) (hc' : 0 ≤ c'.toInt ∧ c'.toInt ≤ 255) (hd' : 0 ≤ d'.toInt ∧ d'.toInt ≤ 255) : own_eq l c d l' c' d' = (if l = l' then (if c = c' then (if l = (1 : Int32) then (1 : Int32) else (if d = d' then (1 : Int32) else (0 : Int32))) else (0 : Int32)) else (0 : Int32)) := by
  have e : ∀ l : Int32, l = 1 ∨ l = 2 → own_n l = l := fun l h => by rcases h with rfl | rfl <;> rfl
  unfold own_eq
  simp only [own_Beq c c' hc hc', own_Beq d d' hd hd', e l hl, e l' hl']
theorem own_sym (l c d l' c' d' : Int32) (hl : l = 1 ∨ l = 2) (hl' : l' = 1 ∨ l' = 2) : own_eq l' c' d' l c d = own_eq l c d l' c' d' := by
  unfold own_eq
  by_cases h : own_n l = own_n l'
  · have e : l = l' := by
      rcases hl with rfl | rfl <;> rcases hl' with rfl | rfl <;> first | rfl | exact absurd h (by decide)
    subst e
    simp only [eq_comm (a := own_B c') (b := own_B c), eq_comm (a := own_B d') (b := own_B d)]
  · rw [if_neg h, if_neg (fun q => h q.symm)]
theorem pd_6 : parseMethodDescriptor "(ICC)Ljava/lang/String;" = some ⟨[.int, .char, .char], some (.object "java/lang/String")⟩ := by decide +kernel
theorem pd_7 : parseMethodDescriptor "(Ljava/lang/String;Ljava/lang/String;)V" = some ⟨[(.object "java/lang/String"), (.object "java/lang/String")], none⟩ := by decide +kernel
theorem pd_8 : parseMethodDescriptor "(Ljava/lang/Object;)Z" = some ⟨[(.object "java/lang/Object")], some .boolean⟩ := by decide +kernel
theorem pd_9 : parseMethodDescriptor "(ICCICC)Z" = some ⟨[.int, .char, .char, .int, .char, .char], some .boolean⟩ := by decide +kernel
theorem d8_0 : decode prog_16_method_1_code 0 = .ok (.aload_n 0, 1) := by decide +kernel
theorem d8_1 : decode prog_16_method_1_code 1 = .ok (.invokespecial 1, 3) := by decide +kernel
theorem d8_4 : decode prog_16_method_1_code 4 = .ok (.ldc 7, 2) := by decide +kernel
theorem d8_6 : decode prog_16_method_1_code 6 = .ok (.ldc 9, 2) := by decide +kernel
theorem d8_8 : decode prog_16_method_1_code 8 = .ok (.aload_n 1, 1) := by decide +kernel
theorem d8_9 : decode prog_16_method_1_code 9 = .ok (.invokestatic 11, 3) := by decide +kernel
theorem d8_12 : decode prog_16_method_1_code 12 = .ok (.ldc 7, 2) := by decide +kernel
theorem d8_14 : decode prog_16_method_1_code 14 = .ok (.ldc 17, 2) := by decide +kernel
theorem d8_16 : decode prog_16_method_1_code 16 = .ok (.aload_n 2, 1) := by decide +kernel
theorem d8_17 : decode prog_16_method_1_code 17 = .ok (.invokestatic 11, 3) := by decide +kernel
theorem d8_20 : decode prog_16_method_1_code 20 = .ok (.aload_n 0, 1) := by decide +kernel
theorem d8_21 : decode prog_16_method_1_code 21 = .ok (.aload_n 1, 1) := by decide +kernel
theorem d8_22 : decode prog_16_method_1_code 22 = .ok (.putfield 19, 3) := by decide +kernel
theorem d8_25 : decode prog_16_method_1_code 25 = .ok (.aload_n 0, 1) := by decide +kernel
theorem d8_26 : decode prog_16_method_1_code 26 = .ok (.aload_n 2, 1) := by decide +kernel
theorem d8_27 : decode prog_16_method_1_code 27 = .ok (.putfield 24, 3) := by decide +kernel
theorem d8_30 : decode prog_16_method_1_code 30 = .ok (.return_, 1) := by decide +kernel
theorem pn_4 : plainName "com/example/vertex_to_service/vertextoservice/core/Edge" = true := by first | (simp [plainName, overriddenIn]; done) | decide +kernel
theorem pd_10 : parseMethodDescriptor "(Ljava/lang/String;Ljava/lang/String;Ljava/lang/String;)V" = some ⟨[(.object "java/lang/String"), (.object "java/lang/String"), (.object "java/lang/String")], none⟩ := by decide +kernel
theorem d9_0 : decode jdk_30_method_1_code 0 = .ok (.aload_n 0, 1) := by decide +kernel
theorem d9_1 : decode jdk_30_method_1_code 1 = .ok (.invokespecial 1, 3) := by decide +kernel
theorem d9_4 : decode jdk_30_method_1_code 4 = .ok (.return_, 1) := by decide +kernel
theorem pn_5 : plainName "java/lang/Record" = true := by first | (simp [plainName, overriddenIn]; done) | decide +kernel
theorem ef_9_12 (m : MethodId) (x0 : Addr) : entryFrame m #[(.ref x0)] 1 = mkF m 0 #[.val (.ref x0)] [] := by first | (simp [entryFrame, mkF, argsToLocals, Value.category]; done) | rfl
def Q9_12 (Z : State) (o1 : Addr) (h0 : Heap) (n0 : Nat) (v : Option Value) (h : Heap) (L : List Loc) : Prop := v = none ∧ Fr n0 L ∧ h = h0
set_option maxRecDepth 65536 in
set_option maxHeartbeats 40000000 in
theorem rm9_12 (l : Launch) (Z : State) (a0 : Array Value) (hw : ∀ d ∈ tables_1, d.before a0 Z = true) (ws : List Jvm.Cond) (o1 : Addr) (h0 : Heap) (n0 : Nat) (Z0 : n0 ≤ h0.size) (Pm0 : Exa Z h0 o1 "com/example/vertex_to_service/vertextoservice/core/Edge") (gn_o1 : n0 ≤ o1)  :
    MetFree l (⟨"java/lang/Record", "<init>", "()V"⟩ : MethodName) (head1 (Jvm.Cond.code (⟨"java/lang/Record", "<init>", "()V"⟩ : MethodName) jdk_30_method_1_code 1 none :: ws) ({ frames := 1, cells := 0, slots := 0, locals := 12 } : Room)) (fun a U => a = #[(.ref o1)] ∧ Z.Warmed39 U.vm ∧ U.heap = h0) (fun _ _ _ _ _ => True) (fun _ U o U' => ∃ v L, o = .returned v ∧ Q9_12 Z o1 h0 n0 v U'.heap L ∧ FrameEnd U o U' L ({ frames := 1, cells := 0, slots := 0, locals := 12 } : Room).cells ({ frames := 1, cells := 0, slots := 0, locals := 12 } : Room).slots) := by
  refine own_body (plainFor_of_name pn_5) ?_
  intro p e s m below meth c s₁ G hx hby hml hZ hown hnm hret X0 e0 step fin
  replace hown : s.vm.findClass "java/lang/Record" = some m.cls := hown
  replace hnm : meth.name = "<init>" := hnm
  replace hret : meth.sig.returnType = none := hret
  replace hml : c.maxLocals = 1 := hml
  have N0 := Fr.nil n0
  refine step (s₁.setTop (mkF m 0 #[.val (.ref o1)] [])) (fun t k => castTop (ef_9_12 m o1) k) ?_
  refine step (s₁.setTop (mkF m 1 #[.val (.ref o1)] [(.ref o1)])) (fun t k => XS.aloadN X0.here hx rfl (hb hby d9_0) rfl rfl k) ?_
  obtain ⟨T1, X1, e1, st1⟩ := initO X0 hx hZ hown (hw _ (List.mem_of_getElem? (i := 45) rfl)) (hw _ (List.mem_of_getElem? (i := 19) rfl)) (hw _ (List.mem_of_getElem? (i := 20) rfl)) e0 (g := (mkF m 1 #[.val (.ref o1)] [(.ref o1)])) rfl (by rw [hml]; rfl) rfl (hb hby d9_1) (by decide) (W := 0) (by show 2 * 0 + _ ≤ _; exact Nat.le_of_eq rfl) (by decide)
  refine step (T1.setTop (mkF m 4 #[.val (.ref o1)] [])) (fun t k => st1 t k) ?_
  refine fin (v := none) X1 (fun _ => rfl) ?_ (by decide) (by decide) (fun fs hr => X1.returnOut hx hret (hb hby d9_4) hr)
  show Q9_12 Z o1 h0 n0 (none) T1.heap _
  rw [e1]
  exact ⟨rfl, N0, rfl⟩
theorem d10_0 : decode prog_9_method_5_code 0 = .ok (.aload_n 2, 1) := by decide +kernel
theorem d10_1 : decode prog_9_method_5_code 1 = .ok (.ifnull 10, 3) := by decide +kernel
theorem d10_4 : decode prog_9_method_5_code 4 = .ok (.aload_n 2, 1) := by decide +kernel
theorem d10_5 : decode prog_9_method_5_code 5 = .ok (.invokevirtual 27, 3) := by decide +kernel
theorem d10_8 : decode prog_9_method_5_code 8 = .ok (.ifCond .eq 18, 3) := by decide +kernel
theorem d10_11 : decode prog_9_method_5_code 11 = .ok (.new 13, 3) := by decide +kernel
theorem d10_14 : decode prog_9_method_5_code 14 = .ok (.dup, 1) := by decide +kernel
theorem d10_15 : decode prog_9_method_5_code 15 = .ok (.aload_n 0, 1) := by decide +kernel
theorem d10_16 : decode prog_9_method_5_code 16 = .ok (.aload_n 1, 1) := by decide +kernel
theorem d10_17 : decode prog_9_method_5_code 17 = .ok (.invokedynamic 33, 5) := by decide +kernel
theorem d10_22 : decode prog_9_method_5_code 22 = .ok (.invokespecial 19, 3) := by decide +kernel
theorem d10_25 : decode prog_9_method_5_code 25 = .ok (.athrow, 1) := by decide +kernel
theorem d10_26 : decode prog_9_method_5_code 26 = .ok (.return_, 1) := by decide +kernel
theorem pn_6 : plainName "com/example/vertex_to_service/vertextoservice/core/Checks" = true := by first | (simp [plainName, overriddenIn]; done) | decide +kernel
theorem pd_11 : parseMethodDescriptor "()Z" = some ⟨[], some .boolean⟩ := by decide +kernel
theorem d11_0 : decode jdk_42_method_55_code 0 = .ok (.aload_n 0, 1) := by decide +kernel
theorem d11_1 : decode jdk_42_method_55_code 1 = .ok (.getfield 9, 3) := by decide +kernel
theorem d11_4 : decode jdk_42_method_55_code 4 = .ok (.arraylength, 1) := by decide +kernel
theorem d11_5 : decode jdk_42_method_55_code 5 = .ok (.ifCond .ne 7, 3) := by decide +kernel
theorem d11_8 : decode jdk_42_method_55_code 8 = .ok (.iconst 1, 1) := by decide +kernel
theorem d11_9 : decode jdk_42_method_55_code 9 = .ok (.goto 4, 3) := by decide +kernel
theorem d11_12 : decode jdk_42_method_55_code 12 = .ok (.iconst 0, 1) := by decide +kernel
theorem d11_13 : decode jdk_42_method_55_code 13 = .ok (.ireturn, 1) := by decide +kernel
theorem ef_11_14 (m : MethodId) (x0 : Addr) : entryFrame m #[(.ref x0)] 1 = mkF m 0 #[.val (.ref x0)] [] := by first | (simp [entryFrame, mkF, argsToLocals, Value.category]; done) | rfl
def Q11_14 (Z : State) (o1 : Addr) (o2 : Addr) (kc1 : ClassId) (i2 : Int32) (i3 : Int32) (i4 : Int32) (h0 : Heap) (n0 : Nat) (v : Option Value) (h : Heap) (L : List Loc) : Prop := v = some (.int (0 : Int32)) ∧ Fr n0 L ∧ h = h0
set_option maxRecDepth 65536 in
set_option maxHeartbeats 40000000 in
theorem rm11_14 (l : Launch) (Z : State) (a0 : Array Value) (hw : ∀ d ∈ tables_1, d.before a0 Z = true) (ws : List Jvm.Cond) (o1 : Addr) (o2 : Addr) (kc1 : ClassId) (i2 : Int32) (i3 : Int32) (i4 : Int32) (h0 : Heap) (n0 : Nat) (Z0 : n0 ≤ h0.size) (Pm0 : Exa Z h0 o1 "java/lang/String") (Pm1 : Fld Z h0 o1 "java/lang/String" "value" "[B" (.ref o2)) (Pm2 : Arv Z h0 o2 kc1 .byte (own_n i2) (own_bs i2 i3 i4) (.int (0 : Int32))) (gn_o1 : n0 ≤ o1) (ne_o1_o2 : o1 ≠ o2) (gn_o2 : n0 ≤ o2) (hy6 : ¬ ((255 : Int32) < (nar .char i3))) (hy7 : ¬ ((255 : Int32) < (nar .char i4))) (hy8 : ¬ ((own_n i2) = (0 : Int32)))  :
    MetFree l (⟨"java/lang/String", "isEmpty", "()Z"⟩ : MethodName) (head1 (Jvm.Cond.code (⟨"java/lang/String", "isEmpty", "()Z"⟩ : MethodName) jdk_42_method_55_code 1 (some .boolean) :: ws) ({ frames := 0, cells := 0, slots := 0, locals := 0 } : Room)) (fun a U => a = #[(.ref o1)] ∧ Z.Warmed39 U.vm ∧ U.heap = h0) (fun _ _ _ _ _ => True) (fun _ U o U' => ∃ v L, o = .returned v ∧ Q11_14 Z o1 o2 kc1 i2 i3 i4 h0 n0 v U'.heap L ∧ FrameEnd U o U' L ({ frames := 0, cells := 0, slots := 0, locals := 0 } : Room).cells ({ frames := 0, cells := 0, slots := 0, locals := 0 } : Room).slots) := by
  refine own_body (plainFor_of_name pn_1) ?_
  intro p e s m below meth c s₁ G hx hby hml hZ hown hnm hret X0 e0 step fin
  replace hown : s.vm.findClass "java/lang/String" = some m.cls := hown
  replace hnm : meth.name = "isEmpty" := hnm
  replace hret : meth.sig.returnType = some .boolean := hret
  replace hml : c.maxLocals = 1 := hml
  have N0 := Fr.nil n0
  refine step (s₁.setTop (mkF m 0 #[.val (.ref o1)] [])) (fun t k => castTop (ef_11_14 m o1) k) ?_
  refine step (s₁.setTop (mkF m 1 #[.val (.ref o1)] [(.ref o1)])) (fun t k => XS.aloadN X0.here hx rfl (hb hby d11_0) rfl rfl k) ?_
  obtain ⟨T1, X1, e1, st1⟩ := getF X0 hx hZ hown (host := "") (Or.inl (hw _ (List.mem_of_getElem? (i := 35) rfl))) Via.refl e0 Pm1 (g := (mkF m 1 #[.val (.ref o1)] [(.ref o1)])) rfl rfl (hb hby d11_1)
  refine step (T1.setTop (mkF m 4 #[.val (.ref o1)] [(.ref o2)])) (fun t k => st1 t k) ?_
  obtain ⟨cl2, Ar2, q2, S2, N2n, H2, G2⟩ := id Pm2
  refine step (T1.setTop (mkF m 5 #[.val (.ref o1)] [(.int (own_n i2))])) (fun t k => X1.arraylength hx (by rw [e1]; exact Ar2.1) (State.isArrayOf_alike hZ.alike Ar2.2.1) (g := (mkF m 4 #[.val (.ref o1)] [(.ref o2)])) rfl rfl (hb hby d11_4) t (by rw [len_of S2 N2n]; exact k)) ?_
  have hc5_3 : ¬ ((own_n i2) = (0 : Int32)) := hy8
  refine step (T1.setTop (mkF m 12 #[.val (.ref o1)] [])) (fun t k => XS.ifYes X1.here hx rfl (pc0 := 5) (pc' := 12) rfl (hb hby d11_5) rfl ((if0 _ _).trans (feq hc5_3).2) (by decide) (by decide) k) ?_
  refine step (T1.setTop (mkF m 13 #[.val (.ref o1)] [(.int (0 : Int32))])) (fun t k => XS.iconst X1.here hx rfl (hb hby d11_12) k) ?_
  refine fin (v := some (.int (nar .boolean (0 : Int32)))) X1 (fun h => by cases h) ?_ (by decide) (by decide) (fun fs hr => retN X1 hx (t := .boolean) hret (by simp) (hb hby d11_13) hr)
  show Q11_14 Z o1 o2 kc1 i2 i3 i4 h0 n0 (some (.int (nar .boolean (0 : Int32)))) T1.heap _
  rw [e1]
  exact ⟨rfl, N0, rfl⟩
theorem ef_10_13 (m : MethodId) (x0 : Addr) (x1 : Addr) (x2 : Addr) : entryFrame m #[(.ref x0), (.ref x1), (.ref x2)] 3 = mkF m 0 #[.val (.ref x0), .val (.ref x1), .val (.ref x2)] [] := by first | (simp [entryFrame, mkF, argsToLocals, Value.category]; done) | rfl
def Q10_13 (Z : State) (o1 : Addr) (o2 : Addr) (o3 : Addr) (o4 : Addr) (kc1 : ClassId) (i2 : Int32) (i3 : Int32) (i4 : Int32) (h0 : Heap) (n0 : Nat) (v : Option Value) (h : Heap) (L : List Loc) : Prop := v = none ∧ Fr n0 L ∧ h = h0
set_option maxRecDepth 65536 in
set_option maxHeartbeats 40000000 in
theorem rm10_13 (l : Launch) (Z : State) (a0 : Array Value) (hw : ∀ d ∈ tables_1, d.before a0 Z = true) (ws : List Jvm.Cond) (o1 : Addr) (o2 : Addr) (o3 : Addr) (o4 : Addr) (kc1 : ClassId) (i2 : Int32) (i3 : Int32) (i4 : Int32) (h0 : Heap) (n0 : Nat) (Z0 : n0 ≤ h0.size) (Pm0 : Exa Z h0 o3 "java/lang/String") (Pm1 : Fld Z h0 o3 "java/lang/String" "value" "[B" (.ref o4)) (Pm2 : Arv Z h0 o4 kc1 .byte (own_n i2) (own_bs i2 i3 i4) (.int (0 : Int32))) (gn_o3 : n0 ≤ o3) (ne_o3_o4 : o3 ≠ o4) (gn_o4 : n0 ≤ o4) (hy6 : ¬ ((255 : Int32) < (nar .char i3))) (hy7 : ¬ ((255 : Int32) < (nar .char i4))) (hy8 : ¬ ((own_n i2) = (0 : Int32)))  :
    MetFree l (⟨"com/example/vertex_to_service/vertextoservice/core/Checks", "nonEmpty", "(Ljava/lang/String;Ljava/lang/String;Ljava/lang/String;)V"⟩ : MethodName) (head1 (Jvm.Cond.code (⟨"com/example/vertex_to_service/vertextoservice/core/Checks", "nonEmpty", "(Ljava/lang/String;Ljava/lang/String;Ljava/lang/String;)V"⟩ : MethodName) prog_9_method_5_code 3 none :: ws) ({ frames := 1, cells := 0, slots := 0, locals := 12 } : Room)) (fun a U => a = #[(.ref o1), (.ref o2), (.ref o3)] ∧ Z.Warmed39 U.vm ∧ U.heap = h0) (fun _ _ _ _ _ => True) (fun _ U o U' => ∃ v L, o = .returned v ∧ Q10_13 Z o1 o2 o3 o4 kc1 i2 i3 i4 h0 n0 v U'.heap L ∧ FrameEnd U o U' L ({ frames := 1, cells := 0, slots := 0, locals := 12 } : Room).cells ({ frames := 1, cells := 0, slots := 0, locals := 12 } : Room).slots) := by
  refine own_body (plainFor_of_name pn_6) ?_
  intro p e s m below meth c s₁ G hx hby hml hZ hown hnm hret X0 e0 step fin
  replace hown : s.vm.findClass "com/example/vertex_to_service/vertextoservice/core/Checks" = some m.cls := hown
  replace hnm : meth.name = "nonEmpty" := hnm
  replace hret : meth.sig.returnType = none := hret
  replace hml : c.maxLocals = 3 := hml
  have N0 := Fr.nil n0
  refine step (s₁.setTop (mkF m 0 #[.val (.ref o1), .val (.ref o2), .val (.ref o3)] [])) (fun t k => castTop (ef_10_13 m o1 o2 o3) k) ?_
  refine step (s₁.setTop (mkF m 1 #[.val (.ref o1), .val (.ref o2), .val (.ref o3)] [(.ref o3)])) (fun t k => XS.aloadN X0.here hx rfl (hb hby d10_0) rfl rfl k) ?_
  refine step (s₁.setTop (mkF m 4 #[.val (.ref o1), .val (.ref o2), .val (.ref o3)] [])) (fun t k => XS.ifnullNo X0.here hx rfl (hb hby d10_1) rfl k) ?_
  refine step (s₁.setTop (mkF m 5 #[.val (.ref o1), .val (.ref o2), .val (.ref o3)] [(.ref o3)])) (fun t k => XS.aloadN X0.here hx rfl (hb hby d10_4) rfl rfl k) ?_
  obtain ⟨cq1, kq1, q1a, q1b, q1c⟩ := isOf hZ e0 Pm0
  obtain ⟨_, _, ⟨T1, L1, k1, n1⟩, -, X1, ⟨Lc1, hQ1, l1, y1, z1⟩, st1⟩ := X0.virtualBack hx (y := (⟨"java/lang/String", "isEmpty", "()Z"⟩ : MethodName)) (z := (⟨"java/lang/String", "isEmpty", "()Z"⟩ : MethodName)) hown (mvT hZ (hw _ (List.mem_of_getElem? (i := 54) rfl))) (mvT hZ (hw _ (List.mem_of_getElem? (i := 55) rfl))) (notFace_of_selects (args := #[]) (mvT hZ (hw _ (List.mem_of_getElem? (i := 57) rfl)))) (mvT hZ (hw _ (List.mem_of_getElem? (i := 57) rfl))) (mvT hZ (hw _ (List.mem_of_getElem? (i := 56) rfl))) (by decide) (backOf (W := 0) (rm11_14 l Z a0 hw [] o3 o4 kc1 i2 i3 i4 h0 n0 Z0 Pm0 Pm1 Pm2 gn_o3 ne_o3_o4 gn_o4 hy6 hy7 hy8) hZ (hw _ (List.mem_of_getElem? (i := 58) rfl)) (hw _ (List.mem_of_getElem? (i := 9) rfl)) (by decide) (by decide)) q1a q1c (g := (mkF m 5 #[.val (.ref o1), .val (.ref o2), .val (.ref o3)] [(.ref o3)])) rfl (by rw [hml]; rfl) (Steps.refl _) (argsL := []) (rest := []) (lenOf pd_11 rfl) rfl (by show 2 * 0 + _ ≤ _; exact Nat.le_of_eq rfl) (hb hby d10_5) (fun _ _ => ⟨rfl, e0, (by decide : 0 + 0 ≤ _), (by decide : 0 + 0 ≤ _)⟩)
  dsimp only [Pt.U, Pt.locs, Pt.cells, Pt.slots] at X1 l1 y1 z1 st1 hQ1
  subst l1 y1 z1
  obtain ⟨rfl, N1q, e1q⟩ := hQ1
  have N1 := Fr.app N0 N1q
  refine step (T1.setTop (mkF m 8 #[.val (.ref o1), .val (.ref o2), .val (.ref o3)] [(.int (0 : Int32))])) (fun t k => st1.trans k) ?_
  refine step (T1.setTop (mkF m 26 #[.val (.ref o1), .val (.ref o2), .val (.ref o3)] [])) (fun t k => XS.ifYes X1.here hx rfl (pc0 := 8) (pc' := 26) rfl (hb hby d10_8) rfl ((if0 _ _).trans (teq (by decide : (0 : Int32) = (0 : Int32))).1) (by decide) (by decide) k) ?_
  refine fin (v := none) X1 (fun _ => rfl) ?_ (by decide) (by decide) (fun fs hr => X1.returnOut hx hret (hb hby d10_26) hr)
  show Q10_13 Z o1 o2 o3 o4 kc1 i2 i3 i4 h0 n0 (none) T1.heap _
  rw [e1q]
  exact ⟨rfl, N1, rfl⟩
theorem ef_8_11 (m : MethodId) (x0 : Addr) (x1 : Addr) (x2 : Addr) : entryFrame m #[(.ref x0), (.ref x1), (.ref x2)] 3 = mkF m 0 #[.val (.ref x0), .val (.ref x1), .val (.ref x2)] [] := by first | (simp [entryFrame, mkF, argsToLocals, Value.category]; done) | rfl
def Q8_11 (Z : State) (o1 : Addr) (o2 : Addr) (o3 : Addr) (o4 : Addr) (o5 : Addr) (kc1 : ClassId) (i2 : Int32) (i3 : Int32) (i4 : Int32) (kc5 : ClassId) (i6 : Int32) (i7 : Int32) (i8 : Int32) (h0 : Heap) (n0 : Nat) (v : Option Value) (h : Heap) (L : List Loc) : Prop := v = none ∧ Fr n0 L ∧ Keep h0 h [o1] ∧ Fld Z h o1 "com/example/vertex_to_service/vertextoservice/core/Edge" "from" "Ljava/lang/String;" (.ref o2) ∧ Fld Z h o1 "com/example/vertex_to_service/vertextoservice/core/Edge" "to" "Ljava/lang/String;" (.ref o3)
set_option maxRecDepth 65536 in
set_option maxHeartbeats 40000000 in
theorem rm8_11 (l : Launch) (Z : State) (a0 : Array Value) (hw : ∀ d ∈ tables_1, d.before a0 Z = true) (ws : List Jvm.Cond) (o1 : Addr) (o2 : Addr) (o3 : Addr) (o4 : Addr) (o5 : Addr) (kc1 : ClassId) (i2 : Int32) (i3 : Int32) (i4 : Int32) (kc5 : ClassId) (i6 : Int32) (i7 : Int32) (i8 : Int32) (h0 : Heap) (n0 : Nat) (Z0 : n0 ≤ h0.size) (Pm0 : Exa Z h0 o1 "com/example/vertex_to_service/vertextoservice/core/Edge") (Pm1 : Fld Z h0 o1 "com/example/vertex_to_service/vertextoservice/core/Edge" "from" "Ljava/lang/String;" .null) (Pm2 : Fld Z h0 o1 "com/example/vertex_to_service/vertextoservice/core/Edge" "to" "Ljava/lang/String;" .null) (Pm3 : Exa Z h0 o2 "java/lang/String") (Pm4 : Fld Z h0 o2 "java/lang/String" "value" "[B" (.ref o4)) (Pm5 : Exa Z h0 o3 "java/lang/String") (Pm6 : Fld Z h0 o3 "java/lang/String" "value" "[B" (.ref o5)) (Pm7 : Arv Z h0 o4 kc1 .byte (own_n i2) (own_bs i2 i3 i4) (.int (0 : Int32))) (Pm8 : Arv Z h0 o5 kc5 .byte (own_n i6) (own_bs i6 i7 i8) (.int (0 : Int32))) (gn_o1 : n0 ≤ o1) (ne_o1_o2 : o1 ≠ o2) (ne_o1_o3 : o1 ≠ o3) (ne_o1_o4 : o1 ≠ o4) (ne_o1_o5 : o1 ≠ o5) (gn_o2 : n0 ≤ o2) (ne_o2_o3 : o2 ≠ o3) (ne_o2_o4 : o2 ≠ o4) (ne_o2_o5 : o2 ≠ o5) (gn_o3 : n0 ≤ o3) (ne_o3_o4 : o3 ≠ o4) (ne_o3_o5 : o3 ≠ o5) (gn_o4 : n0 ≤ o4) (ne_o4_o5 : o4 ≠ o5) (gn_o5 : n0 ≤ o5) (hy24 : ¬ ((255 : Int32) < (nar .char i3))) (hy25 : ¬ ((255 : Int32) < (nar .char i4))) (hy26 : ¬ ((255 : Int32) < (nar .char i7))) (hy27 : ¬ ((255 : Int32) < (nar .char i8))) (hy28 : ¬ ((own_n i2) = (0 : Int32))) (hy29 : ¬ ((own_n i6) = (0 : Int32)))  :
    MetFree l (⟨"com/example/vertex_to_service/vertextoservice/core/Edge", "<init>", "(Ljava/lang/String;Ljava/lang/String;)V"⟩ : MethodName) (head1 (Jvm.Cond.code (⟨"com/example/vertex_to_service/vertextoservice/core/Edge", "<init>", "(Ljava/lang/String;Ljava/lang/String;)V"⟩ : MethodName) prog_16_method_1_code 3 none :: ws) ({ frames := 2, cells := 8, slots := 72, locals := 26 } : Room)) (fun a U => a = #[(.ref o1), (.ref o2), (.ref o3)] ∧ Z.Warmed39 U.vm ∧ U.heap = h0) (fun _ _ _ _ _ => True) (fun _ U o U' => ∃ v L, o = .returned v ∧ Q8_11 Z o1 o2 o3 o4 o5 kc1 i2 i3 i4 kc5 i6 i7 i8 h0 n0 v U'.heap L ∧ ReturnedEndW U o U' L ({ frames := 2, cells := 8, slots := 72, locals := 26 } : Room).cells ({ frames := 2, cells := 8, slots := 72, locals := 26 } : Room).slots) := by
  refine own_bodyW (plainFor_of_name pn_4) ?_
  intro p e s m below meth c s₁ G vm0 k0 hx hby hml hZ hown hnm hret hS hk X0 e0 step fin
  replace hown : vm0.findClass "com/example/vertex_to_service/vertextoservice/core/Edge" = some m.cls := hown
  replace hnm : meth.name = "<init>" := hnm
  replace hret : meth.sig.returnType = none := hret
  replace hml : c.maxLocals = 3 := hml
  have N0 := Fr.nil n0
  refine step (s₁.setTop (mkF m 0 #[.val (.ref o1), .val (.ref o2), .val (.ref o3)] [])) (fun t k => castTop (ef_8_11 m o1 o2 o3) k) ?_
  refine step (s₁.setTop (mkF m 1 #[.val (.ref o1), .val (.ref o2), .val (.ref o3)] [(.ref o1)])) (fun t k => XS.aloadN X0.here hx rfl (hb hby d8_0) rfl rfl k) ?_
  obtain ⟨_, _, ⟨T1, L1, k1, n1⟩, -, X1, ⟨Lc1, hQ1, l1, y1, z1⟩, st1⟩ := X0.specialBack hx (y := (⟨"java/lang/Record", "<init>", "()V"⟩ : MethodName)) rfl hown (mvT hZ (hw _ (List.mem_of_getElem? (i := 40) rfl))) (mvT hZ (hw _ (List.mem_of_getElem? (i := 41) rfl))) (mvT hZ (hw _ (List.mem_of_getElem? (i := 44) rfl))) (by decide) (backOf (W := 0) (rm9_12 l Z a0 hw [] o1 h0 n0 Z0 Pm0 gn_o1) hZ (hw _ (List.mem_of_getElem? (i := 44) rfl)) (hw _ (List.mem_of_getElem? (i := 43) rfl)) (by decide) (by decide)) (g := (mkF m 1 #[.val (.ref o1), .val (.ref o2), .val (.ref o3)] [(.ref o1)])) rfl (by rw [hml]; rfl) (Steps.refl _) (a := o1) (argsL := []) (rest := []) (lenOf pd_2 rfl) rfl (by show 2 * 0 + _ ≤ _; exact Nat.le_of_eq rfl) (hb hby d8_1) (fun _ _ => ⟨rfl, e0, (by decide : 0 + 0 ≤ _), (by decide : 0 + 0 ≤ _)⟩)
  dsimp only [Pt.U, Pt.locs, Pt.cells, Pt.slots] at X1 l1 y1 z1 st1 hQ1
  subst l1 y1 z1
  obtain ⟨rfl, N1q, e1q⟩ := hQ1
  have N1 := Fr.app N0 N1q
  refine step (T1.setTop (mkF m 4 #[.val (.ref o1), .val (.ref o2), .val (.ref o3)] [])) (fun t k => st1.trans k) ?_
  obtain ⟨a2, T2, h2, kk2, X2, e2, E2, hS2, hk2, hZ2, hown2, st2⟩ := ldcS X1 hx hZ hown (hw _ (List.mem_of_getElem? (i := 46) rfl)) (own_wS hw) e1q hS hk (g := (mkF m 4 #[.val (.ref o1), .val (.ref o2), .val (.ref o3)] [])) rfl (hb hby d8_4) (n := 16) (by decide) (by decide) (by decide) (by decide)
  replace hS := hS2
  replace hZ : Z.Warmed39 T2.vm := hZ2
  replace hown : T2.vm.findClass "com/example/vertex_to_service/vertextoservice/core/Edge" = some m.cls := hown2
  have K2 : Keep h0 h2 [o1] := (Keep.refl h0 [o1]).ext E2
  refine step (T2.setTop (mkF m 6 #[.val (.ref o1), .val (.ref o2), .val (.ref o3)] [(.ref a2)])) (fun t k => st2 t k) ?_
  obtain ⟨a3, T3, h3, kk3, X3, e3, E3, hS3, hk3, hZ3, hown3, st3⟩ := ldcS X2 hx hZ hown (hw _ (List.mem_of_getElem? (i := 49) rfl)) (own_wS hw) e2 hS hk2 (g := (mkF m 6 #[.val (.ref o1), .val (.ref o2), .val (.ref o3)] [(.ref a2)])) rfl (hb hby d8_6) (n := 16) (by decide) (by decide) (by decide) (by decide)
  replace hS := hS3
  replace hZ : Z.Warmed39 T3.vm := hZ3
  replace hown : T3.vm.findClass "com/example/vertex_to_service/vertextoservice/core/Edge" = some m.cls := hown3
  have K3 : Keep h0 h3 [o1] := K2.ext E3
  refine step (T3.setTop (mkF m 8 #[.val (.ref o1), .val (.ref o2), .val (.ref o3)] [(.ref a3), (.ref a2)])) (fun t k => st3 t k) ?_
  refine step (T3.setTop (mkF m 9 #[.val (.ref o1), .val (.ref o2), .val (.ref o3)] [(.ref o2), (.ref a3), (.ref a2)])) (fun t k => XS.aloadN X3.here hx rfl (hb hby d8_8) rfl rfl k) ?_
  have f4 := ((Pm3.ext E2).ext E3)
  have f5 := ((Pm4.ext E2).ext E3)
  have f6 := ((Pm7.ext E2).ext E3)
  obtain ⟨_, _, ⟨T7, L7, k7, n7⟩, -, X7, ⟨Lc7, hQ7, l7, y7, z7⟩, st7⟩ := Jvm.LawKit.callS X3 hx (y := (⟨"com/example/vertex_to_service/vertextoservice/core/Checks", "nonEmpty", "(Ljava/lang/String;Ljava/lang/String;Ljava/lang/String;)V"⟩ : MethodName)) hown (mvT hZ (hw _ (List.mem_of_getElem? (i := 50) rfl))) (mvT hZ (hw _ (List.mem_of_getElem? (i := 51) rfl))) (mvT hZ (hw _ (List.mem_of_getElem? (i := 52) rfl))) (mvT hZ (hw _ (List.mem_of_getElem? (i := 53) rfl))) (by decide) (backOf (W := 0) (rm10_13 l Z a0 hw [] a2 a3 o2 o4 kc1 i2 i3 i4 h3 n0 (Nat.le_trans Z0 K3.1) f4 f5 f6 gn_o2 ne_o2_o4 gn_o4 hy24 hy25 hy28) hZ (hw _ (List.mem_of_getElem? (i := 53) rfl)) (hw _ (List.mem_of_getElem? (i := 52) rfl)) (by decide) (by decide)) (g := (mkF m 9 #[.val (.ref o1), .val (.ref o2), .val (.ref o3)] [(.ref o2), (.ref a3), (.ref a2)])) rfl (by rw [hml]; rfl) (argsL := [(.ref a2), (.ref a3), (.ref o2)]) (rest := []) (lenOf pd_10 rfl) rfl (by show 2 * 0 + _ ≤ _; exact Nat.le_of_eq rfl) (hb hby d8_9) (fun _ _ => ⟨rfl, e3, (by decide : 4 + 0 ≤ _), (by decide : 40 + 0 ≤ _)⟩)
  dsimp only [Pt.U, Pt.locs, Pt.cells, Pt.slots] at X7 l7 y7 z7 st7 hQ7
  subst l7 y7 z7
  obtain ⟨rfl, N7q, e7q⟩ := hQ7
  have N7 := Fr.app N1 N7q
  refine step (T7.setTop (mkF m 12 #[.val (.ref o1), .val (.ref o2), .val (.ref o3)] [])) (fun t k => st7 t k) ?_
  obtain ⟨a8, T8, h8, kk8, X8, e8, E8, hS8, hk8, hZ8, hown8, st8⟩ := ldcS X7 hx hZ hown (hw _ (List.mem_of_getElem? (i := 46) rfl)) (own_wS hw) e7q hS hk3 (g := (mkF m 12 #[.val (.ref o1), .val (.ref o2), .val (.ref o3)] [])) rfl (hb hby d8_12) (n := 16) (by decide) (by decide) (by decide) (by decide)
  replace hS := hS8
  replace hZ : Z.Warmed39 T8.vm := hZ8
  replace hown : T8.vm.findClass "com/example/vertex_to_service/vertextoservice/core/Edge" = some m.cls := hown8
  have K8 : Keep h0 h8 [o1] := K3.ext E8
  refine step (T8.setTop (mkF m 14 #[.val (.ref o1), .val (.ref o2), .val (.ref o3)] [(.ref a8)])) (fun t k => st8 t k) ?_
  obtain ⟨a9, T9, h9, kk9, X9, e9, E9, hS9, hk9, hZ9, hown9, st9⟩ := ldcS X8 hx hZ hown (hw _ (List.mem_of_getElem? (i := 59) rfl)) (own_wS hw) e8 hS hk8 (g := (mkF m 14 #[.val (.ref o1), .val (.ref o2), .val (.ref o3)] [(.ref a8)])) rfl (hb hby d8_14) (n := 8) (by decide) (by decide) (by decide) (by decide)
  replace hS := hS9
  replace hZ : Z.Warmed39 T9.vm := hZ9
  replace hown : T9.vm.findClass "com/example/vertex_to_service/vertextoservice/core/Edge" = some m.cls := hown9
  have K9 : Keep h0 h9 [o1] := K8.ext E9
  refine step (T9.setTop (mkF m 16 #[.val (.ref o1), .val (.ref o2), .val (.ref o3)] [(.ref a9), (.ref a8)])) (fun t k => st9 t k) ?_
  refine step (T9.setTop (mkF m 17 #[.val (.ref o1), .val (.ref o2), .val (.ref o3)] [(.ref o3), (.ref a9), (.ref a8)])) (fun t k => XS.aloadN X9.here hx rfl (hb hby d8_16) rfl rfl k) ?_
  have f10 := ((((Pm5.ext E2).ext E3).ext E8).ext E9)
  have f11 := ((((Pm6.ext E2).ext E3).ext E8).ext E9)
  have f12 := ((((Pm8.ext E2).ext E3).ext E8).ext E9)
  obtain ⟨_, _, ⟨T13, L13, k13, n13⟩, -, X13, ⟨Lc13, hQ13, l13, y13, z13⟩, st13⟩ := Jvm.LawKit.callS X9 hx (y := (⟨"com/example/vertex_to_service/vertextoservice/core/Checks", "nonEmpty", "(Ljava/lang/String;Ljava/lang/String;Ljava/lang/String;)V"⟩ : MethodName)) hown (mvT hZ (hw _ (List.mem_of_getElem? (i := 50) rfl))) (mvT hZ (hw _ (List.mem_of_getElem? (i := 51) rfl))) (mvT hZ (hw _ (List.mem_of_getElem? (i := 52) rfl))) (mvT hZ (hw _ (List.mem_of_getElem? (i := 53) rfl))) (by decide) (backOf (W := 0) (rm10_13 l Z a0 hw [] a8 a9 o3 o5 kc5 i6 i7 i8 h9 n0 (Nat.le_trans Z0 K9.1) f10 f11 f12 gn_o3 ne_o3_o5 gn_o5 hy26 hy27 hy29) hZ (hw _ (List.mem_of_getElem? (i := 53) rfl)) (hw _ (List.mem_of_getElem? (i := 52) rfl)) (by decide) (by decide)) (g := (mkF m 17 #[.val (.ref o1), .val (.ref o2), .val (.ref o3)] [(.ref o3), (.ref a9), (.ref a8)])) rfl (by rw [hml]; rfl) (argsL := [(.ref a8), (.ref a9), (.ref o3)]) (rest := []) (lenOf pd_10 rfl) rfl (by show 2 * 0 + _ ≤ _; exact Nat.le_of_eq rfl) (hb hby d8_17) (fun _ _ => ⟨rfl, e9, (by decide : 8 + 0 ≤ _), (by decide : 72 + 0 ≤ _)⟩)
  dsimp only [Pt.U, Pt.locs, Pt.cells, Pt.slots] at X13 l13 y13 z13 st13 hQ13
  subst l13 y13 z13
  obtain ⟨rfl, N13q, e13q⟩ := hQ13
  have N13 := Fr.app N7 N13q
  refine step (T13.setTop (mkF m 20 #[.val (.ref o1), .val (.ref o2), .val (.ref o3)] [])) (fun t k => st13 t k) ?_
  refine step (T13.setTop (mkF m 21 #[.val (.ref o1), .val (.ref o2), .val (.ref o3)] [(.ref o1)])) (fun t k => XS.aloadN X13.here hx rfl (hb hby d8_20) rfl rfl k) ?_
  refine step (T13.setTop (mkF m 22 #[.val (.ref o1), .val (.ref o2), .val (.ref o3)] [(.ref o2), (.ref o1)])) (fun t k => XS.aloadN X13.here hx rfl (hb hby d8_21) rfl rfl k) ?_
  have f14 := ((((Pm0.ext E2).ext E3).ext E8).ext E9)
  have f15 := ((((Pm1.ext E2).ext E3).ext E8).ext E9)
  obtain ⟨T16, h16, X16, e16, W16, st16⟩ := putF X13 hx hZ hown (host := "") (Or.inl (hw _ (List.mem_of_getElem? (i := 60) rfl))) Via.refl e13q f15 f14 (Or.inr ⟨(hw _ (List.mem_of_getElem? (i := 61) rfl)), rfl, hnm⟩) (hw _ (List.mem_of_getElem? (i := 1) rfl)) (ty := (.object "java/lang/String")) (by decide) rfl rfl (g := (mkF m 22 #[.val (.ref o1), .val (.ref o2), .val (.ref o3)] [(.ref o2), (.ref o1)])) rfl rfl (hb hby d8_22)
  have N16 := Fr.snoc X16 N13 gn_o1
  have K16 : Keep h0 h16 [o1] := K9.wr W16 (Or.inl (List.mem_of_getElem? (i := 0) rfl))
  have F16 := f15.same W16
  refine step (T16.setTop (mkF m 25 #[.val (.ref o1), .val (.ref o2), .val (.ref o3)] [])) (fun t k => st16 t k) ?_
  refine step (T16.setTop (mkF m 26 #[.val (.ref o1), .val (.ref o2), .val (.ref o3)] [(.ref o1)])) (fun t k => XS.aloadN X16.here hx rfl (hb hby d8_25) rfl rfl k) ?_
  refine step (T16.setTop (mkF m 27 #[.val (.ref o1), .val (.ref o2), .val (.ref o3)] [(.ref o3), (.ref o1)])) (fun t k => XS.aloadN X16.here hx rfl (hb hby d8_26) rfl rfl k) ?_
  have f17 := (f14.wr W16)
  have f18 := (((((Pm2.ext E2).ext E3).ext E8).ext E9).other W16 (Or.inr (slot_ne (Or.inr (hw _ (List.mem_of_getElem? (i := 63) rfl))) (Or.inr (hw _ (List.mem_of_getElem? (i := 61) rfl))) (by decide) (t := (.object "java/lang/String")) (t' := (.object "java/lang/String")) (by decide) (by decide))))
  obtain ⟨T19, h19, X19, e19, W19, st19⟩ := putF X16 hx hZ hown (host := "") (Or.inl (hw _ (List.mem_of_getElem? (i := 62) rfl))) Via.refl e16 f18 f17 (Or.inr ⟨(hw _ (List.mem_of_getElem? (i := 63) rfl)), rfl, hnm⟩) (hw _ (List.mem_of_getElem? (i := 1) rfl)) (ty := (.object "java/lang/String")) (by decide) rfl rfl (g := (mkF m 27 #[.val (.ref o1), .val (.ref o2), .val (.ref o3)] [(.ref o3), (.ref o1)])) rfl rfl (hb hby d8_27)
  have N19 := Fr.snoc X19 N16 gn_o1
  have K19 : Keep h0 h19 [o1] := K16.wr W19 (Or.inl (List.mem_of_getElem? (i := 0) rfl))
  have F19 := f18.same W19
  refine step (T19.setTop (mkF m 30 #[.val (.ref o1), .val (.ref o2), .val (.ref o3)] [])) (fun t k => st19 t k) ?_
  have f20 := (F16.other W19 (Or.inr (slot_ne (Or.inr (hw _ (List.mem_of_getElem? (i := 61) rfl))) (Or.inr (hw _ (List.mem_of_getElem? (i := 63) rfl))) (by decide) (t := (.object "java/lang/String")) (t' := (.object "java/lang/String")) (by decide) (by decide))))
  refine fin (v := none) X19 hS (by rw [e19]; exact (Nat.le_trans (Nat.le_trans hk9 (Keep.of_wr W16).1) (Keep.of_wr W19).1)) (fun _ => rfl) ?_ (by decide) (by decide) (fun fs hr => X19.returnOut hx hret (hb hby d8_30) hr)
  show Q8_11 Z o1 o2 o3 o4 o5 kc1 i2 i3 i4 kc5 i6 i7 i8 h0 n0 (none) T19.heap _
  rw [e19]
  exact ⟨rfl, N19, K19, f20, F19⟩
theorem d13_0 : decode prog_16_method_2_code 0 = .ok (.aload_n 1, 1) := by decide +kernel
theorem d13_1 : decode prog_16_method_2_code 1 = .ok (.instanceof 20, 3) := by decide +kernel
theorem d13_4 : decode prog_16_method_2_code 4 = .ok (.ifCond .eq 40, 3) := by decide +kernel
theorem d13_7 : decode prog_16_method_2_code 7 = .ok (.aload_n 1, 1) := by decide +kernel
theorem d13_8 : decode prog_16_method_2_code 8 = .ok (.checkcast 20, 3) := by decide +kernel
theorem d13_11 : decode prog_16_method_2_code 11 = .ok (.astore_n 2, 1) := by decide +kernel
theorem d13_12 : decode prog_16_method_2_code 12 = .ok (.aload_n 0, 1) := by decide +kernel
theorem d13_13 : decode prog_16_method_2_code 13 = .ok (.getfield 19, 3) := by decide +kernel
theorem d13_16 : decode prog_16_method_2_code 16 = .ok (.aload_n 2, 1) := by decide +kernel
theorem d13_17 : decode prog_16_method_2_code 17 = .ok (.getfield 19, 3) := by decide +kernel
theorem d13_20 : decode prog_16_method_2_code 20 = .ok (.invokevirtual 26, 3) := by decide +kernel
theorem d13_23 : decode prog_16_method_2_code 23 = .ok (.ifCond .eq 21, 3) := by decide +kernel
theorem d13_26 : decode prog_16_method_2_code 26 = .ok (.aload_n 0, 1) := by decide +kernel
theorem d13_27 : decode prog_16_method_2_code 27 = .ok (.getfield 24, 3) := by decide +kernel
theorem d13_30 : decode prog_16_method_2_code 30 = .ok (.aload_n 2, 1) := by decide +kernel
theorem d13_31 : decode prog_16_method_2_code 31 = .ok (.getfield 24, 3) := by decide +kernel
theorem d13_34 : decode prog_16_method_2_code 34 = .ok (.invokevirtual 26, 3) := by decide +kernel
theorem d13_37 : decode prog_16_method_2_code 37 = .ok (.ifCond .eq 7, 3) := by decide +kernel
theorem d13_40 : decode prog_16_method_2_code 40 = .ok (.iconst 1, 1) := by decide +kernel
theorem d13_41 : decode prog_16_method_2_code 41 = .ok (.goto 4, 3) := by decide +kernel
theorem d13_44 : decode prog_16_method_2_code 44 = .ok (.iconst 0, 1) := by decide +kernel
theorem d13_45 : decode prog_16_method_2_code 45 = .ok (.ireturn, 1) := by decide +kernel
theorem ef_13_15 (m : MethodId) (x0 : Addr) : entryFrame m #[(.ref x0), .null] 3 = mkF m 0 #[.val (.ref x0), .val .null, .unset] [] := by first | (simp [entryFrame, mkF, argsToLocals, Value.category]; done) | rfl
def Q13_15 (Z : State) (o1 : Addr) (i1 : Int32) (o2 : Addr) (o3 : Addr) (o4 : Addr) (o5 : Addr) (kc2 : ClassId) (i3 : Int32) (i4 : Int32) (i5 : Int32) (kc6 : ClassId) (i7 : Int32) (i8 : Int32) (i9 : Int32) (h0 : Heap) (n0 : Nat) (v : Option Value) (h : Heap) (L : List Loc) : Prop := v = some (.int (0 : Int32)) ∧ Fr n0 L ∧ h = h0
set_option maxRecDepth 65536 in
set_option maxHeartbeats 40000000 in
theorem rm13_15 (l : Launch) (Z : State) (a0 : Array Value) (hw : ∀ d ∈ tables_1, d.before a0 Z = true) (ws : List Jvm.Cond) (o1 : Addr) (i1 : Int32) (o2 : Addr) (o3 : Addr) (o4 : Addr) (o5 : Addr) (kc2 : ClassId) (i3 : Int32) (i4 : Int32) (i5 : Int32) (kc6 : ClassId) (i7 : Int32) (i8 : Int32) (i9 : Int32) (h0 : Heap) (n0 : Nat) (Z0 : n0 ≤ h0.size) (S0 : Sta Z h0 "java/lang/String" "COMPACT_STRINGS" "Z" (.int i1)) (Pm1 : Exa Z h0 o1 "com/example/vertex_to_service/vertextoservice/core/Edge") (Pm2 : Fld Z h0 o1 "com/example/vertex_to_service/vertextoservice/core/Edge" "from" "Ljava/lang/String;" (.ref o2)) (Pm3 : Fld Z h0 o1 "com/example/vertex_to_service/vertextoservice/core/Edge" "to" "Ljava/lang/String;" (.ref o3)) (Pm4 : Exa Z h0 o2 "java/lang/String") (Pm5 : Fld Z h0 o2 "java/lang/String" "coder" "B" (.int (0 : Int32))) (Pm6 : Fld Z h0 o2 "java/lang/String" "value" "[B" (.ref o4)) (Pm7 : Exa Z h0 o3 "java/lang/String") (Pm8 : Fld Z h0 o3 "java/lang/String" "coder" "B" (.int (0 : Int32))) (Pm9 : Fld Z h0 o3 "java/lang/String" "value" "[B" (.ref o5)) (Pm10 : Arv Z h0 o4 kc2 .byte (own_n i3) (own_bs i3 i4 i5) (.int (0 : Int32))) (Pm11 : Arv Z h0 o5 kc6 .byte (own_n i7) (own_bs i7 i8 i9) (.int (0 : Int32))) (gn_o1 : n0 ≤ o1) (ne_o1_o2 : o1 ≠ o2) (ne_o1_o3 : o1 ≠ o3) (ne_o1_o4 : o1 ≠ o4) (ne_o1_o5 : o1 ≠ o5) (gn_o2 : n0 ≤ o2) (ne_o2_o3 : o2 ≠ o3) (ne_o2_o4 : o2 ≠ o4) (ne_o2_o5 : o2 ≠ o5) (gn_o3 : n0 ≤ o3) (ne_o3_o4 : o3 ≠ o4) (ne_o3_o5 : o3 ≠ o5) (gn_o4 : n0 ≤ o4) (ne_o4_o5 : o4 ≠ o5) (gn_o5 : n0 ≤ o5) (hy27 : ¬ ((255 : Int32) < (nar .char i4))) (hy28 : ¬ ((255 : Int32) < (nar .char i5))) (hy29 : ¬ ((255 : Int32) < (nar .char i8))) (hy30 : ¬ ((255 : Int32) < (nar .char i9))) (hy31 : ¬ ((own_n i3) = (0 : Int32))) (hy32 : ¬ ((own_n i7) = (0 : Int32))) (hy33 : ¬ (i1 = (0 : Int32)))  :
    MetFree l (⟨"com/example/vertex_to_service/vertextoservice/core/Edge", "equals", "(Ljava/lang/Object;)Z"⟩ : MethodName) (head1 (Jvm.Cond.code (⟨"com/example/vertex_to_service/vertextoservice/core/Edge", "equals", "(Ljava/lang/Object;)Z"⟩ : MethodName) prog_16_method_2_code 3 (some .boolean) :: ws) ({ frames := 0, cells := 0, slots := 0, locals := 0 } : Room)) (fun a U => a = #[(.ref o1), .null] ∧ Z.Warmed39 U.vm ∧ U.heap = h0) (fun _ _ _ _ _ => True) (fun _ U o U' => ∃ v L, o = .returned v ∧ Q13_15 Z o1 i1 o2 o3 o4 o5 kc2 i3 i4 i5 kc6 i7 i8 i9 h0 n0 v U'.heap L ∧ FrameEnd U o U' L ({ frames := 0, cells := 0, slots := 0, locals := 0 } : Room).cells ({ frames := 0, cells := 0, slots := 0, locals := 0 } : Room).slots) := by
  refine own_body (plainFor_of_name pn_4) ?_
  intro p e s m below meth c s₁ G hx hby hml hZ hown hnm hret X0 e0 step fin
  replace hown : s.vm.findClass "com/example/vertex_to_service/vertextoservice/core/Edge" = some m.cls := hown
  replace hnm : meth.name = "equals" := hnm
  replace hret : meth.sig.returnType = some .boolean := hret
  replace hml : c.maxLocals = 3 := hml
  have N0 := Fr.nil n0
  refine step (s₁.setTop (mkF m 0 #[.val (.ref o1), .val .null, .unset] [])) (fun t k => castTop (ef_13_15 m o1) k) ?_
  refine step (s₁.setTop (mkF m 1 #[.val (.ref o1), .val .null, .unset] [.null])) (fun t k => XS.aloadN X0.here hx rfl (hb hby d13_0) rfl rfl k) ?_
  refine step (s₁.setTop (mkF m 4 #[.val (.ref o1), .val .null, .unset] [(.int (0 : Int32))])) (fun t k => X0.instanceofNull hx (g := (mkF m 1 #[.val (.ref o1), .val .null, .unset] [.null])) rfl rfl (hb hby d13_1) t k) ?_
  refine step (s₁.setTop (mkF m 44 #[.val (.ref o1), .val .null, .unset] [])) (fun t k => XS.ifYes X0.here hx rfl (pc0 := 4) (pc' := 44) rfl (hb hby d13_4) rfl ((if0 _ _).trans (teq (by decide : (0 : Int32) = (0 : Int32))).1) (by decide) (by decide) k) ?_
  refine step (s₁.setTop (mkF m 45 #[.val (.ref o1), .val .null, .unset] [(.int (0 : Int32))])) (fun t k => XS.iconst X0.here hx rfl (hb hby d13_44) k) ?_
  have K0q : Keep h0 h0 [] := Keep.refl _ _
  refine fin (v := some (.int (nar .boolean (0 : Int32)))) X0 (fun h => by cases h) ?_ (by decide) (by decide) (fun fs hr => retN X0 hx (t := .boolean) hret (by simp) (hb hby d13_45) hr)
  show Q13_15 Z o1 i1 o2 o3 o4 o5 kc2 i3 i4 i5 kc6 i7 i8 i9 h0 n0 (some (.int (nar .boolean (0 : Int32)))) s₁.heap _
  rw [e0]
  exact ⟨rfl, N0, rfl⟩
theorem ef_13_16 (m : MethodId) (x0 : Addr) (x1 : Addr) : entryFrame m #[(.ref x0), (.ref x1)] 3 = mkF m 0 #[.val (.ref x0), .val (.ref x1), .unset] [] := by first | (simp [entryFrame, mkF, argsToLocals, Value.category]; done) | rfl
def Q13_16 (Z : State) (o1 : Addr) (o2 : Addr) (i1 : Int32) (o3 : Addr) (o4 : Addr) (o5 : Addr) (o6 : Addr) (o7 : Addr) (kc2 : ClassId) (i3 : Int32) (i4 : Int32) (i5 : Int32) (kc6 : ClassId) (kc7 : ClassId) (i8 : Int32) (i9 : Int32) (i10 : Int32) (h0 : Heap) (n0 : Nat) (v : Option Value) (h : Heap) (L : List Loc) : Prop := v = some (.int (0 : Int32)) ∧ Fr n0 L ∧ h = h0
set_option maxRecDepth 65536 in
set_option maxHeartbeats 40000000 in
theorem rm13_16 (l : Launch) (Z : State) (a0 : Array Value) (hw : ∀ d ∈ tables_1, d.before a0 Z = true) (ws : List Jvm.Cond) (o1 : Addr) (o2 : Addr) (i1 : Int32) (o3 : Addr) (o4 : Addr) (o5 : Addr) (o6 : Addr) (o7 : Addr) (kc2 : ClassId) (i3 : Int32) (i4 : Int32) (i5 : Int32) (kc6 : ClassId) (kc7 : ClassId) (i8 : Int32) (i9 : Int32) (i10 : Int32) (h0 : Heap) (n0 : Nat) (Z0 : n0 ≤ h0.size) (S0 : Sta Z h0 "java/lang/String" "COMPACT_STRINGS" "Z" (.int i1)) (Pm1 : Exa Z h0 o1 "com/example/vertex_to_service/vertextoservice/core/Edge") (Pm2 : Fld Z h0 o1 "com/example/vertex_to_service/vertextoservice/core/Edge" "from" "Ljava/lang/String;" (.ref o3)) (Pm3 : Fld Z h0 o1 "com/example/vertex_to_service/vertextoservice/core/Edge" "to" "Ljava/lang/String;" (.ref o4)) (Pm4 : Exa Z h0 o2 "java/lang/String") (Pm5 : Fld Z h0 o2 "java/lang/String" "coder" "B" (.int (0 : Int32))) (Pm6 : Fld Z h0 o2 "java/lang/String" "value" "[B" (.ref o5)) (Pm7 : Exa Z h0 o3 "java/lang/String") (Pm8 : Fld Z h0 o3 "java/lang/String" "coder" "B" (.int (0 : Int32))) (Pm9 : Fld Z h0 o3 "java/lang/String" "value" "[B" (.ref o6)) (Pm10 : Exa Z h0 o4 "java/lang/String") (Pm11 : Fld Z h0 o4 "java/lang/String" "coder" "B" (.int (0 : Int32))) (Pm12 : Fld Z h0 o4 "java/lang/String" "value" "[B" (.ref o7)) (Pm13 : Arv Z h0 o5 kc2 .byte (own_n i3) (own_bs i3 i4 i5) (.int (0 : Int32))) (Pm14 : Arv Z h0 o6 kc6 .byte (own_n i3) (own_bs i3 i4 i5) (.int (0 : Int32))) (Pm15 : Arv Z h0 o7 kc7 .byte (own_n i8) (own_bs i8 i9 i10) (.int (0 : Int32))) (gn_o1 : n0 ≤ o1) (ne_o1_o2 : o1 ≠ o2) (ne_o1_o3 : o1 ≠ o3) (ne_o1_o4 : o1 ≠ o4) (ne_o1_o5 : o1 ≠ o5) (ne_o1_o6 : o1 ≠ o6) (ne_o1_o7 : o1 ≠ o7) (gn_o2 : n0 ≤ o2) (ne_o2_o3 : o2 ≠ o3) (ne_o2_o4 : o2 ≠ o4) (ne_o2_o5 : o2 ≠ o5) (ne_o2_o6 : o2 ≠ o6) (ne_o2_o7 : o2 ≠ o7) (gn_o3 : n0 ≤ o3) (ne_o3_o4 : o3 ≠ o4) (ne_o3_o5 : o3 ≠ o5) (ne_o3_o6 : o3 ≠ o6) (ne_o3_o7 : o3 ≠ o7) (gn_o4 : n0 ≤ o4) (ne_o4_o5 : o4 ≠ o5) (ne_o4_o6 : o4 ≠ o6) (ne_o4_o7 : o4 ≠ o7) (gn_o5 : n0 ≤ o5) (ne_o5_o6 : o5 ≠ o6) (ne_o5_o7 : o5 ≠ o7) (gn_o6 : n0 ≤ o6) (ne_o6_o7 : o6 ≠ o7) (gn_o7 : n0 ≤ o7) (hy44 : ¬ ((255 : Int32) < (nar .char i4))) (hy45 : ¬ ((255 : Int32) < (nar .char i5))) (hy46 : ¬ ((255 : Int32) < (nar .char i9))) (hy47 : ¬ ((255 : Int32) < (nar .char i10))) (hy48 : ¬ ((own_n i3) = (0 : Int32))) (hy49 : ¬ ((own_n i8) = (0 : Int32))) (hy50 : ¬ (i1 = (0 : Int32)))  :
    MetFree l (⟨"com/example/vertex_to_service/vertextoservice/core/Edge", "equals", "(Ljava/lang/Object;)Z"⟩ : MethodName) (head1 (Jvm.Cond.code (⟨"com/example/vertex_to_service/vertextoservice/core/Edge", "equals", "(Ljava/lang/Object;)Z"⟩ : MethodName) prog_16_method_2_code 3 (some .boolean) :: ws) ({ frames := 0, cells := 0, slots := 0, locals := 0 } : Room)) (fun a U => a = #[(.ref o1), (.ref o2)] ∧ Z.Warmed39 U.vm ∧ U.heap = h0) (fun _ _ _ _ _ => True) (fun _ U o U' => ∃ v L, o = .returned v ∧ Q13_16 Z o1 o2 i1 o3 o4 o5 o6 o7 kc2 i3 i4 i5 kc6 kc7 i8 i9 i10 h0 n0 v U'.heap L ∧ FrameEnd U o U' L ({ frames := 0, cells := 0, slots := 0, locals := 0 } : Room).cells ({ frames := 0, cells := 0, slots := 0, locals := 0 } : Room).slots) := by
  refine own_body (plainFor_of_name pn_4) ?_
  intro p e s m below meth c s₁ G hx hby hml hZ hown hnm hret X0 e0 step fin
  replace hown : s.vm.findClass "com/example/vertex_to_service/vertextoservice/core/Edge" = some m.cls := hown
  replace hnm : meth.name = "equals" := hnm
  replace hret : meth.sig.returnType = some .boolean := hret
  replace hml : c.maxLocals = 3 := hml
  have N0 := Fr.nil n0
  refine step (s₁.setTop (mkF m 0 #[.val (.ref o1), .val (.ref o2), .unset] [])) (fun t k => castTop (ef_13_16 m o1 o2) k) ?_
  refine step (s₁.setTop (mkF m 1 #[.val (.ref o1), .val (.ref o2), .unset] [(.ref o2)])) (fun t k => XS.aloadN X0.here hx rfl (hb hby d13_0) rfl rfl k) ?_
  obtain ⟨T1, X1, e1, st1⟩ := instNo X0 hx hZ hown (hw _ (List.mem_of_getElem? (i := 72) rfl)) e0 Pm4 (own_noEdge (hw _ (List.mem_of_getElem? (i := 84) rfl)) rfl (hw _ (List.mem_of_getElem? (i := 85) rfl)) (hw _ (List.mem_of_getElem? (i := 1) rfl)) (by decide) (by decide)) (g := (mkF m 1 #[.val (.ref o1), .val (.ref o2), .unset] [(.ref o2)])) rfl rfl (hb hby d13_1)
  refine step (T1.setTop (mkF m 4 #[.val (.ref o1), .val (.ref o2), .unset] [(.int (0 : Int32))])) (fun t k => st1 t k) ?_
  refine step (T1.setTop (mkF m 44 #[.val (.ref o1), .val (.ref o2), .unset] [])) (fun t k => XS.ifYes X1.here hx rfl (pc0 := 4) (pc' := 44) rfl (hb hby d13_4) rfl ((if0 _ _).trans (teq (by decide : (0 : Int32) = (0 : Int32))).1) (by decide) (by decide) k) ?_
  refine step (T1.setTop (mkF m 45 #[.val (.ref o1), .val (.ref o2), .unset] [(.int (0 : Int32))])) (fun t k => XS.iconst X1.here hx rfl (hb hby d13_44) k) ?_
  have K0q : Keep h0 h0 [] := Keep.refl _ _
  refine fin (v := some (.int (nar .boolean (0 : Int32)))) X1 (fun h => by cases h) ?_ (by decide) (by decide) (fun fs hr => retN X1 hx (t := .boolean) hret (by simp) (hb hby d13_45) hr)
  show Q13_16 Z o1 o2 i1 o3 o4 o5 o6 o7 kc2 i3 i4 i5 kc6 kc7 i8 i9 i10 h0 n0 (some (.int (nar .boolean (0 : Int32)))) T1.heap _
  rw [e1]
  exact ⟨rfl, N0, rfl⟩
theorem d14_0 : decode jdk_42_method_66_code 0 = .ok (.aload_n 0, 1) := by decide +kernel
theorem d14_1 : decode jdk_42_method_66_code 1 = .ok (.aload_n 1, 1) := by decide +kernel
theorem d14_2 : decode jdk_42_method_66_code 2 = .ok (.if_acmp .ne 5, 3) := by decide +kernel
theorem d14_5 : decode jdk_42_method_66_code 5 = .ok (.iconst 1, 1) := by decide +kernel
theorem d14_6 : decode jdk_42_method_66_code 6 = .ok (.ireturn, 1) := by decide +kernel
theorem d14_7 : decode jdk_42_method_66_code 7 = .ok (.aload_n 1, 1) := by decide +kernel
theorem d14_8 : decode jdk_42_method_66_code 8 = .ok (.instanceof 10, 3) := by decide +kernel
theorem d14_11 : decode jdk_42_method_66_code 11 = .ok (.ifCond .eq 43, 3) := by decide +kernel
theorem d14_14 : decode jdk_42_method_66_code 14 = .ok (.aload_n 1, 1) := by decide +kernel
theorem d14_15 : decode jdk_42_method_66_code 15 = .ok (.checkcast 10, 3) := by decide +kernel
theorem d14_18 : decode jdk_42_method_66_code 18 = .ok (.astore_n 2, 1) := by decide +kernel
theorem d14_19 : decode jdk_42_method_66_code 19 = .ok (.getstatic 38, 3) := by decide +kernel
theorem d14_22 : decode jdk_42_method_66_code 22 = .ok (.ifCond .eq 14, 3) := by decide +kernel
theorem d14_25 : decode jdk_42_method_66_code 25 = .ok (.aload_n 0, 1) := by decide +kernel
theorem d14_26 : decode jdk_42_method_66_code 26 = .ok (.getfield 15, 3) := by decide +kernel
theorem d14_29 : decode jdk_42_method_66_code 29 = .ok (.aload_n 2, 1) := by decide +kernel
theorem d14_30 : decode jdk_42_method_66_code 30 = .ok (.getfield 15, 3) := by decide +kernel
theorem d14_33 : decode jdk_42_method_66_code 33 = .ok (.if_icmp .ne 21, 3) := by decide +kernel
theorem d14_36 : decode jdk_42_method_66_code 36 = .ok (.aload_n 0, 1) := by decide +kernel
theorem d14_37 : decode jdk_42_method_66_code 37 = .ok (.getfield 9, 3) := by decide +kernel
theorem d14_40 : decode jdk_42_method_66_code 40 = .ok (.aload_n 2, 1) := by decide +kernel
theorem d14_41 : decode jdk_42_method_66_code 41 = .ok (.getfield 9, 3) := by decide +kernel
theorem d14_44 : decode jdk_42_method_66_code 44 = .ok (.invokestatic 541, 3) := by decide +kernel
theorem d14_47 : decode jdk_42_method_66_code 47 = .ok (.ifCond .eq 7, 3) := by decide +kernel
theorem d14_50 : decode jdk_42_method_66_code 50 = .ok (.iconst 1, 1) := by decide +kernel
theorem d14_51 : decode jdk_42_method_66_code 51 = .ok (.goto 4, 3) := by decide +kernel
theorem d14_54 : decode jdk_42_method_66_code 54 = .ok (.iconst 0, 1) := by decide +kernel
theorem d14_55 : decode jdk_42_method_66_code 55 = .ok (.ireturn, 1) := by decide +kernel
theorem pd_12 : parseMethodDescriptor "([B[B)Z" = some ⟨[(.array .byte), (.array .byte)], some .boolean⟩ := by decide +kernel
theorem ef_14_18 (m : MethodId) (x0 : Addr) (x1 : Addr) : entryFrame m #[(.ref x0), (.ref x1)] 3 = mkF m 0 #[.val (.ref x0), .val (.ref x1), .unset] [] := by first | (simp [entryFrame, mkF, argsToLocals, Value.category]; done) | rfl
def Q14_18 (Z : State) (o1 : Addr) (i1 : Int32) (o2 : Addr) (kc2 : ClassId) (i3 : Int32) (i4 : Int32) (i5 : Int32) (h0 : Heap) (n0 : Nat) (v : Option Value) (h : Heap) (L : List Loc) : Prop := v = some (.int (1 : Int32)) ∧ Fr n0 L ∧ h = h0
set_option maxRecDepth 65536 in
set_option maxHeartbeats 40000000 in
theorem rm14_18 (l : Launch) (Z : State) (a0 : Array Value) (hw : ∀ d ∈ tables_1, d.before a0 Z = true) (ws : List Jvm.Cond) (o1 : Addr) (i1 : Int32) (o2 : Addr) (kc2 : ClassId) (i3 : Int32) (i4 : Int32) (i5 : Int32) (h0 : Heap) (n0 : Nat) (Z0 : n0 ≤ h0.size) (S0 : Sta Z h0 "java/lang/String" "COMPACT_STRINGS" "Z" (.int i1)) (Pm1 : Exa Z h0 o1 "java/lang/String") (Pm2 : Fld Z h0 o1 "java/lang/String" "coder" "B" (.int (0 : Int32))) (Pm3 : Fld Z h0 o1 "java/lang/String" "value" "[B" (.ref o2)) (Pm4 : Arv Z h0 o2 kc2 .byte (own_n i3) (own_bs i3 i4 i5) (.int (0 : Int32))) (gn_o1 : n0 ≤ o1) (ne_o1_o2 : o1 ≠ o2) (gn_o2 : n0 ≤ o2) (hy8 : ¬ ((255 : Int32) < (nar .char i4))) (hy9 : ¬ ((255 : Int32) < (nar .char i5))) (hy10 : ¬ ((own_n i3) = (0 : Int32))) (hy11 : ¬ (i1 = (0 : Int32)))  :
    MetFree l (⟨"java/lang/String", "equals", "(Ljava/lang/Object;)Z"⟩ : MethodName) (head1 (Jvm.Cond.code (⟨"java/lang/String", "equals", "(Ljava/lang/Object;)Z"⟩ : MethodName) jdk_42_method_66_code 3 (some .boolean) :: ws) ({ frames := 0, cells := 0, slots := 0, locals := 0 } : Room)) (fun a U => a = #[(.ref o1), (.ref o1)] ∧ Z.Warmed39 U.vm ∧ U.heap = h0) (fun _ _ _ _ _ => True) (fun _ U o U' => ∃ v L, o = .returned v ∧ Q14_18 Z o1 i1 o2 kc2 i3 i4 i5 h0 n0 v U'.heap L ∧ FrameEnd U o U' L ({ frames := 0, cells := 0, slots := 0, locals := 0 } : Room).cells ({ frames := 0, cells := 0, slots := 0, locals := 0 } : Room).slots) := by
  refine own_body (plainFor_of_name pn_1) ?_
  intro p e s m below meth c s₁ G hx hby hml hZ hown hnm hret X0 e0 step fin
  replace hown : s.vm.findClass "java/lang/String" = some m.cls := hown
  replace hnm : meth.name = "equals" := hnm
  replace hret : meth.sig.returnType = some .boolean := hret
  replace hml : c.maxLocals = 3 := hml
  have N0 := Fr.nil n0
  refine step (s₁.setTop (mkF m 0 #[.val (.ref o1), .val (.ref o1), .unset] [])) (fun t k => castTop (ef_14_18 m o1 o1) k) ?_
  refine step (s₁.setTop (mkF m 1 #[.val (.ref o1), .val (.ref o1), .unset] [(.ref o1)])) (fun t k => XS.aloadN X0.here hx rfl (hb hby d14_0) rfl rfl k) ?_
  refine step (s₁.setTop (mkF m 2 #[.val (.ref o1), .val (.ref o1), .unset] [(.ref o1), (.ref o1)])) (fun t k => XS.aloadN X0.here hx rfl (hb hby d14_1) rfl rfl k) ?_
  refine step (s₁.setTop (mkF m 5 #[.val (.ref o1), .val (.ref o1), .unset] [])) (fun t k => Jvm.RoadKit.acmp (g := (mkF m 2 #[.val (.ref o1), .val (.ref o1), .unset] [(.ref o1), (.ref o1)])) X0 hx rfl rfl rfl (pc0 := 2) (pc' := 5) (same := true) rfl (hb hby d14_2) rfl (decide_eq_true rfl) (by decide) (by decide) k) ?_
  refine step (s₁.setTop (mkF m 6 #[.val (.ref o1), .val (.ref o1), .unset] [(.int (1 : Int32))])) (fun t k => XS.iconst X0.here hx rfl (hb hby d14_5) k) ?_
  refine fin (v := some (.int (nar .boolean (1 : Int32)))) X0 (fun h => by cases h) ?_ (by decide) (by decide) (fun fs hr => retN X0 hx (t := .boolean) hret (by simp) (hb hby d14_6) hr)
  show Q14_18 Z o1 i1 o2 kc2 i3 i4 i5 h0 n0 (some (.int (nar .boolean (1 : Int32)))) s₁.heap _
  rw [e0]
  exact ⟨rfl, N0, rfl⟩
theorem ef_13_17 (m : MethodId) (x0 : Addr) (x1 : Addr) : entryFrame m #[(.ref x0), (.ref x1)] 3 = mkF m 0 #[.val (.ref x0), .val (.ref x1), .unset] [] := by first | (simp [entryFrame, mkF, argsToLocals, Value.category]; done) | rfl
def Q13_17 (Z : State) (o1 : Addr) (i1 : Int32) (o2 : Addr) (o3 : Addr) (o4 : Addr) (o5 : Addr) (kc2 : ClassId) (i3 : Int32) (i4 : Int32) (i5 : Int32) (kc6 : ClassId) (i7 : Int32) (i8 : Int32) (i9 : Int32) (h0 : Heap) (n0 : Nat) (v : Option Value) (h : Heap) (L : List Loc) : Prop := v = some (.int (1 : Int32)) ∧ Fr n0 L ∧ h = h0
set_option maxRecDepth 65536 in
set_option maxHeartbeats 40000000 in
theorem rm13_17 (l : Launch) (Z : State) (a0 : Array Value) (hw : ∀ d ∈ tables_1, d.before a0 Z = true) (ws : List Jvm.Cond) (o1 : Addr) (i1 : Int32) (o2 : Addr) (o3 : Addr) (o4 : Addr) (o5 : Addr) (kc2 : ClassId) (i3 : Int32) (i4 : Int32) (i5 : Int32) (kc6 : ClassId) (i7 : Int32) (i8 : Int32) (i9 : Int32) (h0 : Heap) (n0 : Nat) (Z0 : n0 ≤ h0.size) (S0 : Sta Z h0 "java/lang/String" "COMPACT_STRINGS" "Z" (.int i1)) (Pm1 : Exa Z h0 o1 "com/example/vertex_to_service/vertextoservice/core/Edge") (Pm2 : Fld Z h0 o1 "com/example/vertex_to_service/vertextoservice/core/Edge" "from" "Ljava/lang/String;" (.ref o2)) (Pm3 : Fld Z h0 o1 "com/example/vertex_to_service/vertextoservice/core/Edge" "to" "Ljava/lang/String;" (.ref o3)) (Pm4 : Exa Z h0 o2 "java/lang/String") (Pm5 : Fld Z h0 o2 "java/lang/String" "coder" "B" (.int (0 : Int32))) (Pm6 : Fld Z h0 o2 "java/lang/String" "value" "[B" (.ref o4)) (Pm7 : Exa Z h0 o3 "java/lang/String") (Pm8 : Fld Z h0 o3 "java/lang/String" "coder" "B" (.int (0 : Int32))) (Pm9 : Fld Z h0 o3 "java/lang/String" "value" "[B" (.ref o5)) (Pm10 : Arv Z h0 o4 kc2 .byte (own_n i3) (own_bs i3 i4 i5) (.int (0 : Int32))) (Pm11 : Arv Z h0 o5 kc6 .byte (own_n i7) (own_bs i7 i8 i9) (.int (0 : Int32))) (gn_o1 : n0 ≤ o1) (ne_o1_o2 : o1 ≠ o2) (ne_o1_o3 : o1 ≠ o3) (ne_o1_o4 : o1 ≠ o4) (ne_o1_o5 : o1 ≠ o5) (gn_o2 : n0 ≤ o2) (ne_o2_o3 : o2 ≠ o3) (ne_o2_o4 : o2 ≠ o4) (ne_o2_o5 : o2 ≠ o5) (gn_o3 : n0 ≤ o3) (ne_o3_o4 : o3 ≠ o4) (ne_o3_o5 : o3 ≠ o5) (gn_o4 : n0 ≤ o4) (ne_o4_o5 : o4 ≠ o5) (gn_o5 : n0 ≤ o5) (hy27 : ¬ ((255 : Int32) < (nar .char i4))) (hy28 : ¬ ((255 : Int32) < (nar .char i5))) (hy29 : ¬ ((255 : Int32) < (nar .char i8))) (hy30 : ¬ ((255 : Int32) < (nar .char i9))) (hy31 : ¬ ((own_n i3) = (0 : Int32))) (hy32 : ¬ ((own_n i7) = (0 : Int32))) (hy33 : ¬ (i1 = (0 : Int32)))  :
    MetFree l (⟨"com/example/vertex_to_service/vertextoservice/core/Edge", "equals", "(Ljava/lang/Object;)Z"⟩ : MethodName) (head1 (Jvm.Cond.code (⟨"com/example/vertex_to_service/vertextoservice/core/Edge", "equals", "(Ljava/lang/Object;)Z"⟩ : MethodName) prog_16_method_2_code 3 (some .boolean) :: ws) ({ frames := 1, cells := 0, slots := 0, locals := 14 } : Room)) (fun a U => a = #[(.ref o1), (.ref o1)] ∧ Z.Warmed39 U.vm ∧ U.heap = h0) (fun _ _ _ _ _ => True) (fun _ U o U' => ∃ v L, o = .returned v ∧ Q13_17 Z o1 i1 o2 o3 o4 o5 kc2 i3 i4 i5 kc6 i7 i8 i9 h0 n0 v U'.heap L ∧ FrameEnd U o U' L ({ frames := 1, cells := 0, slots := 0, locals := 14 } : Room).cells ({ frames := 1, cells := 0, slots := 0, locals := 14 } : Room).slots) := by
  refine own_body (plainFor_of_name pn_4) ?_
  intro p e s m below meth c s₁ G hx hby hml hZ hown hnm hret X0 e0 step fin
  replace hown : s.vm.findClass "com/example/vertex_to_service/vertextoservice/core/Edge" = some m.cls := hown
  replace hnm : meth.name = "equals" := hnm
  replace hret : meth.sig.returnType = some .boolean := hret
  replace hml : c.maxLocals = 3 := hml
  have N0 := Fr.nil n0
  refine step (s₁.setTop (mkF m 0 #[.val (.ref o1), .val (.ref o1), .unset] [])) (fun t k => castTop (ef_13_17 m o1 o1) k) ?_
  refine step (s₁.setTop (mkF m 1 #[.val (.ref o1), .val (.ref o1), .unset] [(.ref o1)])) (fun t k => XS.aloadN X0.here hx rfl (hb hby d13_0) rfl rfl k) ?_
  obtain ⟨T1, X1, e1, st1⟩ := instY X0 hx hZ hown (hw _ (List.mem_of_getElem? (i := 72) rfl)) e0 (Ins.self Pm1) (g := (mkF m 1 #[.val (.ref o1), .val (.ref o1), .unset] [(.ref o1)])) rfl rfl (hb hby d13_1)
  refine step (T1.setTop (mkF m 4 #[.val (.ref o1), .val (.ref o1), .unset] [(.int (1 : Int32))])) (fun t k => st1 t k) ?_
  refine step (T1.setTop (mkF m 7 #[.val (.ref o1), .val (.ref o1), .unset] [])) (fun t k => XS.ifNo X1.here hx rfl (hb hby d13_4) rfl ((if0 _ _).trans (feq (by decide : ¬ ((1 : Int32) = (0 : Int32)))).1) k) ?_
  refine step (T1.setTop (mkF m 8 #[.val (.ref o1), .val (.ref o1), .unset] [(.ref o1)])) (fun t k => XS.aloadN X1.here hx rfl (hb hby d13_7) rfl rfl k) ?_
  obtain ⟨T2, X2, e2, st2⟩ := castY X1 hx hZ hown (hw _ (List.mem_of_getElem? (i := 72) rfl)) e1 (Ins.self Pm1) (g := (mkF m 8 #[.val (.ref o1), .val (.ref o1), .unset] [(.ref o1)])) rfl rfl (hb hby d13_8)
  refine step (T2.setTop (mkF m 11 #[.val (.ref o1), .val (.ref o1), .unset] [(.ref o1)])) (fun t k => st2 t k) ?_
  refine step (T2.setTop (mkF m 12 #[.val (.ref o1), .val (.ref o1), .val (.ref o1)] [])) (fun t k => XS.astoreN X2.here hx rfl (hb hby d13_11) rfl rfl (l' := #[.val (.ref o1), .val (.ref o1), .val (.ref o1)]) rfl k) ?_
  refine step (T2.setTop (mkF m 13 #[.val (.ref o1), .val (.ref o1), .val (.ref o1)] [(.ref o1)])) (fun t k => XS.aloadN X2.here hx rfl (hb hby d13_12) rfl rfl k) ?_
  obtain ⟨T3, X3, e3, st3⟩ := getF X2 hx hZ hown (host := "") (Or.inl (hw _ (List.mem_of_getElem? (i := 60) rfl))) Via.refl e2 Pm2 (g := (mkF m 13 #[.val (.ref o1), .val (.ref o1), .val (.ref o1)] [(.ref o1)])) rfl rfl (hb hby d13_13)
  refine step (T3.setTop (mkF m 16 #[.val (.ref o1), .val (.ref o1), .val (.ref o1)] [(.ref o2)])) (fun t k => st3 t k) ?_
  refine step (T3.setTop (mkF m 17 #[.val (.ref o1), .val (.ref o1), .val (.ref o1)] [(.ref o1), (.ref o2)])) (fun t k => XS.aloadN X3.here hx rfl (hb hby d13_16) rfl rfl k) ?_
  obtain ⟨T4, X4, e4, st4⟩ := getF X3 hx hZ hown (host := "") (Or.inl (hw _ (List.mem_of_getElem? (i := 60) rfl))) Via.refl e3 Pm2 (g := (mkF m 17 #[.val (.ref o1), .val (.ref o1), .val (.ref o1)] [(.ref o1), (.ref o2)])) rfl rfl (hb hby d13_17)
  refine step (T4.setTop (mkF m 20 #[.val (.ref o1), .val (.ref o1), .val (.ref o1)] [(.ref o2), (.ref o2)])) (fun t k => st4 t k) ?_
  obtain ⟨cq5, kq5, q5a, q5b, q5c⟩ := isOf hZ e4 Pm4
  obtain ⟨_, _, ⟨T5, L5, k5, n5⟩, -, X5, ⟨Lc5, hQ5, l5, y5, z5⟩, st5⟩ := X4.virtualBack hx (y := (⟨"java/lang/String", "equals", "(Ljava/lang/Object;)Z"⟩ : MethodName)) (z := (⟨"java/lang/String", "equals", "(Ljava/lang/Object;)Z"⟩ : MethodName)) hown (mvT hZ (hw _ (List.mem_of_getElem? (i := 74) rfl))) (mvT hZ (hw _ (List.mem_of_getElem? (i := 75) rfl))) (notFace_of_selects (args := #[]) (mvT hZ (hw _ (List.mem_of_getElem? (i := 77) rfl)))) (mvT hZ (hw _ (List.mem_of_getElem? (i := 77) rfl))) (mvT hZ (hw _ (List.mem_of_getElem? (i := 76) rfl))) (by decide) (backOf (W := 0) (rm14_18 l Z a0 hw [] o2 i1 o4 kc2 i3 i4 i5 h0 n0 Z0 S0 Pm4 Pm5 Pm6 Pm10 gn_o2 ne_o2_o4 gn_o4 hy27 hy28 hy31 hy33) hZ (hw _ (List.mem_of_getElem? (i := 78) rfl)) (hw _ (List.mem_of_getElem? (i := 9) rfl)) (by decide) (by decide)) q5a q5c (g := (mkF m 20 #[.val (.ref o1), .val (.ref o1), .val (.ref o1)] [(.ref o2), (.ref o2)])) rfl (by rw [hml]; rfl) (Steps.refl _) (argsL := [(.ref o2)]) (rest := []) (lenOf pd_8 rfl) rfl (by show 2 * 0 + _ ≤ _; exact Nat.le_of_eq rfl) (hb hby d13_20) (fun _ _ => ⟨rfl, e4, (by decide : 0 + 0 ≤ _), (by decide : 0 + 0 ≤ _)⟩)
  dsimp only [Pt.U, Pt.locs, Pt.cells, Pt.slots] at X5 l5 y5 z5 st5 hQ5
  subst l5 y5 z5
  obtain ⟨rfl, N5q, e5q⟩ := hQ5
  have N5 := Fr.app N0 N5q
  refine step (T5.setTop (mkF m 23 #[.val (.ref o1), .val (.ref o1), .val (.ref o1)] [(.int (1 : Int32))])) (fun t k => st5.trans k) ?_
  refine step (T5.setTop (mkF m 26 #[.val (.ref o1), .val (.ref o1), .val (.ref o1)] [])) (fun t k => XS.ifNo X5.here hx rfl (hb hby d13_23) rfl ((if0 _ _).trans (feq (by decide : ¬ ((1 : Int32) = (0 : Int32)))).1) k) ?_
  refine step (T5.setTop (mkF m 27 #[.val (.ref o1), .val (.ref o1), .val (.ref o1)] [(.ref o1)])) (fun t k => XS.aloadN X5.here hx rfl (hb hby d13_26) rfl rfl k) ?_
  obtain ⟨T6, X6, e6, st6⟩ := getF X5 hx hZ hown (host := "") (Or.inl (hw _ (List.mem_of_getElem? (i := 62) rfl))) Via.refl e5q Pm3 (g := (mkF m 27 #[.val (.ref o1), .val (.ref o1), .val (.ref o1)] [(.ref o1)])) rfl rfl (hb hby d13_27)
  refine step (T6.setTop (mkF m 30 #[.val (.ref o1), .val (.ref o1), .val (.ref o1)] [(.ref o3)])) (fun t k => st6 t k) ?_
  refine step (T6.setTop (mkF m 31 #[.val (.ref o1), .val (.ref o1), .val (.ref o1)] [(.ref o1), (.ref o3)])) (fun t k => XS.aloadN X6.here hx rfl (hb hby d13_30) rfl rfl k) ?_
  obtain ⟨T7, X7, e7, st7⟩ := getF X6 hx hZ hown (host := "") (Or.inl (hw _ (List.mem_of_getElem? (i := 62) rfl))) Via.refl e6 Pm3 (g := (mkF m 31 #[.val (.ref o1), .val (.ref o1), .val (.ref o1)] [(.ref o1), (.ref o3)])) rfl rfl (hb hby d13_31)
  refine step (T7.setTop (mkF m 34 #[.val (.ref o1), .val (.ref o1), .val (.ref o1)] [(.ref o3), (.ref o3)])) (fun t k => st7 t k) ?_
  obtain ⟨cq8, kq8, q8a, q8b, q8c⟩ := isOf hZ e7 Pm7
  obtain ⟨_, _, ⟨T8, L8, k8, n8⟩, -, X8, ⟨Lc8, hQ8, l8, y8, z8⟩, st8⟩ := X7.virtualBack hx (y := (⟨"java/lang/String", "equals", "(Ljava/lang/Object;)Z"⟩ : MethodName)) (z := (⟨"java/lang/String", "equals", "(Ljava/lang/Object;)Z"⟩ : MethodName)) hown (mvT hZ (hw _ (List.mem_of_getElem? (i := 74) rfl))) (mvT hZ (hw _ (List.mem_of_getElem? (i := 75) rfl))) (notFace_of_selects (args := #[]) (mvT hZ (hw _ (List.mem_of_getElem? (i := 77) rfl)))) (mvT hZ (hw _ (List.mem_of_getElem? (i := 77) rfl))) (mvT hZ (hw _ (List.mem_of_getElem? (i := 76) rfl))) (by decide) (backOf (W := 0) (rm14_18 l Z a0 hw [] o3 i1 o5 kc6 i7 i8 i9 h0 n0 Z0 S0 Pm7 Pm8 Pm9 Pm11 gn_o3 ne_o3_o5 gn_o5 hy29 hy30 hy32 hy33) hZ (hw _ (List.mem_of_getElem? (i := 78) rfl)) (hw _ (List.mem_of_getElem? (i := 9) rfl)) (by decide) (by decide)) q8a q8c (g := (mkF m 34 #[.val (.ref o1), .val (.ref o1), .val (.ref o1)] [(.ref o3), (.ref o3)])) rfl (by rw [hml]; rfl) (Steps.refl _) (argsL := [(.ref o3)]) (rest := []) (lenOf pd_8 rfl) rfl (by show 2 * 0 + _ ≤ _; exact Nat.le_of_eq rfl) (hb hby d13_34) (fun _ _ => ⟨rfl, e7, (by decide : 0 + 0 ≤ _), (by decide : 0 + 0 ≤ _)⟩)
  dsimp only [Pt.U, Pt.locs, Pt.cells, Pt.slots] at X8 l8 y8 z8 st8 hQ8
  subst l8 y8 z8
  obtain ⟨rfl, N8q, e8q⟩ := hQ8
  have N8 := Fr.app N5 N8q
  refine step (T8.setTop (mkF m 37 #[.val (.ref o1), .val (.ref o1), .val (.ref o1)] [(.int (1 : Int32))])) (fun t k => st8.trans k) ?_
  refine step (T8.setTop (mkF m 40 #[.val (.ref o1), .val (.ref o1), .val (.ref o1)] [])) (fun t k => XS.ifNo X8.here hx rfl (hb hby d13_37) rfl ((if0 _ _).trans (feq (by decide : ¬ ((1 : Int32) = (0 : Int32)))).1) k) ?_
  refine step (T8.setTop (mkF m 41 #[.val (.ref o1), .val (.ref o1), .val (.ref o1)] [(.int (1 : Int32))])) (fun t k => XS.iconst X8.here hx rfl (hb hby d13_40) k) ?_
  refine step (T8.setTop (mkF m 45 #[.val (.ref o1), .val (.ref o1), .val (.ref o1)] [(.int (1 : Int32))])) (fun t k => XS.goto X8.here hx rfl (pc0 := 41) (pc' := 45) rfl (hb hby d13_41) (by decide) (by decide) k) ?_
  have K0q : Keep h0 h0 [] := Keep.refl _ _
  refine fin (v := some (.int (nar .boolean (1 : Int32)))) X8 (fun h => by cases h) ?_ (by decide) (by decide) (fun fs hr => retN X8 hx (t := .boolean) hret (by simp) (hb hby d13_45) hr)
  show Q13_17 Z o1 i1 o2 o3 o4 o5 kc2 i3 i4 i5 kc6 i7 i8 i9 h0 n0 (some (.int (nar .boolean (1 : Int32)))) T8.heap _
  rw [e8q]
  exact ⟨rfl, N8, rfl⟩
theorem d12_0 : decode method_3_code 0 = .ok (.iload_n 0, 1) := by decide +kernel
theorem d12_1 : decode method_3_code 1 = .ok (.iload_n 3, 1) := by decide +kernel
theorem d12_2 : decode method_3_code 2 = .ok (.if_icmp .eq 5, 3) := by decide +kernel
theorem d12_5 : decode method_3_code 5 = .ok (.iconst 0, 1) := by decide +kernel
theorem d12_6 : decode method_3_code 6 = .ok (.ireturn, 1) := by decide +kernel
theorem d12_7 : decode method_3_code 7 = .ok (.iload_n 1, 1) := by decide +kernel
theorem d12_8 : decode method_3_code 8 = .ok (.iload 4, 2) := by decide +kernel
theorem d12_10 : decode method_3_code 10 = .ok (.if_icmp .eq 5, 3) := by decide +kernel
theorem d12_13 : decode method_3_code 13 = .ok (.iconst 0, 1) := by decide +kernel
theorem d12_14 : decode method_3_code 14 = .ok (.ireturn, 1) := by decide +kernel
theorem d12_15 : decode method_3_code 15 = .ok (.iload_n 0, 1) := by decide +kernel
theorem d12_16 : decode method_3_code 16 = .ok (.iconst 1, 1) := by decide +kernel
theorem d12_17 : decode method_3_code 17 = .ok (.if_icmp .eq 9, 3) := by decide +kernel
theorem d12_20 : decode method_3_code 20 = .ok (.iload_n 2, 1) := by decide +kernel
theorem d12_21 : decode method_3_code 21 = .ok (.iload 5, 2) := by decide +kernel
theorem d12_23 : decode method_3_code 23 = .ok (.if_icmp .ne 7, 3) := by decide +kernel
theorem d12_26 : decode method_3_code 26 = .ok (.iconst 1, 1) := by decide +kernel
theorem d12_27 : decode method_3_code 27 = .ok (.goto 4, 3) := by decide +kernel
theorem d12_30 : decode method_3_code 30 = .ok (.iconst 0, 1) := by decide +kernel
theorem d12_31 : decode method_3_code 31 = .ok (.ireturn, 1) := by decide +kernel
theorem ef_12_19 (m : MethodId) (x0 : Int32) (x1 : Int32) (x2 : Int32) (x3 : Int32) (x4 : Int32) (x5 : Int32) : entryFrame m #[(.int x0), (.int x1), (.int x2), (.int x3), (.int x4), (.int x5)] 6 = mkF m 0 #[.val (.int x0), .val (.int x1), .val (.int x2), .val (.int x3), .val (.int x4), .val (.int x5)] [] := by first | (simp [entryFrame, mkF, argsToLocals, Value.category]; done) | rfl
def Q12_19 (Z : State) (i1 : Int32) (i2 : Int32) (i3 : Int32) (i4 : Int32) (i5 : Int32) (i6 : Int32) (h0 : Heap) (n0 : Nat) (v : Option Value) (h : Heap) (L : List Loc) : Prop := ∃ (z_1 : Int32), v = some (.int z_1) ∧ Fr n0 L ∧ h = h0 ∧ z_1 = (if i1 = i4 then (if i2 = i5 then (if i1 = (1 : Int32) then (1 : Int32) else (if i3 = i6 then (1 : Int32) else (0 : Int32))) else (0 : Int32)) else (0 : Int32))
set_option maxRecDepth 65536 in
set_option maxHeartbeats 40000000 in
theorem rm12_19 (l : Launch) (Z : State) (a0 : Array Value) (hw : ∀ d ∈ tables_1, d.before a0 Z = true) (ws : List Jvm.Cond) (i1 : Int32) (i2 : Int32) (i3 : Int32) (i4 : Int32) (i5 : Int32) (i6 : Int32) (h0 : Heap) (n0 : Nat) (Z0 : n0 ≤ h0.size) (hy0 : ¬ ((255 : Int32) < (nar .char i2))) (hy1 : ¬ ((255 : Int32) < (nar .char i3))) (hy2 : ¬ ((255 : Int32) < (nar .char i5))) (hy3 : ¬ ((255 : Int32) < (nar .char i6))) (hy4 : ¬ ((own_n i1) = (0 : Int32))) (hy5 : ¬ ((own_n i4) = (0 : Int32)))  :
    MetFree l (⟨"com/example/vertex_to_service/vertextoservice/core/EdgeEqualsPinLaw", "same", "(ICCICC)Z"⟩ : MethodName) (head1 (Jvm.Cond.code (⟨"com/example/vertex_to_service/vertextoservice/core/EdgeEqualsPinLaw", "same", "(ICCICC)Z"⟩ : MethodName) method_3_code 6 (some .boolean) :: ws) ({ frames := 0, cells := 0, slots := 0, locals := 0 } : Room)) (fun a U => a = #[(.int i1), (.int i2), (.int i3), (.int i4), (.int i5), (.int i6)] ∧ Z.Warmed39 U.vm ∧ U.heap = h0) (fun _ _ _ _ _ => True) (fun _ U o U' => ∃ v L, o = .returned v ∧ Q12_19 Z i1 i2 i3 i4 i5 i6 h0 n0 v U'.heap L ∧ FrameEnd U o U' L ({ frames := 0, cells := 0, slots := 0, locals := 0 } : Room).cells ({ frames := 0, cells := 0, slots := 0, locals := 0 } : Room).slots) := by
  refine own_body (plainFor_of_name pn_0) ?_
  intro p e s m below meth c s₁ G hx hby hml hZ hown hnm hret X0 e0 step fin
  replace hown : s.vm.findClass "com/example/vertex_to_service/vertextoservice/core/EdgeEqualsPinLaw" = some m.cls := hown
  replace hnm : meth.name = "same" := hnm
  replace hret : meth.sig.returnType = some .boolean := hret
  replace hml : c.maxLocals = 6 := hml
  have N0 := Fr.nil n0
  refine step (s₁.setTop (mkF m 0 #[.val (.int i1), .val (.int i2), .val (.int i3), .val (.int i4), .val (.int i5), .val (.int i6)] [])) (fun t k => castTop (ef_12_19 m i1 i2 i3 i4 i5 i6) k) ?_
  refine step (s₁.setTop (mkF m 1 #[.val (.int i1), .val (.int i2), .val (.int i3), .val (.int i4), .val (.int i5), .val (.int i6)] [(.int i1)])) (fun t k => XS.iloadN X0.here hx rfl (hb hby d12_0) rfl k) ?_
  refine step (s₁.setTop (mkF m 2 #[.val (.int i1), .val (.int i2), .val (.int i3), .val (.int i4), .val (.int i5), .val (.int i6)] [(.int i4), (.int i1)])) (fun t k => XS.iloadN X0.here hx rfl (hb hby d12_1) rfl k) ?_
  by_cases hc2_2 : i1 = i4
  · -- 2 True
    refine step (s₁.setTop (mkF m 7 #[.val (.int i1), .val (.int i2), .val (.int i3), .val (.int i4), .val (.int i5), .val (.int i6)] [])) (fun t k => XS.icmpYes X0.here hx rfl (pc0 := 2) (pc' := 7) rfl (hb hby d12_2) rfl (teq hc2_2).1 (by decide) (by decide) k) ?_
    refine step (s₁.setTop (mkF m 8 #[.val (.int i1), .val (.int i2), .val (.int i3), .val (.int i4), .val (.int i5), .val (.int i6)] [(.int i2)])) (fun t k => XS.iloadN X0.here hx rfl (hb hby d12_7) rfl k) ?_
    refine step (s₁.setTop (mkF m 10 #[.val (.int i1), .val (.int i2), .val (.int i3), .val (.int i4), .val (.int i5), .val (.int i6)] [(.int i5), (.int i2)])) (fun t k => XS.iload X0.here hx rfl (hb hby d12_8) rfl k) ?_
    by_cases hc10_3 : i2 = i5
    · -- 10 True
      refine step (s₁.setTop (mkF m 15 #[.val (.int i1), .val (.int i2), .val (.int i3), .val (.int i4), .val (.int i5), .val (.int i6)] [])) (fun t k => XS.icmpYes X0.here hx rfl (pc0 := 10) (pc' := 15) rfl (hb hby d12_10) rfl (teq hc10_3).1 (by decide) (by decide) k) ?_
      refine step (s₁.setTop (mkF m 16 #[.val (.int i1), .val (.int i2), .val (.int i3), .val (.int i4), .val (.int i5), .val (.int i6)] [(.int i1)])) (fun t k => XS.iloadN X0.here hx rfl (hb hby d12_15) rfl k) ?_
      refine step (s₁.setTop (mkF m 17 #[.val (.int i1), .val (.int i2), .val (.int i3), .val (.int i4), .val (.int i5), .val (.int i6)] [(.int (1 : Int32)), (.int i1)])) (fun t k => XS.iconst X0.here hx rfl (hb hby d12_16) k) ?_
      by_cases hc17_4 : i1 = (1 : Int32)
      · -- 17 True
        refine step (s₁.setTop (mkF m 26 #[.val (.int i1), .val (.int i2), .val (.int i3), .val (.int i4), .val (.int i5), .val (.int i6)] [])) (fun t k => XS.icmpYes X0.here hx rfl (pc0 := 17) (pc' := 26) rfl (hb hby d12_17) rfl (teq hc17_4).1 (by decide) (by decide) k) ?_
        refine step (s₁.setTop (mkF m 27 #[.val (.int i1), .val (.int i2), .val (.int i3), .val (.int i4), .val (.int i5), .val (.int i6)] [(.int (1 : Int32))])) (fun t k => XS.iconst X0.here hx rfl (hb hby d12_26) k) ?_
        refine step (s₁.setTop (mkF m 31 #[.val (.int i1), .val (.int i2), .val (.int i3), .val (.int i4), .val (.int i5), .val (.int i6)] [(.int (1 : Int32))])) (fun t k => XS.goto X0.here hx rfl (pc0 := 27) (pc' := 31) rfl (hb hby d12_27) (by decide) (by decide) k) ?_
        refine fin (v := some (.int (nar .boolean (1 : Int32)))) X0 (fun h => by cases h) ?_ (by decide) (by decide) (fun fs hr => retN X0 hx (t := .boolean) hret (by simp) (hb hby d12_31) hr)
        show Q12_19 Z i1 i2 i3 i4 i5 i6 h0 n0 (some (.int (nar .boolean (1 : Int32)))) s₁.heap _
        rw [e0]
        exact ⟨(1 : Int32), rfl, N0, rfl, (by simp only [if_pos hc2_2, if_pos hc10_3, if_pos hc17_4, if_true, if_false] <;> rfl)⟩
      · -- 17 False
        refine step (s₁.setTop (mkF m 20 #[.val (.int i1), .val (.int i2), .val (.int i3), .val (.int i4), .val (.int i5), .val (.int i6)] [])) (fun t k => XS.icmpNo X0.here hx rfl (hb hby d12_17) rfl (feq hc17_4).1 k) ?_
        refine step (s₁.setTop (mkF m 21 #[.val (.int i1), .val (.int i2), .val (.int i3), .val (.int i4), .val (.int i5), .val (.int i6)] [(.int i3)])) (fun t k => XS.iloadN X0.here hx rfl (hb hby d12_20) rfl k) ?_
        refine step (s₁.setTop (mkF m 23 #[.val (.int i1), .val (.int i2), .val (.int i3), .val (.int i4), .val (.int i5), .val (.int i6)] [(.int i6), (.int i3)])) (fun t k => XS.iload X0.here hx rfl (hb hby d12_21) rfl k) ?_
        by_cases hc23_5 : i3 = i6
        · -- 23 True
          refine step (s₁.setTop (mkF m 26 #[.val (.int i1), .val (.int i2), .val (.int i3), .val (.int i4), .val (.int i5), .val (.int i6)] [])) (fun t k => XS.icmpNo X0.here hx rfl (hb hby d12_23) rfl (teq hc23_5).2 k) ?_
          refine step (s₁.setTop (mkF m 27 #[.val (.int i1), .val (.int i2), .val (.int i3), .val (.int i4), .val (.int i5), .val (.int i6)] [(.int (1 : Int32))])) (fun t k => XS.iconst X0.here hx rfl (hb hby d12_26) k) ?_
          refine step (s₁.setTop (mkF m 31 #[.val (.int i1), .val (.int i2), .val (.int i3), .val (.int i4), .val (.int i5), .val (.int i6)] [(.int (1 : Int32))])) (fun t k => XS.goto X0.here hx rfl (pc0 := 27) (pc' := 31) rfl (hb hby d12_27) (by decide) (by decide) k) ?_
          refine fin (v := some (.int (nar .boolean (1 : Int32)))) X0 (fun h => by cases h) ?_ (by decide) (by decide) (fun fs hr => retN X0 hx (t := .boolean) hret (by simp) (hb hby d12_31) hr)
          show Q12_19 Z i1 i2 i3 i4 i5 i6 h0 n0 (some (.int (nar .boolean (1 : Int32)))) s₁.heap _
          rw [e0]
          exact ⟨(1 : Int32), rfl, N0, rfl, (by simp only [if_pos hc2_2, if_pos hc10_3, if_neg hc17_4, if_pos hc23_5, if_true, if_false] <;> rfl)⟩
        · -- 23 False
          refine step (s₁.setTop (mkF m 30 #[.val (.int i1), .val (.int i2), .val (.int i3), .val (.int i4), .val (.int i5), .val (.int i6)] [])) (fun t k => XS.icmpYes X0.here hx rfl (pc0 := 23) (pc' := 30) rfl (hb hby d12_23) rfl (feq hc23_5).2 (by decide) (by decide) k) ?_
          refine step (s₁.setTop (mkF m 31 #[.val (.int i1), .val (.int i2), .val (.int i3), .val (.int i4), .val (.int i5), .val (.int i6)] [(.int (0 : Int32))])) (fun t k => XS.iconst X0.here hx rfl (hb hby d12_30) k) ?_
          refine fin (v := some (.int (nar .boolean (0 : Int32)))) X0 (fun h => by cases h) ?_ (by decide) (by decide) (fun fs hr => retN X0 hx (t := .boolean) hret (by simp) (hb hby d12_31) hr)
          show Q12_19 Z i1 i2 i3 i4 i5 i6 h0 n0 (some (.int (nar .boolean (0 : Int32)))) s₁.heap _
          rw [e0]
          exact ⟨(0 : Int32), rfl, N0, rfl, (by simp only [if_pos hc2_2, if_pos hc10_3, if_neg hc17_4, if_neg hc23_5, if_true, if_false] <;> rfl)⟩
    · -- 10 False
      refine step (s₁.setTop (mkF m 13 #[.val (.int i1), .val (.int i2), .val (.int i3), .val (.int i4), .val (.int i5), .val (.int i6)] [])) (fun t k => XS.icmpNo X0.here hx rfl (hb hby d12_10) rfl (feq hc10_3).1 k) ?_
      refine step (s₁.setTop (mkF m 14 #[.val (.int i1), .val (.int i2), .val (.int i3), .val (.int i4), .val (.int i5), .val (.int i6)] [(.int (0 : Int32))])) (fun t k => XS.iconst X0.here hx rfl (hb hby d12_13) k) ?_
      refine fin (v := some (.int (nar .boolean (0 : Int32)))) X0 (fun h => by cases h) ?_ (by decide) (by decide) (fun fs hr => retN X0 hx (t := .boolean) hret (by simp) (hb hby d12_14) hr)
      show Q12_19 Z i1 i2 i3 i4 i5 i6 h0 n0 (some (.int (nar .boolean (0 : Int32)))) s₁.heap _
      rw [e0]
      exact ⟨(0 : Int32), rfl, N0, rfl, (by simp only [if_pos hc2_2, if_neg hc10_3, if_true, if_false] <;> rfl)⟩
  · -- 2 False
    refine step (s₁.setTop (mkF m 5 #[.val (.int i1), .val (.int i2), .val (.int i3), .val (.int i4), .val (.int i5), .val (.int i6)] [])) (fun t k => XS.icmpNo X0.here hx rfl (hb hby d12_2) rfl (feq hc2_2).1 k) ?_
    refine step (s₁.setTop (mkF m 6 #[.val (.int i1), .val (.int i2), .val (.int i3), .val (.int i4), .val (.int i5), .val (.int i6)] [(.int (0 : Int32))])) (fun t k => XS.iconst X0.here hx rfl (hb hby d12_5) k) ?_
    refine fin (v := some (.int (nar .boolean (0 : Int32)))) X0 (fun h => by cases h) ?_ (by decide) (by decide) (fun fs hr => retN X0 hx (t := .boolean) hret (by simp) (hb hby d12_6) hr)
    show Q12_19 Z i1 i2 i3 i4 i5 i6 h0 n0 (some (.int (nar .boolean (0 : Int32)))) s₁.heap _
    rw [e0]
    exact ⟨(0 : Int32), rfl, N0, rfl, (by simp only [if_neg hc2_2, if_true, if_false] <;> rfl)⟩
theorem ef_14_21 (m : MethodId) (x0 : Addr) (x1 : Addr) : entryFrame m #[(.ref x0), (.ref x1)] 3 = mkF m 0 #[.val (.ref x0), .val (.ref x1), .unset] [] := by first | (simp [entryFrame, mkF, argsToLocals, Value.category]; done) | rfl
def Q14_21 (Z : State) (o1 : Addr) (o2 : Addr) (i1 : Int32) (o3 : Addr) (o4 : Addr) (kc2 : ClassId) (i3 : Int32) (i4 : Int32) (i5 : Int32) (kc6 : ClassId) (i7 : Int32) (i8 : Int32) (i9 : Int32) (h0 : Heap) (n0 : Nat) (v : Option Value) (h : Heap) (L : List Loc) : Prop := ∃ (z55_11 : Int32), v = some (.int z55_11) ∧ Fr n0 L ∧ h = h0 ∧ z55_11 = (if (own_eq i3 i4 i5 i7 i8 i9) = (0 : Int32) then (0 : Int32) else (1 : Int32))
set_option maxRecDepth 65536 in
set_option maxHeartbeats 40000000 in
theorem rm14_21 (l : Launch) (Z : State) (a0 : Array Value) (hw : ∀ d ∈ tables_1, d.before a0 Z = true) (ws : List Jvm.Cond) (o1 : Addr) (o2 : Addr) (i1 : Int32) (o3 : Addr) (o4 : Addr) (kc2 : ClassId) (i3 : Int32) (i4 : Int32) (i5 : Int32) (kc6 : ClassId) (i7 : Int32) (i8 : Int32) (i9 : Int32) (h0 : Heap) (n0 : Nat) (Z0 : n0 ≤ h0.size) (S0 : Sta Z h0 "java/lang/String" "COMPACT_STRINGS" "Z" (.int i1)) (Pm1 : Exa Z h0 o1 "java/lang/String") (Pm2 : Fld Z h0 o1 "java/lang/String" "coder" "B" (.int (0 : Int32))) (Pm3 : Fld Z h0 o1 "java/lang/String" "value" "[B" (.ref o3)) (Pm4 : Exa Z h0 o2 "java/lang/String") (Pm5 : Fld Z h0 o2 "java/lang/String" "coder" "B" (.int (0 : Int32))) (Pm6 : Fld Z h0 o2 "java/lang/String" "value" "[B" (.ref o4)) (Pm7 : Arv Z h0 o3 kc2 .byte (own_n i3) (own_bs i3 i4 i5) (.int (0 : Int32))) (Pm8 : Arv Z h0 o4 kc6 .byte (own_n i7) (own_bs i7 i8 i9) (.int (0 : Int32))) (gn_o1 : n0 ≤ o1) (ne_o1_o2 : o1 ≠ o2) (ne_o1_o3 : o1 ≠ o3) (ne_o1_o4 : o1 ≠ o4) (gn_o2 : n0 ≤ o2) (ne_o2_o3 : o2 ≠ o3) (ne_o2_o4 : o2 ≠ o4) (gn_o3 : n0 ≤ o3) (ne_o3_o4 : o3 ≠ o4) (gn_o4 : n0 ≤ o4) (hy19 : ¬ ((255 : Int32) < (nar .char i8))) (hy20 : ¬ ((255 : Int32) < (nar .char i9))) (hy21 : ¬ ((255 : Int32) < (nar .char i4))) (hy22 : ¬ ((255 : Int32) < (nar .char i5))) (hy23 : ¬ ((own_n i7) = (0 : Int32))) (hy24 : ¬ ((own_n i3) = (0 : Int32))) (hy25 : ¬ (i1 = (0 : Int32)))  :
    MetFree l (⟨"java/lang/String", "equals", "(Ljava/lang/Object;)Z"⟩ : MethodName) (head1 (Jvm.Cond.code (⟨"java/lang/String", "equals", "(Ljava/lang/Object;)Z"⟩ : MethodName) jdk_42_method_66_code 3 (some .boolean) :: ws) ({ frames := 1, cells := 0, slots := 0, locals := 14 } : Room)) (fun a U => a = #[(.ref o1), (.ref o2)] ∧ Z.Warmed39 U.vm ∧ U.heap = h0) (fun _ _ _ _ _ => True) (fun _ U o U' => ∃ v L, o = .returned v ∧ Q14_21 Z o1 o2 i1 o3 o4 kc2 i3 i4 i5 kc6 i7 i8 i9 h0 n0 v U'.heap L ∧ FrameEnd U o U' L ({ frames := 1, cells := 0, slots := 0, locals := 14 } : Room).cells ({ frames := 1, cells := 0, slots := 0, locals := 14 } : Room).slots) := by
  refine own_body (plainFor_of_name pn_1) ?_
  intro p e s m below meth c s₁ G hx hby hml hZ hown hnm hret X0 e0 step fin
  replace hown : s.vm.findClass "java/lang/String" = some m.cls := hown
  replace hnm : meth.name = "equals" := hnm
  replace hret : meth.sig.returnType = some .boolean := hret
  replace hml : c.maxLocals = 3 := hml
  have N0 := Fr.nil n0
  refine step (s₁.setTop (mkF m 0 #[.val (.ref o1), .val (.ref o2), .unset] [])) (fun t k => castTop (ef_14_21 m o1 o2) k) ?_
  refine step (s₁.setTop (mkF m 1 #[.val (.ref o1), .val (.ref o2), .unset] [(.ref o1)])) (fun t k => XS.aloadN X0.here hx rfl (hb hby d14_0) rfl rfl k) ?_
  refine step (s₁.setTop (mkF m 2 #[.val (.ref o1), .val (.ref o2), .unset] [(.ref o2), (.ref o1)])) (fun t k => XS.aloadN X0.here hx rfl (hb hby d14_1) rfl rfl k) ?_
  have hc2_1 : ¬ (o1 = o2) := ne_o1_o2
  refine step (s₁.setTop (mkF m 7 #[.val (.ref o1), .val (.ref o2), .unset] [])) (fun t k => Jvm.RoadKit.acmp (g := (mkF m 2 #[.val (.ref o1), .val (.ref o2), .unset] [(.ref o2), (.ref o1)])) X0 hx rfl rfl rfl (pc0 := 2) (pc' := 7) (same := false) rfl (hb hby d14_2) rfl (decide_eq_false fun q => hc2_1 (Value.ref.inj q)) (by decide) (by decide) k) ?_
  refine step (s₁.setTop (mkF m 8 #[.val (.ref o1), .val (.ref o2), .unset] [(.ref o2)])) (fun t k => XS.aloadN X0.here hx rfl (hb hby d14_7) rfl rfl k) ?_
  obtain ⟨T2, X2, e2, st2⟩ := instY X0 hx hZ hown (hw _ (List.mem_of_getElem? (i := 79) rfl)) e0 (Ins.self Pm4) (g := (mkF m 8 #[.val (.ref o1), .val (.ref o2), .unset] [(.ref o2)])) rfl rfl (hb hby d14_8)
  refine step (T2.setTop (mkF m 11 #[.val (.ref o1), .val (.ref o2), .unset] [(.int (1 : Int32))])) (fun t k => st2 t k) ?_
  refine step (T2.setTop (mkF m 14 #[.val (.ref o1), .val (.ref o2), .unset] [])) (fun t k => XS.ifNo X2.here hx rfl (hb hby d14_11) rfl ((if0 _ _).trans (feq (by decide : ¬ ((1 : Int32) = (0 : Int32)))).1) k) ?_
  refine step (T2.setTop (mkF m 15 #[.val (.ref o1), .val (.ref o2), .unset] [(.ref o2)])) (fun t k => XS.aloadN X2.here hx rfl (hb hby d14_14) rfl rfl k) ?_
  obtain ⟨T3, X3, e3, st3⟩ := castY X2 hx hZ hown (hw _ (List.mem_of_getElem? (i := 79) rfl)) e2 (Ins.self Pm4) (g := (mkF m 15 #[.val (.ref o1), .val (.ref o2), .unset] [(.ref o2)])) rfl rfl (hb hby d14_15)
  refine step (T3.setTop (mkF m 18 #[.val (.ref o1), .val (.ref o2), .unset] [(.ref o2)])) (fun t k => st3 t k) ?_
  refine step (T3.setTop (mkF m 19 #[.val (.ref o1), .val (.ref o2), .val (.ref o2)] [])) (fun t k => XS.astoreN X3.here hx rfl (hb hby d14_18) rfl rfl (l' := #[.val (.ref o1), .val (.ref o2), .val (.ref o2)]) rfl k) ?_
  obtain ⟨T4, X4, e4, st4⟩ := getS2 X3 hx hZ hown (host := "") (Or.inl (hw _ (List.mem_of_getElem? (i := 21) rfl))) Via.refl e3 S0 (g := (mkF m 19 #[.val (.ref o1), .val (.ref o2), .val (.ref o2)] [])) rfl (hb hby d14_19)
  refine step (T4.setTop (mkF m 22 #[.val (.ref o1), .val (.ref o2), .val (.ref o2)] [(.int i1)])) (fun t k => st4 t k) ?_
  have hc22_5 : ¬ (i1 = (0 : Int32)) := hy25
  refine step (T4.setTop (mkF m 25 #[.val (.ref o1), .val (.ref o2), .val (.ref o2)] [])) (fun t k => XS.ifNo X4.here hx rfl (hb hby d14_22) rfl ((if0 _ _).trans (feq hc22_5).1) k) ?_
  refine step (T4.setTop (mkF m 26 #[.val (.ref o1), .val (.ref o2), .val (.ref o2)] [(.ref o1)])) (fun t k => XS.aloadN X4.here hx rfl (hb hby d14_25) rfl rfl k) ?_
  obtain ⟨T6, X6, e6, st6⟩ := getF X4 hx hZ hown (host := "") (Or.inl (hw _ (List.mem_of_getElem? (i := 33) rfl))) Via.refl e4 Pm2 (g := (mkF m 26 #[.val (.ref o1), .val (.ref o2), .val (.ref o2)] [(.ref o1)])) rfl rfl (hb hby d14_26)
  refine step (T6.setTop (mkF m 29 #[.val (.ref o1), .val (.ref o2), .val (.ref o2)] [(.int (0 : Int32))])) (fun t k => st6 t k) ?_
  refine step (T6.setTop (mkF m 30 #[.val (.ref o1), .val (.ref o2), .val (.ref o2)] [(.ref o2), (.int (0 : Int32))])) (fun t k => XS.aloadN X6.here hx rfl (hb hby d14_29) rfl rfl k) ?_
  obtain ⟨T7, X7, e7, st7⟩ := getF X6 hx hZ hown (host := "") (Or.inl (hw _ (List.mem_of_getElem? (i := 33) rfl))) Via.refl e6 Pm5 (g := (mkF m 30 #[.val (.ref o1), .val (.ref o2), .val (.ref o2)] [(.ref o2), (.int (0 : Int32))])) rfl rfl (hb hby d14_30)
  refine step (T7.setTop (mkF m 33 #[.val (.ref o1), .val (.ref o2), .val (.ref o2)] [(.int (0 : Int32)), (.int (0 : Int32))])) (fun t k => st7 t k) ?_
  refine step (T7.setTop (mkF m 36 #[.val (.ref o1), .val (.ref o2), .val (.ref o2)] [])) (fun t k => XS.icmpNo X7.here hx rfl (hb hby d14_33) rfl (teq (by decide : (0 : Int32) = (0 : Int32))).2 k) ?_
  refine step (T7.setTop (mkF m 37 #[.val (.ref o1), .val (.ref o2), .val (.ref o2)] [(.ref o1)])) (fun t k => XS.aloadN X7.here hx rfl (hb hby d14_36) rfl rfl k) ?_
  obtain ⟨T8, X8, e8, st8⟩ := getF X7 hx hZ hown (host := "") (Or.inl (hw _ (List.mem_of_getElem? (i := 35) rfl))) Via.refl e7 Pm3 (g := (mkF m 37 #[.val (.ref o1), .val (.ref o2), .val (.ref o2)] [(.ref o1)])) rfl rfl (hb hby d14_37)
  refine step (T8.setTop (mkF m 40 #[.val (.ref o1), .val (.ref o2), .val (.ref o2)] [(.ref o3)])) (fun t k => st8 t k) ?_
  refine step (T8.setTop (mkF m 41 #[.val (.ref o1), .val (.ref o2), .val (.ref o2)] [(.ref o2), (.ref o3)])) (fun t k => XS.aloadN X8.here hx rfl (hb hby d14_40) rfl rfl k) ?_
  obtain ⟨T9, X9, e9, st9⟩ := getF X8 hx hZ hown (host := "") (Or.inl (hw _ (List.mem_of_getElem? (i := 35) rfl))) Via.refl e8 Pm6 (g := (mkF m 41 #[.val (.ref o1), .val (.ref o2), .val (.ref o2)] [(.ref o2), (.ref o3)])) rfl rfl (hb hby d14_41)
  refine step (T9.setTop (mkF m 44 #[.val (.ref o1), .val (.ref o2), .val (.ref o2)] [(.ref o4), (.ref o3)])) (fun t k => st9 t k) ?_
  obtain ⟨_, _, ⟨T10, L10, k10, n10⟩, -, X10, ⟨Lc10, hQ10, l10, y10, z10⟩, st10⟩ := Jvm.LawKit.callS X9 hx (y := (⟨"java/lang/StringLatin1", "equals", "([B[B)Z"⟩ : MethodName)) hown (mvT hZ (hw _ (List.mem_of_getElem? (i := 80) rfl))) (mvT hZ (hw _ (List.mem_of_getElem? (i := 81) rfl))) (mvT hZ (hw _ (List.mem_of_getElem? (i := 82) rfl))) (mvT hZ (hw _ (List.mem_of_getElem? (i := 83) rfl))) (by decide) (backOf (W := 0) (rm15 l Z a0 hw [] o3 o4 kc2 kc6 i3 i4 i5 i7 i8 i9 h0 n0 Z0 Pm7 Pm8) hZ (hw _ (List.mem_of_getElem? (i := 83) rfl)) (hw _ (List.mem_of_getElem? (i := 82) rfl)) (by decide) (by decide)) (g := (mkF m 44 #[.val (.ref o1), .val (.ref o2), .val (.ref o2)] [(.ref o4), (.ref o3)])) rfl (by rw [hml]; rfl) (argsL := [(.ref o3), (.ref o4)]) (rest := []) (lenOf pd_12 rfl) rfl (by show 2 * 0 + _ ≤ _; exact Nat.le_of_eq rfl) (hb hby d14_44) (fun _ _ => ⟨rfl, e9, (by decide : 0 + 0 ≤ _), (by decide : 0 + 0 ≤ _)⟩)
  dsimp only [Pt.U, Pt.locs, Pt.cells, Pt.slots] at X10 l10 y10 z10 st10 hQ10
  subst l10 y10 z10
  obtain ⟨rfl, N10q, e10q⟩ := hQ10
  have N10 := Fr.app N0 N10q
  refine step (T10.setTop (mkF m 47 #[.val (.ref o1), .val (.ref o2), .val (.ref o2)] [(.int (own_eq i3 i4 i5 i7 i8 i9))])) (fun t k => st10 t k) ?_
  suffices J55_12 : ∀ (z55_11 : Int32), z55_11 = (if (own_eq i3 i4 i5 i7 i8 i9) = (0 : Int32) then (0 : Int32) else (1 : Int32)) → G (T10.setTop (mkF m 55 #[.val (.ref o1), .val (.ref o2), .val (.ref o2)] [(.int z55_11)])) by
    by_cases hc47_13 : (own_eq i3 i4 i5 i7 i8 i9) = (0 : Int32)
    · -- 47 True
      refine step (T10.setTop (mkF m 54 #[.val (.ref o1), .val (.ref o2), .val (.ref o2)] [])) (fun t k => XS.ifYes X10.here hx rfl (pc0 := 47) (pc' := 54) rfl (hb hby d14_47) rfl ((if0 _ _).trans (teq hc47_13).1) (by decide) (by decide) k) ?_
      refine step (T10.setTop (mkF m 55 #[.val (.ref o1), .val (.ref o2), .val (.ref o2)] [(.int (0 : Int32))])) (fun t k => XS.iconst X10.here hx rfl (hb hby d14_54) k) ?_
      exact J55_12 _ (by simp only [if_pos hc47_13, if_true, if_false] <;> rfl)
    · -- 47 False
      refine step (T10.setTop (mkF m 50 #[.val (.ref o1), .val (.ref o2), .val (.ref o2)] [])) (fun t k => XS.ifNo X10.here hx rfl (hb hby d14_47) rfl ((if0 _ _).trans (feq hc47_13).1) k) ?_
      refine step (T10.setTop (mkF m 51 #[.val (.ref o1), .val (.ref o2), .val (.ref o2)] [(.int (1 : Int32))])) (fun t k => XS.iconst X10.here hx rfl (hb hby d14_50) k) ?_
      refine step (T10.setTop (mkF m 55 #[.val (.ref o1), .val (.ref o2), .val (.ref o2)] [(.int (1 : Int32))])) (fun t k => XS.goto X10.here hx rfl (pc0 := 51) (pc' := 55) rfl (hb hby d14_51) (by decide) (by decide) k) ?_
      exact J55_12 _ (by simp only [if_neg hc47_13, if_true, if_false] <;> rfl)
  intro z55_11 hz55_11
  refine fin (v := some (.int (nar .boolean z55_11))) X10 (fun h => by cases h) ?_ (by decide) (by decide) (fun fs hr => retN X10 hx (t := .boolean) hret (by simp) (hb hby d14_55) hr)
  show Q14_21 Z o1 o2 i1 o3 o4 kc2 i3 i4 i5 kc6 i7 i8 i9 h0 n0 (some (.int (nar .boolean z55_11))) T10.heap _
  rw [e10q]
  exact ⟨z55_11, (congrArg (fun z => some (Value.int z)) (by rw [hz55_11]; (repeat' split) <;> rfl)), N10, rfl, hz55_11⟩
theorem ef_13_20 (m : MethodId) (x0 : Addr) (x1 : Addr) : entryFrame m #[(.ref x0), (.ref x1)] 3 = mkF m 0 #[.val (.ref x0), .val (.ref x1), .unset] [] := by first | (simp [entryFrame, mkF, argsToLocals, Value.category]; done) | rfl
def Q13_20 (Z : State) (o1 : Addr) (o2 : Addr) (i1 : Int32) (o3 : Addr) (o4 : Addr) (o5 : Addr) (o6 : Addr) (o7 : Addr) (o8 : Addr) (o9 : Addr) (o10 : Addr) (kc2 : ClassId) (i3 : Int32) (i4 : Int32) (i5 : Int32) (kc6 : ClassId) (i7 : Int32) (i8 : Int32) (i9 : Int32) (kc10 : ClassId) (i11 : Int32) (i12 : Int32) (i13 : Int32) (kc14 : ClassId) (i15 : Int32) (i16 : Int32) (i17 : Int32) (h0 : Heap) (n0 : Nat) (v : Option Value) (h : Heap) (L : List Loc) : Prop := ∃ (y1 : Int32), v = some (.int y1) ∧ Fr n0 L ∧ h = h0 ∧ y1 = (if (if (own_eq i3 i4 i5 i11 i12 i13) = (0 : Int32) then (0 : Int32) else (1 : Int32)) = (0 : Int32) then (0 : Int32) else (if (if (own_eq i7 i8 i9 i15 i16 i17) = (0 : Int32) then (0 : Int32) else (1 : Int32)) = (0 : Int32) then (0 : Int32) else (1 : Int32)))
set_option maxRecDepth 65536 in
set_option maxHeartbeats 40000000 in
theorem rm13_20 (l : Launch) (Z : State) (a0 : Array Value) (hw : ∀ d ∈ tables_1, d.before a0 Z = true) (ws : List Jvm.Cond) (o1 : Addr) (o2 : Addr) (i1 : Int32) (o3 : Addr) (o4 : Addr) (o5 : Addr) (o6 : Addr) (o7 : Addr) (o8 : Addr) (o9 : Addr) (o10 : Addr) (kc2 : ClassId) (i3 : Int32) (i4 : Int32) (i5 : Int32) (kc6 : ClassId) (i7 : Int32) (i8 : Int32) (i9 : Int32) (kc10 : ClassId) (i11 : Int32) (i12 : Int32) (i13 : Int32) (kc14 : ClassId) (i15 : Int32) (i16 : Int32) (i17 : Int32) (h0 : Heap) (n0 : Nat) (Z0 : n0 ≤ h0.size) (S0 : Sta Z h0 "java/lang/String" "COMPACT_STRINGS" "Z" (.int i1)) (Pm1 : Exa Z h0 o1 "com/example/vertex_to_service/vertextoservice/core/Edge") (Pm2 : Fld Z h0 o1 "com/example/vertex_to_service/vertextoservice/core/Edge" "from" "Ljava/lang/String;" (.ref o3)) (Pm3 : Fld Z h0 o1 "com/example/vertex_to_service/vertextoservice/core/Edge" "to" "Ljava/lang/String;" (.ref o4)) (Pm4 : Exa Z h0 o2 "com/example/vertex_to_service/vertextoservice/core/Edge") (Pm5 : Fld Z h0 o2 "com/example/vertex_to_service/vertextoservice/core/Edge" "from" "Ljava/lang/String;" (.ref o5)) (Pm6 : Fld Z h0 o2 "com/example/vertex_to_service/vertextoservice/core/Edge" "to" "Ljava/lang/String;" (.ref o6)) (Pm7 : Exa Z h0 o3 "java/lang/String") (Pm8 : Fld Z h0 o3 "java/lang/String" "coder" "B" (.int (0 : Int32))) (Pm9 : Fld Z h0 o3 "java/lang/String" "value" "[B" (.ref o7)) (Pm10 : Exa Z h0 o4 "java/lang/String") (Pm11 : Fld Z h0 o4 "java/lang/String" "coder" "B" (.int (0 : Int32))) (Pm12 : Fld Z h0 o4 "java/lang/String" "value" "[B" (.ref o8)) (Pm13 : Exa Z h0 o5 "java/lang/String") (Pm14 : Fld Z h0 o5 "java/lang/String" "coder" "B" (.int (0 : Int32))) (Pm15 : Fld Z h0 o5 "java/lang/String" "value" "[B" (.ref o9)) (Pm16 : Exa Z h0 o6 "java/lang/String") (Pm17 : Fld Z h0 o6 "java/lang/String" "coder" "B" (.int (0 : Int32))) (Pm18 : Fld Z h0 o6 "java/lang/String" "value" "[B" (.ref o10)) (Pm19 : Arv Z h0 o7 kc2 .byte (own_n i3) (own_bs i3 i4 i5) (.int (0 : Int32))) (Pm20 : Arv Z h0 o8 kc6 .byte (own_n i7) (own_bs i7 i8 i9) (.int (0 : Int32))) (Pm21 : Arv Z h0 o9 kc10 .byte (own_n i11) (own_bs i11 i12 i13) (.int (0 : Int32))) (Pm22 : Arv Z h0 o10 kc14 .byte (own_n i15) (own_bs i15 i16 i17) (.int (0 : Int32))) (gn_o1 : n0 ≤ o1) (ne_o1_o2 : o1 ≠ o2) (ne_o1_o3 : o1 ≠ o3) (ne_o1_o4 : o1 ≠ o4) (ne_o1_o5 : o1 ≠ o5) (ne_o1_o6 : o1 ≠ o6) (ne_o1_o7 : o1 ≠ o7) (ne_o1_o8 : o1 ≠ o8) (ne_o1_o9 : o1 ≠ o9) (ne_o1_o10 : o1 ≠ o10) (gn_o2 : n0 ≤ o2) (ne_o2_o3 : o2 ≠ o3) (ne_o2_o4 : o2 ≠ o4) (ne_o2_o5 : o2 ≠ o5) (ne_o2_o6 : o2 ≠ o6) (ne_o2_o7 : o2 ≠ o7) (ne_o2_o8 : o2 ≠ o8) (ne_o2_o9 : o2 ≠ o9) (gn_o3 : n0 ≤ o3) (ne_o3_o4 : o3 ≠ o4) (ne_o3_o5 : o3 ≠ o5) (ne_o3_o6 : o3 ≠ o6) (ne_o3_o7 : o3 ≠ o7) (ne_o3_o8 : o3 ≠ o8) (ne_o3_o9 : o3 ≠ o9) (gn_o4 : n0 ≤ o4) (ne_o4_o5 : o4 ≠ o5) (ne_o4_o6 : o4 ≠ o6) (ne_o4_o7 : o4 ≠ o7) (ne_o4_o8 : o4 ≠ o8) (ne_o4_o9 : o4 ≠ o9) (gn_o5 : n0 ≤ o5) (ne_o5_o6 : o5 ≠ o6) (ne_o5_o7 : o5 ≠ o7) (ne_o5_o8 : o5 ≠ o8) (ne_o5_o9 : o5 ≠ o9) (gn_o6 : n0 ≤ o6) (ne_o6_o7 : o6 ≠ o7) (ne_o6_o8 : o6 ≠ o8) (ne_o6_o9 : o6 ≠ o9) (gn_o7 : n0 ≤ o7) (ne_o7_o8 : o7 ≠ o8) (ne_o7_o9 : o7 ≠ o9) (gn_o8 : n0 ≤ o8) (ne_o8_o9 : o8 ≠ o9) (gn_o9 : n0 ≤ o9) (gn_o10 : n0 ≤ o10) (ne_o10_o2 : o10 ≠ o2) (ne_o10_o3 : o10 ≠ o3) (ne_o10_o4 : o10 ≠ o4) (ne_o10_o5 : o10 ≠ o5) (ne_o10_o6 : o10 ≠ o6) (ne_o10_o7 : o10 ≠ o7) (ne_o10_o8 : o10 ≠ o8) (ne_o10_o9 : o10 ≠ o9) (hy78 : ¬ ((255 : Int32) < (nar .char i4))) (hy79 : ¬ ((255 : Int32) < (nar .char i5))) (hy80 : ¬ ((255 : Int32) < (nar .char i8))) (hy81 : ¬ ((255 : Int32) < (nar .char i9))) (hy82 : ¬ ((255 : Int32) < (nar .char i12))) (hy83 : ¬ ((255 : Int32) < (nar .char i13))) (hy84 : ¬ ((255 : Int32) < (nar .char i16))) (hy85 : ¬ ((255 : Int32) < (nar .char i17))) (hy86 : ¬ ((own_n i3) = (0 : Int32))) (hy87 : ¬ ((own_n i7) = (0 : Int32))) (hy88 : ¬ ((own_n i11) = (0 : Int32))) (hy89 : ¬ ((own_n i15) = (0 : Int32))) (hy90 : ¬ (i1 = (0 : Int32)))  :
    MetFree l (⟨"com/example/vertex_to_service/vertextoservice/core/Edge", "equals", "(Ljava/lang/Object;)Z"⟩ : MethodName) (head1 (Jvm.Cond.code (⟨"com/example/vertex_to_service/vertextoservice/core/Edge", "equals", "(Ljava/lang/Object;)Z"⟩ : MethodName) prog_16_method_2_code 3 (some .boolean) :: ws) ({ frames := 2, cells := 0, slots := 0, locals := 28 } : Room)) (fun a U => a = #[(.ref o1), (.ref o2)] ∧ Z.Warmed39 U.vm ∧ U.heap = h0) (fun _ _ _ _ _ => True) (fun _ U o U' => ∃ v L, o = .returned v ∧ Q13_20 Z o1 o2 i1 o3 o4 o5 o6 o7 o8 o9 o10 kc2 i3 i4 i5 kc6 i7 i8 i9 kc10 i11 i12 i13 kc14 i15 i16 i17 h0 n0 v U'.heap L ∧ FrameEnd U o U' L ({ frames := 2, cells := 0, slots := 0, locals := 28 } : Room).cells ({ frames := 2, cells := 0, slots := 0, locals := 28 } : Room).slots) := by
  refine own_body (plainFor_of_name pn_4) ?_
  intro p e s m below meth c s₁ G hx hby hml hZ hown hnm hret X0 e0 step fin
  replace hown : s.vm.findClass "com/example/vertex_to_service/vertextoservice/core/Edge" = some m.cls := hown
  replace hnm : meth.name = "equals" := hnm
  replace hret : meth.sig.returnType = some .boolean := hret
  replace hml : c.maxLocals = 3 := hml
  have N0 := Fr.nil n0
  refine step (s₁.setTop (mkF m 0 #[.val (.ref o1), .val (.ref o2), .unset] [])) (fun t k => castTop (ef_13_20 m o1 o2) k) ?_
  refine step (s₁.setTop (mkF m 1 #[.val (.ref o1), .val (.ref o2), .unset] [(.ref o2)])) (fun t k => XS.aloadN X0.here hx rfl (hb hby d13_0) rfl rfl k) ?_
  obtain ⟨T1, X1, e1, st1⟩ := instY X0 hx hZ hown (hw _ (List.mem_of_getElem? (i := 72) rfl)) e0 (Ins.self Pm4) (g := (mkF m 1 #[.val (.ref o1), .val (.ref o2), .unset] [(.ref o2)])) rfl rfl (hb hby d13_1)
  refine step (T1.setTop (mkF m 4 #[.val (.ref o1), .val (.ref o2), .unset] [(.int (1 : Int32))])) (fun t k => st1 t k) ?_
  refine step (T1.setTop (mkF m 7 #[.val (.ref o1), .val (.ref o2), .unset] [])) (fun t k => XS.ifNo X1.here hx rfl (hb hby d13_4) rfl ((if0 _ _).trans (feq (by decide : ¬ ((1 : Int32) = (0 : Int32)))).1) k) ?_
  refine step (T1.setTop (mkF m 8 #[.val (.ref o1), .val (.ref o2), .unset] [(.ref o2)])) (fun t k => XS.aloadN X1.here hx rfl (hb hby d13_7) rfl rfl k) ?_
  obtain ⟨T2, X2, e2, st2⟩ := castY X1 hx hZ hown (hw _ (List.mem_of_getElem? (i := 72) rfl)) e1 (Ins.self Pm4) (g := (mkF m 8 #[.val (.ref o1), .val (.ref o2), .unset] [(.ref o2)])) rfl rfl (hb hby d13_8)
  refine step (T2.setTop (mkF m 11 #[.val (.ref o1), .val (.ref o2), .unset] [(.ref o2)])) (fun t k => st2 t k) ?_
  refine step (T2.setTop (mkF m 12 #[.val (.ref o1), .val (.ref o2), .val (.ref o2)] [])) (fun t k => XS.astoreN X2.here hx rfl (hb hby d13_11) rfl rfl (l' := #[.val (.ref o1), .val (.ref o2), .val (.ref o2)]) rfl k) ?_
  refine step (T2.setTop (mkF m 13 #[.val (.ref o1), .val (.ref o2), .val (.ref o2)] [(.ref o1)])) (fun t k => XS.aloadN X2.here hx rfl (hb hby d13_12) rfl rfl k) ?_
  obtain ⟨T3, X3, e3, st3⟩ := getF X2 hx hZ hown (host := "") (Or.inl (hw _ (List.mem_of_getElem? (i := 60) rfl))) Via.refl e2 Pm2 (g := (mkF m 13 #[.val (.ref o1), .val (.ref o2), .val (.ref o2)] [(.ref o1)])) rfl rfl (hb hby d13_13)
  refine step (T3.setTop (mkF m 16 #[.val (.ref o1), .val (.ref o2), .val (.ref o2)] [(.ref o3)])) (fun t k => st3 t k) ?_
  refine step (T3.setTop (mkF m 17 #[.val (.ref o1), .val (.ref o2), .val (.ref o2)] [(.ref o2), (.ref o3)])) (fun t k => XS.aloadN X3.here hx rfl (hb hby d13_16) rfl rfl k) ?_
  obtain ⟨T4, X4, e4, st4⟩ := getF X3 hx hZ hown (host := "") (Or.inl (hw _ (List.mem_of_getElem? (i := 60) rfl))) Via.refl e3 Pm5 (g := (mkF m 17 #[.val (.ref o1), .val (.ref o2), .val (.ref o2)] [(.ref o2), (.ref o3)])) rfl rfl (hb hby d13_17)
  refine step (T4.setTop (mkF m 20 #[.val (.ref o1), .val (.ref o2), .val (.ref o2)] [(.ref o5), (.ref o3)])) (fun t k => st4 t k) ?_
  obtain ⟨cq5, kq5, q5a, q5b, q5c⟩ := isOf hZ e4 Pm7
  obtain ⟨_, _, ⟨T5, L5, k5, n5⟩, -, X5, ⟨Lc5, hQ5, l5, y5, z5⟩, st5⟩ := X4.virtualBack hx (y := (⟨"java/lang/String", "equals", "(Ljava/lang/Object;)Z"⟩ : MethodName)) (z := (⟨"java/lang/String", "equals", "(Ljava/lang/Object;)Z"⟩ : MethodName)) hown (mvT hZ (hw _ (List.mem_of_getElem? (i := 74) rfl))) (mvT hZ (hw _ (List.mem_of_getElem? (i := 75) rfl))) (notFace_of_selects (args := #[]) (mvT hZ (hw _ (List.mem_of_getElem? (i := 77) rfl)))) (mvT hZ (hw _ (List.mem_of_getElem? (i := 77) rfl))) (mvT hZ (hw _ (List.mem_of_getElem? (i := 76) rfl))) (by decide) (backOf (W := 0) (rm14_21 l Z a0 hw [] o3 o5 i1 o7 o9 kc2 i3 i4 i5 kc10 i11 i12 i13 h0 n0 Z0 S0 Pm7 Pm8 Pm9 Pm13 Pm14 Pm15 Pm19 Pm21 gn_o3 ne_o3_o5 ne_o3_o7 ne_o3_o9 gn_o5 ne_o5_o7 ne_o5_o9 gn_o7 ne_o7_o9 gn_o9 hy82 hy83 hy78 hy79 hy88 hy86 hy90) hZ (hw _ (List.mem_of_getElem? (i := 78) rfl)) (hw _ (List.mem_of_getElem? (i := 9) rfl)) (by decide) (by decide)) q5a q5c (g := (mkF m 20 #[.val (.ref o1), .val (.ref o2), .val (.ref o2)] [(.ref o5), (.ref o3)])) rfl (by rw [hml]; rfl) (Steps.refl _) (argsL := [(.ref o5)]) (rest := []) (lenOf pd_8 rfl) rfl (by show 2 * 0 + _ ≤ _; exact Nat.le_of_eq rfl) (hb hby d13_20) (fun _ _ => ⟨rfl, e4, (by decide : 0 + 0 ≤ _), (by decide : 0 + 0 ≤ _)⟩)
  dsimp only [Pt.U, Pt.locs, Pt.cells, Pt.slots] at X5 l5 y5 z5 st5 hQ5
  subst l5 y5 z5
  obtain ⟨z55_11_5, rfl, N5q, e5q, hz55_11_5⟩ := hQ5
  have N5 := Fr.app N0 N5q
  refine step (T5.setTop (mkF m 23 #[.val (.ref o1), .val (.ref o2), .val (.ref o2)] [(.int z55_11_5)])) (fun t k => st5.trans k) ?_
  by_cases hc23_6 : z55_11_5 = (0 : Int32)
  · -- pc 23: z55_11_5 = (0 : Int32) True
    refine step (T5.setTop (mkF m 44 #[.val (.ref o1), .val (.ref o2), .val (.ref o2)] [])) (fun t k => XS.ifYes X5.here hx rfl (pc0 := 23) (pc' := 44) rfl (hb hby d13_23) rfl ((if0 _ _).trans (teq hc23_6).1) (by decide) (by decide) k) ?_
    refine step (T5.setTop (mkF m 45 #[.val (.ref o1), .val (.ref o2), .val (.ref o2)] [(.int (0 : Int32))])) (fun t k => XS.iconst X5.here hx rfl (hb hby d13_44) k) ?_
    have K0q : Keep h0 h0 [] := Keep.refl _ _
    refine fin (v := some (.int (nar .boolean (0 : Int32)))) X5 (fun h => by cases h) ?_ (by decide) (by decide) (fun fs hr => retN X5 hx (t := .boolean) hret (by simp) (hb hby d13_45) hr)
    show Q13_20 Z o1 o2 i1 o3 o4 o5 o6 o7 o8 o9 o10 kc2 i3 i4 i5 kc6 i7 i8 i9 kc10 i11 i12 i13 kc14 i15 i16 i17 h0 n0 (some (.int (nar .boolean (0 : Int32)))) T5.heap _
    rw [e5q]
    exact ⟨_, rfl, N5, rfl, (by subst hz55_11_5; simp only [if_pos hc23_6, if_true, if_false] <;> rfl)⟩
  · -- pc 23: z55_11_5 = (0 : Int32) False
    refine step (T5.setTop (mkF m 26 #[.val (.ref o1), .val (.ref o2), .val (.ref o2)] [])) (fun t k => XS.ifNo X5.here hx rfl (hb hby d13_23) rfl ((if0 _ _).trans (feq hc23_6).1) k) ?_
    refine step (T5.setTop (mkF m 27 #[.val (.ref o1), .val (.ref o2), .val (.ref o2)] [(.ref o1)])) (fun t k => XS.aloadN X5.here hx rfl (hb hby d13_26) rfl rfl k) ?_
    obtain ⟨T7, X7, e7, st7⟩ := getF X5 hx hZ hown (host := "") (Or.inl (hw _ (List.mem_of_getElem? (i := 62) rfl))) Via.refl e5q Pm3 (g := (mkF m 27 #[.val (.ref o1), .val (.ref o2), .val (.ref o2)] [(.ref o1)])) rfl rfl (hb hby d13_27)
    refine step (T7.setTop (mkF m 30 #[.val (.ref o1), .val (.ref o2), .val (.ref o2)] [(.ref o4)])) (fun t k => st7 t k) ?_
    refine step (T7.setTop (mkF m 31 #[.val (.ref o1), .val (.ref o2), .val (.ref o2)] [(.ref o2), (.ref o4)])) (fun t k => XS.aloadN X7.here hx rfl (hb hby d13_30) rfl rfl k) ?_
    obtain ⟨T8, X8, e8, st8⟩ := getF X7 hx hZ hown (host := "") (Or.inl (hw _ (List.mem_of_getElem? (i := 62) rfl))) Via.refl e7 Pm6 (g := (mkF m 31 #[.val (.ref o1), .val (.ref o2), .val (.ref o2)] [(.ref o2), (.ref o4)])) rfl rfl (hb hby d13_31)
    refine step (T8.setTop (mkF m 34 #[.val (.ref o1), .val (.ref o2), .val (.ref o2)] [(.ref o6), (.ref o4)])) (fun t k => st8 t k) ?_
    obtain ⟨cq9, kq9, q9a, q9b, q9c⟩ := isOf hZ e8 Pm10
    obtain ⟨_, _, ⟨T9, L9, k9, n9⟩, -, X9, ⟨Lc9, hQ9, l9, y9, z9⟩, st9⟩ := X8.virtualBack hx (y := (⟨"java/lang/String", "equals", "(Ljava/lang/Object;)Z"⟩ : MethodName)) (z := (⟨"java/lang/String", "equals", "(Ljava/lang/Object;)Z"⟩ : MethodName)) hown (mvT hZ (hw _ (List.mem_of_getElem? (i := 74) rfl))) (mvT hZ (hw _ (List.mem_of_getElem? (i := 75) rfl))) (notFace_of_selects (args := #[]) (mvT hZ (hw _ (List.mem_of_getElem? (i := 77) rfl)))) (mvT hZ (hw _ (List.mem_of_getElem? (i := 77) rfl))) (mvT hZ (hw _ (List.mem_of_getElem? (i := 76) rfl))) (by decide) (backOf (W := 0) (rm14_21 l Z a0 hw [] o4 o6 i1 o8 o10 kc6 i7 i8 i9 kc14 i15 i16 i17 h0 n0 Z0 S0 Pm10 Pm11 Pm12 Pm16 Pm17 Pm18 Pm20 Pm22 gn_o4 ne_o4_o6 ne_o4_o8 (Ne.symm ne_o10_o4) gn_o6 ne_o6_o8 (Ne.symm ne_o10_o6) gn_o8 (Ne.symm ne_o10_o8) gn_o10 hy84 hy85 hy80 hy81 hy89 hy87 hy90) hZ (hw _ (List.mem_of_getElem? (i := 78) rfl)) (hw _ (List.mem_of_getElem? (i := 9) rfl)) (by decide) (by decide)) q9a q9c (g := (mkF m 34 #[.val (.ref o1), .val (.ref o2), .val (.ref o2)] [(.ref o6), (.ref o4)])) rfl (by rw [hml]; rfl) (Steps.refl _) (argsL := [(.ref o6)]) (rest := []) (lenOf pd_8 rfl) rfl (by show 2 * 0 + _ ≤ _; exact Nat.le_of_eq rfl) (hb hby d13_34) (fun _ _ => ⟨rfl, e8, (by decide : 0 + 0 ≤ _), (by decide : 0 + 0 ≤ _)⟩)
    dsimp only [Pt.U, Pt.locs, Pt.cells, Pt.slots] at X9 l9 y9 z9 st9 hQ9
    subst l9 y9 z9
    obtain ⟨z55_11_9, rfl, N9q, e9q, hz55_11_9⟩ := hQ9
    have N9 := Fr.app N5 N9q
    refine step (T9.setTop (mkF m 37 #[.val (.ref o1), .val (.ref o2), .val (.ref o2)] [(.int z55_11_9)])) (fun t k => st9.trans k) ?_
    suffices J45_11 : ∀ (z45_10 : Int32), z45_10 = (if z55_11_9 = (0 : Int32) then (0 : Int32) else (1 : Int32)) → G (T9.setTop (mkF m 45 #[.val (.ref o1), .val (.ref o2), .val (.ref o2)] [(.int z45_10)])) by
      by_cases hc37_12 : z55_11_9 = (0 : Int32)
      · -- 37 True
        refine step (T9.setTop (mkF m 44 #[.val (.ref o1), .val (.ref o2), .val (.ref o2)] [])) (fun t k => XS.ifYes X9.here hx rfl (pc0 := 37) (pc' := 44) rfl (hb hby d13_37) rfl ((if0 _ _).trans (teq hc37_12).1) (by decide) (by decide) k) ?_
        refine step (T9.setTop (mkF m 45 #[.val (.ref o1), .val (.ref o2), .val (.ref o2)] [(.int (0 : Int32))])) (fun t k => XS.iconst X9.here hx rfl (hb hby d13_44) k) ?_
        exact J45_11 _ (by simp only [if_pos hc37_12, if_true, if_false] <;> rfl)
      · -- 37 False
        refine step (T9.setTop (mkF m 40 #[.val (.ref o1), .val (.ref o2), .val (.ref o2)] [])) (fun t k => XS.ifNo X9.here hx rfl (hb hby d13_37) rfl ((if0 _ _).trans (feq hc37_12).1) k) ?_
        refine step (T9.setTop (mkF m 41 #[.val (.ref o1), .val (.ref o2), .val (.ref o2)] [(.int (1 : Int32))])) (fun t k => XS.iconst X9.here hx rfl (hb hby d13_40) k) ?_
        refine step (T9.setTop (mkF m 45 #[.val (.ref o1), .val (.ref o2), .val (.ref o2)] [(.int (1 : Int32))])) (fun t k => XS.goto X9.here hx rfl (pc0 := 41) (pc' := 45) rfl (hb hby d13_41) (by decide) (by decide) k) ?_
        exact J45_11 _ (by simp only [if_neg hc37_12, if_true, if_false] <;> rfl)
    intro z45_10 hz45_10
    have K0q : Keep h0 h0 [] := Keep.refl _ _
    refine fin (v := some (.int (nar .boolean z45_10))) X9 (fun h => by cases h) ?_ (by decide) (by decide) (fun fs hr => retN X9 hx (t := .boolean) hret (by simp) (hb hby d13_45) hr)
    show Q13_20 Z o1 o2 i1 o3 o4 o5 o6 o7 o8 o9 o10 kc2 i3 i4 i5 kc6 i7 i8 i9 kc10 i11 i12 i13 kc14 i15 i16 i17 h0 n0 (some (.int (nar .boolean z45_10))) T9.heap _
    rw [e9q]
    exact ⟨_, (congrArg (fun z => some (Value.int z)) (by rw [hz45_10]; (repeat' split) <;> rfl : nar .boolean z45_10 = z45_10)), N9, rfl, (by subst hz45_10 hz55_11_9 hz55_11_5; simp only [if_neg hc23_6, if_true, if_false] <;> rfl)⟩
theorem own_plain21 (p0 : Int32) (p1 : Int32) (p2 : Int32) (p3 : Int32) (p4 : Int32) (cs : Int32) (lf : Int32) (f0 : Int32) (f1 : Int32) (lt : Int32) (t0 : Int32) (t1 : Int32) (z109_1 : Int32) (z109_2 : Int32) (z109_3 : Int32) (z162_6 : Int32) (z162_7 : Int32) (z162_8 : Int32) (z_1_107 : Int32) (y1_131 : Int32) (hlf : ((1 : Int32) + (p4 &&& (1 : Int32))) = lf) (hf0 : ((p0 &&& (255 : Int32)).toUInt32.toUInt16.toUInt32.toInt32) = f0) (hf1 : ((((p0.toUInt32 >>> ((8 : Int32) &&& 31).toUInt32).toInt32) &&& (255 : Int32)).toUInt32.toUInt16.toUInt32.toInt32) = f1) (hlt : ((1 : Int32) + (((p4.toUInt32 >>> ((1 : Int32) &&& 31).toUInt32).toInt32) &&& (1 : Int32))) = lt) (ht0 : ((p1 &&& (255 : Int32)).toUInt32.toUInt16.toUInt32.toInt32) = t0) (ht1 : ((((p1.toUInt32 >>> ((8 : Int32) &&& 31).toUInt32).toInt32) &&& (255 : Int32)).toUInt32.toUInt16.toUInt32.toInt32) = t1) (hz109_1 : z109_1 = (if (((p4.toUInt32 >>> ((2 : Int32) &&& 31).toUInt32).toInt32) &&& (1 : Int32)) = (0 : Int32) then ((1 : Int32) + (((p4.toUInt32 >>> ((4 : Int32) &&& 31).toUInt32).toInt32) &&& (1 : Int32))) else lf)) (hz109_2 : z109_2 = (if (((p4.toUInt32 >>> ((2 : Int32) &&& 31).toUInt32).toInt32) &&& (1 : Int32)) = (0 : Int32) then ((p2 &&& (255 : Int32)).toUInt32.toUInt16.toUInt32.toInt32) else f0)) (hz109_3 : z109_3 = (if (((p4.toUInt32 >>> ((2 : Int32) &&& 31).toUInt32).toInt32) &&& (1 : Int32)) = (0 : Int32) then ((((p2.toUInt32 >>> ((8 : Int32) &&& 31).toUInt32).toInt32) &&& (255 : Int32)).toUInt32.toUInt16.toUInt32.toInt32) else f1)) (hz162_6 : z162_6 = (if (((p4.toUInt32 >>> ((3 : Int32) &&& 31).toUInt32).toInt32) &&& (1 : Int32)) = (0 : Int32) then ((1 : Int32) + (((p4.toUInt32 >>> ((5 : Int32) &&& 31).toUInt32).toInt32) &&& (1 : Int32))) else lt)) (hz162_7 : z162_7 = (if (((p4.toUInt32 >>> ((3 : Int32) &&& 31).toUInt32).toInt32) &&& (1 : Int32)) = (0 : Int32) then ((p3 &&& (255 : Int32)).toUInt32.toUInt16.toUInt32.toInt32) else t0)) (hz162_8 : z162_8 = (if (((p4.toUInt32 >>> ((3 : Int32) &&& 31).toUInt32).toInt32) &&& (1 : Int32)) = (0 : Int32) then ((((p3.toUInt32 >>> ((8 : Int32) &&& 31).toUInt32).toInt32) &&& (255 : Int32)).toUInt32.toUInt16.toUInt32.toInt32) else t1)) (hz_1_107 : z_1_107 = (if lf = z109_1 then (if f0 = z109_2 then (if lf = (1 : Int32) then (1 : Int32) else (if f1 = z109_3 then (1 : Int32) else (0 : Int32))) else (0 : Int32)) else (0 : Int32))) (hy1_131 : y1_131 = (if (if (own_eq lf f0 f1 z109_1 z109_2 z109_3) = (0 : Int32) then (0 : Int32) else (1 : Int32)) = (0 : Int32) then (0 : Int32) else (if (if (own_eq lt t0 t1 z162_6 z162_7 z162_8) = (0 : Int32) then (0 : Int32) else (1 : Int32)) = (0 : Int32) then (0 : Int32) else (1 : Int32)))) (hc239_68 : ¬ ((((p4.toUInt32 >>> ((6 : Int32) &&& 31).toUInt32).toInt32) &&& (3 : Int32)) = (1 : Int32))) (hc260_81 : ¬ ((((p4.toUInt32 >>> ((6 : Int32) &&& 31).toUInt32).toInt32) &&& (3 : Int32)) = (2 : Int32))) (hc282_94 : ¬ ((((p4.toUInt32 >>> ((6 : Int32) &&& 31).toUInt32).toInt32) &&& (3 : Int32)) = (3 : Int32))) (hc308_108 : z_1_107 = (0 : Int32)) : y1_131 = (0 : Int32) := by
  have L1 := own_len _ _ hlf
  have L2 := own_len _ _ hlt
  have C0 := own_chr _ _ hf0
  have C1 := own_chr _ _ hf1
  have C2 := own_chr _ _ ht0
  have C3 := own_chr _ _ ht1
  have L3 : z109_1 = 1 ∨ z109_1 = 2 := by rw [hz109_1]; split; exact own_len _ _ rfl; exact L1
  have L4 : z162_6 = 1 ∨ z162_6 = 2 := by rw [hz162_6]; split; exact own_len _ _ rfl; exact L2
  have C4 : 0 ≤ z109_2.toInt ∧ z109_2.toInt ≤ 255 := by rw [hz109_2]; split; exact own_chr _ _ rfl; exact C0
  have C5 : 0 ≤ z109_3.toInt ∧ z109_3.toInt ≤ 255 := by rw [hz109_3]; split; exact own_chr _ _ rfl; exact C1
  have C6 : 0 ≤ z162_7.toInt ∧ z162_7.toInt ≤ 255 := by rw [hz162_7]; split; exact own_chr _ _ rfl; exact C2
  have C7 : 0 ≤ z162_8.toInt ∧ z162_8.toInt ≤ 255 := by rw [hz162_8]; split; exact own_chr _ _ rfl; exact C3
  have q1 := own_sm L1 L3 C0 C1 C4 C5
  have q2 := own_sm L2 L4 C2 C3 C6 C7
  have s1 := own_sym lf f0 f1 z109_1 z109_2 z109_3 L1 L3
  have s2 := own_sym lt t0 t1 z162_6 z162_7 z162_8 L2 L4
  rw [← hz_1_107] at q1
  have hy : y1_131 = 0 := by rw [hy1_131, q1, hc308_108]; simp
  simp [hy]
theorem ef_13_23 (m : MethodId) (x0 : Addr) (x1 : Addr) : entryFrame m #[(.ref x0), (.ref x1)] 3 = mkF m 0 #[.val (.ref x0), .val (.ref x1), .unset] [] := by first | (simp [entryFrame, mkF, argsToLocals, Value.category]; done) | rfl
def Q13_23 (Z : State) (o1 : Addr) (o2 : Addr) (i1 : Int32) (o3 : Addr) (o4 : Addr) (o5 : Addr) (o6 : Addr) (o7 : Addr) (o8 : Addr) (o9 : Addr) (o10 : Addr) (kc2 : ClassId) (i3 : Int32) (i4 : Int32) (i5 : Int32) (kc6 : ClassId) (i7 : Int32) (i8 : Int32) (i9 : Int32) (kc10 : ClassId) (i11 : Int32) (i12 : Int32) (i13 : Int32) (kc14 : ClassId) (i15 : Int32) (i16 : Int32) (i17 : Int32) (h0 : Heap) (n0 : Nat) (v : Option Value) (h : Heap) (L : List Loc) : Prop := ∃ (y1 : Int32), v = some (.int y1) ∧ Fr n0 L ∧ h = h0 ∧ y1 = (if (if (own_eq i3 i4 i5 i11 i12 i13) = (0 : Int32) then (0 : Int32) else (1 : Int32)) = (0 : Int32) then (0 : Int32) else (if (if (own_eq i7 i8 i9 i15 i16 i17) = (0 : Int32) then (0 : Int32) else (1 : Int32)) = (0 : Int32) then (0 : Int32) else (1 : Int32)))
set_option maxRecDepth 65536 in
set_option maxHeartbeats 40000000 in
theorem rm13_23 (l : Launch) (Z : State) (a0 : Array Value) (hw : ∀ d ∈ tables_1, d.before a0 Z = true) (ws : List Jvm.Cond) (o1 : Addr) (o2 : Addr) (i1 : Int32) (o3 : Addr) (o4 : Addr) (o5 : Addr) (o6 : Addr) (o7 : Addr) (o8 : Addr) (o9 : Addr) (o10 : Addr) (kc2 : ClassId) (i3 : Int32) (i4 : Int32) (i5 : Int32) (kc6 : ClassId) (i7 : Int32) (i8 : Int32) (i9 : Int32) (kc10 : ClassId) (i11 : Int32) (i12 : Int32) (i13 : Int32) (kc14 : ClassId) (i15 : Int32) (i16 : Int32) (i17 : Int32) (h0 : Heap) (n0 : Nat) (Z0 : n0 ≤ h0.size) (S0 : Sta Z h0 "java/lang/String" "COMPACT_STRINGS" "Z" (.int i1)) (Pm1 : Exa Z h0 o1 "com/example/vertex_to_service/vertextoservice/core/Edge") (Pm2 : Fld Z h0 o1 "com/example/vertex_to_service/vertextoservice/core/Edge" "from" "Ljava/lang/String;" (.ref o3)) (Pm3 : Fld Z h0 o1 "com/example/vertex_to_service/vertextoservice/core/Edge" "to" "Ljava/lang/String;" (.ref o4)) (Pm4 : Exa Z h0 o2 "com/example/vertex_to_service/vertextoservice/core/Edge") (Pm5 : Fld Z h0 o2 "com/example/vertex_to_service/vertextoservice/core/Edge" "from" "Ljava/lang/String;" (.ref o5)) (Pm6 : Fld Z h0 o2 "com/example/vertex_to_service/vertextoservice/core/Edge" "to" "Ljava/lang/String;" (.ref o6)) (Pm7 : Exa Z h0 o3 "java/lang/String") (Pm8 : Fld Z h0 o3 "java/lang/String" "coder" "B" (.int (0 : Int32))) (Pm9 : Fld Z h0 o3 "java/lang/String" "value" "[B" (.ref o7)) (Pm10 : Exa Z h0 o4 "java/lang/String") (Pm11 : Fld Z h0 o4 "java/lang/String" "coder" "B" (.int (0 : Int32))) (Pm12 : Fld Z h0 o4 "java/lang/String" "value" "[B" (.ref o8)) (Pm13 : Exa Z h0 o5 "java/lang/String") (Pm14 : Fld Z h0 o5 "java/lang/String" "coder" "B" (.int (0 : Int32))) (Pm15 : Fld Z h0 o5 "java/lang/String" "value" "[B" (.ref o9)) (Pm16 : Exa Z h0 o6 "java/lang/String") (Pm17 : Fld Z h0 o6 "java/lang/String" "coder" "B" (.int (0 : Int32))) (Pm18 : Fld Z h0 o6 "java/lang/String" "value" "[B" (.ref o10)) (Pm19 : Arv Z h0 o7 kc2 .byte (own_n i3) (own_bs i3 i4 i5) (.int (0 : Int32))) (Pm20 : Arv Z h0 o8 kc6 .byte (own_n i7) (own_bs i7 i8 i9) (.int (0 : Int32))) (Pm21 : Arv Z h0 o9 kc10 .byte (own_n i11) (own_bs i11 i12 i13) (.int (0 : Int32))) (Pm22 : Arv Z h0 o10 kc14 .byte (own_n i15) (own_bs i15 i16 i17) (.int (0 : Int32))) (gn_o1 : n0 ≤ o1) (ne_o1_o2 : o1 ≠ o2) (ne_o1_o3 : o1 ≠ o3) (ne_o1_o4 : o1 ≠ o4) (ne_o1_o5 : o1 ≠ o5) (ne_o1_o6 : o1 ≠ o6) (ne_o1_o7 : o1 ≠ o7) (ne_o1_o8 : o1 ≠ o8) (ne_o1_o9 : o1 ≠ o9) (ne_o1_o10 : o1 ≠ o10) (gn_o2 : n0 ≤ o2) (ne_o2_o3 : o2 ≠ o3) (ne_o2_o4 : o2 ≠ o4) (ne_o2_o5 : o2 ≠ o5) (ne_o2_o6 : o2 ≠ o6) (ne_o2_o7 : o2 ≠ o7) (ne_o2_o8 : o2 ≠ o8) (ne_o2_o9 : o2 ≠ o9) (gn_o3 : n0 ≤ o3) (ne_o3_o4 : o3 ≠ o4) (ne_o3_o5 : o3 ≠ o5) (ne_o3_o6 : o3 ≠ o6) (ne_o3_o7 : o3 ≠ o7) (ne_o3_o8 : o3 ≠ o8) (ne_o3_o9 : o3 ≠ o9) (gn_o4 : n0 ≤ o4) (ne_o4_o5 : o4 ≠ o5) (ne_o4_o6 : o4 ≠ o6) (ne_o4_o7 : o4 ≠ o7) (ne_o4_o8 : o4 ≠ o8) (ne_o4_o9 : o4 ≠ o9) (gn_o5 : n0 ≤ o5) (ne_o5_o6 : o5 ≠ o6) (ne_o5_o7 : o5 ≠ o7) (ne_o5_o8 : o5 ≠ o8) (ne_o5_o9 : o5 ≠ o9) (gn_o6 : n0 ≤ o6) (ne_o6_o7 : o6 ≠ o7) (ne_o6_o8 : o6 ≠ o8) (ne_o6_o9 : o6 ≠ o9) (gn_o7 : n0 ≤ o7) (ne_o7_o8 : o7 ≠ o8) (ne_o7_o9 : o7 ≠ o9) (gn_o8 : n0 ≤ o8) (ne_o8_o9 : o8 ≠ o9) (gn_o9 : n0 ≤ o9) (gn_o10 : n0 ≤ o10) (ne_o10_o2 : o10 ≠ o2) (ne_o10_o3 : o10 ≠ o3) (ne_o10_o4 : o10 ≠ o4) (ne_o10_o5 : o10 ≠ o5) (ne_o10_o6 : o10 ≠ o6) (ne_o10_o7 : o10 ≠ o7) (ne_o10_o8 : o10 ≠ o8) (ne_o10_o9 : o10 ≠ o9) (hy78 : ¬ ((255 : Int32) < (nar .char i12))) (hy79 : ¬ ((255 : Int32) < (nar .char i13))) (hy80 : ¬ ((255 : Int32) < (nar .char i16))) (hy81 : ¬ ((255 : Int32) < (nar .char i17))) (hy82 : ¬ ((255 : Int32) < (nar .char i4))) (hy83 : ¬ ((255 : Int32) < (nar .char i5))) (hy84 : ¬ ((255 : Int32) < (nar .char i8))) (hy85 : ¬ ((255 : Int32) < (nar .char i9))) (hy86 : ¬ ((own_n i11) = (0 : Int32))) (hy87 : ¬ ((own_n i15) = (0 : Int32))) (hy88 : ¬ ((own_n i3) = (0 : Int32))) (hy89 : ¬ ((own_n i7) = (0 : Int32))) (hy90 : ¬ (i1 = (0 : Int32)))  :
    MetFree l (⟨"com/example/vertex_to_service/vertextoservice/core/Edge", "equals", "(Ljava/lang/Object;)Z"⟩ : MethodName) (head1 (Jvm.Cond.code (⟨"com/example/vertex_to_service/vertextoservice/core/Edge", "equals", "(Ljava/lang/Object;)Z"⟩ : MethodName) prog_16_method_2_code 3 (some .boolean) :: ws) ({ frames := 2, cells := 0, slots := 0, locals := 28 } : Room)) (fun a U => a = #[(.ref o1), (.ref o2)] ∧ Z.Warmed39 U.vm ∧ U.heap = h0) (fun _ _ _ _ _ => True) (fun _ U o U' => ∃ v L, o = .returned v ∧ Q13_23 Z o1 o2 i1 o3 o4 o5 o6 o7 o8 o9 o10 kc2 i3 i4 i5 kc6 i7 i8 i9 kc10 i11 i12 i13 kc14 i15 i16 i17 h0 n0 v U'.heap L ∧ FrameEnd U o U' L ({ frames := 2, cells := 0, slots := 0, locals := 28 } : Room).cells ({ frames := 2, cells := 0, slots := 0, locals := 28 } : Room).slots) := by
  refine own_body (plainFor_of_name pn_4) ?_
  intro p e s m below meth c s₁ G hx hby hml hZ hown hnm hret X0 e0 step fin
  replace hown : s.vm.findClass "com/example/vertex_to_service/vertextoservice/core/Edge" = some m.cls := hown
  replace hnm : meth.name = "equals" := hnm
  replace hret : meth.sig.returnType = some .boolean := hret
  replace hml : c.maxLocals = 3 := hml
  have N0 := Fr.nil n0
  refine step (s₁.setTop (mkF m 0 #[.val (.ref o1), .val (.ref o2), .unset] [])) (fun t k => castTop (ef_13_23 m o1 o2) k) ?_
  refine step (s₁.setTop (mkF m 1 #[.val (.ref o1), .val (.ref o2), .unset] [(.ref o2)])) (fun t k => XS.aloadN X0.here hx rfl (hb hby d13_0) rfl rfl k) ?_
  obtain ⟨T1, X1, e1, st1⟩ := instY X0 hx hZ hown (hw _ (List.mem_of_getElem? (i := 72) rfl)) e0 (Ins.self Pm4) (g := (mkF m 1 #[.val (.ref o1), .val (.ref o2), .unset] [(.ref o2)])) rfl rfl (hb hby d13_1)
  refine step (T1.setTop (mkF m 4 #[.val (.ref o1), .val (.ref o2), .unset] [(.int (1 : Int32))])) (fun t k => st1 t k) ?_
  refine step (T1.setTop (mkF m 7 #[.val (.ref o1), .val (.ref o2), .unset] [])) (fun t k => XS.ifNo X1.here hx rfl (hb hby d13_4) rfl ((if0 _ _).trans (feq (by decide : ¬ ((1 : Int32) = (0 : Int32)))).1) k) ?_
  refine step (T1.setTop (mkF m 8 #[.val (.ref o1), .val (.ref o2), .unset] [(.ref o2)])) (fun t k => XS.aloadN X1.here hx rfl (hb hby d13_7) rfl rfl k) ?_
  obtain ⟨T2, X2, e2, st2⟩ := castY X1 hx hZ hown (hw _ (List.mem_of_getElem? (i := 72) rfl)) e1 (Ins.self Pm4) (g := (mkF m 8 #[.val (.ref o1), .val (.ref o2), .unset] [(.ref o2)])) rfl rfl (hb hby d13_8)
  refine step (T2.setTop (mkF m 11 #[.val (.ref o1), .val (.ref o2), .unset] [(.ref o2)])) (fun t k => st2 t k) ?_
  refine step (T2.setTop (mkF m 12 #[.val (.ref o1), .val (.ref o2), .val (.ref o2)] [])) (fun t k => XS.astoreN X2.here hx rfl (hb hby d13_11) rfl rfl (l' := #[.val (.ref o1), .val (.ref o2), .val (.ref o2)]) rfl k) ?_
  refine step (T2.setTop (mkF m 13 #[.val (.ref o1), .val (.ref o2), .val (.ref o2)] [(.ref o1)])) (fun t k => XS.aloadN X2.here hx rfl (hb hby d13_12) rfl rfl k) ?_
  obtain ⟨T3, X3, e3, st3⟩ := getF X2 hx hZ hown (host := "") (Or.inl (hw _ (List.mem_of_getElem? (i := 60) rfl))) Via.refl e2 Pm2 (g := (mkF m 13 #[.val (.ref o1), .val (.ref o2), .val (.ref o2)] [(.ref o1)])) rfl rfl (hb hby d13_13)
  refine step (T3.setTop (mkF m 16 #[.val (.ref o1), .val (.ref o2), .val (.ref o2)] [(.ref o3)])) (fun t k => st3 t k) ?_
  refine step (T3.setTop (mkF m 17 #[.val (.ref o1), .val (.ref o2), .val (.ref o2)] [(.ref o2), (.ref o3)])) (fun t k => XS.aloadN X3.here hx rfl (hb hby d13_16) rfl rfl k) ?_
  obtain ⟨T4, X4, e4, st4⟩ := getF X3 hx hZ hown (host := "") (Or.inl (hw _ (List.mem_of_getElem? (i := 60) rfl))) Via.refl e3 Pm5 (g := (mkF m 17 #[.val (.ref o1), .val (.ref o2), .val (.ref o2)] [(.ref o2), (.ref o3)])) rfl rfl (hb hby d13_17)
  refine step (T4.setTop (mkF m 20 #[.val (.ref o1), .val (.ref o2), .val (.ref o2)] [(.ref o5), (.ref o3)])) (fun t k => st4 t k) ?_
  obtain ⟨cq5, kq5, q5a, q5b, q5c⟩ := isOf hZ e4 Pm7
  obtain ⟨_, _, ⟨T5, L5, k5, n5⟩, -, X5, ⟨Lc5, hQ5, l5, y5, z5⟩, st5⟩ := X4.virtualBack hx (y := (⟨"java/lang/String", "equals", "(Ljava/lang/Object;)Z"⟩ : MethodName)) (z := (⟨"java/lang/String", "equals", "(Ljava/lang/Object;)Z"⟩ : MethodName)) hown (mvT hZ (hw _ (List.mem_of_getElem? (i := 74) rfl))) (mvT hZ (hw _ (List.mem_of_getElem? (i := 75) rfl))) (notFace_of_selects (args := #[]) (mvT hZ (hw _ (List.mem_of_getElem? (i := 77) rfl)))) (mvT hZ (hw _ (List.mem_of_getElem? (i := 77) rfl))) (mvT hZ (hw _ (List.mem_of_getElem? (i := 76) rfl))) (by decide) (backOf (W := 0) (rm14_21 l Z a0 hw [] o3 o5 i1 o7 o9 kc2 i3 i4 i5 kc10 i11 i12 i13 h0 n0 Z0 S0 Pm7 Pm8 Pm9 Pm13 Pm14 Pm15 Pm19 Pm21 gn_o3 ne_o3_o5 ne_o3_o7 ne_o3_o9 gn_o5 ne_o5_o7 ne_o5_o9 gn_o7 ne_o7_o9 gn_o9 hy78 hy79 hy82 hy83 hy86 hy88 hy90) hZ (hw _ (List.mem_of_getElem? (i := 78) rfl)) (hw _ (List.mem_of_getElem? (i := 9) rfl)) (by decide) (by decide)) q5a q5c (g := (mkF m 20 #[.val (.ref o1), .val (.ref o2), .val (.ref o2)] [(.ref o5), (.ref o3)])) rfl (by rw [hml]; rfl) (Steps.refl _) (argsL := [(.ref o5)]) (rest := []) (lenOf pd_8 rfl) rfl (by show 2 * 0 + _ ≤ _; exact Nat.le_of_eq rfl) (hb hby d13_20) (fun _ _ => ⟨rfl, e4, (by decide : 0 + 0 ≤ _), (by decide : 0 + 0 ≤ _)⟩)
  dsimp only [Pt.U, Pt.locs, Pt.cells, Pt.slots] at X5 l5 y5 z5 st5 hQ5
  subst l5 y5 z5
  obtain ⟨z55_11_5, rfl, N5q, e5q, hz55_11_5⟩ := hQ5
  have N5 := Fr.app N0 N5q
  refine step (T5.setTop (mkF m 23 #[.val (.ref o1), .val (.ref o2), .val (.ref o2)] [(.int z55_11_5)])) (fun t k => st5.trans k) ?_
  by_cases hc23_6 : z55_11_5 = (0 : Int32)
  · -- pc 23: z55_11_5 = (0 : Int32) True
    refine step (T5.setTop (mkF m 44 #[.val (.ref o1), .val (.ref o2), .val (.ref o2)] [])) (fun t k => XS.ifYes X5.here hx rfl (pc0 := 23) (pc' := 44) rfl (hb hby d13_23) rfl ((if0 _ _).trans (teq hc23_6).1) (by decide) (by decide) k) ?_
    refine step (T5.setTop (mkF m 45 #[.val (.ref o1), .val (.ref o2), .val (.ref o2)] [(.int (0 : Int32))])) (fun t k => XS.iconst X5.here hx rfl (hb hby d13_44) k) ?_
    have K0q : Keep h0 h0 [] := Keep.refl _ _
    refine fin (v := some (.int (nar .boolean (0 : Int32)))) X5 (fun h => by cases h) ?_ (by decide) (by decide) (fun fs hr => retN X5 hx (t := .boolean) hret (by simp) (hb hby d13_45) hr)
    show Q13_23 Z o1 o2 i1 o3 o4 o5 o6 o7 o8 o9 o10 kc2 i3 i4 i5 kc6 i7 i8 i9 kc10 i11 i12 i13 kc14 i15 i16 i17 h0 n0 (some (.int (nar .boolean (0 : Int32)))) T5.heap _
    rw [e5q]
    exact ⟨_, rfl, N5, rfl, (by subst hz55_11_5; simp only [if_pos hc23_6, if_true, if_false] <;> rfl)⟩
  · -- pc 23: z55_11_5 = (0 : Int32) False
    refine step (T5.setTop (mkF m 26 #[.val (.ref o1), .val (.ref o2), .val (.ref o2)] [])) (fun t k => XS.ifNo X5.here hx rfl (hb hby d13_23) rfl ((if0 _ _).trans (feq hc23_6).1) k) ?_
    refine step (T5.setTop (mkF m 27 #[.val (.ref o1), .val (.ref o2), .val (.ref o2)] [(.ref o1)])) (fun t k => XS.aloadN X5.here hx rfl (hb hby d13_26) rfl rfl k) ?_
    obtain ⟨T7, X7, e7, st7⟩ := getF X5 hx hZ hown (host := "") (Or.inl (hw _ (List.mem_of_getElem? (i := 62) rfl))) Via.refl e5q Pm3 (g := (mkF m 27 #[.val (.ref o1), .val (.ref o2), .val (.ref o2)] [(.ref o1)])) rfl rfl (hb hby d13_27)
    refine step (T7.setTop (mkF m 30 #[.val (.ref o1), .val (.ref o2), .val (.ref o2)] [(.ref o4)])) (fun t k => st7 t k) ?_
    refine step (T7.setTop (mkF m 31 #[.val (.ref o1), .val (.ref o2), .val (.ref o2)] [(.ref o2), (.ref o4)])) (fun t k => XS.aloadN X7.here hx rfl (hb hby d13_30) rfl rfl k) ?_
    obtain ⟨T8, X8, e8, st8⟩ := getF X7 hx hZ hown (host := "") (Or.inl (hw _ (List.mem_of_getElem? (i := 62) rfl))) Via.refl e7 Pm6 (g := (mkF m 31 #[.val (.ref o1), .val (.ref o2), .val (.ref o2)] [(.ref o2), (.ref o4)])) rfl rfl (hb hby d13_31)
    refine step (T8.setTop (mkF m 34 #[.val (.ref o1), .val (.ref o2), .val (.ref o2)] [(.ref o6), (.ref o4)])) (fun t k => st8 t k) ?_
    obtain ⟨cq9, kq9, q9a, q9b, q9c⟩ := isOf hZ e8 Pm10
    obtain ⟨_, _, ⟨T9, L9, k9, n9⟩, -, X9, ⟨Lc9, hQ9, l9, y9, z9⟩, st9⟩ := X8.virtualBack hx (y := (⟨"java/lang/String", "equals", "(Ljava/lang/Object;)Z"⟩ : MethodName)) (z := (⟨"java/lang/String", "equals", "(Ljava/lang/Object;)Z"⟩ : MethodName)) hown (mvT hZ (hw _ (List.mem_of_getElem? (i := 74) rfl))) (mvT hZ (hw _ (List.mem_of_getElem? (i := 75) rfl))) (notFace_of_selects (args := #[]) (mvT hZ (hw _ (List.mem_of_getElem? (i := 77) rfl)))) (mvT hZ (hw _ (List.mem_of_getElem? (i := 77) rfl))) (mvT hZ (hw _ (List.mem_of_getElem? (i := 76) rfl))) (by decide) (backOf (W := 0) (rm14_21 l Z a0 hw [] o4 o6 i1 o8 o10 kc6 i7 i8 i9 kc14 i15 i16 i17 h0 n0 Z0 S0 Pm10 Pm11 Pm12 Pm16 Pm17 Pm18 Pm20 Pm22 gn_o4 ne_o4_o6 ne_o4_o8 (Ne.symm ne_o10_o4) gn_o6 ne_o6_o8 (Ne.symm ne_o10_o6) gn_o8 (Ne.symm ne_o10_o8) gn_o10 hy80 hy81 hy84 hy85 hy87 hy89 hy90) hZ (hw _ (List.mem_of_getElem? (i := 78) rfl)) (hw _ (List.mem_of_getElem? (i := 9) rfl)) (by decide) (by decide)) q9a q9c (g := (mkF m 34 #[.val (.ref o1), .val (.ref o2), .val (.ref o2)] [(.ref o6), (.ref o4)])) rfl (by rw [hml]; rfl) (Steps.refl _) (argsL := [(.ref o6)]) (rest := []) (lenOf pd_8 rfl) rfl (by show 2 * 0 + _ ≤ _; exact Nat.le_of_eq rfl) (hb hby d13_34) (fun _ _ => ⟨rfl, e8, (by decide : 0 + 0 ≤ _), (by decide : 0 + 0 ≤ _)⟩)
    dsimp only [Pt.U, Pt.locs, Pt.cells, Pt.slots] at X9 l9 y9 z9 st9 hQ9
    subst l9 y9 z9
    obtain ⟨z55_11_9, rfl, N9q, e9q, hz55_11_9⟩ := hQ9
    have N9 := Fr.app N5 N9q
    refine step (T9.setTop (mkF m 37 #[.val (.ref o1), .val (.ref o2), .val (.ref o2)] [(.int z55_11_9)])) (fun t k => st9.trans k) ?_
    suffices J45_11 : ∀ (z45_10 : Int32), z45_10 = (if z55_11_9 = (0 : Int32) then (0 : Int32) else (1 : Int32)) → G (T9.setTop (mkF m 45 #[.val (.ref o1), .val (.ref o2), .val (.ref o2)] [(.int z45_10)])) by
      by_cases hc37_12 : z55_11_9 = (0 : Int32)
      · -- 37 True
        refine step (T9.setTop (mkF m 44 #[.val (.ref o1), .val (.ref o2), .val (.ref o2)] [])) (fun t k => XS.ifYes X9.here hx rfl (pc0 := 37) (pc' := 44) rfl (hb hby d13_37) rfl ((if0 _ _).trans (teq hc37_12).1) (by decide) (by decide) k) ?_
        refine step (T9.setTop (mkF m 45 #[.val (.ref o1), .val (.ref o2), .val (.ref o2)] [(.int (0 : Int32))])) (fun t k => XS.iconst X9.here hx rfl (hb hby d13_44) k) ?_
        exact J45_11 _ (by simp only [if_pos hc37_12, if_true, if_false] <;> rfl)
      · -- 37 False
        refine step (T9.setTop (mkF m 40 #[.val (.ref o1), .val (.ref o2), .val (.ref o2)] [])) (fun t k => XS.ifNo X9.here hx rfl (hb hby d13_37) rfl ((if0 _ _).trans (feq hc37_12).1) k) ?_
        refine step (T9.setTop (mkF m 41 #[.val (.ref o1), .val (.ref o2), .val (.ref o2)] [(.int (1 : Int32))])) (fun t k => XS.iconst X9.here hx rfl (hb hby d13_40) k) ?_
        refine step (T9.setTop (mkF m 45 #[.val (.ref o1), .val (.ref o2), .val (.ref o2)] [(.int (1 : Int32))])) (fun t k => XS.goto X9.here hx rfl (pc0 := 41) (pc' := 45) rfl (hb hby d13_41) (by decide) (by decide) k) ?_
        exact J45_11 _ (by simp only [if_neg hc37_12, if_true, if_false] <;> rfl)
    intro z45_10 hz45_10
    have K0q : Keep h0 h0 [] := Keep.refl _ _
    refine fin (v := some (.int (nar .boolean z45_10))) X9 (fun h => by cases h) ?_ (by decide) (by decide) (fun fs hr => retN X9 hx (t := .boolean) hret (by simp) (hb hby d13_45) hr)
    show Q13_23 Z o1 o2 i1 o3 o4 o5 o6 o7 o8 o9 o10 kc2 i3 i4 i5 kc6 i7 i8 i9 kc10 i11 i12 i13 kc14 i15 i16 i17 h0 n0 (some (.int (nar .boolean z45_10))) T9.heap _
    rw [e9q]
    exact ⟨_, (congrArg (fun z => some (Value.int z)) (by rw [hz45_10]; (repeat' split) <;> rfl : nar .boolean z45_10 = z45_10)), N9, rfl, (by subst hz45_10 hz55_11_9 hz55_11_5; simp only [if_neg hc23_6, if_true, if_false] <;> rfl)⟩
theorem own_plain23 (p0 : Int32) (p1 : Int32) (p2 : Int32) (p3 : Int32) (p4 : Int32) (cs : Int32) (lf : Int32) (f0 : Int32) (f1 : Int32) (lt : Int32) (t0 : Int32) (t1 : Int32) (z109_1 : Int32) (z109_2 : Int32) (z109_3 : Int32) (z162_6 : Int32) (z162_7 : Int32) (z162_8 : Int32) (z_1_107 : Int32) (y1_133 : Int32) (z365_134 : Int32) (hlf : ((1 : Int32) + (p4 &&& (1 : Int32))) = lf) (hf0 : ((p0 &&& (255 : Int32)).toUInt32.toUInt16.toUInt32.toInt32) = f0) (hf1 : ((((p0.toUInt32 >>> ((8 : Int32) &&& 31).toUInt32).toInt32) &&& (255 : Int32)).toUInt32.toUInt16.toUInt32.toInt32) = f1) (hlt : ((1 : Int32) + (((p4.toUInt32 >>> ((1 : Int32) &&& 31).toUInt32).toInt32) &&& (1 : Int32))) = lt) (ht0 : ((p1 &&& (255 : Int32)).toUInt32.toUInt16.toUInt32.toInt32) = t0) (ht1 : ((((p1.toUInt32 >>> ((8 : Int32) &&& 31).toUInt32).toInt32) &&& (255 : Int32)).toUInt32.toUInt16.toUInt32.toInt32) = t1) (hz109_1 : z109_1 = (if (((p4.toUInt32 >>> ((2 : Int32) &&& 31).toUInt32).toInt32) &&& (1 : Int32)) = (0 : Int32) then ((1 : Int32) + (((p4.toUInt32 >>> ((4 : Int32) &&& 31).toUInt32).toInt32) &&& (1 : Int32))) else lf)) (hz109_2 : z109_2 = (if (((p4.toUInt32 >>> ((2 : Int32) &&& 31).toUInt32).toInt32) &&& (1 : Int32)) = (0 : Int32) then ((p2 &&& (255 : Int32)).toUInt32.toUInt16.toUInt32.toInt32) else f0)) (hz109_3 : z109_3 = (if (((p4.toUInt32 >>> ((2 : Int32) &&& 31).toUInt32).toInt32) &&& (1 : Int32)) = (0 : Int32) then ((((p2.toUInt32 >>> ((8 : Int32) &&& 31).toUInt32).toInt32) &&& (255 : Int32)).toUInt32.toUInt16.toUInt32.toInt32) else f1)) (hz162_6 : z162_6 = (if (((p4.toUInt32 >>> ((3 : Int32) &&& 31).toUInt32).toInt32) &&& (1 : Int32)) = (0 : Int32) then ((1 : Int32) + (((p4.toUInt32 >>> ((5 : Int32) &&& 31).toUInt32).toInt32) &&& (1 : Int32))) else lt)) (hz162_7 : z162_7 = (if (((p4.toUInt32 >>> ((3 : Int32) &&& 31).toUInt32).toInt32) &&& (1 : Int32)) = (0 : Int32) then ((p3 &&& (255 : Int32)).toUInt32.toUInt16.toUInt32.toInt32) else t0)) (hz162_8 : z162_8 = (if (((p4.toUInt32 >>> ((3 : Int32) &&& 31).toUInt32).toInt32) &&& (1 : Int32)) = (0 : Int32) then ((((p3.toUInt32 >>> ((8 : Int32) &&& 31).toUInt32).toInt32) &&& (255 : Int32)).toUInt32.toUInt16.toUInt32.toInt32) else t1)) (hz_1_107 : z_1_107 = (if lf = z109_1 then (if f0 = z109_2 then (if lf = (1 : Int32) then (1 : Int32) else (if f1 = z109_3 then (1 : Int32) else (0 : Int32))) else (0 : Int32)) else (0 : Int32))) (hy1_133 : y1_133 = (if (if (own_eq z109_1 z109_2 z109_3 lf f0 f1) = (0 : Int32) then (0 : Int32) else (1 : Int32)) = (0 : Int32) then (0 : Int32) else (if (if (own_eq z162_6 z162_7 z162_8 lt t0 t1) = (0 : Int32) then (0 : Int32) else (1 : Int32)) = (0 : Int32) then (0 : Int32) else (1 : Int32)))) (hz365_134 : z365_134 = (if y1_133 = (0 : Int32) then (1 : Int32) else (0 : Int32))) (hc239_68 : ¬ ((((p4.toUInt32 >>> ((6 : Int32) &&& 31).toUInt32).toInt32) &&& (3 : Int32)) = (1 : Int32))) (hc260_81 : ¬ ((((p4.toUInt32 >>> ((6 : Int32) &&& 31).toUInt32).toInt32) &&& (3 : Int32)) = (2 : Int32))) (hc282_94 : ¬ ((((p4.toUInt32 >>> ((6 : Int32) &&& 31).toUInt32).toInt32) &&& (3 : Int32)) = (3 : Int32))) (hc308_108 : z_1_107 = (0 : Int32)) : z365_134 = 1 := by
  have L1 := own_len _ _ hlf
  have L2 := own_len _ _ hlt
  have C0 := own_chr _ _ hf0
  have C1 := own_chr _ _ hf1
  have C2 := own_chr _ _ ht0
  have C3 := own_chr _ _ ht1
  have L3 : z109_1 = 1 ∨ z109_1 = 2 := by rw [hz109_1]; split; exact own_len _ _ rfl; exact L1
  have L4 : z162_6 = 1 ∨ z162_6 = 2 := by rw [hz162_6]; split; exact own_len _ _ rfl; exact L2
  have C4 : 0 ≤ z109_2.toInt ∧ z109_2.toInt ≤ 255 := by rw [hz109_2]; split; exact own_chr _ _ rfl; exact C0
  have C5 : 0 ≤ z109_3.toInt ∧ z109_3.toInt ≤ 255 := by rw [hz109_3]; split; exact own_chr _ _ rfl; exact C1
  have C6 : 0 ≤ z162_7.toInt ∧ z162_7.toInt ≤ 255 := by rw [hz162_7]; split; exact own_chr _ _ rfl; exact C2
  have C7 : 0 ≤ z162_8.toInt ∧ z162_8.toInt ≤ 255 := by rw [hz162_8]; split; exact own_chr _ _ rfl; exact C3
  have q1 := own_sm L1 L3 C0 C1 C4 C5
  have q2 := own_sm L2 L4 C2 C3 C6 C7
  have s1 := own_sym lf f0 f1 z109_1 z109_2 z109_3 L1 L3
  have s2 := own_sym lt t0 t1 z162_6 z162_7 z162_8 L2 L4
  rw [← hz_1_107] at q1
  have hy : y1_133 = 0 := by rw [hy1_133, s1, s2, q1, hc308_108]; simp
  simp [hy, hz365_134]
theorem own_plain24 (p0 : Int32) (p1 : Int32) (p2 : Int32) (p3 : Int32) (p4 : Int32) (cs : Int32) (lf : Int32) (f0 : Int32) (f1 : Int32) (lt : Int32) (t0 : Int32) (t1 : Int32) (z109_1 : Int32) (z109_2 : Int32) (z109_3 : Int32) (z162_6 : Int32) (z162_7 : Int32) (z162_8 : Int32) (z_1_107 : Int32) (z_1_137 : Int32) (z334_138 : Int32) (y1_163 : Int32) (hlf : ((1 : Int32) + (p4 &&& (1 : Int32))) = lf) (hf0 : ((p0 &&& (255 : Int32)).toUInt32.toUInt16.toUInt32.toInt32) = f0) (hf1 : ((((p0.toUInt32 >>> ((8 : Int32) &&& 31).toUInt32).toInt32) &&& (255 : Int32)).toUInt32.toUInt16.toUInt32.toInt32) = f1) (hlt : ((1 : Int32) + (((p4.toUInt32 >>> ((1 : Int32) &&& 31).toUInt32).toInt32) &&& (1 : Int32))) = lt) (ht0 : ((p1 &&& (255 : Int32)).toUInt32.toUInt16.toUInt32.toInt32) = t0) (ht1 : ((((p1.toUInt32 >>> ((8 : Int32) &&& 31).toUInt32).toInt32) &&& (255 : Int32)).toUInt32.toUInt16.toUInt32.toInt32) = t1) (hz109_1 : z109_1 = (if (((p4.toUInt32 >>> ((2 : Int32) &&& 31).toUInt32).toInt32) &&& (1 : Int32)) = (0 : Int32) then ((1 : Int32) + (((p4.toUInt32 >>> ((4 : Int32) &&& 31).toUInt32).toInt32) &&& (1 : Int32))) else lf)) (hz109_2 : z109_2 = (if (((p4.toUInt32 >>> ((2 : Int32) &&& 31).toUInt32).toInt32) &&& (1 : Int32)) = (0 : Int32) then ((p2 &&& (255 : Int32)).toUInt32.toUInt16.toUInt32.toInt32) else f0)) (hz109_3 : z109_3 = (if (((p4.toUInt32 >>> ((2 : Int32) &&& 31).toUInt32).toInt32) &&& (1 : Int32)) = (0 : Int32) then ((((p2.toUInt32 >>> ((8 : Int32) &&& 31).toUInt32).toInt32) &&& (255 : Int32)).toUInt32.toUInt16.toUInt32.toInt32) else f1)) (hz162_6 : z162_6 = (if (((p4.toUInt32 >>> ((3 : Int32) &&& 31).toUInt32).toInt32) &&& (1 : Int32)) = (0 : Int32) then ((1 : Int32) + (((p4.toUInt32 >>> ((5 : Int32) &&& 31).toUInt32).toInt32) &&& (1 : Int32))) else lt)) (hz162_7 : z162_7 = (if (((p4.toUInt32 >>> ((3 : Int32) &&& 31).toUInt32).toInt32) &&& (1 : Int32)) = (0 : Int32) then ((p3 &&& (255 : Int32)).toUInt32.toUInt16.toUInt32.toInt32) else t0)) (hz162_8 : z162_8 = (if (((p4.toUInt32 >>> ((3 : Int32) &&& 31).toUInt32).toInt32) &&& (1 : Int32)) = (0 : Int32) then ((((p3.toUInt32 >>> ((8 : Int32) &&& 31).toUInt32).toInt32) &&& (255 : Int32)).toUInt32.toUInt16.toUInt32.toInt32) else t1)) (hz_1_107 : z_1_107 = (if lf = z109_1 then (if f0 = z109_2 then (if lf = (1 : Int32) then (1 : Int32) else (if f1 = z109_3 then (1 : Int32) else (0 : Int32))) else (0 : Int32)) else (0 : Int32))) (hz_1_137 : z_1_137 = (if lt = z162_6 then (if t0 = z162_7 then (if lt = (1 : Int32) then (1 : Int32) else (if t1 = z162_8 then (1 : Int32) else (0 : Int32))) else (0 : Int32)) else (0 : Int32))) (hz334_138 : z334_138 = (if z_1_137 = (0 : Int32) then (0 : Int32) else (1 : Int32))) (hy1_163 : y1_163 = (if (if (own_eq lf f0 f1 z109_1 z109_2 z109_3) = (0 : Int32) then (0 : Int32) else (1 : Int32)) = (0 : Int32) then (0 : Int32) else (if (if (own_eq lt t0 t1 z162_6 z162_7 z162_8) = (0 : Int32) then (0 : Int32) else (1 : Int32)) = (0 : Int32) then (0 : Int32) else (1 : Int32)))) (hc239_68 : ¬ ((((p4.toUInt32 >>> ((6 : Int32) &&& 31).toUInt32).toInt32) &&& (3 : Int32)) = (1 : Int32))) (hc260_81 : ¬ ((((p4.toUInt32 >>> ((6 : Int32) &&& 31).toUInt32).toInt32) &&& (3 : Int32)) = (2 : Int32))) (hc282_94 : ¬ ((((p4.toUInt32 >>> ((6 : Int32) &&& 31).toUInt32).toInt32) &&& (3 : Int32)) = (3 : Int32))) (hc308_108 : ¬ (z_1_107 = (0 : Int32))) : y1_163 = z334_138 := by
  have L1 := own_len _ _ hlf
  have L2 := own_len _ _ hlt
  have C0 := own_chr _ _ hf0
  have C1 := own_chr _ _ hf1
  have C2 := own_chr _ _ ht0
  have C3 := own_chr _ _ ht1
  have L3 : z109_1 = 1 ∨ z109_1 = 2 := by rw [hz109_1]; split; exact own_len _ _ rfl; exact L1
  have L4 : z162_6 = 1 ∨ z162_6 = 2 := by rw [hz162_6]; split; exact own_len _ _ rfl; exact L2
  have C4 : 0 ≤ z109_2.toInt ∧ z109_2.toInt ≤ 255 := by rw [hz109_2]; split; exact own_chr _ _ rfl; exact C0
  have C5 : 0 ≤ z109_3.toInt ∧ z109_3.toInt ≤ 255 := by rw [hz109_3]; split; exact own_chr _ _ rfl; exact C1
  have C6 : 0 ≤ z162_7.toInt ∧ z162_7.toInt ≤ 255 := by rw [hz162_7]; split; exact own_chr _ _ rfl; exact C2
  have C7 : 0 ≤ z162_8.toInt ∧ z162_8.toInt ≤ 255 := by rw [hz162_8]; split; exact own_chr _ _ rfl; exact C3
  have q1 := own_sm L1 L3 C0 C1 C4 C5
  have q2 := own_sm L2 L4 C2 C3 C6 C7
  have s1 := own_sym lf f0 f1 z109_1 z109_2 z109_3 L1 L3
  have s2 := own_sym lt t0 t1 z162_6 z162_7 z162_8 L2 L4
  rw [← hz_1_107] at q1
  rw [← hz_1_137] at q2
  have hy : y1_163 = z334_138 := by rw [hy1_163, q1, q2, hz334_138]; by_cases hB : z_1_137 = 0 <;> simp [hc308_108, hB]
  simp [hy]
theorem own_plain25 (p0 : Int32) (p1 : Int32) (p2 : Int32) (p3 : Int32) (p4 : Int32) (cs : Int32) (lf : Int32) (f0 : Int32) (f1 : Int32) (lt : Int32) (t0 : Int32) (t1 : Int32) (z109_1 : Int32) (z109_2 : Int32) (z109_3 : Int32) (z162_6 : Int32) (z162_7 : Int32) (z162_8 : Int32) (z_1_107 : Int32) (z_1_137 : Int32) (z334_138 : Int32) (y1_165 : Int32) (z365_166 : Int32) (hlf : ((1 : Int32) + (p4 &&& (1 : Int32))) = lf) (hf0 : ((p0 &&& (255 : Int32)).toUInt32.toUInt16.toUInt32.toInt32) = f0) (hf1 : ((((p0.toUInt32 >>> ((8 : Int32) &&& 31).toUInt32).toInt32) &&& (255 : Int32)).toUInt32.toUInt16.toUInt32.toInt32) = f1) (hlt : ((1 : Int32) + (((p4.toUInt32 >>> ((1 : Int32) &&& 31).toUInt32).toInt32) &&& (1 : Int32))) = lt) (ht0 : ((p1 &&& (255 : Int32)).toUInt32.toUInt16.toUInt32.toInt32) = t0) (ht1 : ((((p1.toUInt32 >>> ((8 : Int32) &&& 31).toUInt32).toInt32) &&& (255 : Int32)).toUInt32.toUInt16.toUInt32.toInt32) = t1) (hz109_1 : z109_1 = (if (((p4.toUInt32 >>> ((2 : Int32) &&& 31).toUInt32).toInt32) &&& (1 : Int32)) = (0 : Int32) then ((1 : Int32) + (((p4.toUInt32 >>> ((4 : Int32) &&& 31).toUInt32).toInt32) &&& (1 : Int32))) else lf)) (hz109_2 : z109_2 = (if (((p4.toUInt32 >>> ((2 : Int32) &&& 31).toUInt32).toInt32) &&& (1 : Int32)) = (0 : Int32) then ((p2 &&& (255 : Int32)).toUInt32.toUInt16.toUInt32.toInt32) else f0)) (hz109_3 : z109_3 = (if (((p4.toUInt32 >>> ((2 : Int32) &&& 31).toUInt32).toInt32) &&& (1 : Int32)) = (0 : Int32) then ((((p2.toUInt32 >>> ((8 : Int32) &&& 31).toUInt32).toInt32) &&& (255 : Int32)).toUInt32.toUInt16.toUInt32.toInt32) else f1)) (hz162_6 : z162_6 = (if (((p4.toUInt32 >>> ((3 : Int32) &&& 31).toUInt32).toInt32) &&& (1 : Int32)) = (0 : Int32) then ((1 : Int32) + (((p4.toUInt32 >>> ((5 : Int32) &&& 31).toUInt32).toInt32) &&& (1 : Int32))) else lt)) (hz162_7 : z162_7 = (if (((p4.toUInt32 >>> ((3 : Int32) &&& 31).toUInt32).toInt32) &&& (1 : Int32)) = (0 : Int32) then ((p3 &&& (255 : Int32)).toUInt32.toUInt16.toUInt32.toInt32) else t0)) (hz162_8 : z162_8 = (if (((p4.toUInt32 >>> ((3 : Int32) &&& 31).toUInt32).toInt32) &&& (1 : Int32)) = (0 : Int32) then ((((p3.toUInt32 >>> ((8 : Int32) &&& 31).toUInt32).toInt32) &&& (255 : Int32)).toUInt32.toUInt16.toUInt32.toInt32) else t1)) (hz_1_107 : z_1_107 = (if lf = z109_1 then (if f0 = z109_2 then (if lf = (1 : Int32) then (1 : Int32) else (if f1 = z109_3 then (1 : Int32) else (0 : Int32))) else (0 : Int32)) else (0 : Int32))) (hz_1_137 : z_1_137 = (if lt = z162_6 then (if t0 = z162_7 then (if lt = (1 : Int32) then (1 : Int32) else (if t1 = z162_8 then (1 : Int32) else (0 : Int32))) else (0 : Int32)) else (0 : Int32))) (hz334_138 : z334_138 = (if z_1_137 = (0 : Int32) then (0 : Int32) else (1 : Int32))) (hy1_165 : y1_165 = (if (if (own_eq z109_1 z109_2 z109_3 lf f0 f1) = (0 : Int32) then (0 : Int32) else (1 : Int32)) = (0 : Int32) then (0 : Int32) else (if (if (own_eq z162_6 z162_7 z162_8 lt t0 t1) = (0 : Int32) then (0 : Int32) else (1 : Int32)) = (0 : Int32) then (0 : Int32) else (1 : Int32)))) (hz365_166 : z365_166 = (if y1_165 = z334_138 then (1 : Int32) else (0 : Int32))) (hc239_68 : ¬ ((((p4.toUInt32 >>> ((6 : Int32) &&& 31).toUInt32).toInt32) &&& (3 : Int32)) = (1 : Int32))) (hc260_81 : ¬ ((((p4.toUInt32 >>> ((6 : Int32) &&& 31).toUInt32).toInt32) &&& (3 : Int32)) = (2 : Int32))) (hc282_94 : ¬ ((((p4.toUInt32 >>> ((6 : Int32) &&& 31).toUInt32).toInt32) &&& (3 : Int32)) = (3 : Int32))) (hc308_108 : ¬ (z_1_107 = (0 : Int32))) : z365_166 = 1 := by
  have L1 := own_len _ _ hlf
  have L2 := own_len _ _ hlt
  have C0 := own_chr _ _ hf0
  have C1 := own_chr _ _ hf1
  have C2 := own_chr _ _ ht0
  have C3 := own_chr _ _ ht1
  have L3 : z109_1 = 1 ∨ z109_1 = 2 := by rw [hz109_1]; split; exact own_len _ _ rfl; exact L1
  have L4 : z162_6 = 1 ∨ z162_6 = 2 := by rw [hz162_6]; split; exact own_len _ _ rfl; exact L2
  have C4 : 0 ≤ z109_2.toInt ∧ z109_2.toInt ≤ 255 := by rw [hz109_2]; split; exact own_chr _ _ rfl; exact C0
  have C5 : 0 ≤ z109_3.toInt ∧ z109_3.toInt ≤ 255 := by rw [hz109_3]; split; exact own_chr _ _ rfl; exact C1
  have C6 : 0 ≤ z162_7.toInt ∧ z162_7.toInt ≤ 255 := by rw [hz162_7]; split; exact own_chr _ _ rfl; exact C2
  have C7 : 0 ≤ z162_8.toInt ∧ z162_8.toInt ≤ 255 := by rw [hz162_8]; split; exact own_chr _ _ rfl; exact C3
  have q1 := own_sm L1 L3 C0 C1 C4 C5
  have q2 := own_sm L2 L4 C2 C3 C6 C7
  have s1 := own_sym lf f0 f1 z109_1 z109_2 z109_3 L1 L3
  have s2 := own_sym lt t0 t1 z162_6 z162_7 z162_8 L2 L4
  rw [← hz_1_107] at q1
  rw [← hz_1_137] at q2
  have hy : y1_165 = z334_138 := by rw [hy1_165, s1, s2, q1, q2, hz334_138]; by_cases hB : z_1_137 = 0 <;> simp [hc308_108, hB]
  simp [hy, hz365_166]
theorem ef_0 (m : MethodId) (x0 : Int32) (x1 : Int32) (x2 : Int32) (x3 : Int32) (x4 : Int32) : entryFrame m #[(.int x0), (.int x1), (.int x2), (.int x3), (.int x4)] maxLocals = mkF m 0 #[.val (.int x0), .val (.int x1), .val (.int x2), .val (.int x3), .val (.int x4), .unset, .unset, .unset, .unset, .unset, .unset, .unset, .unset, .unset, .unset, .unset, .unset, .unset, .unset, .unset, .unset, .unset] [] := by first | (simp [entryFrame, mkF, argsToLocals, Value.category, maxLocals]; done) | rfl
def Q0 (Z : State) (p0 p1 p2 p3 p4 cs : Int32) (h0 : Heap) (n0 : Nat) (v : Option Value) (h : Heap) (L : List Loc) : Prop := v = some (.int 1) ∧ Fr n0 L
set_option maxRecDepth 65536 in
set_option maxHeartbeats 40000000 in
theorem rm0 (l : Launch) (Z : State) (a0 : Array Value) (hw : ∀ d ∈ tables_1, d.before a0 Z = true) (ws : List Jvm.Cond) (p0 p1 p2 p3 p4 cs : Int32) (h0 : Heap) (n0 : Nat) (Z0 : n0 ≤ h0.size) (S_cs : Sta Z h0 "java/lang/String" "COMPACT_STRINGS" "Z" (.int cs)) (c_cs : ¬ (cs = (0 : Int32))) :
    MetFree l x (head1 (Jvm.Cond.code x code maxLocals ret :: ws) room_1) (fun a U => a = #[(.int p0), (.int p1), (.int p2), (.int p3), (.int p4)] ∧ Z.Warmed39 U.vm ∧ U.heap = h0) (fun _ _ _ _ _ => True) (fun _ U o U' => ∃ v L, o = .returned v ∧ Q0 Z p0 p1 p2 p3 p4 cs h0 n0 v U'.heap L ∧ ReturnedEndW U o U' L room_1.cells room_1.slots) := by
  refine own_bodyW (plainFor_of_name pn_0) ?_
  intro p e s m below meth c s₁ G vm0 k0 hx hby hml hZ hown hnm hret hS hk X0 e0 step fin
  replace hown : vm0.findClass "com/example/vertex_to_service/vertextoservice/core/EdgeEqualsPinLaw" = some m.cls := hown
  replace hnm : meth.name = "law" := hnm
  replace hret : meth.sig.returnType = some .boolean := hret
  replace hml : c.maxLocals = 22 := hml
  have N0 := Fr.nil n0
  refine step (s₁.setTop (mkF m 0 #[.val (.int p0), .val (.int p1), .val (.int p2), .val (.int p3), .val (.int p4), .unset, .unset, .unset, .unset, .unset, .unset, .unset, .unset, .unset, .unset, .unset, .unset, .unset, .unset, .unset, .unset, .unset] [])) (fun t k => castTop (ef_0 m p0 p1 p2 p3 p4) k) ?_
  refine step (s₁.setTop (mkF m 1 #[.val (.int p0), .val (.int p1), .val (.int p2), .val (.int p3), .val (.int p4), .unset, .unset, .unset, .unset, .unset, .unset, .unset, .unset, .unset, .unset, .unset, .unset, .unset, .unset, .unset, .unset, .unset] [(.int (1 : Int32))])) (fun t k => XS.iconst X0.here hx rfl (hb hby at_0) k) ?_
  refine step (s₁.setTop (mkF m 3 #[.val (.int p0), .val (.int p1), .val (.int p2), .val (.int p3), .val (.int p4), .unset, .unset, .unset, .unset, .unset, .unset, .unset, .unset, .unset, .unset, .unset, .unset, .unset, .unset, .unset, .unset, .unset] [(.int p4), (.int (1 : Int32))])) (fun t k => XS.iload X0.here hx rfl (hb hby at_1) rfl k) ?_
  refine step (s₁.setTop (mkF m 4 #[.val (.int p0), .val (.int p1), .val (.int p2), .val (.int p3), .val (.int p4), .unset, .unset, .unset, .unset, .unset, .unset, .unset, .unset, .unset, .unset, .unset, .unset, .unset, .unset, .unset, .unset, .unset] [(.int (1 : Int32)), (.int p4), (.int (1 : Int32))])) (fun t k => XS.iconst X0.here hx rfl (hb hby at_3) k) ?_
  refine step (s₁.setTop (mkF m 5 #[.val (.int p0), .val (.int p1), .val (.int p2), .val (.int p3), .val (.int p4), .unset, .unset, .unset, .unset, .unset, .unset, .unset, .unset, .unset, .unset, .unset, .unset, .unset, .unset, .unset, .unset, .unset] [(.int (p4 &&& (1 : Int32))), (.int (1 : Int32))])) (fun t k => XS.iand X0.here hx rfl (hb hby at_4) rfl k) ?_
  refine step (s₁.setTop (mkF m 6 #[.val (.int p0), .val (.int p1), .val (.int p2), .val (.int p3), .val (.int p4), .unset, .unset, .unset, .unset, .unset, .unset, .unset, .unset, .unset, .unset, .unset, .unset, .unset, .unset, .unset, .unset, .unset] [(.int ((1 : Int32) + (p4 &&& (1 : Int32))))])) (fun t k => XS.iadd X0.here hx rfl (hb hby at_5) rfl k) ?_
  generalize hlf : ((1 : Int32) + (p4 &&& (1 : Int32))) = lf
  refine step (s₁.setTop (mkF m 8 #[.val (.int p0), .val (.int p1), .val (.int p2), .val (.int p3), .val (.int p4), .val (.int lf), .unset, .unset, .unset, .unset, .unset, .unset, .unset, .unset, .unset, .unset, .unset, .unset, .unset, .unset, .unset, .unset] [])) (fun t k => XS.istore X0.here hx rfl (hb hby at_6) rfl (l' := #[.val (.int p0), .val (.int p1), .val (.int p2), .val (.int p3), .val (.int p4), .val (.int lf), .unset, .unset, .unset, .unset, .unset, .unset, .unset, .unset, .unset, .unset, .unset, .unset, .unset, .unset, .unset, .unset]) rfl k) ?_
  refine step (s₁.setTop (mkF m 9 #[.val (.int p0), .val (.int p1), .val (.int p2), .val (.int p3), .val (.int p4), .val (.int lf), .unset, .unset, .unset, .unset, .unset, .unset, .unset, .unset, .unset, .unset, .unset, .unset, .unset, .unset, .unset, .unset] [(.int p0)])) (fun t k => XS.iloadN X0.here hx rfl (hb hby at_8) rfl k) ?_
  refine step (s₁.setTop (mkF m 12 #[.val (.int p0), .val (.int p1), .val (.int p2), .val (.int p3), .val (.int p4), .val (.int lf), .unset, .unset, .unset, .unset, .unset, .unset, .unset, .unset, .unset, .unset, .unset, .unset, .unset, .unset, .unset, .unset] [(.int (255 : Int32)), (.int p0)])) (fun t k => XS.sipush X0.here hx rfl (hb hby at_9) k) ?_
  refine step (s₁.setTop (mkF m 13 #[.val (.int p0), .val (.int p1), .val (.int p2), .val (.int p3), .val (.int p4), .val (.int lf), .unset, .unset, .unset, .unset, .unset, .unset, .unset, .unset, .unset, .unset, .unset, .unset, .unset, .unset, .unset, .unset] [(.int (p0 &&& (255 : Int32)))])) (fun t k => XS.iand X0.here hx rfl (hb hby at_12) rfl k) ?_
  refine step (s₁.setTop (mkF m 14 #[.val (.int p0), .val (.int p1), .val (.int p2), .val (.int p3), .val (.int p4), .val (.int lf), .unset, .unset, .unset, .unset, .unset, .unset, .unset, .unset, .unset, .unset, .unset, .unset, .unset, .unset, .unset, .unset] [(.int ((p0 &&& (255 : Int32)).toUInt32.toUInt16.toUInt32.toInt32))])) (fun t k => XS.i2c X0.here hx rfl (hb hby at_13) rfl k) ?_
  generalize hf0 : ((p0 &&& (255 : Int32)).toUInt32.toUInt16.toUInt32.toInt32) = f0
  have le_f0 := own_255n _ _ hf0
  refine step (s₁.setTop (mkF m 16 #[.val (.int p0), .val (.int p1), .val (.int p2), .val (.int p3), .val (.int p4), .val (.int lf), .val (.int f0), .unset, .unset, .unset, .unset, .unset, .unset, .unset, .unset, .unset, .unset, .unset, .unset, .unset, .unset, .unset] [])) (fun t k => XS.istore X0.here hx rfl (hb hby at_14) rfl (l' := #[.val (.int p0), .val (.int p1), .val (.int p2), .val (.int p3), .val (.int p4), .val (.int lf), .val (.int f0), .unset, .unset, .unset, .unset, .unset, .unset, .unset, .unset, .unset, .unset, .unset, .unset, .unset, .unset, .unset]) rfl k) ?_
  refine step (s₁.setTop (mkF m 17 #[.val (.int p0), .val (.int p1), .val (.int p2), .val (.int p3), .val (.int p4), .val (.int lf), .val (.int f0), .unset, .unset, .unset, .unset, .unset, .unset, .unset, .unset, .unset, .unset, .unset, .unset, .unset, .unset, .unset] [(.int p0)])) (fun t k => XS.iloadN X0.here hx rfl (hb hby at_16) rfl k) ?_
  refine step (s₁.setTop (mkF m 19 #[.val (.int p0), .val (.int p1), .val (.int p2), .val (.int p3), .val (.int p4), .val (.int lf), .val (.int f0), .unset, .unset, .unset, .unset, .unset, .unset, .unset, .unset, .unset, .unset, .unset, .unset, .unset, .unset, .unset] [(.int (8 : Int32)), (.int p0)])) (fun t k => XS.bipush X0.here hx rfl (hb hby at_17) k) ?_
  refine step (s₁.setTop (mkF m 20 #[.val (.int p0), .val (.int p1), .val (.int p2), .val (.int p3), .val (.int p4), .val (.int lf), .val (.int f0), .unset, .unset, .unset, .unset, .unset, .unset, .unset, .unset, .unset, .unset, .unset, .unset, .unset, .unset, .unset] [(.int ((p0.toUInt32 >>> ((8 : Int32) &&& 31).toUInt32).toInt32))])) (fun t k => XS.iushr X0.here hx rfl (hb hby at_19) rfl k) ?_
  refine step (s₁.setTop (mkF m 23 #[.val (.int p0), .val (.int p1), .val (.int p2), .val (.int p3), .val (.int p4), .val (.int lf), .val (.int f0), .unset, .unset, .unset, .unset, .unset, .unset, .unset, .unset, .unset, .unset, .unset, .unset, .unset, .unset, .unset] [(.int (255 : Int32)), (.int ((p0.toUInt32 >>> ((8 : Int32) &&& 31).toUInt32).toInt32))])) (fun t k => XS.sipush X0.here hx rfl (hb hby at_20) k) ?_
  refine step (s₁.setTop (mkF m 24 #[.val (.int p0), .val (.int p1), .val (.int p2), .val (.int p3), .val (.int p4), .val (.int lf), .val (.int f0), .unset, .unset, .unset, .unset, .unset, .unset, .unset, .unset, .unset, .unset, .unset, .unset, .unset, .unset, .unset] [(.int (((p0.toUInt32 >>> ((8 : Int32) &&& 31).toUInt32).toInt32) &&& (255 : Int32)))])) (fun t k => XS.iand X0.here hx rfl (hb hby at_23) rfl k) ?_
  refine step (s₁.setTop (mkF m 25 #[.val (.int p0), .val (.int p1), .val (.int p2), .val (.int p3), .val (.int p4), .val (.int lf), .val (.int f0), .unset, .unset, .unset, .unset, .unset, .unset, .unset, .unset, .unset, .unset, .unset, .unset, .unset, .unset, .unset] [(.int ((((p0.toUInt32 >>> ((8 : Int32) &&& 31).toUInt32).toInt32) &&& (255 : Int32)).toUInt32.toUInt16.toUInt32.toInt32))])) (fun t k => XS.i2c X0.here hx rfl (hb hby at_24) rfl k) ?_
  generalize hf1 : ((((p0.toUInt32 >>> ((8 : Int32) &&& 31).toUInt32).toInt32) &&& (255 : Int32)).toUInt32.toUInt16.toUInt32.toInt32) = f1
  have le_f1 := own_255n _ _ hf1
  refine step (s₁.setTop (mkF m 27 #[.val (.int p0), .val (.int p1), .val (.int p2), .val (.int p3), .val (.int p4), .val (.int lf), .val (.int f0), .val (.int f1), .unset, .unset, .unset, .unset, .unset, .unset, .unset, .unset, .unset, .unset, .unset, .unset, .unset, .unset] [])) (fun t k => XS.istore X0.here hx rfl (hb hby at_25) rfl (l' := #[.val (.int p0), .val (.int p1), .val (.int p2), .val (.int p3), .val (.int p4), .val (.int lf), .val (.int f0), .val (.int f1), .unset, .unset, .unset, .unset, .unset, .unset, .unset, .unset, .unset, .unset, .unset, .unset, .unset, .unset]) rfl k) ?_
  refine step (s₁.setTop (mkF m 28 #[.val (.int p0), .val (.int p1), .val (.int p2), .val (.int p3), .val (.int p4), .val (.int lf), .val (.int f0), .val (.int f1), .unset, .unset, .unset, .unset, .unset, .unset, .unset, .unset, .unset, .unset, .unset, .unset, .unset, .unset] [(.int (1 : Int32))])) (fun t k => XS.iconst X0.here hx rfl (hb hby at_27) k) ?_
  refine step (s₁.setTop (mkF m 30 #[.val (.int p0), .val (.int p1), .val (.int p2), .val (.int p3), .val (.int p4), .val (.int lf), .val (.int f0), .val (.int f1), .unset, .unset, .unset, .unset, .unset, .unset, .unset, .unset, .unset, .unset, .unset, .unset, .unset, .unset] [(.int p4), (.int (1 : Int32))])) (fun t k => XS.iload X0.here hx rfl (hb hby at_28) rfl k) ?_
  refine step (s₁.setTop (mkF m 31 #[.val (.int p0), .val (.int p1), .val (.int p2), .val (.int p3), .val (.int p4), .val (.int lf), .val (.int f0), .val (.int f1), .unset, .unset, .unset, .unset, .unset, .unset, .unset, .unset, .unset, .unset, .unset, .unset, .unset, .unset] [(.int (1 : Int32)), (.int p4), (.int (1 : Int32))])) (fun t k => XS.iconst X0.here hx rfl (hb hby at_30) k) ?_
  refine step (s₁.setTop (mkF m 32 #[.val (.int p0), .val (.int p1), .val (.int p2), .val (.int p3), .val (.int p4), .val (.int lf), .val (.int f0), .val (.int f1), .unset, .unset, .unset, .unset, .unset, .unset, .unset, .unset, .unset, .unset, .unset, .unset, .unset, .unset] [(.int ((p4.toUInt32 >>> ((1 : Int32) &&& 31).toUInt32).toInt32)), (.int (1 : Int32))])) (fun t k => XS.iushr X0.here hx rfl (hb hby at_31) rfl k) ?_
  refine step (s₁.setTop (mkF m 33 #[.val (.int p0), .val (.int p1), .val (.int p2), .val (.int p3), .val (.int p4), .val (.int lf), .val (.int f0), .val (.int f1), .unset, .unset, .unset, .unset, .unset, .unset, .unset, .unset, .unset, .unset, .unset, .unset, .unset, .unset] [(.int (1 : Int32)), (.int ((p4.toUInt32 >>> ((1 : Int32) &&& 31).toUInt32).toInt32)), (.int (1 : Int32))])) (fun t k => XS.iconst X0.here hx rfl (hb hby at_32) k) ?_
  refine step (s₁.setTop (mkF m 34 #[.val (.int p0), .val (.int p1), .val (.int p2), .val (.int p3), .val (.int p4), .val (.int lf), .val (.int f0), .val (.int f1), .unset, .unset, .unset, .unset, .unset, .unset, .unset, .unset, .unset, .unset, .unset, .unset, .unset, .unset] [(.int (((p4.toUInt32 >>> ((1 : Int32) &&& 31).toUInt32).toInt32) &&& (1 : Int32))), (.int (1 : Int32))])) (fun t k => XS.iand X0.here hx rfl (hb hby at_33) rfl k) ?_
  refine step (s₁.setTop (mkF m 35 #[.val (.int p0), .val (.int p1), .val (.int p2), .val (.int p3), .val (.int p4), .val (.int lf), .val (.int f0), .val (.int f1), .unset, .unset, .unset, .unset, .unset, .unset, .unset, .unset, .unset, .unset, .unset, .unset, .unset, .unset] [(.int ((1 : Int32) + (((p4.toUInt32 >>> ((1 : Int32) &&& 31).toUInt32).toInt32) &&& (1 : Int32))))])) (fun t k => XS.iadd X0.here hx rfl (hb hby at_34) rfl k) ?_
  generalize hlt : ((1 : Int32) + (((p4.toUInt32 >>> ((1 : Int32) &&& 31).toUInt32).toInt32) &&& (1 : Int32))) = lt
  refine step (s₁.setTop (mkF m 37 #[.val (.int p0), .val (.int p1), .val (.int p2), .val (.int p3), .val (.int p4), .val (.int lf), .val (.int f0), .val (.int f1), .val (.int lt), .unset, .unset, .unset, .unset, .unset, .unset, .unset, .unset, .unset, .unset, .unset, .unset, .unset] [])) (fun t k => XS.istore X0.here hx rfl (hb hby at_35) rfl (l' := #[.val (.int p0), .val (.int p1), .val (.int p2), .val (.int p3), .val (.int p4), .val (.int lf), .val (.int f0), .val (.int f1), .val (.int lt), .unset, .unset, .unset, .unset, .unset, .unset, .unset, .unset, .unset, .unset, .unset, .unset, .unset]) rfl k) ?_
  refine step (s₁.setTop (mkF m 38 #[.val (.int p0), .val (.int p1), .val (.int p2), .val (.int p3), .val (.int p4), .val (.int lf), .val (.int f0), .val (.int f1), .val (.int lt), .unset, .unset, .unset, .unset, .unset, .unset, .unset, .unset, .unset, .unset, .unset, .unset, .unset] [(.int p1)])) (fun t k => XS.iloadN X0.here hx rfl (hb hby at_37) rfl k) ?_
  refine step (s₁.setTop (mkF m 41 #[.val (.int p0), .val (.int p1), .val (.int p2), .val (.int p3), .val (.int p4), .val (.int lf), .val (.int f0), .val (.int f1), .val (.int lt), .unset, .unset, .unset, .unset, .unset, .unset, .unset, .unset, .unset, .unset, .unset, .unset, .unset] [(.int (255 : Int32)), (.int p1)])) (fun t k => XS.sipush X0.here hx rfl (hb hby at_38) k) ?_
  refine step (s₁.setTop (mkF m 42 #[.val (.int p0), .val (.int p1), .val (.int p2), .val (.int p3), .val (.int p4), .val (.int lf), .val (.int f0), .val (.int f1), .val (.int lt), .unset, .unset, .unset, .unset, .unset, .unset, .unset, .unset, .unset, .unset, .unset, .unset, .unset] [(.int (p1 &&& (255 : Int32)))])) (fun t k => XS.iand X0.here hx rfl (hb hby at_41) rfl k) ?_
  refine step (s₁.setTop (mkF m 43 #[.val (.int p0), .val (.int p1), .val (.int p2), .val (.int p3), .val (.int p4), .val (.int lf), .val (.int f0), .val (.int f1), .val (.int lt), .unset, .unset, .unset, .unset, .unset, .unset, .unset, .unset, .unset, .unset, .unset, .unset, .unset] [(.int ((p1 &&& (255 : Int32)).toUInt32.toUInt16.toUInt32.toInt32))])) (fun t k => XS.i2c X0.here hx rfl (hb hby at_42) rfl k) ?_
  generalize ht0 : ((p1 &&& (255 : Int32)).toUInt32.toUInt16.toUInt32.toInt32) = t0
  have le_t0 := own_255n _ _ ht0
  refine step (s₁.setTop (mkF m 45 #[.val (.int p0), .val (.int p1), .val (.int p2), .val (.int p3), .val (.int p4), .val (.int lf), .val (.int f0), .val (.int f1), .val (.int lt), .val (.int t0), .unset, .unset, .unset, .unset, .unset, .unset, .unset, .unset, .unset, .unset, .unset, .unset] [])) (fun t k => XS.istore X0.here hx rfl (hb hby at_43) rfl (l' := #[.val (.int p0), .val (.int p1), .val (.int p2), .val (.int p3), .val (.int p4), .val (.int lf), .val (.int f0), .val (.int f1), .val (.int lt), .val (.int t0), .unset, .unset, .unset, .unset, .unset, .unset, .unset, .unset, .unset, .unset, .unset, .unset]) rfl k) ?_
  refine step (s₁.setTop (mkF m 46 #[.val (.int p0), .val (.int p1), .val (.int p2), .val (.int p3), .val (.int p4), .val (.int lf), .val (.int f0), .val (.int f1), .val (.int lt), .val (.int t0), .unset, .unset, .unset, .unset, .unset, .unset, .unset, .unset, .unset, .unset, .unset, .unset] [(.int p1)])) (fun t k => XS.iloadN X0.here hx rfl (hb hby at_45) rfl k) ?_
  refine step (s₁.setTop (mkF m 48 #[.val (.int p0), .val (.int p1), .val (.int p2), .val (.int p3), .val (.int p4), .val (.int lf), .val (.int f0), .val (.int f1), .val (.int lt), .val (.int t0), .unset, .unset, .unset, .unset, .unset, .unset, .unset, .unset, .unset, .unset, .unset, .unset] [(.int (8 : Int32)), (.int p1)])) (fun t k => XS.bipush X0.here hx rfl (hb hby at_46) k) ?_
  refine step (s₁.setTop (mkF m 49 #[.val (.int p0), .val (.int p1), .val (.int p2), .val (.int p3), .val (.int p4), .val (.int lf), .val (.int f0), .val (.int f1), .val (.int lt), .val (.int t0), .unset, .unset, .unset, .unset, .unset, .unset, .unset, .unset, .unset, .unset, .unset, .unset] [(.int ((p1.toUInt32 >>> ((8 : Int32) &&& 31).toUInt32).toInt32))])) (fun t k => XS.iushr X0.here hx rfl (hb hby at_48) rfl k) ?_
  refine step (s₁.setTop (mkF m 52 #[.val (.int p0), .val (.int p1), .val (.int p2), .val (.int p3), .val (.int p4), .val (.int lf), .val (.int f0), .val (.int f1), .val (.int lt), .val (.int t0), .unset, .unset, .unset, .unset, .unset, .unset, .unset, .unset, .unset, .unset, .unset, .unset] [(.int (255 : Int32)), (.int ((p1.toUInt32 >>> ((8 : Int32) &&& 31).toUInt32).toInt32))])) (fun t k => XS.sipush X0.here hx rfl (hb hby at_49) k) ?_
  refine step (s₁.setTop (mkF m 53 #[.val (.int p0), .val (.int p1), .val (.int p2), .val (.int p3), .val (.int p4), .val (.int lf), .val (.int f0), .val (.int f1), .val (.int lt), .val (.int t0), .unset, .unset, .unset, .unset, .unset, .unset, .unset, .unset, .unset, .unset, .unset, .unset] [(.int (((p1.toUInt32 >>> ((8 : Int32) &&& 31).toUInt32).toInt32) &&& (255 : Int32)))])) (fun t k => XS.iand X0.here hx rfl (hb hby at_52) rfl k) ?_
  refine step (s₁.setTop (mkF m 54 #[.val (.int p0), .val (.int p1), .val (.int p2), .val (.int p3), .val (.int p4), .val (.int lf), .val (.int f0), .val (.int f1), .val (.int lt), .val (.int t0), .unset, .unset, .unset, .unset, .unset, .unset, .unset, .unset, .unset, .unset, .unset, .unset] [(.int ((((p1.toUInt32 >>> ((8 : Int32) &&& 31).toUInt32).toInt32) &&& (255 : Int32)).toUInt32.toUInt16.toUInt32.toInt32))])) (fun t k => XS.i2c X0.here hx rfl (hb hby at_53) rfl k) ?_
  generalize ht1 : ((((p1.toUInt32 >>> ((8 : Int32) &&& 31).toUInt32).toInt32) &&& (255 : Int32)).toUInt32.toUInt16.toUInt32.toInt32) = t1
  have le_t1 := own_255n _ _ ht1
  refine step (s₁.setTop (mkF m 56 #[.val (.int p0), .val (.int p1), .val (.int p2), .val (.int p3), .val (.int p4), .val (.int lf), .val (.int f0), .val (.int f1), .val (.int lt), .val (.int t0), .val (.int t1), .unset, .unset, .unset, .unset, .unset, .unset, .unset, .unset, .unset, .unset, .unset] [])) (fun t k => XS.istore X0.here hx rfl (hb hby at_54) rfl (l' := #[.val (.int p0), .val (.int p1), .val (.int p2), .val (.int p3), .val (.int p4), .val (.int lf), .val (.int f0), .val (.int f1), .val (.int lt), .val (.int t0), .val (.int t1), .unset, .unset, .unset, .unset, .unset, .unset, .unset, .unset, .unset, .unset, .unset]) rfl k) ?_
  have le_r0 := own_255n p2 _ rfl
  have le_r1 := own_255n ((p2.toUInt32 >>> ((8 : Int32) &&& 31).toUInt32).toInt32) _ rfl
  have le_s0 := own_255n p3 _ rfl
  have le_s1 := own_255n ((p3.toUInt32 >>> ((8 : Int32) &&& 31).toUInt32).toInt32) _ rfl
  refine step (s₁.setTop (mkF m 58 #[.val (.int p0), .val (.int p1), .val (.int p2), .val (.int p3), .val (.int p4), .val (.int lf), .val (.int f0), .val (.int f1), .val (.int lt), .val (.int t0), .val (.int t1), .unset, .unset, .unset, .unset, .unset, .unset, .unset, .unset, .unset, .unset, .unset] [(.int p4)])) (fun t k => XS.iload X0.here hx rfl (hb hby at_56) rfl k) ?_
  refine step (s₁.setTop (mkF m 59 #[.val (.int p0), .val (.int p1), .val (.int p2), .val (.int p3), .val (.int p4), .val (.int lf), .val (.int f0), .val (.int f1), .val (.int lt), .val (.int t0), .val (.int t1), .unset, .unset, .unset, .unset, .unset, .unset, .unset, .unset, .unset, .unset, .unset] [(.int (2 : Int32)), (.int p4)])) (fun t k => XS.iconst X0.here hx rfl (hb hby at_58) k) ?_
  refine step (s₁.setTop (mkF m 60 #[.val (.int p0), .val (.int p1), .val (.int p2), .val (.int p3), .val (.int p4), .val (.int lf), .val (.int f0), .val (.int f1), .val (.int lt), .val (.int t0), .val (.int t1), .unset, .unset, .unset, .unset, .unset, .unset, .unset, .unset, .unset, .unset, .unset] [(.int ((p4.toUInt32 >>> ((2 : Int32) &&& 31).toUInt32).toInt32))])) (fun t k => XS.iushr X0.here hx rfl (hb hby at_59) rfl k) ?_
  refine step (s₁.setTop (mkF m 61 #[.val (.int p0), .val (.int p1), .val (.int p2), .val (.int p3), .val (.int p4), .val (.int lf), .val (.int f0), .val (.int f1), .val (.int lt), .val (.int t0), .val (.int t1), .unset, .unset, .unset, .unset, .unset, .unset, .unset, .unset, .unset, .unset, .unset] [(.int (1 : Int32)), (.int ((p4.toUInt32 >>> ((2 : Int32) &&& 31).toUInt32).toInt32))])) (fun t k => XS.iconst X0.here hx rfl (hb hby at_60) k) ?_
  refine step (s₁.setTop (mkF m 62 #[.val (.int p0), .val (.int p1), .val (.int p2), .val (.int p3), .val (.int p4), .val (.int lf), .val (.int f0), .val (.int f1), .val (.int lt), .val (.int t0), .val (.int t1), .unset, .unset, .unset, .unset, .unset, .unset, .unset, .unset, .unset, .unset, .unset] [(.int (((p4.toUInt32 >>> ((2 : Int32) &&& 31).toUInt32).toInt32) &&& (1 : Int32)))])) (fun t k => XS.iand X0.here hx rfl (hb hby at_61) rfl k) ?_
  suffices J109_4 : ∀ (z109_1 : Int32) (z109_2 : Int32) (z109_3 : Int32), z109_1 = (if (((p4.toUInt32 >>> ((2 : Int32) &&& 31).toUInt32).toInt32) &&& (1 : Int32)) = (0 : Int32) then ((1 : Int32) + (((p4.toUInt32 >>> ((4 : Int32) &&& 31).toUInt32).toInt32) &&& (1 : Int32))) else lf) → z109_2 = (if (((p4.toUInt32 >>> ((2 : Int32) &&& 31).toUInt32).toInt32) &&& (1 : Int32)) = (0 : Int32) then ((p2 &&& (255 : Int32)).toUInt32.toUInt16.toUInt32.toInt32) else f0) → z109_3 = (if (((p4.toUInt32 >>> ((2 : Int32) &&& 31).toUInt32).toInt32) &&& (1 : Int32)) = (0 : Int32) then ((((p2.toUInt32 >>> ((8 : Int32) &&& 31).toUInt32).toInt32) &&& (255 : Int32)).toUInt32.toUInt16.toUInt32.toInt32) else f1) → G (s₁.setTop (mkF m 109 #[.val (.int p0), .val (.int p1), .val (.int p2), .val (.int p3), .val (.int p4), .val (.int lf), .val (.int f0), .val (.int f1), .val (.int lt), .val (.int t0), .val (.int t1), .val (.int z109_1), .val (.int z109_2), .val (.int z109_3), .unset, .unset, .unset, .unset, .unset, .unset, .unset, .unset] [])) by
    by_cases hc62_5 : (((p4.toUInt32 >>> ((2 : Int32) &&& 31).toUInt32).toInt32) &&& (1 : Int32)) = (0 : Int32)
    · -- 62 True
      refine step (s₁.setTop (mkF m 80 #[.val (.int p0), .val (.int p1), .val (.int p2), .val (.int p3), .val (.int p4), .val (.int lf), .val (.int f0), .val (.int f1), .val (.int lt), .val (.int t0), .val (.int t1), .unset, .unset, .unset, .unset, .unset, .unset, .unset, .unset, .unset, .unset, .unset] [])) (fun t k => XS.ifYes X0.here hx rfl (pc0 := 62) (pc' := 80) rfl (hb hby at_62) rfl ((if0 _ _).trans (teq hc62_5).1) (by decide) (by decide) k) ?_
      refine step (s₁.setTop (mkF m 81 #[.val (.int p0), .val (.int p1), .val (.int p2), .val (.int p3), .val (.int p4), .val (.int lf), .val (.int f0), .val (.int f1), .val (.int lt), .val (.int t0), .val (.int t1), .unset, .unset, .unset, .unset, .unset, .unset, .unset, .unset, .unset, .unset, .unset] [(.int (1 : Int32))])) (fun t k => XS.iconst X0.here hx rfl (hb hby at_80) k) ?_
      refine step (s₁.setTop (mkF m 83 #[.val (.int p0), .val (.int p1), .val (.int p2), .val (.int p3), .val (.int p4), .val (.int lf), .val (.int f0), .val (.int f1), .val (.int lt), .val (.int t0), .val (.int t1), .unset, .unset, .unset, .unset, .unset, .unset, .unset, .unset, .unset, .unset, .unset] [(.int p4), (.int (1 : Int32))])) (fun t k => XS.iload X0.here hx rfl (hb hby at_81) rfl k) ?_
      refine step (s₁.setTop (mkF m 84 #[.val (.int p0), .val (.int p1), .val (.int p2), .val (.int p3), .val (.int p4), .val (.int lf), .val (.int f0), .val (.int f1), .val (.int lt), .val (.int t0), .val (.int t1), .unset, .unset, .unset, .unset, .unset, .unset, .unset, .unset, .unset, .unset, .unset] [(.int (4 : Int32)), (.int p4), (.int (1 : Int32))])) (fun t k => XS.iconst X0.here hx rfl (hb hby at_83) k) ?_
      refine step (s₁.setTop (mkF m 85 #[.val (.int p0), .val (.int p1), .val (.int p2), .val (.int p3), .val (.int p4), .val (.int lf), .val (.int f0), .val (.int f1), .val (.int lt), .val (.int t0), .val (.int t1), .unset, .unset, .unset, .unset, .unset, .unset, .unset, .unset, .unset, .unset, .unset] [(.int ((p4.toUInt32 >>> ((4 : Int32) &&& 31).toUInt32).toInt32)), (.int (1 : Int32))])) (fun t k => XS.iushr X0.here hx rfl (hb hby at_84) rfl k) ?_
      refine step (s₁.setTop (mkF m 86 #[.val (.int p0), .val (.int p1), .val (.int p2), .val (.int p3), .val (.int p4), .val (.int lf), .val (.int f0), .val (.int f1), .val (.int lt), .val (.int t0), .val (.int t1), .unset, .unset, .unset, .unset, .unset, .unset, .unset, .unset, .unset, .unset, .unset] [(.int (1 : Int32)), (.int ((p4.toUInt32 >>> ((4 : Int32) &&& 31).toUInt32).toInt32)), (.int (1 : Int32))])) (fun t k => XS.iconst X0.here hx rfl (hb hby at_85) k) ?_
      refine step (s₁.setTop (mkF m 87 #[.val (.int p0), .val (.int p1), .val (.int p2), .val (.int p3), .val (.int p4), .val (.int lf), .val (.int f0), .val (.int f1), .val (.int lt), .val (.int t0), .val (.int t1), .unset, .unset, .unset, .unset, .unset, .unset, .unset, .unset, .unset, .unset, .unset] [(.int (((p4.toUInt32 >>> ((4 : Int32) &&& 31).toUInt32).toInt32) &&& (1 : Int32))), (.int (1 : Int32))])) (fun t k => XS.iand X0.here hx rfl (hb hby at_86) rfl k) ?_
      refine step (s₁.setTop (mkF m 88 #[.val (.int p0), .val (.int p1), .val (.int p2), .val (.int p3), .val (.int p4), .val (.int lf), .val (.int f0), .val (.int f1), .val (.int lt), .val (.int t0), .val (.int t1), .unset, .unset, .unset, .unset, .unset, .unset, .unset, .unset, .unset, .unset, .unset] [(.int ((1 : Int32) + (((p4.toUInt32 >>> ((4 : Int32) &&& 31).toUInt32).toInt32) &&& (1 : Int32))))])) (fun t k => XS.iadd X0.here hx rfl (hb hby at_87) rfl k) ?_
      refine step (s₁.setTop (mkF m 90 #[.val (.int p0), .val (.int p1), .val (.int p2), .val (.int p3), .val (.int p4), .val (.int lf), .val (.int f0), .val (.int f1), .val (.int lt), .val (.int t0), .val (.int t1), .val (.int ((1 : Int32) + (((p4.toUInt32 >>> ((4 : Int32) &&& 31).toUInt32).toInt32) &&& (1 : Int32)))), .unset, .unset, .unset, .unset, .unset, .unset, .unset, .unset, .unset, .unset] [])) (fun t k => XS.istore X0.here hx rfl (hb hby at_88) rfl (l' := #[.val (.int p0), .val (.int p1), .val (.int p2), .val (.int p3), .val (.int p4), .val (.int lf), .val (.int f0), .val (.int f1), .val (.int lt), .val (.int t0), .val (.int t1), .val (.int ((1 : Int32) + (((p4.toUInt32 >>> ((4 : Int32) &&& 31).toUInt32).toInt32) &&& (1 : Int32)))), .unset, .unset, .unset, .unset, .unset, .unset, .unset, .unset, .unset, .unset]) rfl k) ?_
      refine step (s₁.setTop (mkF m 91 #[.val (.int p0), .val (.int p1), .val (.int p2), .val (.int p3), .val (.int p4), .val (.int lf), .val (.int f0), .val (.int f1), .val (.int lt), .val (.int t0), .val (.int t1), .val (.int ((1 : Int32) + (((p4.toUInt32 >>> ((4 : Int32) &&& 31).toUInt32).toInt32) &&& (1 : Int32)))), .unset, .unset, .unset, .unset, .unset, .unset, .unset, .unset, .unset, .unset] [(.int p2)])) (fun t k => XS.iloadN X0.here hx rfl (hb hby at_90) rfl k) ?_
      refine step (s₁.setTop (mkF m 94 #[.val (.int p0), .val (.int p1), .val (.int p2), .val (.int p3), .val (.int p4), .val (.int lf), .val (.int f0), .val (.int f1), .val (.int lt), .val (.int t0), .val (.int t1), .val (.int ((1 : Int32) + (((p4.toUInt32 >>> ((4 : Int32) &&& 31).toUInt32).toInt32) &&& (1 : Int32)))), .unset, .unset, .unset, .unset, .unset, .unset, .unset, .unset, .unset, .unset] [(.int (255 : Int32)), (.int p2)])) (fun t k => XS.sipush X0.here hx rfl (hb hby at_91) k) ?_
      refine step (s₁.setTop (mkF m 95 #[.val (.int p0), .val (.int p1), .val (.int p2), .val (.int p3), .val (.int p4), .val (.int lf), .val (.int f0), .val (.int f1), .val (.int lt), .val (.int t0), .val (.int t1), .val (.int ((1 : Int32) + (((p4.toUInt32 >>> ((4 : Int32) &&& 31).toUInt32).toInt32) &&& (1 : Int32)))), .unset, .unset, .unset, .unset, .unset, .unset, .unset, .unset, .unset, .unset] [(.int (p2 &&& (255 : Int32)))])) (fun t k => XS.iand X0.here hx rfl (hb hby at_94) rfl k) ?_
      refine step (s₁.setTop (mkF m 96 #[.val (.int p0), .val (.int p1), .val (.int p2), .val (.int p3), .val (.int p4), .val (.int lf), .val (.int f0), .val (.int f1), .val (.int lt), .val (.int t0), .val (.int t1), .val (.int ((1 : Int32) + (((p4.toUInt32 >>> ((4 : Int32) &&& 31).toUInt32).toInt32) &&& (1 : Int32)))), .unset, .unset, .unset, .unset, .unset, .unset, .unset, .unset, .unset, .unset] [(.int ((p2 &&& (255 : Int32)).toUInt32.toUInt16.toUInt32.toInt32))])) (fun t k => XS.i2c X0.here hx rfl (hb hby at_95) rfl k) ?_
      refine step (s₁.setTop (mkF m 98 #[.val (.int p0), .val (.int p1), .val (.int p2), .val (.int p3), .val (.int p4), .val (.int lf), .val (.int f0), .val (.int f1), .val (.int lt), .val (.int t0), .val (.int t1), .val (.int ((1 : Int32) + (((p4.toUInt32 >>> ((4 : Int32) &&& 31).toUInt32).toInt32) &&& (1 : Int32)))), .val (.int ((p2 &&& (255 : Int32)).toUInt32.toUInt16.toUInt32.toInt32)), .unset, .unset, .unset, .unset, .unset, .unset, .unset, .unset, .unset] [])) (fun t k => XS.istore X0.here hx rfl (hb hby at_96) rfl (l' := #[.val (.int p0), .val (.int p1), .val (.int p2), .val (.int p3), .val (.int p4), .val (.int lf), .val (.int f0), .val (.int f1), .val (.int lt), .val (.int t0), .val (.int t1), .val (.int ((1 : Int32) + (((p4.toUInt32 >>> ((4 : Int32) &&& 31).toUInt32).toInt32) &&& (1 : Int32)))), .val (.int ((p2 &&& (255 : Int32)).toUInt32.toUInt16.toUInt32.toInt32)), .unset, .unset, .unset, .unset, .unset, .unset, .unset, .unset, .unset]) rfl k) ?_
      refine step (s₁.setTop (mkF m 99 #[.val (.int p0), .val (.int p1), .val (.int p2), .val (.int p3), .val (.int p4), .val (.int lf), .val (.int f0), .val (.int f1), .val (.int lt), .val (.int t0), .val (.int t1), .val (.int ((1 : Int32) + (((p4.toUInt32 >>> ((4 : Int32) &&& 31).toUInt32).toInt32) &&& (1 : Int32)))), .val (.int ((p2 &&& (255 : Int32)).toUInt32.toUInt16.toUInt32.toInt32)), .unset, .unset, .unset, .unset, .unset, .unset, .unset, .unset, .unset] [(.int p2)])) (fun t k => XS.iloadN X0.here hx rfl (hb hby at_98) rfl k) ?_
      refine step (s₁.setTop (mkF m 101 #[.val (.int p0), .val (.int p1), .val (.int p2), .val (.int p3), .val (.int p4), .val (.int lf), .val (.int f0), .val (.int f1), .val (.int lt), .val (.int t0), .val (.int t1), .val (.int ((1 : Int32) + (((p4.toUInt32 >>> ((4 : Int32) &&& 31).toUInt32).toInt32) &&& (1 : Int32)))), .val (.int ((p2 &&& (255 : Int32)).toUInt32.toUInt16.toUInt32.toInt32)), .unset, .unset, .unset, .unset, .unset, .unset, .unset, .unset, .unset] [(.int (8 : Int32)), (.int p2)])) (fun t k => XS.bipush X0.here hx rfl (hb hby at_99) k) ?_
      refine step (s₁.setTop (mkF m 102 #[.val (.int p0), .val (.int p1), .val (.int p2), .val (.int p3), .val (.int p4), .val (.int lf), .val (.int f0), .val (.int f1), .val (.int lt), .val (.int t0), .val (.int t1), .val (.int ((1 : Int32) + (((p4.toUInt32 >>> ((4 : Int32) &&& 31).toUInt32).toInt32) &&& (1 : Int32)))), .val (.int ((p2 &&& (255 : Int32)).toUInt32.toUInt16.toUInt32.toInt32)), .unset, .unset, .unset, .unset, .unset, .unset, .unset, .unset, .unset] [(.int ((p2.toUInt32 >>> ((8 : Int32) &&& 31).toUInt32).toInt32))])) (fun t k => XS.iushr X0.here hx rfl (hb hby at_101) rfl k) ?_
      refine step (s₁.setTop (mkF m 105 #[.val (.int p0), .val (.int p1), .val (.int p2), .val (.int p3), .val (.int p4), .val (.int lf), .val (.int f0), .val (.int f1), .val (.int lt), .val (.int t0), .val (.int t1), .val (.int ((1 : Int32) + (((p4.toUInt32 >>> ((4 : Int32) &&& 31).toUInt32).toInt32) &&& (1 : Int32)))), .val (.int ((p2 &&& (255 : Int32)).toUInt32.toUInt16.toUInt32.toInt32)), .unset, .unset, .unset, .unset, .unset, .unset, .unset, .unset, .unset] [(.int (255 : Int32)), (.int ((p2.toUInt32 >>> ((8 : Int32) &&& 31).toUInt32).toInt32))])) (fun t k => XS.sipush X0.here hx rfl (hb hby at_102) k) ?_
      refine step (s₁.setTop (mkF m 106 #[.val (.int p0), .val (.int p1), .val (.int p2), .val (.int p3), .val (.int p4), .val (.int lf), .val (.int f0), .val (.int f1), .val (.int lt), .val (.int t0), .val (.int t1), .val (.int ((1 : Int32) + (((p4.toUInt32 >>> ((4 : Int32) &&& 31).toUInt32).toInt32) &&& (1 : Int32)))), .val (.int ((p2 &&& (255 : Int32)).toUInt32.toUInt16.toUInt32.toInt32)), .unset, .unset, .unset, .unset, .unset, .unset, .unset, .unset, .unset] [(.int (((p2.toUInt32 >>> ((8 : Int32) &&& 31).toUInt32).toInt32) &&& (255 : Int32)))])) (fun t k => XS.iand X0.here hx rfl (hb hby at_105) rfl k) ?_
      refine step (s₁.setTop (mkF m 107 #[.val (.int p0), .val (.int p1), .val (.int p2), .val (.int p3), .val (.int p4), .val (.int lf), .val (.int f0), .val (.int f1), .val (.int lt), .val (.int t0), .val (.int t1), .val (.int ((1 : Int32) + (((p4.toUInt32 >>> ((4 : Int32) &&& 31).toUInt32).toInt32) &&& (1 : Int32)))), .val (.int ((p2 &&& (255 : Int32)).toUInt32.toUInt16.toUInt32.toInt32)), .unset, .unset, .unset, .unset, .unset, .unset, .unset, .unset, .unset] [(.int ((((p2.toUInt32 >>> ((8 : Int32) &&& 31).toUInt32).toInt32) &&& (255 : Int32)).toUInt32.toUInt16.toUInt32.toInt32))])) (fun t k => XS.i2c X0.here hx rfl (hb hby at_106) rfl k) ?_
      refine step (s₁.setTop (mkF m 109 #[.val (.int p0), .val (.int p1), .val (.int p2), .val (.int p3), .val (.int p4), .val (.int lf), .val (.int f0), .val (.int f1), .val (.int lt), .val (.int t0), .val (.int t1), .val (.int ((1 : Int32) + (((p4.toUInt32 >>> ((4 : Int32) &&& 31).toUInt32).toInt32) &&& (1 : Int32)))), .val (.int ((p2 &&& (255 : Int32)).toUInt32.toUInt16.toUInt32.toInt32)), .val (.int ((((p2.toUInt32 >>> ((8 : Int32) &&& 31).toUInt32).toInt32) &&& (255 : Int32)).toUInt32.toUInt16.toUInt32.toInt32)), .unset, .unset, .unset, .unset, .unset, .unset, .unset, .unset] [])) (fun t k => XS.istore X0.here hx rfl (hb hby at_107) rfl (l' := #[.val (.int p0), .val (.int p1), .val (.int p2), .val (.int p3), .val (.int p4), .val (.int lf), .val (.int f0), .val (.int f1), .val (.int lt), .val (.int t0), .val (.int t1), .val (.int ((1 : Int32) + (((p4.toUInt32 >>> ((4 : Int32) &&& 31).toUInt32).toInt32) &&& (1 : Int32)))), .val (.int ((p2 &&& (255 : Int32)).toUInt32.toUInt16.toUInt32.toInt32)), .val (.int ((((p2.toUInt32 >>> ((8 : Int32) &&& 31).toUInt32).toInt32) &&& (255 : Int32)).toUInt32.toUInt16.toUInt32.toInt32)), .unset, .unset, .unset, .unset, .unset, .unset, .unset, .unset]) rfl k) ?_
      exact J109_4 _ _ _ (by simp only [if_pos hc62_5, if_true, if_false] <;> rfl) (by simp only [if_pos hc62_5, if_true, if_false] <;> rfl) (by simp only [if_pos hc62_5, if_true, if_false] <;> rfl)
    · -- 62 False
      refine step (s₁.setTop (mkF m 65 #[.val (.int p0), .val (.int p1), .val (.int p2), .val (.int p3), .val (.int p4), .val (.int lf), .val (.int f0), .val (.int f1), .val (.int lt), .val (.int t0), .val (.int t1), .unset, .unset, .unset, .unset, .unset, .unset, .unset, .unset, .unset, .unset, .unset] [])) (fun t k => XS.ifNo X0.here hx rfl (hb hby at_62) rfl ((if0 _ _).trans (feq hc62_5).1) k) ?_
      refine step (s₁.setTop (mkF m 67 #[.val (.int p0), .val (.int p1), .val (.int p2), .val (.int p3), .val (.int p4), .val (.int lf), .val (.int f0), .val (.int f1), .val (.int lt), .val (.int t0), .val (.int t1), .unset, .unset, .unset, .unset, .unset, .unset, .unset, .unset, .unset, .unset, .unset] [(.int lf)])) (fun t k => XS.iload X0.here hx rfl (hb hby at_65) rfl k) ?_
      refine step (s₁.setTop (mkF m 69 #[.val (.int p0), .val (.int p1), .val (.int p2), .val (.int p3), .val (.int p4), .val (.int lf), .val (.int f0), .val (.int f1), .val (.int lt), .val (.int t0), .val (.int t1), .val (.int lf), .unset, .unset, .unset, .unset, .unset, .unset, .unset, .unset, .unset, .unset] [])) (fun t k => XS.istore X0.here hx rfl (hb hby at_67) rfl (l' := #[.val (.int p0), .val (.int p1), .val (.int p2), .val (.int p3), .val (.int p4), .val (.int lf), .val (.int f0), .val (.int f1), .val (.int lt), .val (.int t0), .val (.int t1), .val (.int lf), .unset, .unset, .unset, .unset, .unset, .unset, .unset, .unset, .unset, .unset]) rfl k) ?_
      refine step (s₁.setTop (mkF m 71 #[.val (.int p0), .val (.int p1), .val (.int p2), .val (.int p3), .val (.int p4), .val (.int lf), .val (.int f0), .val (.int f1), .val (.int lt), .val (.int t0), .val (.int t1), .val (.int lf), .unset, .unset, .unset, .unset, .unset, .unset, .unset, .unset, .unset, .unset] [(.int f0)])) (fun t k => XS.iload X0.here hx rfl (hb hby at_69) rfl k) ?_
      refine step (s₁.setTop (mkF m 73 #[.val (.int p0), .val (.int p1), .val (.int p2), .val (.int p3), .val (.int p4), .val (.int lf), .val (.int f0), .val (.int f1), .val (.int lt), .val (.int t0), .val (.int t1), .val (.int lf), .val (.int f0), .unset, .unset, .unset, .unset, .unset, .unset, .unset, .unset, .unset] [])) (fun t k => XS.istore X0.here hx rfl (hb hby at_71) rfl (l' := #[.val (.int p0), .val (.int p1), .val (.int p2), .val (.int p3), .val (.int p4), .val (.int lf), .val (.int f0), .val (.int f1), .val (.int lt), .val (.int t0), .val (.int t1), .val (.int lf), .val (.int f0), .unset, .unset, .unset, .unset, .unset, .unset, .unset, .unset, .unset]) rfl k) ?_
      refine step (s₁.setTop (mkF m 75 #[.val (.int p0), .val (.int p1), .val (.int p2), .val (.int p3), .val (.int p4), .val (.int lf), .val (.int f0), .val (.int f1), .val (.int lt), .val (.int t0), .val (.int t1), .val (.int lf), .val (.int f0), .unset, .unset, .unset, .unset, .unset, .unset, .unset, .unset, .unset] [(.int f1)])) (fun t k => XS.iload X0.here hx rfl (hb hby at_73) rfl k) ?_
      refine step (s₁.setTop (mkF m 77 #[.val (.int p0), .val (.int p1), .val (.int p2), .val (.int p3), .val (.int p4), .val (.int lf), .val (.int f0), .val (.int f1), .val (.int lt), .val (.int t0), .val (.int t1), .val (.int lf), .val (.int f0), .val (.int f1), .unset, .unset, .unset, .unset, .unset, .unset, .unset, .unset] [])) (fun t k => XS.istore X0.here hx rfl (hb hby at_75) rfl (l' := #[.val (.int p0), .val (.int p1), .val (.int p2), .val (.int p3), .val (.int p4), .val (.int lf), .val (.int f0), .val (.int f1), .val (.int lt), .val (.int t0), .val (.int t1), .val (.int lf), .val (.int f0), .val (.int f1), .unset, .unset, .unset, .unset, .unset, .unset, .unset, .unset]) rfl k) ?_
      refine step (s₁.setTop (mkF m 109 #[.val (.int p0), .val (.int p1), .val (.int p2), .val (.int p3), .val (.int p4), .val (.int lf), .val (.int f0), .val (.int f1), .val (.int lt), .val (.int t0), .val (.int t1), .val (.int lf), .val (.int f0), .val (.int f1), .unset, .unset, .unset, .unset, .unset, .unset, .unset, .unset] [])) (fun t k => XS.goto X0.here hx rfl (pc0 := 77) (pc' := 109) rfl (hb hby at_77) (by decide) (by decide) k) ?_
      exact J109_4 _ _ _ (by simp only [if_neg hc62_5, if_true, if_false] <;> rfl) (by simp only [if_neg hc62_5, if_true, if_false] <;> rfl) (by simp only [if_neg hc62_5, if_true, if_false] <;> rfl)
  intro z109_1 z109_2 z109_3 hz109_1 hz109_2 hz109_3
  have le_z109_2 : ¬ ((255 : Int32) < (nar .char z109_2)) := by rw [hz109_2]; split <;> assumption
  have le_z109_3 : ¬ ((255 : Int32) < (nar .char z109_3)) := by rw [hz109_3]; split <;> assumption
  refine step (s₁.setTop (mkF m 111 #[.val (.int p0), .val (.int p1), .val (.int p2), .val (.int p3), .val (.int p4), .val (.int lf), .val (.int f0), .val (.int f1), .val (.int lt), .val (.int t0), .val (.int t1), .val (.int z109_1), .val (.int z109_2), .val (.int z109_3), .unset, .unset, .unset, .unset, .unset, .unset, .unset, .unset] [(.int p4)])) (fun t k => XS.iload X0.here hx rfl (hb hby at_109) rfl k) ?_
  refine step (s₁.setTop (mkF m 112 #[.val (.int p0), .val (.int p1), .val (.int p2), .val (.int p3), .val (.int p4), .val (.int lf), .val (.int f0), .val (.int f1), .val (.int lt), .val (.int t0), .val (.int t1), .val (.int z109_1), .val (.int z109_2), .val (.int z109_3), .unset, .unset, .unset, .unset, .unset, .unset, .unset, .unset] [(.int (3 : Int32)), (.int p4)])) (fun t k => XS.iconst X0.here hx rfl (hb hby at_111) k) ?_
  refine step (s₁.setTop (mkF m 113 #[.val (.int p0), .val (.int p1), .val (.int p2), .val (.int p3), .val (.int p4), .val (.int lf), .val (.int f0), .val (.int f1), .val (.int lt), .val (.int t0), .val (.int t1), .val (.int z109_1), .val (.int z109_2), .val (.int z109_3), .unset, .unset, .unset, .unset, .unset, .unset, .unset, .unset] [(.int ((p4.toUInt32 >>> ((3 : Int32) &&& 31).toUInt32).toInt32))])) (fun t k => XS.iushr X0.here hx rfl (hb hby at_112) rfl k) ?_
  refine step (s₁.setTop (mkF m 114 #[.val (.int p0), .val (.int p1), .val (.int p2), .val (.int p3), .val (.int p4), .val (.int lf), .val (.int f0), .val (.int f1), .val (.int lt), .val (.int t0), .val (.int t1), .val (.int z109_1), .val (.int z109_2), .val (.int z109_3), .unset, .unset, .unset, .unset, .unset, .unset, .unset, .unset] [(.int (1 : Int32)), (.int ((p4.toUInt32 >>> ((3 : Int32) &&& 31).toUInt32).toInt32))])) (fun t k => XS.iconst X0.here hx rfl (hb hby at_113) k) ?_
  refine step (s₁.setTop (mkF m 115 #[.val (.int p0), .val (.int p1), .val (.int p2), .val (.int p3), .val (.int p4), .val (.int lf), .val (.int f0), .val (.int f1), .val (.int lt), .val (.int t0), .val (.int t1), .val (.int z109_1), .val (.int z109_2), .val (.int z109_3), .unset, .unset, .unset, .unset, .unset, .unset, .unset, .unset] [(.int (((p4.toUInt32 >>> ((3 : Int32) &&& 31).toUInt32).toInt32) &&& (1 : Int32)))])) (fun t k => XS.iand X0.here hx rfl (hb hby at_114) rfl k) ?_
  suffices J162_9 : ∀ (z162_6 : Int32) (z162_7 : Int32) (z162_8 : Int32), z162_6 = (if (((p4.toUInt32 >>> ((3 : Int32) &&& 31).toUInt32).toInt32) &&& (1 : Int32)) = (0 : Int32) then ((1 : Int32) + (((p4.toUInt32 >>> ((5 : Int32) &&& 31).toUInt32).toInt32) &&& (1 : Int32))) else lt) → z162_7 = (if (((p4.toUInt32 >>> ((3 : Int32) &&& 31).toUInt32).toInt32) &&& (1 : Int32)) = (0 : Int32) then ((p3 &&& (255 : Int32)).toUInt32.toUInt16.toUInt32.toInt32) else t0) → z162_8 = (if (((p4.toUInt32 >>> ((3 : Int32) &&& 31).toUInt32).toInt32) &&& (1 : Int32)) = (0 : Int32) then ((((p3.toUInt32 >>> ((8 : Int32) &&& 31).toUInt32).toInt32) &&& (255 : Int32)).toUInt32.toUInt16.toUInt32.toInt32) else t1) → G (s₁.setTop (mkF m 162 #[.val (.int p0), .val (.int p1), .val (.int p2), .val (.int p3), .val (.int p4), .val (.int lf), .val (.int f0), .val (.int f1), .val (.int lt), .val (.int t0), .val (.int t1), .val (.int z109_1), .val (.int z109_2), .val (.int z109_3), .val (.int z162_6), .val (.int z162_7), .val (.int z162_8), .unset, .unset, .unset, .unset, .unset] [])) by
    by_cases hc115_10 : (((p4.toUInt32 >>> ((3 : Int32) &&& 31).toUInt32).toInt32) &&& (1 : Int32)) = (0 : Int32)
    · -- 115 True
      refine step (s₁.setTop (mkF m 133 #[.val (.int p0), .val (.int p1), .val (.int p2), .val (.int p3), .val (.int p4), .val (.int lf), .val (.int f0), .val (.int f1), .val (.int lt), .val (.int t0), .val (.int t1), .val (.int z109_1), .val (.int z109_2), .val (.int z109_3), .unset, .unset, .unset, .unset, .unset, .unset, .unset, .unset] [])) (fun t k => XS.ifYes X0.here hx rfl (pc0 := 115) (pc' := 133) rfl (hb hby at_115) rfl ((if0 _ _).trans (teq hc115_10).1) (by decide) (by decide) k) ?_
      refine step (s₁.setTop (mkF m 134 #[.val (.int p0), .val (.int p1), .val (.int p2), .val (.int p3), .val (.int p4), .val (.int lf), .val (.int f0), .val (.int f1), .val (.int lt), .val (.int t0), .val (.int t1), .val (.int z109_1), .val (.int z109_2), .val (.int z109_3), .unset, .unset, .unset, .unset, .unset, .unset, .unset, .unset] [(.int (1 : Int32))])) (fun t k => XS.iconst X0.here hx rfl (hb hby at_133) k) ?_
      refine step (s₁.setTop (mkF m 136 #[.val (.int p0), .val (.int p1), .val (.int p2), .val (.int p3), .val (.int p4), .val (.int lf), .val (.int f0), .val (.int f1), .val (.int lt), .val (.int t0), .val (.int t1), .val (.int z109_1), .val (.int z109_2), .val (.int z109_3), .unset, .unset, .unset, .unset, .unset, .unset, .unset, .unset] [(.int p4), (.int (1 : Int32))])) (fun t k => XS.iload X0.here hx rfl (hb hby at_134) rfl k) ?_
      refine step (s₁.setTop (mkF m 137 #[.val (.int p0), .val (.int p1), .val (.int p2), .val (.int p3), .val (.int p4), .val (.int lf), .val (.int f0), .val (.int f1), .val (.int lt), .val (.int t0), .val (.int t1), .val (.int z109_1), .val (.int z109_2), .val (.int z109_3), .unset, .unset, .unset, .unset, .unset, .unset, .unset, .unset] [(.int (5 : Int32)), (.int p4), (.int (1 : Int32))])) (fun t k => XS.iconst X0.here hx rfl (hb hby at_136) k) ?_
      refine step (s₁.setTop (mkF m 138 #[.val (.int p0), .val (.int p1), .val (.int p2), .val (.int p3), .val (.int p4), .val (.int lf), .val (.int f0), .val (.int f1), .val (.int lt), .val (.int t0), .val (.int t1), .val (.int z109_1), .val (.int z109_2), .val (.int z109_3), .unset, .unset, .unset, .unset, .unset, .unset, .unset, .unset] [(.int ((p4.toUInt32 >>> ((5 : Int32) &&& 31).toUInt32).toInt32)), (.int (1 : Int32))])) (fun t k => XS.iushr X0.here hx rfl (hb hby at_137) rfl k) ?_
      refine step (s₁.setTop (mkF m 139 #[.val (.int p0), .val (.int p1), .val (.int p2), .val (.int p3), .val (.int p4), .val (.int lf), .val (.int f0), .val (.int f1), .val (.int lt), .val (.int t0), .val (.int t1), .val (.int z109_1), .val (.int z109_2), .val (.int z109_3), .unset, .unset, .unset, .unset, .unset, .unset, .unset, .unset] [(.int (1 : Int32)), (.int ((p4.toUInt32 >>> ((5 : Int32) &&& 31).toUInt32).toInt32)), (.int (1 : Int32))])) (fun t k => XS.iconst X0.here hx rfl (hb hby at_138) k) ?_
      refine step (s₁.setTop (mkF m 140 #[.val (.int p0), .val (.int p1), .val (.int p2), .val (.int p3), .val (.int p4), .val (.int lf), .val (.int f0), .val (.int f1), .val (.int lt), .val (.int t0), .val (.int t1), .val (.int z109_1), .val (.int z109_2), .val (.int z109_3), .unset, .unset, .unset, .unset, .unset, .unset, .unset, .unset] [(.int (((p4.toUInt32 >>> ((5 : Int32) &&& 31).toUInt32).toInt32) &&& (1 : Int32))), (.int (1 : Int32))])) (fun t k => XS.iand X0.here hx rfl (hb hby at_139) rfl k) ?_
      refine step (s₁.setTop (mkF m 141 #[.val (.int p0), .val (.int p1), .val (.int p2), .val (.int p3), .val (.int p4), .val (.int lf), .val (.int f0), .val (.int f1), .val (.int lt), .val (.int t0), .val (.int t1), .val (.int z109_1), .val (.int z109_2), .val (.int z109_3), .unset, .unset, .unset, .unset, .unset, .unset, .unset, .unset] [(.int ((1 : Int32) + (((p4.toUInt32 >>> ((5 : Int32) &&& 31).toUInt32).toInt32) &&& (1 : Int32))))])) (fun t k => XS.iadd X0.here hx rfl (hb hby at_140) rfl k) ?_
      refine step (s₁.setTop (mkF m 143 #[.val (.int p0), .val (.int p1), .val (.int p2), .val (.int p3), .val (.int p4), .val (.int lf), .val (.int f0), .val (.int f1), .val (.int lt), .val (.int t0), .val (.int t1), .val (.int z109_1), .val (.int z109_2), .val (.int z109_3), .val (.int ((1 : Int32) + (((p4.toUInt32 >>> ((5 : Int32) &&& 31).toUInt32).toInt32) &&& (1 : Int32)))), .unset, .unset, .unset, .unset, .unset, .unset, .unset] [])) (fun t k => XS.istore X0.here hx rfl (hb hby at_141) rfl (l' := #[.val (.int p0), .val (.int p1), .val (.int p2), .val (.int p3), .val (.int p4), .val (.int lf), .val (.int f0), .val (.int f1), .val (.int lt), .val (.int t0), .val (.int t1), .val (.int z109_1), .val (.int z109_2), .val (.int z109_3), .val (.int ((1 : Int32) + (((p4.toUInt32 >>> ((5 : Int32) &&& 31).toUInt32).toInt32) &&& (1 : Int32)))), .unset, .unset, .unset, .unset, .unset, .unset, .unset]) rfl k) ?_
      refine step (s₁.setTop (mkF m 144 #[.val (.int p0), .val (.int p1), .val (.int p2), .val (.int p3), .val (.int p4), .val (.int lf), .val (.int f0), .val (.int f1), .val (.int lt), .val (.int t0), .val (.int t1), .val (.int z109_1), .val (.int z109_2), .val (.int z109_3), .val (.int ((1 : Int32) + (((p4.toUInt32 >>> ((5 : Int32) &&& 31).toUInt32).toInt32) &&& (1 : Int32)))), .unset, .unset, .unset, .unset, .unset, .unset, .unset] [(.int p3)])) (fun t k => XS.iloadN X0.here hx rfl (hb hby at_143) rfl k) ?_
      refine step (s₁.setTop (mkF m 147 #[.val (.int p0), .val (.int p1), .val (.int p2), .val (.int p3), .val (.int p4), .val (.int lf), .val (.int f0), .val (.int f1), .val (.int lt), .val (.int t0), .val (.int t1), .val (.int z109_1), .val (.int z109_2), .val (.int z109_3), .val (.int ((1 : Int32) + (((p4.toUInt32 >>> ((5 : Int32) &&& 31).toUInt32).toInt32) &&& (1 : Int32)))), .unset, .unset, .unset, .unset, .unset, .unset, .unset] [(.int (255 : Int32)), (.int p3)])) (fun t k => XS.sipush X0.here hx rfl (hb hby at_144) k) ?_
      refine step (s₁.setTop (mkF m 148 #[.val (.int p0), .val (.int p1), .val (.int p2), .val (.int p3), .val (.int p4), .val (.int lf), .val (.int f0), .val (.int f1), .val (.int lt), .val (.int t0), .val (.int t1), .val (.int z109_1), .val (.int z109_2), .val (.int z109_3), .val (.int ((1 : Int32) + (((p4.toUInt32 >>> ((5 : Int32) &&& 31).toUInt32).toInt32) &&& (1 : Int32)))), .unset, .unset, .unset, .unset, .unset, .unset, .unset] [(.int (p3 &&& (255 : Int32)))])) (fun t k => XS.iand X0.here hx rfl (hb hby at_147) rfl k) ?_
      refine step (s₁.setTop (mkF m 149 #[.val (.int p0), .val (.int p1), .val (.int p2), .val (.int p3), .val (.int p4), .val (.int lf), .val (.int f0), .val (.int f1), .val (.int lt), .val (.int t0), .val (.int t1), .val (.int z109_1), .val (.int z109_2), .val (.int z109_3), .val (.int ((1 : Int32) + (((p4.toUInt32 >>> ((5 : Int32) &&& 31).toUInt32).toInt32) &&& (1 : Int32)))), .unset, .unset, .unset, .unset, .unset, .unset, .unset] [(.int ((p3 &&& (255 : Int32)).toUInt32.toUInt16.toUInt32.toInt32))])) (fun t k => XS.i2c X0.here hx rfl (hb hby at_148) rfl k) ?_
      refine step (s₁.setTop (mkF m 151 #[.val (.int p0), .val (.int p1), .val (.int p2), .val (.int p3), .val (.int p4), .val (.int lf), .val (.int f0), .val (.int f1), .val (.int lt), .val (.int t0), .val (.int t1), .val (.int z109_1), .val (.int z109_2), .val (.int z109_3), .val (.int ((1 : Int32) + (((p4.toUInt32 >>> ((5 : Int32) &&& 31).toUInt32).toInt32) &&& (1 : Int32)))), .val (.int ((p3 &&& (255 : Int32)).toUInt32.toUInt16.toUInt32.toInt32)), .unset, .unset, .unset, .unset, .unset, .unset] [])) (fun t k => XS.istore X0.here hx rfl (hb hby at_149) rfl (l' := #[.val (.int p0), .val (.int p1), .val (.int p2), .val (.int p3), .val (.int p4), .val (.int lf), .val (.int f0), .val (.int f1), .val (.int lt), .val (.int t0), .val (.int t1), .val (.int z109_1), .val (.int z109_2), .val (.int z109_3), .val (.int ((1 : Int32) + (((p4.toUInt32 >>> ((5 : Int32) &&& 31).toUInt32).toInt32) &&& (1 : Int32)))), .val (.int ((p3 &&& (255 : Int32)).toUInt32.toUInt16.toUInt32.toInt32)), .unset, .unset, .unset, .unset, .unset, .unset]) rfl k) ?_
      refine step (s₁.setTop (mkF m 152 #[.val (.int p0), .val (.int p1), .val (.int p2), .val (.int p3), .val (.int p4), .val (.int lf), .val (.int f0), .val (.int f1), .val (.int lt), .val (.int t0), .val (.int t1), .val (.int z109_1), .val (.int z109_2), .val (.int z109_3), .val (.int ((1 : Int32) + (((p4.toUInt32 >>> ((5 : Int32) &&& 31).toUInt32).toInt32) &&& (1 : Int32)))), .val (.int ((p3 &&& (255 : Int32)).toUInt32.toUInt16.toUInt32.toInt32)), .unset, .unset, .unset, .unset, .unset, .unset] [(.int p3)])) (fun t k => XS.iloadN X0.here hx rfl (hb hby at_151) rfl k) ?_
      refine step (s₁.setTop (mkF m 154 #[.val (.int p0), .val (.int p1), .val (.int p2), .val (.int p3), .val (.int p4), .val (.int lf), .val (.int f0), .val (.int f1), .val (.int lt), .val (.int t0), .val (.int t1), .val (.int z109_1), .val (.int z109_2), .val (.int z109_3), .val (.int ((1 : Int32) + (((p4.toUInt32 >>> ((5 : Int32) &&& 31).toUInt32).toInt32) &&& (1 : Int32)))), .val (.int ((p3 &&& (255 : Int32)).toUInt32.toUInt16.toUInt32.toInt32)), .unset, .unset, .unset, .unset, .unset, .unset] [(.int (8 : Int32)), (.int p3)])) (fun t k => XS.bipush X0.here hx rfl (hb hby at_152) k) ?_
      refine step (s₁.setTop (mkF m 155 #[.val (.int p0), .val (.int p1), .val (.int p2), .val (.int p3), .val (.int p4), .val (.int lf), .val (.int f0), .val (.int f1), .val (.int lt), .val (.int t0), .val (.int t1), .val (.int z109_1), .val (.int z109_2), .val (.int z109_3), .val (.int ((1 : Int32) + (((p4.toUInt32 >>> ((5 : Int32) &&& 31).toUInt32).toInt32) &&& (1 : Int32)))), .val (.int ((p3 &&& (255 : Int32)).toUInt32.toUInt16.toUInt32.toInt32)), .unset, .unset, .unset, .unset, .unset, .unset] [(.int ((p3.toUInt32 >>> ((8 : Int32) &&& 31).toUInt32).toInt32))])) (fun t k => XS.iushr X0.here hx rfl (hb hby at_154) rfl k) ?_
      refine step (s₁.setTop (mkF m 158 #[.val (.int p0), .val (.int p1), .val (.int p2), .val (.int p3), .val (.int p4), .val (.int lf), .val (.int f0), .val (.int f1), .val (.int lt), .val (.int t0), .val (.int t1), .val (.int z109_1), .val (.int z109_2), .val (.int z109_3), .val (.int ((1 : Int32) + (((p4.toUInt32 >>> ((5 : Int32) &&& 31).toUInt32).toInt32) &&& (1 : Int32)))), .val (.int ((p3 &&& (255 : Int32)).toUInt32.toUInt16.toUInt32.toInt32)), .unset, .unset, .unset, .unset, .unset, .unset] [(.int (255 : Int32)), (.int ((p3.toUInt32 >>> ((8 : Int32) &&& 31).toUInt32).toInt32))])) (fun t k => XS.sipush X0.here hx rfl (hb hby at_155) k) ?_
      refine step (s₁.setTop (mkF m 159 #[.val (.int p0), .val (.int p1), .val (.int p2), .val (.int p3), .val (.int p4), .val (.int lf), .val (.int f0), .val (.int f1), .val (.int lt), .val (.int t0), .val (.int t1), .val (.int z109_1), .val (.int z109_2), .val (.int z109_3), .val (.int ((1 : Int32) + (((p4.toUInt32 >>> ((5 : Int32) &&& 31).toUInt32).toInt32) &&& (1 : Int32)))), .val (.int ((p3 &&& (255 : Int32)).toUInt32.toUInt16.toUInt32.toInt32)), .unset, .unset, .unset, .unset, .unset, .unset] [(.int (((p3.toUInt32 >>> ((8 : Int32) &&& 31).toUInt32).toInt32) &&& (255 : Int32)))])) (fun t k => XS.iand X0.here hx rfl (hb hby at_158) rfl k) ?_
      refine step (s₁.setTop (mkF m 160 #[.val (.int p0), .val (.int p1), .val (.int p2), .val (.int p3), .val (.int p4), .val (.int lf), .val (.int f0), .val (.int f1), .val (.int lt), .val (.int t0), .val (.int t1), .val (.int z109_1), .val (.int z109_2), .val (.int z109_3), .val (.int ((1 : Int32) + (((p4.toUInt32 >>> ((5 : Int32) &&& 31).toUInt32).toInt32) &&& (1 : Int32)))), .val (.int ((p3 &&& (255 : Int32)).toUInt32.toUInt16.toUInt32.toInt32)), .unset, .unset, .unset, .unset, .unset, .unset] [(.int ((((p3.toUInt32 >>> ((8 : Int32) &&& 31).toUInt32).toInt32) &&& (255 : Int32)).toUInt32.toUInt16.toUInt32.toInt32))])) (fun t k => XS.i2c X0.here hx rfl (hb hby at_159) rfl k) ?_
      refine step (s₁.setTop (mkF m 162 #[.val (.int p0), .val (.int p1), .val (.int p2), .val (.int p3), .val (.int p4), .val (.int lf), .val (.int f0), .val (.int f1), .val (.int lt), .val (.int t0), .val (.int t1), .val (.int z109_1), .val (.int z109_2), .val (.int z109_3), .val (.int ((1 : Int32) + (((p4.toUInt32 >>> ((5 : Int32) &&& 31).toUInt32).toInt32) &&& (1 : Int32)))), .val (.int ((p3 &&& (255 : Int32)).toUInt32.toUInt16.toUInt32.toInt32)), .val (.int ((((p3.toUInt32 >>> ((8 : Int32) &&& 31).toUInt32).toInt32) &&& (255 : Int32)).toUInt32.toUInt16.toUInt32.toInt32)), .unset, .unset, .unset, .unset, .unset] [])) (fun t k => XS.istore X0.here hx rfl (hb hby at_160) rfl (l' := #[.val (.int p0), .val (.int p1), .val (.int p2), .val (.int p3), .val (.int p4), .val (.int lf), .val (.int f0), .val (.int f1), .val (.int lt), .val (.int t0), .val (.int t1), .val (.int z109_1), .val (.int z109_2), .val (.int z109_3), .val (.int ((1 : Int32) + (((p4.toUInt32 >>> ((5 : Int32) &&& 31).toUInt32).toInt32) &&& (1 : Int32)))), .val (.int ((p3 &&& (255 : Int32)).toUInt32.toUInt16.toUInt32.toInt32)), .val (.int ((((p3.toUInt32 >>> ((8 : Int32) &&& 31).toUInt32).toInt32) &&& (255 : Int32)).toUInt32.toUInt16.toUInt32.toInt32)), .unset, .unset, .unset, .unset, .unset]) rfl k) ?_
      exact J162_9 _ _ _ (by simp only [if_pos hc115_10, if_true, if_false] <;> rfl) (by simp only [if_pos hc115_10, if_true, if_false] <;> rfl) (by simp only [if_pos hc115_10, if_true, if_false] <;> rfl)
    · -- 115 False
      refine step (s₁.setTop (mkF m 118 #[.val (.int p0), .val (.int p1), .val (.int p2), .val (.int p3), .val (.int p4), .val (.int lf), .val (.int f0), .val (.int f1), .val (.int lt), .val (.int t0), .val (.int t1), .val (.int z109_1), .val (.int z109_2), .val (.int z109_3), .unset, .unset, .unset, .unset, .unset, .unset, .unset, .unset] [])) (fun t k => XS.ifNo X0.here hx rfl (hb hby at_115) rfl ((if0 _ _).trans (feq hc115_10).1) k) ?_
      refine step (s₁.setTop (mkF m 120 #[.val (.int p0), .val (.int p1), .val (.int p2), .val (.int p3), .val (.int p4), .val (.int lf), .val (.int f0), .val (.int f1), .val (.int lt), .val (.int t0), .val (.int t1), .val (.int z109_1), .val (.int z109_2), .val (.int z109_3), .unset, .unset, .unset, .unset, .unset, .unset, .unset, .unset] [(.int lt)])) (fun t k => XS.iload X0.here hx rfl (hb hby at_118) rfl k) ?_
      refine step (s₁.setTop (mkF m 122 #[.val (.int p0), .val (.int p1), .val (.int p2), .val (.int p3), .val (.int p4), .val (.int lf), .val (.int f0), .val (.int f1), .val (.int lt), .val (.int t0), .val (.int t1), .val (.int z109_1), .val (.int z109_2), .val (.int z109_3), .val (.int lt), .unset, .unset, .unset, .unset, .unset, .unset, .unset] [])) (fun t k => XS.istore X0.here hx rfl (hb hby at_120) rfl (l' := #[.val (.int p0), .val (.int p1), .val (.int p2), .val (.int p3), .val (.int p4), .val (.int lf), .val (.int f0), .val (.int f1), .val (.int lt), .val (.int t0), .val (.int t1), .val (.int z109_1), .val (.int z109_2), .val (.int z109_3), .val (.int lt), .unset, .unset, .unset, .unset, .unset, .unset, .unset]) rfl k) ?_
      refine step (s₁.setTop (mkF m 124 #[.val (.int p0), .val (.int p1), .val (.int p2), .val (.int p3), .val (.int p4), .val (.int lf), .val (.int f0), .val (.int f1), .val (.int lt), .val (.int t0), .val (.int t1), .val (.int z109_1), .val (.int z109_2), .val (.int z109_3), .val (.int lt), .unset, .unset, .unset, .unset, .unset, .unset, .unset] [(.int t0)])) (fun t k => XS.iload X0.here hx rfl (hb hby at_122) rfl k) ?_
      refine step (s₁.setTop (mkF m 126 #[.val (.int p0), .val (.int p1), .val (.int p2), .val (.int p3), .val (.int p4), .val (.int lf), .val (.int f0), .val (.int f1), .val (.int lt), .val (.int t0), .val (.int t1), .val (.int z109_1), .val (.int z109_2), .val (.int z109_3), .val (.int lt), .val (.int t0), .unset, .unset, .unset, .unset, .unset, .unset] [])) (fun t k => XS.istore X0.here hx rfl (hb hby at_124) rfl (l' := #[.val (.int p0), .val (.int p1), .val (.int p2), .val (.int p3), .val (.int p4), .val (.int lf), .val (.int f0), .val (.int f1), .val (.int lt), .val (.int t0), .val (.int t1), .val (.int z109_1), .val (.int z109_2), .val (.int z109_3), .val (.int lt), .val (.int t0), .unset, .unset, .unset, .unset, .unset, .unset]) rfl k) ?_
      refine step (s₁.setTop (mkF m 128 #[.val (.int p0), .val (.int p1), .val (.int p2), .val (.int p3), .val (.int p4), .val (.int lf), .val (.int f0), .val (.int f1), .val (.int lt), .val (.int t0), .val (.int t1), .val (.int z109_1), .val (.int z109_2), .val (.int z109_3), .val (.int lt), .val (.int t0), .unset, .unset, .unset, .unset, .unset, .unset] [(.int t1)])) (fun t k => XS.iload X0.here hx rfl (hb hby at_126) rfl k) ?_
      refine step (s₁.setTop (mkF m 130 #[.val (.int p0), .val (.int p1), .val (.int p2), .val (.int p3), .val (.int p4), .val (.int lf), .val (.int f0), .val (.int f1), .val (.int lt), .val (.int t0), .val (.int t1), .val (.int z109_1), .val (.int z109_2), .val (.int z109_3), .val (.int lt), .val (.int t0), .val (.int t1), .unset, .unset, .unset, .unset, .unset] [])) (fun t k => XS.istore X0.here hx rfl (hb hby at_128) rfl (l' := #[.val (.int p0), .val (.int p1), .val (.int p2), .val (.int p3), .val (.int p4), .val (.int lf), .val (.int f0), .val (.int f1), .val (.int lt), .val (.int t0), .val (.int t1), .val (.int z109_1), .val (.int z109_2), .val (.int z109_3), .val (.int lt), .val (.int t0), .val (.int t1), .unset, .unset, .unset, .unset, .unset]) rfl k) ?_
      refine step (s₁.setTop (mkF m 162 #[.val (.int p0), .val (.int p1), .val (.int p2), .val (.int p3), .val (.int p4), .val (.int lf), .val (.int f0), .val (.int f1), .val (.int lt), .val (.int t0), .val (.int t1), .val (.int z109_1), .val (.int z109_2), .val (.int z109_3), .val (.int lt), .val (.int t0), .val (.int t1), .unset, .unset, .unset, .unset, .unset] [])) (fun t k => XS.goto X0.here hx rfl (pc0 := 130) (pc' := 162) rfl (hb hby at_130) (by decide) (by decide) k) ?_
      exact J162_9 _ _ _ (by simp only [if_neg hc115_10, if_true, if_false] <;> rfl) (by simp only [if_neg hc115_10, if_true, if_false] <;> rfl) (by simp only [if_neg hc115_10, if_true, if_false] <;> rfl)
  intro z162_6 z162_7 z162_8 hz162_6 hz162_7 hz162_8
  have le_z162_7 : ¬ ((255 : Int32) < (nar .char z162_7)) := by rw [hz162_7]; split <;> assumption
  have le_z162_8 : ¬ ((255 : Int32) < (nar .char z162_8)) := by rw [hz162_8]; split <;> assumption
  obtain ⟨T11, h11, X11, e11, E11, A11, D11, -, st11⟩ := newO X0 hx hZ hown (hw _ (List.mem_of_getElem? (i := 0) rfl)) (hw _ (List.mem_of_getElem? (i := 1) rfl)) (hw _ (List.mem_of_getElem? (i := 2) rfl)) e0 (g := (mkF m 162 #[.val (.int p0), .val (.int p1), .val (.int p2), .val (.int p3), .val (.int p4), .val (.int lf), .val (.int f0), .val (.int f1), .val (.int lt), .val (.int t0), .val (.int t1), .val (.int z109_1), .val (.int z109_2), .val (.int z109_3), .val (.int z162_6), .val (.int z162_7), .val (.int z162_8), .unset, .unset, .unset, .unset, .unset] [])) rfl (hb hby at_162) (by decide) (by decide)
  obtain ⟨b11, g11⟩ : ∃ z, z = h0.size := ⟨_, rfl⟩
  rw [← g11] at A11 D11 st11
  have gn_b11 : n0 ≤ b11 := Nat.le_trans Z0 (Nat.le_of_eq g11.symm)
  have sz_b11 : h0.size ≤ b11 := Nat.le_of_eq g11.symm
  have K11 : Keep h0 h11 [] := (Keep.refl h0 []).ext E11
  have F_from_b11 : Fld Z h11 b11 "com/example/vertex_to_service/vertextoservice/core/Edge" "from" "Ljava/lang/String;" .null := D11 (Or.inr (hw _ (List.mem_of_getElem? (i := 61) rfl))) (ty := (.object "java/lang/String")) (by decide)
  have F_to_b11 : Fld Z h11 b11 "com/example/vertex_to_service/vertextoservice/core/Edge" "to" "Ljava/lang/String;" .null := D11 (Or.inr (hw _ (List.mem_of_getElem? (i := 63) rfl))) (ty := (.object "java/lang/String")) (by decide)
  refine step (T11.setTop (mkF m 165 #[.val (.int p0), .val (.int p1), .val (.int p2), .val (.int p3), .val (.int p4), .val (.int lf), .val (.int f0), .val (.int f1), .val (.int lt), .val (.int t0), .val (.int t1), .val (.int z109_1), .val (.int z109_2), .val (.int z109_3), .val (.int z162_6), .val (.int z162_7), .val (.int z162_8), .unset, .unset, .unset, .unset, .unset] [(.ref b11)])) (fun t k => st11 t k) ?_
  refine step (T11.setTop (mkF m 166 #[.val (.int p0), .val (.int p1), .val (.int p2), .val (.int p3), .val (.int p4), .val (.int lf), .val (.int f0), .val (.int f1), .val (.int lt), .val (.int t0), .val (.int t1), .val (.int z109_1), .val (.int z109_2), .val (.int z109_3), .val (.int z162_6), .val (.int z162_7), .val (.int z162_8), .unset, .unset, .unset, .unset, .unset] [(.ref b11), (.ref b11)])) (fun t k => XS.dup X11.here hx rfl (hb hby at_165) rfl rfl k) ?_
  refine step (T11.setTop (mkF m 168 #[.val (.int p0), .val (.int p1), .val (.int p2), .val (.int p3), .val (.int p4), .val (.int lf), .val (.int f0), .val (.int f1), .val (.int lt), .val (.int t0), .val (.int t1), .val (.int z109_1), .val (.int z109_2), .val (.int z109_3), .val (.int z162_6), .val (.int z162_7), .val (.int z162_8), .unset, .unset, .unset, .unset, .unset] [(.int lf), (.ref b11), (.ref b11)])) (fun t k => XS.iload X11.here hx rfl (hb hby at_166) rfl k) ?_
  refine step (T11.setTop (mkF m 170 #[.val (.int p0), .val (.int p1), .val (.int p2), .val (.int p3), .val (.int p4), .val (.int lf), .val (.int f0), .val (.int f1), .val (.int lt), .val (.int t0), .val (.int t1), .val (.int z109_1), .val (.int z109_2), .val (.int z109_3), .val (.int z162_6), .val (.int z162_7), .val (.int z162_8), .unset, .unset, .unset, .unset, .unset] [(.int f0), (.int lf), (.ref b11), (.ref b11)])) (fun t k => XS.iload X11.here hx rfl (hb hby at_168) rfl k) ?_
  refine step (T11.setTop (mkF m 172 #[.val (.int p0), .val (.int p1), .val (.int p2), .val (.int p3), .val (.int p4), .val (.int lf), .val (.int f0), .val (.int f1), .val (.int lt), .val (.int t0), .val (.int t1), .val (.int z109_1), .val (.int z109_2), .val (.int z109_3), .val (.int z162_6), .val (.int z162_7), .val (.int z162_8), .unset, .unset, .unset, .unset, .unset] [(.int f1), (.int f0), (.int lf), (.ref b11), (.ref b11)])) (fun t k => XS.iload X11.here hx rfl (hb hby at_170) rfl k) ?_
  have f12 := (S_cs.ext E11)
  obtain ⟨_, _, ⟨T13, L13, k13, n13⟩, -, X13, ⟨Lc13, hQ13, l13, y13, z13⟩, st13⟩ := Jvm.LawKit.callS X11 hx (y := (⟨"com/example/vertex_to_service/vertextoservice/core/EdgeEqualsPinLaw", "str", "(ICC)Ljava/lang/String;"⟩ : MethodName)) hown (mvT hZ (hw _ (List.mem_of_getElem? (i := 3) rfl))) (mvT hZ (hw _ (List.mem_of_getElem? (i := 4) rfl))) (mvT hZ (hw _ (List.mem_of_getElem? (i := 5) rfl))) (mvT hZ (hw _ (List.mem_of_getElem? (i := 6) rfl))) (by decide) (backOf (W := 2) (rm1 l Z a0 hw [] lf f0 f1 cs h11 n0 (Nat.le_trans Z0 K11.1) f12 c_cs le_f0 le_f1) hZ (hw _ (List.mem_of_getElem? (i := 6) rfl)) (hw _ (List.mem_of_getElem? (i := 5) rfl)) (by decide) (by decide)) (g := (mkF m 172 #[.val (.int p0), .val (.int p1), .val (.int p2), .val (.int p3), .val (.int p4), .val (.int lf), .val (.int f0), .val (.int f1), .val (.int lt), .val (.int t0), .val (.int t1), .val (.int z109_1), .val (.int z109_2), .val (.int z109_3), .val (.int z162_6), .val (.int z162_7), .val (.int z162_8), .unset, .unset, .unset, .unset, .unset] [(.int f1), (.int f0), (.int lf), (.ref b11), (.ref b11)])) rfl (by rw [hml]; rfl) (argsL := [(.int lf), (.int f0), (.int f1)]) (rest := [(.ref b11), (.ref b11)]) (lenOf pd_6 rfl) rfl (by show 2 * 0 + _ ≤ _; exact Nat.le_of_eq rfl) (hb hby at_172) (fun _ _ => ⟨rfl, e11, (by decide : 1 + 3 ≤ _), (by decide : 2 + 8 ≤ _)⟩)
  dsimp only [Pt.U, Pt.locs, Pt.cells, Pt.slots] at X13 l13 y13 z13 st13 hQ13
  subst l13 y13 z13
  obtain ⟨h13, e13⟩ : ∃ z, T13.heap = z := ⟨_, rfl⟩
  rw [e13] at hQ13
  obtain ⟨r13, b13, kk13, rfl, N13q, K13q, sz_r13, sz_b13, nbr13, Ex13, Fc13, Fv13, Va13⟩ := hQ13
  have N13 := Fr.app N0 N13q
  have lt13_b11 := A11.lt
  have ne_b11_r13 : b11 ≠ r13 := Nat.ne_of_lt (Nat.lt_of_lt_of_le lt13_b11 sz_r13)
  have gn_r13 : n0 ≤ r13 := Nat.le_trans (Nat.le_trans Z0 K11.1) sz_r13
  replace sz_r13 := Nat.le_trans K11.1 sz_r13
  have ne_b11_b13 : b11 ≠ b13 := Nat.ne_of_lt (Nat.lt_of_lt_of_le lt13_b11 sz_b13)
  have gn_b13 : n0 ≤ b13 := Nat.le_trans (Nat.le_trans Z0 K11.1) sz_b13
  replace sz_b13 := Nat.le_trans K11.1 sz_b13
  have K13 : Keep h0 h13 [] := K11.trans K13q all0
  have f14 := own_staK f12 K13q all0
  have nne13 := own_nne lf
  refine step (T13.setTop (mkF m 175 #[.val (.int p0), .val (.int p1), .val (.int p2), .val (.int p3), .val (.int p4), .val (.int lf), .val (.int f0), .val (.int f1), .val (.int lt), .val (.int t0), .val (.int t1), .val (.int z109_1), .val (.int z109_2), .val (.int z109_3), .val (.int z162_6), .val (.int z162_7), .val (.int z162_8), .unset, .unset, .unset, .unset, .unset] [(.ref r13), (.ref b11), (.ref b11)])) (fun t k => st13 t k) ?_
  refine step (T13.setTop (mkF m 177 #[.val (.int p0), .val (.int p1), .val (.int p2), .val (.int p3), .val (.int p4), .val (.int lf), .val (.int f0), .val (.int f1), .val (.int lt), .val (.int t0), .val (.int t1), .val (.int z109_1), .val (.int z109_2), .val (.int z109_3), .val (.int z162_6), .val (.int z162_7), .val (.int z162_8), .unset, .unset, .unset, .unset, .unset] [(.int lt), (.ref r13), (.ref b11), (.ref b11)])) (fun t k => XS.iload X13.here hx rfl (hb hby at_175) rfl k) ?_
  refine step (T13.setTop (mkF m 179 #[.val (.int p0), .val (.int p1), .val (.int p2), .val (.int p3), .val (.int p4), .val (.int lf), .val (.int f0), .val (.int f1), .val (.int lt), .val (.int t0), .val (.int t1), .val (.int z109_1), .val (.int z109_2), .val (.int z109_3), .val (.int z162_6), .val (.int z162_7), .val (.int z162_8), .unset, .unset, .unset, .unset, .unset] [(.int t0), (.int lt), (.ref r13), (.ref b11), (.ref b11)])) (fun t k => XS.iload X13.here hx rfl (hb hby at_177) rfl k) ?_
  refine step (T13.setTop (mkF m 181 #[.val (.int p0), .val (.int p1), .val (.int p2), .val (.int p3), .val (.int p4), .val (.int lf), .val (.int f0), .val (.int f1), .val (.int lt), .val (.int t0), .val (.int t1), .val (.int z109_1), .val (.int z109_2), .val (.int z109_3), .val (.int z162_6), .val (.int z162_7), .val (.int z162_8), .unset, .unset, .unset, .unset, .unset] [(.int t1), (.int t0), (.int lt), (.ref r13), (.ref b11), (.ref b11)])) (fun t k => XS.iload X13.here hx rfl (hb hby at_179) rfl k) ?_
  obtain ⟨_, _, ⟨T15, L15, k15, n15⟩, -, X15, ⟨Lc15, hQ15, l15, y15, z15⟩, st15⟩ := Jvm.LawKit.callS X13 hx (y := (⟨"com/example/vertex_to_service/vertextoservice/core/EdgeEqualsPinLaw", "str", "(ICC)Ljava/lang/String;"⟩ : MethodName)) hown (mvT hZ (hw _ (List.mem_of_getElem? (i := 3) rfl))) (mvT hZ (hw _ (List.mem_of_getElem? (i := 4) rfl))) (mvT hZ (hw _ (List.mem_of_getElem? (i := 5) rfl))) (mvT hZ (hw _ (List.mem_of_getElem? (i := 6) rfl))) (by decide) (backOf (W := 3) (rm1 l Z a0 hw [] lt t0 t1 cs h13 n0 (Nat.le_trans Z0 K13.1) f14 c_cs le_t0 le_t1) hZ (hw _ (List.mem_of_getElem? (i := 6) rfl)) (hw _ (List.mem_of_getElem? (i := 5) rfl)) (by decide) (by decide)) (g := (mkF m 181 #[.val (.int p0), .val (.int p1), .val (.int p2), .val (.int p3), .val (.int p4), .val (.int lf), .val (.int f0), .val (.int f1), .val (.int lt), .val (.int t0), .val (.int t1), .val (.int z109_1), .val (.int z109_2), .val (.int z109_3), .val (.int z162_6), .val (.int z162_7), .val (.int z162_8), .unset, .unset, .unset, .unset, .unset] [(.int t1), (.int t0), (.int lt), (.ref r13), (.ref b11), (.ref b11)])) rfl (by rw [hml]; rfl) (argsL := [(.int lt), (.int t0), (.int t1)]) (rest := [(.ref r13), (.ref b11), (.ref b11)]) (lenOf pd_6 rfl) rfl (by show 2 * 0 + _ ≤ _; exact Nat.le_of_eq rfl) (hb hby at_181) (fun _ _ => ⟨rfl, e13, (by decide : 4 + 3 ≤ _), (by decide : 10 + 8 ≤ _)⟩)
  dsimp only [Pt.U, Pt.locs, Pt.cells, Pt.slots] at X15 l15 y15 z15 st15 hQ15
  subst l15 y15 z15
  obtain ⟨h15, e15⟩ : ∃ z, T15.heap = z := ⟨_, rfl⟩
  rw [e15] at hQ15
  obtain ⟨r15, b15, kk15, rfl, N15q, K15q, sz_r15, sz_b15, nbr15, Ex15, Fc15, Fv15, Va15⟩ := hQ15
  have N15 := Fr.app N13 N15q
  have f16 := (A11.keep K13q)
  have lt15_b11 := f16.lt
  have lt15_r13 := Ex13.lt
  have lt15_b13 := Va13.lt
  have ne_b11_r15 : b11 ≠ r15 := Nat.ne_of_lt (Nat.lt_of_lt_of_le lt15_b11 sz_r15)
  have ne_r13_r15 : r13 ≠ r15 := Nat.ne_of_lt (Nat.lt_of_lt_of_le lt15_r13 sz_r15)
  have ne_b13_r15 : b13 ≠ r15 := Nat.ne_of_lt (Nat.lt_of_lt_of_le lt15_b13 sz_r15)
  have gn_r15 : n0 ≤ r15 := Nat.le_trans (Nat.le_trans Z0 K13.1) sz_r15
  replace sz_r15 := Nat.le_trans K13.1 sz_r15
  have ne_b11_b15 : b11 ≠ b15 := Nat.ne_of_lt (Nat.lt_of_lt_of_le lt15_b11 sz_b15)
  have ne_r13_b15 : r13 ≠ b15 := Nat.ne_of_lt (Nat.lt_of_lt_of_le lt15_r13 sz_b15)
  have ne_b13_b15 : b13 ≠ b15 := Nat.ne_of_lt (Nat.lt_of_lt_of_le lt15_b13 sz_b15)
  have gn_b15 : n0 ≤ b15 := Nat.le_trans (Nat.le_trans Z0 K13.1) sz_b15
  replace sz_b15 := Nat.le_trans K13.1 sz_b15
  have K15 : Keep h0 h15 [] := K13.trans K15q all0
  have f17 := own_staK f14 K15q all0
  have nne15 := own_nne lt
  refine step (T15.setTop (mkF m 184 #[.val (.int p0), .val (.int p1), .val (.int p2), .val (.int p3), .val (.int p4), .val (.int lf), .val (.int f0), .val (.int f1), .val (.int lt), .val (.int t0), .val (.int t1), .val (.int z109_1), .val (.int z109_2), .val (.int z109_3), .val (.int z162_6), .val (.int z162_7), .val (.int z162_8), .unset, .unset, .unset, .unset, .unset] [(.ref r15), (.ref r13), (.ref b11), (.ref b11)])) (fun t k => st15 t k) ?_
  have f18 := (f16.keep K15q)
  have f19 := ((F_from_b11.keep K13q nin0).keep K15q nin0)
  have f20 := ((F_to_b11.keep K13q nin0).keep K15q nin0)
  have f21 := (Ex13.keep K15q)
  have f22 := (Fv13.keep K15q nin0)
  have f23 := (Va13.keep K15q nin0)
  obtain ⟨_, _, ⟨T24, L24, k24, n24⟩, -, X24', hS24', hg24, ⟨Lc24, hQ24, l24, y24, z24⟩, st24⟩ := X15.specialBackS hx (y := (⟨"com/example/vertex_to_service/vertextoservice/core/Edge", "<init>", "(Ljava/lang/String;Ljava/lang/String;)V"⟩ : MethodName)) rfl hown (mvT hZ (hw _ (List.mem_of_getElem? (i := 37) rfl))) (mvT hZ (hw _ (List.mem_of_getElem? (i := 38) rfl))) (mvT hZ (hw _ (List.mem_of_getElem? (i := 39) rfl))) (by decide) (backOfS (W := 1) (rm8_11 l Z a0 hw [] b11 r13 r15 b13 b15 kk13 lf f0 f1 kk15 lt t0 t1 h15 n0 (Nat.le_trans Z0 K15.1) f18 f19 f20 f21 f22 Ex15 Fv15 f23 Va15 gn_b11 ne_b11_r13 ne_b11_r15 ne_b11_b13 ne_b11_b15 gn_r13 ne_r13_r15 (Ne.symm nbr13) ne_r13_b15 gn_r15 (Ne.symm ne_b13_r15) (Ne.symm nbr15) gn_b13 ne_b13_b15 gn_b15 le_f0 le_f1 le_t0 le_t1 nne13 nne15) hZ (hw _ (List.mem_of_getElem? (i := 39) rfl)) (hw _ (List.mem_of_getElem? (i := 2) rfl)) (by decide) (by decide)) (g := (mkF m 184 #[.val (.int p0), .val (.int p1), .val (.int p2), .val (.int p3), .val (.int p4), .val (.int lf), .val (.int f0), .val (.int f1), .val (.int lt), .val (.int t0), .val (.int t1), .val (.int z109_1), .val (.int z109_2), .val (.int z109_3), .val (.int z162_6), .val (.int z162_7), .val (.int z162_8), .unset, .unset, .unset, .unset, .unset] [(.ref r15), (.ref r13), (.ref b11), (.ref b11)])) rfl (by rw [hml]; rfl) (Steps.refl _) (a := b11) (argsL := [(.ref r13), (.ref r15)]) (rest := [(.ref b11)]) (lenOf pd_7 rfl) rfl (by show 2 * 0 + _ ≤ _; exact Nat.le_of_eq rfl) (hb hby at_184) (fun _ _ => ⟨rfl, e15, (by decide : 7 + 8 ≤ _), (by decide : 18 + 72 ≤ _)⟩)
  dsimp only [Pt.U, Pt.locs, Pt.cells, Pt.slots] at X24' hS24' hg24 l24 y24 z24 st24 hQ24
  subst l24 y24 z24
  obtain ⟨X24, hS24, hZ24, hown24⟩ := rebS hS (show _ ≤ T15.heap.size by rw [e15]; exact (Nat.le_trans (Nat.le_trans (Nat.le_trans hk E11.1) K13q.1) K15q.1)) X24' hS24' hg24 hZ hown
  replace hS := hS24
  replace hZ : Z.Warmed39 T24.vm := hZ24
  replace hown : T24.vm.findClass "com/example/vertex_to_service/vertextoservice/core/EdgeEqualsPinLaw" = some m.cls := hown24
  obtain ⟨h24, e24⟩ : ∃ z, T24.heap = z := ⟨_, rfl⟩
  rw [e24] at hQ24
  obtain ⟨rfl, N24q, K24q, q0_24, q1_24⟩ := hQ24
  have N24 := Fr.app N15 N24q
  have K24 : Keep h0 h24 [] := K15.trans K24q (allS (Or.inr sz_b11) all0)
  have f25 := own_staK f17 K24q (allS (own_exaP f18) all0)
  have hk24 : T24.heap.size ≤ h24.size := Nat.le_of_eq (congrArg Array.size e24)
  refine step (T24.setTop (mkF m 187 #[.val (.int p0), .val (.int p1), .val (.int p2), .val (.int p3), .val (.int p4), .val (.int lf), .val (.int f0), .val (.int f1), .val (.int lt), .val (.int t0), .val (.int t1), .val (.int z109_1), .val (.int z109_2), .val (.int z109_3), .val (.int z162_6), .val (.int z162_7), .val (.int z162_8), .unset, .unset, .unset, .unset, .unset] [(.ref b11)])) (fun t k => st24.trans k) ?_
  refine step (T24.setTop (mkF m 189 #[.val (.int p0), .val (.int p1), .val (.int p2), .val (.int p3), .val (.int p4), .val (.int lf), .val (.int f0), .val (.int f1), .val (.int lt), .val (.int t0), .val (.int t1), .val (.int z109_1), .val (.int z109_2), .val (.int z109_3), .val (.int z162_6), .val (.int z162_7), .val (.int z162_8), .val (.ref b11), .unset, .unset, .unset, .unset] [])) (fun t k => XS.astore X24.here hx rfl (hb hby at_187) rfl rfl (l' := #[.val (.int p0), .val (.int p1), .val (.int p2), .val (.int p3), .val (.int p4), .val (.int lf), .val (.int f0), .val (.int f1), .val (.int lt), .val (.int t0), .val (.int t1), .val (.int z109_1), .val (.int z109_2), .val (.int z109_3), .val (.int z162_6), .val (.int z162_7), .val (.int z162_8), .val (.ref b11), .unset, .unset, .unset, .unset]) rfl k) ?_
  obtain ⟨T26, h26, X26, e26, E26, A26, D26, -, st26⟩ := newO X24 hx hZ hown (hw _ (List.mem_of_getElem? (i := 0) rfl)) (hw _ (List.mem_of_getElem? (i := 1) rfl)) (hw _ (List.mem_of_getElem? (i := 2) rfl)) e24 (g := (mkF m 189 #[.val (.int p0), .val (.int p1), .val (.int p2), .val (.int p3), .val (.int p4), .val (.int lf), .val (.int f0), .val (.int f1), .val (.int lt), .val (.int t0), .val (.int t1), .val (.int z109_1), .val (.int z109_2), .val (.int z109_3), .val (.int z162_6), .val (.int z162_7), .val (.int z162_8), .val (.ref b11), .unset, .unset, .unset, .unset] [])) rfl (hb hby at_189) (by decide) (by decide)
  obtain ⟨b26, g26⟩ : ∃ z, z = h24.size := ⟨_, rfl⟩
  rw [← g26] at A26 D26 st26
  have f27 := (f18.keep K24q)
  have ne_b11_b26 : b11 ≠ b26 := Nat.ne_of_lt (Nat.lt_of_lt_of_le f27.lt (Nat.le_of_eq g26.symm))
  have f28 := (f21.keep K24q)
  have ne_r13_b26 : r13 ≠ b26 := Nat.ne_of_lt (Nat.lt_of_lt_of_le f28.lt (Nat.le_of_eq g26.symm))
  have f29 := (f23.keep K24q (ninS (Ne.symm ne_b11_b13) nin0))
  have ne_b13_b26 : b13 ≠ b26 := Nat.ne_of_lt (Nat.lt_of_lt_of_le f29.lt (Nat.le_of_eq g26.symm))
  have f30 := (Ex15.keep K24q)
  have ne_r15_b26 : r15 ≠ b26 := Nat.ne_of_lt (Nat.lt_of_lt_of_le f30.lt (Nat.le_of_eq g26.symm))
  have f31 := (Va15.keep K24q (ninS (Ne.symm ne_b11_b15) nin0))
  have ne_b15_b26 : b15 ≠ b26 := Nat.ne_of_lt (Nat.lt_of_lt_of_le f31.lt (Nat.le_of_eq g26.symm))
  have gn_b26 : n0 ≤ b26 := Nat.le_trans (Nat.le_trans Z0 K24.1) (Nat.le_of_eq g26.symm)
  have sz_b26 : h0.size ≤ b26 := Nat.le_trans K24.1 (Nat.le_of_eq g26.symm)
  have K26 : Keep h0 h26 [] := K24.ext E26
  have F_from_b26 : Fld Z h26 b26 "com/example/vertex_to_service/vertextoservice/core/Edge" "from" "Ljava/lang/String;" .null := D26 (Or.inr (hw _ (List.mem_of_getElem? (i := 61) rfl))) (ty := (.object "java/lang/String")) (by decide)
  have F_to_b26 : Fld Z h26 b26 "com/example/vertex_to_service/vertextoservice/core/Edge" "to" "Ljava/lang/String;" .null := D26 (Or.inr (hw _ (List.mem_of_getElem? (i := 63) rfl))) (ty := (.object "java/lang/String")) (by decide)
  refine step (T26.setTop (mkF m 192 #[.val (.int p0), .val (.int p1), .val (.int p2), .val (.int p3), .val (.int p4), .val (.int lf), .val (.int f0), .val (.int f1), .val (.int lt), .val (.int t0), .val (.int t1), .val (.int z109_1), .val (.int z109_2), .val (.int z109_3), .val (.int z162_6), .val (.int z162_7), .val (.int z162_8), .val (.ref b11), .unset, .unset, .unset, .unset] [(.ref b26)])) (fun t k => st26 t k) ?_
  refine step (T26.setTop (mkF m 193 #[.val (.int p0), .val (.int p1), .val (.int p2), .val (.int p3), .val (.int p4), .val (.int lf), .val (.int f0), .val (.int f1), .val (.int lt), .val (.int t0), .val (.int t1), .val (.int z109_1), .val (.int z109_2), .val (.int z109_3), .val (.int z162_6), .val (.int z162_7), .val (.int z162_8), .val (.ref b11), .unset, .unset, .unset, .unset] [(.ref b26), (.ref b26)])) (fun t k => XS.dup X26.here hx rfl (hb hby at_192) rfl rfl k) ?_
  refine step (T26.setTop (mkF m 195 #[.val (.int p0), .val (.int p1), .val (.int p2), .val (.int p3), .val (.int p4), .val (.int lf), .val (.int f0), .val (.int f1), .val (.int lt), .val (.int t0), .val (.int t1), .val (.int z109_1), .val (.int z109_2), .val (.int z109_3), .val (.int z162_6), .val (.int z162_7), .val (.int z162_8), .val (.ref b11), .unset, .unset, .unset, .unset] [(.int z109_1), (.ref b26), (.ref b26)])) (fun t k => XS.iload X26.here hx rfl (hb hby at_193) rfl k) ?_
  refine step (T26.setTop (mkF m 197 #[.val (.int p0), .val (.int p1), .val (.int p2), .val (.int p3), .val (.int p4), .val (.int lf), .val (.int f0), .val (.int f1), .val (.int lt), .val (.int t0), .val (.int t1), .val (.int z109_1), .val (.int z109_2), .val (.int z109_3), .val (.int z162_6), .val (.int z162_7), .val (.int z162_8), .val (.ref b11), .unset, .unset, .unset, .unset] [(.int z109_2), (.int z109_1), (.ref b26), (.ref b26)])) (fun t k => XS.iload X26.here hx rfl (hb hby at_195) rfl k) ?_
  refine step (T26.setTop (mkF m 199 #[.val (.int p0), .val (.int p1), .val (.int p2), .val (.int p3), .val (.int p4), .val (.int lf), .val (.int f0), .val (.int f1), .val (.int lt), .val (.int t0), .val (.int t1), .val (.int z109_1), .val (.int z109_2), .val (.int z109_3), .val (.int z162_6), .val (.int z162_7), .val (.int z162_8), .val (.ref b11), .unset, .unset, .unset, .unset] [(.int z109_3), (.int z109_2), (.int z109_1), (.ref b26), (.ref b26)])) (fun t k => XS.iload X26.here hx rfl (hb hby at_197) rfl k) ?_
  have f32 := (f25.ext E26)
  obtain ⟨_, _, ⟨T33, L33, k33, n33⟩, -, X33, ⟨Lc33, hQ33, l33, y33, z33⟩, st33⟩ := Jvm.LawKit.callS X26 hx (y := (⟨"com/example/vertex_to_service/vertextoservice/core/EdgeEqualsPinLaw", "str", "(ICC)Ljava/lang/String;"⟩ : MethodName)) hown (mvT hZ (hw _ (List.mem_of_getElem? (i := 3) rfl))) (mvT hZ (hw _ (List.mem_of_getElem? (i := 4) rfl))) (mvT hZ (hw _ (List.mem_of_getElem? (i := 5) rfl))) (mvT hZ (hw _ (List.mem_of_getElem? (i := 6) rfl))) (by decide) (backOf (W := 2) (rm1 l Z a0 hw [] z109_1 z109_2 z109_3 cs h26 n0 (Nat.le_trans Z0 K26.1) f32 c_cs le_z109_2 le_z109_3) hZ (hw _ (List.mem_of_getElem? (i := 6) rfl)) (hw _ (List.mem_of_getElem? (i := 5) rfl)) (by decide) (by decide)) (g := (mkF m 199 #[.val (.int p0), .val (.int p1), .val (.int p2), .val (.int p3), .val (.int p4), .val (.int lf), .val (.int f0), .val (.int f1), .val (.int lt), .val (.int t0), .val (.int t1), .val (.int z109_1), .val (.int z109_2), .val (.int z109_3), .val (.int z162_6), .val (.int z162_7), .val (.int z162_8), .val (.ref b11), .unset, .unset, .unset, .unset] [(.int z109_3), (.int z109_2), (.int z109_1), (.ref b26), (.ref b26)])) rfl (by rw [hml]; rfl) (argsL := [(.int z109_1), (.int z109_2), (.int z109_3)]) (rest := [(.ref b26), (.ref b26)]) (lenOf pd_6 rfl) rfl (by show 2 * 0 + _ ≤ _; exact Nat.le_of_eq rfl) (hb hby at_199) (fun _ _ => ⟨rfl, e26, (by decide : 16 + 3 ≤ _), (by decide : 92 + 8 ≤ _)⟩)
  dsimp only [Pt.U, Pt.locs, Pt.cells, Pt.slots] at X33 l33 y33 z33 st33 hQ33
  subst l33 y33 z33
  obtain ⟨h33, e33⟩ : ∃ z, T33.heap = z := ⟨_, rfl⟩
  rw [e33] at hQ33
  obtain ⟨r33, b33, kk33, rfl, N33q, K33q, sz_r33, sz_b33, nbr33, Ex33, Fc33, Fv33, Va33⟩ := hQ33
  have N33 := Fr.app N24 N33q
  have f34 := (f27.ext E26)
  have lt33_b11 := f34.lt
  have f35 := (f28.ext E26)
  have lt33_r13 := f35.lt
  have f36 := (f29.ext E26)
  have lt33_b13 := f36.lt
  have f37 := (f30.ext E26)
  have lt33_r15 := f37.lt
  have f38 := (f31.ext E26)
  have lt33_b15 := f38.lt
  have lt33_b26 := A26.lt
  have ne_b11_r33 : b11 ≠ r33 := Nat.ne_of_lt (Nat.lt_of_lt_of_le lt33_b11 sz_r33)
  have ne_r13_r33 : r13 ≠ r33 := Nat.ne_of_lt (Nat.lt_of_lt_of_le lt33_r13 sz_r33)
  have ne_b13_r33 : b13 ≠ r33 := Nat.ne_of_lt (Nat.lt_of_lt_of_le lt33_b13 sz_r33)
  have ne_r15_r33 : r15 ≠ r33 := Nat.ne_of_lt (Nat.lt_of_lt_of_le lt33_r15 sz_r33)
  have ne_b15_r33 : b15 ≠ r33 := Nat.ne_of_lt (Nat.lt_of_lt_of_le lt33_b15 sz_r33)
  have ne_b26_r33 : b26 ≠ r33 := Nat.ne_of_lt (Nat.lt_of_lt_of_le lt33_b26 sz_r33)
  have gn_r33 : n0 ≤ r33 := Nat.le_trans (Nat.le_trans Z0 K26.1) sz_r33
  replace sz_r33 := Nat.le_trans K26.1 sz_r33
  have ne_b11_b33 : b11 ≠ b33 := Nat.ne_of_lt (Nat.lt_of_lt_of_le lt33_b11 sz_b33)
  have ne_r13_b33 : r13 ≠ b33 := Nat.ne_of_lt (Nat.lt_of_lt_of_le lt33_r13 sz_b33)
  have ne_b13_b33 : b13 ≠ b33 := Nat.ne_of_lt (Nat.lt_of_lt_of_le lt33_b13 sz_b33)
  have ne_r15_b33 : r15 ≠ b33 := Nat.ne_of_lt (Nat.lt_of_lt_of_le lt33_r15 sz_b33)
  have ne_b15_b33 : b15 ≠ b33 := Nat.ne_of_lt (Nat.lt_of_lt_of_le lt33_b15 sz_b33)
  have ne_b26_b33 : b26 ≠ b33 := Nat.ne_of_lt (Nat.lt_of_lt_of_le lt33_b26 sz_b33)
  have gn_b33 : n0 ≤ b33 := Nat.le_trans (Nat.le_trans Z0 K26.1) sz_b33
  replace sz_b33 := Nat.le_trans K26.1 sz_b33
  have K33 : Keep h0 h33 [] := K26.trans K33q all0
  have f39 := own_staK f32 K33q all0
  have nne33 := own_nne z109_1
  refine step (T33.setTop (mkF m 202 #[.val (.int p0), .val (.int p1), .val (.int p2), .val (.int p3), .val (.int p4), .val (.int lf), .val (.int f0), .val (.int f1), .val (.int lt), .val (.int t0), .val (.int t1), .val (.int z109_1), .val (.int z109_2), .val (.int z109_3), .val (.int z162_6), .val (.int z162_7), .val (.int z162_8), .val (.ref b11), .unset, .unset, .unset, .unset] [(.ref r33), (.ref b26), (.ref b26)])) (fun t k => st33 t k) ?_
  refine step (T33.setTop (mkF m 204 #[.val (.int p0), .val (.int p1), .val (.int p2), .val (.int p3), .val (.int p4), .val (.int lf), .val (.int f0), .val (.int f1), .val (.int lt), .val (.int t0), .val (.int t1), .val (.int z109_1), .val (.int z109_2), .val (.int z109_3), .val (.int z162_6), .val (.int z162_7), .val (.int z162_8), .val (.ref b11), .unset, .unset, .unset, .unset] [(.int z162_6), (.ref r33), (.ref b26), (.ref b26)])) (fun t k => XS.iload X33.here hx rfl (hb hby at_202) rfl k) ?_
  refine step (T33.setTop (mkF m 206 #[.val (.int p0), .val (.int p1), .val (.int p2), .val (.int p3), .val (.int p4), .val (.int lf), .val (.int f0), .val (.int f1), .val (.int lt), .val (.int t0), .val (.int t1), .val (.int z109_1), .val (.int z109_2), .val (.int z109_3), .val (.int z162_6), .val (.int z162_7), .val (.int z162_8), .val (.ref b11), .unset, .unset, .unset, .unset] [(.int z162_7), (.int z162_6), (.ref r33), (.ref b26), (.ref b26)])) (fun t k => XS.iload X33.here hx rfl (hb hby at_204) rfl k) ?_
  refine step (T33.setTop (mkF m 208 #[.val (.int p0), .val (.int p1), .val (.int p2), .val (.int p3), .val (.int p4), .val (.int lf), .val (.int f0), .val (.int f1), .val (.int lt), .val (.int t0), .val (.int t1), .val (.int z109_1), .val (.int z109_2), .val (.int z109_3), .val (.int z162_6), .val (.int z162_7), .val (.int z162_8), .val (.ref b11), .unset, .unset, .unset, .unset] [(.int z162_8), (.int z162_7), (.int z162_6), (.ref r33), (.ref b26), (.ref b26)])) (fun t k => XS.iload X33.here hx rfl (hb hby at_206) rfl k) ?_
  obtain ⟨_, _, ⟨T40, L40, k40, n40⟩, -, X40, ⟨Lc40, hQ40, l40, y40, z40⟩, st40⟩ := Jvm.LawKit.callS X33 hx (y := (⟨"com/example/vertex_to_service/vertextoservice/core/EdgeEqualsPinLaw", "str", "(ICC)Ljava/lang/String;"⟩ : MethodName)) hown (mvT hZ (hw _ (List.mem_of_getElem? (i := 3) rfl))) (mvT hZ (hw _ (List.mem_of_getElem? (i := 4) rfl))) (mvT hZ (hw _ (List.mem_of_getElem? (i := 5) rfl))) (mvT hZ (hw _ (List.mem_of_getElem? (i := 6) rfl))) (by decide) (backOf (W := 3) (rm1 l Z a0 hw [] z162_6 z162_7 z162_8 cs h33 n0 (Nat.le_trans Z0 K33.1) f39 c_cs le_z162_7 le_z162_8) hZ (hw _ (List.mem_of_getElem? (i := 6) rfl)) (hw _ (List.mem_of_getElem? (i := 5) rfl)) (by decide) (by decide)) (g := (mkF m 208 #[.val (.int p0), .val (.int p1), .val (.int p2), .val (.int p3), .val (.int p4), .val (.int lf), .val (.int f0), .val (.int f1), .val (.int lt), .val (.int t0), .val (.int t1), .val (.int z109_1), .val (.int z109_2), .val (.int z109_3), .val (.int z162_6), .val (.int z162_7), .val (.int z162_8), .val (.ref b11), .unset, .unset, .unset, .unset] [(.int z162_8), (.int z162_7), (.int z162_6), (.ref r33), (.ref b26), (.ref b26)])) rfl (by rw [hml]; rfl) (argsL := [(.int z162_6), (.int z162_7), (.int z162_8)]) (rest := [(.ref r33), (.ref b26), (.ref b26)]) (lenOf pd_6 rfl) rfl (by show 2 * 0 + _ ≤ _; exact Nat.le_of_eq rfl) (hb hby at_208) (fun _ _ => ⟨rfl, e33, (by decide : 19 + 3 ≤ _), (by decide : 100 + 8 ≤ _)⟩)
  dsimp only [Pt.U, Pt.locs, Pt.cells, Pt.slots] at X40 l40 y40 z40 st40 hQ40
  subst l40 y40 z40
  obtain ⟨h40, e40⟩ : ∃ z, T40.heap = z := ⟨_, rfl⟩
  rw [e40] at hQ40
  obtain ⟨r40, b40, kk40, rfl, N40q, K40q, sz_r40, sz_b40, nbr40, Ex40, Fc40, Fv40, Va40⟩ := hQ40
  have N40 := Fr.app N33 N40q
  have f41 := (f34.keep K33q)
  have lt40_b11 := f41.lt
  have f42 := (f35.keep K33q)
  have lt40_r13 := f42.lt
  have f43 := (f36.keep K33q nin0)
  have lt40_b13 := f43.lt
  have f44 := (f37.keep K33q)
  have lt40_r15 := f44.lt
  have f45 := (f38.keep K33q nin0)
  have lt40_b15 := f45.lt
  have f46 := (A26.keep K33q)
  have lt40_b26 := f46.lt
  have lt40_r33 := Ex33.lt
  have lt40_b33 := Va33.lt
  have ne_b11_r40 : b11 ≠ r40 := Nat.ne_of_lt (Nat.lt_of_lt_of_le lt40_b11 sz_r40)
  have ne_r13_r40 : r13 ≠ r40 := Nat.ne_of_lt (Nat.lt_of_lt_of_le lt40_r13 sz_r40)
  have ne_b13_r40 : b13 ≠ r40 := Nat.ne_of_lt (Nat.lt_of_lt_of_le lt40_b13 sz_r40)
  have ne_r15_r40 : r15 ≠ r40 := Nat.ne_of_lt (Nat.lt_of_lt_of_le lt40_r15 sz_r40)
  have ne_b15_r40 : b15 ≠ r40 := Nat.ne_of_lt (Nat.lt_of_lt_of_le lt40_b15 sz_r40)
  have ne_b26_r40 : b26 ≠ r40 := Nat.ne_of_lt (Nat.lt_of_lt_of_le lt40_b26 sz_r40)
  have ne_r33_r40 : r33 ≠ r40 := Nat.ne_of_lt (Nat.lt_of_lt_of_le lt40_r33 sz_r40)
  have ne_b33_r40 : b33 ≠ r40 := Nat.ne_of_lt (Nat.lt_of_lt_of_le lt40_b33 sz_r40)
  have gn_r40 : n0 ≤ r40 := Nat.le_trans (Nat.le_trans Z0 K33.1) sz_r40
  replace sz_r40 := Nat.le_trans K33.1 sz_r40
  have ne_b11_b40 : b11 ≠ b40 := Nat.ne_of_lt (Nat.lt_of_lt_of_le lt40_b11 sz_b40)
  have ne_r13_b40 : r13 ≠ b40 := Nat.ne_of_lt (Nat.lt_of_lt_of_le lt40_r13 sz_b40)
  have ne_b13_b40 : b13 ≠ b40 := Nat.ne_of_lt (Nat.lt_of_lt_of_le lt40_b13 sz_b40)
  have ne_r15_b40 : r15 ≠ b40 := Nat.ne_of_lt (Nat.lt_of_lt_of_le lt40_r15 sz_b40)
  have ne_b15_b40 : b15 ≠ b40 := Nat.ne_of_lt (Nat.lt_of_lt_of_le lt40_b15 sz_b40)
  have ne_b26_b40 : b26 ≠ b40 := Nat.ne_of_lt (Nat.lt_of_lt_of_le lt40_b26 sz_b40)
  have ne_r33_b40 : r33 ≠ b40 := Nat.ne_of_lt (Nat.lt_of_lt_of_le lt40_r33 sz_b40)
  have ne_b33_b40 : b33 ≠ b40 := Nat.ne_of_lt (Nat.lt_of_lt_of_le lt40_b33 sz_b40)
  have gn_b40 : n0 ≤ b40 := Nat.le_trans (Nat.le_trans Z0 K33.1) sz_b40
  replace sz_b40 := Nat.le_trans K33.1 sz_b40
  have K40 : Keep h0 h40 [] := K33.trans K40q all0
  have f47 := own_staK f39 K40q all0
  have nne40 := own_nne z162_6
  refine step (T40.setTop (mkF m 211 #[.val (.int p0), .val (.int p1), .val (.int p2), .val (.int p3), .val (.int p4), .val (.int lf), .val (.int f0), .val (.int f1), .val (.int lt), .val (.int t0), .val (.int t1), .val (.int z109_1), .val (.int z109_2), .val (.int z109_3), .val (.int z162_6), .val (.int z162_7), .val (.int z162_8), .val (.ref b11), .unset, .unset, .unset, .unset] [(.ref r40), (.ref r33), (.ref b26), (.ref b26)])) (fun t k => st40 t k) ?_
  have f48 := (f46.keep K40q)
  have f49 := ((F_from_b26.keep K33q nin0).keep K40q nin0)
  have f50 := ((F_to_b26.keep K33q nin0).keep K40q nin0)
  have f51 := (Ex33.keep K40q)
  have f52 := (Fv33.keep K40q nin0)
  have f53 := (Va33.keep K40q nin0)
  obtain ⟨_, _, ⟨T54, L54, k54, n54⟩, -, X54', hS54', hg54, ⟨Lc54, hQ54, l54, y54, z54⟩, st54⟩ := X40.specialBackS hx (y := (⟨"com/example/vertex_to_service/vertextoservice/core/Edge", "<init>", "(Ljava/lang/String;Ljava/lang/String;)V"⟩ : MethodName)) rfl hown (mvT hZ (hw _ (List.mem_of_getElem? (i := 37) rfl))) (mvT hZ (hw _ (List.mem_of_getElem? (i := 38) rfl))) (mvT hZ (hw _ (List.mem_of_getElem? (i := 39) rfl))) (by decide) (backOfS (W := 1) (rm8_11 l Z a0 hw [] b26 r33 r40 b33 b40 kk33 z109_1 z109_2 z109_3 kk40 z162_6 z162_7 z162_8 h40 n0 (Nat.le_trans Z0 K40.1) f48 f49 f50 f51 f52 Ex40 Fv40 f53 Va40 gn_b26 ne_b26_r33 ne_b26_r40 ne_b26_b33 ne_b26_b40 gn_r33 ne_r33_r40 (Ne.symm nbr33) ne_r33_b40 gn_r40 (Ne.symm ne_b33_r40) (Ne.symm nbr40) gn_b33 ne_b33_b40 gn_b40 le_z109_2 le_z109_3 le_z162_7 le_z162_8 nne33 nne40) hZ (hw _ (List.mem_of_getElem? (i := 39) rfl)) (hw _ (List.mem_of_getElem? (i := 2) rfl)) (by decide) (by decide)) (g := (mkF m 211 #[.val (.int p0), .val (.int p1), .val (.int p2), .val (.int p3), .val (.int p4), .val (.int lf), .val (.int f0), .val (.int f1), .val (.int lt), .val (.int t0), .val (.int t1), .val (.int z109_1), .val (.int z109_2), .val (.int z109_3), .val (.int z162_6), .val (.int z162_7), .val (.int z162_8), .val (.ref b11), .unset, .unset, .unset, .unset] [(.ref r40), (.ref r33), (.ref b26), (.ref b26)])) rfl (by rw [hml]; rfl) (Steps.refl _) (a := b26) (argsL := [(.ref r33), (.ref r40)]) (rest := [(.ref b26)]) (lenOf pd_7 rfl) rfl (by show 2 * 0 + _ ≤ _; exact Nat.le_of_eq rfl) (hb hby at_211) (fun _ _ => ⟨rfl, e40, (by decide : 22 + 8 ≤ _), (by decide : 108 + 72 ≤ _)⟩)
  dsimp only [Pt.U, Pt.locs, Pt.cells, Pt.slots] at X54' hS54' hg54 l54 y54 z54 st54 hQ54
  subst l54 y54 z54
  obtain ⟨X54, hS54, hZ54, hown54⟩ := rebS hS (show _ ≤ T40.heap.size by rw [e40]; exact (Nat.le_trans (Nat.le_trans (Nat.le_trans hk24 E26.1) K33q.1) K40q.1)) X54' hS54' hg54 hZ hown
  replace hS := hS54
  replace hZ : Z.Warmed39 T54.vm := hZ54
  replace hown : T54.vm.findClass "com/example/vertex_to_service/vertextoservice/core/EdgeEqualsPinLaw" = some m.cls := hown54
  obtain ⟨h54, e54⟩ : ∃ z, T54.heap = z := ⟨_, rfl⟩
  rw [e54] at hQ54
  obtain ⟨rfl, N54q, K54q, q0_54, q1_54⟩ := hQ54
  have N54 := Fr.app N40 N54q
  have K54 : Keep h0 h54 [] := K40.trans K54q (allS (Or.inr sz_b26) all0)
  have f55 := own_staK f47 K54q (allS (own_exaP f48) all0)
  have hk54 : T54.heap.size ≤ h54.size := Nat.le_of_eq (congrArg Array.size e54)
  refine step (T54.setTop (mkF m 214 #[.val (.int p0), .val (.int p1), .val (.int p2), .val (.int p3), .val (.int p4), .val (.int lf), .val (.int f0), .val (.int f1), .val (.int lt), .val (.int t0), .val (.int t1), .val (.int z109_1), .val (.int z109_2), .val (.int z109_3), .val (.int z162_6), .val (.int z162_7), .val (.int z162_8), .val (.ref b11), .unset, .unset, .unset, .unset] [(.ref b26)])) (fun t k => st54.trans k) ?_
  refine step (T54.setTop (mkF m 216 #[.val (.int p0), .val (.int p1), .val (.int p2), .val (.int p3), .val (.int p4), .val (.int lf), .val (.int f0), .val (.int f1), .val (.int lt), .val (.int t0), .val (.int t1), .val (.int z109_1), .val (.int z109_2), .val (.int z109_3), .val (.int z162_6), .val (.int z162_7), .val (.int z162_8), .val (.ref b11), .val (.ref b26), .unset, .unset, .unset] [])) (fun t k => XS.astore X54.here hx rfl (hb hby at_214) rfl rfl (l' := #[.val (.int p0), .val (.int p1), .val (.int p2), .val (.int p3), .val (.int p4), .val (.int lf), .val (.int f0), .val (.int f1), .val (.int lt), .val (.int t0), .val (.int t1), .val (.int z109_1), .val (.int z109_2), .val (.int z109_3), .val (.int z162_6), .val (.int z162_7), .val (.int z162_8), .val (.ref b11), .val (.ref b26), .unset, .unset, .unset]) rfl k) ?_
  refine step (T54.setTop (mkF m 218 #[.val (.int p0), .val (.int p1), .val (.int p2), .val (.int p3), .val (.int p4), .val (.int lf), .val (.int f0), .val (.int f1), .val (.int lt), .val (.int t0), .val (.int t1), .val (.int z109_1), .val (.int z109_2), .val (.int z109_3), .val (.int z162_6), .val (.int z162_7), .val (.int z162_8), .val (.ref b11), .val (.ref b26), .unset, .unset, .unset] [(.int lf)])) (fun t k => XS.iload X54.here hx rfl (hb hby at_216) rfl k) ?_
  refine step (T54.setTop (mkF m 220 #[.val (.int p0), .val (.int p1), .val (.int p2), .val (.int p3), .val (.int p4), .val (.int lf), .val (.int f0), .val (.int f1), .val (.int lt), .val (.int t0), .val (.int t1), .val (.int z109_1), .val (.int z109_2), .val (.int z109_3), .val (.int z162_6), .val (.int z162_7), .val (.int z162_8), .val (.ref b11), .val (.ref b26), .unset, .unset, .unset] [(.int f0), (.int lf)])) (fun t k => XS.iload X54.here hx rfl (hb hby at_218) rfl k) ?_
  refine step (T54.setTop (mkF m 222 #[.val (.int p0), .val (.int p1), .val (.int p2), .val (.int p3), .val (.int p4), .val (.int lf), .val (.int f0), .val (.int f1), .val (.int lt), .val (.int t0), .val (.int t1), .val (.int z109_1), .val (.int z109_2), .val (.int z109_3), .val (.int z162_6), .val (.int z162_7), .val (.int z162_8), .val (.ref b11), .val (.ref b26), .unset, .unset, .unset] [(.int f1), (.int f0), (.int lf)])) (fun t k => XS.iload X54.here hx rfl (hb hby at_220) rfl k) ?_
  obtain ⟨_, _, ⟨T56, L56, k56, n56⟩, -, X56, ⟨Lc56, hQ56, l56, y56, z56⟩, st56⟩ := Jvm.LawKit.callS X54 hx (y := (⟨"com/example/vertex_to_service/vertextoservice/core/EdgeEqualsPinLaw", "str", "(ICC)Ljava/lang/String;"⟩ : MethodName)) hown (mvT hZ (hw _ (List.mem_of_getElem? (i := 3) rfl))) (mvT hZ (hw _ (List.mem_of_getElem? (i := 4) rfl))) (mvT hZ (hw _ (List.mem_of_getElem? (i := 5) rfl))) (mvT hZ (hw _ (List.mem_of_getElem? (i := 6) rfl))) (by decide) (backOf (W := 0) (rm1 l Z a0 hw [] lf f0 f1 cs h54 n0 (Nat.le_trans Z0 K54.1) f55 c_cs le_f0 le_f1) hZ (hw _ (List.mem_of_getElem? (i := 6) rfl)) (hw _ (List.mem_of_getElem? (i := 5) rfl)) (by decide) (by decide)) (g := (mkF m 222 #[.val (.int p0), .val (.int p1), .val (.int p2), .val (.int p3), .val (.int p4), .val (.int lf), .val (.int f0), .val (.int f1), .val (.int lt), .val (.int t0), .val (.int t1), .val (.int z109_1), .val (.int z109_2), .val (.int z109_3), .val (.int z162_6), .val (.int z162_7), .val (.int z162_8), .val (.ref b11), .val (.ref b26), .unset, .unset, .unset] [(.int f1), (.int f0), (.int lf)])) rfl (by rw [hml]; rfl) (argsL := [(.int lf), (.int f0), (.int f1)]) (rest := []) (lenOf pd_6 rfl) rfl (by show 2 * 0 + _ ≤ _; exact Nat.le_of_eq rfl) (hb hby at_222) (fun _ _ => ⟨rfl, e54, (by decide : 30 + 3 ≤ _), (by decide : 180 + 8 ≤ _)⟩)
  dsimp only [Pt.U, Pt.locs, Pt.cells, Pt.slots] at X56 l56 y56 z56 st56 hQ56
  subst l56 y56 z56
  obtain ⟨h56, e56⟩ : ∃ z, T56.heap = z := ⟨_, rfl⟩
  rw [e56] at hQ56
  obtain ⟨r56, b56, kk56, rfl, N56q, K56q, sz_r56, sz_b56, nbr56, Ex56, Fc56, Fv56, Va56⟩ := hQ56
  have N56 := Fr.app N54 N56q
  have f57 := ((f41.keep K40q).keep K54q)
  have lt56_b11 := f57.lt
  have f58 := ((f42.keep K40q).keep K54q)
  have lt56_r13 := f58.lt
  have f59 := ((f43.keep K40q nin0).keep K54q (ninS ne_b13_b26 nin0))
  have lt56_b13 := f59.lt
  have f60 := ((f44.keep K40q).keep K54q)
  have lt56_r15 := f60.lt
  have f61 := ((f45.keep K40q nin0).keep K54q (ninS ne_b15_b26 nin0))
  have lt56_b15 := f61.lt
  have f62 := (f48.keep K54q)
  have lt56_b26 := f62.lt
  have f63 := (f51.keep K54q)
  have lt56_r33 := f63.lt
  have f64 := (f53.keep K54q (ninS (Ne.symm ne_b26_b33) nin0))
  have lt56_b33 := f64.lt
  have f65 := (Ex40.keep K54q)
  have lt56_r40 := f65.lt
  have f66 := (Va40.keep K54q (ninS (Ne.symm ne_b26_b40) nin0))
  have lt56_b40 := f66.lt
  have ne_b11_r56 : b11 ≠ r56 := Nat.ne_of_lt (Nat.lt_of_lt_of_le lt56_b11 sz_r56)
  have ne_r13_r56 : r13 ≠ r56 := Nat.ne_of_lt (Nat.lt_of_lt_of_le lt56_r13 sz_r56)
  have ne_b13_r56 : b13 ≠ r56 := Nat.ne_of_lt (Nat.lt_of_lt_of_le lt56_b13 sz_r56)
  have ne_r15_r56 : r15 ≠ r56 := Nat.ne_of_lt (Nat.lt_of_lt_of_le lt56_r15 sz_r56)
  have ne_b15_r56 : b15 ≠ r56 := Nat.ne_of_lt (Nat.lt_of_lt_of_le lt56_b15 sz_r56)
  have ne_b26_r56 : b26 ≠ r56 := Nat.ne_of_lt (Nat.lt_of_lt_of_le lt56_b26 sz_r56)
  have ne_r33_r56 : r33 ≠ r56 := Nat.ne_of_lt (Nat.lt_of_lt_of_le lt56_r33 sz_r56)
  have ne_b33_r56 : b33 ≠ r56 := Nat.ne_of_lt (Nat.lt_of_lt_of_le lt56_b33 sz_r56)
  have ne_r40_r56 : r40 ≠ r56 := Nat.ne_of_lt (Nat.lt_of_lt_of_le lt56_r40 sz_r56)
  have ne_b40_r56 : b40 ≠ r56 := Nat.ne_of_lt (Nat.lt_of_lt_of_le lt56_b40 sz_r56)
  have gn_r56 : n0 ≤ r56 := Nat.le_trans (Nat.le_trans Z0 K54.1) sz_r56
  replace sz_r56 := Nat.le_trans K54.1 sz_r56
  have ne_b11_b56 : b11 ≠ b56 := Nat.ne_of_lt (Nat.lt_of_lt_of_le lt56_b11 sz_b56)
  have ne_r13_b56 : r13 ≠ b56 := Nat.ne_of_lt (Nat.lt_of_lt_of_le lt56_r13 sz_b56)
  have ne_b13_b56 : b13 ≠ b56 := Nat.ne_of_lt (Nat.lt_of_lt_of_le lt56_b13 sz_b56)
  have ne_r15_b56 : r15 ≠ b56 := Nat.ne_of_lt (Nat.lt_of_lt_of_le lt56_r15 sz_b56)
  have ne_b15_b56 : b15 ≠ b56 := Nat.ne_of_lt (Nat.lt_of_lt_of_le lt56_b15 sz_b56)
  have ne_b26_b56 : b26 ≠ b56 := Nat.ne_of_lt (Nat.lt_of_lt_of_le lt56_b26 sz_b56)
  have ne_r33_b56 : r33 ≠ b56 := Nat.ne_of_lt (Nat.lt_of_lt_of_le lt56_r33 sz_b56)
  have ne_b33_b56 : b33 ≠ b56 := Nat.ne_of_lt (Nat.lt_of_lt_of_le lt56_b33 sz_b56)
  have ne_r40_b56 : r40 ≠ b56 := Nat.ne_of_lt (Nat.lt_of_lt_of_le lt56_r40 sz_b56)
  have ne_b40_b56 : b40 ≠ b56 := Nat.ne_of_lt (Nat.lt_of_lt_of_le lt56_b40 sz_b56)
  have gn_b56 : n0 ≤ b56 := Nat.le_trans (Nat.le_trans Z0 K54.1) sz_b56
  replace sz_b56 := Nat.le_trans K54.1 sz_b56
  have K56 : Keep h0 h56 [] := K54.trans K56q all0
  have f67 := own_staK f55 K56q all0
  have nne56 := own_nne lf
  refine step (T56.setTop (mkF m 225 #[.val (.int p0), .val (.int p1), .val (.int p2), .val (.int p3), .val (.int p4), .val (.int lf), .val (.int f0), .val (.int f1), .val (.int lt), .val (.int t0), .val (.int t1), .val (.int z109_1), .val (.int z109_2), .val (.int z109_3), .val (.int z162_6), .val (.int z162_7), .val (.int z162_8), .val (.ref b11), .val (.ref b26), .unset, .unset, .unset] [(.ref r56)])) (fun t k => st56 t k) ?_
  refine step (T56.setTop (mkF m 227 #[.val (.int p0), .val (.int p1), .val (.int p2), .val (.int p3), .val (.int p4), .val (.int lf), .val (.int f0), .val (.int f1), .val (.int lt), .val (.int t0), .val (.int t1), .val (.int z109_1), .val (.int z109_2), .val (.int z109_3), .val (.int z162_6), .val (.int z162_7), .val (.int z162_8), .val (.ref b11), .val (.ref b26), .val (.ref r56), .unset, .unset] [])) (fun t k => XS.astore X56.here hx rfl (hb hby at_225) rfl rfl (l' := #[.val (.int p0), .val (.int p1), .val (.int p2), .val (.int p3), .val (.int p4), .val (.int lf), .val (.int f0), .val (.int f1), .val (.int lt), .val (.int t0), .val (.int t1), .val (.int z109_1), .val (.int z109_2), .val (.int z109_3), .val (.int z162_6), .val (.int z162_7), .val (.int z162_8), .val (.ref b11), .val (.ref b26), .val (.ref r56), .unset, .unset]) rfl k) ?_
  refine step (T56.setTop (mkF m 229 #[.val (.int p0), .val (.int p1), .val (.int p2), .val (.int p3), .val (.int p4), .val (.int lf), .val (.int f0), .val (.int f1), .val (.int lt), .val (.int t0), .val (.int t1), .val (.int z109_1), .val (.int z109_2), .val (.int z109_3), .val (.int z162_6), .val (.int z162_7), .val (.int z162_8), .val (.ref b11), .val (.ref b26), .val (.ref r56), .unset, .unset] [(.int p4)])) (fun t k => XS.iload X56.here hx rfl (hb hby at_227) rfl k) ?_
  refine step (T56.setTop (mkF m 231 #[.val (.int p0), .val (.int p1), .val (.int p2), .val (.int p3), .val (.int p4), .val (.int lf), .val (.int f0), .val (.int f1), .val (.int lt), .val (.int t0), .val (.int t1), .val (.int z109_1), .val (.int z109_2), .val (.int z109_3), .val (.int z162_6), .val (.int z162_7), .val (.int z162_8), .val (.ref b11), .val (.ref b26), .val (.ref r56), .unset, .unset] [(.int (6 : Int32)), (.int p4)])) (fun t k => XS.bipush X56.here hx rfl (hb hby at_229) k) ?_
  refine step (T56.setTop (mkF m 232 #[.val (.int p0), .val (.int p1), .val (.int p2), .val (.int p3), .val (.int p4), .val (.int lf), .val (.int f0), .val (.int f1), .val (.int lt), .val (.int t0), .val (.int t1), .val (.int z109_1), .val (.int z109_2), .val (.int z109_3), .val (.int z162_6), .val (.int z162_7), .val (.int z162_8), .val (.ref b11), .val (.ref b26), .val (.ref r56), .unset, .unset] [(.int ((p4.toUInt32 >>> ((6 : Int32) &&& 31).toUInt32).toInt32))])) (fun t k => XS.iushr X56.here hx rfl (hb hby at_231) rfl k) ?_
  refine step (T56.setTop (mkF m 233 #[.val (.int p0), .val (.int p1), .val (.int p2), .val (.int p3), .val (.int p4), .val (.int lf), .val (.int f0), .val (.int f1), .val (.int lt), .val (.int t0), .val (.int t1), .val (.int z109_1), .val (.int z109_2), .val (.int z109_3), .val (.int z162_6), .val (.int z162_7), .val (.int z162_8), .val (.ref b11), .val (.ref b26), .val (.ref r56), .unset, .unset] [(.int (3 : Int32)), (.int ((p4.toUInt32 >>> ((6 : Int32) &&& 31).toUInt32).toInt32))])) (fun t k => XS.iconst X56.here hx rfl (hb hby at_232) k) ?_
  refine step (T56.setTop (mkF m 234 #[.val (.int p0), .val (.int p1), .val (.int p2), .val (.int p3), .val (.int p4), .val (.int lf), .val (.int f0), .val (.int f1), .val (.int lt), .val (.int t0), .val (.int t1), .val (.int z109_1), .val (.int z109_2), .val (.int z109_3), .val (.int z162_6), .val (.int z162_7), .val (.int z162_8), .val (.ref b11), .val (.ref b26), .val (.ref r56), .unset, .unset] [(.int (((p4.toUInt32 >>> ((6 : Int32) &&& 31).toUInt32).toInt32) &&& (3 : Int32)))])) (fun t k => XS.iand X56.here hx rfl (hb hby at_233) rfl k) ?_
  refine step (T56.setTop (mkF m 236 #[.val (.int p0), .val (.int p1), .val (.int p2), .val (.int p3), .val (.int p4), .val (.int lf), .val (.int f0), .val (.int f1), .val (.int lt), .val (.int t0), .val (.int t1), .val (.int z109_1), .val (.int z109_2), .val (.int z109_3), .val (.int z162_6), .val (.int z162_7), .val (.int z162_8), .val (.ref b11), .val (.ref b26), .val (.ref r56), .val (.int (((p4.toUInt32 >>> ((6 : Int32) &&& 31).toUInt32).toInt32) &&& (3 : Int32))), .unset] [])) (fun t k => XS.istore X56.here hx rfl (hb hby at_234) rfl (l' := #[.val (.int p0), .val (.int p1), .val (.int p2), .val (.int p3), .val (.int p4), .val (.int lf), .val (.int f0), .val (.int f1), .val (.int lt), .val (.int t0), .val (.int t1), .val (.int z109_1), .val (.int z109_2), .val (.int z109_3), .val (.int z162_6), .val (.int z162_7), .val (.int z162_8), .val (.ref b11), .val (.ref b26), .val (.ref r56), .val (.int (((p4.toUInt32 >>> ((6 : Int32) &&& 31).toUInt32).toInt32) &&& (3 : Int32))), .unset]) rfl k) ?_
  refine step (T56.setTop (mkF m 238 #[.val (.int p0), .val (.int p1), .val (.int p2), .val (.int p3), .val (.int p4), .val (.int lf), .val (.int f0), .val (.int f1), .val (.int lt), .val (.int t0), .val (.int t1), .val (.int z109_1), .val (.int z109_2), .val (.int z109_3), .val (.int z162_6), .val (.int z162_7), .val (.int z162_8), .val (.ref b11), .val (.ref b26), .val (.ref r56), .val (.int (((p4.toUInt32 >>> ((6 : Int32) &&& 31).toUInt32).toInt32) &&& (3 : Int32))), .unset] [(.int (((p4.toUInt32 >>> ((6 : Int32) &&& 31).toUInt32).toInt32) &&& (3 : Int32)))])) (fun t k => XS.iload X56.here hx rfl (hb hby at_236) rfl k) ?_
  refine step (T56.setTop (mkF m 239 #[.val (.int p0), .val (.int p1), .val (.int p2), .val (.int p3), .val (.int p4), .val (.int lf), .val (.int f0), .val (.int f1), .val (.int lt), .val (.int t0), .val (.int t1), .val (.int z109_1), .val (.int z109_2), .val (.int z109_3), .val (.int z162_6), .val (.int z162_7), .val (.int z162_8), .val (.ref b11), .val (.ref b26), .val (.ref r56), .val (.int (((p4.toUInt32 >>> ((6 : Int32) &&& 31).toUInt32).toInt32) &&& (3 : Int32))), .unset] [(.int (1 : Int32)), (.int (((p4.toUInt32 >>> ((6 : Int32) &&& 31).toUInt32).toInt32) &&& (3 : Int32)))])) (fun t k => XS.iconst X56.here hx rfl (hb hby at_238) k) ?_
  by_cases hc239_68 : (((p4.toUInt32 >>> ((6 : Int32) &&& 31).toUInt32).toInt32) &&& (3 : Int32)) = (1 : Int32)
  · -- pc 239: (((p4.toUInt32 >>> ((6 : Int32) &&& 31).toUInt32).toInt32) &&& (3 : Int32)) = (1 : Int32) True
    refine step (T56.setTop (mkF m 242 #[.val (.int p0), .val (.int p1), .val (.int p2), .val (.int p3), .val (.int p4), .val (.int lf), .val (.int f0), .val (.int f1), .val (.int lt), .val (.int t0), .val (.int t1), .val (.int z109_1), .val (.int z109_2), .val (.int z109_3), .val (.int z162_6), .val (.int z162_7), .val (.int z162_8), .val (.ref b11), .val (.ref b26), .val (.ref r56), .val (.int (((p4.toUInt32 >>> ((6 : Int32) &&& 31).toUInt32).toInt32) &&& (3 : Int32))), .unset] [])) (fun t k => XS.icmpNo X56.here hx rfl (hb hby at_239) rfl (teq hc239_68).2 k) ?_
    refine step (T56.setTop (mkF m 244 #[.val (.int p0), .val (.int p1), .val (.int p2), .val (.int p3), .val (.int p4), .val (.int lf), .val (.int f0), .val (.int f1), .val (.int lt), .val (.int t0), .val (.int t1), .val (.int z109_1), .val (.int z109_2), .val (.int z109_3), .val (.int z162_6), .val (.int z162_7), .val (.int z162_8), .val (.ref b11), .val (.ref b26), .val (.ref r56), .val (.int (((p4.toUInt32 >>> ((6 : Int32) &&& 31).toUInt32).toInt32) &&& (3 : Int32))), .unset] [(.ref b11)])) (fun t k => XS.aload X56.here hx rfl (hb hby at_242) rfl rfl k) ?_
    refine step (T56.setTop (mkF m 245 #[.val (.int p0), .val (.int p1), .val (.int p2), .val (.int p3), .val (.int p4), .val (.int lf), .val (.int f0), .val (.int f1), .val (.int lt), .val (.int t0), .val (.int t1), .val (.int z109_1), .val (.int z109_2), .val (.int z109_3), .val (.int z162_6), .val (.int z162_7), .val (.int z162_8), .val (.ref b11), .val (.ref b26), .val (.ref r56), .val (.int (((p4.toUInt32 >>> ((6 : Int32) &&& 31).toUInt32).toInt32) &&& (3 : Int32))), .unset] [.null, (.ref b11)])) (fun t k => XS.aconstNull X56.here hx rfl (hb hby at_244) k) ?_
    have f69 := (f57.keep K56q)
    have f70 := (((((q0_24.ext E26).keep K33q nin0).keep K40q nin0).keep K54q (ninS ne_b11_b26 nin0)).keep K56q nin0)
    have f71 := (((((q1_24.ext E26).keep K33q nin0).keep K40q nin0).keep K54q (ninS ne_b11_b26 nin0)).keep K56q nin0)
    have f72 := (f58.keep K56q)
    have f73 := (((((((Fc13.keep K15q nin0).keep K24q (ninS (Ne.symm ne_b11_r13) nin0)).ext E26).keep K33q nin0).keep K40q nin0).keep K54q (ninS ne_r13_b26 nin0)).keep K56q nin0)
    have f74 := ((((((f22.keep K24q (ninS (Ne.symm ne_b11_r13) nin0)).ext E26).keep K33q nin0).keep K40q nin0).keep K54q (ninS ne_r13_b26 nin0)).keep K56q nin0)
    have f75 := (f60.keep K56q)
    have f76 := ((((((Fc15.keep K24q (ninS (Ne.symm ne_b11_r15) nin0)).ext E26).keep K33q nin0).keep K40q nin0).keep K54q (ninS ne_r15_b26 nin0)).keep K56q nin0)
    have f77 := ((((((Fv15.keep K24q (ninS (Ne.symm ne_b11_r15) nin0)).ext E26).keep K33q nin0).keep K40q nin0).keep K54q (ninS ne_r15_b26 nin0)).keep K56q nin0)
    have f78 := (f59.keep K56q nin0)
    have f79 := (f61.keep K56q nin0)
    obtain ⟨cq80, kq80, q80a, q80b, q80c⟩ := isOf hZ e56 f69
    obtain ⟨_, _, ⟨T80, L80, k80, n80⟩, -, X80, ⟨Lc80, hQ80, l80, y80, z80⟩, st80⟩ := X56.virtualBack hx (y := (⟨"com/example/vertex_to_service/vertextoservice/core/Edge", "equals", "(Ljava/lang/Object;)Z"⟩ : MethodName)) (z := (⟨"com/example/vertex_to_service/vertextoservice/core/Edge", "equals", "(Ljava/lang/Object;)Z"⟩ : MethodName)) hown (mvT hZ (hw _ (List.mem_of_getElem? (i := 67) rfl))) (mvT hZ (hw _ (List.mem_of_getElem? (i := 68) rfl))) (notFace_of_selects (args := #[]) (mvT hZ (hw _ (List.mem_of_getElem? (i := 70) rfl)))) (mvT hZ (hw _ (List.mem_of_getElem? (i := 70) rfl))) (mvT hZ (hw _ (List.mem_of_getElem? (i := 69) rfl))) (by decide) (backOf (W := 0) (rm13_15 l Z a0 hw [] b11 cs r13 r15 b13 b15 kk13 lf f0 f1 kk15 lt t0 t1 h56 n0 (Nat.le_trans Z0 K56.1) f67 f69 f70 f71 f72 f73 f74 f75 f76 f77 f78 f79 gn_b11 ne_b11_r13 ne_b11_r15 ne_b11_b13 ne_b11_b15 gn_r13 ne_r13_r15 (Ne.symm nbr13) ne_r13_b15 gn_r15 (Ne.symm ne_b13_r15) (Ne.symm nbr15) gn_b13 ne_b13_b15 gn_b15 le_f0 le_f1 le_t0 le_t1 nne56 nne15 c_cs) hZ (hw _ (List.mem_of_getElem? (i := 71) rfl)) (hw _ (List.mem_of_getElem? (i := 2) rfl)) (by decide) (by decide)) q80a q80c (g := (mkF m 245 #[.val (.int p0), .val (.int p1), .val (.int p2), .val (.int p3), .val (.int p4), .val (.int lf), .val (.int f0), .val (.int f1), .val (.int lt), .val (.int t0), .val (.int t1), .val (.int z109_1), .val (.int z109_2), .val (.int z109_3), .val (.int z162_6), .val (.int z162_7), .val (.int z162_8), .val (.ref b11), .val (.ref b26), .val (.ref r56), .val (.int (((p4.toUInt32 >>> ((6 : Int32) &&& 31).toUInt32).toInt32) &&& (3 : Int32))), .unset] [.null, (.ref b11)])) rfl (by rw [hml]; rfl) (Steps.refl _) (argsL := [.null]) (rest := []) (lenOf pd_8 rfl) rfl (by show 2 * 0 + _ ≤ _; exact Nat.le_of_eq rfl) (hb hby at_245) (fun _ _ => ⟨rfl, e56, (by decide : 33 + 0 ≤ _), (by decide : 188 + 0 ≤ _)⟩)
    dsimp only [Pt.U, Pt.locs, Pt.cells, Pt.slots] at X80 l80 y80 z80 st80 hQ80
    subst l80 y80 z80
    obtain ⟨rfl, N80q, e80q⟩ := hQ80
    have N80 := Fr.app N56 N80q
    refine step (T80.setTop (mkF m 248 #[.val (.int p0), .val (.int p1), .val (.int p2), .val (.int p3), .val (.int p4), .val (.int lf), .val (.int f0), .val (.int f1), .val (.int lt), .val (.int t0), .val (.int t1), .val (.int z109_1), .val (.int z109_2), .val (.int z109_3), .val (.int z162_6), .val (.int z162_7), .val (.int z162_8), .val (.ref b11), .val (.ref b26), .val (.ref r56), .val (.int (((p4.toUInt32 >>> ((6 : Int32) &&& 31).toUInt32).toInt32) &&& (3 : Int32))), .unset] [(.int (0 : Int32))])) (fun t k => st80.trans k) ?_
    refine step (T80.setTop (mkF m 251 #[.val (.int p0), .val (.int p1), .val (.int p2), .val (.int p3), .val (.int p4), .val (.int lf), .val (.int f0), .val (.int f1), .val (.int lt), .val (.int t0), .val (.int t1), .val (.int z109_1), .val (.int z109_2), .val (.int z109_3), .val (.int z162_6), .val (.int z162_7), .val (.int z162_8), .val (.ref b11), .val (.ref b26), .val (.ref r56), .val (.int (((p4.toUInt32 >>> ((6 : Int32) &&& 31).toUInt32).toInt32) &&& (3 : Int32))), .unset] [])) (fun t k => XS.ifNo X80.here hx rfl (hb hby at_248) rfl ((if0 _ _).trans (teq (by decide : (0 : Int32) = (0 : Int32))).2) k) ?_
    refine step (T80.setTop (mkF m 252 #[.val (.int p0), .val (.int p1), .val (.int p2), .val (.int p3), .val (.int p4), .val (.int lf), .val (.int f0), .val (.int f1), .val (.int lt), .val (.int t0), .val (.int t1), .val (.int z109_1), .val (.int z109_2), .val (.int z109_3), .val (.int z162_6), .val (.int z162_7), .val (.int z162_8), .val (.ref b11), .val (.ref b26), .val (.ref r56), .val (.int (((p4.toUInt32 >>> ((6 : Int32) &&& 31).toUInt32).toInt32) &&& (3 : Int32))), .unset] [(.int (1 : Int32))])) (fun t k => XS.iconst X80.here hx rfl (hb hby at_251) k) ?_
    refine step (T80.setTop (mkF m 256 #[.val (.int p0), .val (.int p1), .val (.int p2), .val (.int p3), .val (.int p4), .val (.int lf), .val (.int f0), .val (.int f1), .val (.int lt), .val (.int t0), .val (.int t1), .val (.int z109_1), .val (.int z109_2), .val (.int z109_3), .val (.int z162_6), .val (.int z162_7), .val (.int z162_8), .val (.ref b11), .val (.ref b26), .val (.ref r56), .val (.int (((p4.toUInt32 >>> ((6 : Int32) &&& 31).toUInt32).toInt32) &&& (3 : Int32))), .unset] [(.int (1 : Int32))])) (fun t k => XS.goto X80.here hx rfl (pc0 := 252) (pc' := 256) rfl (hb hby at_252) (by decide) (by decide) k) ?_
    refine fin (v := some (.int (nar .boolean (1 : Int32)))) X80 hS (by rw [e80q]; exact (Nat.le_trans hk54 K56q.1)) (fun h => by cases h) ?_ (by decide) (by decide) (fun fs hr => retN X80 hx (t := .boolean) hret (by simp) (hb hby at_256) hr)
    show Q0 Z p0 p1 p2 p3 p4 cs h0 n0 (some (.int (nar .boolean (1 : Int32)))) T80.heap _
    rw [e80q]
    exact ⟨rfl, N80⟩
  · -- pc 239: (((p4.toUInt32 >>> ((6 : Int32) &&& 31).toUInt32).toInt32) &&& (3 : Int32)) = (1 : Int32) False
    refine step (T56.setTop (mkF m 257 #[.val (.int p0), .val (.int p1), .val (.int p2), .val (.int p3), .val (.int p4), .val (.int lf), .val (.int f0), .val (.int f1), .val (.int lt), .val (.int t0), .val (.int t1), .val (.int z109_1), .val (.int z109_2), .val (.int z109_3), .val (.int z162_6), .val (.int z162_7), .val (.int z162_8), .val (.ref b11), .val (.ref b26), .val (.ref r56), .val (.int (((p4.toUInt32 >>> ((6 : Int32) &&& 31).toUInt32).toInt32) &&& (3 : Int32))), .unset] [])) (fun t k => XS.icmpYes X56.here hx rfl (pc0 := 239) (pc' := 257) rfl (hb hby at_239) rfl (feq hc239_68).2 (by decide) (by decide) k) ?_
    refine step (T56.setTop (mkF m 259 #[.val (.int p0), .val (.int p1), .val (.int p2), .val (.int p3), .val (.int p4), .val (.int lf), .val (.int f0), .val (.int f1), .val (.int lt), .val (.int t0), .val (.int t1), .val (.int z109_1), .val (.int z109_2), .val (.int z109_3), .val (.int z162_6), .val (.int z162_7), .val (.int z162_8), .val (.ref b11), .val (.ref b26), .val (.ref r56), .val (.int (((p4.toUInt32 >>> ((6 : Int32) &&& 31).toUInt32).toInt32) &&& (3 : Int32))), .unset] [(.int (((p4.toUInt32 >>> ((6 : Int32) &&& 31).toUInt32).toInt32) &&& (3 : Int32)))])) (fun t k => XS.iload X56.here hx rfl (hb hby at_257) rfl k) ?_
    refine step (T56.setTop (mkF m 260 #[.val (.int p0), .val (.int p1), .val (.int p2), .val (.int p3), .val (.int p4), .val (.int lf), .val (.int f0), .val (.int f1), .val (.int lt), .val (.int t0), .val (.int t1), .val (.int z109_1), .val (.int z109_2), .val (.int z109_3), .val (.int z162_6), .val (.int z162_7), .val (.int z162_8), .val (.ref b11), .val (.ref b26), .val (.ref r56), .val (.int (((p4.toUInt32 >>> ((6 : Int32) &&& 31).toUInt32).toInt32) &&& (3 : Int32))), .unset] [(.int (2 : Int32)), (.int (((p4.toUInt32 >>> ((6 : Int32) &&& 31).toUInt32).toInt32) &&& (3 : Int32)))])) (fun t k => XS.iconst X56.here hx rfl (hb hby at_259) k) ?_
    by_cases hc260_81 : (((p4.toUInt32 >>> ((6 : Int32) &&& 31).toUInt32).toInt32) &&& (3 : Int32)) = (2 : Int32)
    · -- pc 260: (((p4.toUInt32 >>> ((6 : Int32) &&& 31).toUInt32).toInt32) &&& (3 : Int32)) = (2 : Int32) True
      refine step (T56.setTop (mkF m 263 #[.val (.int p0), .val (.int p1), .val (.int p2), .val (.int p3), .val (.int p4), .val (.int lf), .val (.int f0), .val (.int f1), .val (.int lt), .val (.int t0), .val (.int t1), .val (.int z109_1), .val (.int z109_2), .val (.int z109_3), .val (.int z162_6), .val (.int z162_7), .val (.int z162_8), .val (.ref b11), .val (.ref b26), .val (.ref r56), .val (.int (((p4.toUInt32 >>> ((6 : Int32) &&& 31).toUInt32).toInt32) &&& (3 : Int32))), .unset] [])) (fun t k => XS.icmpNo X56.here hx rfl (hb hby at_260) rfl (teq hc260_81).2 k) ?_
      refine step (T56.setTop (mkF m 265 #[.val (.int p0), .val (.int p1), .val (.int p2), .val (.int p3), .val (.int p4), .val (.int lf), .val (.int f0), .val (.int f1), .val (.int lt), .val (.int t0), .val (.int t1), .val (.int z109_1), .val (.int z109_2), .val (.int z109_3), .val (.int z162_6), .val (.int z162_7), .val (.int z162_8), .val (.ref b11), .val (.ref b26), .val (.ref r56), .val (.int (((p4.toUInt32 >>> ((6 : Int32) &&& 31).toUInt32).toInt32) &&& (3 : Int32))), .unset] [(.ref b11)])) (fun t k => XS.aload X56.here hx rfl (hb hby at_263) rfl rfl k) ?_
      refine step (T56.setTop (mkF m 267 #[.val (.int p0), .val (.int p1), .val (.int p2), .val (.int p3), .val (.int p4), .val (.int lf), .val (.int f0), .val (.int f1), .val (.int lt), .val (.int t0), .val (.int t1), .val (.int z109_1), .val (.int z109_2), .val (.int z109_3), .val (.int z162_6), .val (.int z162_7), .val (.int z162_8), .val (.ref b11), .val (.ref b26), .val (.ref r56), .val (.int (((p4.toUInt32 >>> ((6 : Int32) &&& 31).toUInt32).toInt32) &&& (3 : Int32))), .unset] [(.ref r56), (.ref b11)])) (fun t k => XS.aload X56.here hx rfl (hb hby at_265) rfl rfl k) ?_
      have f82 := (f57.keep K56q)
      have f83 := (((((q0_24.ext E26).keep K33q nin0).keep K40q nin0).keep K54q (ninS ne_b11_b26 nin0)).keep K56q nin0)
      have f84 := (((((q1_24.ext E26).keep K33q nin0).keep K40q nin0).keep K54q (ninS ne_b11_b26 nin0)).keep K56q nin0)
      have f85 := (f58.keep K56q)
      have f86 := (((((((Fc13.keep K15q nin0).keep K24q (ninS (Ne.symm ne_b11_r13) nin0)).ext E26).keep K33q nin0).keep K40q nin0).keep K54q (ninS ne_r13_b26 nin0)).keep K56q nin0)
      have f87 := ((((((f22.keep K24q (ninS (Ne.symm ne_b11_r13) nin0)).ext E26).keep K33q nin0).keep K40q nin0).keep K54q (ninS ne_r13_b26 nin0)).keep K56q nin0)
      have f88 := (f60.keep K56q)
      have f89 := ((((((Fc15.keep K24q (ninS (Ne.symm ne_b11_r15) nin0)).ext E26).keep K33q nin0).keep K40q nin0).keep K54q (ninS ne_r15_b26 nin0)).keep K56q nin0)
      have f90 := ((((((Fv15.keep K24q (ninS (Ne.symm ne_b11_r15) nin0)).ext E26).keep K33q nin0).keep K40q nin0).keep K54q (ninS ne_r15_b26 nin0)).keep K56q nin0)
      have f91 := (f59.keep K56q nin0)
      have f92 := (f61.keep K56q nin0)
      obtain ⟨cq93, kq93, q93a, q93b, q93c⟩ := isOf hZ e56 f82
      obtain ⟨_, _, ⟨T93, L93, k93, n93⟩, -, X93, ⟨Lc93, hQ93, l93, y93, z93⟩, st93⟩ := X56.virtualBack hx (y := (⟨"com/example/vertex_to_service/vertextoservice/core/Edge", "equals", "(Ljava/lang/Object;)Z"⟩ : MethodName)) (z := (⟨"com/example/vertex_to_service/vertextoservice/core/Edge", "equals", "(Ljava/lang/Object;)Z"⟩ : MethodName)) hown (mvT hZ (hw _ (List.mem_of_getElem? (i := 67) rfl))) (mvT hZ (hw _ (List.mem_of_getElem? (i := 68) rfl))) (notFace_of_selects (args := #[]) (mvT hZ (hw _ (List.mem_of_getElem? (i := 70) rfl)))) (mvT hZ (hw _ (List.mem_of_getElem? (i := 70) rfl))) (mvT hZ (hw _ (List.mem_of_getElem? (i := 69) rfl))) (by decide) (backOf (W := 0) (rm13_16 l Z a0 hw [] b11 r56 cs r13 r15 b56 b13 b15 kk56 lf f0 f1 kk13 kk15 lt t0 t1 h56 n0 (Nat.le_trans Z0 K56.1) f67 f82 f83 f84 Ex56 Fc56 Fv56 f85 f86 f87 f88 f89 f90 Va56 f91 f92 gn_b11 ne_b11_r56 ne_b11_r13 ne_b11_r15 ne_b11_b56 ne_b11_b13 ne_b11_b15 gn_r56 (Ne.symm ne_r13_r56) (Ne.symm ne_r15_r56) (Ne.symm nbr56) (Ne.symm ne_b13_r56) (Ne.symm ne_b15_r56) gn_r13 ne_r13_r15 ne_r13_b56 (Ne.symm nbr13) ne_r13_b15 gn_r15 ne_r15_b56 (Ne.symm ne_b13_r15) (Ne.symm nbr15) gn_b56 (Ne.symm ne_b13_b56) (Ne.symm ne_b15_b56) gn_b13 ne_b13_b15 gn_b15 le_f0 le_f1 le_t0 le_t1 nne56 nne15 c_cs) hZ (hw _ (List.mem_of_getElem? (i := 71) rfl)) (hw _ (List.mem_of_getElem? (i := 2) rfl)) (by decide) (by decide)) q93a q93c (g := (mkF m 267 #[.val (.int p0), .val (.int p1), .val (.int p2), .val (.int p3), .val (.int p4), .val (.int lf), .val (.int f0), .val (.int f1), .val (.int lt), .val (.int t0), .val (.int t1), .val (.int z109_1), .val (.int z109_2), .val (.int z109_3), .val (.int z162_6), .val (.int z162_7), .val (.int z162_8), .val (.ref b11), .val (.ref b26), .val (.ref r56), .val (.int (((p4.toUInt32 >>> ((6 : Int32) &&& 31).toUInt32).toInt32) &&& (3 : Int32))), .unset] [(.ref r56), (.ref b11)])) rfl (by rw [hml]; rfl) (Steps.refl _) (argsL := [(.ref r56)]) (rest := []) (lenOf pd_8 rfl) rfl (by show 2 * 0 + _ ≤ _; exact Nat.le_of_eq rfl) (hb hby at_267) (fun _ _ => ⟨rfl, e56, (by decide : 33 + 0 ≤ _), (by decide : 188 + 0 ≤ _)⟩)
      dsimp only [Pt.U, Pt.locs, Pt.cells, Pt.slots] at X93 l93 y93 z93 st93 hQ93
      subst l93 y93 z93
      obtain ⟨rfl, N93q, e93q⟩ := hQ93
      have N93 := Fr.app N56 N93q
      refine step (T93.setTop (mkF m 270 #[.val (.int p0), .val (.int p1), .val (.int p2), .val (.int p3), .val (.int p4), .val (.int lf), .val (.int f0), .val (.int f1), .val (.int lt), .val (.int t0), .val (.int t1), .val (.int z109_1), .val (.int z109_2), .val (.int z109_3), .val (.int z162_6), .val (.int z162_7), .val (.int z162_8), .val (.ref b11), .val (.ref b26), .val (.ref r56), .val (.int (((p4.toUInt32 >>> ((6 : Int32) &&& 31).toUInt32).toInt32) &&& (3 : Int32))), .unset] [(.int (0 : Int32))])) (fun t k => st93.trans k) ?_
      refine step (T93.setTop (mkF m 273 #[.val (.int p0), .val (.int p1), .val (.int p2), .val (.int p3), .val (.int p4), .val (.int lf), .val (.int f0), .val (.int f1), .val (.int lt), .val (.int t0), .val (.int t1), .val (.int z109_1), .val (.int z109_2), .val (.int z109_3), .val (.int z162_6), .val (.int z162_7), .val (.int z162_8), .val (.ref b11), .val (.ref b26), .val (.ref r56), .val (.int (((p4.toUInt32 >>> ((6 : Int32) &&& 31).toUInt32).toInt32) &&& (3 : Int32))), .unset] [])) (fun t k => XS.ifNo X93.here hx rfl (hb hby at_270) rfl ((if0 _ _).trans (teq (by decide : (0 : Int32) = (0 : Int32))).2) k) ?_
      refine step (T93.setTop (mkF m 274 #[.val (.int p0), .val (.int p1), .val (.int p2), .val (.int p3), .val (.int p4), .val (.int lf), .val (.int f0), .val (.int f1), .val (.int lt), .val (.int t0), .val (.int t1), .val (.int z109_1), .val (.int z109_2), .val (.int z109_3), .val (.int z162_6), .val (.int z162_7), .val (.int z162_8), .val (.ref b11), .val (.ref b26), .val (.ref r56), .val (.int (((p4.toUInt32 >>> ((6 : Int32) &&& 31).toUInt32).toInt32) &&& (3 : Int32))), .unset] [(.int (1 : Int32))])) (fun t k => XS.iconst X93.here hx rfl (hb hby at_273) k) ?_
      refine step (T93.setTop (mkF m 278 #[.val (.int p0), .val (.int p1), .val (.int p2), .val (.int p3), .val (.int p4), .val (.int lf), .val (.int f0), .val (.int f1), .val (.int lt), .val (.int t0), .val (.int t1), .val (.int z109_1), .val (.int z109_2), .val (.int z109_3), .val (.int z162_6), .val (.int z162_7), .val (.int z162_8), .val (.ref b11), .val (.ref b26), .val (.ref r56), .val (.int (((p4.toUInt32 >>> ((6 : Int32) &&& 31).toUInt32).toInt32) &&& (3 : Int32))), .unset] [(.int (1 : Int32))])) (fun t k => XS.goto X93.here hx rfl (pc0 := 274) (pc' := 278) rfl (hb hby at_274) (by decide) (by decide) k) ?_
      refine fin (v := some (.int (nar .boolean (1 : Int32)))) X93 hS (by rw [e93q]; exact (Nat.le_trans hk54 K56q.1)) (fun h => by cases h) ?_ (by decide) (by decide) (fun fs hr => retN X93 hx (t := .boolean) hret (by simp) (hb hby at_278) hr)
      show Q0 Z p0 p1 p2 p3 p4 cs h0 n0 (some (.int (nar .boolean (1 : Int32)))) T93.heap _
      rw [e93q]
      exact ⟨rfl, N93⟩
    · -- pc 260: (((p4.toUInt32 >>> ((6 : Int32) &&& 31).toUInt32).toInt32) &&& (3 : Int32)) = (2 : Int32) False
      refine step (T56.setTop (mkF m 279 #[.val (.int p0), .val (.int p1), .val (.int p2), .val (.int p3), .val (.int p4), .val (.int lf), .val (.int f0), .val (.int f1), .val (.int lt), .val (.int t0), .val (.int t1), .val (.int z109_1), .val (.int z109_2), .val (.int z109_3), .val (.int z162_6), .val (.int z162_7), .val (.int z162_8), .val (.ref b11), .val (.ref b26), .val (.ref r56), .val (.int (((p4.toUInt32 >>> ((6 : Int32) &&& 31).toUInt32).toInt32) &&& (3 : Int32))), .unset] [])) (fun t k => XS.icmpYes X56.here hx rfl (pc0 := 260) (pc' := 279) rfl (hb hby at_260) rfl (feq hc260_81).2 (by decide) (by decide) k) ?_
      refine step (T56.setTop (mkF m 281 #[.val (.int p0), .val (.int p1), .val (.int p2), .val (.int p3), .val (.int p4), .val (.int lf), .val (.int f0), .val (.int f1), .val (.int lt), .val (.int t0), .val (.int t1), .val (.int z109_1), .val (.int z109_2), .val (.int z109_3), .val (.int z162_6), .val (.int z162_7), .val (.int z162_8), .val (.ref b11), .val (.ref b26), .val (.ref r56), .val (.int (((p4.toUInt32 >>> ((6 : Int32) &&& 31).toUInt32).toInt32) &&& (3 : Int32))), .unset] [(.int (((p4.toUInt32 >>> ((6 : Int32) &&& 31).toUInt32).toInt32) &&& (3 : Int32)))])) (fun t k => XS.iload X56.here hx rfl (hb hby at_279) rfl k) ?_
      refine step (T56.setTop (mkF m 282 #[.val (.int p0), .val (.int p1), .val (.int p2), .val (.int p3), .val (.int p4), .val (.int lf), .val (.int f0), .val (.int f1), .val (.int lt), .val (.int t0), .val (.int t1), .val (.int z109_1), .val (.int z109_2), .val (.int z109_3), .val (.int z162_6), .val (.int z162_7), .val (.int z162_8), .val (.ref b11), .val (.ref b26), .val (.ref r56), .val (.int (((p4.toUInt32 >>> ((6 : Int32) &&& 31).toUInt32).toInt32) &&& (3 : Int32))), .unset] [(.int (3 : Int32)), (.int (((p4.toUInt32 >>> ((6 : Int32) &&& 31).toUInt32).toInt32) &&& (3 : Int32)))])) (fun t k => XS.iconst X56.here hx rfl (hb hby at_281) k) ?_
      by_cases hc282_94 : (((p4.toUInt32 >>> ((6 : Int32) &&& 31).toUInt32).toInt32) &&& (3 : Int32)) = (3 : Int32)
      · -- pc 282: (((p4.toUInt32 >>> ((6 : Int32) &&& 31).toUInt32).toInt32) &&& (3 : Int32)) = (3 : Int32) True
        refine step (T56.setTop (mkF m 285 #[.val (.int p0), .val (.int p1), .val (.int p2), .val (.int p3), .val (.int p4), .val (.int lf), .val (.int f0), .val (.int f1), .val (.int lt), .val (.int t0), .val (.int t1), .val (.int z109_1), .val (.int z109_2), .val (.int z109_3), .val (.int z162_6), .val (.int z162_7), .val (.int z162_8), .val (.ref b11), .val (.ref b26), .val (.ref r56), .val (.int (((p4.toUInt32 >>> ((6 : Int32) &&& 31).toUInt32).toInt32) &&& (3 : Int32))), .unset] [])) (fun t k => XS.icmpNo X56.here hx rfl (hb hby at_282) rfl (teq hc282_94).2 k) ?_
        refine step (T56.setTop (mkF m 287 #[.val (.int p0), .val (.int p1), .val (.int p2), .val (.int p3), .val (.int p4), .val (.int lf), .val (.int f0), .val (.int f1), .val (.int lt), .val (.int t0), .val (.int t1), .val (.int z109_1), .val (.int z109_2), .val (.int z109_3), .val (.int z162_6), .val (.int z162_7), .val (.int z162_8), .val (.ref b11), .val (.ref b26), .val (.ref r56), .val (.int (((p4.toUInt32 >>> ((6 : Int32) &&& 31).toUInt32).toInt32) &&& (3 : Int32))), .unset] [(.ref b11)])) (fun t k => XS.aload X56.here hx rfl (hb hby at_285) rfl rfl k) ?_
        refine step (T56.setTop (mkF m 289 #[.val (.int p0), .val (.int p1), .val (.int p2), .val (.int p3), .val (.int p4), .val (.int lf), .val (.int f0), .val (.int f1), .val (.int lt), .val (.int t0), .val (.int t1), .val (.int z109_1), .val (.int z109_2), .val (.int z109_3), .val (.int z162_6), .val (.int z162_7), .val (.int z162_8), .val (.ref b11), .val (.ref b26), .val (.ref r56), .val (.int (((p4.toUInt32 >>> ((6 : Int32) &&& 31).toUInt32).toInt32) &&& (3 : Int32))), .unset] [(.ref b11), (.ref b11)])) (fun t k => XS.aload X56.here hx rfl (hb hby at_287) rfl rfl k) ?_
        have f95 := (f57.keep K56q)
        have f96 := (((((q0_24.ext E26).keep K33q nin0).keep K40q nin0).keep K54q (ninS ne_b11_b26 nin0)).keep K56q nin0)
        have f97 := (((((q1_24.ext E26).keep K33q nin0).keep K40q nin0).keep K54q (ninS ne_b11_b26 nin0)).keep K56q nin0)
        have f98 := (f58.keep K56q)
        have f99 := (((((((Fc13.keep K15q nin0).keep K24q (ninS (Ne.symm ne_b11_r13) nin0)).ext E26).keep K33q nin0).keep K40q nin0).keep K54q (ninS ne_r13_b26 nin0)).keep K56q nin0)
        have f100 := ((((((f22.keep K24q (ninS (Ne.symm ne_b11_r13) nin0)).ext E26).keep K33q nin0).keep K40q nin0).keep K54q (ninS ne_r13_b26 nin0)).keep K56q nin0)
        have f101 := (f60.keep K56q)
        have f102 := ((((((Fc15.keep K24q (ninS (Ne.symm ne_b11_r15) nin0)).ext E26).keep K33q nin0).keep K40q nin0).keep K54q (ninS ne_r15_b26 nin0)).keep K56q nin0)
        have f103 := ((((((Fv15.keep K24q (ninS (Ne.symm ne_b11_r15) nin0)).ext E26).keep K33q nin0).keep K40q nin0).keep K54q (ninS ne_r15_b26 nin0)).keep K56q nin0)
        have f104 := (f59.keep K56q nin0)
        have f105 := (f61.keep K56q nin0)
        obtain ⟨cq106, kq106, q106a, q106b, q106c⟩ := isOf hZ e56 f95
        obtain ⟨_, _, ⟨T106, L106, k106, n106⟩, -, X106, ⟨Lc106, hQ106, l106, y106, z106⟩, st106⟩ := X56.virtualBack hx (y := (⟨"com/example/vertex_to_service/vertextoservice/core/Edge", "equals", "(Ljava/lang/Object;)Z"⟩ : MethodName)) (z := (⟨"com/example/vertex_to_service/vertextoservice/core/Edge", "equals", "(Ljava/lang/Object;)Z"⟩ : MethodName)) hown (mvT hZ (hw _ (List.mem_of_getElem? (i := 67) rfl))) (mvT hZ (hw _ (List.mem_of_getElem? (i := 68) rfl))) (notFace_of_selects (args := #[]) (mvT hZ (hw _ (List.mem_of_getElem? (i := 70) rfl)))) (mvT hZ (hw _ (List.mem_of_getElem? (i := 70) rfl))) (mvT hZ (hw _ (List.mem_of_getElem? (i := 69) rfl))) (by decide) (backOf (W := 0) (rm13_17 l Z a0 hw [] b11 cs r13 r15 b13 b15 kk13 lf f0 f1 kk15 lt t0 t1 h56 n0 (Nat.le_trans Z0 K56.1) f67 f95 f96 f97 f98 f99 f100 f101 f102 f103 f104 f105 gn_b11 ne_b11_r13 ne_b11_r15 ne_b11_b13 ne_b11_b15 gn_r13 ne_r13_r15 (Ne.symm nbr13) ne_r13_b15 gn_r15 (Ne.symm ne_b13_r15) (Ne.symm nbr15) gn_b13 ne_b13_b15 gn_b15 le_f0 le_f1 le_t0 le_t1 nne56 nne15 c_cs) hZ (hw _ (List.mem_of_getElem? (i := 71) rfl)) (hw _ (List.mem_of_getElem? (i := 2) rfl)) (by decide) (by decide)) q106a q106c (g := (mkF m 289 #[.val (.int p0), .val (.int p1), .val (.int p2), .val (.int p3), .val (.int p4), .val (.int lf), .val (.int f0), .val (.int f1), .val (.int lt), .val (.int t0), .val (.int t1), .val (.int z109_1), .val (.int z109_2), .val (.int z109_3), .val (.int z162_6), .val (.int z162_7), .val (.int z162_8), .val (.ref b11), .val (.ref b26), .val (.ref r56), .val (.int (((p4.toUInt32 >>> ((6 : Int32) &&& 31).toUInt32).toInt32) &&& (3 : Int32))), .unset] [(.ref b11), (.ref b11)])) rfl (by rw [hml]; rfl) (Steps.refl _) (argsL := [(.ref b11)]) (rest := []) (lenOf pd_8 rfl) rfl (by show 2 * 0 + _ ≤ _; exact Nat.le_of_eq rfl) (hb hby at_289) (fun _ _ => ⟨rfl, e56, (by decide : 33 + 0 ≤ _), (by decide : 188 + 0 ≤ _)⟩)
        dsimp only [Pt.U, Pt.locs, Pt.cells, Pt.slots] at X106 l106 y106 z106 st106 hQ106
        subst l106 y106 z106
        obtain ⟨rfl, N106q, e106q⟩ := hQ106
        have N106 := Fr.app N56 N106q
        refine step (T106.setTop (mkF m 292 #[.val (.int p0), .val (.int p1), .val (.int p2), .val (.int p3), .val (.int p4), .val (.int lf), .val (.int f0), .val (.int f1), .val (.int lt), .val (.int t0), .val (.int t1), .val (.int z109_1), .val (.int z109_2), .val (.int z109_3), .val (.int z162_6), .val (.int z162_7), .val (.int z162_8), .val (.ref b11), .val (.ref b26), .val (.ref r56), .val (.int (((p4.toUInt32 >>> ((6 : Int32) &&& 31).toUInt32).toInt32) &&& (3 : Int32))), .unset] [(.int (1 : Int32))])) (fun t k => st106.trans k) ?_
        refine fin (v := some (.int (nar .boolean (1 : Int32)))) X106 hS (by rw [e106q]; exact (Nat.le_trans hk54 K56q.1)) (fun h => by cases h) ?_ (by decide) (by decide) (fun fs hr => retN X106 hx (t := .boolean) hret (by simp) (hb hby at_292) hr)
        show Q0 Z p0 p1 p2 p3 p4 cs h0 n0 (some (.int (nar .boolean (1 : Int32)))) T106.heap _
        rw [e106q]
        exact ⟨rfl, N106⟩
      · -- pc 282: (((p4.toUInt32 >>> ((6 : Int32) &&& 31).toUInt32).toInt32) &&& (3 : Int32)) = (3 : Int32) False
        refine step (T56.setTop (mkF m 293 #[.val (.int p0), .val (.int p1), .val (.int p2), .val (.int p3), .val (.int p4), .val (.int lf), .val (.int f0), .val (.int f1), .val (.int lt), .val (.int t0), .val (.int t1), .val (.int z109_1), .val (.int z109_2), .val (.int z109_3), .val (.int z162_6), .val (.int z162_7), .val (.int z162_8), .val (.ref b11), .val (.ref b26), .val (.ref r56), .val (.int (((p4.toUInt32 >>> ((6 : Int32) &&& 31).toUInt32).toInt32) &&& (3 : Int32))), .unset] [])) (fun t k => XS.icmpYes X56.here hx rfl (pc0 := 282) (pc' := 293) rfl (hb hby at_282) rfl (feq hc282_94).2 (by decide) (by decide) k) ?_
        refine step (T56.setTop (mkF m 295 #[.val (.int p0), .val (.int p1), .val (.int p2), .val (.int p3), .val (.int p4), .val (.int lf), .val (.int f0), .val (.int f1), .val (.int lt), .val (.int t0), .val (.int t1), .val (.int z109_1), .val (.int z109_2), .val (.int z109_3), .val (.int z162_6), .val (.int z162_7), .val (.int z162_8), .val (.ref b11), .val (.ref b26), .val (.ref r56), .val (.int (((p4.toUInt32 >>> ((6 : Int32) &&& 31).toUInt32).toInt32) &&& (3 : Int32))), .unset] [(.int lf)])) (fun t k => XS.iload X56.here hx rfl (hb hby at_293) rfl k) ?_
        refine step (T56.setTop (mkF m 297 #[.val (.int p0), .val (.int p1), .val (.int p2), .val (.int p3), .val (.int p4), .val (.int lf), .val (.int f0), .val (.int f1), .val (.int lt), .val (.int t0), .val (.int t1), .val (.int z109_1), .val (.int z109_2), .val (.int z109_3), .val (.int z162_6), .val (.int z162_7), .val (.int z162_8), .val (.ref b11), .val (.ref b26), .val (.ref r56), .val (.int (((p4.toUInt32 >>> ((6 : Int32) &&& 31).toUInt32).toInt32) &&& (3 : Int32))), .unset] [(.int f0), (.int lf)])) (fun t k => XS.iload X56.here hx rfl (hb hby at_295) rfl k) ?_
        refine step (T56.setTop (mkF m 299 #[.val (.int p0), .val (.int p1), .val (.int p2), .val (.int p3), .val (.int p4), .val (.int lf), .val (.int f0), .val (.int f1), .val (.int lt), .val (.int t0), .val (.int t1), .val (.int z109_1), .val (.int z109_2), .val (.int z109_3), .val (.int z162_6), .val (.int z162_7), .val (.int z162_8), .val (.ref b11), .val (.ref b26), .val (.ref r56), .val (.int (((p4.toUInt32 >>> ((6 : Int32) &&& 31).toUInt32).toInt32) &&& (3 : Int32))), .unset] [(.int f1), (.int f0), (.int lf)])) (fun t k => XS.iload X56.here hx rfl (hb hby at_297) rfl k) ?_
        refine step (T56.setTop (mkF m 301 #[.val (.int p0), .val (.int p1), .val (.int p2), .val (.int p3), .val (.int p4), .val (.int lf), .val (.int f0), .val (.int f1), .val (.int lt), .val (.int t0), .val (.int t1), .val (.int z109_1), .val (.int z109_2), .val (.int z109_3), .val (.int z162_6), .val (.int z162_7), .val (.int z162_8), .val (.ref b11), .val (.ref b26), .val (.ref r56), .val (.int (((p4.toUInt32 >>> ((6 : Int32) &&& 31).toUInt32).toInt32) &&& (3 : Int32))), .unset] [(.int z109_1), (.int f1), (.int f0), (.int lf)])) (fun t k => XS.iload X56.here hx rfl (hb hby at_299) rfl k) ?_
        refine step (T56.setTop (mkF m 303 #[.val (.int p0), .val (.int p1), .val (.int p2), .val (.int p3), .val (.int p4), .val (.int lf), .val (.int f0), .val (.int f1), .val (.int lt), .val (.int t0), .val (.int t1), .val (.int z109_1), .val (.int z109_2), .val (.int z109_3), .val (.int z162_6), .val (.int z162_7), .val (.int z162_8), .val (.ref b11), .val (.ref b26), .val (.ref r56), .val (.int (((p4.toUInt32 >>> ((6 : Int32) &&& 31).toUInt32).toInt32) &&& (3 : Int32))), .unset] [(.int z109_2), (.int z109_1), (.int f1), (.int f0), (.int lf)])) (fun t k => XS.iload X56.here hx rfl (hb hby at_301) rfl k) ?_
        refine step (T56.setTop (mkF m 305 #[.val (.int p0), .val (.int p1), .val (.int p2), .val (.int p3), .val (.int p4), .val (.int lf), .val (.int f0), .val (.int f1), .val (.int lt), .val (.int t0), .val (.int t1), .val (.int z109_1), .val (.int z109_2), .val (.int z109_3), .val (.int z162_6), .val (.int z162_7), .val (.int z162_8), .val (.ref b11), .val (.ref b26), .val (.ref r56), .val (.int (((p4.toUInt32 >>> ((6 : Int32) &&& 31).toUInt32).toInt32) &&& (3 : Int32))), .unset] [(.int z109_3), (.int z109_2), (.int z109_1), (.int f1), (.int f0), (.int lf)])) (fun t k => XS.iload X56.here hx rfl (hb hby at_303) rfl k) ?_
        obtain ⟨_, _, ⟨T107, L107, k107, n107⟩, -, X107, ⟨Lc107, hQ107, l107, y107, z107⟩, st107⟩ := Jvm.LawKit.callS X56 hx (y := (⟨"com/example/vertex_to_service/vertextoservice/core/EdgeEqualsPinLaw", "same", "(ICCICC)Z"⟩ : MethodName)) hown (mvT hZ (hw _ (List.mem_of_getElem? (i := 64) rfl))) (mvT hZ (hw _ (List.mem_of_getElem? (i := 65) rfl))) (mvT hZ (hw _ (List.mem_of_getElem? (i := 5) rfl))) (mvT hZ (hw _ (List.mem_of_getElem? (i := 66) rfl))) (by decide) (backOf (W := 0) (rm12_19 l Z a0 hw [] lf f0 f1 z109_1 z109_2 z109_3 h56 n0 (Nat.le_trans Z0 K56.1) le_f0 le_f1 le_z109_2 le_z109_3 nne56 nne33) hZ (hw _ (List.mem_of_getElem? (i := 66) rfl)) (hw _ (List.mem_of_getElem? (i := 5) rfl)) (by decide) (by decide)) (g := (mkF m 305 #[.val (.int p0), .val (.int p1), .val (.int p2), .val (.int p3), .val (.int p4), .val (.int lf), .val (.int f0), .val (.int f1), .val (.int lt), .val (.int t0), .val (.int t1), .val (.int z109_1), .val (.int z109_2), .val (.int z109_3), .val (.int z162_6), .val (.int z162_7), .val (.int z162_8), .val (.ref b11), .val (.ref b26), .val (.ref r56), .val (.int (((p4.toUInt32 >>> ((6 : Int32) &&& 31).toUInt32).toInt32) &&& (3 : Int32))), .unset] [(.int z109_3), (.int z109_2), (.int z109_1), (.int f1), (.int f0), (.int lf)])) rfl (by rw [hml]; rfl) (argsL := [(.int lf), (.int f0), (.int f1), (.int z109_1), (.int z109_2), (.int z109_3)]) (rest := []) (lenOf pd_9 rfl) rfl (by show 2 * 0 + _ ≤ _; exact Nat.le_of_eq rfl) (hb hby at_305) (fun _ _ => ⟨rfl, e56, (by decide : 33 + 0 ≤ _), (by decide : 188 + 0 ≤ _)⟩)
        dsimp only [Pt.U, Pt.locs, Pt.cells, Pt.slots] at X107 l107 y107 z107 st107 hQ107
        subst l107 y107 z107
        obtain ⟨z_1_107, rfl, N107q, e107q, hz_1_107⟩ := hQ107
        have N107 := Fr.app N56 N107q
        refine step (T107.setTop (mkF m 308 #[.val (.int p0), .val (.int p1), .val (.int p2), .val (.int p3), .val (.int p4), .val (.int lf), .val (.int f0), .val (.int f1), .val (.int lt), .val (.int t0), .val (.int t1), .val (.int z109_1), .val (.int z109_2), .val (.int z109_3), .val (.int z162_6), .val (.int z162_7), .val (.int z162_8), .val (.ref b11), .val (.ref b26), .val (.ref r56), .val (.int (((p4.toUInt32 >>> ((6 : Int32) &&& 31).toUInt32).toInt32) &&& (3 : Int32))), .unset] [(.int z_1_107)])) (fun t k => st107 t k) ?_
        by_cases hc308_108 : z_1_107 = (0 : Int32)
        · -- pc 308: z_1_107 = (0 : Int32) True
          refine step (T107.setTop (mkF m 333 #[.val (.int p0), .val (.int p1), .val (.int p2), .val (.int p3), .val (.int p4), .val (.int lf), .val (.int f0), .val (.int f1), .val (.int lt), .val (.int t0), .val (.int t1), .val (.int z109_1), .val (.int z109_2), .val (.int z109_3), .val (.int z162_6), .val (.int z162_7), .val (.int z162_8), .val (.ref b11), .val (.ref b26), .val (.ref r56), .val (.int (((p4.toUInt32 >>> ((6 : Int32) &&& 31).toUInt32).toInt32) &&& (3 : Int32))), .unset] [])) (fun t k => XS.ifYes X107.here hx rfl (pc0 := 308) (pc' := 333) rfl (hb hby at_308) rfl ((if0 _ _).trans (teq hc308_108).1) (by decide) (by decide) k) ?_
          refine step (T107.setTop (mkF m 334 #[.val (.int p0), .val (.int p1), .val (.int p2), .val (.int p3), .val (.int p4), .val (.int lf), .val (.int f0), .val (.int f1), .val (.int lt), .val (.int t0), .val (.int t1), .val (.int z109_1), .val (.int z109_2), .val (.int z109_3), .val (.int z162_6), .val (.int z162_7), .val (.int z162_8), .val (.ref b11), .val (.ref b26), .val (.ref r56), .val (.int (((p4.toUInt32 >>> ((6 : Int32) &&& 31).toUInt32).toInt32) &&& (3 : Int32))), .unset] [(.int (0 : Int32))])) (fun t k => XS.iconst X107.here hx rfl (hb hby at_333) k) ?_
          refine step (T107.setTop (mkF m 336 #[.val (.int p0), .val (.int p1), .val (.int p2), .val (.int p3), .val (.int p4), .val (.int lf), .val (.int f0), .val (.int f1), .val (.int lt), .val (.int t0), .val (.int t1), .val (.int z109_1), .val (.int z109_2), .val (.int z109_3), .val (.int z162_6), .val (.int z162_7), .val (.int z162_8), .val (.ref b11), .val (.ref b26), .val (.ref r56), .val (.int (((p4.toUInt32 >>> ((6 : Int32) &&& 31).toUInt32).toInt32) &&& (3 : Int32))), .val (.int (0 : Int32))] [])) (fun t k => XS.istore X107.here hx rfl (hb hby at_334) rfl (l' := #[.val (.int p0), .val (.int p1), .val (.int p2), .val (.int p3), .val (.int p4), .val (.int lf), .val (.int f0), .val (.int f1), .val (.int lt), .val (.int t0), .val (.int t1), .val (.int z109_1), .val (.int z109_2), .val (.int z109_3), .val (.int z162_6), .val (.int z162_7), .val (.int z162_8), .val (.ref b11), .val (.ref b26), .val (.ref r56), .val (.int (((p4.toUInt32 >>> ((6 : Int32) &&& 31).toUInt32).toInt32) &&& (3 : Int32))), .val (.int (0 : Int32))]) rfl k) ?_
          refine step (T107.setTop (mkF m 338 #[.val (.int p0), .val (.int p1), .val (.int p2), .val (.int p3), .val (.int p4), .val (.int lf), .val (.int f0), .val (.int f1), .val (.int lt), .val (.int t0), .val (.int t1), .val (.int z109_1), .val (.int z109_2), .val (.int z109_3), .val (.int z162_6), .val (.int z162_7), .val (.int z162_8), .val (.ref b11), .val (.ref b26), .val (.ref r56), .val (.int (((p4.toUInt32 >>> ((6 : Int32) &&& 31).toUInt32).toInt32) &&& (3 : Int32))), .val (.int (0 : Int32))] [(.ref b11)])) (fun t k => XS.aload X107.here hx rfl (hb hby at_336) rfl rfl k) ?_
          refine step (T107.setTop (mkF m 340 #[.val (.int p0), .val (.int p1), .val (.int p2), .val (.int p3), .val (.int p4), .val (.int lf), .val (.int f0), .val (.int f1), .val (.int lt), .val (.int t0), .val (.int t1), .val (.int z109_1), .val (.int z109_2), .val (.int z109_3), .val (.int z162_6), .val (.int z162_7), .val (.int z162_8), .val (.ref b11), .val (.ref b26), .val (.ref r56), .val (.int (((p4.toUInt32 >>> ((6 : Int32) &&& 31).toUInt32).toInt32) &&& (3 : Int32))), .val (.int (0 : Int32))] [(.ref b26), (.ref b11)])) (fun t k => XS.aload X107.here hx rfl (hb hby at_338) rfl rfl k) ?_
          have f109 := (f57.keep K56q)
          have f110 := (((((q0_24.ext E26).keep K33q nin0).keep K40q nin0).keep K54q (ninS ne_b11_b26 nin0)).keep K56q nin0)
          have f111 := (((((q1_24.ext E26).keep K33q nin0).keep K40q nin0).keep K54q (ninS ne_b11_b26 nin0)).keep K56q nin0)
          have f112 := (f62.keep K56q)
          have f113 := (q0_54.keep K56q nin0)
          have f114 := (q1_54.keep K56q nin0)
          have f115 := (f58.keep K56q)
          have f116 := (((((((Fc13.keep K15q nin0).keep K24q (ninS (Ne.symm ne_b11_r13) nin0)).ext E26).keep K33q nin0).keep K40q nin0).keep K54q (ninS ne_r13_b26 nin0)).keep K56q nin0)
          have f117 := ((((((f22.keep K24q (ninS (Ne.symm ne_b11_r13) nin0)).ext E26).keep K33q nin0).keep K40q nin0).keep K54q (ninS ne_r13_b26 nin0)).keep K56q nin0)
          have f118 := (f60.keep K56q)
          have f119 := ((((((Fc15.keep K24q (ninS (Ne.symm ne_b11_r15) nin0)).ext E26).keep K33q nin0).keep K40q nin0).keep K54q (ninS ne_r15_b26 nin0)).keep K56q nin0)
          have f120 := ((((((Fv15.keep K24q (ninS (Ne.symm ne_b11_r15) nin0)).ext E26).keep K33q nin0).keep K40q nin0).keep K54q (ninS ne_r15_b26 nin0)).keep K56q nin0)
          have f121 := (f63.keep K56q)
          have f122 := (((Fc33.keep K40q nin0).keep K54q (ninS (Ne.symm ne_b26_r33) nin0)).keep K56q nin0)
          have f123 := ((f52.keep K54q (ninS (Ne.symm ne_b26_r33) nin0)).keep K56q nin0)
          have f124 := (f65.keep K56q)
          have f125 := ((Fc40.keep K54q (ninS (Ne.symm ne_b26_r40) nin0)).keep K56q nin0)
          have f126 := ((Fv40.keep K54q (ninS (Ne.symm ne_b26_r40) nin0)).keep K56q nin0)
          have f127 := (f59.keep K56q nin0)
          have f128 := (f61.keep K56q nin0)
          have f129 := (f64.keep K56q nin0)
          have f130 := (f66.keep K56q nin0)
          obtain ⟨cq131, kq131, q131a, q131b, q131c⟩ := isOf hZ e107q f109
          obtain ⟨_, _, ⟨T131, L131, k131, n131⟩, -, X131, ⟨Lc131, hQ131, l131, y131, z131⟩, st131⟩ := X107.virtualBack hx (y := (⟨"com/example/vertex_to_service/vertextoservice/core/Edge", "equals", "(Ljava/lang/Object;)Z"⟩ : MethodName)) (z := (⟨"com/example/vertex_to_service/vertextoservice/core/Edge", "equals", "(Ljava/lang/Object;)Z"⟩ : MethodName)) hown (mvT hZ (hw _ (List.mem_of_getElem? (i := 67) rfl))) (mvT hZ (hw _ (List.mem_of_getElem? (i := 68) rfl))) (notFace_of_selects (args := #[]) (mvT hZ (hw _ (List.mem_of_getElem? (i := 70) rfl)))) (mvT hZ (hw _ (List.mem_of_getElem? (i := 70) rfl))) (mvT hZ (hw _ (List.mem_of_getElem? (i := 69) rfl))) (by decide) (backOf (W := 0) (rm13_20 l Z a0 hw [] b11 b26 cs r13 r15 r33 r40 b13 b15 b33 b40 kk13 lf f0 f1 kk15 lt t0 t1 kk33 z109_1 z109_2 z109_3 kk40 z162_6 z162_7 z162_8 h56 n0 (Nat.le_trans Z0 K56.1) f67 f109 f110 f111 f112 f113 f114 f115 f116 f117 f118 f119 f120 f121 f122 f123 f124 f125 f126 f127 f128 f129 f130 gn_b11 ne_b11_b26 ne_b11_r13 ne_b11_r15 ne_b11_r33 ne_b11_r40 ne_b11_b13 ne_b11_b15 ne_b11_b33 ne_b11_b40 gn_b26 (Ne.symm ne_r13_b26) (Ne.symm ne_r15_b26) ne_b26_r33 ne_b26_r40 (Ne.symm ne_b13_b26) (Ne.symm ne_b15_b26) ne_b26_b33 gn_r13 ne_r13_r15 ne_r13_r33 ne_r13_r40 (Ne.symm nbr13) ne_r13_b15 ne_r13_b33 gn_r15 ne_r15_r33 ne_r15_r40 (Ne.symm ne_b13_r15) (Ne.symm nbr15) ne_r15_b33 gn_r33 ne_r33_r40 (Ne.symm ne_b13_r33) (Ne.symm ne_b15_r33) (Ne.symm nbr33) gn_r40 (Ne.symm ne_b13_r40) (Ne.symm ne_b15_r40) (Ne.symm ne_b33_r40) gn_b13 ne_b13_b15 ne_b13_b33 gn_b15 ne_b15_b33 gn_b33 gn_b40 (Ne.symm ne_b26_b40) (Ne.symm ne_r13_b40) (Ne.symm ne_r15_b40) (Ne.symm ne_r33_b40) nbr40 (Ne.symm ne_b13_b40) (Ne.symm ne_b15_b40) (Ne.symm ne_b33_b40) le_f0 le_f1 le_t0 le_t1 le_z109_2 le_z109_3 le_z162_7 le_z162_8 nne56 nne15 nne33 nne40 c_cs) hZ (hw _ (List.mem_of_getElem? (i := 71) rfl)) (hw _ (List.mem_of_getElem? (i := 2) rfl)) (by decide) (by decide)) q131a q131c (g := (mkF m 340 #[.val (.int p0), .val (.int p1), .val (.int p2), .val (.int p3), .val (.int p4), .val (.int lf), .val (.int f0), .val (.int f1), .val (.int lt), .val (.int t0), .val (.int t1), .val (.int z109_1), .val (.int z109_2), .val (.int z109_3), .val (.int z162_6), .val (.int z162_7), .val (.int z162_8), .val (.ref b11), .val (.ref b26), .val (.ref r56), .val (.int (((p4.toUInt32 >>> ((6 : Int32) &&& 31).toUInt32).toInt32) &&& (3 : Int32))), .val (.int (0 : Int32))] [(.ref b26), (.ref b11)])) rfl (by rw [hml]; rfl) (Steps.refl _) (argsL := [(.ref b26)]) (rest := []) (lenOf pd_8 rfl) rfl (by show 2 * 0 + _ ≤ _; exact Nat.le_of_eq rfl) (hb hby at_340) (fun _ _ => ⟨rfl, e107q, (by decide : 33 + 0 ≤ _), (by decide : 188 + 0 ≤ _)⟩)
          dsimp only [Pt.U, Pt.locs, Pt.cells, Pt.slots] at X131 l131 y131 z131 st131 hQ131
          subst l131 y131 z131
          obtain ⟨y1_131, rfl, N131q, e131q, hy1_131⟩ := hQ131
          have N131 := Fr.app N107 N131q
          refine step (T131.setTop (mkF m 343 #[.val (.int p0), .val (.int p1), .val (.int p2), .val (.int p3), .val (.int p4), .val (.int lf), .val (.int f0), .val (.int f1), .val (.int lt), .val (.int t0), .val (.int t1), .val (.int z109_1), .val (.int z109_2), .val (.int z109_3), .val (.int z162_6), .val (.int z162_7), .val (.int z162_8), .val (.ref b11), .val (.ref b26), .val (.ref r56), .val (.int (((p4.toUInt32 >>> ((6 : Int32) &&& 31).toUInt32).toInt32) &&& (3 : Int32))), .val (.int (0 : Int32))] [(.int y1_131)])) (fun t k => st131.trans k) ?_
          refine step (T131.setTop (mkF m 345 #[.val (.int p0), .val (.int p1), .val (.int p2), .val (.int p3), .val (.int p4), .val (.int lf), .val (.int f0), .val (.int f1), .val (.int lt), .val (.int t0), .val (.int t1), .val (.int z109_1), .val (.int z109_2), .val (.int z109_3), .val (.int z162_6), .val (.int z162_7), .val (.int z162_8), .val (.ref b11), .val (.ref b26), .val (.ref r56), .val (.int (((p4.toUInt32 >>> ((6 : Int32) &&& 31).toUInt32).toInt32) &&& (3 : Int32))), .val (.int (0 : Int32))] [(.int (0 : Int32)), (.int y1_131)])) (fun t k => XS.iload X131.here hx rfl (hb hby at_343) rfl k) ?_
          have hc345_132 : y1_131 = (0 : Int32) := (own_plain21 p0 p1 p2 p3 p4 cs lf f0 f1 lt t0 t1 z109_1 z109_2 z109_3 z162_6 z162_7 z162_8 z_1_107 y1_131 hlf hf0 hf1 hlt ht0 ht1 hz109_1 hz109_2 hz109_3 hz162_6 hz162_7 hz162_8 hz_1_107 hy1_131 hc239_68 hc260_81 hc282_94 hc308_108)
          refine step (T131.setTop (mkF m 348 #[.val (.int p0), .val (.int p1), .val (.int p2), .val (.int p3), .val (.int p4), .val (.int lf), .val (.int f0), .val (.int f1), .val (.int lt), .val (.int t0), .val (.int t1), .val (.int z109_1), .val (.int z109_2), .val (.int z109_3), .val (.int z162_6), .val (.int z162_7), .val (.int z162_8), .val (.ref b11), .val (.ref b26), .val (.ref r56), .val (.int (((p4.toUInt32 >>> ((6 : Int32) &&& 31).toUInt32).toInt32) &&& (3 : Int32))), .val (.int (0 : Int32))] [])) (fun t k => XS.icmpNo X131.here hx rfl (hb hby at_345) rfl (teq hc345_132).2 k) ?_
          refine step (T131.setTop (mkF m 350 #[.val (.int p0), .val (.int p1), .val (.int p2), .val (.int p3), .val (.int p4), .val (.int lf), .val (.int f0), .val (.int f1), .val (.int lt), .val (.int t0), .val (.int t1), .val (.int z109_1), .val (.int z109_2), .val (.int z109_3), .val (.int z162_6), .val (.int z162_7), .val (.int z162_8), .val (.ref b11), .val (.ref b26), .val (.ref r56), .val (.int (((p4.toUInt32 >>> ((6 : Int32) &&& 31).toUInt32).toInt32) &&& (3 : Int32))), .val (.int (0 : Int32))] [(.ref b26)])) (fun t k => XS.aload X131.here hx rfl (hb hby at_348) rfl rfl k) ?_
          refine step (T131.setTop (mkF m 352 #[.val (.int p0), .val (.int p1), .val (.int p2), .val (.int p3), .val (.int p4), .val (.int lf), .val (.int f0), .val (.int f1), .val (.int lt), .val (.int t0), .val (.int t1), .val (.int z109_1), .val (.int z109_2), .val (.int z109_3), .val (.int z162_6), .val (.int z162_7), .val (.int z162_8), .val (.ref b11), .val (.ref b26), .val (.ref r56), .val (.int (((p4.toUInt32 >>> ((6 : Int32) &&& 31).toUInt32).toInt32) &&& (3 : Int32))), .val (.int (0 : Int32))] [(.ref b11), (.ref b26)])) (fun t k => XS.aload X131.here hx rfl (hb hby at_350) rfl rfl k) ?_
          obtain ⟨cq133, kq133, q133a, q133b, q133c⟩ := isOf hZ e131q f112
          obtain ⟨_, _, ⟨T133, L133, k133, n133⟩, -, X133, ⟨Lc133, hQ133, l133, y133, z133⟩, st133⟩ := X131.virtualBack hx (y := (⟨"com/example/vertex_to_service/vertextoservice/core/Edge", "equals", "(Ljava/lang/Object;)Z"⟩ : MethodName)) (z := (⟨"com/example/vertex_to_service/vertextoservice/core/Edge", "equals", "(Ljava/lang/Object;)Z"⟩ : MethodName)) hown (mvT hZ (hw _ (List.mem_of_getElem? (i := 67) rfl))) (mvT hZ (hw _ (List.mem_of_getElem? (i := 68) rfl))) (notFace_of_selects (args := #[]) (mvT hZ (hw _ (List.mem_of_getElem? (i := 70) rfl)))) (mvT hZ (hw _ (List.mem_of_getElem? (i := 70) rfl))) (mvT hZ (hw _ (List.mem_of_getElem? (i := 69) rfl))) (by decide) (backOf (W := 0) (rm13_23 l Z a0 hw [] b26 b11 cs r33 r40 r13 r15 b33 b40 b13 b15 kk33 z109_1 z109_2 z109_3 kk40 z162_6 z162_7 z162_8 kk13 lf f0 f1 kk15 lt t0 t1 h56 n0 (Nat.le_trans Z0 K56.1) f67 f112 f113 f114 f109 f110 f111 f121 f122 f123 f124 f125 f126 f115 f116 f117 f118 f119 f120 f129 f130 f127 f128 gn_b26 (Ne.symm ne_b11_b26) ne_b26_r33 ne_b26_r40 (Ne.symm ne_r13_b26) (Ne.symm ne_r15_b26) ne_b26_b33 ne_b26_b40 (Ne.symm ne_b13_b26) (Ne.symm ne_b15_b26) gn_b11 ne_b11_r33 ne_b11_r40 ne_b11_r13 ne_b11_r15 ne_b11_b33 ne_b11_b40 ne_b11_b13 gn_r33 ne_r33_r40 (Ne.symm ne_r13_r33) (Ne.symm ne_r15_r33) (Ne.symm nbr33) ne_r33_b40 (Ne.symm ne_b13_r33) gn_r40 (Ne.symm ne_r13_r40) (Ne.symm ne_r15_r40) (Ne.symm ne_b33_r40) (Ne.symm nbr40) (Ne.symm ne_b13_r40) gn_r13 ne_r13_r15 ne_r13_b33 ne_r13_b40 (Ne.symm nbr13) gn_r15 ne_r15_b33 ne_r15_b40 (Ne.symm ne_b13_r15) gn_b33 ne_b33_b40 (Ne.symm ne_b13_b33) gn_b40 (Ne.symm ne_b13_b40) gn_b13 gn_b15 (Ne.symm ne_b11_b15) ne_b15_r33 ne_b15_r40 (Ne.symm ne_r13_b15) nbr15 ne_b15_b33 ne_b15_b40 (Ne.symm ne_b13_b15) le_f0 le_f1 le_t0 le_t1 le_z109_2 le_z109_3 le_z162_7 le_z162_8 nne56 nne15 nne33 nne40 c_cs) hZ (hw _ (List.mem_of_getElem? (i := 71) rfl)) (hw _ (List.mem_of_getElem? (i := 2) rfl)) (by decide) (by decide)) q133a q133c (g := (mkF m 352 #[.val (.int p0), .val (.int p1), .val (.int p2), .val (.int p3), .val (.int p4), .val (.int lf), .val (.int f0), .val (.int f1), .val (.int lt), .val (.int t0), .val (.int t1), .val (.int z109_1), .val (.int z109_2), .val (.int z109_3), .val (.int z162_6), .val (.int z162_7), .val (.int z162_8), .val (.ref b11), .val (.ref b26), .val (.ref r56), .val (.int (((p4.toUInt32 >>> ((6 : Int32) &&& 31).toUInt32).toInt32) &&& (3 : Int32))), .val (.int (0 : Int32))] [(.ref b11), (.ref b26)])) rfl (by rw [hml]; rfl) (Steps.refl _) (argsL := [(.ref b11)]) (rest := []) (lenOf pd_8 rfl) rfl (by show 2 * 0 + _ ≤ _; exact Nat.le_of_eq rfl) (hb hby at_352) (fun _ _ => ⟨rfl, e131q, (by decide : 33 + 0 ≤ _), (by decide : 188 + 0 ≤ _)⟩)
          dsimp only [Pt.U, Pt.locs, Pt.cells, Pt.slots] at X133 l133 y133 z133 st133 hQ133
          subst l133 y133 z133
          obtain ⟨y1_133, rfl, N133q, e133q, hy1_133⟩ := hQ133
          have N133 := Fr.app N131 N133q
          refine step (T133.setTop (mkF m 355 #[.val (.int p0), .val (.int p1), .val (.int p2), .val (.int p3), .val (.int p4), .val (.int lf), .val (.int f0), .val (.int f1), .val (.int lt), .val (.int t0), .val (.int t1), .val (.int z109_1), .val (.int z109_2), .val (.int z109_3), .val (.int z162_6), .val (.int z162_7), .val (.int z162_8), .val (.ref b11), .val (.ref b26), .val (.ref r56), .val (.int (((p4.toUInt32 >>> ((6 : Int32) &&& 31).toUInt32).toInt32) &&& (3 : Int32))), .val (.int (0 : Int32))] [(.int y1_133)])) (fun t k => st133.trans k) ?_
          refine step (T133.setTop (mkF m 357 #[.val (.int p0), .val (.int p1), .val (.int p2), .val (.int p3), .val (.int p4), .val (.int lf), .val (.int f0), .val (.int f1), .val (.int lt), .val (.int t0), .val (.int t1), .val (.int z109_1), .val (.int z109_2), .val (.int z109_3), .val (.int z162_6), .val (.int z162_7), .val (.int z162_8), .val (.ref b11), .val (.ref b26), .val (.ref r56), .val (.int (((p4.toUInt32 >>> ((6 : Int32) &&& 31).toUInt32).toInt32) &&& (3 : Int32))), .val (.int (0 : Int32))] [(.int (0 : Int32)), (.int y1_133)])) (fun t k => XS.iload X133.here hx rfl (hb hby at_355) rfl k) ?_
          suffices J365_135 : ∀ (z365_134 : Int32), z365_134 = (if y1_133 = (0 : Int32) then (1 : Int32) else (0 : Int32)) → G (T133.setTop (mkF m 365 #[.val (.int p0), .val (.int p1), .val (.int p2), .val (.int p3), .val (.int p4), .val (.int lf), .val (.int f0), .val (.int f1), .val (.int lt), .val (.int t0), .val (.int t1), .val (.int z109_1), .val (.int z109_2), .val (.int z109_3), .val (.int z162_6), .val (.int z162_7), .val (.int z162_8), .val (.ref b11), .val (.ref b26), .val (.ref r56), .val (.int (((p4.toUInt32 >>> ((6 : Int32) &&& 31).toUInt32).toInt32) &&& (3 : Int32))), .val (.int (0 : Int32))] [(.int z365_134)])) by
            by_cases hc357_136 : y1_133 = (0 : Int32)
            · -- 357 True
              refine step (T133.setTop (mkF m 360 #[.val (.int p0), .val (.int p1), .val (.int p2), .val (.int p3), .val (.int p4), .val (.int lf), .val (.int f0), .val (.int f1), .val (.int lt), .val (.int t0), .val (.int t1), .val (.int z109_1), .val (.int z109_2), .val (.int z109_3), .val (.int z162_6), .val (.int z162_7), .val (.int z162_8), .val (.ref b11), .val (.ref b26), .val (.ref r56), .val (.int (((p4.toUInt32 >>> ((6 : Int32) &&& 31).toUInt32).toInt32) &&& (3 : Int32))), .val (.int (0 : Int32))] [])) (fun t k => XS.icmpNo X133.here hx rfl (hb hby at_357) rfl (teq hc357_136).2 k) ?_
              refine step (T133.setTop (mkF m 361 #[.val (.int p0), .val (.int p1), .val (.int p2), .val (.int p3), .val (.int p4), .val (.int lf), .val (.int f0), .val (.int f1), .val (.int lt), .val (.int t0), .val (.int t1), .val (.int z109_1), .val (.int z109_2), .val (.int z109_3), .val (.int z162_6), .val (.int z162_7), .val (.int z162_8), .val (.ref b11), .val (.ref b26), .val (.ref r56), .val (.int (((p4.toUInt32 >>> ((6 : Int32) &&& 31).toUInt32).toInt32) &&& (3 : Int32))), .val (.int (0 : Int32))] [(.int (1 : Int32))])) (fun t k => XS.iconst X133.here hx rfl (hb hby at_360) k) ?_
              refine step (T133.setTop (mkF m 365 #[.val (.int p0), .val (.int p1), .val (.int p2), .val (.int p3), .val (.int p4), .val (.int lf), .val (.int f0), .val (.int f1), .val (.int lt), .val (.int t0), .val (.int t1), .val (.int z109_1), .val (.int z109_2), .val (.int z109_3), .val (.int z162_6), .val (.int z162_7), .val (.int z162_8), .val (.ref b11), .val (.ref b26), .val (.ref r56), .val (.int (((p4.toUInt32 >>> ((6 : Int32) &&& 31).toUInt32).toInt32) &&& (3 : Int32))), .val (.int (0 : Int32))] [(.int (1 : Int32))])) (fun t k => XS.goto X133.here hx rfl (pc0 := 361) (pc' := 365) rfl (hb hby at_361) (by decide) (by decide) k) ?_
              exact J365_135 _ (by simp only [if_pos hc357_136, if_true, if_false] <;> rfl)
            · -- 357 False
              refine step (T133.setTop (mkF m 364 #[.val (.int p0), .val (.int p1), .val (.int p2), .val (.int p3), .val (.int p4), .val (.int lf), .val (.int f0), .val (.int f1), .val (.int lt), .val (.int t0), .val (.int t1), .val (.int z109_1), .val (.int z109_2), .val (.int z109_3), .val (.int z162_6), .val (.int z162_7), .val (.int z162_8), .val (.ref b11), .val (.ref b26), .val (.ref r56), .val (.int (((p4.toUInt32 >>> ((6 : Int32) &&& 31).toUInt32).toInt32) &&& (3 : Int32))), .val (.int (0 : Int32))] [])) (fun t k => XS.icmpYes X133.here hx rfl (pc0 := 357) (pc' := 364) rfl (hb hby at_357) rfl (feq hc357_136).2 (by decide) (by decide) k) ?_
              refine step (T133.setTop (mkF m 365 #[.val (.int p0), .val (.int p1), .val (.int p2), .val (.int p3), .val (.int p4), .val (.int lf), .val (.int f0), .val (.int f1), .val (.int lt), .val (.int t0), .val (.int t1), .val (.int z109_1), .val (.int z109_2), .val (.int z109_3), .val (.int z162_6), .val (.int z162_7), .val (.int z162_8), .val (.ref b11), .val (.ref b26), .val (.ref r56), .val (.int (((p4.toUInt32 >>> ((6 : Int32) &&& 31).toUInt32).toInt32) &&& (3 : Int32))), .val (.int (0 : Int32))] [(.int (0 : Int32))])) (fun t k => XS.iconst X133.here hx rfl (hb hby at_364) k) ?_
              exact J365_135 _ (by simp only [if_neg hc357_136, if_true, if_false] <;> rfl)
          intro z365_134 hz365_134
          refine fin (v := some (.int (nar .boolean z365_134))) X133 hS (by rw [e133q]; exact (Nat.le_trans hk54 K56q.1)) (fun h => by cases h) ?_ (by decide) (by decide) (fun fs hr => retN X133 hx (t := .boolean) hret (by simp) (hb hby at_365) hr)
          show Q0 Z p0 p1 p2 p3 p4 cs h0 n0 (some (.int (nar .boolean z365_134))) T133.heap _
          rw [e133q]
          exact ⟨own_fin (own_plain23 p0 p1 p2 p3 p4 cs lf f0 f1 lt t0 t1 z109_1 z109_2 z109_3 z162_6 z162_7 z162_8 z_1_107 y1_133 z365_134 hlf hf0 hf1 hlt ht0 ht1 hz109_1 hz109_2 hz109_3 hz162_6 hz162_7 hz162_8 hz_1_107 hy1_133 hz365_134 hc239_68 hc260_81 hc282_94 hc308_108), N133⟩
        · -- pc 308: z_1_107 = (0 : Int32) False
          refine step (T107.setTop (mkF m 311 #[.val (.int p0), .val (.int p1), .val (.int p2), .val (.int p3), .val (.int p4), .val (.int lf), .val (.int f0), .val (.int f1), .val (.int lt), .val (.int t0), .val (.int t1), .val (.int z109_1), .val (.int z109_2), .val (.int z109_3), .val (.int z162_6), .val (.int z162_7), .val (.int z162_8), .val (.ref b11), .val (.ref b26), .val (.ref r56), .val (.int (((p4.toUInt32 >>> ((6 : Int32) &&& 31).toUInt32).toInt32) &&& (3 : Int32))), .unset] [])) (fun t k => XS.ifNo X107.here hx rfl (hb hby at_308) rfl ((if0 _ _).trans (feq hc308_108).1) k) ?_
          refine step (T107.setTop (mkF m 313 #[.val (.int p0), .val (.int p1), .val (.int p2), .val (.int p3), .val (.int p4), .val (.int lf), .val (.int f0), .val (.int f1), .val (.int lt), .val (.int t0), .val (.int t1), .val (.int z109_1), .val (.int z109_2), .val (.int z109_3), .val (.int z162_6), .val (.int z162_7), .val (.int z162_8), .val (.ref b11), .val (.ref b26), .val (.ref r56), .val (.int (((p4.toUInt32 >>> ((6 : Int32) &&& 31).toUInt32).toInt32) &&& (3 : Int32))), .unset] [(.int lt)])) (fun t k => XS.iload X107.here hx rfl (hb hby at_311) rfl k) ?_
          refine step (T107.setTop (mkF m 315 #[.val (.int p0), .val (.int p1), .val (.int p2), .val (.int p3), .val (.int p4), .val (.int lf), .val (.int f0), .val (.int f1), .val (.int lt), .val (.int t0), .val (.int t1), .val (.int z109_1), .val (.int z109_2), .val (.int z109_3), .val (.int z162_6), .val (.int z162_7), .val (.int z162_8), .val (.ref b11), .val (.ref b26), .val (.ref r56), .val (.int (((p4.toUInt32 >>> ((6 : Int32) &&& 31).toUInt32).toInt32) &&& (3 : Int32))), .unset] [(.int t0), (.int lt)])) (fun t k => XS.iload X107.here hx rfl (hb hby at_313) rfl k) ?_
          refine step (T107.setTop (mkF m 317 #[.val (.int p0), .val (.int p1), .val (.int p2), .val (.int p3), .val (.int p4), .val (.int lf), .val (.int f0), .val (.int f1), .val (.int lt), .val (.int t0), .val (.int t1), .val (.int z109_1), .val (.int z109_2), .val (.int z109_3), .val (.int z162_6), .val (.int z162_7), .val (.int z162_8), .val (.ref b11), .val (.ref b26), .val (.ref r56), .val (.int (((p4.toUInt32 >>> ((6 : Int32) &&& 31).toUInt32).toInt32) &&& (3 : Int32))), .unset] [(.int t1), (.int t0), (.int lt)])) (fun t k => XS.iload X107.here hx rfl (hb hby at_315) rfl k) ?_
          refine step (T107.setTop (mkF m 319 #[.val (.int p0), .val (.int p1), .val (.int p2), .val (.int p3), .val (.int p4), .val (.int lf), .val (.int f0), .val (.int f1), .val (.int lt), .val (.int t0), .val (.int t1), .val (.int z109_1), .val (.int z109_2), .val (.int z109_3), .val (.int z162_6), .val (.int z162_7), .val (.int z162_8), .val (.ref b11), .val (.ref b26), .val (.ref r56), .val (.int (((p4.toUInt32 >>> ((6 : Int32) &&& 31).toUInt32).toInt32) &&& (3 : Int32))), .unset] [(.int z162_6), (.int t1), (.int t0), (.int lt)])) (fun t k => XS.iload X107.here hx rfl (hb hby at_317) rfl k) ?_
          refine step (T107.setTop (mkF m 321 #[.val (.int p0), .val (.int p1), .val (.int p2), .val (.int p3), .val (.int p4), .val (.int lf), .val (.int f0), .val (.int f1), .val (.int lt), .val (.int t0), .val (.int t1), .val (.int z109_1), .val (.int z109_2), .val (.int z109_3), .val (.int z162_6), .val (.int z162_7), .val (.int z162_8), .val (.ref b11), .val (.ref b26), .val (.ref r56), .val (.int (((p4.toUInt32 >>> ((6 : Int32) &&& 31).toUInt32).toInt32) &&& (3 : Int32))), .unset] [(.int z162_7), (.int z162_6), (.int t1), (.int t0), (.int lt)])) (fun t k => XS.iload X107.here hx rfl (hb hby at_319) rfl k) ?_
          refine step (T107.setTop (mkF m 323 #[.val (.int p0), .val (.int p1), .val (.int p2), .val (.int p3), .val (.int p4), .val (.int lf), .val (.int f0), .val (.int f1), .val (.int lt), .val (.int t0), .val (.int t1), .val (.int z109_1), .val (.int z109_2), .val (.int z109_3), .val (.int z162_6), .val (.int z162_7), .val (.int z162_8), .val (.ref b11), .val (.ref b26), .val (.ref r56), .val (.int (((p4.toUInt32 >>> ((6 : Int32) &&& 31).toUInt32).toInt32) &&& (3 : Int32))), .unset] [(.int z162_8), (.int z162_7), (.int z162_6), (.int t1), (.int t0), (.int lt)])) (fun t k => XS.iload X107.here hx rfl (hb hby at_321) rfl k) ?_
          obtain ⟨_, _, ⟨T137, L137, k137, n137⟩, -, X137, ⟨Lc137, hQ137, l137, y137, z137⟩, st137⟩ := Jvm.LawKit.callS X107 hx (y := (⟨"com/example/vertex_to_service/vertextoservice/core/EdgeEqualsPinLaw", "same", "(ICCICC)Z"⟩ : MethodName)) hown (mvT hZ (hw _ (List.mem_of_getElem? (i := 64) rfl))) (mvT hZ (hw _ (List.mem_of_getElem? (i := 65) rfl))) (mvT hZ (hw _ (List.mem_of_getElem? (i := 5) rfl))) (mvT hZ (hw _ (List.mem_of_getElem? (i := 66) rfl))) (by decide) (backOf (W := 0) (rm12_19 l Z a0 hw [] lt t0 t1 z162_6 z162_7 z162_8 h56 n0 (Nat.le_trans Z0 K56.1) le_t0 le_t1 le_z162_7 le_z162_8 nne15 nne40) hZ (hw _ (List.mem_of_getElem? (i := 66) rfl)) (hw _ (List.mem_of_getElem? (i := 5) rfl)) (by decide) (by decide)) (g := (mkF m 323 #[.val (.int p0), .val (.int p1), .val (.int p2), .val (.int p3), .val (.int p4), .val (.int lf), .val (.int f0), .val (.int f1), .val (.int lt), .val (.int t0), .val (.int t1), .val (.int z109_1), .val (.int z109_2), .val (.int z109_3), .val (.int z162_6), .val (.int z162_7), .val (.int z162_8), .val (.ref b11), .val (.ref b26), .val (.ref r56), .val (.int (((p4.toUInt32 >>> ((6 : Int32) &&& 31).toUInt32).toInt32) &&& (3 : Int32))), .unset] [(.int z162_8), (.int z162_7), (.int z162_6), (.int t1), (.int t0), (.int lt)])) rfl (by rw [hml]; rfl) (argsL := [(.int lt), (.int t0), (.int t1), (.int z162_6), (.int z162_7), (.int z162_8)]) (rest := []) (lenOf pd_9 rfl) rfl (by show 2 * 0 + _ ≤ _; exact Nat.le_of_eq rfl) (hb hby at_323) (fun _ _ => ⟨rfl, e107q, (by decide : 33 + 0 ≤ _), (by decide : 188 + 0 ≤ _)⟩)
          dsimp only [Pt.U, Pt.locs, Pt.cells, Pt.slots] at X137 l137 y137 z137 st137 hQ137
          subst l137 y137 z137
          obtain ⟨z_1_137, rfl, N137q, e137q, hz_1_137⟩ := hQ137
          have N137 := Fr.app N107 N137q
          refine step (T137.setTop (mkF m 326 #[.val (.int p0), .val (.int p1), .val (.int p2), .val (.int p3), .val (.int p4), .val (.int lf), .val (.int f0), .val (.int f1), .val (.int lt), .val (.int t0), .val (.int t1), .val (.int z109_1), .val (.int z109_2), .val (.int z109_3), .val (.int z162_6), .val (.int z162_7), .val (.int z162_8), .val (.ref b11), .val (.ref b26), .val (.ref r56), .val (.int (((p4.toUInt32 >>> ((6 : Int32) &&& 31).toUInt32).toInt32) &&& (3 : Int32))), .unset] [(.int z_1_137)])) (fun t k => st137 t k) ?_
          suffices J334_139 : ∀ (z334_138 : Int32), z334_138 = (if z_1_137 = (0 : Int32) then (0 : Int32) else (1 : Int32)) → G (T137.setTop (mkF m 334 #[.val (.int p0), .val (.int p1), .val (.int p2), .val (.int p3), .val (.int p4), .val (.int lf), .val (.int f0), .val (.int f1), .val (.int lt), .val (.int t0), .val (.int t1), .val (.int z109_1), .val (.int z109_2), .val (.int z109_3), .val (.int z162_6), .val (.int z162_7), .val (.int z162_8), .val (.ref b11), .val (.ref b26), .val (.ref r56), .val (.int (((p4.toUInt32 >>> ((6 : Int32) &&& 31).toUInt32).toInt32) &&& (3 : Int32))), .unset] [(.int z334_138)])) by
            by_cases hc326_140 : z_1_137 = (0 : Int32)
            · -- 326 True
              refine step (T137.setTop (mkF m 333 #[.val (.int p0), .val (.int p1), .val (.int p2), .val (.int p3), .val (.int p4), .val (.int lf), .val (.int f0), .val (.int f1), .val (.int lt), .val (.int t0), .val (.int t1), .val (.int z109_1), .val (.int z109_2), .val (.int z109_3), .val (.int z162_6), .val (.int z162_7), .val (.int z162_8), .val (.ref b11), .val (.ref b26), .val (.ref r56), .val (.int (((p4.toUInt32 >>> ((6 : Int32) &&& 31).toUInt32).toInt32) &&& (3 : Int32))), .unset] [])) (fun t k => XS.ifYes X137.here hx rfl (pc0 := 326) (pc' := 333) rfl (hb hby at_326) rfl ((if0 _ _).trans (teq hc326_140).1) (by decide) (by decide) k) ?_
              refine step (T137.setTop (mkF m 334 #[.val (.int p0), .val (.int p1), .val (.int p2), .val (.int p3), .val (.int p4), .val (.int lf), .val (.int f0), .val (.int f1), .val (.int lt), .val (.int t0), .val (.int t1), .val (.int z109_1), .val (.int z109_2), .val (.int z109_3), .val (.int z162_6), .val (.int z162_7), .val (.int z162_8), .val (.ref b11), .val (.ref b26), .val (.ref r56), .val (.int (((p4.toUInt32 >>> ((6 : Int32) &&& 31).toUInt32).toInt32) &&& (3 : Int32))), .unset] [(.int (0 : Int32))])) (fun t k => XS.iconst X137.here hx rfl (hb hby at_333) k) ?_
              exact J334_139 _ (by simp only [if_pos hc326_140, if_true, if_false] <;> rfl)
            · -- 326 False
              refine step (T137.setTop (mkF m 329 #[.val (.int p0), .val (.int p1), .val (.int p2), .val (.int p3), .val (.int p4), .val (.int lf), .val (.int f0), .val (.int f1), .val (.int lt), .val (.int t0), .val (.int t1), .val (.int z109_1), .val (.int z109_2), .val (.int z109_3), .val (.int z162_6), .val (.int z162_7), .val (.int z162_8), .val (.ref b11), .val (.ref b26), .val (.ref r56), .val (.int (((p4.toUInt32 >>> ((6 : Int32) &&& 31).toUInt32).toInt32) &&& (3 : Int32))), .unset] [])) (fun t k => XS.ifNo X137.here hx rfl (hb hby at_326) rfl ((if0 _ _).trans (feq hc326_140).1) k) ?_
              refine step (T137.setTop (mkF m 330 #[.val (.int p0), .val (.int p1), .val (.int p2), .val (.int p3), .val (.int p4), .val (.int lf), .val (.int f0), .val (.int f1), .val (.int lt), .val (.int t0), .val (.int t1), .val (.int z109_1), .val (.int z109_2), .val (.int z109_3), .val (.int z162_6), .val (.int z162_7), .val (.int z162_8), .val (.ref b11), .val (.ref b26), .val (.ref r56), .val (.int (((p4.toUInt32 >>> ((6 : Int32) &&& 31).toUInt32).toInt32) &&& (3 : Int32))), .unset] [(.int (1 : Int32))])) (fun t k => XS.iconst X137.here hx rfl (hb hby at_329) k) ?_
              refine step (T137.setTop (mkF m 334 #[.val (.int p0), .val (.int p1), .val (.int p2), .val (.int p3), .val (.int p4), .val (.int lf), .val (.int f0), .val (.int f1), .val (.int lt), .val (.int t0), .val (.int t1), .val (.int z109_1), .val (.int z109_2), .val (.int z109_3), .val (.int z162_6), .val (.int z162_7), .val (.int z162_8), .val (.ref b11), .val (.ref b26), .val (.ref r56), .val (.int (((p4.toUInt32 >>> ((6 : Int32) &&& 31).toUInt32).toInt32) &&& (3 : Int32))), .unset] [(.int (1 : Int32))])) (fun t k => XS.goto X137.here hx rfl (pc0 := 330) (pc' := 334) rfl (hb hby at_330) (by decide) (by decide) k) ?_
              exact J334_139 _ (by simp only [if_neg hc326_140, if_true, if_false] <;> rfl)
          intro z334_138 hz334_138
          refine step (T137.setTop (mkF m 336 #[.val (.int p0), .val (.int p1), .val (.int p2), .val (.int p3), .val (.int p4), .val (.int lf), .val (.int f0), .val (.int f1), .val (.int lt), .val (.int t0), .val (.int t1), .val (.int z109_1), .val (.int z109_2), .val (.int z109_3), .val (.int z162_6), .val (.int z162_7), .val (.int z162_8), .val (.ref b11), .val (.ref b26), .val (.ref r56), .val (.int (((p4.toUInt32 >>> ((6 : Int32) &&& 31).toUInt32).toInt32) &&& (3 : Int32))), .val (.int z334_138)] [])) (fun t k => XS.istore X137.here hx rfl (hb hby at_334) rfl (l' := #[.val (.int p0), .val (.int p1), .val (.int p2), .val (.int p3), .val (.int p4), .val (.int lf), .val (.int f0), .val (.int f1), .val (.int lt), .val (.int t0), .val (.int t1), .val (.int z109_1), .val (.int z109_2), .val (.int z109_3), .val (.int z162_6), .val (.int z162_7), .val (.int z162_8), .val (.ref b11), .val (.ref b26), .val (.ref r56), .val (.int (((p4.toUInt32 >>> ((6 : Int32) &&& 31).toUInt32).toInt32) &&& (3 : Int32))), .val (.int z334_138)]) rfl k) ?_
          refine step (T137.setTop (mkF m 338 #[.val (.int p0), .val (.int p1), .val (.int p2), .val (.int p3), .val (.int p4), .val (.int lf), .val (.int f0), .val (.int f1), .val (.int lt), .val (.int t0), .val (.int t1), .val (.int z109_1), .val (.int z109_2), .val (.int z109_3), .val (.int z162_6), .val (.int z162_7), .val (.int z162_8), .val (.ref b11), .val (.ref b26), .val (.ref r56), .val (.int (((p4.toUInt32 >>> ((6 : Int32) &&& 31).toUInt32).toInt32) &&& (3 : Int32))), .val (.int z334_138)] [(.ref b11)])) (fun t k => XS.aload X137.here hx rfl (hb hby at_336) rfl rfl k) ?_
          refine step (T137.setTop (mkF m 340 #[.val (.int p0), .val (.int p1), .val (.int p2), .val (.int p3), .val (.int p4), .val (.int lf), .val (.int f0), .val (.int f1), .val (.int lt), .val (.int t0), .val (.int t1), .val (.int z109_1), .val (.int z109_2), .val (.int z109_3), .val (.int z162_6), .val (.int z162_7), .val (.int z162_8), .val (.ref b11), .val (.ref b26), .val (.ref r56), .val (.int (((p4.toUInt32 >>> ((6 : Int32) &&& 31).toUInt32).toInt32) &&& (3 : Int32))), .val (.int z334_138)] [(.ref b26), (.ref b11)])) (fun t k => XS.aload X137.here hx rfl (hb hby at_338) rfl rfl k) ?_
          have f141 := (f57.keep K56q)
          have f142 := (((((q0_24.ext E26).keep K33q nin0).keep K40q nin0).keep K54q (ninS ne_b11_b26 nin0)).keep K56q nin0)
          have f143 := (((((q1_24.ext E26).keep K33q nin0).keep K40q nin0).keep K54q (ninS ne_b11_b26 nin0)).keep K56q nin0)
          have f144 := (f62.keep K56q)
          have f145 := (q0_54.keep K56q nin0)
          have f146 := (q1_54.keep K56q nin0)
          have f147 := (f58.keep K56q)
          have f148 := (((((((Fc13.keep K15q nin0).keep K24q (ninS (Ne.symm ne_b11_r13) nin0)).ext E26).keep K33q nin0).keep K40q nin0).keep K54q (ninS ne_r13_b26 nin0)).keep K56q nin0)
          have f149 := ((((((f22.keep K24q (ninS (Ne.symm ne_b11_r13) nin0)).ext E26).keep K33q nin0).keep K40q nin0).keep K54q (ninS ne_r13_b26 nin0)).keep K56q nin0)
          have f150 := (f60.keep K56q)
          have f151 := ((((((Fc15.keep K24q (ninS (Ne.symm ne_b11_r15) nin0)).ext E26).keep K33q nin0).keep K40q nin0).keep K54q (ninS ne_r15_b26 nin0)).keep K56q nin0)
          have f152 := ((((((Fv15.keep K24q (ninS (Ne.symm ne_b11_r15) nin0)).ext E26).keep K33q nin0).keep K40q nin0).keep K54q (ninS ne_r15_b26 nin0)).keep K56q nin0)
          have f153 := (f63.keep K56q)
          have f154 := (((Fc33.keep K40q nin0).keep K54q (ninS (Ne.symm ne_b26_r33) nin0)).keep K56q nin0)
          have f155 := ((f52.keep K54q (ninS (Ne.symm ne_b26_r33) nin0)).keep K56q nin0)
          have f156 := (f65.keep K56q)
          have f157 := ((Fc40.keep K54q (ninS (Ne.symm ne_b26_r40) nin0)).keep K56q nin0)
          have f158 := ((Fv40.keep K54q (ninS (Ne.symm ne_b26_r40) nin0)).keep K56q nin0)
          have f159 := (f59.keep K56q nin0)
          have f160 := (f61.keep K56q nin0)
          have f161 := (f64.keep K56q nin0)
          have f162 := (f66.keep K56q nin0)
          obtain ⟨cq163, kq163, q163a, q163b, q163c⟩ := isOf hZ e137q f141
          obtain ⟨_, _, ⟨T163, L163, k163, n163⟩, -, X163, ⟨Lc163, hQ163, l163, y163, z163⟩, st163⟩ := X137.virtualBack hx (y := (⟨"com/example/vertex_to_service/vertextoservice/core/Edge", "equals", "(Ljava/lang/Object;)Z"⟩ : MethodName)) (z := (⟨"com/example/vertex_to_service/vertextoservice/core/Edge", "equals", "(Ljava/lang/Object;)Z"⟩ : MethodName)) hown (mvT hZ (hw _ (List.mem_of_getElem? (i := 67) rfl))) (mvT hZ (hw _ (List.mem_of_getElem? (i := 68) rfl))) (notFace_of_selects (args := #[]) (mvT hZ (hw _ (List.mem_of_getElem? (i := 70) rfl)))) (mvT hZ (hw _ (List.mem_of_getElem? (i := 70) rfl))) (mvT hZ (hw _ (List.mem_of_getElem? (i := 69) rfl))) (by decide) (backOf (W := 0) (rm13_20 l Z a0 hw [] b11 b26 cs r13 r15 r33 r40 b13 b15 b33 b40 kk13 lf f0 f1 kk15 lt t0 t1 kk33 z109_1 z109_2 z109_3 kk40 z162_6 z162_7 z162_8 h56 n0 (Nat.le_trans Z0 K56.1) f67 f141 f142 f143 f144 f145 f146 f147 f148 f149 f150 f151 f152 f153 f154 f155 f156 f157 f158 f159 f160 f161 f162 gn_b11 ne_b11_b26 ne_b11_r13 ne_b11_r15 ne_b11_r33 ne_b11_r40 ne_b11_b13 ne_b11_b15 ne_b11_b33 ne_b11_b40 gn_b26 (Ne.symm ne_r13_b26) (Ne.symm ne_r15_b26) ne_b26_r33 ne_b26_r40 (Ne.symm ne_b13_b26) (Ne.symm ne_b15_b26) ne_b26_b33 gn_r13 ne_r13_r15 ne_r13_r33 ne_r13_r40 (Ne.symm nbr13) ne_r13_b15 ne_r13_b33 gn_r15 ne_r15_r33 ne_r15_r40 (Ne.symm ne_b13_r15) (Ne.symm nbr15) ne_r15_b33 gn_r33 ne_r33_r40 (Ne.symm ne_b13_r33) (Ne.symm ne_b15_r33) (Ne.symm nbr33) gn_r40 (Ne.symm ne_b13_r40) (Ne.symm ne_b15_r40) (Ne.symm ne_b33_r40) gn_b13 ne_b13_b15 ne_b13_b33 gn_b15 ne_b15_b33 gn_b33 gn_b40 (Ne.symm ne_b26_b40) (Ne.symm ne_r13_b40) (Ne.symm ne_r15_b40) (Ne.symm ne_r33_b40) nbr40 (Ne.symm ne_b13_b40) (Ne.symm ne_b15_b40) (Ne.symm ne_b33_b40) le_f0 le_f1 le_t0 le_t1 le_z109_2 le_z109_3 le_z162_7 le_z162_8 nne56 nne15 nne33 nne40 c_cs) hZ (hw _ (List.mem_of_getElem? (i := 71) rfl)) (hw _ (List.mem_of_getElem? (i := 2) rfl)) (by decide) (by decide)) q163a q163c (g := (mkF m 340 #[.val (.int p0), .val (.int p1), .val (.int p2), .val (.int p3), .val (.int p4), .val (.int lf), .val (.int f0), .val (.int f1), .val (.int lt), .val (.int t0), .val (.int t1), .val (.int z109_1), .val (.int z109_2), .val (.int z109_3), .val (.int z162_6), .val (.int z162_7), .val (.int z162_8), .val (.ref b11), .val (.ref b26), .val (.ref r56), .val (.int (((p4.toUInt32 >>> ((6 : Int32) &&& 31).toUInt32).toInt32) &&& (3 : Int32))), .val (.int z334_138)] [(.ref b26), (.ref b11)])) rfl (by rw [hml]; rfl) (Steps.refl _) (argsL := [(.ref b26)]) (rest := []) (lenOf pd_8 rfl) rfl (by show 2 * 0 + _ ≤ _; exact Nat.le_of_eq rfl) (hb hby at_340) (fun _ _ => ⟨rfl, e137q, (by decide : 33 + 0 ≤ _), (by decide : 188 + 0 ≤ _)⟩)
          dsimp only [Pt.U, Pt.locs, Pt.cells, Pt.slots] at X163 l163 y163 z163 st163 hQ163
          subst l163 y163 z163
          obtain ⟨y1_163, rfl, N163q, e163q, hy1_163⟩ := hQ163
          have N163 := Fr.app N137 N163q
          refine step (T163.setTop (mkF m 343 #[.val (.int p0), .val (.int p1), .val (.int p2), .val (.int p3), .val (.int p4), .val (.int lf), .val (.int f0), .val (.int f1), .val (.int lt), .val (.int t0), .val (.int t1), .val (.int z109_1), .val (.int z109_2), .val (.int z109_3), .val (.int z162_6), .val (.int z162_7), .val (.int z162_8), .val (.ref b11), .val (.ref b26), .val (.ref r56), .val (.int (((p4.toUInt32 >>> ((6 : Int32) &&& 31).toUInt32).toInt32) &&& (3 : Int32))), .val (.int z334_138)] [(.int y1_163)])) (fun t k => st163.trans k) ?_
          refine step (T163.setTop (mkF m 345 #[.val (.int p0), .val (.int p1), .val (.int p2), .val (.int p3), .val (.int p4), .val (.int lf), .val (.int f0), .val (.int f1), .val (.int lt), .val (.int t0), .val (.int t1), .val (.int z109_1), .val (.int z109_2), .val (.int z109_3), .val (.int z162_6), .val (.int z162_7), .val (.int z162_8), .val (.ref b11), .val (.ref b26), .val (.ref r56), .val (.int (((p4.toUInt32 >>> ((6 : Int32) &&& 31).toUInt32).toInt32) &&& (3 : Int32))), .val (.int z334_138)] [(.int z334_138), (.int y1_163)])) (fun t k => XS.iload X163.here hx rfl (hb hby at_343) rfl k) ?_
          have hc345_164 : y1_163 = z334_138 := (own_plain24 p0 p1 p2 p3 p4 cs lf f0 f1 lt t0 t1 z109_1 z109_2 z109_3 z162_6 z162_7 z162_8 z_1_107 z_1_137 z334_138 y1_163 hlf hf0 hf1 hlt ht0 ht1 hz109_1 hz109_2 hz109_3 hz162_6 hz162_7 hz162_8 hz_1_107 hz_1_137 hz334_138 hy1_163 hc239_68 hc260_81 hc282_94 hc308_108)
          refine step (T163.setTop (mkF m 348 #[.val (.int p0), .val (.int p1), .val (.int p2), .val (.int p3), .val (.int p4), .val (.int lf), .val (.int f0), .val (.int f1), .val (.int lt), .val (.int t0), .val (.int t1), .val (.int z109_1), .val (.int z109_2), .val (.int z109_3), .val (.int z162_6), .val (.int z162_7), .val (.int z162_8), .val (.ref b11), .val (.ref b26), .val (.ref r56), .val (.int (((p4.toUInt32 >>> ((6 : Int32) &&& 31).toUInt32).toInt32) &&& (3 : Int32))), .val (.int z334_138)] [])) (fun t k => XS.icmpNo X163.here hx rfl (hb hby at_345) rfl (teq hc345_164).2 k) ?_
          refine step (T163.setTop (mkF m 350 #[.val (.int p0), .val (.int p1), .val (.int p2), .val (.int p3), .val (.int p4), .val (.int lf), .val (.int f0), .val (.int f1), .val (.int lt), .val (.int t0), .val (.int t1), .val (.int z109_1), .val (.int z109_2), .val (.int z109_3), .val (.int z162_6), .val (.int z162_7), .val (.int z162_8), .val (.ref b11), .val (.ref b26), .val (.ref r56), .val (.int (((p4.toUInt32 >>> ((6 : Int32) &&& 31).toUInt32).toInt32) &&& (3 : Int32))), .val (.int z334_138)] [(.ref b26)])) (fun t k => XS.aload X163.here hx rfl (hb hby at_348) rfl rfl k) ?_
          refine step (T163.setTop (mkF m 352 #[.val (.int p0), .val (.int p1), .val (.int p2), .val (.int p3), .val (.int p4), .val (.int lf), .val (.int f0), .val (.int f1), .val (.int lt), .val (.int t0), .val (.int t1), .val (.int z109_1), .val (.int z109_2), .val (.int z109_3), .val (.int z162_6), .val (.int z162_7), .val (.int z162_8), .val (.ref b11), .val (.ref b26), .val (.ref r56), .val (.int (((p4.toUInt32 >>> ((6 : Int32) &&& 31).toUInt32).toInt32) &&& (3 : Int32))), .val (.int z334_138)] [(.ref b11), (.ref b26)])) (fun t k => XS.aload X163.here hx rfl (hb hby at_350) rfl rfl k) ?_
          obtain ⟨cq165, kq165, q165a, q165b, q165c⟩ := isOf hZ e163q f144
          obtain ⟨_, _, ⟨T165, L165, k165, n165⟩, -, X165, ⟨Lc165, hQ165, l165, y165, z165⟩, st165⟩ := X163.virtualBack hx (y := (⟨"com/example/vertex_to_service/vertextoservice/core/Edge", "equals", "(Ljava/lang/Object;)Z"⟩ : MethodName)) (z := (⟨"com/example/vertex_to_service/vertextoservice/core/Edge", "equals", "(Ljava/lang/Object;)Z"⟩ : MethodName)) hown (mvT hZ (hw _ (List.mem_of_getElem? (i := 67) rfl))) (mvT hZ (hw _ (List.mem_of_getElem? (i := 68) rfl))) (notFace_of_selects (args := #[]) (mvT hZ (hw _ (List.mem_of_getElem? (i := 70) rfl)))) (mvT hZ (hw _ (List.mem_of_getElem? (i := 70) rfl))) (mvT hZ (hw _ (List.mem_of_getElem? (i := 69) rfl))) (by decide) (backOf (W := 0) (rm13_23 l Z a0 hw [] b26 b11 cs r33 r40 r13 r15 b33 b40 b13 b15 kk33 z109_1 z109_2 z109_3 kk40 z162_6 z162_7 z162_8 kk13 lf f0 f1 kk15 lt t0 t1 h56 n0 (Nat.le_trans Z0 K56.1) f67 f144 f145 f146 f141 f142 f143 f153 f154 f155 f156 f157 f158 f147 f148 f149 f150 f151 f152 f161 f162 f159 f160 gn_b26 (Ne.symm ne_b11_b26) ne_b26_r33 ne_b26_r40 (Ne.symm ne_r13_b26) (Ne.symm ne_r15_b26) ne_b26_b33 ne_b26_b40 (Ne.symm ne_b13_b26) (Ne.symm ne_b15_b26) gn_b11 ne_b11_r33 ne_b11_r40 ne_b11_r13 ne_b11_r15 ne_b11_b33 ne_b11_b40 ne_b11_b13 gn_r33 ne_r33_r40 (Ne.symm ne_r13_r33) (Ne.symm ne_r15_r33) (Ne.symm nbr33) ne_r33_b40 (Ne.symm ne_b13_r33) gn_r40 (Ne.symm ne_r13_r40) (Ne.symm ne_r15_r40) (Ne.symm ne_b33_r40) (Ne.symm nbr40) (Ne.symm ne_b13_r40) gn_r13 ne_r13_r15 ne_r13_b33 ne_r13_b40 (Ne.symm nbr13) gn_r15 ne_r15_b33 ne_r15_b40 (Ne.symm ne_b13_r15) gn_b33 ne_b33_b40 (Ne.symm ne_b13_b33) gn_b40 (Ne.symm ne_b13_b40) gn_b13 gn_b15 (Ne.symm ne_b11_b15) ne_b15_r33 ne_b15_r40 (Ne.symm ne_r13_b15) nbr15 ne_b15_b33 ne_b15_b40 (Ne.symm ne_b13_b15) le_f0 le_f1 le_t0 le_t1 le_z109_2 le_z109_3 le_z162_7 le_z162_8 nne56 nne15 nne33 nne40 c_cs) hZ (hw _ (List.mem_of_getElem? (i := 71) rfl)) (hw _ (List.mem_of_getElem? (i := 2) rfl)) (by decide) (by decide)) q165a q165c (g := (mkF m 352 #[.val (.int p0), .val (.int p1), .val (.int p2), .val (.int p3), .val (.int p4), .val (.int lf), .val (.int f0), .val (.int f1), .val (.int lt), .val (.int t0), .val (.int t1), .val (.int z109_1), .val (.int z109_2), .val (.int z109_3), .val (.int z162_6), .val (.int z162_7), .val (.int z162_8), .val (.ref b11), .val (.ref b26), .val (.ref r56), .val (.int (((p4.toUInt32 >>> ((6 : Int32) &&& 31).toUInt32).toInt32) &&& (3 : Int32))), .val (.int z334_138)] [(.ref b11), (.ref b26)])) rfl (by rw [hml]; rfl) (Steps.refl _) (argsL := [(.ref b11)]) (rest := []) (lenOf pd_8 rfl) rfl (by show 2 * 0 + _ ≤ _; exact Nat.le_of_eq rfl) (hb hby at_352) (fun _ _ => ⟨rfl, e163q, (by decide : 33 + 0 ≤ _), (by decide : 188 + 0 ≤ _)⟩)
          dsimp only [Pt.U, Pt.locs, Pt.cells, Pt.slots] at X165 l165 y165 z165 st165 hQ165
          subst l165 y165 z165
          obtain ⟨y1_165, rfl, N165q, e165q, hy1_165⟩ := hQ165
          have N165 := Fr.app N163 N165q
          refine step (T165.setTop (mkF m 355 #[.val (.int p0), .val (.int p1), .val (.int p2), .val (.int p3), .val (.int p4), .val (.int lf), .val (.int f0), .val (.int f1), .val (.int lt), .val (.int t0), .val (.int t1), .val (.int z109_1), .val (.int z109_2), .val (.int z109_3), .val (.int z162_6), .val (.int z162_7), .val (.int z162_8), .val (.ref b11), .val (.ref b26), .val (.ref r56), .val (.int (((p4.toUInt32 >>> ((6 : Int32) &&& 31).toUInt32).toInt32) &&& (3 : Int32))), .val (.int z334_138)] [(.int y1_165)])) (fun t k => st165.trans k) ?_
          refine step (T165.setTop (mkF m 357 #[.val (.int p0), .val (.int p1), .val (.int p2), .val (.int p3), .val (.int p4), .val (.int lf), .val (.int f0), .val (.int f1), .val (.int lt), .val (.int t0), .val (.int t1), .val (.int z109_1), .val (.int z109_2), .val (.int z109_3), .val (.int z162_6), .val (.int z162_7), .val (.int z162_8), .val (.ref b11), .val (.ref b26), .val (.ref r56), .val (.int (((p4.toUInt32 >>> ((6 : Int32) &&& 31).toUInt32).toInt32) &&& (3 : Int32))), .val (.int z334_138)] [(.int z334_138), (.int y1_165)])) (fun t k => XS.iload X165.here hx rfl (hb hby at_355) rfl k) ?_
          suffices J365_167 : ∀ (z365_166 : Int32), z365_166 = (if y1_165 = z334_138 then (1 : Int32) else (0 : Int32)) → G (T165.setTop (mkF m 365 #[.val (.int p0), .val (.int p1), .val (.int p2), .val (.int p3), .val (.int p4), .val (.int lf), .val (.int f0), .val (.int f1), .val (.int lt), .val (.int t0), .val (.int t1), .val (.int z109_1), .val (.int z109_2), .val (.int z109_3), .val (.int z162_6), .val (.int z162_7), .val (.int z162_8), .val (.ref b11), .val (.ref b26), .val (.ref r56), .val (.int (((p4.toUInt32 >>> ((6 : Int32) &&& 31).toUInt32).toInt32) &&& (3 : Int32))), .val (.int z334_138)] [(.int z365_166)])) by
            by_cases hc357_168 : y1_165 = z334_138
            · -- 357 True
              refine step (T165.setTop (mkF m 360 #[.val (.int p0), .val (.int p1), .val (.int p2), .val (.int p3), .val (.int p4), .val (.int lf), .val (.int f0), .val (.int f1), .val (.int lt), .val (.int t0), .val (.int t1), .val (.int z109_1), .val (.int z109_2), .val (.int z109_3), .val (.int z162_6), .val (.int z162_7), .val (.int z162_8), .val (.ref b11), .val (.ref b26), .val (.ref r56), .val (.int (((p4.toUInt32 >>> ((6 : Int32) &&& 31).toUInt32).toInt32) &&& (3 : Int32))), .val (.int z334_138)] [])) (fun t k => XS.icmpNo X165.here hx rfl (hb hby at_357) rfl (teq hc357_168).2 k) ?_
              refine step (T165.setTop (mkF m 361 #[.val (.int p0), .val (.int p1), .val (.int p2), .val (.int p3), .val (.int p4), .val (.int lf), .val (.int f0), .val (.int f1), .val (.int lt), .val (.int t0), .val (.int t1), .val (.int z109_1), .val (.int z109_2), .val (.int z109_3), .val (.int z162_6), .val (.int z162_7), .val (.int z162_8), .val (.ref b11), .val (.ref b26), .val (.ref r56), .val (.int (((p4.toUInt32 >>> ((6 : Int32) &&& 31).toUInt32).toInt32) &&& (3 : Int32))), .val (.int z334_138)] [(.int (1 : Int32))])) (fun t k => XS.iconst X165.here hx rfl (hb hby at_360) k) ?_
              refine step (T165.setTop (mkF m 365 #[.val (.int p0), .val (.int p1), .val (.int p2), .val (.int p3), .val (.int p4), .val (.int lf), .val (.int f0), .val (.int f1), .val (.int lt), .val (.int t0), .val (.int t1), .val (.int z109_1), .val (.int z109_2), .val (.int z109_3), .val (.int z162_6), .val (.int z162_7), .val (.int z162_8), .val (.ref b11), .val (.ref b26), .val (.ref r56), .val (.int (((p4.toUInt32 >>> ((6 : Int32) &&& 31).toUInt32).toInt32) &&& (3 : Int32))), .val (.int z334_138)] [(.int (1 : Int32))])) (fun t k => XS.goto X165.here hx rfl (pc0 := 361) (pc' := 365) rfl (hb hby at_361) (by decide) (by decide) k) ?_
              exact J365_167 _ (by simp only [if_pos hc357_168, if_true, if_false] <;> rfl)
            · -- 357 False
              refine step (T165.setTop (mkF m 364 #[.val (.int p0), .val (.int p1), .val (.int p2), .val (.int p3), .val (.int p4), .val (.int lf), .val (.int f0), .val (.int f1), .val (.int lt), .val (.int t0), .val (.int t1), .val (.int z109_1), .val (.int z109_2), .val (.int z109_3), .val (.int z162_6), .val (.int z162_7), .val (.int z162_8), .val (.ref b11), .val (.ref b26), .val (.ref r56), .val (.int (((p4.toUInt32 >>> ((6 : Int32) &&& 31).toUInt32).toInt32) &&& (3 : Int32))), .val (.int z334_138)] [])) (fun t k => XS.icmpYes X165.here hx rfl (pc0 := 357) (pc' := 364) rfl (hb hby at_357) rfl (feq hc357_168).2 (by decide) (by decide) k) ?_
              refine step (T165.setTop (mkF m 365 #[.val (.int p0), .val (.int p1), .val (.int p2), .val (.int p3), .val (.int p4), .val (.int lf), .val (.int f0), .val (.int f1), .val (.int lt), .val (.int t0), .val (.int t1), .val (.int z109_1), .val (.int z109_2), .val (.int z109_3), .val (.int z162_6), .val (.int z162_7), .val (.int z162_8), .val (.ref b11), .val (.ref b26), .val (.ref r56), .val (.int (((p4.toUInt32 >>> ((6 : Int32) &&& 31).toUInt32).toInt32) &&& (3 : Int32))), .val (.int z334_138)] [(.int (0 : Int32))])) (fun t k => XS.iconst X165.here hx rfl (hb hby at_364) k) ?_
              exact J365_167 _ (by simp only [if_neg hc357_168, if_true, if_false] <;> rfl)
          intro z365_166 hz365_166
          refine fin (v := some (.int (nar .boolean z365_166))) X165 hS (by rw [e165q]; exact (Nat.le_trans hk54 K56q.1)) (fun h => by cases h) ?_ (by decide) (by decide) (fun fs hr => retN X165 hx (t := .boolean) hret (by simp) (hb hby at_365) hr)
          show Q0 Z p0 p1 p2 p3 p4 cs h0 n0 (some (.int (nar .boolean z365_166))) T165.heap _
          rw [e165q]
          exact ⟨own_fin (own_plain25 p0 p1 p2 p3 p4 cs lf f0 f1 lt t0 t1 z109_1 z109_2 z109_3 z162_6 z162_7 z162_8 z_1_107 z_1_137 z334_138 y1_165 z365_166 hlf hf0 hf1 hlt ht0 ht1 hz109_1 hz109_2 hz109_3 hz162_6 hz162_7 hz162_8 hz_1_107 hz_1_137 hz334_138 hy1_165 hz365_166 hc239_68 hc260_81 hc282_94 hc308_108), N165⟩
set_option maxRecDepth 65536 in
set_option maxHeartbeats 40000000 in
theorem comes_1 {Post : Tables → Env → Array Value → State → Outcome → State → Prop} (hpost : ∀ tb e args s v u, (limb_1_1.after args s (.returned v) u = true ∧ limb_1_2.after args s (.returned v) u = true ∧ True) → ReturnedEndW s (.returned v) u (Jvm.fieldLocs frame_1_writes args s ++ Jvm.arrayLocs frame_1_arrays args s ++ Jvm.staticLocs frame_1_statics s) 48 3264 → Post tb e args s (.returned v) u) :
    ArmFor flags0 classFile x code maxLocals ret World_1 tables_1 room_1 Calls_1 rest_1 Pre_1 Post := by
  intro l hfl _ _ p e ha hc hk s m args below hf hA hF happ hP
  obtain ⟨hcalls, hrest, hpre⟩ := hP
  obtain ⟨-, -, -, hnamed, -, -, -, hat⟩ := (Spec.applies_iff hf).mp happ
  obtain ⟨hg, hn⟩ := and_e (Cond.before_iff.mp (show (Jvm.Cond.and given_1 narrow_1).before args s = true from hpre))
  obtain ⟨hcount, hr0⟩ := and_e hg
  obtain ⟨ha0, hr1⟩ := and_e hr0
  obtain ⟨ha1, hr2⟩ := and_e hr1
  obtain ⟨ha2, hr3⟩ := and_e hr2
  obtain ⟨ha3, hr4⟩ := and_e hr3
  have ha4 := hr4
  obtain ⟨w0, w1, w2, w3, w4, rfl⟩ : ∃ w0 w1 w2 w3 w4 : Value, args = #[w0, w1, w2, w3, w4] := by
    have hs : args.size = 5 := by simpa [Cond.value, given_1] using hcount
    obtain ⟨L⟩ := args
    match L, hs with
    | [w0, w1, w2, w3, w4], _ => exact ⟨w0, w1, w2, w3, w4, rfl⟩
  have hw := fun d (hd : d ∈ tables_1) => atoms_spec (ws := Jvm.Cond.code x code maxLocals ret :: tables_1) hat d (List.mem_cons_of_mem _ hd)
  have hfit : Fit s := fun {y c} hc i hi => by
    obtain ⟨ha, rfl⟩ := Array.getElem?_eq_some_iff.mp hc
    have q := List.all_eq_true.mp ((Array.all_eq_true_iff_forall_mem.mp hF) _ (Array.getElem_mem ha)) i (List.mem_range.mpr hi)
    simpa [Array.getElem?_eq_getElem hi] using q
  obtain ⟨hsets, hown0⟩ := atoms_of _ (rest_1_c_eq ▸ (show rest_1_c.before _ s = true from hrest))
  have hr00 := Cond.before_iff.mp hown0
  obtain ⟨i0, ei0⟩ := is_v ha0
  obtain rfl : w0 = (.int i0) := Option.some.inj ei0
  obtain ⟨i1, ei1⟩ := is_v ha1
  obtain rfl : w1 = (.int i1) := Option.some.inj ei1
  obtain ⟨i2, ei2⟩ := is_v ha2
  obtain rfl : w2 = (.int i2) := Option.some.inj ei2
  obtain ⟨i3, ei3⟩ := is_v ha3
  obtain rfl : w3 = (.int i3) := Option.some.inj ei3
  obtain ⟨i4, ei4⟩ := is_v ha4
  obtain rfl : w4 = (.int i4) := Option.some.inj ei4
  have n3 := not_v (Cond.before_iff.mp (hsets _ (List.mem_of_getElem? (i := 2) rfl)))
  obtain ⟨cs, e6⟩ := is_v (Cond.before_iff.mp (hsets _ (List.mem_of_getElem? (i := 1) rfl)))
  have S_cs : Sta s s.heap "java/lang/String" "COMPACT_STRINGS" "Z" (.int cs) := Sta.start e6 (Or.inl (hsets _ (List.mem_of_getElem? (i := 0) rfl)))
  have c_cs : ¬ (cs = (0 : Int32)) := gotF (Cond.eq_ints e6 (Term.int_eval (0))) n3
  obtain ⟨n, o, h1, h2, h3, _, L, rfl, ⟨rfl, N⟩, hq⟩ := rm0 l s _ hw tables_1 i0 i1 i2 i3 i4 cs s.heap s.heap.size (Nat.le_refl _) S_cs c_cs p e ha hc hk s m _ below hf ((Spec.applies_iff_loose hf).mp happ).1 ⟨rfl, State.Warmed39.refl s, rfl⟩ trivial
  refine ⟨n, _, h1, h2, h3, hpost _ _ _ _ _ _ ⟨Cond.after_iff.mpr rfl, Cond.after_iff.mpr (eq_i res_at (Term.int_eval (1)) rfl), trivial⟩ ⟨hq.1, hq.2.1, hq.2.2.1, (hq.2.2.2.sift fun y hy => Or.inr (N y hy)).mono (by decide) (by decide)⟩⟩
theorem main_1_1 : Claimed_1_1 := comes_1 fun _ _ _ _ _ _ h hF => ⟨h.1, hF⟩
theorem main_1_2 : Claimed_1_2 := comes_1 fun _ _ _ _ _ _ h hF => ⟨h.2.1, hF⟩
end Jvm.Pilot.@@N@@
namespace Jvm.Pilot.@@N@@
open Jvm Jvm.ClassFile Sem Op Lib Jvm.Free Jvm.Stand Jvm.Pilot.@@N@@.Jvm.D
/-! MADE BY PROGRAM (witnessworld.py) out of the Statement's table words and the real class files: 22 classes; the members and pool entries that the words name. The judged class is class 1, her method 3. -/
namespace start1
open Jvm.ClassFile
def u (s : String) : CpInfo := .utf8 (stringToUtf16 s)
/-- a pool by its gaps: so many unusable entries, then the entry; so many at the end -/
def gap : Nat → List CpInfo → List CpInfo
  | 0, r => r
  | n + 1, r => .unusable :: gap n r
def poolList (es : List (Nat × CpInfo)) (last : Nat) : List CpInfo := es.foldr (fun e r => gap e.1 (e.2 :: r)) (gap last [])
def pool (es : List (Nat × CpInfo)) (last : Nat) : Array CpInfo := ⟨poolList es last⟩
def fileOf (pool : Array CpInfo) (this : Nat) (attrs : Array Attribute := #[]) (ms : Array MethodInfo := #[]) (fl : Nat := 33) (sup : Nat := 0) (ifs : Array Nat := #[]) (fds : Array FieldInfo := #[]) : ClassFile where
  minorVersion := 0
  majorVersion := 65
  constantPool := pool
  accessFlags := fl
  thisClass := this
  superClass := sup
  interfaces := ifs
  fields := fds
  methods := ms
  attributes := attrs
def plain (name : String) (sup : Option ClassId) : Class where
  name := name
  kind := .ordinary
  loader := none
  accessFlags := 33
  super := sup
  interfaces := #[]
  cf := none
  fields := #[]
  methods := #[]
  instanceTypes := #[]
  staticTypes := #[]
  resolved := #[]
  callSites := []
  init := .initialized
  statics := none
  mirror := none

def pool0 : Array CpInfo := pool [(5, u "<init>"), (0, u "()V"), (1, .class_ 10), (1, u "java/lang/Object")] 113

def k0c0 : Code := { maxStack := 0, maxLocals := 1, code := object_method_1_code, exceptionTable := #[], attributes := #[] }
def k0m0 : Method := { name := "<init>", desc := "()V", sig := { parameters := [], returnType := none }, accessFlags := 1, code := some k0c0 }
/-- java/lang/Object -/
def k0 : Class := { plain "java/lang/Object" none with
  accessFlags := 33
  interfaces := #[]
  cf := some (fileOf pool0 8 #[] #[{ accessFlags := 1, nameIndex := 5, descriptorIndex := 6, attributes := #[] }] 33 0 #[] #[])
  fields := #[]
  methods := #[k0m0]
  instanceTypes := #[]
  staticTypes := #[]
  resolved := Array.replicate 124 none
  statics := none }

def pool1 : Array CpInfo := pool [(2, .class_ 4), (1, u "java/lang/Object"), (0, u "<init>"), (0, u "()V"), (0, .class_ 8), (0, u "java/lang/String"), (0, .methodref 7 10), (0, .nameAndType 5 11), (0, u "([C)V"), (0, .class_ 13), (0, u "com/example/vertex_to_service/vertextoservice/core/Edge"), (0, .methodref 15 16), (0, .class_ 17), (0, .nameAndType 18 19), (0, u "com/example/vertex_to_service/vertextoservice/core/EdgeEqualsPinLaw"), (0, u "str"), (0, u "(ICC)Ljava/lang/String;"), (0, .methodref 12 21), (0, .nameAndType 5 22), (0, u "(Ljava/lang/String;Ljava/lang/String;)V"), (0, .methodref 12 24), (0, .nameAndType 25 26), (0, u "equals"), (0, u "(Ljava/lang/Object;)Z"), (0, .methodref 15 28), (0, .nameAndType 29 30), (0, u "same"), (0, u "(ICCICC)Z"), (3, u "law"), (0, u "(IIIII)Z")] 2

def k1m0 : Method := { name := "<init>", desc := "()V", sig := { parameters := [], returnType := none }, accessFlags := 1, code := none }
def k1c1 : Code := { maxStack := 6, maxLocals := 3, code := method_2_code, exceptionTable := #[], attributes := #[] }
def k1m1 : Method := { name := "str", desc := "(ICC)Ljava/lang/String;", sig := { parameters := [.int, .char, .char], returnType := some (.object "java/lang/String") }, accessFlags := 10, code := some k1c1 }
def k1c2 : Code := { maxStack := 2, maxLocals := 6, code := method_3_code, exceptionTable := #[], attributes := #[] }
def k1m2 : Method := { name := "same", desc := "(ICCICC)Z", sig := { parameters := [.int, .char, .char, .int, .char, .char], returnType := some .boolean }, accessFlags := 10, code := some k1c2 }
def k1c3 : Code := { maxStack := 6, maxLocals := 22, code := code, exceptionTable := #[], attributes := #[] }
def k1m3 : Method := { name := "law", desc := "(IIIII)Z", sig := { parameters := [.int, .int, .int, .int, .int], returnType := some .boolean }, accessFlags := 9, code := some k1c3 }
/-- com/example/vertex_to_service/vertextoservice/core/EdgeEqualsPinLaw -/
def k1 : Class := { plain "com/example/vertex_to_service/vertextoservice/core/EdgeEqualsPinLaw" (some 0) with
  accessFlags := 49
  interfaces := #[]
  cf := some (fileOf pool1 15 #[] #[{ accessFlags := 1, nameIndex := 5, descriptorIndex := 6, attributes := #[] }, { accessFlags := 10, nameIndex := 18, descriptorIndex := 19, attributes := #[] }, { accessFlags := 10, nameIndex := 29, descriptorIndex := 30, attributes := #[] }, { accessFlags := 9, nameIndex := 34, descriptorIndex := 35, attributes := #[] }] 49 2 #[] #[])
  fields := #[]
  methods := #[k1m0, k1m1, k1m2, k1m3]
  instanceTypes := #[]
  staticTypes := #[]
  resolved := Array.replicate 38 none
  statics := none }

def pool2 : Array CpInfo := pool [(1, .methodref 2 3), (0, .class_ 4), (0, .nameAndType 5 6), (0, u "java/lang/Object"), (0, u "<init>"), (0, u "()V"), (0, .class_ 8), (0, u "java/lang/Record")] 13

def k2c0 : Code := { maxStack := 1, maxLocals := 1, code := jdk_30_method_1_code, exceptionTable := #[], attributes := #[] }
def k2m0 : Method := { name := "<init>", desc := "()V", sig := { parameters := [], returnType := none }, accessFlags := 4, code := some k2c0 }
/-- java/lang/Record -/
def k2 : Class := { plain "java/lang/Record" (some 0) with
  accessFlags := 1057
  interfaces := #[]
  cf := some (fileOf pool2 7 #[] #[{ accessFlags := 4, nameIndex := 5, descriptorIndex := 6, attributes := #[] }] 1057 2 #[] #[])
  fields := #[]
  methods := #[k2m0]
  instanceTypes := #[]
  staticTypes := #[]
  resolved := Array.replicate 22 none
  statics := none }

def pool3 : Array CpInfo := pool [(1, .methodref 2 3), (0, .class_ 4), (0, .nameAndType 5 6), (0, u "java/lang/Record"), (0, u "<init>"), (0, u "()V"), (0, .string 8), (0, u "edge"), (0, .string 10), (0, u "from"), (0, .methodref 12 13), (0, .class_ 14), (0, .nameAndType 15 16), (0, u "com/example/vertex_to_service/vertextoservice/core/Checks"), (0, u "nonEmpty"), (0, u "(Ljava/lang/String;Ljava/lang/String;Ljava/lang/String;)V"), (0, .string 18), (0, u "to"), (0, .fieldref 20 21), (0, .class_ 22), (0, .nameAndType 10 23), (0, u "com/example/vertex_to_service/vertextoservice/core/Edge"), (0, u "Ljava/lang/String;"), (0, .fieldref 20 25), (0, .nameAndType 18 23), (0, .methodref 27 28), (0, .class_ 29), (0, .nameAndType 30 31), (0, u "java/lang/String"), (0, u "equals"), (0, u "(Ljava/lang/Object;)Z"), (8, u "(Ljava/lang/String;Ljava/lang/String;)V")] 24

def k3c0 : Code := { maxStack := 3, maxLocals := 3, code := prog_16_method_1_code, exceptionTable := #[], attributes := #[] }
def k3m0 : Method := { name := "<init>", desc := "(Ljava/lang/String;Ljava/lang/String;)V", sig := { parameters := [(.object "java/lang/String"), (.object "java/lang/String")], returnType := none }, accessFlags := 1, code := some k3c0 }
def k3c1 : Code := { maxStack := 2, maxLocals := 3, code := prog_16_method_2_code, exceptionTable := #[], attributes := #[] }
def k3m1 : Method := { name := "equals", desc := "(Ljava/lang/Object;)Z", sig := { parameters := [(.object "java/lang/Object")], returnType := some .boolean }, accessFlags := 1, code := some k3c1 }
/-- com/example/vertex_to_service/vertextoservice/core/Edge -/
def k3 : Class := { plain "com/example/vertex_to_service/vertextoservice/core/Edge" (some 2) with
  accessFlags := 49
  interfaces := #[]
  cf := some (fileOf pool3 20 #[] #[{ accessFlags := 1, nameIndex := 5, descriptorIndex := 40, attributes := #[] }, { accessFlags := 1, nameIndex := 30, descriptorIndex := 31, attributes := #[] }] 49 2 #[] #[{ accessFlags := 18, nameIndex := 10, descriptorIndex := 23, attributes := #[] }, { accessFlags := 18, nameIndex := 18, descriptorIndex := 23, attributes := #[] }])
  fields := #[{ name := "from", type := (.object "java/lang/String"), accessFlags := 18, slot := 0, constantValue := 0 }, { name := "to", type := (.object "java/lang/String"), accessFlags := 18, slot := 1, constantValue := 0 }]
  methods := #[k3m0, k3m1]
  instanceTypes := #[(.object "java/lang/String"), (.object "java/lang/String")]
  staticTypes := #[]
  resolved := Array.replicate 65 none
  statics := none }

def pool4 : Array CpInfo := pool [(1, .class_ 2), (0, u "java/io/Serializable"), (0, .class_ 4), (0, u "java/lang/Object")] 2

/-- java/io/Serializable -/
def k4 : Class := { plain "java/io/Serializable" (some 0) with
  accessFlags := 1537
  interfaces := #[]
  cf := some (fileOf pool4 1 #[] #[] 1537 3 #[] #[])
  fields := #[]
  methods := #[]
  instanceTypes := #[]
  staticTypes := #[]
  resolved := Array.replicate 7 none
  statics := none }

def pool5 : Array CpInfo := pool [(1, .class_ 2), (0, u "java/lang/Comparable"), (0, .class_ 4), (0, u "java/lang/Object")] 7

/-- java/lang/Comparable -/
def k5 : Class := { plain "java/lang/Comparable" (some 0) with
  accessFlags := 1537
  interfaces := #[]
  cf := some (fileOf pool5 1 #[] #[] 1537 3 #[] #[])
  fields := #[]
  methods := #[]
  instanceTypes := #[]
  staticTypes := #[]
  resolved := Array.replicate 12 none
  statics := none }

def pool6 : Array CpInfo := pool [(2, .class_ 4), (1, u "java/lang/CharSequence"), (42, .class_ 48), (0, u "java/lang/CharSequence$1CodePointIterator"), (10, .class_ 60), (0, u "java/lang/CharSequence$1CharIterator"), (5, .class_ 67), (0, u "java/lang/Object")] 63

/-- java/lang/CharSequence -/
def k6 : Class := { plain "java/lang/CharSequence" (some 0) with
  accessFlags := 1537
  interfaces := #[]
  cf := some (fileOf pool6 2 #[.nestMembers #[47, 59]] #[] 1537 66 #[] #[])
  fields := #[]
  methods := #[]
  instanceTypes := #[]
  staticTypes := #[]
  resolved := Array.replicate 131 none
  statics := none }

def pool7 : Array CpInfo := pool [(1, .class_ 2), (0, u "java/lang/constant/Constable"), (0, .class_ 4), (0, u "java/lang/Object")] 6

/-- java/lang/constant/Constable -/
def k7 : Class := { plain "java/lang/constant/Constable" (some 0) with
  accessFlags := 1537
  interfaces := #[]
  cf := some (fileOf pool7 1 #[] #[] 1537 3 #[] #[])
  fields := #[]
  methods := #[]
  instanceTypes := #[]
  staticTypes := #[]
  resolved := Array.replicate 11 none
  statics := none }

def pool8 : Array CpInfo := pool [(1, .class_ 2), (0, u "java/lang/constant/ConstantDesc"), (0, .class_ 4), (0, u "java/lang/Object")] 32

/-- java/lang/constant/ConstantDesc -/
def k8 : Class := { plain "java/lang/constant/ConstantDesc" (some 0) with
  accessFlags := 1537
  interfaces := #[]
  cf := some (fileOf pool8 1 #[] #[] 1537 3 #[] #[])
  fields := #[]
  methods := #[]
  instanceTypes := #[]
  staticTypes := #[]
  resolved := Array.replicate 37 none
  statics := none }

def pool9 : Array CpInfo := pool [(1, .methodref 2 3), (0, .class_ 4), (0, .nameAndType 5 6), (0, u "java/lang/Object"), (0, u "<init>"), (0, u "()V"), (2, .fieldref 10 11), (0, .class_ 12), (0, .nameAndType 13 14), (0, u "java/lang/String"), (0, u "value"), (0, u "[B"), (0, .fieldref 10 16), (0, .nameAndType 17 18), (0, u "coder"), (0, u "B"), (2, u "hash"), (0, u "I"), (2, u "hashIsZero"), (0, u "Z"), (0, .methodref 10 28), (0, .nameAndType 5 29), (0, u "([CIILjava/lang/Void;)V"), (8, .fieldref 10 39), (0, .nameAndType 40 26), (0, u "COMPACT_STRINGS"), (1, .class_ 44), (1, u "java/lang/StringUTF16"), (0, u "compress"), (1, .methodref 42 48), (0, .nameAndType 49 50), (0, u "coderFromArrayLen"), (0, u "([BI)B"), (56, .class_ 109), (1, u "java/lang/StringLatin1"), (32, u "()Z"), (34, .methodref 42 178), (0, .nameAndType 45 179), (0, u "([CII)[B"), (361, .methodref 107 542), (0, .nameAndType 543 544), (0, u "equals"), (0, u "([B[B)Z"), (28, u "(Ljava/lang/Object;)Z"), (1, .class_ 576), (0, u "java/lang/CharSequence"), (22, u "CASE_INSENSITIVE_ORDER"), (0, u "Ljava/util/Comparator;"), (91, u "isEmpty"), (317, u "([C)V"), (90, u "serialPersistentFields"), (0, u "[Ljava/io/ObjectStreamField;"), (0, .class_ 1104), (0, u "java/lang/String$CaseInsensitiveComparator"), (1, .class_ 1107), (0, u "java/io/Serializable"), (0, .class_ 1109), (0, u "java/lang/Comparable"), (0, .class_ 1111), (0, u "java/lang/constant/Constable"), (0, .class_ 1113), (0, u "java/lang/constant/ConstantDesc"), (2, u "serialVersionUID"), (0, u "J"), (3, u "REPL"), (0, u "C"), (2, u "LATIN1"), (1, u "UTF16")] 323

def k9m0 : Method := { name := "<init>", desc := "()V", sig := { parameters := [], returnType := none }, accessFlags := 1, code := none }
def k9c1 : Code := { maxStack := 5, maxLocals := 2, code := jdk_42_method_3_code, exceptionTable := #[], attributes := #[] }
def k9m1 : Method := { name := "<init>", desc := "([C)V", sig := { parameters := [(.array .char)], returnType := none }, accessFlags := 1, code := some k9c1 }
def k9c2 : Code := { maxStack := 1, maxLocals := 1, code := jdk_42_method_55_code, exceptionTable := #[], attributes := #[] }
def k9m2 : Method := { name := "isEmpty", desc := "()Z", sig := { parameters := [], returnType := some .boolean }, accessFlags := 1, code := some k9c2 }
def k9c3 : Code := { maxStack := 2, maxLocals := 3, code := jdk_42_method_66_code, exceptionTable := #[], attributes := #[] }
def k9m3 : Method := { name := "equals", desc := "(Ljava/lang/Object;)Z", sig := { parameters := [(.object "java/lang/Object")], returnType := some .boolean }, accessFlags := 1, code := some k9c3 }
def k9c4 : Code := { maxStack := 4, maxLocals := 6, code := jdk_42_method_149_code, exceptionTable := #[], attributes := #[] }
def k9m4 : Method := { name := "<init>", desc := "([CIILjava/lang/Void;)V", sig := { parameters := [(.array .char), .int, .int, (.object "java/lang/Void")], returnType := none }, accessFlags := 2, code := some k9c4 }
/-- java/lang/String -/
def k9 : Class := { plain "java/lang/String" (some 0) with
  accessFlags := 49
  interfaces := #[4, 5, 6, 7, 8]
  cf := some (fileOf pool9 10 #[.nestMembers #[1103]] #[{ accessFlags := 1, nameIndex := 5, descriptorIndex := 6, attributes := #[] }, { accessFlags := 1, nameIndex := 5, descriptorIndex := 1010, attributes := #[] }, { accessFlags := 1, nameIndex := 692, descriptorIndex := 142, attributes := #[] }, { accessFlags := 1, nameIndex := 543, descriptorIndex := 573, attributes := #[] }, { accessFlags := 2, nameIndex := 5, descriptorIndex := 29, attributes := #[] }] 49 2 #[1106, 1108, 575, 1110, 1112] #[{ accessFlags := 18, nameIndex := 13, descriptorIndex := 14, attributes := #[] }, { accessFlags := 18, nameIndex := 17, descriptorIndex := 18, attributes := #[] }, { accessFlags := 2, nameIndex := 21, descriptorIndex := 22, attributes := #[] }, { accessFlags := 2, nameIndex := 25, descriptorIndex := 26, attributes := #[] }, { accessFlags := 26, nameIndex := 1116, descriptorIndex := 1117, attributes := #[] }, { accessFlags := 24, nameIndex := 40, descriptorIndex := 26, attributes := #[] }, { accessFlags := 26, nameIndex := 1101, descriptorIndex := 1102, attributes := #[] }, { accessFlags := 26, nameIndex := 1121, descriptorIndex := 1122, attributes := #[] }, { accessFlags := 25, nameIndex := 599, descriptorIndex := 600, attributes := #[] }, { accessFlags := 24, nameIndex := 1125, descriptorIndex := 18, attributes := #[] }, { accessFlags := 24, nameIndex := 1127, descriptorIndex := 18, attributes := #[] }])
  fields := #[{ name := "value", type := (.array .byte), accessFlags := 18, slot := 0, constantValue := 0 }, { name := "coder", type := .byte, accessFlags := 18, slot := 1, constantValue := 0 }, { name := "hash", type := .int, accessFlags := 2, slot := 2, constantValue := 0 }, { name := "hashIsZero", type := .boolean, accessFlags := 2, slot := 3, constantValue := 0 }, { name := "serialVersionUID", type := .long, accessFlags := 26, slot := 0, constantValue := 0 }, { name := "COMPACT_STRINGS", type := .boolean, accessFlags := 24, slot := 1, constantValue := 0 }, { name := "serialPersistentFields", type := (.array (.object "java/io/ObjectStreamField")), accessFlags := 26, slot := 2, constantValue := 0 }, { name := "REPL", type := .char, accessFlags := 26, slot := 3, constantValue := 0 }, { name := "CASE_INSENSITIVE_ORDER", type := (.object "java/util/Comparator"), accessFlags := 25, slot := 4, constantValue := 0 }, { name := "LATIN1", type := .byte, accessFlags := 24, slot := 5, constantValue := 0 }, { name := "UTF16", type := .byte, accessFlags := 24, slot := 6, constantValue := 0 }]
  methods := #[k9m0, k9m1, k9m2, k9m3, k9m4]
  instanceTypes := #[(.array .byte), .byte, .int, .boolean]
  staticTypes := #[.long, .boolean, (.array (.object "java/io/ObjectStreamField")), .char, (.object "java/util/Comparator"), .byte, .byte]
  resolved := Array.replicate 1451 none
  statics := some 0 }

def pool10 : Array CpInfo := pool [(6, .class_ 8), (1, u "java/lang/Object"), (0, u "<init>"), (0, u "()V"), (1, .class_ 14), (1, u "java/lang/StringUTF16"), (31, u "$assertionsDisabled"), (0, u "Z"), (13, u "HI_BYTE_SHIFT"), (0, u "I"), (2, u "LO_BYTE_SHIFT"), (49, .methodref 12 116), (0, .nameAndType 117 118), (0, u "compress"), (0, u "([CI[BII)I"), (3, u "([CII)[B"), (138, u "coderFromArrayLen"), (0, u "([BI)B"), (106, .class_ 371), (1, u "java/lang/StringUTF16$LinesSpliterator"), (58, u "MAX_LENGTH"), (196, .class_ 628), (0, u "java/lang/StringUTF16$CodePointsSpliterator"), (0, .class_ 630), (0, u "java/lang/StringUTF16$CharsSpliterator")] 4

def k10m0 : Method := { name := "<init>", desc := "()V", sig := { parameters := [], returnType := none }, accessFlags := 0, code := none }
def k10c1 : Code := { maxStack := 2, maxLocals := 2, code := jdk_52_method_15_code, exceptionTable := #[], attributes := #[] }
def k10m1 : Method := { name := "coderFromArrayLen", desc := "([BI)B", sig := { parameters := [(.array .byte), .int], returnType := some .byte }, accessFlags := 8, code := some k10c1 }
def k10c2 : Code := { maxStack := 5, maxLocals := 6, code := jdk_52_method_16_code, exceptionTable := #[], attributes := #[] }
def k10m2 : Method := { name := "compress", desc := "([CII)[B", sig := { parameters := [(.array .char), .int, .int], returnType := some (.array .byte) }, accessFlags := 9, code := some k10c2 }
def k10c3 : Code := { maxStack := 3, maxLocals := 7, code := jdk_52_method_21_code, exceptionTable := #[], attributes := #[] }
def k10m3 : Method := { name := "compress", desc := "([CI[BII)I", sig := { parameters := [(.array .char), .int, (.array .byte), .int, .int], returnType := some .int }, accessFlags := 9, code := some k10c3 }
/-- java/lang/StringUTF16 -/
def k10 : Class := { plain "java/lang/StringUTF16" (some 0) with
  accessFlags := 48
  interfaces := #[]
  cf := some (fileOf pool10 12 #[.nestMembers #[627, 629, 369]] #[{ accessFlags := 0, nameIndex := 9, descriptorIndex := 10, attributes := #[] }, { accessFlags := 8, nameIndex := 261, descriptorIndex := 262, attributes := #[] }, { accessFlags := 9, nameIndex := 117, descriptorIndex := 122, attributes := #[] }, { accessFlags := 9, nameIndex := 117, descriptorIndex := 118, attributes := #[] }] 48 6 #[] #[{ accessFlags := 26, nameIndex := 61, descriptorIndex := 62, attributes := #[] }, { accessFlags := 26, nameIndex := 65, descriptorIndex := 62, attributes := #[] }, { accessFlags := 24, nameIndex := 430, descriptorIndex := 62, attributes := #[] }, { accessFlags := 4120, nameIndex := 46, descriptorIndex := 47, attributes := #[] }])
  fields := #[{ name := "HI_BYTE_SHIFT", type := .int, accessFlags := 26, slot := 0, constantValue := 0 }, { name := "LO_BYTE_SHIFT", type := .int, accessFlags := 26, slot := 1, constantValue := 0 }, { name := "MAX_LENGTH", type := .int, accessFlags := 24, slot := 2, constantValue := 0 }, { name := "$assertionsDisabled", type := .boolean, accessFlags := 4120, slot := 3, constantValue := 0 }]
  methods := #[k10m0, k10m1, k10m2, k10m3]
  instanceTypes := #[]
  staticTypes := #[.int, .int, .int, .boolean]
  resolved := Array.replicate 635 none
  statics := none }

def pool11 : Array CpInfo := pool [(2, .class_ 4), (1, u "java/lang/Object"), (0, u "<init>"), (0, u "()V"), (20, .methodref 28 29), (0, .class_ 30), (0, .nameAndType 31 32), (0, u "java/lang/String"), (0, u "isEmpty"), (0, u "()Z"), (31, .class_ 65), (0, u "com/example/vertex_to_service/vertextoservice/core/Checks"), (7, u "nonEmpty"), (0, u "(Ljava/lang/String;Ljava/lang/String;Ljava/lang/String;)V")] 31

def k11m0 : Method := { name := "<init>", desc := "()V", sig := { parameters := [], returnType := none }, accessFlags := 2, code := none }
def k11c1 : Code := { maxStack := 4, maxLocals := 3, code := prog_9_method_5_code, exceptionTable := #[], attributes := #[] }
def k11m1 : Method := { name := "nonEmpty", desc := "(Ljava/lang/String;Ljava/lang/String;Ljava/lang/String;)V", sig := { parameters := [(.object "java/lang/String"), (.object "java/lang/String"), (.object "java/lang/String")], returnType := none }, accessFlags := 8, code := some k11c1 }
/-- com/example/vertex_to_service/vertextoservice/core/Checks -/
def k11 : Class := { plain "com/example/vertex_to_service/vertextoservice/core/Checks" (some 0) with
  accessFlags := 48
  interfaces := #[]
  cf := some (fileOf pool11 64 #[] #[{ accessFlags := 2, nameIndex := 5, descriptorIndex := 6, attributes := #[] }, { accessFlags := 8, nameIndex := 73, descriptorIndex := 74, attributes := #[] }] 48 2 #[] #[])
  fields := #[]
  methods := #[k11m0, k11m1]
  instanceTypes := #[]
  staticTypes := #[]
  resolved := Array.replicate 106 none
  statics := none }

def pool12 : Array CpInfo := pool [(4, .class_ 6), (1, u "java/lang/Object"), (0, u "<init>"), (0, u "()V"), (5, .class_ 16), (1, u "java/lang/StringLatin1"), (104, u "$assertionsDisabled"), (0, u "Z"), (98, .class_ 223), (1, u "java/lang/StringLatin1$LinesSpliterator"), (57, u "equals"), (0, u "([B[B)Z"), (107, .class_ 391), (0, u "java/lang/StringLatin1$CharsSpliterator")] 3

def k12m0 : Method := { name := "<init>", desc := "()V", sig := { parameters := [], returnType := none }, accessFlags := 0, code := none }
def k12c1 : Code := { maxStack := 3, maxLocals := 3, code := jdk_43_method_13_code, exceptionTable := #[], attributes := #[] }
def k12m1 : Method := { name := "equals", desc := "([B[B)Z", sig := { parameters := [(.array .byte), (.array .byte)], returnType := some .boolean }, accessFlags := 9, code := some k12c1 }
/-- java/lang/StringLatin1 -/
def k12 : Class := { plain "java/lang/StringLatin1" (some 0) with
  accessFlags := 48
  interfaces := #[]
  cf := some (fileOf pool12 14 #[.nestMembers #[390, 221]] #[{ accessFlags := 0, nameIndex := 7, descriptorIndex := 8, attributes := #[] }, { accessFlags := 9, nameIndex := 281, descriptorIndex := 282, attributes := #[] }] 48 4 #[] #[{ accessFlags := 4120, nameIndex := 121, descriptorIndex := 122, attributes := #[] }])
  fields := #[{ name := "$assertionsDisabled", type := .boolean, accessFlags := 4120, slot := 0, constantValue := 0 }]
  methods := #[k12m0, k12m1]
  instanceTypes := #[]
  staticTypes := #[.boolean]
  resolved := Array.replicate 395 none
  statics := none }

def pool13 : Array CpInfo := pool [(2, .class_ 4), (1, u "java/lang/Object"), (0, u "<init>"), (0, u "()V"), (17, .class_ 26), (1, u "jdk/internal/util/Preconditions"), (28, .class_ 56), (0, u "jdk/internal/util/Preconditions$4"), (57, .class_ 115), (0, u "jdk/internal/util/Preconditions$1"), (7, u "SIOOBE_FORMATTER"), (0, u "Ljava/util/function/BiFunction;"), (0, .class_ 126), (0, u "jdk/internal/util/Preconditions$2"), (3, u "AIOOBE_FORMATTER"), (0, .class_ 132), (0, u "jdk/internal/util/Preconditions$3"), (3, u "IOOBE_FORMATTER")] 57

def k13m0 : Method := { name := "<init>", desc := "()V", sig := { parameters := [], returnType := none }, accessFlags := 1, code := none }
/-- jdk/internal/util/Preconditions -/
def k13 : Class := { plain "jdk/internal/util/Preconditions" (some 0) with
  accessFlags := 33
  interfaces := #[]
  cf := some (fileOf pool13 24 #[.nestMembers #[55, 131, 125, 114]] #[{ accessFlags := 1, nameIndex := 5, descriptorIndex := 6, attributes := #[] }] 33 2 #[] #[{ accessFlags := 25, nameIndex := 123, descriptorIndex := 124, attributes := #[] }, { accessFlags := 25, nameIndex := 130, descriptorIndex := 124, attributes := #[] }, { accessFlags := 25, nameIndex := 136, descriptorIndex := 124, attributes := #[] }])
  fields := #[{ name := "SIOOBE_FORMATTER", type := (.object "java/util/function/BiFunction"), accessFlags := 25, slot := 0, constantValue := 0 }, { name := "AIOOBE_FORMATTER", type := (.object "java/util/function/BiFunction"), accessFlags := 25, slot := 1, constantValue := 0 }, { name := "IOOBE_FORMATTER", type := (.object "java/util/function/BiFunction"), accessFlags := 25, slot := 2, constantValue := 0 }]
  methods := #[k13m0]
  instanceTypes := #[]
  staticTypes := #[(.object "java/util/function/BiFunction"), (.object "java/util/function/BiFunction"), (.object "java/util/function/BiFunction")]
  resolved := Array.replicate 194 none
  statics := some 1 }

def pool14 : Array CpInfo := pool [(9, u "<init>"), (6, .class_ 18), (1, u "java/lang/Object"), (0, u "()V"), (1, .class_ 23), (1, u "jdk/internal/util/ArraysSupport"), (0, u "LOG2_ARRAY_LONG_INDEX_SCALE"), (0, u "I"), (2, u "U"), (0, u "Ljdk/internal/misc/Unsafe;"), (8, u "BIG_ENDIAN"), (0, u "Z"), (8, u "LOG2_BYTE_BIT_SIZE"), (4, u "LOG2_ARRAY_INT_INDEX_SCALE"), (54, u "JLA"), (0, u "Ljdk/internal/access/JavaLangAccess;"), (11, u "LOG2_ARRAY_BOOLEAN_INDEX_SCALE"), (9, u "LOG2_ARRAY_BYTE_INDEX_SCALE"), (5, u "LOG2_ARRAY_CHAR_INDEX_SCALE"), (5, u "LOG2_ARRAY_SHORT_INDEX_SCALE"), (18, u "LOG2_ARRAY_FLOAT_INDEX_SCALE"), (24, u "LOG2_ARRAY_DOUBLE_INDEX_SCALE"), (89, u "T_BOOLEAN"), (2, u "T_CHAR"), (1, u "T_FLOAT"), (1, u "T_DOUBLE"), (1, u "T_BYTE"), (1, u "T_SHORT"), (1, u "T_INT"), (1, u "T_LONG"), (1, u "SOFT_MAX_ARRAY_LENGTH")] 83

def k14m0 : Method := { name := "<init>", desc := "()V", sig := { parameters := [], returnType := none }, accessFlags := 2, code := none }
/-- jdk/internal/util/ArraysSupport -/
def k14 : Class := { plain "jdk/internal/util/ArraysSupport" (some 0) with
  accessFlags := 33
  interfaces := #[]
  cf := some (fileOf pool14 21 #[] #[{ accessFlags := 2, nameIndex := 9, descriptorIndex := 19, attributes := #[] }] 33 16 #[] #[{ accessFlags := 24, nameIndex := 28, descriptorIndex := 29, attributes := #[] }, { accessFlags := 26, nameIndex := 38, descriptorIndex := 39, attributes := #[] }, { accessFlags := 25, nameIndex := 121, descriptorIndex := 25, attributes := #[] }, { accessFlags := 25, nameIndex := 131, descriptorIndex := 25, attributes := #[] }, { accessFlags := 25, nameIndex := 137, descriptorIndex := 25, attributes := #[] }, { accessFlags := 25, nameIndex := 143, descriptorIndex := 25, attributes := #[] }, { accessFlags := 25, nameIndex := 53, descriptorIndex := 25, attributes := #[] }, { accessFlags := 25, nameIndex := 24, descriptorIndex := 25, attributes := #[] }, { accessFlags := 25, nameIndex := 162, descriptorIndex := 25, attributes := #[] }, { accessFlags := 25, nameIndex := 187, descriptorIndex := 25, attributes := #[] }, { accessFlags := 26, nameIndex := 48, descriptorIndex := 25, attributes := #[] }, { accessFlags := 25, nameIndex := 277, descriptorIndex := 25, attributes := #[] }, { accessFlags := 25, nameIndex := 280, descriptorIndex := 25, attributes := #[] }, { accessFlags := 25, nameIndex := 282, descriptorIndex := 25, attributes := #[] }, { accessFlags := 25, nameIndex := 284, descriptorIndex := 25, attributes := #[] }, { accessFlags := 25, nameIndex := 286, descriptorIndex := 25, attributes := #[] }, { accessFlags := 25, nameIndex := 288, descriptorIndex := 25, attributes := #[] }, { accessFlags := 25, nameIndex := 290, descriptorIndex := 25, attributes := #[] }, { accessFlags := 25, nameIndex := 292, descriptorIndex := 25, attributes := #[] }, { accessFlags := 26, nameIndex := 108, descriptorIndex := 109, attributes := #[] }, { accessFlags := 25, nameIndex := 294, descriptorIndex := 25, attributes := #[] }])
  fields := #[{ name := "U", type := (.object "jdk/internal/misc/Unsafe"), accessFlags := 24, slot := 0, constantValue := 0 }, { name := "BIG_ENDIAN", type := .boolean, accessFlags := 26, slot := 1, constantValue := 0 }, { name := "LOG2_ARRAY_BOOLEAN_INDEX_SCALE", type := .int, accessFlags := 25, slot := 2, constantValue := 0 }, { name := "LOG2_ARRAY_BYTE_INDEX_SCALE", type := .int, accessFlags := 25, slot := 3, constantValue := 0 }, { name := "LOG2_ARRAY_CHAR_INDEX_SCALE", type := .int, accessFlags := 25, slot := 4, constantValue := 0 }, { name := "LOG2_ARRAY_SHORT_INDEX_SCALE", type := .int, accessFlags := 25, slot := 5, constantValue := 0 }, { name := "LOG2_ARRAY_INT_INDEX_SCALE", type := .int, accessFlags := 25, slot := 6, constantValue := 0 }, { name := "LOG2_ARRAY_LONG_INDEX_SCALE", type := .int, accessFlags := 25, slot := 7, constantValue := 0 }, { name := "LOG2_ARRAY_FLOAT_INDEX_SCALE", type := .int, accessFlags := 25, slot := 8, constantValue := 0 }, { name := "LOG2_ARRAY_DOUBLE_INDEX_SCALE", type := .int, accessFlags := 25, slot := 9, constantValue := 0 }, { name := "LOG2_BYTE_BIT_SIZE", type := .int, accessFlags := 26, slot := 10, constantValue := 0 }, { name := "T_BOOLEAN", type := .int, accessFlags := 25, slot := 11, constantValue := 0 }, { name := "T_CHAR", type := .int, accessFlags := 25, slot := 12, constantValue := 0 }, { name := "T_FLOAT", type := .int, accessFlags := 25, slot := 13, constantValue := 0 }, { name := "T_DOUBLE", type := .int, accessFlags := 25, slot := 14, constantValue := 0 }, { name := "T_BYTE", type := .int, accessFlags := 25, slot := 15, constantValue := 0 }, { name := "T_SHORT", type := .int, accessFlags := 25, slot := 16, constantValue := 0 }, { name := "T_INT", type := .int, accessFlags := 25, slot := 17, constantValue := 0 }, { name := "T_LONG", type := .int, accessFlags := 25, slot := 18, constantValue := 0 }, { name := "JLA", type := (.object "jdk/internal/access/JavaLangAccess"), accessFlags := 26, slot := 19, constantValue := 0 }, { name := "SOFT_MAX_ARRAY_LENGTH", type := .int, accessFlags := 25, slot := 20, constantValue := 0 }]
  methods := #[k14m0]
  instanceTypes := #[]
  staticTypes := #[(.object "jdk/internal/misc/Unsafe"), .boolean, .int, .int, .int, .int, .int, .int, .int, .int, .int, .int, .int, .int, .int, .int, .int, .int, .int, (.object "jdk/internal/access/JavaLangAccess"), .int]
  resolved := Array.replicate 378 none
  statics := none }

def pool15 : Array CpInfo := pool [(1, u "java/lang/Cloneable"), (0, .class_ 1), (0, u "java/lang/Object"), (0, .class_ 3)] 3

/-- java/lang/Cloneable -/
def k15 : Class := { plain "java/lang/Cloneable" (some 0) with
  accessFlags := 1537
  interfaces := #[]
  cf := some (fileOf pool15 2 #[] #[] 1537 4 #[] #[])
  fields := #[]
  methods := #[]
  instanceTypes := #[]
  staticTypes := #[]
  resolved := Array.replicate 8 none
  statics := none }

/-- the primitive byte -/
def k16 : Class := { plain "byte" none with kind := .primitive 'B', accessFlags := 0x411 }
/-- [B -/
def k17 : Class := { plain "[B" (some 0) with kind := .array 16 .byte, interfaces := #[15, 4], accessFlags := 1041 }

/-- the primitive char -/
def k18 : Class := { plain "char" none with kind := .primitive 'C', accessFlags := 0x411 }
/-- [C -/
def k19 : Class := { plain "[C" (some 0) with kind := .array 18 .char, interfaces := #[15, 4], accessFlags := 1041 }

/-- the primitive int -/
def k20 : Class := { plain "int" none with kind := .primitive 'I', accessFlags := 0x411 }
/-- [I -/
def k21 : Class := { plain "[I" (some 0) with kind := .array 20 .int, interfaces := #[15, 4], accessFlags := 1041 }

def heap : Heap := #[{ cls := 9, slots := #[.long 0, .int 1, .null, .int 0, .null, .int 0, .int 0], vm := .statics 9 },
  { cls := 13, slots := #[.null, .null, .null], vm := .statics 13 }]
def classes : Array Class := #[k0, k1, k2, k3, k4, k5, k6, k7, k8, k9, k10, k11, k12, k13, k14, k15, k16, k17, k18, k19, k20, k21]
def interned : List (Array UInt16 × Addr) := []
def slotsUsed : Nat := 10
def theMethod : MethodId := ⟨1, 3⟩
def args0 : Array Value := #[.int 5, .int 6, .int 7, .int 8, .int 9]
def aboutOver (below : List Frame) : State where
  vm := { classes := classes, interned := interned.toArray }
  heap := heap
  slotsUsed := slotsUsed
  threads := #[{ frames := .invoking theMethod args0 :: below }]
def below0 : List Frame := [.native { method := ⟨0, 0⟩, args := #[] }]
def about1 : State := aboutOver below0
def p0 : Program := .bare "" "" ""
def e0 : Env := launch0.env 0 0 0
theorem w_frames : about1.frames = Frame.invoking theMethod args0 :: below0 := rfl
set_option maxRecDepth 65536 in
theorem w_args : argsFit about1.vm theMethod args0 = true := by decide +kernel
set_option maxRecDepth 65536 in
theorem w_heap : heapFits about1 = true := by decide +kernel
set_option maxRecDepth 65536 in
theorem w_runnable : about1.curStatus? = some .runnable := by decide +kernel
set_option maxRecDepth 65536 in
theorem w_alone : about1.alone = true := by decide +kernel
set_option maxRecDepth 65536 in
theorem w_named : about1.methodNamed? x = some theMethod := by decide +kernel
set_option maxRecDepth 65536 in
theorem w_hears : about1.hears theMethod below0 = true := by decide +kernel
set_option maxRecDepth 65536 in
theorem w_ripe : about1.ripe theMethod args0 below0 = true := by decide +kernel
theorem w_running : about1.status = .running := rfl
set_option maxRecDepth 65536 in
theorem w_room : about1.hasRoom e0.platform room_1 = true :=
  launch0.hasRoom_least _ room_1 (by decide +kernel) (by decide +kernel) (by decide +kernel) (by decide +kernel) (by decide +kernel) (by decide +kernel)
theorem allAtoms_all (ts : List Jvm.Cond) (a : Array Jvm.Value) (st : Jvm.State) : (allAtoms ts).before a st = ts.all (fun c => c.before a st) := by
  induction ts with
  | nil => rfl
  | cons c t ih =>
    show (Jvm.Cond.and c (allAtoms t)).before a st = _
    rw [Jvm.Cond.before_and, ih, List.all_cons]
def words1 : List Jvm.Cond := Jvm.Cond.code x code maxLocals ret :: tables_1
/-- a 'code' word, met by the world's own term for the bytes: nothing is compared byte by byte -/
theorem code_word {y : MethodName} {bytes : ByteArray} {mx : Nat} {rt : Option FieldType} {a : Array Value} {s : State} {m : MethodId} {meth : Method} {c : Code} (h1 : s.methodNamed? y = some m) (h2 : s.vm.method? m = some meth) (h3 : meth.code = some c) (h4 : c.code = bytes)
    (h5 : (c.maxLocals == mx && c.exceptionTable.isEmpty && decide (c.maxStack ≤ mostOperands) && decide (meth.sig.returnType = rt) && !meth.locks && decide (parseMethodDescriptor y.desc = some meth.sig)) = true) : (Jvm.Cond.code y bytes mx rt).before a s = true := by
  simp only [Bool.and_eq_true, beq_iff_eq, Bool.not_eq_true', decide_eq_true_eq] at h5
  obtain ⟨⟨⟨⟨⟨g1, g2⟩, g3⟩, g4⟩, g5⟩, g6⟩ := h5
  simp [Cond.before, Cond.holds, Cond.value, h1, h2, h3, h4, g1, g2, g3, g4, g5, g6]
def isCode : Jvm.Cond → Bool
  | .code _ _ _ _ => true
  | _ => false
theorem all_split {L : List Jvm.Cond} {P : Jvm.Cond → Bool} (h1 : L.all (fun c => isCode c || P c) = true) (h2 : ∀ c ∈ L.filter isCode, P c = true) : L.all P = true := by
  refine List.all_eq_true.mpr fun c hc => ?_
  have h := List.all_eq_true.mp h1 c hc
  rcases Bool.eq_false_or_eq_true (isCode c) with hi | hi
  · exact h2 c (List.mem_filter.mpr ⟨hc, hi⟩)
  · simpa [hi] using h
set_option maxRecDepth 65536 in
theorem w_c0 : (Jvm.Cond.code x code maxLocals ret).before args0 about1 = true := code_word (m := ⟨1, 3⟩) (meth := k1m3) (c := k1c3) (by decide +kernel) rfl rfl rfl (by decide +kernel)
set_option maxRecDepth 65536 in
theorem w_c1 : (Jvm.Cond.code ({ cls := "com/example/vertex_to_service/vertextoservice/core/EdgeEqualsPinLaw", name := "str", desc := "(ICC)Ljava/lang/String;" } : Jvm.MethodName) method_2_code (3 : Nat) (Option.some (Jvm.ClassFile.FieldType.object "java/lang/String"))).before args0 about1 = true := code_word (m := ⟨1, 1⟩) (meth := k1m1) (c := k1c1) (by decide +kernel) rfl rfl rfl (by decide +kernel)
set_option maxRecDepth 65536 in
theorem w_c2 : (Jvm.Cond.code ({ cls := "java/lang/String", name := "<init>", desc := "([C)V" } : Jvm.MethodName) jdk_42_method_3_code (2 : Nat) (Option.none : Option Jvm.ClassFile.FieldType)).before args0 about1 = true := code_word (m := ⟨9, 1⟩) (meth := k9m1) (c := k9c1) (by decide +kernel) rfl rfl rfl (by decide +kernel)
set_option maxRecDepth 65536 in
theorem w_c3 : (Jvm.Cond.code ({ cls := "java/lang/String", name := "<init>", desc := "([CIILjava/lang/Void;)V" } : Jvm.MethodName) jdk_42_method_149_code (6 : Nat) (Option.none : Option Jvm.ClassFile.FieldType)).before args0 about1 = true := code_word (m := ⟨9, 4⟩) (meth := k9m4) (c := k9c4) (by decide +kernel) rfl rfl rfl (by decide +kernel)
set_option maxRecDepth 65536 in
theorem w_c4 : (Jvm.Cond.code ({ cls := "java/lang/Object", name := "<init>", desc := "()V" } : Jvm.MethodName) object_method_1_code (1 : Nat) (Option.none : Option Jvm.ClassFile.FieldType)).before args0 about1 = true := code_word (m := ⟨0, 0⟩) (meth := k0m0) (c := k0c0) (by decide +kernel) rfl rfl rfl (by decide +kernel)
set_option maxRecDepth 65536 in
theorem w_c5 : (Jvm.Cond.code ({ cls := "java/lang/StringUTF16", name := "compress", desc := "([CII)[B" } : Jvm.MethodName) jdk_52_method_16_code (6 : Nat) (Option.some (Jvm.ClassFile.FieldType.array Jvm.ClassFile.FieldType.byte))).before args0 about1 = true := code_word (m := ⟨10, 2⟩) (meth := k10m2) (c := k10c2) (by decide +kernel) rfl rfl rfl (by decide +kernel)
set_option maxRecDepth 65536 in
theorem w_c6 : (Jvm.Cond.code ({ cls := "java/lang/StringUTF16", name := "compress", desc := "([CI[BII)I" } : Jvm.MethodName) jdk_52_method_21_code (7 : Nat) (Option.some Jvm.ClassFile.FieldType.int)).before args0 about1 = true := code_word (m := ⟨10, 3⟩) (meth := k10m3) (c := k10c3) (by decide +kernel) rfl rfl rfl (by decide +kernel)
set_option maxRecDepth 65536 in
theorem w_c7 : (Jvm.Cond.code ({ cls := "java/lang/StringUTF16", name := "coderFromArrayLen", desc := "([BI)B" } : Jvm.MethodName) jdk_52_method_15_code (2 : Nat) (Option.some Jvm.ClassFile.FieldType.byte)).before args0 about1 = true := code_word (m := ⟨10, 1⟩) (meth := k10m1) (c := k10c1) (by decide +kernel) rfl rfl rfl (by decide +kernel)
set_option maxRecDepth 65536 in
theorem w_c8 : (Jvm.Cond.code ({ cls := "com/example/vertex_to_service/vertextoservice/core/Edge", name := "<init>", desc := "(Ljava/lang/String;Ljava/lang/String;)V" } : Jvm.MethodName) prog_16_method_1_code (3 : Nat) (Option.none : Option Jvm.ClassFile.FieldType)).before args0 about1 = true := code_word (m := ⟨3, 0⟩) (meth := k3m0) (c := k3c0) (by decide +kernel) rfl rfl rfl (by decide +kernel)
set_option maxRecDepth 65536 in
theorem w_c9 : (Jvm.Cond.code ({ cls := "java/lang/Record", name := "<init>", desc := "()V" } : Jvm.MethodName) jdk_30_method_1_code (1 : Nat) (Option.none : Option Jvm.ClassFile.FieldType)).before args0 about1 = true := code_word (m := ⟨2, 0⟩) (meth := k2m0) (c := k2c0) (by decide +kernel) rfl rfl rfl (by decide +kernel)
set_option maxRecDepth 65536 in
theorem w_c10 : (Jvm.Cond.code ({ cls := "com/example/vertex_to_service/vertextoservice/core/Checks", name := "nonEmpty", desc := "(Ljava/lang/String;Ljava/lang/String;Ljava/lang/String;)V" } : Jvm.MethodName) prog_9_method_5_code (3 : Nat) (Option.none : Option Jvm.ClassFile.FieldType)).before args0 about1 = true := code_word (m := ⟨11, 1⟩) (meth := k11m1) (c := k11c1) (by decide +kernel) rfl rfl rfl (by decide +kernel)
set_option maxRecDepth 65536 in
theorem w_c11 : (Jvm.Cond.code ({ cls := "java/lang/String", name := "isEmpty", desc := "()Z" } : Jvm.MethodName) jdk_42_method_55_code (1 : Nat) (Option.some Jvm.ClassFile.FieldType.boolean)).before args0 about1 = true := code_word (m := ⟨9, 2⟩) (meth := k9m2) (c := k9c2) (by decide +kernel) rfl rfl rfl (by decide +kernel)
set_option maxRecDepth 65536 in
theorem w_c12 : (Jvm.Cond.code ({ cls := "com/example/vertex_to_service/vertextoservice/core/EdgeEqualsPinLaw", name := "same", desc := "(ICCICC)Z" } : Jvm.MethodName) method_3_code (6 : Nat) (Option.some Jvm.ClassFile.FieldType.boolean)).before args0 about1 = true := code_word (m := ⟨1, 2⟩) (meth := k1m2) (c := k1c2) (by decide +kernel) rfl rfl rfl (by decide +kernel)
set_option maxRecDepth 65536 in
theorem w_c13 : (Jvm.Cond.code ({ cls := "com/example/vertex_to_service/vertextoservice/core/Edge", name := "equals", desc := "(Ljava/lang/Object;)Z" } : Jvm.MethodName) prog_16_method_2_code (3 : Nat) (Option.some Jvm.ClassFile.FieldType.boolean)).before args0 about1 = true := code_word (m := ⟨3, 1⟩) (meth := k3m1) (c := k3c1) (by decide +kernel) rfl rfl rfl (by decide +kernel)
set_option maxRecDepth 65536 in
theorem w_c14 : (Jvm.Cond.code ({ cls := "java/lang/String", name := "equals", desc := "(Ljava/lang/Object;)Z" } : Jvm.MethodName) jdk_42_method_66_code (3 : Nat) (Option.some Jvm.ClassFile.FieldType.boolean)).before args0 about1 = true := code_word (m := ⟨9, 3⟩) (meth := k9m3) (c := k9c3) (by decide +kernel) rfl rfl rfl (by decide +kernel)
set_option maxRecDepth 65536 in
theorem w_c15 : (Jvm.Cond.code ({ cls := "java/lang/StringLatin1", name := "equals", desc := "([B[B)Z" } : Jvm.MethodName) jdk_43_method_13_code (3 : Nat) (Option.some Jvm.ClassFile.FieldType.boolean)).before args0 about1 = true := code_word (m := ⟨12, 1⟩) (meth := k12m1) (c := k12c1) (by decide +kernel) rfl rfl rfl (by decide +kernel)
def codes1 : List Jvm.Cond := [Jvm.Cond.code x code maxLocals ret, Jvm.Cond.code ({ cls := "com/example/vertex_to_service/vertextoservice/core/EdgeEqualsPinLaw", name := "str", desc := "(ICC)Ljava/lang/String;" } : Jvm.MethodName) method_2_code (3 : Nat) (Option.some (Jvm.ClassFile.FieldType.object "java/lang/String")), Jvm.Cond.code ({ cls := "java/lang/String", name := "<init>", desc := "([C)V" } : Jvm.MethodName) jdk_42_method_3_code (2 : Nat) (Option.none : Option Jvm.ClassFile.FieldType), Jvm.Cond.code ({ cls := "java/lang/String", name := "<init>", desc := "([CIILjava/lang/Void;)V" } : Jvm.MethodName) jdk_42_method_149_code (6 : Nat) (Option.none : Option Jvm.ClassFile.FieldType), Jvm.Cond.code ({ cls := "java/lang/Object", name := "<init>", desc := "()V" } : Jvm.MethodName) object_method_1_code (1 : Nat) (Option.none : Option Jvm.ClassFile.FieldType), Jvm.Cond.code ({ cls := "java/lang/StringUTF16", name := "compress", desc := "([CII)[B" } : Jvm.MethodName) jdk_52_method_16_code (6 : Nat) (Option.some (Jvm.ClassFile.FieldType.array Jvm.ClassFile.FieldType.byte)), Jvm.Cond.code ({ cls := "java/lang/StringUTF16", name := "compress", desc := "([CI[BII)I" } : Jvm.MethodName) jdk_52_method_21_code (7 : Nat) (Option.some Jvm.ClassFile.FieldType.int), Jvm.Cond.code ({ cls := "java/lang/StringUTF16", name := "coderFromArrayLen", desc := "([BI)B" } : Jvm.MethodName) jdk_52_method_15_code (2 : Nat) (Option.some Jvm.ClassFile.FieldType.byte), Jvm.Cond.code ({ cls := "com/example/vertex_to_service/vertextoservice/core/Edge", name := "<init>", desc := "(Ljava/lang/String;Ljava/lang/String;)V" } : Jvm.MethodName) prog_16_method_1_code (3 : Nat) (Option.none : Option Jvm.ClassFile.FieldType), Jvm.Cond.code ({ cls := "java/lang/Record", name := "<init>", desc := "()V" } : Jvm.MethodName) jdk_30_method_1_code (1 : Nat) (Option.none : Option Jvm.ClassFile.FieldType), Jvm.Cond.code ({ cls := "com/example/vertex_to_service/vertextoservice/core/Checks", name := "nonEmpty", desc := "(Ljava/lang/String;Ljava/lang/String;Ljava/lang/String;)V" } : Jvm.MethodName) prog_9_method_5_code (3 : Nat) (Option.none : Option Jvm.ClassFile.FieldType), Jvm.Cond.code ({ cls := "java/lang/String", name := "isEmpty", desc := "()Z" } : Jvm.MethodName) jdk_42_method_55_code (1 : Nat) (Option.some Jvm.ClassFile.FieldType.boolean), Jvm.Cond.code ({ cls := "com/example/vertex_to_service/vertextoservice/core/EdgeEqualsPinLaw", name := "same", desc := "(ICCICC)Z" } : Jvm.MethodName) method_3_code (6 : Nat) (Option.some Jvm.ClassFile.FieldType.boolean), Jvm.Cond.code ({ cls := "com/example/vertex_to_service/vertextoservice/core/Edge", name := "equals", desc := "(Ljava/lang/Object;)Z" } : Jvm.MethodName) prog_16_method_2_code (3 : Nat) (Option.some Jvm.ClassFile.FieldType.boolean), Jvm.Cond.code ({ cls := "java/lang/String", name := "equals", desc := "(Ljava/lang/Object;)Z" } : Jvm.MethodName) jdk_42_method_66_code (3 : Nat) (Option.some Jvm.ClassFile.FieldType.boolean), Jvm.Cond.code ({ cls := "java/lang/StringLatin1", name := "equals", desc := "([B[B)Z" } : Jvm.MethodName) jdk_43_method_13_code (3 : Nat) (Option.some Jvm.ClassFile.FieldType.boolean)]
set_option maxRecDepth 65536 in
theorem codes_eq : words1.filter isCode = codes1 := rfl
theorem w_codes : ∀ c ∈ words1.filter isCode, c.before args0 about1 = true := by
  rw [codes_eq]
  intro c hc
  simp only [codes1, List.mem_cons, List.not_mem_nil, or_false] at hc
  rcases hc with rfl | rfl | rfl | rfl | rfl | rfl | rfl | rfl | rfl | rfl | rfl | rfl | rfl | rfl | rfl | rfl
  · exact w_c0
  · exact w_c1
  · exact w_c2
  · exact w_c3
  · exact w_c4
  · exact w_c5
  · exact w_c6
  · exact w_c7
  · exact w_c8
  · exact w_c9
  · exact w_c10
  · exact w_c11
  · exact w_c12
  · exact w_c13
  · exact w_c14
  · exact w_c15
set_option maxRecDepth 65536 in
theorem w_t1 : (words1.take 24).all (fun c => isCode c || c.before args0 about1) = true := by decide +kernel
set_option maxRecDepth 65536 in
theorem w_t2 : ((words1.drop 24).take 24).all (fun c => isCode c || c.before args0 about1) = true := by decide +kernel
set_option maxRecDepth 65536 in
theorem w_t3 : (((words1.drop 24).drop 24).take 24).all (fun c => isCode c || c.before args0 about1) = true := by decide +kernel
set_option maxRecDepth 65536 in
theorem w_t4 : (((words1.drop 24).drop 24).drop 24).all (fun c => isCode c || c.before args0 about1) = true := by decide +kernel
theorem w_tables : (allAtoms (Jvm.Cond.code x code maxLocals ret :: tables_1)).before args0 about1 = true := by
  rw [allAtoms_all]
  show words1.all (fun c => c.before args0 about1) = true
  refine all_split ?_ w_codes
  rw [← List.take_append_drop 24 words1, List.all_append, w_t1, ← List.take_append_drop 24 (words1.drop 24), List.all_append, w_t2, ← List.take_append_drop 24 ((words1.drop 24).drop 24), List.all_append, w_t3, w_t4]
  rfl
set_option maxRecDepth 65536 in
theorem w_rest : rest_1_c.before args0 about1 = true := by decide +kernel
set_option maxRecDepth 65536 in
theorem w_case : (Jvm.Cond.and given_1 narrow_1).before args0 about1 = true := by decide +kernel
theorem w_applies : (headSpec (Jvm.Cond.code x code maxLocals ret :: tables_1) room_1).applies x e0.platform about1 = true :=
  (Spec.applies_iff w_frames).mpr ⟨w_running, w_runnable, w_alone, w_named, w_hears, w_ripe, w_room, w_tables⟩
theorem atStart : AtStart classFile x code maxLocals ret World_1 tables_1 room_1 Calls_1 rest_1 Pre_1 launch0 p0 e0 about1 theMethod args0 below0 :=
  ⟨lists_1, trivial, launch0.admits_env _ _ _, launch0.least_env, fairChoices_fair.cas, fairChoices_fair.clock, w_frames, w_args, w_heap, w_applies, trivial, w_rest, w_case⟩
end start1
theorem witness_1 : WitnessClaimed_1 := ⟨start1.p0, start1.e0, start1.about1, start1.theMethod, start1.args0, start1.below0, start1.atStart⟩
end Jvm.Pilot.@@N@@
