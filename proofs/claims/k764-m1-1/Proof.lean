import JvmDerived
import JvmDerived.Pilot.@@N@@Statement
import JvmDerived.Pilot.@@N@@Code
set_option linter.unusedVariables false
set_option linter.unusedSimpArgs false
namespace Jvm.RoadKit
open Sem ClassFile Op Lib Jvm.Stand Jvm.Free Jvm.LawKit
section New
variable {p : Program} {l : Launch} {e : Env} {R : Room} {s : State} {m : MethodId} {args : Array Value} {below : List Frame} {meth : Method} {c : Code} {T : State} {locs : List Loc} {cells slots : Nat}
theorem retI (X : Stand p l e R s m args below meth c T locs cells slots) (hx : p.tables.exec = Jvm.exec) {pc : Nat} {Ls : Array Slot} {z : Int32} {rest : List Value} (hret : meth.sig.returnType = some .int) (hd : decode c.code pc = .ok (.ireturn, 1)) {fs : List Frame}
    (hl : ∀ (f : JFrame) (acts : List Action), f.method = m → f.locked = none → f.entered = [] → (doReturn e (T.setTop f) acts (some (.int z))).1 = T.setFrames fs) : Steps p.tables e below (T.setTop (mkF m pc Ls (.int z :: rest))) (T.setFrames fs) := by
  have hm' : T.vm.method? m = some meth := X.method'
  have hn : narrow .int (.int z) = .int z := rfl
  show Steps p.tables e below (T.setTop { method := m, pc := pc, locals := Ls, stack := _ :: rest, locked := none }) _
  jvm_step X.here [X.here.top, hx, hd, hm', hret, hn]
  first | (intro acts; rw [hl _ acts rfl rfl rfl]) | rw [hl _ _ rfl rfl rfl]
  exact Steps.refl _
end New
end Jvm.RoadKit
namespace Jvm.Pilot.@@N@@
open Jvm Jvm.ClassFile Sem Op Lib Jvm.Free Jvm.Stand Jvm.LawKit Jvm.RoadKit Bundle Jvm.Pilot.@@N@@.Jvm.D
/-- a body's contract, by a walk forwards: G U says that the run from U comes to an end that the contract allows -/
theorem own_body {l : Launch} {Z : State} {y : MethodName} {bytes : ByteArray} {maxL : Nat} {ret : Option FieldType} {ws : List Jvm.Cond} {rm : Room} {as' : Array Value} {h0 : Heap} {Q : Option Value → Heap → List Loc → Prop} (hpl : plainFor y = true)
    (body : ∀ (p : Program) (e : Env) (s : State) (m : MethodId) (below : List Frame) (meth : Method) (c : Code) (s₁ : State) (G : State → Prop),
      p.tables.exec = Jvm.exec → c.code = bytes → c.maxLocals = maxL → Z.Warmed39 s.vm → s.vm.findClass y.cls = some m.cls → meth.name = y.name → meth.sig.returnType = ret →
      Stand p l e rm s m as' below meth c s₁ [] 0 0 → s₁.heap = h0 →
      (∀ (U' : State) {U : State}, (∀ t, Steps p.tables e below U' t → Steps p.tables e below U t) → G U' → G U) →
      (∀ {U T : State} {locs : List Loc} {cells slots : Nat} {v : Option Value}, Stand p l e rm s m as' below meth c T locs cells slots → (ret = none → v = none) → Q v T.heap locs → cells ≤ rm.cells → slots ≤ rm.slots →
        (∀ fs, (∀ (f : JFrame) (acts : List Action), f.method = m → f.locked = none → f.entered = [] → (doReturn e (T.setTop f) acts v).1 = T.setFrames fs) → Steps p.tables e below U (T.setFrames fs)) → G U) →
      G (s₁.setTop (entryFrame m as' maxL))) :
    MetFree l y (head1 (Jvm.Cond.code y bytes maxL ret :: ws) rm) (fun a U => a = as' ∧ Z.Warmed39 U.vm ∧ U.heap = h0) (fun _ _ _ _ _ => True) (fun _ U o U' => ∃ v L, o = .returned v ∧ Q v U'.heap L ∧ FrameEnd U o U' L rm.cells rm.slots) := by
  refine MetFree.of_bodySF hpl hisR ?_
  intro p e s m args below meth c s₁ Bd hml0 hP hK
  obtain ⟨rfl, hZ, hh⟩ := hP
  have hnm := (name_of_methodNamed Bd.named Bd.method).1
  exact body p e s m below meth c s₁ (fun U => ∃ s₂ o, Steps p.tables e below U s₂ ∧ s₂.status = .running ∧ Ended s₂ below o ∧ ∃ v L, o = .returned v ∧ Q v s₂.heap L ∧ FrameEnd s o s₂ L rm.cells rm.slots)
    Bd.exec Bd.bytes hml0 hZ (findClass_of_methodNamed Bd.named) hnm Bd.returns (Stand.of_body Bd) (by rw [← hh, Bd.state]; rfl)
    (fun U' U h k => by obtain ⟨s₂, o, h1, h2⟩ := k; exact ⟨s₂, o, h _ h1, h2⟩)
    (fun {U T locs cells slots v} X hv hQ hc hs hst => by
      obtain ⟨fs, hr, hrun, hended, hW, hsame⟩ := X.leave (v := v) (fun h => hv (by rw [← Bd.returns]; exact h))
      exact ⟨_, _, hst fs hr, hrun, hended, v, locs, rfl, hQ, ⟨_, rfl⟩, hW, hsame.mono hc hs⟩)
/-- the same, of a body that may intern String constants on its way -/
theorem own_bodyW {l : Launch} {Z : State} {y : MethodName} {bytes : ByteArray} {maxL : Nat} {ret : Option FieldType} {ws : List Jvm.Cond} {rm : Room} {as' : Array Value} {h0 : Heap} {Q : Option Value → Heap → List Loc → Prop} (hpl : plainFor y = true)
    (body : ∀ (p : Program) (e : Env) (s : State) (m : MethodId) (below : List Frame) (meth : Method) (c : Code) (s₁ : State) (G : State → Prop) (vm0 : Vm) (k0 : Nat),
      p.tables.exec = Jvm.exec → c.code = bytes → c.maxLocals = maxL → Z.Warmed39 vm0 → vm0.findClass y.cls = some m.cls → meth.name = y.name → meth.sig.returnType = ret → s.Since vm0 k0 → k0 ≤ h0.size →
      Stand p l e rm (s.setVm vm0) m as' below meth c s₁ [] 0 0 → s₁.heap = h0 →
      (∀ (U' : State) {U : State}, (∀ t, Steps p.tables e below U' t → Steps p.tables e below U t) → G U' → G U) →
      (∀ {U T : State} {locs : List Loc} {cells slots : Nat} {v : Option Value} {vm1 : Vm} {k1 : Nat}, Stand p l e rm (s.setVm vm1) m as' below meth c T locs cells slots → s.Since vm1 k1 → k1 ≤ T.heap.size → (ret = none → v = none) → Q v T.heap locs → cells ≤ rm.cells → slots ≤ rm.slots →
        (∀ fs, (∀ (f : JFrame) (acts : List Action), f.method = m → f.locked = none → f.entered = [] → (doReturn e (T.setTop f) acts v).1 = T.setFrames fs) → Steps p.tables e below U (T.setFrames fs)) → G U) →
      G (s₁.setTop (entryFrame m as' maxL))) :
    MetFree l y (head1 (Jvm.Cond.code y bytes maxL ret :: ws) rm) (fun a U => a = as' ∧ Z.Warmed39 U.vm ∧ U.heap = h0) (fun _ _ _ _ _ => True) (fun _ U o U' => ∃ v L, o = .returned v ∧ Q v U'.heap L ∧ ReturnedEndW U o U' L rm.cells rm.slots) := by
  refine MetFree.of_bodySF hpl hisR ?_
  intro p e s m args below meth c s₁ Bd hml0 hP hK
  obtain ⟨rfl, hZ, hh⟩ := hP
  have hnm := (name_of_methodNamed Bd.named Bd.method).1
  have X0 := Stand.of_body Bd
  exact body p e s m below meth c s₁ (fun U => ∃ s₂ o, Steps p.tables e below U s₂ ∧ s₂.status = .running ∧ Ended s₂ below o ∧ ∃ v L, o = .returned v ∧ Q v s₂.heap L ∧ ReturnedEndW s o s₂ L rm.cells rm.slots)
    s.vm h0.size Bd.exec Bd.bytes hml0 hZ (findClass_of_methodNamed Bd.named) hnm Bd.returns ((State.WarmedH.refl s).since _) (Nat.le_refl _) X0 (by rw [← hh, Bd.state]; rfl)
    (fun U' U h k => by obtain ⟨s₂, o, h1, h2⟩ := k; exact ⟨s₂, o, h _ h1, h2⟩)
    (fun {U T locs cells slots v vm1 k1} X hS hk hv hQ hc hs hst => by
      obtain ⟨fs, hr, hrun, hended, hE⟩ := X.leaveW hS hk (v := v) (fun h => hv (by rw [← Bd.returns]; exact h))
      exact ⟨_, _, hst fs hr, hrun, hended, v, locs, rfl, hQ, hE.1, hE.2.1, hE.2.2.1, hE.2.2.2.mono hc hs⟩)
theorem own_fin {z : Int32} (h : z = 1) : some (Value.int (nar .boolean z)) = some (.int 1) := by subst h; rfl
theorem own_and3 (p : Int32) : p &&& 3 = 0 ∨ p &&& 3 = 1 ∨ p &&& 3 = 2 ∨ p &&& 3 = 3 := by
  have h := c_mask p 3 2 (by decide) (by decide)
  have h4 : (p &&& 3).toInt = 0 ∨ (p &&& 3).toInt = 1 ∨ (p &&& 3).toInt = 2 ∨ (p &&& 3).toInt = 3 := by omega
  rcases h4 with h | h | h | h
  · exact Or.inl (Int32.toInt_inj.mp h)
  · exact Or.inr (Or.inl (Int32.toInt_inj.mp h))
  · exact Or.inr (Or.inr (Or.inl (Int32.toInt_inj.mp h)))
  · exact Or.inr (Or.inr (Or.inr (Int32.toInt_inj.mp h)))
theorem own_eqi {args : Array Value} {s : State} {t : Term} {n : Int32} (h : (Jvm.Cond.eq t (.int n)).value args s none s [] = some true) : t.eval args s none [] s = some (.int n) := by
  simp only [Cond.value, Term.eval] at h
  cases ht : t.eval args s none [] s with
  | none => simp [ht] at h
  | some x => cases x <;> simp [ht] at h ⊢; exact h
theorem own_irr {x : Int32} : ¬ (x < x) := by rw [Int32.lt_iff_toInt_lt]; omega
theorem own_selP {args : Array Value} {s : State} {y : MethodName} {k : Nat} (hinst : (Jvm.Cond.instanceMethod y).before args s = true) (hi : (Jvm.Cond.instantiable y.cls k).before args s = true) (hp : s.PrivateAt y) (hy : y.cls ≠ "java/lang/invoke/MethodHandle" ∧ y.cls ≠ "java/lang/invoke/VarHandle") : (Jvm.Cond.selects y.cls y y).before args s = true := by
  obtain ⟨m, meth, hn, hm, -, -⟩ := Cond.instanceMethod_spec hinst
  obtain ⟨c, kk, h1, h2, -, h4, -⟩ := Cond.instantiable_spec hi
  have hf := State.methodFound?_of_named hn hy
  have hc := findClass_of_methodNamed hn
  cases h1.symm.trans hc
  have hs := selectMethod_private (p := {}) (c := m.cls) hm (hp m meth hn hm)
  have h5 : kk.isInterface = false := by simp only [Bool.or_eq_false_iff] at h4; exact h4.1
  simp [Cond.before, Cond.holds, Cond.value, hc, hf, hn, hs, h2, h5]
theorem own_add0 (x : Int32) : x = (x + (0 : Int32)) := (Int32.add_zero x).symm
theorem own_nn (x y : Int32) (h : (x &&& (2147483647 : Int32)) = y) : ¬ (y < (0 : Int32)) := by
  subst h
  have h := c_mask x 2147483647 31 (by decide) (by decide)
  rw [Int32.lt_iff_toInt_lt]
  have e : (0 : Int32).toInt = 0 := by decide
  omega
theorem own_255 (x y : Int32) (h : ((x &&& (255 : Int32)).toUInt32.toUInt16.toUInt32.toInt32) = y) : ¬ ((255 : Int32) < y) := by
  subst h
  have h := c_mask x 255 8 (by decide) (by decide)
  have h2 := c_i2c (x &&& 255)
  rw [Int32.lt_iff_toInt_lt]
  have e : (255 : Int32).toInt = 255 := by decide
  omega
theorem own_exaP {Z : State} {h : Heap} {a : Addr} {C : String} (F : Exa Z h a C) : ∀ cell : Cell, h[a]? = some cell → cell.vm.isStatics = false := fun cell q => by
  obtain ⟨c', _, h1, -, -, h4, -⟩ := F
  cases h1.symm.trans q
  exact h4
theorem own_arvP {Z : State} {h : Heap} {a : Addr} {k : ClassId} {ty : FieldType} {z : Int32} {vs : List Value} {dv : Value} (F : Arv Z h a k ty z vs dv) : ∀ cell : Cell, h[a]? = some cell → cell.vm.isStatics = false := fun cell q => by
  obtain ⟨c', A, -⟩ := F
  cases A.1.symm.trans q
  exact A.plain
theorem own_staK {Z : State} {h h' : Heap} {ws : List Addr} {C n d : String} {v : Value} (F : Sta Z h C n d v) (K : Keep h h' ws) (q : ∀ x ∈ ws, ∀ cell : Cell, h[x]? = some cell → cell.vm.isStatics = false) : Sta Z h' C n d v := by
  obtain ⟨cf, i, k, f, st, cell, h1, h2, h3, h4, h5, h6, h7⟩ := F
  exact ⟨cf, i, k, f, st, cell, h1, h2, h3, h4, K.2.1 st cell h5 (fun hm => by rw [q st hm cell h5] at h6; cases h6), h6, h7⟩
theorem own_arr0 {args : Array Value} {s : State} {t : Term} {a : Addr} {ty : FieldType} {dv : Value} (hf : Fit s) (ev : t.eval args s none [] s = some (.ref a)) (hA : (Jvm.Cond.arrayOf t ty).value args s none s [] = some true) (hl : (Jvm.Cond.eq (.length t) (.int 0)).value args s none s [] = some true) : ∃ k, Arv s s.heap a k ty 0 [] dv := by
  obtain ⟨c, A⟩ := Arr.start ev hA
  have h0 := own_eqi hl
  obtain ⟨a', cell, e1, e2, e3⟩ := Term.length_spec h0
  cases ev.symm.trans e1
  have e4 : s.arrayAt? a = some c := Arr.fin (U := s) (Vm.Alike.refl _) A
  cases e4.symm.trans e2
  have hq : c.slots.size < 2 ^ 31 := by
    by_cases q : c.slots.size < 2 ^ 31
    · exact q
    · simp [Term.eval, ev, e4, q] at h0
  have e5 : c.slots.size.toInt32 = 0 := by injection e3 with e; exact e.symm
  exact ⟨_, Arv.start hf A hq e5 (by decide) rfl trivial⟩
theorem own_255n (x y : Int32) (h : ((x &&& (255 : Int32)).toUInt32.toUInt16.toUInt32.toInt32) = y) : ¬ ((255 : Int32) < (nar .char y)) := by
  have h1 := own_255 x y h
  have h0 := (c_i2c (x &&& 255)).2.1
  rw [h] at h0
  have h2 : (nar .char y).toInt = (y.toUInt32.toUInt16.toUInt32.toInt32).toInt := rfl
  have h3 := c_i2c y
  rw [Int32.lt_iff_toInt_lt] at *
  have e : (255 : Int32).toInt = 255 := by decide
  omega
theorem own_tri (a b : Int64) : (a < b ∧ ¬ a = b ∧ ¬ b = a ∧ ¬ b < a) ∨ (¬ a < b ∧ a = b ∧ b = a ∧ ¬ b < a) ∨ (¬ a < b ∧ ¬ a = b ∧ ¬ b = a ∧ b < a) := by
  simp only [Int64.lt_iff_toInt_lt, ← Int64.toInt_inj]
  omega
theorem pn_0 : plainName "com/example/spindle/spindle/ChunksGrownCapacityPinLaw" = true := by first | (simp [plainName, overriddenIn]; done) | decide +kernel
theorem pd_0 : parseMethodDescriptor "([C)V" = some ⟨[(.array .char)], none⟩ := by decide +kernel
theorem pd_1 : parseMethodDescriptor "(IILjava/lang/String;)I" = some ⟨[.int, .int, (.object "java/lang/String")], some .int⟩ := by decide +kernel
theorem d1_0 : decode jdk_42_method_3_code 0 = .ok (.aload_n 0, 1) := by decide +kernel
theorem d1_1 : decode jdk_42_method_3_code 1 = .ok (.aload_n 1, 1) := by decide +kernel
theorem d1_2 : decode jdk_42_method_3_code 2 = .ok (.iconst 0, 1) := by decide +kernel
theorem d1_3 : decode jdk_42_method_3_code 3 = .ok (.aload_n 1, 1) := by decide +kernel
theorem d1_4 : decode jdk_42_method_3_code 4 = .ok (.arraylength, 1) := by decide +kernel
theorem d1_5 : decode jdk_42_method_3_code 5 = .ok (.aconst_null, 1) := by decide +kernel
theorem d1_6 : decode jdk_42_method_3_code 6 = .ok (.invokespecial 27, 3) := by decide +kernel
theorem d1_9 : decode jdk_42_method_3_code 9 = .ok (.return_, 1) := by decide +kernel
theorem pn_1 : plainName "java/lang/String" = true := by first | (simp [plainName, overriddenIn]; done) | decide +kernel
theorem pd_2 : parseMethodDescriptor "([CIILjava/lang/Void;)V" = some ⟨[(.array .char), .int, .int, (.object "java/lang/Void")], none⟩ := by decide +kernel
theorem d2_0 : decode jdk_42_method_149_code 0 = .ok (.aload_n 0, 1) := by decide +kernel
theorem d2_1 : decode jdk_42_method_149_code 1 = .ok (.invokespecial 1, 3) := by decide +kernel
theorem d2_4 : decode jdk_42_method_149_code 4 = .ok (.iload_n 3, 1) := by decide +kernel
theorem d2_5 : decode jdk_42_method_149_code 5 = .ok (.ifCond .ne 22, 3) := by decide +kernel
theorem d2_8 : decode jdk_42_method_149_code 8 = .ok (.aload_n 0, 1) := by decide +kernel
theorem d2_9 : decode jdk_42_method_149_code 9 = .ok (.ldc 7, 2) := by decide +kernel
theorem d2_11 : decode jdk_42_method_149_code 11 = .ok (.getfield 9, 3) := by decide +kernel
theorem d2_14 : decode jdk_42_method_149_code 14 = .ok (.putfield 9, 3) := by decide +kernel
theorem d2_17 : decode jdk_42_method_149_code 17 = .ok (.aload_n 0, 1) := by decide +kernel
theorem d2_18 : decode jdk_42_method_149_code 18 = .ok (.ldc 7, 2) := by decide +kernel
theorem d2_20 : decode jdk_42_method_149_code 20 = .ok (.getfield 15, 3) := by decide +kernel
theorem d2_23 : decode jdk_42_method_149_code 23 = .ok (.putfield 15, 3) := by decide +kernel
theorem d2_26 : decode jdk_42_method_149_code 26 = .ok (.return_, 1) := by decide +kernel
theorem d2_27 : decode jdk_42_method_149_code 27 = .ok (.getstatic 38, 3) := by decide +kernel
theorem d2_30 : decode jdk_42_method_149_code 30 = .ok (.ifCond .eq 28, 3) := by decide +kernel
theorem d2_33 : decode jdk_42_method_149_code 33 = .ok (.aload_n 1, 1) := by decide +kernel
theorem d2_34 : decode jdk_42_method_149_code 34 = .ok (.iload_n 2, 1) := by decide +kernel
theorem d2_35 : decode jdk_42_method_149_code 35 = .ok (.iload_n 3, 1) := by decide +kernel
theorem d2_36 : decode jdk_42_method_149_code 36 = .ok (.invokestatic 177, 3) := by decide +kernel
theorem d2_39 : decode jdk_42_method_149_code 39 = .ok (.astore 5, 2) := by decide +kernel
theorem d2_41 : decode jdk_42_method_149_code 41 = .ok (.aload_n 0, 1) := by decide +kernel
theorem d2_42 : decode jdk_42_method_149_code 42 = .ok (.aload 5, 2) := by decide +kernel
theorem d2_44 : decode jdk_42_method_149_code 44 = .ok (.iload_n 3, 1) := by decide +kernel
theorem d2_45 : decode jdk_42_method_149_code 45 = .ok (.invokestatic 47, 3) := by decide +kernel
theorem d2_48 : decode jdk_42_method_149_code 48 = .ok (.putfield 15, 3) := by decide +kernel
theorem d2_51 : decode jdk_42_method_149_code 51 = .ok (.aload_n 0, 1) := by decide +kernel
theorem d2_52 : decode jdk_42_method_149_code 52 = .ok (.aload 5, 2) := by decide +kernel
theorem d2_54 : decode jdk_42_method_149_code 54 = .ok (.putfield 9, 3) := by decide +kernel
theorem d2_57 : decode jdk_42_method_149_code 57 = .ok (.return_, 1) := by decide +kernel
theorem d2_58 : decode jdk_42_method_149_code 58 = .ok (.aload_n 0, 1) := by decide +kernel
theorem d2_59 : decode jdk_42_method_149_code 59 = .ok (.iconst 1, 1) := by decide +kernel
theorem d2_60 : decode jdk_42_method_149_code 60 = .ok (.putfield 15, 3) := by decide +kernel
theorem d2_63 : decode jdk_42_method_149_code 63 = .ok (.aload_n 0, 1) := by decide +kernel
theorem d2_64 : decode jdk_42_method_149_code 64 = .ok (.aload_n 1, 1) := by decide +kernel
theorem d2_65 : decode jdk_42_method_149_code 65 = .ok (.iload_n 2, 1) := by decide +kernel
theorem d2_66 : decode jdk_42_method_149_code 66 = .ok (.iload_n 3, 1) := by decide +kernel
theorem d2_67 : decode jdk_42_method_149_code 67 = .ok (.invokestatic 180, 3) := by decide +kernel
theorem d2_70 : decode jdk_42_method_149_code 70 = .ok (.putfield 9, 3) := by decide +kernel
theorem d2_73 : decode jdk_42_method_149_code 73 = .ok (.return_, 1) := by decide +kernel
theorem pd_3 : parseMethodDescriptor "()V" = some ⟨[], none⟩ := by decide +kernel
theorem pd_4 : parseMethodDescriptor "([CII)[B" = some ⟨[(.array .char), .int, .int], some (.array .byte)⟩ := by decide +kernel
theorem pd_5 : parseMethodDescriptor "([BI)B" = some ⟨[(.array .byte), .int], some .byte⟩ := by decide +kernel
theorem d4_0 : decode jdk_52_method_16_code 0 = .ok (.iload_n 2, 1) := by decide +kernel
theorem d4_1 : decode jdk_52_method_16_code 1 = .ok (.newarray .byte, 2) := by decide +kernel
theorem d4_3 : decode jdk_52_method_16_code 3 = .ok (.astore_n 3, 1) := by decide +kernel
theorem d4_4 : decode jdk_52_method_16_code 4 = .ok (.aload_n 0, 1) := by decide +kernel
theorem d4_5 : decode jdk_52_method_16_code 5 = .ok (.iload_n 1, 1) := by decide +kernel
theorem d4_6 : decode jdk_52_method_16_code 6 = .ok (.aload_n 3, 1) := by decide +kernel
theorem d4_7 : decode jdk_52_method_16_code 7 = .ok (.iconst 0, 1) := by decide +kernel
theorem d4_8 : decode jdk_52_method_16_code 8 = .ok (.iload_n 2, 1) := by decide +kernel
theorem d4_9 : decode jdk_52_method_16_code 9 = .ok (.invokestatic 115, 3) := by decide +kernel
theorem d4_12 : decode jdk_52_method_16_code 12 = .ok (.istore 4, 2) := by decide +kernel
theorem d4_14 : decode jdk_52_method_16_code 14 = .ok (.iload 4, 2) := by decide +kernel
theorem d4_16 : decode jdk_52_method_16_code 16 = .ok (.iload_n 2, 1) := by decide +kernel
theorem d4_17 : decode jdk_52_method_16_code 17 = .ok (.if_icmp .eq 40, 3) := by decide +kernel
theorem d4_20 : decode jdk_52_method_16_code 20 = .ok (.aload_n 0, 1) := by decide +kernel
theorem d4_21 : decode jdk_52_method_16_code 21 = .ok (.iload_n 1, 1) := by decide +kernel
theorem d4_22 : decode jdk_52_method_16_code 22 = .ok (.iload_n 2, 1) := by decide +kernel
theorem d4_23 : decode jdk_52_method_16_code 23 = .ok (.invokestatic 119, 3) := by decide +kernel
theorem d4_26 : decode jdk_52_method_16_code 26 = .ok (.astore 5, 2) := by decide +kernel
theorem d4_28 : decode jdk_52_method_16_code 28 = .ok (.aload 5, 2) := by decide +kernel
theorem d4_30 : decode jdk_52_method_16_code 30 = .ok (.iload 4, 2) := by decide +kernel
theorem d4_32 : decode jdk_52_method_16_code 32 = .ok (.invokestatic 71, 3) := by decide +kernel
theorem d4_35 : decode jdk_52_method_16_code 35 = .ok (.sipush 255, 3) := by decide +kernel
theorem d4_38 : decode jdk_52_method_16_code 38 = .ok (.if_icmp .gt 16, 3) := by decide +kernel
theorem d4_41 : decode jdk_52_method_16_code 41 = .ok (.aload 5, 2) := by decide +kernel
theorem d4_43 : decode jdk_52_method_16_code 43 = .ok (.iconst 0, 1) := by decide +kernel
theorem d4_44 : decode jdk_52_method_16_code 44 = .ok (.aload_n 3, 1) := by decide +kernel
theorem d4_45 : decode jdk_52_method_16_code 45 = .ok (.iconst 0, 1) := by decide +kernel
theorem d4_46 : decode jdk_52_method_16_code 46 = .ok (.iload_n 2, 1) := by decide +kernel
theorem d4_47 : decode jdk_52_method_16_code 47 = .ok (.invokestatic 123, 3) := by decide +kernel
theorem d4_50 : decode jdk_52_method_16_code 50 = .ok (.iload_n 2, 1) := by decide +kernel
theorem d4_51 : decode jdk_52_method_16_code 51 = .ok (.if_icmp .eq 6, 3) := by decide +kernel
theorem d4_54 : decode jdk_52_method_16_code 54 = .ok (.aload 5, 2) := by decide +kernel
theorem d4_56 : decode jdk_52_method_16_code 56 = .ok (.areturn, 1) := by decide +kernel
theorem d4_57 : decode jdk_52_method_16_code 57 = .ok (.aload_n 3, 1) := by decide +kernel
theorem d4_58 : decode jdk_52_method_16_code 58 = .ok (.areturn, 1) := by decide +kernel
theorem pn_2 : plainName "java/lang/StringUTF16" = true := by first | (simp [plainName, overriddenIn]; done) | decide +kernel
theorem pd_6 : parseMethodDescriptor "([CI[BII)I" = some ⟨[(.array .char), .int, (.array .byte), .int, .int], some .int⟩ := by decide +kernel
theorem d5_0 : decode jdk_52_method_21_code 0 = .ok (.iconst 0, 1) := by decide +kernel
theorem d5_1 : decode jdk_52_method_21_code 1 = .ok (.istore 5, 2) := by decide +kernel
theorem d5_3 : decode jdk_52_method_21_code 3 = .ok (.iload 5, 2) := by decide +kernel
theorem d5_5 : decode jdk_52_method_21_code 5 = .ok (.iload 4, 2) := by decide +kernel
theorem d5_7 : decode jdk_52_method_21_code 7 = .ok (.if_icmp .ge 37, 3) := by decide +kernel
theorem d5_10 : decode jdk_52_method_21_code 10 = .ok (.aload_n 0, 1) := by decide +kernel
theorem d5_11 : decode jdk_52_method_21_code 11 = .ok (.iload_n 1, 1) := by decide +kernel
theorem d5_12 : decode jdk_52_method_21_code 12 = .ok (.caload, 1) := by decide +kernel
theorem d5_13 : decode jdk_52_method_21_code 13 = .ok (.istore 6, 2) := by decide +kernel
theorem d5_15 : decode jdk_52_method_21_code 15 = .ok (.iload 6, 2) := by decide +kernel
theorem d5_17 : decode jdk_52_method_21_code 17 = .ok (.sipush 255, 3) := by decide +kernel
theorem d5_20 : decode jdk_52_method_21_code 20 = .ok (.if_icmp .le 6, 3) := by decide +kernel
theorem d5_23 : decode jdk_52_method_21_code 23 = .ok (.iload 5, 2) := by decide +kernel
theorem d5_25 : decode jdk_52_method_21_code 25 = .ok (.ireturn, 1) := by decide +kernel
theorem d5_26 : decode jdk_52_method_21_code 26 = .ok (.aload_n 2, 1) := by decide +kernel
theorem d5_27 : decode jdk_52_method_21_code 27 = .ok (.iload_n 3, 1) := by decide +kernel
theorem d5_28 : decode jdk_52_method_21_code 28 = .ok (.iload 6, 2) := by decide +kernel
theorem d5_30 : decode jdk_52_method_21_code 30 = .ok (.i2b, 1) := by decide +kernel
theorem d5_31 : decode jdk_52_method_21_code 31 = .ok (.bastore, 1) := by decide +kernel
theorem d5_32 : decode jdk_52_method_21_code 32 = .ok (.iinc 1 1, 3) := by decide +kernel
theorem d5_35 : decode jdk_52_method_21_code 35 = .ok (.iinc 3 1, 3) := by decide +kernel
theorem d5_38 : decode jdk_52_method_21_code 38 = .ok (.iinc 5 1, 3) := by decide +kernel
theorem d5_41 : decode jdk_52_method_21_code 41 = .ok (.goto (-38), 3) := by decide +kernel
theorem d5_44 : decode jdk_52_method_21_code 44 = .ok (.iload 4, 2) := by decide +kernel
theorem d5_46 : decode jdk_52_method_21_code 46 = .ok (.ireturn, 1) := by decide +kernel
theorem ef_5_4 (m : MethodId) (x0 : Addr) (x2 : Addr) : entryFrame m #[(.ref x0), (.int (0 : Int32)), (.ref x2), (.int (0 : Int32)), (.int (1 : Int32))] 7 = mkF m 0 #[.val (.ref x0), .val (.int (0 : Int32)), .val (.ref x2), .val (.int (0 : Int32)), .val (.int (1 : Int32)), .unset, .unset] [] := by first | (simp [entryFrame, mkF, argsToLocals, Value.category]; done) | rfl
def Q5_4 (Z : State) (o1 : Addr) (o2 : Addr) (kc1 : ClassId) (i2 : Int32) (kc3 : ClassId) (h0 : Heap) (n0 : Nat) (v : Option Value) (h : Heap) (L : List Loc) : Prop := v = some (.int (1 : Int32)) ∧ Fr n0 L ∧ Keep h0 h [o2] ∧ Arv Z h o2 kc3 .byte (1 : Int32) [(.int (nar .byte (i2.toInt8.toInt32)))] (.int (0 : Int32))
set_option maxRecDepth 65536 in
set_option maxHeartbeats 40000000 in
theorem rm5_4 (l : Launch) (Z : State) (a0 : Array Value) (hw : ∀ d ∈ tables_1, d.before a0 Z = true) (ws : List Jvm.Cond) (o1 : Addr) (o2 : Addr) (kc1 : ClassId) (i2 : Int32) (kc3 : ClassId) (h0 : Heap) (n0 : Nat) (Z0 : n0 ≤ h0.size) (A0 : Arv Z h0 o1 kc1 .char (1 : Int32) [(.int i2)] (.int (0 : Int32))) (A1 : Arv Z h0 o2 kc3 .byte (1 : Int32) [(.int (0 : Int32))] (.int (0 : Int32))) (gn_o1 : n0 ≤ o1) (ne_o1_o2 : o1 ≠ o2) (gn_o2 : n0 ≤ o2) (hy5 : ¬ ((255 : Int32) < i2))  :
    MetFree l (⟨"java/lang/StringUTF16", "compress", "([CI[BII)I"⟩ : MethodName) (head1 (Jvm.Cond.code (⟨"java/lang/StringUTF16", "compress", "([CI[BII)I"⟩ : MethodName) jdk_52_method_21_code 7 (some .int) :: ws) ({ frames := 0, cells := 0, slots := 0, locals := 0 } : Room)) (fun a U => a = #[(.ref o1), (.int (0 : Int32)), (.ref o2), (.int (0 : Int32)), (.int (1 : Int32))] ∧ Z.Warmed39 U.vm ∧ U.heap = h0) (fun _ _ _ _ _ => True) (fun _ U o U' => ∃ v L, o = .returned v ∧ Q5_4 Z o1 o2 kc1 i2 kc3 h0 n0 v U'.heap L ∧ FrameEnd U o U' L ({ frames := 0, cells := 0, slots := 0, locals := 0 } : Room).cells ({ frames := 0, cells := 0, slots := 0, locals := 0 } : Room).slots) := by
  refine own_body (plainFor_of_name pn_2) ?_
  intro p e s m below meth c s₁ G hx hby hml hZ hown hnm hret X0 e0 step fin
  replace hown : s.vm.findClass "java/lang/StringUTF16" = some m.cls := hown
  replace hnm : meth.name = "compress" := hnm
  replace hret : meth.sig.returnType = some .int := hret
  replace hml : c.maxLocals = 7 := hml
  have N0 := Fr.nil n0
  refine step (s₁.setTop (mkF m 0 #[.val (.ref o1), .val (.int (0 : Int32)), .val (.ref o2), .val (.int (0 : Int32)), .val (.int (1 : Int32)), .unset, .unset] [])) (fun t k => castTop (ef_5_4 m o1 o2) k) ?_
  refine step (s₁.setTop (mkF m 1 #[.val (.ref o1), .val (.int (0 : Int32)), .val (.ref o2), .val (.int (0 : Int32)), .val (.int (1 : Int32)), .unset, .unset] [(.int (0 : Int32))])) (fun t k => XS.iconst X0.here hx rfl (hb hby d5_0) k) ?_
  refine step (s₁.setTop (mkF m 3 #[.val (.ref o1), .val (.int (0 : Int32)), .val (.ref o2), .val (.int (0 : Int32)), .val (.int (1 : Int32)), .val (.int (0 : Int32)), .unset] [])) (fun t k => XS.istore X0.here hx rfl (hb hby d5_1) rfl (l' := #[.val (.ref o1), .val (.int (0 : Int32)), .val (.ref o2), .val (.int (0 : Int32)), .val (.int (1 : Int32)), .val (.int (0 : Int32)), .unset]) rfl k) ?_
  refine step (s₁.setTop (mkF m 5 #[.val (.ref o1), .val (.int (0 : Int32)), .val (.ref o2), .val (.int (0 : Int32)), .val (.int (1 : Int32)), .val (.int (0 : Int32)), .unset] [(.int (0 : Int32))])) (fun t k => XS.iload X0.here hx rfl (hb hby d5_3) rfl k) ?_
  refine step (s₁.setTop (mkF m 7 #[.val (.ref o1), .val (.int (0 : Int32)), .val (.ref o2), .val (.int (0 : Int32)), .val (.int (1 : Int32)), .val (.int (0 : Int32)), .unset] [(.int (1 : Int32)), (.int (0 : Int32))])) (fun t k => XS.iload X0.here hx rfl (hb hby d5_5) rfl k) ?_
  refine step (s₁.setTop (mkF m 10 #[.val (.ref o1), .val (.int (0 : Int32)), .val (.ref o2), .val (.int (0 : Int32)), .val (.int (1 : Int32)), .val (.int (0 : Int32)), .unset] [])) (fun t k => XS.icmpNo X0.here hx rfl (hb hby d5_7) rfl (tlt (by decide : (0 : Int32) < (1 : Int32))).2.1 k) ?_
  refine step (s₁.setTop (mkF m 11 #[.val (.ref o1), .val (.int (0 : Int32)), .val (.ref o2), .val (.int (0 : Int32)), .val (.int (1 : Int32)), .val (.int (0 : Int32)), .unset] [(.ref o1)])) (fun t k => XS.aloadN X0.here hx rfl (hb hby d5_10) rfl rfl k) ?_
  refine step (s₁.setTop (mkF m 12 #[.val (.ref o1), .val (.int (0 : Int32)), .val (.ref o2), .val (.int (0 : Int32)), .val (.int (1 : Int32)), .val (.int (0 : Int32)), .unset] [(.int (0 : Int32)), (.ref o1)])) (fun t k => XS.iloadN X0.here hx rfl (hb hby d5_11) rfl k) ?_
  obtain ⟨cl1, Ar1, q1, S1, N1n, H1, G1⟩ := id A0
  have hin1 : ¬ ((0 : Int32) < 0 ∨ cl1.slots.size ≤ ((0 : Int32)).toNatClampNeg) := inb_of S1 ⟨by decide, by decide⟩
  have hat1 : cl1.slots[((0 : Int32)).toNatClampNeg]? = some (.int i2) := H1.at hin1 rfl
  refine step (s₁.setTop (mkF m 13 #[.val (.ref o1), .val (.int (0 : Int32)), .val (.ref o2), .val (.int (0 : Int32)), .val (.int (1 : Int32)), .val (.int (0 : Int32)), .unset] [(.int i2)])) (fun t k => X0.caload hx (j := (0 : Int32)) (v := (.int i2)) (by rw [e0]; exact Ar1.1) (State.isArrayOf_alike hZ.alike Ar1.2.1) Ar1.2.2 hin1 hat1 (g := (mkF m 12 #[.val (.ref o1), .val (.int (0 : Int32)), .val (.ref o2), .val (.int (0 : Int32)), .val (.int (1 : Int32)), .val (.int (0 : Int32)), .unset] [(.int (0 : Int32)), (.ref o1)])) rfl rfl (hb hby d5_12) t k) ?_
  refine step (s₁.setTop (mkF m 15 #[.val (.ref o1), .val (.int (0 : Int32)), .val (.ref o2), .val (.int (0 : Int32)), .val (.int (1 : Int32)), .val (.int (0 : Int32)), .val (.int i2)] [])) (fun t k => XS.istore X0.here hx rfl (hb hby d5_13) rfl (l' := #[.val (.ref o1), .val (.int (0 : Int32)), .val (.ref o2), .val (.int (0 : Int32)), .val (.int (1 : Int32)), .val (.int (0 : Int32)), .val (.int i2)]) rfl k) ?_
  refine step (s₁.setTop (mkF m 17 #[.val (.ref o1), .val (.int (0 : Int32)), .val (.ref o2), .val (.int (0 : Int32)), .val (.int (1 : Int32)), .val (.int (0 : Int32)), .val (.int i2)] [(.int i2)])) (fun t k => XS.iload X0.here hx rfl (hb hby d5_15) rfl k) ?_
  refine step (s₁.setTop (mkF m 20 #[.val (.ref o1), .val (.int (0 : Int32)), .val (.ref o2), .val (.int (0 : Int32)), .val (.int (1 : Int32)), .val (.int (0 : Int32)), .val (.int i2)] [(.int (255 : Int32)), (.int i2)])) (fun t k => XS.sipush X0.here hx rfl (hb hby d5_17) k) ?_
  have hc20_2 : ¬ ((255 : Int32) < i2) := hy5
  refine step (s₁.setTop (mkF m 26 #[.val (.ref o1), .val (.int (0 : Int32)), .val (.ref o2), .val (.int (0 : Int32)), .val (.int (1 : Int32)), .val (.int (0 : Int32)), .val (.int i2)] [])) (fun t k => XS.icmpYes X0.here hx rfl (pc0 := 20) (pc' := 26) rfl (hb hby d5_20) rfl (flt hc20_2).2.2.2 (by decide) (by decide) k) ?_
  refine step (s₁.setTop (mkF m 27 #[.val (.ref o1), .val (.int (0 : Int32)), .val (.ref o2), .val (.int (0 : Int32)), .val (.int (1 : Int32)), .val (.int (0 : Int32)), .val (.int i2)] [(.ref o2)])) (fun t k => XS.aloadN X0.here hx rfl (hb hby d5_26) rfl rfl k) ?_
  refine step (s₁.setTop (mkF m 28 #[.val (.ref o1), .val (.int (0 : Int32)), .val (.ref o2), .val (.int (0 : Int32)), .val (.int (1 : Int32)), .val (.int (0 : Int32)), .val (.int i2)] [(.int (0 : Int32)), (.ref o2)])) (fun t k => XS.iloadN X0.here hx rfl (hb hby d5_27) rfl k) ?_
  refine step (s₁.setTop (mkF m 30 #[.val (.ref o1), .val (.int (0 : Int32)), .val (.ref o2), .val (.int (0 : Int32)), .val (.int (1 : Int32)), .val (.int (0 : Int32)), .val (.int i2)] [(.int i2), (.int (0 : Int32)), (.ref o2)])) (fun t k => XS.iload X0.here hx rfl (hb hby d5_28) rfl k) ?_
  refine step (s₁.setTop (mkF m 31 #[.val (.ref o1), .val (.int (0 : Int32)), .val (.ref o2), .val (.int (0 : Int32)), .val (.int (1 : Int32)), .val (.int (0 : Int32)), .val (.int i2)] [(.int (i2.toInt8.toInt32)), (.int (0 : Int32)), (.ref o2)])) (fun t k => XS.i2b X0.here hx rfl (hb hby d5_30) rfl k) ?_
  obtain ⟨cl3, Ar3, q3, S3, N3n, H3, G3⟩ := id A1
  have hin3 : ¬ ((0 : Int32) < 0 ∨ cl3.slots.size ≤ ((0 : Int32)).toNatClampNeg) := inb_of S3 ⟨by decide, by decide⟩
  obtain ⟨T3, h3, X3, e3, W3, st3⟩ := stB X0 hx hZ e0 Ar3 (j := (0 : Int32)) hin3 (g := (mkF m 31 #[.val (.ref o1), .val (.int (0 : Int32)), .val (.ref o2), .val (.int (0 : Int32)), .val (.int (1 : Int32)), .val (.int (0 : Int32)), .val (.int i2)] [(.int (i2.toInt8.toInt32)), (.int (0 : Int32)), (.ref o2)])) rfl rfl (hb hby d5_31)
  have N3 := Fr.snoc X3 N0 gn_o2
  have K3 : Keep h0 h3 [o2] := (Keep.refl h0 [o2]).wr W3 (Or.inl (List.mem_of_getElem? (i := 0) rfl))
  have V3 : Arv Z h3 o2 kc3 .byte (1 : Int32) [(.int (nar .byte (i2.toInt8.toInt32)))] (.int (0 : Int32)) := Arv.set Ar3 q3 S3 N3n H3 G3 (fits_nar_byte (i2.toInt8.toInt32)) W3 0 rfl (Nat.le_of_ble_eq_true rfl)
  refine step (T3.setTop (mkF m 32 #[.val (.ref o1), .val (.int (0 : Int32)), .val (.ref o2), .val (.int (0 : Int32)), .val (.int (1 : Int32)), .val (.int (0 : Int32)), .val (.int i2)] [])) (fun t k => st3 t k) ?_
  refine step (T3.setTop (mkF m 35 #[.val (.ref o1), .val (.int (1 : Int32)), .val (.ref o2), .val (.int (0 : Int32)), .val (.int (1 : Int32)), .val (.int (0 : Int32)), .val (.int i2)] [])) (fun t k => XS.iinc X3.here hx rfl (hb hby d5_32) rfl (l' := #[.val (.ref o1), .val (.int (1 : Int32)), .val (.ref o2), .val (.int (0 : Int32)), .val (.int (1 : Int32)), .val (.int (0 : Int32)), .val (.int i2)]) rfl k) ?_
  refine step (T3.setTop (mkF m 38 #[.val (.ref o1), .val (.int (1 : Int32)), .val (.ref o2), .val (.int (1 : Int32)), .val (.int (1 : Int32)), .val (.int (0 : Int32)), .val (.int i2)] [])) (fun t k => XS.iinc X3.here hx rfl (hb hby d5_35) rfl (l' := #[.val (.ref o1), .val (.int (1 : Int32)), .val (.ref o2), .val (.int (1 : Int32)), .val (.int (1 : Int32)), .val (.int (0 : Int32)), .val (.int i2)]) rfl k) ?_
  refine step (T3.setTop (mkF m 41 #[.val (.ref o1), .val (.int (1 : Int32)), .val (.ref o2), .val (.int (1 : Int32)), .val (.int (1 : Int32)), .val (.int (1 : Int32)), .val (.int i2)] [])) (fun t k => XS.iinc X3.here hx rfl (hb hby d5_38) rfl (l' := #[.val (.ref o1), .val (.int (1 : Int32)), .val (.ref o2), .val (.int (1 : Int32)), .val (.int (1 : Int32)), .val (.int (1 : Int32)), .val (.int i2)]) rfl k) ?_
  refine step (T3.setTop (mkF m 3 #[.val (.ref o1), .val (.int (1 : Int32)), .val (.ref o2), .val (.int (1 : Int32)), .val (.int (1 : Int32)), .val (.int (1 : Int32)), .val (.int i2)] [])) (fun t k => XS.goto X3.here hx rfl (pc0 := 41) (pc' := 3) rfl (hb hby d5_41) (by decide) (by decide) k) ?_
  refine step (T3.setTop (mkF m 5 #[.val (.ref o1), .val (.int (1 : Int32)), .val (.ref o2), .val (.int (1 : Int32)), .val (.int (1 : Int32)), .val (.int (1 : Int32)), .val (.int i2)] [(.int (1 : Int32))])) (fun t k => XS.iload X3.here hx rfl (hb hby d5_3) rfl k) ?_
  refine step (T3.setTop (mkF m 7 #[.val (.ref o1), .val (.int (1 : Int32)), .val (.ref o2), .val (.int (1 : Int32)), .val (.int (1 : Int32)), .val (.int (1 : Int32)), .val (.int i2)] [(.int (1 : Int32)), (.int (1 : Int32))])) (fun t k => XS.iload X3.here hx rfl (hb hby d5_5) rfl k) ?_
  refine step (T3.setTop (mkF m 44 #[.val (.ref o1), .val (.int (1 : Int32)), .val (.ref o2), .val (.int (1 : Int32)), .val (.int (1 : Int32)), .val (.int (1 : Int32)), .val (.int i2)] [])) (fun t k => XS.icmpYes X3.here hx rfl (pc0 := 7) (pc' := 44) rfl (hb hby d5_7) rfl (flt (by decide : ¬ ((1 : Int32) < (1 : Int32)))).2.1 (by decide) (by decide) k) ?_
  refine step (T3.setTop (mkF m 46 #[.val (.ref o1), .val (.int (1 : Int32)), .val (.ref o2), .val (.int (1 : Int32)), .val (.int (1 : Int32)), .val (.int (1 : Int32)), .val (.int i2)] [(.int (1 : Int32))])) (fun t k => XS.iload X3.here hx rfl (hb hby d5_44) rfl k) ?_
  refine fin (v := some (.int (1 : Int32))) X3 (fun h => by cases h) ?_ (by decide) (by decide) (fun fs hr => retI X3 hx hret (hb hby d5_46) hr)
  show Q5_4 Z o1 o2 kc1 i2 kc3 h0 n0 (some (.int (1 : Int32))) T3.heap _
  rw [e3]
  exact ⟨rfl, N3, K3, V3⟩
theorem ef_4_3 (m : MethodId) (x0 : Addr) : entryFrame m #[(.ref x0), (.int (0 : Int32)), (.int (1 : Int32))] 6 = mkF m 0 #[.val (.ref x0), .val (.int (0 : Int32)), .val (.int (1 : Int32)), .unset, .unset, .unset] [] := by first | (simp [entryFrame, mkF, argsToLocals, Value.category]; done) | rfl
def Q4_3 (Z : State) (o1 : Addr) (kc1 : ClassId) (i2 : Int32) (h0 : Heap) (n0 : Nat) (v : Option Value) (h : Heap) (L : List Loc) : Prop := ∃ (b1 : Addr) (k1 : ClassId), v = some (.ref b1) ∧ Fr n0 L ∧ Keep h0 h [] ∧ h0.size ≤ b1 ∧ Arv Z h b1 k1 .byte (1 : Int32) [(.int (nar .byte (i2.toInt8.toInt32)))] (.int (0 : Int32))
set_option maxRecDepth 65536 in
set_option maxHeartbeats 40000000 in
theorem rm4_3 (l : Launch) (Z : State) (a0 : Array Value) (hw : ∀ d ∈ tables_1, d.before a0 Z = true) (ws : List Jvm.Cond) (o1 : Addr) (kc1 : ClassId) (i2 : Int32) (h0 : Heap) (n0 : Nat) (Z0 : n0 ≤ h0.size) (A0 : Arv Z h0 o1 kc1 .char (1 : Int32) [(.int i2)] (.int (0 : Int32))) (gn_o1 : n0 ≤ o1) (hy2 : ¬ ((255 : Int32) < i2))  :
    MetFree l (⟨"java/lang/StringUTF16", "compress", "([CII)[B"⟩ : MethodName) (head1 (Jvm.Cond.code (⟨"java/lang/StringUTF16", "compress", "([CII)[B"⟩ : MethodName) jdk_52_method_16_code 6 (some (.array .byte)) :: ws) ({ frames := 1, cells := 1, slots := 1, locals := 18 } : Room)) (fun a U => a = #[(.ref o1), (.int (0 : Int32)), (.int (1 : Int32))] ∧ Z.Warmed39 U.vm ∧ U.heap = h0) (fun _ _ _ _ _ => True) (fun _ U o U' => ∃ v L, o = .returned v ∧ Q4_3 Z o1 kc1 i2 h0 n0 v U'.heap L ∧ FrameEnd U o U' L ({ frames := 1, cells := 1, slots := 1, locals := 18 } : Room).cells ({ frames := 1, cells := 1, slots := 1, locals := 18 } : Room).slots) := by
  refine own_body (plainFor_of_name pn_2) ?_
  intro p e s m below meth c s₁ G hx hby hml hZ hown hnm hret X0 e0 step fin
  replace hown : s.vm.findClass "java/lang/StringUTF16" = some m.cls := hown
  replace hnm : meth.name = "compress" := hnm
  replace hret : meth.sig.returnType = some (.array .byte) := hret
  replace hml : c.maxLocals = 6 := hml
  have N0 := Fr.nil n0
  refine step (s₁.setTop (mkF m 0 #[.val (.ref o1), .val (.int (0 : Int32)), .val (.int (1 : Int32)), .unset, .unset, .unset] [])) (fun t k => castTop (ef_4_3 m o1) k) ?_
  refine step (s₁.setTop (mkF m 1 #[.val (.ref o1), .val (.int (0 : Int32)), .val (.int (1 : Int32)), .unset, .unset, .unset] [(.int (1 : Int32))])) (fun t k => XS.iloadN X0.here hx rfl (hb hby d4_0) rfl k) ?_
  obtain ⟨T1, h1, k1, X1, e1, E1, A1, st1⟩ := newP X0 hx hZ (hw _ (List.mem_of_getElem? (i := 20) rfl)) e0 (g := (mkF m 1 #[.val (.ref o1), .val (.int (0 : Int32)), .val (.int (1 : Int32)), .unset, .unset, .unset] [(.int (1 : Int32))])) rfl (hb hby d4_1) rfl (by decide) (cap := 1) (by decide) (by decide) (by decide) (by decide)
  obtain ⟨b1, g1⟩ : ∃ z, z = h0.size := ⟨_, rfl⟩
  rw [← g1] at A1 st1
  have ne_o1_b1 : o1 ≠ b1 := Nat.ne_of_lt (Nat.lt_of_lt_of_le A0.lt (Nat.le_of_eq g1.symm))
  have gn_b1 : n0 ≤ b1 := Nat.le_trans Z0 (Nat.le_of_eq g1.symm)
  have sz_b1 : h0.size ≤ b1 := Nat.le_of_eq g1.symm
  have K1 : Keep h0 h1 [] := (Keep.refl h0 []).ext E1
  have V1 : Arv Z h1 b1 k1 .byte (1 : Int32) [(.int (0 : Int32))] (.int (0 : Int32)) := (Arv.new A1 (by decide)).pad (pad_rep [] (.int (0 : Int32)) 1)
  refine step (T1.setTop (mkF m 3 #[.val (.ref o1), .val (.int (0 : Int32)), .val (.int (1 : Int32)), .unset, .unset, .unset] [(.ref b1)])) (fun t k => st1 t k) ?_
  refine step (T1.setTop (mkF m 4 #[.val (.ref o1), .val (.int (0 : Int32)), .val (.int (1 : Int32)), .val (.ref b1), .unset, .unset] [])) (fun t k => XS.astoreN X1.here hx rfl (hb hby d4_3) rfl rfl (l' := #[.val (.ref o1), .val (.int (0 : Int32)), .val (.int (1 : Int32)), .val (.ref b1), .unset, .unset]) rfl k) ?_
  refine step (T1.setTop (mkF m 5 #[.val (.ref o1), .val (.int (0 : Int32)), .val (.int (1 : Int32)), .val (.ref b1), .unset, .unset] [(.ref o1)])) (fun t k => XS.aloadN X1.here hx rfl (hb hby d4_4) rfl rfl k) ?_
  refine step (T1.setTop (mkF m 6 #[.val (.ref o1), .val (.int (0 : Int32)), .val (.int (1 : Int32)), .val (.ref b1), .unset, .unset] [(.int (0 : Int32)), (.ref o1)])) (fun t k => XS.iloadN X1.here hx rfl (hb hby d4_5) rfl k) ?_
  refine step (T1.setTop (mkF m 7 #[.val (.ref o1), .val (.int (0 : Int32)), .val (.int (1 : Int32)), .val (.ref b1), .unset, .unset] [(.ref b1), (.int (0 : Int32)), (.ref o1)])) (fun t k => XS.aloadN X1.here hx rfl (hb hby d4_6) rfl rfl k) ?_
  refine step (T1.setTop (mkF m 8 #[.val (.ref o1), .val (.int (0 : Int32)), .val (.int (1 : Int32)), .val (.ref b1), .unset, .unset] [(.int (0 : Int32)), (.ref b1), (.int (0 : Int32)), (.ref o1)])) (fun t k => XS.iconst X1.here hx rfl (hb hby d4_7) k) ?_
  refine step (T1.setTop (mkF m 9 #[.val (.ref o1), .val (.int (0 : Int32)), .val (.int (1 : Int32)), .val (.ref b1), .unset, .unset] [(.int (1 : Int32)), (.int (0 : Int32)), (.ref b1), (.int (0 : Int32)), (.ref o1)])) (fun t k => XS.iloadN X1.here hx rfl (hb hby d4_8) rfl k) ?_
  have f2 := (A0.ext E1)
  obtain ⟨_, _, ⟨T3, L3, k3, n3⟩, -, X3, ⟨Lc3, hQ3, l3, y3, z3⟩, st3⟩ := Jvm.LawKit.callS X1 hx (y := (⟨"java/lang/StringUTF16", "compress", "([CI[BII)I"⟩ : MethodName)) hown (mvT hZ (hw _ (List.mem_of_getElem? (i := 21) rfl))) (mvT hZ (hw _ (List.mem_of_getElem? (i := 22) rfl))) (mvT hZ (hw _ (List.mem_of_getElem? (i := 18) rfl))) (mvT hZ (hw _ (List.mem_of_getElem? (i := 23) rfl))) (by decide) (backOf (W := 0) (rm5_4 l Z a0 hw [] o1 b1 kc1 i2 k1 h1 n0 (Nat.le_trans Z0 K1.1) f2 V1 gn_o1 ne_o1_b1 gn_b1 hy2) hZ (hw _ (List.mem_of_getElem? (i := 23) rfl)) (hw _ (List.mem_of_getElem? (i := 18) rfl)) (by decide) (by decide)) (g := (mkF m 9 #[.val (.ref o1), .val (.int (0 : Int32)), .val (.int (1 : Int32)), .val (.ref b1), .unset, .unset] [(.int (1 : Int32)), (.int (0 : Int32)), (.ref b1), (.int (0 : Int32)), (.ref o1)])) rfl (by rw [hml]; rfl) (argsL := [(.ref o1), (.int (0 : Int32)), (.ref b1), (.int (0 : Int32)), (.int (1 : Int32))]) (rest := []) (lenOf pd_6 rfl) rfl (by show 2 * 0 + _ ≤ _; exact Nat.le_of_eq rfl) (hb hby d4_9) (fun _ _ => ⟨rfl, e1, (by decide : 1 + 0 ≤ _), (by decide : 1 + 0 ≤ _)⟩)
  dsimp only [Pt.U, Pt.locs, Pt.cells, Pt.slots] at X3 l3 y3 z3 st3 hQ3
  subst l3 y3 z3
  obtain ⟨h3, e3⟩ : ∃ z, T3.heap = z := ⟨_, rfl⟩
  rw [e3] at hQ3
  obtain ⟨rfl, N3q, K3q, q0_3⟩ := hQ3
  have N3 := Fr.app N0 N3q
  have K3 : Keep h0 h3 [] := K1.trans K3q (allS (Or.inr sz_b1) all0)
  refine step (T3.setTop (mkF m 12 #[.val (.ref o1), .val (.int (0 : Int32)), .val (.int (1 : Int32)), .val (.ref b1), .unset, .unset] [(.int (1 : Int32))])) (fun t k => st3 t k) ?_
  refine step (T3.setTop (mkF m 14 #[.val (.ref o1), .val (.int (0 : Int32)), .val (.int (1 : Int32)), .val (.ref b1), .val (.int (1 : Int32)), .unset] [])) (fun t k => XS.istore X3.here hx rfl (hb hby d4_12) rfl (l' := #[.val (.ref o1), .val (.int (0 : Int32)), .val (.int (1 : Int32)), .val (.ref b1), .val (.int (1 : Int32)), .unset]) rfl k) ?_
  refine step (T3.setTop (mkF m 16 #[.val (.ref o1), .val (.int (0 : Int32)), .val (.int (1 : Int32)), .val (.ref b1), .val (.int (1 : Int32)), .unset] [(.int (1 : Int32))])) (fun t k => XS.iload X3.here hx rfl (hb hby d4_14) rfl k) ?_
  refine step (T3.setTop (mkF m 17 #[.val (.ref o1), .val (.int (0 : Int32)), .val (.int (1 : Int32)), .val (.ref b1), .val (.int (1 : Int32)), .unset] [(.int (1 : Int32)), (.int (1 : Int32))])) (fun t k => XS.iloadN X3.here hx rfl (hb hby d4_16) rfl k) ?_
  refine step (T3.setTop (mkF m 57 #[.val (.ref o1), .val (.int (0 : Int32)), .val (.int (1 : Int32)), .val (.ref b1), .val (.int (1 : Int32)), .unset] [])) (fun t k => XS.icmpYes X3.here hx rfl (pc0 := 17) (pc' := 57) rfl (hb hby d4_17) rfl (teq (by decide : (1 : Int32) = (1 : Int32))).1 (by decide) (by decide) k) ?_
  refine step (T3.setTop (mkF m 58 #[.val (.ref o1), .val (.int (0 : Int32)), .val (.int (1 : Int32)), .val (.ref b1), .val (.int (1 : Int32)), .unset] [(.ref b1)])) (fun t k => XS.aloadN X3.here hx rfl (hb hby d4_57) rfl rfl k) ?_
  refine fin (v := some (.ref b1)) X3 (fun h => by cases h) ?_ (by decide) (by decide) (fun fs hr => X3.areturnOut hx rfl hret rfl (hb hby d4_58) hr)
  show Q4_3 Z o1 kc1 i2 h0 n0 (some (.ref b1)) T3.heap _
  rw [e3]
  exact ⟨b1, k1, rfl, N3, K3, sz_b1, q0_3⟩
theorem d6_0 : decode jdk_52_method_15_code 0 = .ok (.iload_n 1, 1) := by decide +kernel
theorem d6_1 : decode jdk_52_method_15_code 1 = .ok (.aload_n 0, 1) := by decide +kernel
theorem d6_2 : decode jdk_52_method_15_code 2 = .ok (.arraylength, 1) := by decide +kernel
theorem d6_3 : decode jdk_52_method_15_code 3 = .ok (.isub, 1) := by decide +kernel
theorem d6_4 : decode jdk_52_method_15_code 4 = .ok (.bipush 31, 2) := by decide +kernel
theorem d6_6 : decode jdk_52_method_15_code 6 = .ok (.iushr, 1) := by decide +kernel
theorem d6_7 : decode jdk_52_method_15_code 7 = .ok (.i2b, 1) := by decide +kernel
theorem d6_8 : decode jdk_52_method_15_code 8 = .ok (.ireturn, 1) := by decide +kernel
theorem ef_6_5 (m : MethodId) (x0 : Addr) : entryFrame m #[(.ref x0), (.int (1 : Int32))] 2 = mkF m 0 #[.val (.ref x0), .val (.int (1 : Int32))] [] := by first | (simp [entryFrame, mkF, argsToLocals, Value.category]; done) | rfl
def Q6_5 (Z : State) (o1 : Addr) (kc1 : ClassId) (i2 : Int32) (h0 : Heap) (n0 : Nat) (v : Option Value) (h : Heap) (L : List Loc) : Prop := v = some (.int (0 : Int32)) ∧ Fr n0 L ∧ h = h0
set_option maxRecDepth 65536 in
set_option maxHeartbeats 40000000 in
theorem rm6_5 (l : Launch) (Z : State) (a0 : Array Value) (hw : ∀ d ∈ tables_1, d.before a0 Z = true) (ws : List Jvm.Cond) (o1 : Addr) (kc1 : ClassId) (i2 : Int32) (h0 : Heap) (n0 : Nat) (Z0 : n0 ≤ h0.size) (A0 : Arv Z h0 o1 kc1 .byte (1 : Int32) [(.int i2)] (.int (0 : Int32))) (gn_o1 : n0 ≤ o1)  :
    MetFree l (⟨"java/lang/StringUTF16", "coderFromArrayLen", "([BI)B"⟩ : MethodName) (head1 (Jvm.Cond.code (⟨"java/lang/StringUTF16", "coderFromArrayLen", "([BI)B"⟩ : MethodName) jdk_52_method_15_code 2 (some .byte) :: ws) ({ frames := 0, cells := 0, slots := 0, locals := 0 } : Room)) (fun a U => a = #[(.ref o1), (.int (1 : Int32))] ∧ Z.Warmed39 U.vm ∧ U.heap = h0) (fun _ _ _ _ _ => True) (fun _ U o U' => ∃ v L, o = .returned v ∧ Q6_5 Z o1 kc1 i2 h0 n0 v U'.heap L ∧ FrameEnd U o U' L ({ frames := 0, cells := 0, slots := 0, locals := 0 } : Room).cells ({ frames := 0, cells := 0, slots := 0, locals := 0 } : Room).slots) := by
  refine own_body (plainFor_of_name pn_2) ?_
  intro p e s m below meth c s₁ G hx hby hml hZ hown hnm hret X0 e0 step fin
  replace hown : s.vm.findClass "java/lang/StringUTF16" = some m.cls := hown
  replace hnm : meth.name = "coderFromArrayLen" := hnm
  replace hret : meth.sig.returnType = some .byte := hret
  replace hml : c.maxLocals = 2 := hml
  have N0 := Fr.nil n0
  refine step (s₁.setTop (mkF m 0 #[.val (.ref o1), .val (.int (1 : Int32))] [])) (fun t k => castTop (ef_6_5 m o1) k) ?_
  refine step (s₁.setTop (mkF m 1 #[.val (.ref o1), .val (.int (1 : Int32))] [(.int (1 : Int32))])) (fun t k => XS.iloadN X0.here hx rfl (hb hby d6_0) rfl k) ?_
  refine step (s₁.setTop (mkF m 2 #[.val (.ref o1), .val (.int (1 : Int32))] [(.ref o1), (.int (1 : Int32))])) (fun t k => XS.aloadN X0.here hx rfl (hb hby d6_1) rfl rfl k) ?_
  obtain ⟨cl1, Ar1, q1, S1, N1n, H1, G1⟩ := id A0
  refine step (s₁.setTop (mkF m 3 #[.val (.ref o1), .val (.int (1 : Int32))] [(.int (1 : Int32)), (.int (1 : Int32))])) (fun t k => X0.arraylength hx (by rw [e0]; exact Ar1.1) (State.isArrayOf_alike hZ.alike Ar1.2.1) (g := (mkF m 2 #[.val (.ref o1), .val (.int (1 : Int32))] [(.ref o1), (.int (1 : Int32))])) rfl rfl (hb hby d6_2) t (by rw [len_of S1 N1n]; exact k)) ?_
  refine step (s₁.setTop (mkF m 4 #[.val (.ref o1), .val (.int (1 : Int32))] [(.int (0 : Int32))])) (fun t k => XS.isub X0.here hx rfl (hb hby d6_3) rfl k) ?_
  refine step (s₁.setTop (mkF m 6 #[.val (.ref o1), .val (.int (1 : Int32))] [(.int (31 : Int32)), (.int (0 : Int32))])) (fun t k => XS.bipush X0.here hx rfl (hb hby d6_4) k) ?_
  refine step (s₁.setTop (mkF m 7 #[.val (.ref o1), .val (.int (1 : Int32))] [(.int (0 : Int32))])) (fun t k => XS.iushr X0.here hx rfl (hb hby d6_6) rfl k) ?_
  refine step (s₁.setTop (mkF m 8 #[.val (.ref o1), .val (.int (1 : Int32))] [(.int (0 : Int32))])) (fun t k => XS.i2b X0.here hx rfl (hb hby d6_7) rfl k) ?_
  refine fin (v := some (.int (nar .byte (0 : Int32)))) X0 (fun h => by cases h) ?_ (by decide) (by decide) (fun fs hr => retN X0 hx (t := .byte) hret (by simp) (hb hby d6_8) hr)
  show Q6_5 Z o1 kc1 i2 h0 n0 (some (.int (nar .byte (0 : Int32)))) s₁.heap _
  rw [e0]
  exact ⟨rfl, N0, rfl⟩
theorem ef_2_2 (m : MethodId) (x0 : Addr) (x1 : Addr) : entryFrame m #[(.ref x0), (.ref x1), (.int (0 : Int32)), (.int (1 : Int32)), .null] 6 = mkF m 0 #[.val (.ref x0), .val (.ref x1), .val (.int (0 : Int32)), .val (.int (1 : Int32)), .val .null, .unset] [] := by first | (simp [entryFrame, mkF, argsToLocals, Value.category]; done) | rfl
def Q2_2 (Z : State) (o1 : Addr) (o2 : Addr) (i1 : Int32) (kc2 : ClassId) (i3 : Int32) (h0 : Heap) (n0 : Nat) (v : Option Value) (h : Heap) (L : List Loc) : Prop := ∃ (b1_4 : Addr) (k1_4 : ClassId), v = none ∧ Fr n0 L ∧ Keep h0 h [o1] ∧ h0.size ≤ b1_4 ∧ Fld Z h o1 "java/lang/String" "coder" "B" (.int (0 : Int32)) ∧ Fld Z h o1 "java/lang/String" "value" "[B" (.ref b1_4) ∧ Arv Z h b1_4 k1_4 .byte (1 : Int32) [(.int (nar .byte (i3.toInt8.toInt32)))] (.int (0 : Int32))
set_option maxRecDepth 65536 in
set_option maxHeartbeats 40000000 in
theorem rm2_2 (l : Launch) (Z : State) (a0 : Array Value) (hw : ∀ d ∈ tables_1, d.before a0 Z = true) (ws : List Jvm.Cond) (o1 : Addr) (o2 : Addr) (i1 : Int32) (kc2 : ClassId) (i3 : Int32) (h0 : Heap) (n0 : Nat) (Z0 : n0 ≤ h0.size) (S0 : Sta Z h0 "java/lang/String" "COMPACT_STRINGS" "Z" (.int i1)) (A1 : Exa Z h0 o1 "java/lang/String") (A2 : Fld Z h0 o1 "java/lang/String" "coder" "B" (.int (0 : Int32))) (A3 : Fld Z h0 o1 "java/lang/String" "value" "[B" .null) (A4 : Arv Z h0 o2 kc2 .char (1 : Int32) [(.int i3)] (.int (0 : Int32))) (gn_o1 : n0 ≤ o1) (ne_o1_o2 : o1 ≠ o2) (gn_o2 : n0 ≤ o2) (hy8 : ¬ ((255 : Int32) < i3)) (hy9 : ¬ (i1 = (0 : Int32)))  :
    MetFree l (⟨"java/lang/String", "<init>", "([CIILjava/lang/Void;)V"⟩ : MethodName) (head1 (Jvm.Cond.code (⟨"java/lang/String", "<init>", "([CIILjava/lang/Void;)V"⟩ : MethodName) jdk_42_method_149_code 6 none :: ws) ({ frames := 2, cells := 1, slots := 1, locals := 35 } : Room)) (fun a U => a = #[(.ref o1), (.ref o2), (.int (0 : Int32)), (.int (1 : Int32)), .null] ∧ Z.Warmed39 U.vm ∧ U.heap = h0) (fun _ _ _ _ _ => True) (fun _ U o U' => ∃ v L, o = .returned v ∧ Q2_2 Z o1 o2 i1 kc2 i3 h0 n0 v U'.heap L ∧ FrameEnd U o U' L ({ frames := 2, cells := 1, slots := 1, locals := 35 } : Room).cells ({ frames := 2, cells := 1, slots := 1, locals := 35 } : Room).slots) := by
  refine own_body (plainFor_of_name pn_1) ?_
  intro p e s m below meth c s₁ G hx hby hml hZ hown hnm hret X0 e0 step fin
  replace hown : s.vm.findClass "java/lang/String" = some m.cls := hown
  replace hnm : meth.name = "<init>" := hnm
  replace hret : meth.sig.returnType = none := hret
  replace hml : c.maxLocals = 6 := hml
  have N0 := Fr.nil n0
  refine step (s₁.setTop (mkF m 0 #[.val (.ref o1), .val (.ref o2), .val (.int (0 : Int32)), .val (.int (1 : Int32)), .val .null, .unset] [])) (fun t k => castTop (ef_2_2 m o1 o2) k) ?_
  refine step (s₁.setTop (mkF m 1 #[.val (.ref o1), .val (.ref o2), .val (.int (0 : Int32)), .val (.int (1 : Int32)), .val .null, .unset] [(.ref o1)])) (fun t k => XS.aloadN X0.here hx rfl (hb hby d2_0) rfl rfl k) ?_
  obtain ⟨T1, X1, e1, st1⟩ := initO X0 hx hZ hown (hw _ (List.mem_of_getElem? (i := 12) rfl)) (hw _ (List.mem_of_getElem? (i := 13) rfl)) (hw _ (List.mem_of_getElem? (i := 14) rfl)) e0 (g := (mkF m 1 #[.val (.ref o1), .val (.ref o2), .val (.int (0 : Int32)), .val (.int (1 : Int32)), .val .null, .unset] [(.ref o1)])) rfl (by rw [hml]; rfl) rfl (hb hby d2_1) (by decide) (W := 0) (by show 2 * 0 + _ ≤ _; exact Nat.le_of_eq rfl) (by decide)
  refine step (T1.setTop (mkF m 4 #[.val (.ref o1), .val (.ref o2), .val (.int (0 : Int32)), .val (.int (1 : Int32)), .val .null, .unset] [])) (fun t k => st1 t k) ?_
  refine step (T1.setTop (mkF m 5 #[.val (.ref o1), .val (.ref o2), .val (.int (0 : Int32)), .val (.int (1 : Int32)), .val .null, .unset] [(.int (1 : Int32))])) (fun t k => XS.iloadN X1.here hx rfl (hb hby d2_4) rfl k) ?_
  refine step (T1.setTop (mkF m 27 #[.val (.ref o1), .val (.ref o2), .val (.int (0 : Int32)), .val (.int (1 : Int32)), .val .null, .unset] [])) (fun t k => XS.ifYes X1.here hx rfl (pc0 := 5) (pc' := 27) rfl (hb hby d2_5) rfl ((if0 _ _).trans (feq (by decide : ¬ ((1 : Int32) = (0 : Int32)))).2) (by decide) (by decide) k) ?_
  obtain ⟨T2, X2, e2, st2⟩ := getS2 X1 hx hZ hown (host := "") (Or.inl (hw _ (List.mem_of_getElem? (i := 15) rfl))) Via.refl e1 S0 (g := (mkF m 27 #[.val (.ref o1), .val (.ref o2), .val (.int (0 : Int32)), .val (.int (1 : Int32)), .val .null, .unset] [])) rfl (hb hby d2_27)
  refine step (T2.setTop (mkF m 30 #[.val (.ref o1), .val (.ref o2), .val (.int (0 : Int32)), .val (.int (1 : Int32)), .val .null, .unset] [(.int i1)])) (fun t k => st2 t k) ?_
  have hc30_3 : ¬ (i1 = (0 : Int32)) := hy9
  refine step (T2.setTop (mkF m 33 #[.val (.ref o1), .val (.ref o2), .val (.int (0 : Int32)), .val (.int (1 : Int32)), .val .null, .unset] [])) (fun t k => XS.ifNo X2.here hx rfl (hb hby d2_30) rfl ((if0 _ _).trans (feq hc30_3).1) k) ?_
  refine step (T2.setTop (mkF m 34 #[.val (.ref o1), .val (.ref o2), .val (.int (0 : Int32)), .val (.int (1 : Int32)), .val .null, .unset] [(.ref o2)])) (fun t k => XS.aloadN X2.here hx rfl (hb hby d2_33) rfl rfl k) ?_
  refine step (T2.setTop (mkF m 35 #[.val (.ref o1), .val (.ref o2), .val (.int (0 : Int32)), .val (.int (1 : Int32)), .val .null, .unset] [(.int (0 : Int32)), (.ref o2)])) (fun t k => XS.iloadN X2.here hx rfl (hb hby d2_34) rfl k) ?_
  refine step (T2.setTop (mkF m 36 #[.val (.ref o1), .val (.ref o2), .val (.int (0 : Int32)), .val (.int (1 : Int32)), .val .null, .unset] [(.int (1 : Int32)), (.int (0 : Int32)), (.ref o2)])) (fun t k => XS.iloadN X2.here hx rfl (hb hby d2_35) rfl k) ?_
  obtain ⟨_, _, ⟨T4, L4, k4, n4⟩, -, X4, ⟨Lc4, hQ4, l4, y4, z4⟩, st4⟩ := Jvm.LawKit.callS X2 hx (y := (⟨"java/lang/StringUTF16", "compress", "([CII)[B"⟩ : MethodName)) hown (mvT hZ (hw _ (List.mem_of_getElem? (i := 16) rfl))) (mvT hZ (hw _ (List.mem_of_getElem? (i := 17) rfl))) (mvT hZ (hw _ (List.mem_of_getElem? (i := 18) rfl))) (mvT hZ (hw _ (List.mem_of_getElem? (i := 19) rfl))) (by decide) (backOf (W := 0) (rm4_3 l Z a0 hw [] o2 kc2 i3 h0 n0 Z0 A4 gn_o2 hy8) hZ (hw _ (List.mem_of_getElem? (i := 19) rfl)) (hw _ (List.mem_of_getElem? (i := 18) rfl)) (by decide) (by decide)) (g := (mkF m 36 #[.val (.ref o1), .val (.ref o2), .val (.int (0 : Int32)), .val (.int (1 : Int32)), .val .null, .unset] [(.int (1 : Int32)), (.int (0 : Int32)), (.ref o2)])) rfl (by rw [hml]; rfl) (argsL := [(.ref o2), (.int (0 : Int32)), (.int (1 : Int32))]) (rest := []) (lenOf pd_4 rfl) rfl (by show 2 * 0 + _ ≤ _; exact Nat.le_of_eq rfl) (hb hby d2_36) (fun _ _ => ⟨rfl, e2, (by decide : 0 + 1 ≤ _), (by decide : 0 + 1 ≤ _)⟩)
  dsimp only [Pt.U, Pt.locs, Pt.cells, Pt.slots] at X4 l4 y4 z4 st4 hQ4
  subst l4 y4 z4
  obtain ⟨h4, e4⟩ : ∃ z, T4.heap = z := ⟨_, rfl⟩
  rw [e4] at hQ4
  obtain ⟨b1_4, k1_4, rfl, N4q, K4q, sz_b1_4, q0_4⟩ := hQ4
  have N4 := Fr.app N0 N4q
  have lt4_o1 := A1.lt
  have lt4_o2 := A4.lt
  have ne_o1_b1_4 : o1 ≠ b1_4 := Nat.ne_of_lt (Nat.lt_of_lt_of_le lt4_o1 sz_b1_4)
  have ne_o2_b1_4 : o2 ≠ b1_4 := Nat.ne_of_lt (Nat.lt_of_lt_of_le lt4_o2 sz_b1_4)
  have gn_b1_4 : n0 ≤ b1_4 := Nat.le_trans Z0 sz_b1_4
  have K4 : Keep h0 h4 [o1] := (Keep.refl h0 [o1]).trans K4q all0
  have f5 := own_staK S0 K4q all0
  refine step (T4.setTop (mkF m 39 #[.val (.ref o1), .val (.ref o2), .val (.int (0 : Int32)), .val (.int (1 : Int32)), .val .null, .unset] [(.ref b1_4)])) (fun t k => st4 t k) ?_
  refine step (T4.setTop (mkF m 41 #[.val (.ref o1), .val (.ref o2), .val (.int (0 : Int32)), .val (.int (1 : Int32)), .val .null, .val (.ref b1_4)] [])) (fun t k => XS.astore X4.here hx rfl (hb hby d2_39) rfl rfl (l' := #[.val (.ref o1), .val (.ref o2), .val (.int (0 : Int32)), .val (.int (1 : Int32)), .val .null, .val (.ref b1_4)]) rfl k) ?_
  refine step (T4.setTop (mkF m 42 #[.val (.ref o1), .val (.ref o2), .val (.int (0 : Int32)), .val (.int (1 : Int32)), .val .null, .val (.ref b1_4)] [(.ref o1)])) (fun t k => XS.aloadN X4.here hx rfl (hb hby d2_41) rfl rfl k) ?_
  refine step (T4.setTop (mkF m 44 #[.val (.ref o1), .val (.ref o2), .val (.int (0 : Int32)), .val (.int (1 : Int32)), .val .null, .val (.ref b1_4)] [(.ref b1_4), (.ref o1)])) (fun t k => XS.aload X4.here hx rfl (hb hby d2_42) rfl rfl k) ?_
  refine step (T4.setTop (mkF m 45 #[.val (.ref o1), .val (.ref o2), .val (.int (0 : Int32)), .val (.int (1 : Int32)), .val .null, .val (.ref b1_4)] [(.int (1 : Int32)), (.ref b1_4), (.ref o1)])) (fun t k => XS.iloadN X4.here hx rfl (hb hby d2_44) rfl k) ?_
  obtain ⟨_, _, ⟨T6, L6, k6, n6⟩, -, X6, ⟨Lc6, hQ6, l6, y6, z6⟩, st6⟩ := Jvm.LawKit.callS X4 hx (y := (⟨"java/lang/StringUTF16", "coderFromArrayLen", "([BI)B"⟩ : MethodName)) hown (mvT hZ (hw _ (List.mem_of_getElem? (i := 24) rfl))) (mvT hZ (hw _ (List.mem_of_getElem? (i := 25) rfl))) (mvT hZ (hw _ (List.mem_of_getElem? (i := 18) rfl))) (mvT hZ (hw _ (List.mem_of_getElem? (i := 26) rfl))) (by decide) (backOf (W := 1) (rm6_5 l Z a0 hw [] b1_4 k1_4 (nar .byte (i3.toInt8.toInt32)) h4 n0 (Nat.le_trans Z0 K4.1) q0_4 gn_b1_4) hZ (hw _ (List.mem_of_getElem? (i := 26) rfl)) (hw _ (List.mem_of_getElem? (i := 18) rfl)) (by decide) (by decide)) (g := (mkF m 45 #[.val (.ref o1), .val (.ref o2), .val (.int (0 : Int32)), .val (.int (1 : Int32)), .val .null, .val (.ref b1_4)] [(.int (1 : Int32)), (.ref b1_4), (.ref o1)])) rfl (by rw [hml]; rfl) (argsL := [(.ref b1_4), (.int (1 : Int32))]) (rest := [(.ref o1)]) (lenOf pd_5 rfl) rfl (by show 2 * 0 + _ ≤ _; exact Nat.le_of_eq rfl) (hb hby d2_45) (fun _ _ => ⟨rfl, e4, (by decide : 1 + 0 ≤ _), (by decide : 1 + 0 ≤ _)⟩)
  dsimp only [Pt.U, Pt.locs, Pt.cells, Pt.slots] at X6 l6 y6 z6 st6 hQ6
  subst l6 y6 z6
  obtain ⟨rfl, N6q, e6q⟩ := hQ6
  have N6 := Fr.app N4 N6q
  refine step (T6.setTop (mkF m 48 #[.val (.ref o1), .val (.ref o2), .val (.int (0 : Int32)), .val (.int (1 : Int32)), .val .null, .val (.ref b1_4)] [(.int (0 : Int32)), (.ref o1)])) (fun t k => st6 t k) ?_
  have f7 := (A1.keep K4q)
  have f8 := (A2.keep K4q nin0)
  obtain ⟨T9, h9, X9, e9, W9, st9⟩ := putFN X6 hx hZ hown (hw _ (List.mem_of_getElem? (i := 27) rfl)) Via.refl e6q f8 f7 (Or.inr ⟨(hw _ (List.mem_of_getElem? (i := 28) rfl)), rfl, hnm⟩) (hw _ (List.mem_of_getElem? (i := 3) rfl)) (ty := .byte) (v' := (.int (0 : Int32))) (by decide) rfl (fits_nar_byte (0 : Int32)) (g := (mkF m 48 #[.val (.ref o1), .val (.ref o2), .val (.int (0 : Int32)), .val (.int (1 : Int32)), .val .null, .val (.ref b1_4)] [(.int (0 : Int32)), (.ref o1)])) rfl rfl (hb hby d2_48)
  have N9 := Fr.snoc X9 N6 gn_o1
  have K9 : Keep h0 h9 [o1] := K4.wr W9 (Or.inl (List.mem_of_getElem? (i := 0) rfl))
  have F9 := f8.same W9
  refine step (T9.setTop (mkF m 51 #[.val (.ref o1), .val (.ref o2), .val (.int (0 : Int32)), .val (.int (1 : Int32)), .val .null, .val (.ref b1_4)] [])) (fun t k => st9 t k) ?_
  refine step (T9.setTop (mkF m 52 #[.val (.ref o1), .val (.ref o2), .val (.int (0 : Int32)), .val (.int (1 : Int32)), .val .null, .val (.ref b1_4)] [(.ref o1)])) (fun t k => XS.aloadN X9.here hx rfl (hb hby d2_51) rfl rfl k) ?_
  refine step (T9.setTop (mkF m 54 #[.val (.ref o1), .val (.ref o2), .val (.int (0 : Int32)), .val (.int (1 : Int32)), .val .null, .val (.ref b1_4)] [(.ref b1_4), (.ref o1)])) (fun t k => XS.aload X9.here hx rfl (hb hby d2_52) rfl rfl k) ?_
  have f10 := (f7.wr W9)
  have f11 := ((A3.keep K4q nin0).other W9 (Or.inr (slot_ne (Or.inr (hw _ (List.mem_of_getElem? (i := 30) rfl))) (Or.inr (hw _ (List.mem_of_getElem? (i := 28) rfl))) (by decide) (t := (.array .byte)) (t' := .byte) (by decide) (by decide))))
  obtain ⟨T12, h12, X12, e12, W12, st12⟩ := putF X9 hx hZ hown (host := "") (Or.inl (hw _ (List.mem_of_getElem? (i := 29) rfl))) Via.refl e9 f11 f10 (Or.inr ⟨(hw _ (List.mem_of_getElem? (i := 30) rfl)), rfl, hnm⟩) (hw _ (List.mem_of_getElem? (i := 3) rfl)) (ty := (.array .byte)) (by decide) rfl rfl (g := (mkF m 54 #[.val (.ref o1), .val (.ref o2), .val (.int (0 : Int32)), .val (.int (1 : Int32)), .val .null, .val (.ref b1_4)] [(.ref b1_4), (.ref o1)])) rfl rfl (hb hby d2_54)
  have N12 := Fr.snoc X12 N9 gn_o1
  have K12 : Keep h0 h12 [o1] := K9.wr W12 (Or.inl (List.mem_of_getElem? (i := 0) rfl))
  have F12 := f11.same W12
  refine step (T12.setTop (mkF m 57 #[.val (.ref o1), .val (.ref o2), .val (.int (0 : Int32)), .val (.int (1 : Int32)), .val .null, .val (.ref b1_4)] [])) (fun t k => st12 t k) ?_
  have f13 := (F9.other W12 (Or.inr (slot_ne (Or.inr (hw _ (List.mem_of_getElem? (i := 28) rfl))) (Or.inr (hw _ (List.mem_of_getElem? (i := 30) rfl))) (by decide) (t := .byte) (t' := (.array .byte)) (by decide) (by decide))))
  have f14 := ((q0_4.other W9 (Ne.symm ne_o1_b1_4)).other W12 (Ne.symm ne_o1_b1_4))
  refine fin (v := none) X12 (fun _ => rfl) ?_ (by decide) (by decide) (fun fs hr => X12.returnOut hx hret (hb hby d2_57) hr)
  show Q2_2 Z o1 o2 i1 kc2 i3 h0 n0 (none) T12.heap _
  rw [e12]
  exact ⟨b1_4, k1_4, rfl, N12, K12, sz_b1_4, f13, F12, f14⟩
theorem ef_1_1 (m : MethodId) (x0 : Addr) (x1 : Addr) : entryFrame m #[(.ref x0), (.ref x1)] 2 = mkF m 0 #[.val (.ref x0), .val (.ref x1)] [] := by first | (simp [entryFrame, mkF, argsToLocals, Value.category]; done) | rfl
def Q1_1 (Z : State) (o1 : Addr) (o2 : Addr) (i1 : Int32) (kc2 : ClassId) (i3 : Int32) (h0 : Heap) (n0 : Nat) (v : Option Value) (h : Heap) (L : List Loc) : Prop := ∃ (b1_4_2 : Addr) (k1_4_2 : ClassId), v = none ∧ Fr n0 L ∧ Keep h0 h [o1] ∧ h0.size ≤ b1_4_2 ∧ Fld Z h o1 "java/lang/String" "coder" "B" (.int (0 : Int32)) ∧ Fld Z h o1 "java/lang/String" "value" "[B" (.ref b1_4_2) ∧ Arv Z h b1_4_2 k1_4_2 .byte (1 : Int32) [(.int (nar .byte (i3.toInt8.toInt32)))] (.int (0 : Int32))
set_option maxRecDepth 65536 in
set_option maxHeartbeats 40000000 in
theorem rm1_1 (l : Launch) (Z : State) (a0 : Array Value) (hw : ∀ d ∈ tables_1, d.before a0 Z = true) (ws : List Jvm.Cond) (o1 : Addr) (o2 : Addr) (i1 : Int32) (kc2 : ClassId) (i3 : Int32) (h0 : Heap) (n0 : Nat) (Z0 : n0 ≤ h0.size) (S0 : Sta Z h0 "java/lang/String" "COMPACT_STRINGS" "Z" (.int i1)) (A1 : Exa Z h0 o1 "java/lang/String") (A2 : Fld Z h0 o1 "java/lang/String" "coder" "B" (.int (0 : Int32))) (A3 : Fld Z h0 o1 "java/lang/String" "value" "[B" .null) (A4 : Arv Z h0 o2 kc2 .char (1 : Int32) [(.int i3)] (.int (0 : Int32))) (gn_o1 : n0 ≤ o1) (ne_o1_o2 : o1 ≠ o2) (gn_o2 : n0 ≤ o2) (hy8 : ¬ ((255 : Int32) < i3)) (hy9 : ¬ (i1 = (0 : Int32)))  :
    MetFree l (⟨"java/lang/String", "<init>", "([C)V"⟩ : MethodName) (head1 (Jvm.Cond.code (⟨"java/lang/String", "<init>", "([C)V"⟩ : MethodName) jdk_42_method_3_code 2 none :: ws) ({ frames := 3, cells := 1, slots := 1, locals := 52 } : Room)) (fun a U => a = #[(.ref o1), (.ref o2)] ∧ Z.Warmed39 U.vm ∧ U.heap = h0) (fun _ _ _ _ _ => True) (fun _ U o U' => ∃ v L, o = .returned v ∧ Q1_1 Z o1 o2 i1 kc2 i3 h0 n0 v U'.heap L ∧ FrameEnd U o U' L ({ frames := 3, cells := 1, slots := 1, locals := 52 } : Room).cells ({ frames := 3, cells := 1, slots := 1, locals := 52 } : Room).slots) := by
  refine own_body (plainFor_of_name pn_1) ?_
  intro p e s m below meth c s₁ G hx hby hml hZ hown hnm hret X0 e0 step fin
  replace hown : s.vm.findClass "java/lang/String" = some m.cls := hown
  replace hnm : meth.name = "<init>" := hnm
  replace hret : meth.sig.returnType = none := hret
  replace hml : c.maxLocals = 2 := hml
  have N0 := Fr.nil n0
  refine step (s₁.setTop (mkF m 0 #[.val (.ref o1), .val (.ref o2)] [])) (fun t k => castTop (ef_1_1 m o1 o2) k) ?_
  refine step (s₁.setTop (mkF m 1 #[.val (.ref o1), .val (.ref o2)] [(.ref o1)])) (fun t k => XS.aloadN X0.here hx rfl (hb hby d1_0) rfl rfl k) ?_
  refine step (s₁.setTop (mkF m 2 #[.val (.ref o1), .val (.ref o2)] [(.ref o2), (.ref o1)])) (fun t k => XS.aloadN X0.here hx rfl (hb hby d1_1) rfl rfl k) ?_
  refine step (s₁.setTop (mkF m 3 #[.val (.ref o1), .val (.ref o2)] [(.int (0 : Int32)), (.ref o2), (.ref o1)])) (fun t k => XS.iconst X0.here hx rfl (hb hby d1_2) k) ?_
  refine step (s₁.setTop (mkF m 4 #[.val (.ref o1), .val (.ref o2)] [(.ref o2), (.int (0 : Int32)), (.ref o2), (.ref o1)])) (fun t k => XS.aloadN X0.here hx rfl (hb hby d1_3) rfl rfl k) ?_
  obtain ⟨cl1, Ar1, q1, S1, N1n, H1, G1⟩ := id A4
  refine step (s₁.setTop (mkF m 5 #[.val (.ref o1), .val (.ref o2)] [(.int (1 : Int32)), (.int (0 : Int32)), (.ref o2), (.ref o1)])) (fun t k => X0.arraylength hx (by rw [e0]; exact Ar1.1) (State.isArrayOf_alike hZ.alike Ar1.2.1) (g := (mkF m 4 #[.val (.ref o1), .val (.ref o2)] [(.ref o2), (.int (0 : Int32)), (.ref o2), (.ref o1)])) rfl rfl (hb hby d1_4) t (by rw [len_of S1 N1n]; exact k)) ?_
  refine step (s₁.setTop (mkF m 6 #[.val (.ref o1), .val (.ref o2)] [.null, (.int (1 : Int32)), (.int (0 : Int32)), (.ref o2), (.ref o1)])) (fun t k => XS.aconstNull X0.here hx rfl (hb hby d1_5) k) ?_
  obtain ⟨_, _, ⟨T2, L2, k2, n2⟩, -, X2, ⟨Lc2, hQ2, l2, y2, z2⟩, st2⟩ := X0.specialBack hx (y := (⟨"java/lang/String", "<init>", "([CIILjava/lang/Void;)V"⟩ : MethodName)) rfl hown (mvT hZ (hw _ (List.mem_of_getElem? (i := 8) rfl))) (mvT hZ (hw _ (List.mem_of_getElem? (i := 9) rfl))) (mvT hZ (hw _ (List.mem_of_getElem? (i := 11) rfl))) (by decide) (backOf (W := 0) (rm2_2 l Z a0 hw [] o1 o2 i1 kc2 i3 h0 n0 Z0 S0 A1 A2 A3 A4 gn_o1 ne_o1_o2 gn_o2 hy8 hy9) hZ (hw _ (List.mem_of_getElem? (i := 11) rfl)) (hw _ (List.mem_of_getElem? (i := 4) rfl)) (by decide) (by decide)) (g := (mkF m 6 #[.val (.ref o1), .val (.ref o2)] [.null, (.int (1 : Int32)), (.int (0 : Int32)), (.ref o2), (.ref o1)])) rfl (by rw [hml]; rfl) (Steps.refl _) (a := o1) (argsL := [(.ref o2), (.int (0 : Int32)), (.int (1 : Int32)), .null]) (rest := []) (lenOf pd_2 rfl) rfl (by show 2 * 0 + _ ≤ _; exact Nat.le_of_eq rfl) (hb hby d1_6) (fun _ _ => ⟨rfl, e0, (by decide : 0 + 1 ≤ _), (by decide : 0 + 1 ≤ _)⟩)
  dsimp only [Pt.U, Pt.locs, Pt.cells, Pt.slots] at X2 l2 y2 z2 st2 hQ2
  subst l2 y2 z2
  obtain ⟨h2, e2⟩ : ∃ z, T2.heap = z := ⟨_, rfl⟩
  rw [e2] at hQ2
  obtain ⟨b1_4_2, k1_4_2, rfl, N2q, K2q, sz_b1_4_2, q0_2, q1_2, q2_2⟩ := hQ2
  have N2 := Fr.app N0 N2q
  have lt2_o1 := A1.lt
  have lt2_o2 := A4.lt
  have ne_o1_b1_4_2 : o1 ≠ b1_4_2 := Nat.ne_of_lt (Nat.lt_of_lt_of_le lt2_o1 sz_b1_4_2)
  have ne_o2_b1_4_2 : o2 ≠ b1_4_2 := Nat.ne_of_lt (Nat.lt_of_lt_of_le lt2_o2 sz_b1_4_2)
  have gn_b1_4_2 : n0 ≤ b1_4_2 := Nat.le_trans Z0 sz_b1_4_2
  have K2 : Keep h0 h2 [o1] := (Keep.refl h0 [o1]).trans K2q (allS (Or.inl (List.mem_of_getElem? (i := 0) rfl)) all0)
  have f3 := own_staK S0 K2q (allS (own_exaP A1) all0)
  refine step (T2.setTop (mkF m 9 #[.val (.ref o1), .val (.ref o2)] [])) (fun t k => st2.trans k) ?_
  refine fin (v := none) X2 (fun _ => rfl) ?_ (by decide) (by decide) (fun fs hr => X2.returnOut hx hret (hb hby d1_9) hr)
  show Q1_1 Z o1 o2 i1 kc2 i3 h0 n0 (none) T2.heap _
  rw [e2]
  exact ⟨b1_4_2, k1_4_2, rfl, N2, K2, sz_b1_4_2, q0_2, q1_2, q2_2⟩
theorem own_plain5 (p0 : Int32) (p1 : Int32) (p2 : Int32) (p3 : Int32) (p4 : Int32) (cs : Int32) (z11_1 : Int32) (z75_4 : Int32) (hz11_1 : z11_1 = (if (p0 &&& (1 : Int32)) = (0 : Int32) then (1 : Int32) else (0 : Int32))) (hz75_4 : z75_4 = (if z11_1 = (0 : Int32) then ((((p2 &&& (2147483647 : Int32)) % (2097150 : Int32)) + (1 : Int32)) * (1024 : Int32)) else ((16 : Int32) <<< (((p1 &&& (2147483647 : Int32)) % (7 : Int32)) &&& 31)))) : ¬ (z75_4 = (2147482624 : Int32)) := by
  have hm1 := c_mask p1 2147483647 31 (by decide) (by decide)
  have hr1 := c_irem (p1 &&& 2147483647) 7 7 (by decide)
  have hm2 := c_mask p2 2147483647 31 (by decide) (by decide)
  have hr2 := c_irem (p2 &&& 2147483647) 2097150 2097150 (by decide)
  generalize ((p1 &&& (2147483647 : Int32)) % (7 : Int32)) = e at *
  generalize ((p2 &&& (2147483647 : Int32)) % (2097150 : Int32)) = n at *
  have e6 : 0 ≤ e.toInt ∧ e.toInt < 7 := by omega
  have n6 : 0 ≤ n.toInt ∧ n.toInt < 2097150 := by omega
  have ec : ∃ k : Fin 7, e = Int32.ofNat k.1 := ⟨⟨e.toInt.toNat, by omega⟩, Int32.toInt_inj.mp (by rw [Int32.toInt_ofNat_small (by show e.toInt.toNat < _; omega)]; show e.toInt = (e.toInt.toNat : Int); omega)⟩
  have t1 := c_iadd n 1
  have t2 := rng32 (n + 1)
  have t3 := c_imul (n + 1) 1024
  have t4 := rng32 ((n + 1) * 1024)
  rw [show (1 : Int32).toInt = 1 by decide] at t1
  rw [show (1024 : Int32).toInt = 1024 by decide] at t3
  subst hz11_1 hz75_4
  by_cases hs : (p0 &&& (1 : Int32)) = (0 : Int32)
  rotate_left
  · simp only [if_neg hs, if_true]
    rw [← Int32.toInt_inj, show (2147482624 : Int32).toInt = 2147482624 by decide]
    omega
  · simp only [if_pos hs, if_neg (by decide : ¬ (1 : Int32) = 0)]
    obtain ⟨k, rfl⟩ := ec
    clear hs
    clear hm1 hr1 hm2 hr2 e6 n6 t1 t2 t3 t4
    revert k
    decide +kernel
theorem d7_0 : decode prog_2_method_2_code 0 = .ok (.iload_n 0, 1) := by decide +kernel
theorem d7_1 : decode prog_2_method_2_code 1 = .ok (.ldc 11, 2) := by decide +kernel
theorem d7_3 : decode prog_2_method_2_code 3 = .ok (.if_icmp .ne 21, 3) := by decide +kernel
theorem d7_6 : decode prog_2_method_2_code 6 = .ok (.new 12, 3) := by decide +kernel
theorem d7_9 : decode prog_2_method_2_code 9 = .ok (.dup, 1) := by decide +kernel
theorem d7_10 : decode prog_2_method_2_code 10 = .ok (.aload_n 2, 1) := by decide +kernel
theorem d7_11 : decode prog_2_method_2_code 11 = .ok (.ldc 11, 2) := by decide +kernel
theorem d7_13 : decode prog_2_method_2_code 13 = .ok (.iload_n 1, 1) := by decide +kernel
theorem d7_14 : decode prog_2_method_2_code 14 = .ok (.isub, 1) := by decide +kernel
theorem d7_15 : decode prog_2_method_2_code 15 = .ok (.invokedynamic 14, 5) := by decide +kernel
theorem d7_20 : decode prog_2_method_2_code 20 = .ok (.invokespecial 18, 3) := by decide +kernel
theorem d7_23 : decode prog_2_method_2_code 23 = .ok (.athrow, 1) := by decide +kernel
theorem d7_24 : decode prog_2_method_2_code 24 = .ok (.iload_n 0, 1) := by decide +kernel
theorem d7_25 : decode prog_2_method_2_code 25 = .ok (.sipush 1024, 3) := by decide +kernel
theorem d7_28 : decode prog_2_method_2_code 28 = .ok (.if_icmp .ge 9, 3) := by decide +kernel
theorem d7_31 : decode prog_2_method_2_code 31 = .ok (.iconst 2, 1) := by decide +kernel
theorem d7_32 : decode prog_2_method_2_code 32 = .ok (.iload_n 0, 1) := by decide +kernel
theorem d7_33 : decode prog_2_method_2_code 33 = .ok (.imul, 1) := by decide +kernel
theorem d7_34 : decode prog_2_method_2_code 34 = .ok (.goto 8, 3) := by decide +kernel
theorem d7_37 : decode prog_2_method_2_code 37 = .ok (.iload_n 0, 1) := by decide +kernel
theorem d7_38 : decode prog_2_method_2_code 38 = .ok (.sipush 1024, 3) := by decide +kernel
theorem d7_41 : decode prog_2_method_2_code 41 = .ok (.iadd, 1) := by decide +kernel
theorem d7_42 : decode prog_2_method_2_code 42 = .ok (.ireturn, 1) := by decide +kernel
theorem pn_3 : plainName "com/example/spindle/spindle/Chunks" = true := by first | (simp [plainName, overriddenIn]; done) | decide +kernel
theorem ef_7_7 (m : MethodId) (x0 : Int32) (x1 : Int32) (x2 : Addr) : entryFrame m #[(.int x0), (.int x1), (.ref x2)] 3 = mkF m 0 #[.val (.int x0), .val (.int x1), .val (.ref x2)] [] := by first | (simp [entryFrame, mkF, argsToLocals, Value.category]; done) | rfl
def Q7_7 (Z : State) (i1 : Int32) (i2 : Int32) (o1 : Addr) (h0 : Heap) (n0 : Nat) (v : Option Value) (h : Heap) (L : List Loc) : Prop := ∃ (z42_2 : Int32), v = some (.int z42_2) ∧ Fr n0 L ∧ h = h0 ∧ z42_2 = (if i1 < (1024 : Int32) then ((2 : Int32) * i1) else (i1 + (1024 : Int32)))
set_option maxRecDepth 65536 in
set_option maxHeartbeats 40000000 in
theorem rm7_7 (l : Launch) (Z : State) (a0 : Array Value) (hw : ∀ d ∈ tables_1, d.before a0 Z = true) (ws : List Jvm.Cond) (i1 : Int32) (i2 : Int32) (o1 : Addr) (h0 : Heap) (n0 : Nat) (Z0 : n0 ≤ h0.size) (A0 : Exa Z h0 o1 "java/lang/String") (gn_o1 : n0 ≤ o1) (hy2 : ¬ (i1 = (2147482624 : Int32)))  :
    MetFree l (⟨"com/example/spindle/spindle/Chunks", "grownCapacity", "(IILjava/lang/String;)I"⟩ : MethodName) (head1 (Jvm.Cond.code (⟨"com/example/spindle/spindle/Chunks", "grownCapacity", "(IILjava/lang/String;)I"⟩ : MethodName) prog_2_method_2_code 3 (some .int) :: ws) ({ frames := 0, cells := 0, slots := 0, locals := 0 } : Room)) (fun a U => a = #[(.int i1), (.int i2), (.ref o1)] ∧ Z.Warmed39 U.vm ∧ U.heap = h0) (fun _ _ _ _ _ => True) (fun _ U o U' => ∃ v L, o = .returned v ∧ Q7_7 Z i1 i2 o1 h0 n0 v U'.heap L ∧ FrameEnd U o U' L ({ frames := 0, cells := 0, slots := 0, locals := 0 } : Room).cells ({ frames := 0, cells := 0, slots := 0, locals := 0 } : Room).slots) := by
  refine own_body (plainFor_of_name pn_3) ?_
  intro p e s m below meth c s₁ G hx hby hml hZ hown hnm hret X0 e0 step fin
  replace hown : s.vm.findClass "com/example/spindle/spindle/Chunks" = some m.cls := hown
  replace hnm : meth.name = "grownCapacity" := hnm
  replace hret : meth.sig.returnType = some .int := hret
  replace hml : c.maxLocals = 3 := hml
  have N0 := Fr.nil n0
  refine step (s₁.setTop (mkF m 0 #[.val (.int i1), .val (.int i2), .val (.ref o1)] [])) (fun t k => castTop (ef_7_7 m i1 i2 o1) k) ?_
  refine step (s₁.setTop (mkF m 1 #[.val (.int i1), .val (.int i2), .val (.ref o1)] [(.int i1)])) (fun t k => XS.iloadN X0.here hx rfl (hb hby d7_0) rfl k) ?_
  refine step (s₁.setTop (mkF m 3 #[.val (.int i1), .val (.int i2), .val (.ref o1)] [(.int (2147482624 : Int32)), (.int i1)])) (fun t k => X0.ldcInt hx hown (mvT hZ (hw _ (List.mem_of_getElem? (i := 35) rfl))) (g := (mkF m 1 #[.val (.int i1), .val (.int i2), .val (.ref o1)] [(.int i1)])) rfl (hb hby d7_1) t k) ?_
  have hc3_1 : ¬ (i1 = (2147482624 : Int32)) := hy2
  refine step (s₁.setTop (mkF m 24 #[.val (.int i1), .val (.int i2), .val (.ref o1)] [])) (fun t k => XS.icmpYes X0.here hx rfl (pc0 := 3) (pc' := 24) rfl (hb hby d7_3) rfl (feq hc3_1).2 (by decide) (by decide) k) ?_
  refine step (s₁.setTop (mkF m 25 #[.val (.int i1), .val (.int i2), .val (.ref o1)] [(.int i1)])) (fun t k => XS.iloadN X0.here hx rfl (hb hby d7_24) rfl k) ?_
  refine step (s₁.setTop (mkF m 28 #[.val (.int i1), .val (.int i2), .val (.ref o1)] [(.int (1024 : Int32)), (.int i1)])) (fun t k => XS.sipush X0.here hx rfl (hb hby d7_25) k) ?_
  suffices J42_3 : ∀ (z42_2 : Int32), z42_2 = (if i1 < (1024 : Int32) then ((2 : Int32) * i1) else (i1 + (1024 : Int32))) → G (s₁.setTop (mkF m 42 #[.val (.int i1), .val (.int i2), .val (.ref o1)] [(.int z42_2)])) by
    by_cases hc28_4 : i1 < (1024 : Int32)
    · -- 28 True
      refine step (s₁.setTop (mkF m 31 #[.val (.int i1), .val (.int i2), .val (.ref o1)] [])) (fun t k => XS.icmpNo X0.here hx rfl (hb hby d7_28) rfl (tlt hc28_4).2.1 k) ?_
      refine step (s₁.setTop (mkF m 32 #[.val (.int i1), .val (.int i2), .val (.ref o1)] [(.int (2 : Int32))])) (fun t k => XS.iconst X0.here hx rfl (hb hby d7_31) k) ?_
      refine step (s₁.setTop (mkF m 33 #[.val (.int i1), .val (.int i2), .val (.ref o1)] [(.int i1), (.int (2 : Int32))])) (fun t k => XS.iloadN X0.here hx rfl (hb hby d7_32) rfl k) ?_
      refine step (s₁.setTop (mkF m 34 #[.val (.int i1), .val (.int i2), .val (.ref o1)] [(.int ((2 : Int32) * i1))])) (fun t k => XS.imul X0.here hx rfl (hb hby d7_33) rfl k) ?_
      refine step (s₁.setTop (mkF m 42 #[.val (.int i1), .val (.int i2), .val (.ref o1)] [(.int ((2 : Int32) * i1))])) (fun t k => XS.goto X0.here hx rfl (pc0 := 34) (pc' := 42) rfl (hb hby d7_34) (by decide) (by decide) k) ?_
      exact J42_3 _ (by simp only [if_pos hc28_4, if_true, if_false] <;> rfl)
    · -- 28 False
      refine step (s₁.setTop (mkF m 37 #[.val (.int i1), .val (.int i2), .val (.ref o1)] [])) (fun t k => XS.icmpYes X0.here hx rfl (pc0 := 28) (pc' := 37) rfl (hb hby d7_28) rfl (flt hc28_4).2.1 (by decide) (by decide) k) ?_
      refine step (s₁.setTop (mkF m 38 #[.val (.int i1), .val (.int i2), .val (.ref o1)] [(.int i1)])) (fun t k => XS.iloadN X0.here hx rfl (hb hby d7_37) rfl k) ?_
      refine step (s₁.setTop (mkF m 41 #[.val (.int i1), .val (.int i2), .val (.ref o1)] [(.int (1024 : Int32)), (.int i1)])) (fun t k => XS.sipush X0.here hx rfl (hb hby d7_38) k) ?_
      refine step (s₁.setTop (mkF m 42 #[.val (.int i1), .val (.int i2), .val (.ref o1)] [(.int (i1 + (1024 : Int32)))])) (fun t k => XS.iadd X0.here hx rfl (hb hby d7_41) rfl k) ?_
      exact J42_3 _ (by simp only [if_neg hc28_4, if_true, if_false] <;> rfl)
  intro z42_2 hz42_2
  refine fin (v := some (.int z42_2)) X0 (fun h => by cases h) ?_ (by decide) (by decide) (fun fs hr => retI X0 hx hret (hb hby d7_42) hr)
  show Q7_7 Z i1 i2 o1 h0 n0 (some (.int z42_2)) s₁.heap _
  rw [e0]
  exact ⟨z42_2, rfl, N0, rfl, hz42_2⟩
theorem own_plain7 (p0 : Int32) (p1 : Int32) (p2 : Int32) (p3 : Int32) (p4 : Int32) (cs : Int32) (z11_1 : Int32) (z75_4 : Int32) (z75_5 : Int32) (z42_2_17 : Int32) (z124_18 : Int32) (hz11_1 : z11_1 = (if (p0 &&& (1 : Int32)) = (0 : Int32) then (1 : Int32) else (0 : Int32))) (hz75_4 : z75_4 = (if z11_1 = (0 : Int32) then ((((p2 &&& (2147483647 : Int32)) % (2097150 : Int32)) + (1 : Int32)) * (1024 : Int32)) else ((16 : Int32) <<< (((p1 &&& (2147483647 : Int32)) % (7 : Int32)) &&& 31)))) (hz75_5 : z75_5 = (if z11_1 = (0 : Int32) then (((((p2 &&& (2147483647 : Int32)) % (2097150 : Int32)) + (1 : Int32)) + (1 : Int32)) * (1024 : Int32)) else ((16 : Int32) <<< ((((p1 &&& (2147483647 : Int32)) % (7 : Int32)) + (1 : Int32)) &&& 31)))) (hz42_2_17 : z42_2_17 = (if z75_4 < (1024 : Int32) then ((2 : Int32) * z75_4) else (z75_4 + (1024 : Int32)))) (hz124_18 : z124_18 = (if z42_2_17 = z75_5 then (1 : Int32) else (0 : Int32))) : z124_18 = 1 := by
  have hm1 := c_mask p1 2147483647 31 (by decide) (by decide)
  have hr1 := c_irem (p1 &&& 2147483647) 7 7 (by decide)
  have hm2 := c_mask p2 2147483647 31 (by decide) (by decide)
  have hr2 := c_irem (p2 &&& 2147483647) 2097150 2097150 (by decide)
  generalize ((p1 &&& (2147483647 : Int32)) % (7 : Int32)) = e at *
  generalize ((p2 &&& (2147483647 : Int32)) % (2097150 : Int32)) = n at *
  have e6 : 0 ≤ e.toInt ∧ e.toInt < 7 := by omega
  have n6 : 0 ≤ n.toInt ∧ n.toInt < 2097150 := by omega
  have ec : ∃ k : Fin 7, e = Int32.ofNat k.1 := ⟨⟨e.toInt.toNat, by omega⟩, Int32.toInt_inj.mp (by rw [Int32.toInt_ofNat_small (by show e.toInt.toNat < _; omega)]; show e.toInt = (e.toInt.toNat : Int); omega)⟩
  have t1 := c_iadd n 1
  have t2 := rng32 (n + 1)
  have t3 := c_imul (n + 1) 1024
  have t4 := rng32 ((n + 1) * 1024)
  rw [show (1 : Int32).toInt = 1 by decide] at t1
  rw [show (1024 : Int32).toInt = 1024 by decide] at t3
  by_cases hs : (p0 &&& (1 : Int32)) = (0 : Int32)
  · obtain ⟨k, rfl⟩ := ec
    subst hz11_1 hz75_4 hz75_5 hz42_2_17 hz124_18
    simp only [if_pos hs, if_neg (by decide : ¬ (1 : Int32) = 0)]
    clear hm1 hr1 hm2 hr2 e6 n6 t1 t2 t3 t4 hs
    revert k
    decide +kernel
  · have t5 := c_iadd (n + 1) 1
    have t6 := rng32 (n + 1 + 1)
    have t7 := c_imul (n + 1 + 1) 1024
    have t8 := rng32 ((n + 1 + 1) * 1024)
    have t9 := c_iadd ((n + 1) * 1024) 1024
    have t10 := rng32 ((n + 1) * 1024 + 1024)
    rw [show (1 : Int32).toInt = 1 by decide] at t5
    rw [show (1024 : Int32).toInt = 1024 by decide] at t7 t9
    have g1 : ¬ (((n + (1 : Int32)) * (1024 : Int32)) < (1024 : Int32)) := by rw [Int32.lt_iff_toInt_lt, show (1024 : Int32).toInt = 1024 by decide]; omega
    have g2 : ((n + (1 : Int32)) * (1024 : Int32)) + (1024 : Int32) = ((n + (1 : Int32)) + (1 : Int32)) * (1024 : Int32) := Int32.toInt_inj.mp (by omega)
    subst hz11_1 hz75_4 hz75_5 hz42_2_17 hz124_18
    simp only [if_neg hs, if_true, if_neg g1, if_pos g2]
theorem ef_0 (m : MethodId) (x0 : Int32) (x1 : Int32) (x2 : Int32) (x3 : Int32) (x4 : Int32) : entryFrame m #[(.int x0), (.int x1), (.int x2), (.int x3), (.int x4)] maxLocals = mkF m 0 #[.val (.int x0), .val (.int x1), .val (.int x2), .val (.int x3), .val (.int x4), .unset, .unset, .unset, .unset, .unset, .unset] [] := by first | (simp [entryFrame, mkF, argsToLocals, Value.category, maxLocals]; done) | rfl
def Q0 (Z : State) (p0 p1 p2 p3 p4 cs : Int32) (h0 : Heap) (n0 : Nat) (v : Option Value) (h : Heap) (L : List Loc) : Prop := v = some (.int 1) ∧ Fr n0 L
set_option maxRecDepth 65536 in
set_option maxHeartbeats 40000000 in
theorem rm0 (l : Launch) (Z : State) (a0 : Array Value) (hw : ∀ d ∈ tables_1, d.before a0 Z = true) (ws : List Jvm.Cond) (p0 p1 p2 p3 p4 cs : Int32) (h0 : Heap) (n0 : Nat) (Z0 : n0 ≤ h0.size) (S_cs : Sta Z h0 "java/lang/String" "COMPACT_STRINGS" "Z" (.int cs)) (c_cs : ¬ (cs = (0 : Int32))) :
    MetFree l x (head1 (Jvm.Cond.code x code maxLocals ret :: ws) room_1) (fun a U => a = #[(.int p0), (.int p1), (.int p2), (.int p3), (.int p4)] ∧ Z.Warmed39 U.vm ∧ U.heap = h0) (fun _ _ _ _ _ => True) (fun _ U o U' => ∃ v L, o = .returned v ∧ Q0 Z p0 p1 p2 p3 p4 cs h0 n0 v U'.heap L ∧ FrameEnd U o U' L room_1.cells room_1.slots) := by
  refine own_body (plainFor_of_name pn_0) ?_
  intro p e s m below meth c s₁ G hx hby hml hZ hown hnm hret X0 e0 step fin
  replace hown : s.vm.findClass "com/example/spindle/spindle/ChunksGrownCapacityPinLaw" = some m.cls := hown
  replace hnm : meth.name = "law" := hnm
  replace hret : meth.sig.returnType = some .boolean := hret
  replace hml : c.maxLocals = 11 := hml
  have N0 := Fr.nil n0
  refine step (s₁.setTop (mkF m 0 #[.val (.int p0), .val (.int p1), .val (.int p2), .val (.int p3), .val (.int p4), .unset, .unset, .unset, .unset, .unset, .unset] [])) (fun t k => castTop (ef_0 m p0 p1 p2 p3 p4) k) ?_
  refine step (s₁.setTop (mkF m 1 #[.val (.int p0), .val (.int p1), .val (.int p2), .val (.int p3), .val (.int p4), .unset, .unset, .unset, .unset, .unset, .unset] [(.int p0)])) (fun t k => XS.iloadN X0.here hx rfl (hb hby at_0) rfl k) ?_
  refine step (s₁.setTop (mkF m 2 #[.val (.int p0), .val (.int p1), .val (.int p2), .val (.int p3), .val (.int p4), .unset, .unset, .unset, .unset, .unset, .unset] [(.int (1 : Int32)), (.int p0)])) (fun t k => XS.iconst X0.here hx rfl (hb hby at_1) k) ?_
  refine step (s₁.setTop (mkF m 3 #[.val (.int p0), .val (.int p1), .val (.int p2), .val (.int p3), .val (.int p4), .unset, .unset, .unset, .unset, .unset, .unset] [(.int (p0 &&& (1 : Int32)))])) (fun t k => XS.iand X0.here hx rfl (hb hby at_2) rfl k) ?_
  suffices J11_2 : ∀ (z11_1 : Int32), z11_1 = (if (p0 &&& (1 : Int32)) = (0 : Int32) then (1 : Int32) else (0 : Int32)) → G (s₁.setTop (mkF m 11 #[.val (.int p0), .val (.int p1), .val (.int p2), .val (.int p3), .val (.int p4), .unset, .unset, .unset, .unset, .unset, .unset] [(.int z11_1)])) by
    by_cases hc3_3 : (p0 &&& (1 : Int32)) = (0 : Int32)
    · -- 3 True
      refine step (s₁.setTop (mkF m 6 #[.val (.int p0), .val (.int p1), .val (.int p2), .val (.int p3), .val (.int p4), .unset, .unset, .unset, .unset, .unset, .unset] [])) (fun t k => XS.ifNo X0.here hx rfl (hb hby at_3) rfl ((if0 _ _).trans (teq hc3_3).2) k) ?_
      refine step (s₁.setTop (mkF m 7 #[.val (.int p0), .val (.int p1), .val (.int p2), .val (.int p3), .val (.int p4), .unset, .unset, .unset, .unset, .unset, .unset] [(.int (1 : Int32))])) (fun t k => XS.iconst X0.here hx rfl (hb hby at_6) k) ?_
      refine step (s₁.setTop (mkF m 11 #[.val (.int p0), .val (.int p1), .val (.int p2), .val (.int p3), .val (.int p4), .unset, .unset, .unset, .unset, .unset, .unset] [(.int (1 : Int32))])) (fun t k => XS.goto X0.here hx rfl (pc0 := 7) (pc' := 11) rfl (hb hby at_7) (by decide) (by decide) k) ?_
      exact J11_2 _ (by simp only [if_pos hc3_3, if_true, if_false] <;> rfl)
    · -- 3 False
      refine step (s₁.setTop (mkF m 10 #[.val (.int p0), .val (.int p1), .val (.int p2), .val (.int p3), .val (.int p4), .unset, .unset, .unset, .unset, .unset, .unset] [])) (fun t k => XS.ifYes X0.here hx rfl (pc0 := 3) (pc' := 10) rfl (hb hby at_3) rfl ((if0 _ _).trans (feq hc3_3).2) (by decide) (by decide) k) ?_
      refine step (s₁.setTop (mkF m 11 #[.val (.int p0), .val (.int p1), .val (.int p2), .val (.int p3), .val (.int p4), .unset, .unset, .unset, .unset, .unset, .unset] [(.int (0 : Int32))])) (fun t k => XS.iconst X0.here hx rfl (hb hby at_10) k) ?_
      exact J11_2 _ (by simp only [if_neg hc3_3, if_true, if_false] <;> rfl)
  intro z11_1 hz11_1
  refine step (s₁.setTop (mkF m 13 #[.val (.int p0), .val (.int p1), .val (.int p2), .val (.int p3), .val (.int p4), .val (.int z11_1), .unset, .unset, .unset, .unset, .unset] [])) (fun t k => XS.istore X0.here hx rfl (hb hby at_11) rfl (l' := #[.val (.int p0), .val (.int p1), .val (.int p2), .val (.int p3), .val (.int p4), .val (.int z11_1), .unset, .unset, .unset, .unset, .unset]) rfl k) ?_
  refine step (s₁.setTop (mkF m 15 #[.val (.int p0), .val (.int p1), .val (.int p2), .val (.int p3), .val (.int p4), .val (.int z11_1), .unset, .unset, .unset, .unset, .unset] [(.int z11_1)])) (fun t k => XS.iload X0.here hx rfl (hb hby at_13) rfl k) ?_
  suffices J75_7 : ∀ (z75_4 : Int32) (z75_5 : Int32) (z75_6 : Int32), z75_4 = (if z11_1 = (0 : Int32) then ((((p2 &&& (2147483647 : Int32)) % (2097150 : Int32)) + (1 : Int32)) * (1024 : Int32)) else ((16 : Int32) <<< (((p1 &&& (2147483647 : Int32)) % (7 : Int32)) &&& 31))) → z75_5 = (if z11_1 = (0 : Int32) then (((((p2 &&& (2147483647 : Int32)) % (2097150 : Int32)) + (1 : Int32)) + (1 : Int32)) * (1024 : Int32)) else ((16 : Int32) <<< ((((p1 &&& (2147483647 : Int32)) % (7 : Int32)) + (1 : Int32)) &&& 31))) → z75_6 = (if z11_1 = (0 : Int32) then (((p2 &&& (2147483647 : Int32)) % (2097150 : Int32)) + (1 : Int32)) else ((p1 &&& (2147483647 : Int32)) % (7 : Int32))) → G (s₁.setTop (mkF m 75 #[.val (.int p0), .val (.int p1), .val (.int p2), .val (.int p3), .val (.int p4), .val (.int z11_1), .val (.int z75_4), .val (.int z75_5), .val (.int z75_6), .unset, .unset] [])) by
    by_cases hc15_8 : z11_1 = (0 : Int32)
    · -- 15 True
      refine step (s₁.setTop (mkF m 46 #[.val (.int p0), .val (.int p1), .val (.int p2), .val (.int p3), .val (.int p4), .val (.int z11_1), .unset, .unset, .unset, .unset, .unset] [])) (fun t k => XS.ifYes X0.here hx rfl (pc0 := 15) (pc' := 46) rfl (hb hby at_15) rfl ((if0 _ _).trans (teq hc15_8).1) (by decide) (by decide) k) ?_
      refine step (s₁.setTop (mkF m 47 #[.val (.int p0), .val (.int p1), .val (.int p2), .val (.int p3), .val (.int p4), .val (.int z11_1), .unset, .unset, .unset, .unset, .unset] [(.int p2)])) (fun t k => XS.iloadN X0.here hx rfl (hb hby at_46) rfl k) ?_
      refine step (s₁.setTop (mkF m 49 #[.val (.int p0), .val (.int p1), .val (.int p2), .val (.int p3), .val (.int p4), .val (.int z11_1), .unset, .unset, .unset, .unset, .unset] [(.int (2147483647 : Int32)), (.int p2)])) (fun t k => X0.ldcInt hx hown (mvT hZ (hw _ (List.mem_of_getElem? (i := 0) rfl))) (g := (mkF m 47 #[.val (.int p0), .val (.int p1), .val (.int p2), .val (.int p3), .val (.int p4), .val (.int z11_1), .unset, .unset, .unset, .unset, .unset] [(.int p2)])) rfl (hb hby at_47) t k) ?_
      refine step (s₁.setTop (mkF m 50 #[.val (.int p0), .val (.int p1), .val (.int p2), .val (.int p3), .val (.int p4), .val (.int z11_1), .unset, .unset, .unset, .unset, .unset] [(.int (p2 &&& (2147483647 : Int32)))])) (fun t k => XS.iand X0.here hx rfl (hb hby at_49) rfl k) ?_
      refine step (s₁.setTop (mkF m 52 #[.val (.int p0), .val (.int p1), .val (.int p2), .val (.int p3), .val (.int p4), .val (.int z11_1), .unset, .unset, .unset, .unset, .unset] [(.int (2097150 : Int32)), (.int (p2 &&& (2147483647 : Int32)))])) (fun t k => X0.ldcInt hx hown (mvT hZ (hw _ (List.mem_of_getElem? (i := 36) rfl))) (g := (mkF m 50 #[.val (.int p0), .val (.int p1), .val (.int p2), .val (.int p3), .val (.int p4), .val (.int z11_1), .unset, .unset, .unset, .unset, .unset] [(.int (p2 &&& (2147483647 : Int32)))])) rfl (hb hby at_50) t k) ?_
      refine step (s₁.setTop (mkF m 53 #[.val (.int p0), .val (.int p1), .val (.int p2), .val (.int p3), .val (.int p4), .val (.int z11_1), .unset, .unset, .unset, .unset, .unset] [(.int ((p2 &&& (2147483647 : Int32)) % (2097150 : Int32)))])) (fun t k => iremM X0 hx rfl (hb hby at_52) rfl (by decide) k) ?_
      refine step (s₁.setTop (mkF m 54 #[.val (.int p0), .val (.int p1), .val (.int p2), .val (.int p3), .val (.int p4), .val (.int z11_1), .unset, .unset, .unset, .unset, .unset] [(.int (1 : Int32)), (.int ((p2 &&& (2147483647 : Int32)) % (2097150 : Int32)))])) (fun t k => XS.iconst X0.here hx rfl (hb hby at_53) k) ?_
      refine step (s₁.setTop (mkF m 55 #[.val (.int p0), .val (.int p1), .val (.int p2), .val (.int p3), .val (.int p4), .val (.int z11_1), .unset, .unset, .unset, .unset, .unset] [(.int (((p2 &&& (2147483647 : Int32)) % (2097150 : Int32)) + (1 : Int32)))])) (fun t k => XS.iadd X0.here hx rfl (hb hby at_54) rfl k) ?_
      refine step (s₁.setTop (mkF m 57 #[.val (.int p0), .val (.int p1), .val (.int p2), .val (.int p3), .val (.int p4), .val (.int z11_1), .unset, .unset, .val (.int (((p2 &&& (2147483647 : Int32)) % (2097150 : Int32)) + (1 : Int32))), .unset, .unset] [])) (fun t k => XS.istore X0.here hx rfl (hb hby at_55) rfl (l' := #[.val (.int p0), .val (.int p1), .val (.int p2), .val (.int p3), .val (.int p4), .val (.int z11_1), .unset, .unset, .val (.int (((p2 &&& (2147483647 : Int32)) % (2097150 : Int32)) + (1 : Int32))), .unset, .unset]) rfl k) ?_
      refine step (s₁.setTop (mkF m 59 #[.val (.int p0), .val (.int p1), .val (.int p2), .val (.int p3), .val (.int p4), .val (.int z11_1), .unset, .unset, .val (.int (((p2 &&& (2147483647 : Int32)) % (2097150 : Int32)) + (1 : Int32))), .unset, .unset] [(.int (((p2 &&& (2147483647 : Int32)) % (2097150 : Int32)) + (1 : Int32)))])) (fun t k => XS.iload X0.here hx rfl (hb hby at_57) rfl k) ?_
      refine step (s₁.setTop (mkF m 62 #[.val (.int p0), .val (.int p1), .val (.int p2), .val (.int p3), .val (.int p4), .val (.int z11_1), .unset, .unset, .val (.int (((p2 &&& (2147483647 : Int32)) % (2097150 : Int32)) + (1 : Int32))), .unset, .unset] [(.int (1024 : Int32)), (.int (((p2 &&& (2147483647 : Int32)) % (2097150 : Int32)) + (1 : Int32)))])) (fun t k => XS.sipush X0.here hx rfl (hb hby at_59) k) ?_
      refine step (s₁.setTop (mkF m 63 #[.val (.int p0), .val (.int p1), .val (.int p2), .val (.int p3), .val (.int p4), .val (.int z11_1), .unset, .unset, .val (.int (((p2 &&& (2147483647 : Int32)) % (2097150 : Int32)) + (1 : Int32))), .unset, .unset] [(.int ((((p2 &&& (2147483647 : Int32)) % (2097150 : Int32)) + (1 : Int32)) * (1024 : Int32)))])) (fun t k => XS.imul X0.here hx rfl (hb hby at_62) rfl k) ?_
      refine step (s₁.setTop (mkF m 65 #[.val (.int p0), .val (.int p1), .val (.int p2), .val (.int p3), .val (.int p4), .val (.int z11_1), .val (.int ((((p2 &&& (2147483647 : Int32)) % (2097150 : Int32)) + (1 : Int32)) * (1024 : Int32))), .unset, .val (.int (((p2 &&& (2147483647 : Int32)) % (2097150 : Int32)) + (1 : Int32))), .unset, .unset] [])) (fun t k => XS.istore X0.here hx rfl (hb hby at_63) rfl (l' := #[.val (.int p0), .val (.int p1), .val (.int p2), .val (.int p3), .val (.int p4), .val (.int z11_1), .val (.int ((((p2 &&& (2147483647 : Int32)) % (2097150 : Int32)) + (1 : Int32)) * (1024 : Int32))), .unset, .val (.int (((p2 &&& (2147483647 : Int32)) % (2097150 : Int32)) + (1 : Int32))), .unset, .unset]) rfl k) ?_
      refine step (s₁.setTop (mkF m 67 #[.val (.int p0), .val (.int p1), .val (.int p2), .val (.int p3), .val (.int p4), .val (.int z11_1), .val (.int ((((p2 &&& (2147483647 : Int32)) % (2097150 : Int32)) + (1 : Int32)) * (1024 : Int32))), .unset, .val (.int (((p2 &&& (2147483647 : Int32)) % (2097150 : Int32)) + (1 : Int32))), .unset, .unset] [(.int (((p2 &&& (2147483647 : Int32)) % (2097150 : Int32)) + (1 : Int32)))])) (fun t k => XS.iload X0.here hx rfl (hb hby at_65) rfl k) ?_
      refine step (s₁.setTop (mkF m 68 #[.val (.int p0), .val (.int p1), .val (.int p2), .val (.int p3), .val (.int p4), .val (.int z11_1), .val (.int ((((p2 &&& (2147483647 : Int32)) % (2097150 : Int32)) + (1 : Int32)) * (1024 : Int32))), .unset, .val (.int (((p2 &&& (2147483647 : Int32)) % (2097150 : Int32)) + (1 : Int32))), .unset, .unset] [(.int (1 : Int32)), (.int (((p2 &&& (2147483647 : Int32)) % (2097150 : Int32)) + (1 : Int32)))])) (fun t k => XS.iconst X0.here hx rfl (hb hby at_67) k) ?_
      refine step (s₁.setTop (mkF m 69 #[.val (.int p0), .val (.int p1), .val (.int p2), .val (.int p3), .val (.int p4), .val (.int z11_1), .val (.int ((((p2 &&& (2147483647 : Int32)) % (2097150 : Int32)) + (1 : Int32)) * (1024 : Int32))), .unset, .val (.int (((p2 &&& (2147483647 : Int32)) % (2097150 : Int32)) + (1 : Int32))), .unset, .unset] [(.int ((((p2 &&& (2147483647 : Int32)) % (2097150 : Int32)) + (1 : Int32)) + (1 : Int32)))])) (fun t k => XS.iadd X0.here hx rfl (hb hby at_68) rfl k) ?_
      refine step (s₁.setTop (mkF m 72 #[.val (.int p0), .val (.int p1), .val (.int p2), .val (.int p3), .val (.int p4), .val (.int z11_1), .val (.int ((((p2 &&& (2147483647 : Int32)) % (2097150 : Int32)) + (1 : Int32)) * (1024 : Int32))), .unset, .val (.int (((p2 &&& (2147483647 : Int32)) % (2097150 : Int32)) + (1 : Int32))), .unset, .unset] [(.int (1024 : Int32)), (.int ((((p2 &&& (2147483647 : Int32)) % (2097150 : Int32)) + (1 : Int32)) + (1 : Int32)))])) (fun t k => XS.sipush X0.here hx rfl (hb hby at_69) k) ?_
      refine step (s₁.setTop (mkF m 73 #[.val (.int p0), .val (.int p1), .val (.int p2), .val (.int p3), .val (.int p4), .val (.int z11_1), .val (.int ((((p2 &&& (2147483647 : Int32)) % (2097150 : Int32)) + (1 : Int32)) * (1024 : Int32))), .unset, .val (.int (((p2 &&& (2147483647 : Int32)) % (2097150 : Int32)) + (1 : Int32))), .unset, .unset] [(.int (((((p2 &&& (2147483647 : Int32)) % (2097150 : Int32)) + (1 : Int32)) + (1 : Int32)) * (1024 : Int32)))])) (fun t k => XS.imul X0.here hx rfl (hb hby at_72) rfl k) ?_
      refine step (s₁.setTop (mkF m 75 #[.val (.int p0), .val (.int p1), .val (.int p2), .val (.int p3), .val (.int p4), .val (.int z11_1), .val (.int ((((p2 &&& (2147483647 : Int32)) % (2097150 : Int32)) + (1 : Int32)) * (1024 : Int32))), .val (.int (((((p2 &&& (2147483647 : Int32)) % (2097150 : Int32)) + (1 : Int32)) + (1 : Int32)) * (1024 : Int32))), .val (.int (((p2 &&& (2147483647 : Int32)) % (2097150 : Int32)) + (1 : Int32))), .unset, .unset] [])) (fun t k => XS.istore X0.here hx rfl (hb hby at_73) rfl (l' := #[.val (.int p0), .val (.int p1), .val (.int p2), .val (.int p3), .val (.int p4), .val (.int z11_1), .val (.int ((((p2 &&& (2147483647 : Int32)) % (2097150 : Int32)) + (1 : Int32)) * (1024 : Int32))), .val (.int (((((p2 &&& (2147483647 : Int32)) % (2097150 : Int32)) + (1 : Int32)) + (1 : Int32)) * (1024 : Int32))), .val (.int (((p2 &&& (2147483647 : Int32)) % (2097150 : Int32)) + (1 : Int32))), .unset, .unset]) rfl k) ?_
      exact J75_7 _ _ _ (by simp only [if_pos hc15_8, if_true, if_false] <;> rfl) (by simp only [if_pos hc15_8, if_true, if_false] <;> rfl) (by simp only [if_pos hc15_8, if_true, if_false] <;> rfl)
    · -- 15 False
      refine step (s₁.setTop (mkF m 18 #[.val (.int p0), .val (.int p1), .val (.int p2), .val (.int p3), .val (.int p4), .val (.int z11_1), .unset, .unset, .unset, .unset, .unset] [])) (fun t k => XS.ifNo X0.here hx rfl (hb hby at_15) rfl ((if0 _ _).trans (feq hc15_8).1) k) ?_
      refine step (s₁.setTop (mkF m 19 #[.val (.int p0), .val (.int p1), .val (.int p2), .val (.int p3), .val (.int p4), .val (.int z11_1), .unset, .unset, .unset, .unset, .unset] [(.int p1)])) (fun t k => XS.iloadN X0.here hx rfl (hb hby at_18) rfl k) ?_
      refine step (s₁.setTop (mkF m 21 #[.val (.int p0), .val (.int p1), .val (.int p2), .val (.int p3), .val (.int p4), .val (.int z11_1), .unset, .unset, .unset, .unset, .unset] [(.int (2147483647 : Int32)), (.int p1)])) (fun t k => X0.ldcInt hx hown (mvT hZ (hw _ (List.mem_of_getElem? (i := 0) rfl))) (g := (mkF m 19 #[.val (.int p0), .val (.int p1), .val (.int p2), .val (.int p3), .val (.int p4), .val (.int z11_1), .unset, .unset, .unset, .unset, .unset] [(.int p1)])) rfl (hb hby at_19) t k) ?_
      refine step (s₁.setTop (mkF m 22 #[.val (.int p0), .val (.int p1), .val (.int p2), .val (.int p3), .val (.int p4), .val (.int z11_1), .unset, .unset, .unset, .unset, .unset] [(.int (p1 &&& (2147483647 : Int32)))])) (fun t k => XS.iand X0.here hx rfl (hb hby at_21) rfl k) ?_
      refine step (s₁.setTop (mkF m 24 #[.val (.int p0), .val (.int p1), .val (.int p2), .val (.int p3), .val (.int p4), .val (.int z11_1), .unset, .unset, .unset, .unset, .unset] [(.int (7 : Int32)), (.int (p1 &&& (2147483647 : Int32)))])) (fun t k => XS.bipush X0.here hx rfl (hb hby at_22) k) ?_
      refine step (s₁.setTop (mkF m 25 #[.val (.int p0), .val (.int p1), .val (.int p2), .val (.int p3), .val (.int p4), .val (.int z11_1), .unset, .unset, .unset, .unset, .unset] [(.int ((p1 &&& (2147483647 : Int32)) % (7 : Int32)))])) (fun t k => iremM X0 hx rfl (hb hby at_24) rfl (by decide) k) ?_
      refine step (s₁.setTop (mkF m 27 #[.val (.int p0), .val (.int p1), .val (.int p2), .val (.int p3), .val (.int p4), .val (.int z11_1), .unset, .unset, .val (.int ((p1 &&& (2147483647 : Int32)) % (7 : Int32))), .unset, .unset] [])) (fun t k => XS.istore X0.here hx rfl (hb hby at_25) rfl (l' := #[.val (.int p0), .val (.int p1), .val (.int p2), .val (.int p3), .val (.int p4), .val (.int z11_1), .unset, .unset, .val (.int ((p1 &&& (2147483647 : Int32)) % (7 : Int32))), .unset, .unset]) rfl k) ?_
      refine step (s₁.setTop (mkF m 29 #[.val (.int p0), .val (.int p1), .val (.int p2), .val (.int p3), .val (.int p4), .val (.int z11_1), .unset, .unset, .val (.int ((p1 &&& (2147483647 : Int32)) % (7 : Int32))), .unset, .unset] [(.int (16 : Int32))])) (fun t k => XS.bipush X0.here hx rfl (hb hby at_27) k) ?_
      refine step (s₁.setTop (mkF m 31 #[.val (.int p0), .val (.int p1), .val (.int p2), .val (.int p3), .val (.int p4), .val (.int z11_1), .unset, .unset, .val (.int ((p1 &&& (2147483647 : Int32)) % (7 : Int32))), .unset, .unset] [(.int ((p1 &&& (2147483647 : Int32)) % (7 : Int32))), (.int (16 : Int32))])) (fun t k => XS.iload X0.here hx rfl (hb hby at_29) rfl k) ?_
      refine step (s₁.setTop (mkF m 32 #[.val (.int p0), .val (.int p1), .val (.int p2), .val (.int p3), .val (.int p4), .val (.int z11_1), .unset, .unset, .val (.int ((p1 &&& (2147483647 : Int32)) % (7 : Int32))), .unset, .unset] [(.int ((16 : Int32) <<< (((p1 &&& (2147483647 : Int32)) % (7 : Int32)) &&& 31)))])) (fun t k => XS.ishl X0.here hx rfl (hb hby at_31) rfl k) ?_
      refine step (s₁.setTop (mkF m 34 #[.val (.int p0), .val (.int p1), .val (.int p2), .val (.int p3), .val (.int p4), .val (.int z11_1), .val (.int ((16 : Int32) <<< (((p1 &&& (2147483647 : Int32)) % (7 : Int32)) &&& 31))), .unset, .val (.int ((p1 &&& (2147483647 : Int32)) % (7 : Int32))), .unset, .unset] [])) (fun t k => XS.istore X0.here hx rfl (hb hby at_32) rfl (l' := #[.val (.int p0), .val (.int p1), .val (.int p2), .val (.int p3), .val (.int p4), .val (.int z11_1), .val (.int ((16 : Int32) <<< (((p1 &&& (2147483647 : Int32)) % (7 : Int32)) &&& 31))), .unset, .val (.int ((p1 &&& (2147483647 : Int32)) % (7 : Int32))), .unset, .unset]) rfl k) ?_
      refine step (s₁.setTop (mkF m 36 #[.val (.int p0), .val (.int p1), .val (.int p2), .val (.int p3), .val (.int p4), .val (.int z11_1), .val (.int ((16 : Int32) <<< (((p1 &&& (2147483647 : Int32)) % (7 : Int32)) &&& 31))), .unset, .val (.int ((p1 &&& (2147483647 : Int32)) % (7 : Int32))), .unset, .unset] [(.int (16 : Int32))])) (fun t k => XS.bipush X0.here hx rfl (hb hby at_34) k) ?_
      refine step (s₁.setTop (mkF m 38 #[.val (.int p0), .val (.int p1), .val (.int p2), .val (.int p3), .val (.int p4), .val (.int z11_1), .val (.int ((16 : Int32) <<< (((p1 &&& (2147483647 : Int32)) % (7 : Int32)) &&& 31))), .unset, .val (.int ((p1 &&& (2147483647 : Int32)) % (7 : Int32))), .unset, .unset] [(.int ((p1 &&& (2147483647 : Int32)) % (7 : Int32))), (.int (16 : Int32))])) (fun t k => XS.iload X0.here hx rfl (hb hby at_36) rfl k) ?_
      refine step (s₁.setTop (mkF m 39 #[.val (.int p0), .val (.int p1), .val (.int p2), .val (.int p3), .val (.int p4), .val (.int z11_1), .val (.int ((16 : Int32) <<< (((p1 &&& (2147483647 : Int32)) % (7 : Int32)) &&& 31))), .unset, .val (.int ((p1 &&& (2147483647 : Int32)) % (7 : Int32))), .unset, .unset] [(.int (1 : Int32)), (.int ((p1 &&& (2147483647 : Int32)) % (7 : Int32))), (.int (16 : Int32))])) (fun t k => XS.iconst X0.here hx rfl (hb hby at_38) k) ?_
      refine step (s₁.setTop (mkF m 40 #[.val (.int p0), .val (.int p1), .val (.int p2), .val (.int p3), .val (.int p4), .val (.int z11_1), .val (.int ((16 : Int32) <<< (((p1 &&& (2147483647 : Int32)) % (7 : Int32)) &&& 31))), .unset, .val (.int ((p1 &&& (2147483647 : Int32)) % (7 : Int32))), .unset, .unset] [(.int (((p1 &&& (2147483647 : Int32)) % (7 : Int32)) + (1 : Int32))), (.int (16 : Int32))])) (fun t k => XS.iadd X0.here hx rfl (hb hby at_39) rfl k) ?_
      refine step (s₁.setTop (mkF m 41 #[.val (.int p0), .val (.int p1), .val (.int p2), .val (.int p3), .val (.int p4), .val (.int z11_1), .val (.int ((16 : Int32) <<< (((p1 &&& (2147483647 : Int32)) % (7 : Int32)) &&& 31))), .unset, .val (.int ((p1 &&& (2147483647 : Int32)) % (7 : Int32))), .unset, .unset] [(.int ((16 : Int32) <<< ((((p1 &&& (2147483647 : Int32)) % (7 : Int32)) + (1 : Int32)) &&& 31)))])) (fun t k => XS.ishl X0.here hx rfl (hb hby at_40) rfl k) ?_
      refine step (s₁.setTop (mkF m 43 #[.val (.int p0), .val (.int p1), .val (.int p2), .val (.int p3), .val (.int p4), .val (.int z11_1), .val (.int ((16 : Int32) <<< (((p1 &&& (2147483647 : Int32)) % (7 : Int32)) &&& 31))), .val (.int ((16 : Int32) <<< ((((p1 &&& (2147483647 : Int32)) % (7 : Int32)) + (1 : Int32)) &&& 31))), .val (.int ((p1 &&& (2147483647 : Int32)) % (7 : Int32))), .unset, .unset] [])) (fun t k => XS.istore X0.here hx rfl (hb hby at_41) rfl (l' := #[.val (.int p0), .val (.int p1), .val (.int p2), .val (.int p3), .val (.int p4), .val (.int z11_1), .val (.int ((16 : Int32) <<< (((p1 &&& (2147483647 : Int32)) % (7 : Int32)) &&& 31))), .val (.int ((16 : Int32) <<< ((((p1 &&& (2147483647 : Int32)) % (7 : Int32)) + (1 : Int32)) &&& 31))), .val (.int ((p1 &&& (2147483647 : Int32)) % (7 : Int32))), .unset, .unset]) rfl k) ?_
      refine step (s₁.setTop (mkF m 75 #[.val (.int p0), .val (.int p1), .val (.int p2), .val (.int p3), .val (.int p4), .val (.int z11_1), .val (.int ((16 : Int32) <<< (((p1 &&& (2147483647 : Int32)) % (7 : Int32)) &&& 31))), .val (.int ((16 : Int32) <<< ((((p1 &&& (2147483647 : Int32)) % (7 : Int32)) + (1 : Int32)) &&& 31))), .val (.int ((p1 &&& (2147483647 : Int32)) % (7 : Int32))), .unset, .unset] [])) (fun t k => XS.goto X0.here hx rfl (pc0 := 43) (pc' := 75) rfl (hb hby at_43) (by decide) (by decide) k) ?_
      exact J75_7 _ _ _ (by simp only [if_neg hc15_8, if_true, if_false] <;> rfl) (by simp only [if_neg hc15_8, if_true, if_false] <;> rfl) (by simp only [if_neg hc15_8, if_true, if_false] <;> rfl)
  intro z75_4 z75_5 z75_6 hz75_4 hz75_5 hz75_6
  refine step (s₁.setTop (mkF m 76 #[.val (.int p0), .val (.int p1), .val (.int p2), .val (.int p3), .val (.int p4), .val (.int z11_1), .val (.int z75_4), .val (.int z75_5), .val (.int z75_6), .unset, .unset] [(.int (1 : Int32))])) (fun t k => XS.iconst X0.here hx rfl (hb hby at_75) k) ?_
  obtain ⟨T9, h9, k9, X9, e9, E9, A9, st9⟩ := newP X0 hx hZ (hw _ (List.mem_of_getElem? (i := 1) rfl)) e0 (g := (mkF m 76 #[.val (.int p0), .val (.int p1), .val (.int p2), .val (.int p3), .val (.int p4), .val (.int z11_1), .val (.int z75_4), .val (.int z75_5), .val (.int z75_6), .unset, .unset] [(.int (1 : Int32))])) rfl (hb hby at_76) rfl (by decide) (cap := 1) (by decide) (by decide) (by decide) (by decide)
  obtain ⟨b9, g9⟩ : ∃ z, z = h0.size := ⟨_, rfl⟩
  rw [← g9] at A9 st9
  have gn_b9 : n0 ≤ b9 := Nat.le_trans Z0 (Nat.le_of_eq g9.symm)
  have sz_b9 : h0.size ≤ b9 := Nat.le_of_eq g9.symm
  have K9 : Keep h0 h9 [] := (Keep.refl h0 []).ext E9
  have V9 : Arv Z h9 b9 k9 .char (1 : Int32) [(.int (0 : Int32))] (.int (0 : Int32)) := (Arv.new A9 (by decide)).pad (pad_rep [] (.int (0 : Int32)) 1)
  refine step (T9.setTop (mkF m 78 #[.val (.int p0), .val (.int p1), .val (.int p2), .val (.int p3), .val (.int p4), .val (.int z11_1), .val (.int z75_4), .val (.int z75_5), .val (.int z75_6), .unset, .unset] [(.ref b9)])) (fun t k => st9 t k) ?_
  refine step (T9.setTop (mkF m 80 #[.val (.int p0), .val (.int p1), .val (.int p2), .val (.int p3), .val (.int p4), .val (.int z11_1), .val (.int z75_4), .val (.int z75_5), .val (.ref b9), .unset, .unset] [])) (fun t k => XS.astore X9.here hx rfl (hb hby at_78) rfl rfl (l' := #[.val (.int p0), .val (.int p1), .val (.int p2), .val (.int p3), .val (.int p4), .val (.int z11_1), .val (.int z75_4), .val (.int z75_5), .val (.ref b9), .unset, .unset]) rfl k) ?_
  refine step (T9.setTop (mkF m 82 #[.val (.int p0), .val (.int p1), .val (.int p2), .val (.int p3), .val (.int p4), .val (.int z11_1), .val (.int z75_4), .val (.int z75_5), .val (.ref b9), .unset, .unset] [(.ref b9)])) (fun t k => XS.aload X9.here hx rfl (hb hby at_80) rfl rfl k) ?_
  refine step (T9.setTop (mkF m 83 #[.val (.int p0), .val (.int p1), .val (.int p2), .val (.int p3), .val (.int p4), .val (.int z11_1), .val (.int z75_4), .val (.int z75_5), .val (.ref b9), .unset, .unset] [(.int (0 : Int32)), (.ref b9)])) (fun t k => XS.iconst X9.here hx rfl (hb hby at_82) k) ?_
  refine step (T9.setTop (mkF m 85 #[.val (.int p0), .val (.int p1), .val (.int p2), .val (.int p3), .val (.int p4), .val (.int z11_1), .val (.int z75_4), .val (.int z75_5), .val (.ref b9), .unset, .unset] [(.int p4), (.int (0 : Int32)), (.ref b9)])) (fun t k => XS.iload X9.here hx rfl (hb hby at_83) rfl k) ?_
  refine step (T9.setTop (mkF m 88 #[.val (.int p0), .val (.int p1), .val (.int p2), .val (.int p3), .val (.int p4), .val (.int z11_1), .val (.int z75_4), .val (.int z75_5), .val (.ref b9), .unset, .unset] [(.int (255 : Int32)), (.int p4), (.int (0 : Int32)), (.ref b9)])) (fun t k => XS.sipush X9.here hx rfl (hb hby at_85) k) ?_
  refine step (T9.setTop (mkF m 89 #[.val (.int p0), .val (.int p1), .val (.int p2), .val (.int p3), .val (.int p4), .val (.int z11_1), .val (.int z75_4), .val (.int z75_5), .val (.ref b9), .unset, .unset] [(.int (p4 &&& (255 : Int32))), (.int (0 : Int32)), (.ref b9)])) (fun t k => XS.iand X9.here hx rfl (hb hby at_88) rfl k) ?_
  refine step (T9.setTop (mkF m 90 #[.val (.int p0), .val (.int p1), .val (.int p2), .val (.int p3), .val (.int p4), .val (.int z11_1), .val (.int z75_4), .val (.int z75_5), .val (.ref b9), .unset, .unset] [(.int ((p4 &&& (255 : Int32)).toUInt32.toUInt16.toUInt32.toInt32)), (.int (0 : Int32)), (.ref b9)])) (fun t k => XS.i2c X9.here hx rfl (hb hby at_89) rfl k) ?_
  generalize hch : ((p4 &&& (255 : Int32)).toUInt32.toUInt16.toUInt32.toInt32) = ch
  have le_ch := own_255n _ _ hch
  obtain ⟨cl10, Ar10, q10, S10, N10n, H10, G10⟩ := id V9
  have hin10 : ¬ ((0 : Int32) < 0 ∨ cl10.slots.size ≤ ((0 : Int32)).toNatClampNeg) := inb_of S10 ⟨by decide, by decide⟩
  obtain ⟨T10, h10, X10, e10, W10, st10⟩ := stC X9 hx hZ e9 Ar10 (j := (0 : Int32)) hin10 (g := (mkF m 90 #[.val (.int p0), .val (.int p1), .val (.int p2), .val (.int p3), .val (.int p4), .val (.int z11_1), .val (.int z75_4), .val (.int z75_5), .val (.ref b9), .unset, .unset] [(.int ch), (.int (0 : Int32)), (.ref b9)])) rfl rfl (hb hby at_90)
  have N10 := Fr.snoc X10 N0 gn_b9
  have K10 : Keep h0 h10 [] := K9.wr W10 (Or.inr sz_b9)
  have V10 : Arv Z h10 b9 k9 .char (1 : Int32) [(.int (nar .char ch))] (.int (0 : Int32)) := Arv.set Ar10 q10 S10 N10n H10 G10 (fits_nar_char ch) W10 0 rfl (Nat.le_of_ble_eq_true rfl)
  refine step (T10.setTop (mkF m 91 #[.val (.int p0), .val (.int p1), .val (.int p2), .val (.int p3), .val (.int p4), .val (.int z11_1), .val (.int z75_4), .val (.int z75_5), .val (.ref b9), .unset, .unset] [])) (fun t k => st10 t k) ?_
  obtain ⟨T11, h11, X11, e11, E11, A11, D11, -, st11⟩ := newO X10 hx hZ hown (hw _ (List.mem_of_getElem? (i := 2) rfl)) (hw _ (List.mem_of_getElem? (i := 3) rfl)) (hw _ (List.mem_of_getElem? (i := 4) rfl)) e10 (g := (mkF m 91 #[.val (.int p0), .val (.int p1), .val (.int p2), .val (.int p3), .val (.int p4), .val (.int z11_1), .val (.int z75_4), .val (.int z75_5), .val (.ref b9), .unset, .unset] [])) rfl (hb hby at_91) (by decide) (by decide)
  obtain ⟨b11, g11⟩ : ∃ z, z = h10.size := ⟨_, rfl⟩
  rw [← g11] at A11 D11 st11
  have ne_b9_b11 : b9 ≠ b11 := Nat.ne_of_lt (Nat.lt_of_lt_of_le V10.lt (Nat.le_of_eq g11.symm))
  have gn_b11 : n0 ≤ b11 := Nat.le_trans (Nat.le_trans Z0 K10.1) (Nat.le_of_eq g11.symm)
  have sz_b11 : h0.size ≤ b11 := Nat.le_trans K10.1 (Nat.le_of_eq g11.symm)
  have K11 : Keep h0 h11 [] := K10.ext E11
  have F_coder_b11 : Fld Z h11 b11 "java/lang/String" "coder" "B" (.int (0 : Int32)) := D11 (Or.inr (hw _ (List.mem_of_getElem? (i := 28) rfl))) (ty := .byte) (by decide)
  have F_value_b11 : Fld Z h11 b11 "java/lang/String" "value" "[B" .null := D11 (Or.inr (hw _ (List.mem_of_getElem? (i := 30) rfl))) (ty := (.array .byte)) (by decide)
  refine step (T11.setTop (mkF m 94 #[.val (.int p0), .val (.int p1), .val (.int p2), .val (.int p3), .val (.int p4), .val (.int z11_1), .val (.int z75_4), .val (.int z75_5), .val (.ref b9), .unset, .unset] [(.ref b11)])) (fun t k => st11 t k) ?_
  refine step (T11.setTop (mkF m 95 #[.val (.int p0), .val (.int p1), .val (.int p2), .val (.int p3), .val (.int p4), .val (.int z11_1), .val (.int z75_4), .val (.int z75_5), .val (.ref b9), .unset, .unset] [(.ref b11), (.ref b11)])) (fun t k => XS.dup X11.here hx rfl (hb hby at_94) rfl rfl k) ?_
  refine step (T11.setTop (mkF m 97 #[.val (.int p0), .val (.int p1), .val (.int p2), .val (.int p3), .val (.int p4), .val (.int z11_1), .val (.int z75_4), .val (.int z75_5), .val (.ref b9), .unset, .unset] [(.ref b9), (.ref b11), (.ref b11)])) (fun t k => XS.aload X11.here hx rfl (hb hby at_95) rfl rfl k) ?_
  have f12 := (((S_cs.ext E9).wr W10).ext E11)
  have f13 := (V10.ext E11)
  obtain ⟨_, _, ⟨T14, L14, k14, n14⟩, -, X14, ⟨Lc14, hQ14, l14, y14, z14⟩, st14⟩ := X11.specialBack hx (y := (⟨"java/lang/String", "<init>", "([C)V"⟩ : MethodName)) rfl hown (mvT hZ (hw _ (List.mem_of_getElem? (i := 5) rfl))) (mvT hZ (hw _ (List.mem_of_getElem? (i := 6) rfl))) (mvT hZ (hw _ (List.mem_of_getElem? (i := 7) rfl))) (by decide) (backOf (W := 1) (rm1_1 l Z a0 hw [] b11 b9 cs k9 (nar .char ch) h11 n0 (Nat.le_trans Z0 K11.1) f12 A11 F_coder_b11 F_value_b11 f13 gn_b11 (Ne.symm ne_b9_b11) gn_b9 le_ch c_cs) hZ (hw _ (List.mem_of_getElem? (i := 7) rfl)) (hw _ (List.mem_of_getElem? (i := 4) rfl)) (by decide) (by decide)) (g := (mkF m 97 #[.val (.int p0), .val (.int p1), .val (.int p2), .val (.int p3), .val (.int p4), .val (.int z11_1), .val (.int z75_4), .val (.int z75_5), .val (.ref b9), .unset, .unset] [(.ref b9), (.ref b11), (.ref b11)])) rfl (by rw [hml]; rfl) (Steps.refl _) (a := b11) (argsL := [(.ref b9)]) (rest := [(.ref b11)]) (lenOf pd_0 rfl) rfl (by show 2 * 0 + _ ≤ _; exact Nat.le_of_eq rfl) (hb hby at_97) (fun _ _ => ⟨rfl, e11, (by decide : 2 + 1 ≤ _), (by decide : 5 + 1 ≤ _)⟩)
  dsimp only [Pt.U, Pt.locs, Pt.cells, Pt.slots] at X14 l14 y14 z14 st14 hQ14
  subst l14 y14 z14
  obtain ⟨h14, e14⟩ : ∃ z, T14.heap = z := ⟨_, rfl⟩
  rw [e14] at hQ14
  obtain ⟨b1_4_2_14, k1_4_2_14, rfl, N14q, K14q, sz_b1_4_2_14, q0_14, q1_14, q2_14⟩ := hQ14
  have N14 := Fr.app N10 N14q
  have lt14_b9 := f13.lt
  have lt14_b11 := A11.lt
  have ne_b9_b1_4_2_14 : b9 ≠ b1_4_2_14 := Nat.ne_of_lt (Nat.lt_of_lt_of_le lt14_b9 sz_b1_4_2_14)
  have ne_b11_b1_4_2_14 : b11 ≠ b1_4_2_14 := Nat.ne_of_lt (Nat.lt_of_lt_of_le lt14_b11 sz_b1_4_2_14)
  have gn_b1_4_2_14 : n0 ≤ b1_4_2_14 := Nat.le_trans (Nat.le_trans Z0 K11.1) sz_b1_4_2_14
  have sz_b1_4_2_14' := Nat.le_trans K11.1 sz_b1_4_2_14
  replace sz_b1_4_2_14 := sz_b1_4_2_14'
  have K14 : Keep h0 h14 [] := K11.trans K14q (allS (Or.inr sz_b11) all0)
  have f15 := own_staK f12 K14q (allS (own_exaP A11) all0)
  refine step (T14.setTop (mkF m 100 #[.val (.int p0), .val (.int p1), .val (.int p2), .val (.int p3), .val (.int p4), .val (.int z11_1), .val (.int z75_4), .val (.int z75_5), .val (.ref b9), .unset, .unset] [(.ref b11)])) (fun t k => st14.trans k) ?_
  refine step (T14.setTop (mkF m 102 #[.val (.int p0), .val (.int p1), .val (.int p2), .val (.int p3), .val (.int p4), .val (.int z11_1), .val (.int z75_4), .val (.int z75_5), .val (.ref b9), .val (.ref b11), .unset] [])) (fun t k => XS.astore X14.here hx rfl (hb hby at_100) rfl rfl (l' := #[.val (.int p0), .val (.int p1), .val (.int p2), .val (.int p3), .val (.int p4), .val (.int z11_1), .val (.int z75_4), .val (.int z75_5), .val (.ref b9), .val (.ref b11), .unset]) rfl k) ?_
  refine step (T14.setTop (mkF m 104 #[.val (.int p0), .val (.int p1), .val (.int p2), .val (.int p3), .val (.int p4), .val (.int z11_1), .val (.int z75_4), .val (.int z75_5), .val (.ref b9), .val (.ref b11), .unset] [(.int z75_4)])) (fun t k => XS.iload X14.here hx rfl (hb hby at_102) rfl k) ?_
  refine step (T14.setTop (mkF m 105 #[.val (.int p0), .val (.int p1), .val (.int p2), .val (.int p3), .val (.int p4), .val (.int z11_1), .val (.int z75_4), .val (.int z75_5), .val (.ref b9), .val (.ref b11), .unset] [(.int p3), (.int z75_4)])) (fun t k => XS.iloadN X14.here hx rfl (hb hby at_104) rfl k) ?_
  refine step (T14.setTop (mkF m 107 #[.val (.int p0), .val (.int p1), .val (.int p2), .val (.int p3), .val (.int p4), .val (.int z11_1), .val (.int z75_4), .val (.int z75_5), .val (.ref b9), .val (.ref b11), .unset] [(.ref b11), (.int p3), (.int z75_4)])) (fun t k => XS.aload X14.here hx rfl (hb hby at_105) rfl rfl k) ?_
  have hcap := (own_plain5 p0 p1 p2 p3 p4 cs z11_1 z75_4 hz11_1 hz75_4)
  have f16 := (A11.keep K14q)
  obtain ⟨_, _, ⟨T17, L17, k17, n17⟩, -, X17, ⟨Lc17, hQ17, l17, y17, z17⟩, st17⟩ := Jvm.LawKit.callS X14 hx (y := (⟨"com/example/spindle/spindle/Chunks", "grownCapacity", "(IILjava/lang/String;)I"⟩ : MethodName)) hown (mvT hZ (hw _ (List.mem_of_getElem? (i := 31) rfl))) (mvT hZ (hw _ (List.mem_of_getElem? (i := 32) rfl))) (mvT hZ (hw _ (List.mem_of_getElem? (i := 33) rfl))) (mvT hZ (hw _ (List.mem_of_getElem? (i := 34) rfl))) (by decide) (backOf (W := 0) (rm7_7 l Z a0 hw [] z75_4 p3 b11 h14 n0 (Nat.le_trans Z0 K14.1) f16 gn_b11 hcap) hZ (hw _ (List.mem_of_getElem? (i := 34) rfl)) (hw _ (List.mem_of_getElem? (i := 33) rfl)) (by decide) (by decide)) (g := (mkF m 107 #[.val (.int p0), .val (.int p1), .val (.int p2), .val (.int p3), .val (.int p4), .val (.int z11_1), .val (.int z75_4), .val (.int z75_5), .val (.ref b9), .val (.ref b11), .unset] [(.ref b11), (.int p3), (.int z75_4)])) rfl (by rw [hml]; rfl) (argsL := [(.int z75_4), (.int p3), (.ref b11)]) (rest := []) (lenOf pd_1 rfl) rfl (by show 2 * 0 + _ ≤ _; exact Nat.le_of_eq rfl) (hb hby at_107) (fun _ _ => ⟨rfl, e14, (by decide : 3 + 0 ≤ _), (by decide : 6 + 0 ≤ _)⟩)
  dsimp only [Pt.U, Pt.locs, Pt.cells, Pt.slots] at X17 l17 y17 z17 st17 hQ17
  subst l17 y17 z17
  obtain ⟨z42_2_17, rfl, N17q, e17q, hz42_2_17⟩ := hQ17
  have N17 := Fr.app N14 N17q
  refine step (T17.setTop (mkF m 110 #[.val (.int p0), .val (.int p1), .val (.int p2), .val (.int p3), .val (.int p4), .val (.int z11_1), .val (.int z75_4), .val (.int z75_5), .val (.ref b9), .val (.ref b11), .unset] [(.int z42_2_17)])) (fun t k => st17 t k) ?_
  refine step (T17.setTop (mkF m 112 #[.val (.int p0), .val (.int p1), .val (.int p2), .val (.int p3), .val (.int p4), .val (.int z11_1), .val (.int z75_4), .val (.int z75_5), .val (.ref b9), .val (.ref b11), .val (.int z42_2_17)] [])) (fun t k => XS.istore X17.here hx rfl (hb hby at_110) rfl (l' := #[.val (.int p0), .val (.int p1), .val (.int p2), .val (.int p3), .val (.int p4), .val (.int z11_1), .val (.int z75_4), .val (.int z75_5), .val (.ref b9), .val (.ref b11), .val (.int z42_2_17)]) rfl k) ?_
  refine step (T17.setTop (mkF m 114 #[.val (.int p0), .val (.int p1), .val (.int p2), .val (.int p3), .val (.int p4), .val (.int z11_1), .val (.int z75_4), .val (.int z75_5), .val (.ref b9), .val (.ref b11), .val (.int z42_2_17)] [(.int z42_2_17)])) (fun t k => XS.iload X17.here hx rfl (hb hby at_112) rfl k) ?_
  refine step (T17.setTop (mkF m 116 #[.val (.int p0), .val (.int p1), .val (.int p2), .val (.int p3), .val (.int p4), .val (.int z11_1), .val (.int z75_4), .val (.int z75_5), .val (.ref b9), .val (.ref b11), .val (.int z42_2_17)] [(.int z75_5), (.int z42_2_17)])) (fun t k => XS.iload X17.here hx rfl (hb hby at_114) rfl k) ?_
  suffices J124_19 : ∀ (z124_18 : Int32), z124_18 = (if z42_2_17 = z75_5 then (1 : Int32) else (0 : Int32)) → G (T17.setTop (mkF m 124 #[.val (.int p0), .val (.int p1), .val (.int p2), .val (.int p3), .val (.int p4), .val (.int z11_1), .val (.int z75_4), .val (.int z75_5), .val (.ref b9), .val (.ref b11), .val (.int z42_2_17)] [(.int z124_18)])) by
    by_cases hc116_20 : z42_2_17 = z75_5
    · -- 116 True
      refine step (T17.setTop (mkF m 119 #[.val (.int p0), .val (.int p1), .val (.int p2), .val (.int p3), .val (.int p4), .val (.int z11_1), .val (.int z75_4), .val (.int z75_5), .val (.ref b9), .val (.ref b11), .val (.int z42_2_17)] [])) (fun t k => XS.icmpNo X17.here hx rfl (hb hby at_116) rfl (teq hc116_20).2 k) ?_
      refine step (T17.setTop (mkF m 120 #[.val (.int p0), .val (.int p1), .val (.int p2), .val (.int p3), .val (.int p4), .val (.int z11_1), .val (.int z75_4), .val (.int z75_5), .val (.ref b9), .val (.ref b11), .val (.int z42_2_17)] [(.int (1 : Int32))])) (fun t k => XS.iconst X17.here hx rfl (hb hby at_119) k) ?_
      refine step (T17.setTop (mkF m 124 #[.val (.int p0), .val (.int p1), .val (.int p2), .val (.int p3), .val (.int p4), .val (.int z11_1), .val (.int z75_4), .val (.int z75_5), .val (.ref b9), .val (.ref b11), .val (.int z42_2_17)] [(.int (1 : Int32))])) (fun t k => XS.goto X17.here hx rfl (pc0 := 120) (pc' := 124) rfl (hb hby at_120) (by decide) (by decide) k) ?_
      exact J124_19 _ (by simp only [if_pos hc116_20, if_true, if_false] <;> rfl)
    · -- 116 False
      refine step (T17.setTop (mkF m 123 #[.val (.int p0), .val (.int p1), .val (.int p2), .val (.int p3), .val (.int p4), .val (.int z11_1), .val (.int z75_4), .val (.int z75_5), .val (.ref b9), .val (.ref b11), .val (.int z42_2_17)] [])) (fun t k => XS.icmpYes X17.here hx rfl (pc0 := 116) (pc' := 123) rfl (hb hby at_116) rfl (feq hc116_20).2 (by decide) (by decide) k) ?_
      refine step (T17.setTop (mkF m 124 #[.val (.int p0), .val (.int p1), .val (.int p2), .val (.int p3), .val (.int p4), .val (.int z11_1), .val (.int z75_4), .val (.int z75_5), .val (.ref b9), .val (.ref b11), .val (.int z42_2_17)] [(.int (0 : Int32))])) (fun t k => XS.iconst X17.here hx rfl (hb hby at_123) k) ?_
      exact J124_19 _ (by simp only [if_neg hc116_20, if_true, if_false] <;> rfl)
  intro z124_18 hz124_18
  refine fin (v := some (.int (nar .boolean z124_18))) X17 (fun h => by cases h) ?_ (by decide) (by decide) (fun fs hr => retN X17 hx (t := .boolean) hret (by simp) (hb hby at_124) hr)
  show Q0 Z p0 p1 p2 p3 p4 cs h0 n0 (some (.int (nar .boolean z124_18))) T17.heap _
  rw [e17q]
  exact ⟨own_fin (own_plain7 p0 p1 p2 p3 p4 cs z11_1 z75_4 z75_5 z42_2_17 z124_18 hz11_1 hz75_4 hz75_5 hz42_2_17 hz124_18), N17⟩
set_option maxRecDepth 65536 in
set_option maxHeartbeats 40000000 in
theorem comes_1 {Post : Tables → Env → Array Value → State → Outcome → State → Prop} (hpost : ∀ tb e args s v u, (limb_1_1.after args s (.returned v) u = true ∧ limb_1_2.after args s (.returned v) u = true ∧ True) → FrameEnd s (.returned v) u (Jvm.fieldLocs frame_1_writes args s ++ Jvm.arrayLocs frame_1_arrays args s ++ Jvm.staticLocs frame_1_statics s) 16 128 → Post tb e args s (.returned v) u) :
    ArmFor flags0 classFile x code maxLocals ret World_1 tables_1 room_1 Calls_1 rest_1 Pre_1 Post := by
  intro l hfl _ _ p e ha hc hk s m args below hf hA hF happ hP
  obtain ⟨hcalls, hrest, hpre⟩ := hP
  obtain ⟨-, -, -, hnamed, -, -, -, hat⟩ := (Spec.applies_iff hf).mp happ
  obtain ⟨hg, hn⟩ := and_e (Cond.before_iff.mp (show (Jvm.Cond.and given_1 narrow_1).before args s = true from hpre))
  obtain ⟨hcount, hr0⟩ := and_e hg
  obtain ⟨ha0, hr1⟩ := and_e hr0
  obtain ⟨ha1, hr2⟩ := and_e hr1
  obtain ⟨ha2, hr3⟩ := and_e hr2
  obtain ⟨ha3, hr4⟩ := and_e hr3
  have ha4 := hr4
  obtain ⟨w0, w1, w2, w3, w4, rfl⟩ : ∃ w0 w1 w2 w3 w4 : Value, args = #[w0, w1, w2, w3, w4] := by
    have hs : args.size = 5 := by simpa [Cond.value, given_1] using hcount
    obtain ⟨L⟩ := args
    match L, hs with
    | [w0, w1, w2, w3, w4], _ => exact ⟨w0, w1, w2, w3, w4, rfl⟩
  have hw := fun d (hd : d ∈ tables_1) => atoms_spec (ws := Jvm.Cond.code x code maxLocals ret :: tables_1) hat d (List.mem_cons_of_mem _ hd)
  have hfit : Fit s := fun {y c} hc i hi => by
    obtain ⟨ha, rfl⟩ := Array.getElem?_eq_some_iff.mp hc
    have q := List.all_eq_true.mp ((Array.all_eq_true_iff_forall_mem.mp hF) _ (Array.getElem_mem ha)) i (List.mem_range.mpr hi)
    simpa [Array.getElem?_eq_getElem hi] using q
  obtain ⟨hsets, hown0⟩ := atoms_of _ (rest_1_c_eq ▸ (show rest_1_c.before _ s = true from hrest))
  have hr00 := Cond.before_iff.mp hown0
  obtain ⟨i0, ei0⟩ := is_v ha0
  obtain rfl : w0 = (.int i0) := Option.some.inj ei0
  obtain ⟨i1, ei1⟩ := is_v ha1
  obtain rfl : w1 = (.int i1) := Option.some.inj ei1
  obtain ⟨i2, ei2⟩ := is_v ha2
  obtain rfl : w2 = (.int i2) := Option.some.inj ei2
  obtain ⟨i3, ei3⟩ := is_v ha3
  obtain rfl : w3 = (.int i3) := Option.some.inj ei3
  obtain ⟨i4, ei4⟩ := is_v ha4
  obtain rfl : w4 = (.int i4) := Option.some.inj ei4
  have n3 := not_v (Cond.before_iff.mp (hsets _ (List.mem_of_getElem? (i := 2) rfl)))
  obtain ⟨cs, e6⟩ := is_v (Cond.before_iff.mp (hsets _ (List.mem_of_getElem? (i := 1) rfl)))
  have S_cs : Sta s s.heap "java/lang/String" "COMPACT_STRINGS" "Z" (.int cs) := Sta.start e6 (Or.inl (hsets _ (List.mem_of_getElem? (i := 0) rfl)))
  have c_cs : ¬ (cs = (0 : Int32)) := gotF (Cond.eq_ints e6 (Term.int_eval (0))) n3
  obtain ⟨n, o, h1, h2, h3, _, L, rfl, ⟨rfl, N⟩, hq⟩ := rm0 l s _ hw tables_1 i0 i1 i2 i3 i4 cs s.heap s.heap.size (Nat.le_refl _) S_cs c_cs p e ha hc hk s m _ below hf ((Spec.applies_iff_loose hf).mp happ).1 ⟨rfl, State.Warmed39.refl s, rfl⟩ trivial
  refine ⟨n, _, h1, h2, h3, hpost _ _ _ _ _ _ ⟨Cond.after_iff.mpr rfl, Cond.after_iff.mpr (eq_i res_at (Term.int_eval (1)) rfl), trivial⟩ ⟨hq.1, hq.2.1, (hq.2.2.sift fun y hy => Or.inr (N y hy)).mono (by decide) (by decide)⟩⟩
theorem main_1_1 : Claimed_1_1 := comes_1 fun _ _ _ _ _ _ h hF => ⟨h.1, hF⟩
theorem main_1_2 : Claimed_1_2 := comes_1 fun _ _ _ _ _ _ h hF => ⟨h.2.1, hF⟩
end Jvm.Pilot.@@N@@
namespace Jvm.Pilot.@@N@@
open Jvm Jvm.ClassFile Sem Op Lib Jvm.Free Jvm.Stand Jvm.Pilot.@@N@@.Jvm.D
/-! MADE BY PROGRAM (witnessworld.py) out of the Statement's table words and the real class files: 20 classes; the members and pool entries that the words name. The judged class is class 1, her method 1. -/
namespace start1
open Jvm.ClassFile
def u (s : String) : CpInfo := .utf8 (stringToUtf16 s)
/-- a pool by its gaps: so many unusable entries, then the entry; so many at the end -/
def gap : Nat → List CpInfo → List CpInfo
  | 0, r => r
  | n + 1, r => .unusable :: gap n r
def poolList (es : List (Nat × CpInfo)) (last : Nat) : List CpInfo := es.foldr (fun e r => gap e.1 (e.2 :: r)) (gap last [])
def pool (es : List (Nat × CpInfo)) (last : Nat) : Array CpInfo := ⟨poolList es last⟩
def fileOf (pool : Array CpInfo) (this : Nat) (attrs : Array Attribute := #[]) (ms : Array MethodInfo := #[]) (fl : Nat := 33) (sup : Nat := 0) (ifs : Array Nat := #[]) (fds : Array FieldInfo := #[]) : ClassFile where
  minorVersion := 0
  majorVersion := 65
  constantPool := pool
  accessFlags := fl
  thisClass := this
  superClass := sup
  interfaces := ifs
  fields := fds
  methods := ms
  attributes := attrs
def plain (name : String) (sup : Option ClassId) : Class where
  name := name
  kind := .ordinary
  loader := none
  accessFlags := 33
  super := sup
  interfaces := #[]
  cf := none
  fields := #[]
  methods := #[]
  instanceTypes := #[]
  staticTypes := #[]
  resolved := #[]
  callSites := []
  init := .initialized
  statics := none
  mirror := none

def pool0 : Array CpInfo := pool [(5, u "<init>"), (0, u "()V"), (1, .class_ 10), (1, u "java/lang/Object")] 113

def k0c0 : Code := { maxStack := 0, maxLocals := 1, code := object_method_1_code, exceptionTable := #[], attributes := #[] }
def k0m0 : Method := { name := "<init>", desc := "()V", sig := { parameters := [], returnType := none }, accessFlags := 1, code := some k0c0 }
/-- java/lang/Object -/
def k0 : Class := { plain "java/lang/Object" none with
  accessFlags := 33
  interfaces := #[]
  cf := some (fileOf pool0 8 #[] #[{ accessFlags := 1, nameIndex := 5, descriptorIndex := 6, attributes := #[] }] 33 0 #[] #[])
  fields := #[]
  methods := #[k0m0]
  instanceTypes := #[]
  staticTypes := #[]
  resolved := Array.replicate 124 none
  statics := none }

def pool1 : Array CpInfo := pool [(2, .class_ 4), (1, u "java/lang/Object"), (0, u "<init>"), (0, u "()V"), (0, .integer 2147483647), (0, .integer 2097150), (0, .class_ 10), (0, u "java/lang/String"), (0, .methodref 9 12), (0, .nameAndType 5 13), (0, u "([C)V"), (0, .methodref 15 16), (0, .class_ 17), (0, .nameAndType 18 19), (0, u "com/example/spindle/spindle/Chunks"), (0, u "grownCapacity"), (0, u "(IILjava/lang/String;)I"), (0, .class_ 21), (0, u "com/example/spindle/spindle/ChunksGrownCapacityPinLaw"), (2, u "law"), (0, u "(IIIII)Z")] 5

def k1m0 : Method := { name := "<init>", desc := "()V", sig := { parameters := [], returnType := none }, accessFlags := 1, code := none }
def k1c1 : Code := { maxStack := 4, maxLocals := 11, code := code, exceptionTable := #[], attributes := #[] }
def k1m1 : Method := { name := "law", desc := "(IIIII)Z", sig := { parameters := [.int, .int, .int, .int, .int], returnType := some .boolean }, accessFlags := 9, code := some k1c1 }
/-- com/example/spindle/spindle/ChunksGrownCapacityPinLaw -/
def k1 : Class := { plain "com/example/spindle/spindle/ChunksGrownCapacityPinLaw" (some 0) with
  accessFlags := 49
  interfaces := #[]
  cf := some (fileOf pool1 20 #[] #[{ accessFlags := 1, nameIndex := 5, descriptorIndex := 6, attributes := #[] }, { accessFlags := 9, nameIndex := 24, descriptorIndex := 25, attributes := #[] }] 49 2 #[] #[])
  fields := #[]
  methods := #[k1m0, k1m1]
  instanceTypes := #[]
  staticTypes := #[]
  resolved := Array.replicate 31 none
  statics := none }

def pool2 : Array CpInfo := pool [(1, .class_ 2), (0, u "java/io/Serializable"), (0, .class_ 4), (0, u "java/lang/Object")] 2

/-- java/io/Serializable -/
def k2 : Class := { plain "java/io/Serializable" (some 0) with
  accessFlags := 1537
  interfaces := #[]
  cf := some (fileOf pool2 1 #[] #[] 1537 3 #[] #[])
  fields := #[]
  methods := #[]
  instanceTypes := #[]
  staticTypes := #[]
  resolved := Array.replicate 7 none
  statics := none }

def pool3 : Array CpInfo := pool [(1, .class_ 2), (0, u "java/lang/Comparable"), (0, .class_ 4), (0, u "java/lang/Object")] 7

/-- java/lang/Comparable -/
def k3 : Class := { plain "java/lang/Comparable" (some 0) with
  accessFlags := 1537
  interfaces := #[]
  cf := some (fileOf pool3 1 #[] #[] 1537 3 #[] #[])
  fields := #[]
  methods := #[]
  instanceTypes := #[]
  staticTypes := #[]
  resolved := Array.replicate 12 none
  statics := none }

def pool4 : Array CpInfo := pool [(2, .class_ 4), (1, u "java/lang/CharSequence"), (42, .class_ 48), (0, u "java/lang/CharSequence$1CodePointIterator"), (10, .class_ 60), (0, u "java/lang/CharSequence$1CharIterator"), (5, .class_ 67), (0, u "java/lang/Object")] 63

/-- java/lang/CharSequence -/
def k4 : Class := { plain "java/lang/CharSequence" (some 0) with
  accessFlags := 1537
  interfaces := #[]
  cf := some (fileOf pool4 2 #[.nestMembers #[47, 59]] #[] 1537 66 #[] #[])
  fields := #[]
  methods := #[]
  instanceTypes := #[]
  staticTypes := #[]
  resolved := Array.replicate 131 none
  statics := none }

def pool5 : Array CpInfo := pool [(1, .class_ 2), (0, u "java/lang/constant/Constable"), (0, .class_ 4), (0, u "java/lang/Object")] 6

/-- java/lang/constant/Constable -/
def k5 : Class := { plain "java/lang/constant/Constable" (some 0) with
  accessFlags := 1537
  interfaces := #[]
  cf := some (fileOf pool5 1 #[] #[] 1537 3 #[] #[])
  fields := #[]
  methods := #[]
  instanceTypes := #[]
  staticTypes := #[]
  resolved := Array.replicate 11 none
  statics := none }

def pool6 : Array CpInfo := pool [(1, .class_ 2), (0, u "java/lang/constant/ConstantDesc"), (0, .class_ 4), (0, u "java/lang/Object")] 32

/-- java/lang/constant/ConstantDesc -/
def k6 : Class := { plain "java/lang/constant/ConstantDesc" (some 0) with
  accessFlags := 1537
  interfaces := #[]
  cf := some (fileOf pool6 1 #[] #[] 1537 3 #[] #[])
  fields := #[]
  methods := #[]
  instanceTypes := #[]
  staticTypes := #[]
  resolved := Array.replicate 37 none
  statics := none }

def pool7 : Array CpInfo := pool [(1, .methodref 2 3), (0, .class_ 4), (0, .nameAndType 5 6), (0, u "java/lang/Object"), (0, u "<init>"), (0, u "()V"), (2, .fieldref 10 11), (0, .class_ 12), (0, .nameAndType 13 14), (0, u "java/lang/String"), (0, u "value"), (0, u "[B"), (0, .fieldref 10 16), (0, .nameAndType 17 18), (0, u "coder"), (0, u "B"), (2, u "hash"), (0, u "I"), (2, u "hashIsZero"), (0, u "Z"), (0, .methodref 10 28), (0, .nameAndType 5 29), (0, u "([CIILjava/lang/Void;)V"), (8, .fieldref 10 39), (0, .nameAndType 40 26), (0, u "COMPACT_STRINGS"), (1, .class_ 44), (1, u "java/lang/StringUTF16"), (0, u "compress"), (1, .methodref 42 48), (0, .nameAndType 49 50), (0, u "coderFromArrayLen"), (0, u "([BI)B"), (126, .methodref 42 178), (0, .nameAndType 45 179), (0, u "([CII)[B"), (395, .class_ 576), (0, u "java/lang/CharSequence"), (22, u "CASE_INSENSITIVE_ORDER"), (0, u "Ljava/util/Comparator;"), (409, u "([C)V"), (90, u "serialPersistentFields"), (0, u "[Ljava/io/ObjectStreamField;"), (0, .class_ 1104), (0, u "java/lang/String$CaseInsensitiveComparator"), (1, .class_ 1107), (0, u "java/io/Serializable"), (0, .class_ 1109), (0, u "java/lang/Comparable"), (0, .class_ 1111), (0, u "java/lang/constant/Constable"), (0, .class_ 1113), (0, u "java/lang/constant/ConstantDesc"), (2, u "serialVersionUID"), (0, u "J"), (3, u "REPL"), (0, u "C"), (2, u "LATIN1"), (1, u "UTF16")] 323

def k7m0 : Method := { name := "<init>", desc := "()V", sig := { parameters := [], returnType := none }, accessFlags := 1, code := none }
def k7c1 : Code := { maxStack := 5, maxLocals := 2, code := jdk_42_method_3_code, exceptionTable := #[], attributes := #[] }
def k7m1 : Method := { name := "<init>", desc := "([C)V", sig := { parameters := [(.array .char)], returnType := none }, accessFlags := 1, code := some k7c1 }
def k7c2 : Code := { maxStack := 4, maxLocals := 6, code := jdk_42_method_149_code, exceptionTable := #[], attributes := #[] }
def k7m2 : Method := { name := "<init>", desc := "([CIILjava/lang/Void;)V", sig := { parameters := [(.array .char), .int, .int, (.object "java/lang/Void")], returnType := none }, accessFlags := 2, code := some k7c2 }
/-- java/lang/String -/
def k7 : Class := { plain "java/lang/String" (some 0) with
  accessFlags := 49
  interfaces := #[2, 3, 4, 5, 6]
  cf := some (fileOf pool7 10 #[.nestMembers #[1103]] #[{ accessFlags := 1, nameIndex := 5, descriptorIndex := 6, attributes := #[] }, { accessFlags := 1, nameIndex := 5, descriptorIndex := 1010, attributes := #[] }, { accessFlags := 2, nameIndex := 5, descriptorIndex := 29, attributes := #[] }] 49 2 #[1106, 1108, 575, 1110, 1112] #[{ accessFlags := 18, nameIndex := 13, descriptorIndex := 14, attributes := #[] }, { accessFlags := 18, nameIndex := 17, descriptorIndex := 18, attributes := #[] }, { accessFlags := 2, nameIndex := 21, descriptorIndex := 22, attributes := #[] }, { accessFlags := 2, nameIndex := 25, descriptorIndex := 26, attributes := #[] }, { accessFlags := 26, nameIndex := 1116, descriptorIndex := 1117, attributes := #[] }, { accessFlags := 24, nameIndex := 40, descriptorIndex := 26, attributes := #[] }, { accessFlags := 26, nameIndex := 1101, descriptorIndex := 1102, attributes := #[] }, { accessFlags := 26, nameIndex := 1121, descriptorIndex := 1122, attributes := #[] }, { accessFlags := 25, nameIndex := 599, descriptorIndex := 600, attributes := #[] }, { accessFlags := 24, nameIndex := 1125, descriptorIndex := 18, attributes := #[] }, { accessFlags := 24, nameIndex := 1127, descriptorIndex := 18, attributes := #[] }])
  fields := #[{ name := "value", type := (.array .byte), accessFlags := 18, slot := 0, constantValue := 0 }, { name := "coder", type := .byte, accessFlags := 18, slot := 1, constantValue := 0 }, { name := "hash", type := .int, accessFlags := 2, slot := 2, constantValue := 0 }, { name := "hashIsZero", type := .boolean, accessFlags := 2, slot := 3, constantValue := 0 }, { name := "serialVersionUID", type := .long, accessFlags := 26, slot := 0, constantValue := 0 }, { name := "COMPACT_STRINGS", type := .boolean, accessFlags := 24, slot := 1, constantValue := 0 }, { name := "serialPersistentFields", type := (.array (.object "java/io/ObjectStreamField")), accessFlags := 26, slot := 2, constantValue := 0 }, { name := "REPL", type := .char, accessFlags := 26, slot := 3, constantValue := 0 }, { name := "CASE_INSENSITIVE_ORDER", type := (.object "java/util/Comparator"), accessFlags := 25, slot := 4, constantValue := 0 }, { name := "LATIN1", type := .byte, accessFlags := 24, slot := 5, constantValue := 0 }, { name := "UTF16", type := .byte, accessFlags := 24, slot := 6, constantValue := 0 }]
  methods := #[k7m0, k7m1, k7m2]
  instanceTypes := #[(.array .byte), .byte, .int, .boolean]
  staticTypes := #[.long, .boolean, (.array (.object "java/io/ObjectStreamField")), .char, (.object "java/util/Comparator"), .byte, .byte]
  resolved := Array.replicate 1451 none
  statics := some 0 }

def pool8 : Array CpInfo := pool [(6, .class_ 8), (1, u "java/lang/Object"), (0, u "<init>"), (0, u "()V"), (1, .class_ 14), (1, u "java/lang/StringUTF16"), (31, u "$assertionsDisabled"), (0, u "Z"), (13, u "HI_BYTE_SHIFT"), (0, u "I"), (2, u "LO_BYTE_SHIFT"), (49, .methodref 12 116), (0, .nameAndType 117 118), (0, u "compress"), (0, u "([CI[BII)I"), (3, u "([CII)[B"), (138, u "coderFromArrayLen"), (0, u "([BI)B"), (106, .class_ 371), (1, u "java/lang/StringUTF16$LinesSpliterator"), (58, u "MAX_LENGTH"), (196, .class_ 628), (0, u "java/lang/StringUTF16$CodePointsSpliterator"), (0, .class_ 630), (0, u "java/lang/StringUTF16$CharsSpliterator")] 4

def k8m0 : Method := { name := "<init>", desc := "()V", sig := { parameters := [], returnType := none }, accessFlags := 0, code := none }
def k8c1 : Code := { maxStack := 2, maxLocals := 2, code := jdk_52_method_15_code, exceptionTable := #[], attributes := #[] }
def k8m1 : Method := { name := "coderFromArrayLen", desc := "([BI)B", sig := { parameters := [(.array .byte), .int], returnType := some .byte }, accessFlags := 8, code := some k8c1 }
def k8c2 : Code := { maxStack := 5, maxLocals := 6, code := jdk_52_method_16_code, exceptionTable := #[], attributes := #[] }
def k8m2 : Method := { name := "compress", desc := "([CII)[B", sig := { parameters := [(.array .char), .int, .int], returnType := some (.array .byte) }, accessFlags := 9, code := some k8c2 }
def k8c3 : Code := { maxStack := 3, maxLocals := 7, code := jdk_52_method_21_code, exceptionTable := #[], attributes := #[] }
def k8m3 : Method := { name := "compress", desc := "([CI[BII)I", sig := { parameters := [(.array .char), .int, (.array .byte), .int, .int], returnType := some .int }, accessFlags := 9, code := some k8c3 }
/-- java/lang/StringUTF16 -/
def k8 : Class := { plain "java/lang/StringUTF16" (some 0) with
  accessFlags := 48
  interfaces := #[]
  cf := some (fileOf pool8 12 #[.nestMembers #[627, 629, 369]] #[{ accessFlags := 0, nameIndex := 9, descriptorIndex := 10, attributes := #[] }, { accessFlags := 8, nameIndex := 261, descriptorIndex := 262, attributes := #[] }, { accessFlags := 9, nameIndex := 117, descriptorIndex := 122, attributes := #[] }, { accessFlags := 9, nameIndex := 117, descriptorIndex := 118, attributes := #[] }] 48 6 #[] #[{ accessFlags := 26, nameIndex := 61, descriptorIndex := 62, attributes := #[] }, { accessFlags := 26, nameIndex := 65, descriptorIndex := 62, attributes := #[] }, { accessFlags := 24, nameIndex := 430, descriptorIndex := 62, attributes := #[] }, { accessFlags := 4120, nameIndex := 46, descriptorIndex := 47, attributes := #[] }])
  fields := #[{ name := "HI_BYTE_SHIFT", type := .int, accessFlags := 26, slot := 0, constantValue := 0 }, { name := "LO_BYTE_SHIFT", type := .int, accessFlags := 26, slot := 1, constantValue := 0 }, { name := "MAX_LENGTH", type := .int, accessFlags := 24, slot := 2, constantValue := 0 }, { name := "$assertionsDisabled", type := .boolean, accessFlags := 4120, slot := 3, constantValue := 0 }]
  methods := #[k8m0, k8m1, k8m2, k8m3]
  instanceTypes := #[]
  staticTypes := #[.int, .int, .int, .boolean]
  resolved := Array.replicate 635 none
  statics := none }

def pool9 : Array CpInfo := pool [(1, .class_ 2), (0, u "com/example/spindle/spindle/Chunks"), (3, .class_ 8), (1, u "java/lang/Object"), (0, u "<init>"), (0, u "()V"), (0, .integer 2147482624), (44, .class_ 58), (1, u "com/example/spindle/spindle/Chunks$Resizer"), (8, u "SHIFT"), (0, u "I"), (2, u "LENGTH"), (1, u "MASK"), (1, u "FIRST_LENGTH"), (1, u "MAX_PLACES"), (2, u "grownCapacity"), (0, u "(IILjava/lang/String;)I")] 28

def k9m0 : Method := { name := "<init>", desc := "()V", sig := { parameters := [], returnType := none }, accessFlags := 2, code := none }
def k9c1 : Code := { maxStack := 5, maxLocals := 3, code := prog_2_method_2_code, exceptionTable := #[], attributes := #[] }
def k9m1 : Method := { name := "grownCapacity", desc := "(IILjava/lang/String;)I", sig := { parameters := [.int, .int, (.object "java/lang/String")], returnType := some .int }, accessFlags := 8, code := some k9c1 }
/-- com/example/spindle/spindle/Chunks -/
def k9 : Class := { plain "com/example/spindle/spindle/Chunks" (some 0) with
  accessFlags := 48
  interfaces := #[]
  cf := some (fileOf pool9 1 #[.nestMembers #[56]] #[{ accessFlags := 2, nameIndex := 9, descriptorIndex := 10, attributes := #[] }, { accessFlags := 8, nameIndex := 80, descriptorIndex := 81, attributes := #[] }] 48 6 #[] #[{ accessFlags := 24, nameIndex := 67, descriptorIndex := 68, attributes := #[] }, { accessFlags := 24, nameIndex := 71, descriptorIndex := 68, attributes := #[] }, { accessFlags := 24, nameIndex := 73, descriptorIndex := 68, attributes := #[] }, { accessFlags := 24, nameIndex := 75, descriptorIndex := 68, attributes := #[] }, { accessFlags := 24, nameIndex := 77, descriptorIndex := 68, attributes := #[] }])
  fields := #[{ name := "SHIFT", type := .int, accessFlags := 24, slot := 0, constantValue := 0 }, { name := "LENGTH", type := .int, accessFlags := 24, slot := 1, constantValue := 0 }, { name := "MASK", type := .int, accessFlags := 24, slot := 2, constantValue := 0 }, { name := "FIRST_LENGTH", type := .int, accessFlags := 24, slot := 3, constantValue := 0 }, { name := "MAX_PLACES", type := .int, accessFlags := 24, slot := 4, constantValue := 0 }]
  methods := #[k9m0, k9m1]
  instanceTypes := #[]
  staticTypes := #[.int, .int, .int, .int, .int]
  resolved := Array.replicate 110 none
  statics := none }

def pool10 : Array CpInfo := pool [(4, .class_ 6), (1, u "java/lang/Object"), (0, u "<init>"), (0, u "()V"), (5, .class_ 16), (1, u "java/lang/StringLatin1"), (104, u "$assertionsDisabled"), (0, u "Z"), (98, .class_ 223), (1, u "java/lang/StringLatin1$LinesSpliterator"), (166, .class_ 391), (0, u "java/lang/StringLatin1$CharsSpliterator")] 3

def k10m0 : Method := { name := "<init>", desc := "()V", sig := { parameters := [], returnType := none }, accessFlags := 0, code := none }
/-- java/lang/StringLatin1 -/
def k10 : Class := { plain "java/lang/StringLatin1" (some 0) with
  accessFlags := 48
  interfaces := #[]
  cf := some (fileOf pool10 14 #[.nestMembers #[390, 221]] #[{ accessFlags := 0, nameIndex := 7, descriptorIndex := 8, attributes := #[] }] 48 4 #[] #[{ accessFlags := 4120, nameIndex := 121, descriptorIndex := 122, attributes := #[] }])
  fields := #[{ name := "$assertionsDisabled", type := .boolean, accessFlags := 4120, slot := 0, constantValue := 0 }]
  methods := #[k10m0]
  instanceTypes := #[]
  staticTypes := #[.boolean]
  resolved := Array.replicate 395 none
  statics := none }

def pool11 : Array CpInfo := pool [(2, .class_ 4), (1, u "java/lang/Object"), (0, u "<init>"), (0, u "()V"), (17, .class_ 26), (1, u "jdk/internal/util/Preconditions"), (28, .class_ 56), (0, u "jdk/internal/util/Preconditions$4"), (57, .class_ 115), (0, u "jdk/internal/util/Preconditions$1"), (7, u "SIOOBE_FORMATTER"), (0, u "Ljava/util/function/BiFunction;"), (0, .class_ 126), (0, u "jdk/internal/util/Preconditions$2"), (3, u "AIOOBE_FORMATTER"), (0, .class_ 132), (0, u "jdk/internal/util/Preconditions$3"), (3, u "IOOBE_FORMATTER")] 57

def k11m0 : Method := { name := "<init>", desc := "()V", sig := { parameters := [], returnType := none }, accessFlags := 1, code := none }
/-- jdk/internal/util/Preconditions -/
def k11 : Class := { plain "jdk/internal/util/Preconditions" (some 0) with
  accessFlags := 33
  interfaces := #[]
  cf := some (fileOf pool11 24 #[.nestMembers #[55, 131, 125, 114]] #[{ accessFlags := 1, nameIndex := 5, descriptorIndex := 6, attributes := #[] }] 33 2 #[] #[{ accessFlags := 25, nameIndex := 123, descriptorIndex := 124, attributes := #[] }, { accessFlags := 25, nameIndex := 130, descriptorIndex := 124, attributes := #[] }, { accessFlags := 25, nameIndex := 136, descriptorIndex := 124, attributes := #[] }])
  fields := #[{ name := "SIOOBE_FORMATTER", type := (.object "java/util/function/BiFunction"), accessFlags := 25, slot := 0, constantValue := 0 }, { name := "AIOOBE_FORMATTER", type := (.object "java/util/function/BiFunction"), accessFlags := 25, slot := 1, constantValue := 0 }, { name := "IOOBE_FORMATTER", type := (.object "java/util/function/BiFunction"), accessFlags := 25, slot := 2, constantValue := 0 }]
  methods := #[k11m0]
  instanceTypes := #[]
  staticTypes := #[(.object "java/util/function/BiFunction"), (.object "java/util/function/BiFunction"), (.object "java/util/function/BiFunction")]
  resolved := Array.replicate 194 none
  statics := some 1 }

def pool12 : Array CpInfo := pool [(9, u "<init>"), (6, .class_ 18), (1, u "java/lang/Object"), (0, u "()V"), (1, .class_ 23), (1, u "jdk/internal/util/ArraysSupport"), (0, u "LOG2_ARRAY_LONG_INDEX_SCALE"), (0, u "I"), (2, u "U"), (0, u "Ljdk/internal/misc/Unsafe;"), (8, u "BIG_ENDIAN"), (0, u "Z"), (8, u "LOG2_BYTE_BIT_SIZE"), (4, u "LOG2_ARRAY_INT_INDEX_SCALE"), (54, u "JLA"), (0, u "Ljdk/internal/access/JavaLangAccess;"), (11, u "LOG2_ARRAY_BOOLEAN_INDEX_SCALE"), (9, u "LOG2_ARRAY_BYTE_INDEX_SCALE"), (5, u "LOG2_ARRAY_CHAR_INDEX_SCALE"), (5, u "LOG2_ARRAY_SHORT_INDEX_SCALE"), (18, u "LOG2_ARRAY_FLOAT_INDEX_SCALE"), (24, u "LOG2_ARRAY_DOUBLE_INDEX_SCALE"), (89, u "T_BOOLEAN"), (2, u "T_CHAR"), (1, u "T_FLOAT"), (1, u "T_DOUBLE"), (1, u "T_BYTE"), (1, u "T_SHORT"), (1, u "T_INT"), (1, u "T_LONG"), (1, u "SOFT_MAX_ARRAY_LENGTH")] 83

def k12m0 : Method := { name := "<init>", desc := "()V", sig := { parameters := [], returnType := none }, accessFlags := 2, code := none }
/-- jdk/internal/util/ArraysSupport -/
def k12 : Class := { plain "jdk/internal/util/ArraysSupport" (some 0) with
  accessFlags := 33
  interfaces := #[]
  cf := some (fileOf pool12 21 #[] #[{ accessFlags := 2, nameIndex := 9, descriptorIndex := 19, attributes := #[] }] 33 16 #[] #[{ accessFlags := 24, nameIndex := 28, descriptorIndex := 29, attributes := #[] }, { accessFlags := 26, nameIndex := 38, descriptorIndex := 39, attributes := #[] }, { accessFlags := 25, nameIndex := 121, descriptorIndex := 25, attributes := #[] }, { accessFlags := 25, nameIndex := 131, descriptorIndex := 25, attributes := #[] }, { accessFlags := 25, nameIndex := 137, descriptorIndex := 25, attributes := #[] }, { accessFlags := 25, nameIndex := 143, descriptorIndex := 25, attributes := #[] }, { accessFlags := 25, nameIndex := 53, descriptorIndex := 25, attributes := #[] }, { accessFlags := 25, nameIndex := 24, descriptorIndex := 25, attributes := #[] }, { accessFlags := 25, nameIndex := 162, descriptorIndex := 25, attributes := #[] }, { accessFlags := 25, nameIndex := 187, descriptorIndex := 25, attributes := #[] }, { accessFlags := 26, nameIndex := 48, descriptorIndex := 25, attributes := #[] }, { accessFlags := 25, nameIndex := 277, descriptorIndex := 25, attributes := #[] }, { accessFlags := 25, nameIndex := 280, descriptorIndex := 25, attributes := #[] }, { accessFlags := 25, nameIndex := 282, descriptorIndex := 25, attributes := #[] }, { accessFlags := 25, nameIndex := 284, descriptorIndex := 25, attributes := #[] }, { accessFlags := 25, nameIndex := 286, descriptorIndex := 25, attributes := #[] }, { accessFlags := 25, nameIndex := 288, descriptorIndex := 25, attributes := #[] }, { accessFlags := 25, nameIndex := 290, descriptorIndex := 25, attributes := #[] }, { accessFlags := 25, nameIndex := 292, descriptorIndex := 25, attributes := #[] }, { accessFlags := 26, nameIndex := 108, descriptorIndex := 109, attributes := #[] }, { accessFlags := 25, nameIndex := 294, descriptorIndex := 25, attributes := #[] }])
  fields := #[{ name := "U", type := (.object "jdk/internal/misc/Unsafe"), accessFlags := 24, slot := 0, constantValue := 0 }, { name := "BIG_ENDIAN", type := .boolean, accessFlags := 26, slot := 1, constantValue := 0 }, { name := "LOG2_ARRAY_BOOLEAN_INDEX_SCALE", type := .int, accessFlags := 25, slot := 2, constantValue := 0 }, { name := "LOG2_ARRAY_BYTE_INDEX_SCALE", type := .int, accessFlags := 25, slot := 3, constantValue := 0 }, { name := "LOG2_ARRAY_CHAR_INDEX_SCALE", type := .int, accessFlags := 25, slot := 4, constantValue := 0 }, { name := "LOG2_ARRAY_SHORT_INDEX_SCALE", type := .int, accessFlags := 25, slot := 5, constantValue := 0 }, { name := "LOG2_ARRAY_INT_INDEX_SCALE", type := .int, accessFlags := 25, slot := 6, constantValue := 0 }, { name := "LOG2_ARRAY_LONG_INDEX_SCALE", type := .int, accessFlags := 25, slot := 7, constantValue := 0 }, { name := "LOG2_ARRAY_FLOAT_INDEX_SCALE", type := .int, accessFlags := 25, slot := 8, constantValue := 0 }, { name := "LOG2_ARRAY_DOUBLE_INDEX_SCALE", type := .int, accessFlags := 25, slot := 9, constantValue := 0 }, { name := "LOG2_BYTE_BIT_SIZE", type := .int, accessFlags := 26, slot := 10, constantValue := 0 }, { name := "T_BOOLEAN", type := .int, accessFlags := 25, slot := 11, constantValue := 0 }, { name := "T_CHAR", type := .int, accessFlags := 25, slot := 12, constantValue := 0 }, { name := "T_FLOAT", type := .int, accessFlags := 25, slot := 13, constantValue := 0 }, { name := "T_DOUBLE", type := .int, accessFlags := 25, slot := 14, constantValue := 0 }, { name := "T_BYTE", type := .int, accessFlags := 25, slot := 15, constantValue := 0 }, { name := "T_SHORT", type := .int, accessFlags := 25, slot := 16, constantValue := 0 }, { name := "T_INT", type := .int, accessFlags := 25, slot := 17, constantValue := 0 }, { name := "T_LONG", type := .int, accessFlags := 25, slot := 18, constantValue := 0 }, { name := "JLA", type := (.object "jdk/internal/access/JavaLangAccess"), accessFlags := 26, slot := 19, constantValue := 0 }, { name := "SOFT_MAX_ARRAY_LENGTH", type := .int, accessFlags := 25, slot := 20, constantValue := 0 }]
  methods := #[k12m0]
  instanceTypes := #[]
  staticTypes := #[(.object "jdk/internal/misc/Unsafe"), .boolean, .int, .int, .int, .int, .int, .int, .int, .int, .int, .int, .int, .int, .int, .int, .int, .int, .int, (.object "jdk/internal/access/JavaLangAccess"), .int]
  resolved := Array.replicate 378 none
  statics := none }

def pool13 : Array CpInfo := pool [(1, u "java/lang/Cloneable"), (0, .class_ 1), (0, u "java/lang/Object"), (0, .class_ 3)] 3

/-- java/lang/Cloneable -/
def k13 : Class := { plain "java/lang/Cloneable" (some 0) with
  accessFlags := 1537
  interfaces := #[]
  cf := some (fileOf pool13 2 #[] #[] 1537 4 #[] #[])
  fields := #[]
  methods := #[]
  instanceTypes := #[]
  staticTypes := #[]
  resolved := Array.replicate 8 none
  statics := none }

/-- the primitive byte -/
def k14 : Class := { plain "byte" none with kind := .primitive 'B', accessFlags := 0x411 }
/-- [B -/
def k15 : Class := { plain "[B" (some 0) with kind := .array 14 .byte, interfaces := #[13, 2], accessFlags := 1041 }

/-- the primitive char -/
def k16 : Class := { plain "char" none with kind := .primitive 'C', accessFlags := 0x411 }
/-- [C -/
def k17 : Class := { plain "[C" (some 0) with kind := .array 16 .char, interfaces := #[13, 2], accessFlags := 1041 }

/-- the primitive int -/
def k18 : Class := { plain "int" none with kind := .primitive 'I', accessFlags := 0x411 }
/-- [I -/
def k19 : Class := { plain "[I" (some 0) with kind := .array 18 .int, interfaces := #[13, 2], accessFlags := 1041 }

def heap : Heap := #[{ cls := 7, slots := #[.long 0, .int 1, .null, .int 0, .null, .int 0, .int 0], vm := .statics 7 },
  { cls := 11, slots := #[.null, .null, .null], vm := .statics 11 }]
def classes : Array Class := #[k0, k1, k2, k3, k4, k5, k6, k7, k8, k9, k10, k11, k12, k13, k14, k15, k16, k17, k18, k19]
def interned : List (Array UInt16 × Addr) := []
def slotsUsed : Nat := 10
def theMethod : MethodId := ⟨1, 1⟩
def args0 : Array Value := #[.int 5, .int 6, .int 7, .int 8, .int 9]
def aboutOver (below : List Frame) : State where
  vm := { classes := classes, interned := interned.toArray }
  heap := heap
  slotsUsed := slotsUsed
  threads := #[{ frames := .invoking theMethod args0 :: below }]
def below0 : List Frame := [.native { method := ⟨0, 0⟩, args := #[] }]
def about1 : State := aboutOver below0
def p0 : Program := .bare "" "" ""
def e0 : Env := launch0.env 0 0 0
theorem w_frames : about1.frames = Frame.invoking theMethod args0 :: below0 := rfl
set_option maxRecDepth 65536 in
theorem w_args : argsFit about1.vm theMethod args0 = true := by decide +kernel
set_option maxRecDepth 65536 in
theorem w_heap : heapFits about1 = true := by decide +kernel
set_option maxRecDepth 65536 in
theorem w_runnable : about1.curStatus? = some .runnable := by decide +kernel
set_option maxRecDepth 65536 in
theorem w_alone : about1.alone = true := by decide +kernel
set_option maxRecDepth 65536 in
theorem w_named : about1.methodNamed? x = some theMethod := by decide +kernel
set_option maxRecDepth 65536 in
theorem w_hears : about1.hears theMethod below0 = true := by decide +kernel
set_option maxRecDepth 65536 in
theorem w_ripe : about1.ripe theMethod args0 below0 = true := by decide +kernel
theorem w_running : about1.status = .running := rfl
set_option maxRecDepth 65536 in
theorem w_room : about1.hasRoom e0.platform room_1 = true :=
  launch0.hasRoom_least _ room_1 (by decide +kernel) (by decide +kernel) (by decide +kernel) (by decide +kernel) (by decide +kernel) (by decide +kernel)
theorem allAtoms_all (ts : List Jvm.Cond) (a : Array Jvm.Value) (st : Jvm.State) : (allAtoms ts).before a st = ts.all (fun c => c.before a st) := by
  induction ts with
  | nil => rfl
  | cons c t ih =>
    show (Jvm.Cond.and c (allAtoms t)).before a st = _
    rw [Jvm.Cond.before_and, ih, List.all_cons]
def words1 : List Jvm.Cond := Jvm.Cond.code x code maxLocals ret :: tables_1
/-- a 'code' word, met by the world's own term for the bytes: nothing is compared byte by byte -/
theorem code_word {y : MethodName} {bytes : ByteArray} {mx : Nat} {rt : Option FieldType} {a : Array Value} {s : State} {m : MethodId} {meth : Method} {c : Code} (h1 : s.methodNamed? y = some m) (h2 : s.vm.method? m = some meth) (h3 : meth.code = some c) (h4 : c.code = bytes)
    (h5 : (c.maxLocals == mx && c.exceptionTable.isEmpty && decide (c.maxStack ≤ mostOperands) && decide (meth.sig.returnType = rt) && !meth.locks && decide (parseMethodDescriptor y.desc = some meth.sig)) = true) : (Jvm.Cond.code y bytes mx rt).before a s = true := by
  simp only [Bool.and_eq_true, beq_iff_eq, Bool.not_eq_true', decide_eq_true_eq] at h5
  obtain ⟨⟨⟨⟨⟨g1, g2⟩, g3⟩, g4⟩, g5⟩, g6⟩ := h5
  simp [Cond.before, Cond.holds, Cond.value, h1, h2, h3, h4, g1, g2, g3, g4, g5, g6]
def isCode : Jvm.Cond → Bool
  | .code _ _ _ _ => true
  | _ => false
theorem all_split {L : List Jvm.Cond} {P : Jvm.Cond → Bool} (h1 : L.all (fun c => isCode c || P c) = true) (h2 : ∀ c ∈ L.filter isCode, P c = true) : L.all P = true := by
  refine List.all_eq_true.mpr fun c hc => ?_
  have h := List.all_eq_true.mp h1 c hc
  rcases Bool.eq_false_or_eq_true (isCode c) with hi | hi
  · exact h2 c (List.mem_filter.mpr ⟨hc, hi⟩)
  · simpa [hi] using h
set_option maxRecDepth 65536 in
theorem w_c0 : (Jvm.Cond.code x code maxLocals ret).before args0 about1 = true := code_word (m := ⟨1, 1⟩) (meth := k1m1) (c := k1c1) (by decide +kernel) rfl rfl rfl (by decide +kernel)
set_option maxRecDepth 65536 in
theorem w_c1 : (Jvm.Cond.code ({ cls := "java/lang/String", name := "<init>", desc := "([C)V" } : Jvm.MethodName) jdk_42_method_3_code (2 : Nat) (Option.none : Option Jvm.ClassFile.FieldType)).before args0 about1 = true := code_word (m := ⟨7, 1⟩) (meth := k7m1) (c := k7c1) (by decide +kernel) rfl rfl rfl (by decide +kernel)
set_option maxRecDepth 65536 in
theorem w_c2 : (Jvm.Cond.code ({ cls := "java/lang/String", name := "<init>", desc := "([CIILjava/lang/Void;)V" } : Jvm.MethodName) jdk_42_method_149_code (6 : Nat) (Option.none : Option Jvm.ClassFile.FieldType)).before args0 about1 = true := code_word (m := ⟨7, 2⟩) (meth := k7m2) (c := k7c2) (by decide +kernel) rfl rfl rfl (by decide +kernel)
set_option maxRecDepth 65536 in
theorem w_c3 : (Jvm.Cond.code ({ cls := "java/lang/Object", name := "<init>", desc := "()V" } : Jvm.MethodName) object_method_1_code (1 : Nat) (Option.none : Option Jvm.ClassFile.FieldType)).before args0 about1 = true := code_word (m := ⟨0, 0⟩) (meth := k0m0) (c := k0c0) (by decide +kernel) rfl rfl rfl (by decide +kernel)
set_option maxRecDepth 65536 in
theorem w_c4 : (Jvm.Cond.code ({ cls := "java/lang/StringUTF16", name := "compress", desc := "([CII)[B" } : Jvm.MethodName) jdk_52_method_16_code (6 : Nat) (Option.some (Jvm.ClassFile.FieldType.array Jvm.ClassFile.FieldType.byte))).before args0 about1 = true := code_word (m := ⟨8, 2⟩) (meth := k8m2) (c := k8c2) (by decide +kernel) rfl rfl rfl (by decide +kernel)
set_option maxRecDepth 65536 in
theorem w_c5 : (Jvm.Cond.code ({ cls := "java/lang/StringUTF16", name := "compress", desc := "([CI[BII)I" } : Jvm.MethodName) jdk_52_method_21_code (7 : Nat) (Option.some Jvm.ClassFile.FieldType.int)).before args0 about1 = true := code_word (m := ⟨8, 3⟩) (meth := k8m3) (c := k8c3) (by decide +kernel) rfl rfl rfl (by decide +kernel)
set_option maxRecDepth 65536 in
theorem w_c6 : (Jvm.Cond.code ({ cls := "java/lang/StringUTF16", name := "coderFromArrayLen", desc := "([BI)B" } : Jvm.MethodName) jdk_52_method_15_code (2 : Nat) (Option.some Jvm.ClassFile.FieldType.byte)).before args0 about1 = true := code_word (m := ⟨8, 1⟩) (meth := k8m1) (c := k8c1) (by decide +kernel) rfl rfl rfl (by decide +kernel)
set_option maxRecDepth 65536 in
theorem w_c7 : (Jvm.Cond.code ({ cls := "com/example/spindle/spindle/Chunks", name := "grownCapacity", desc := "(IILjava/lang/String;)I" } : Jvm.MethodName) prog_2_method_2_code (3 : Nat) (Option.some Jvm.ClassFile.FieldType.int)).before args0 about1 = true := code_word (m := ⟨9, 1⟩) (meth := k9m1) (c := k9c1) (by decide +kernel) rfl rfl rfl (by decide +kernel)
def codes1 : List Jvm.Cond := [Jvm.Cond.code x code maxLocals ret, Jvm.Cond.code ({ cls := "java/lang/String", name := "<init>", desc := "([C)V" } : Jvm.MethodName) jdk_42_method_3_code (2 : Nat) (Option.none : Option Jvm.ClassFile.FieldType), Jvm.Cond.code ({ cls := "java/lang/String", name := "<init>", desc := "([CIILjava/lang/Void;)V" } : Jvm.MethodName) jdk_42_method_149_code (6 : Nat) (Option.none : Option Jvm.ClassFile.FieldType), Jvm.Cond.code ({ cls := "java/lang/Object", name := "<init>", desc := "()V" } : Jvm.MethodName) object_method_1_code (1 : Nat) (Option.none : Option Jvm.ClassFile.FieldType), Jvm.Cond.code ({ cls := "java/lang/StringUTF16", name := "compress", desc := "([CII)[B" } : Jvm.MethodName) jdk_52_method_16_code (6 : Nat) (Option.some (Jvm.ClassFile.FieldType.array Jvm.ClassFile.FieldType.byte)), Jvm.Cond.code ({ cls := "java/lang/StringUTF16", name := "compress", desc := "([CI[BII)I" } : Jvm.MethodName) jdk_52_method_21_code (7 : Nat) (Option.some Jvm.ClassFile.FieldType.int), Jvm.Cond.code ({ cls := "java/lang/StringUTF16", name := "coderFromArrayLen", desc := "([BI)B" } : Jvm.MethodName) jdk_52_method_15_code (2 : Nat) (Option.some Jvm.ClassFile.FieldType.byte), Jvm.Cond.code ({ cls := "com/example/spindle/spindle/Chunks", name := "grownCapacity", desc := "(IILjava/lang/String;)I" } : Jvm.MethodName) prog_2_method_2_code (3 : Nat) (Option.some Jvm.ClassFile.FieldType.int)]
set_option maxRecDepth 65536 in
theorem codes_eq : words1.filter isCode = codes1 := rfl
theorem w_codes : ∀ c ∈ words1.filter isCode, c.before args0 about1 = true := by
  rw [codes_eq]
  intro c hc
  simp only [codes1, List.mem_cons, List.not_mem_nil, or_false] at hc
  rcases hc with rfl | rfl | rfl | rfl | rfl | rfl | rfl | rfl
  · exact w_c0
  · exact w_c1
  · exact w_c2
  · exact w_c3
  · exact w_c4
  · exact w_c5
  · exact w_c6
  · exact w_c7
set_option maxRecDepth 65536 in
theorem w_t1 : (words1.take 24).all (fun c => isCode c || c.before args0 about1) = true := by decide +kernel
set_option maxRecDepth 65536 in
theorem w_t2 : (words1.drop 24).all (fun c => isCode c || c.before args0 about1) = true := by decide +kernel
theorem w_tables : (allAtoms (Jvm.Cond.code x code maxLocals ret :: tables_1)).before args0 about1 = true := by
  rw [allAtoms_all]
  show words1.all (fun c => c.before args0 about1) = true
  refine all_split ?_ w_codes
  rw [← List.take_append_drop 24 words1, List.all_append, w_t1, w_t2]
  rfl
set_option maxRecDepth 65536 in
theorem w_rest : rest_1_c.before args0 about1 = true := by decide +kernel
set_option maxRecDepth 65536 in
theorem w_case : (Jvm.Cond.and given_1 narrow_1).before args0 about1 = true := by decide +kernel
theorem w_applies : (headSpec (Jvm.Cond.code x code maxLocals ret :: tables_1) room_1).applies x e0.platform about1 = true :=
  (Spec.applies_iff w_frames).mpr ⟨w_running, w_runnable, w_alone, w_named, w_hears, w_ripe, w_room, w_tables⟩
theorem atStart : AtStart classFile x code maxLocals ret World_1 tables_1 room_1 Calls_1 rest_1 Pre_1 launch0 p0 e0 about1 theMethod args0 below0 :=
  ⟨lists_1, trivial, launch0.admits_env _ _ _, launch0.least_env, fairChoices_fair.cas, fairChoices_fair.clock, w_frames, w_args, w_heap, w_applies, trivial, w_rest, w_case⟩
end start1
theorem witness_1 : WitnessClaimed_1 := ⟨start1.p0, start1.e0, start1.about1, start1.theMethod, start1.args0, start1.below0, start1.atStart⟩
end Jvm.Pilot.@@N@@
