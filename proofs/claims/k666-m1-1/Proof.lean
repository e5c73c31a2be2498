import JvmDerived
import JvmDerived.Pilot.@@N@@Statement
import JvmDerived.Pilot.@@N@@Code
set_option linter.unusedVariables false
set_option linter.unusedSimpArgs false
namespace Jvm.RoadKit
open Sem ClassFile Op Lib Jvm.Stand Jvm.Free Jvm.LawKit
section New
variable {p : Program} {l : Launch} {e : Env} {R : Room} {s : State} {m : MethodId} {args : Array Value} {below : List Frame} {meth : Method} {c : Code} {T : State} {locs : List Loc} {cells slots : Nat}
theorem retI (X : Stand p l e R s m args below meth c T locs cells slots) (hx : p.tables.exec = Jvm.exec) {pc : Nat} {Ls : Array Slot} {z : Int32} {rest : List Value} (hret : meth.sig.returnType = some .int) (hd : decode c.code pc = .ok (.ireturn, 1)) {fs : List Frame}
    (hl : ∀ (f : JFrame) (acts : List Action), f.method = m → f.locked = none → f.entered = [] → (doReturn e (T.setTop f) acts (some (.int z))).1 = T.setFrames fs) : Steps p.tables e below (T.setTop (mkF m pc Ls (.int z :: rest))) (T.setFrames fs) := by
  have hm' : T.vm.method? m = some meth := X.method'
  have hn : narrow .int (.int z) = .int z := rfl
  show Steps p.tables e below (T.setTop { method := m, pc := pc, locals := Ls, stack := _ :: rest, locked := none }) _
  jvm_step X.here [X.here.top, hx, hd, hm', hret, hn]
  first | (intro acts; rw [hl _ acts rfl rfl rfl]) | rw [hl _ _ rfl rfl rfl]
  exact Steps.refl _
end New
end Jvm.RoadKit
namespace Jvm.Pilot.@@N@@
open Jvm Jvm.ClassFile Sem Op Lib Jvm.Free Jvm.Stand Jvm.LawKit Jvm.RoadKit Bundle Jvm.Pilot.@@N@@.Jvm.D
/-- a body's contract, by a walk forwards: G U says that the run from U comes to an end that the contract allows -/
theorem own_body {l : Launch} {Z : State} {y : MethodName} {bytes : ByteArray} {maxL : Nat} {ret : Option FieldType} {ws : List Jvm.Cond} {rm : Room} {as' : Array Value} {h0 : Heap} {Q : Option Value → Heap → List Loc → Prop} (hpl : plainFor y = true)
    (body : ∀ (p : Program) (e : Env) (s : State) (m : MethodId) (below : List Frame) (meth : Method) (c : Code) (s₁ : State) (G : State → Prop),
      p.tables.exec = Jvm.exec → c.code = bytes → c.maxLocals = maxL → Z.Warmed39 s.vm → s.vm.findClass y.cls = some m.cls → meth.name = y.name → meth.sig.returnType = ret →
      Stand p l e rm s m as' below meth c s₁ [] 0 0 → s₁.heap = h0 →
      (∀ (U' : State) {U : State}, (∀ t, Steps p.tables e below U' t → Steps p.tables e below U t) → G U' → G U) →
      (∀ {U T : State} {locs : List Loc} {cells slots : Nat} {v : Option Value}, Stand p l e rm s m as' below meth c T locs cells slots → (ret = none → v = none) → Q v T.heap locs → cells ≤ rm.cells → slots ≤ rm.slots →
        (∀ fs, (∀ (f : JFrame) (acts : List Action), f.method = m → f.locked = none → f.entered = [] → (doReturn e (T.setTop f) acts v).1 = T.setFrames fs) → Steps p.tables e below U (T.setFrames fs)) → G U) →
      G (s₁.setTop (entryFrame m as' maxL))) :
    MetFree l y (head1 (Jvm.Cond.code y bytes maxL ret :: ws) rm) (fun a U => a = as' ∧ Z.Warmed39 U.vm ∧ U.heap = h0) (fun _ _ _ _ _ => True) (fun _ U o U' => ∃ v L, o = .returned v ∧ Q v U'.heap L ∧ FrameEnd U o U' L rm.cells rm.slots) := by
  refine MetFree.of_bodySF hpl hisR ?_
  intro p e s m args below meth c s₁ Bd hml0 hP hK
  obtain ⟨rfl, hZ, hh⟩ := hP
  have hnm := (name_of_methodNamed Bd.named Bd.method).1
  exact body p e s m below meth c s₁ (fun U => ∃ s₂ o, Steps p.tables e below U s₂ ∧ s₂.status = .running ∧ Ended s₂ below o ∧ ∃ v L, o = .returned v ∧ Q v s₂.heap L ∧ FrameEnd s o s₂ L rm.cells rm.slots)
    Bd.exec Bd.bytes hml0 hZ (findClass_of_methodNamed Bd.named) hnm Bd.returns (Stand.of_body Bd) (by rw [← hh, Bd.state]; rfl)
    (fun U' U h k => by obtain ⟨s₂, o, h1, h2⟩ := k; exact ⟨s₂, o, h _ h1, h2⟩)
    (fun {U T locs cells slots v} X hv hQ hc hs hst => by
      obtain ⟨fs, hr, hrun, hended, hW, hsame⟩ := X.leave (v := v) (fun h => hv (by rw [← Bd.returns]; exact h))
      exact ⟨_, _, hst fs hr, hrun, hended, v, locs, rfl, hQ, ⟨_, rfl⟩, hW, hsame.mono hc hs⟩)
/-- the same, of a body that may intern String constants on its way -/
theorem own_bodyW {l : Launch} {Z : State} {y : MethodName} {bytes : ByteArray} {maxL : Nat} {ret : Option FieldType} {ws : List Jvm.Cond} {rm : Room} {as' : Array Value} {h0 : Heap} {Q : Option Value → Heap → List Loc → Prop} (hpl : plainFor y = true)
    (body : ∀ (p : Program) (e : Env) (s : State) (m : MethodId) (below : List Frame) (meth : Method) (c : Code) (s₁ : State) (G : State → Prop) (vm0 : Vm) (k0 : Nat),
      p.tables.exec = Jvm.exec → c.code = bytes → c.maxLocals = maxL → Z.Warmed39 vm0 → vm0.findClass y.cls = some m.cls → meth.name = y.name → meth.sig.returnType = ret → s.Since vm0 k0 → k0 ≤ h0.size →
      Stand p l e rm (s.setVm vm0) m as' below meth c s₁ [] 0 0 → s₁.heap = h0 →
      (∀ (U' : State) {U : State}, (∀ t, Steps p.tables e below U' t → Steps p.tables e below U t) → G U' → G U) →
      (∀ {U T : State} {locs : List Loc} {cells slots : Nat} {v : Option Value} {vm1 : Vm} {k1 : Nat}, Stand p l e rm (s.setVm vm1) m as' below meth c T locs cells slots → s.Since vm1 k1 → k1 ≤ T.heap.size → (ret = none → v = none) → Q v T.heap locs → cells ≤ rm.cells → slots ≤ rm.slots →
        (∀ fs, (∀ (f : JFrame) (acts : List Action), f.method = m → f.locked = none → f.entered = [] → (doReturn e (T.setTop f) acts v).1 = T.setFrames fs) → Steps p.tables e below U (T.setFrames fs)) → G U) →
      G (s₁.setTop (entryFrame m as' maxL))) :
    MetFree l y (head1 (Jvm.Cond.code y bytes maxL ret :: ws) rm) (fun a U => a = as' ∧ Z.Warmed39 U.vm ∧ U.heap = h0) (fun _ _ _ _ _ => True) (fun _ U o U' => ∃ v L, o = .returned v ∧ Q v U'.heap L ∧ ReturnedEndW U o U' L rm.cells rm.slots) := by
  refine MetFree.of_bodySF hpl hisR ?_
  intro p e s m args below meth c s₁ Bd hml0 hP hK
  obtain ⟨rfl, hZ, hh⟩ := hP
  have hnm := (name_of_methodNamed Bd.named Bd.method).1
  have X0 := Stand.of_body Bd
  exact body p e s m below meth c s₁ (fun U => ∃ s₂ o, Steps p.tables e below U s₂ ∧ s₂.status = .running ∧ Ended s₂ below o ∧ ∃ v L, o = .returned v ∧ Q v s₂.heap L ∧ ReturnedEndW s o s₂ L rm.cells rm.slots)
    s.vm h0.size Bd.exec Bd.bytes hml0 hZ (findClass_of_methodNamed Bd.named) hnm Bd.returns ((State.WarmedH.refl s).since _) (Nat.le_refl _) X0 (by rw [← hh, Bd.state]; rfl)
    (fun U' U h k => by obtain ⟨s₂, o, h1, h2⟩ := k; exact ⟨s₂, o, h _ h1, h2⟩)
    (fun {U T locs cells slots v vm1 k1} X hS hk hv hQ hc hs hst => by
      obtain ⟨fs, hr, hrun, hended, hE⟩ := X.leaveW hS hk (v := v) (fun h => hv (by rw [← Bd.returns]; exact h))
      exact ⟨_, _, hst fs hr, hrun, hended, v, locs, rfl, hQ, hE.1, hE.2.1, hE.2.2.1, hE.2.2.2.mono hc hs⟩)
theorem own_fin {z : Int32} (h : z = 1) : some (Value.int (nar .boolean z)) = some (.int 1) := by subst h; rfl
theorem own_and3 (p : Int32) : p &&& 3 = 0 ∨ p &&& 3 = 1 ∨ p &&& 3 = 2 ∨ p &&& 3 = 3 := by
  have h := c_mask p 3 2 (by decide) (by decide)
  have h4 : (p &&& 3).toInt = 0 ∨ (p &&& 3).toInt = 1 ∨ (p &&& 3).toInt = 2 ∨ (p &&& 3).toInt = 3 := by omega
  rcases h4 with h | h | h | h
  · exact Or.inl (Int32.toInt_inj.mp h)
  · exact Or.inr (Or.inl (Int32.toInt_inj.mp h))
  · exact Or.inr (Or.inr (Or.inl (Int32.toInt_inj.mp h)))
  · exact Or.inr (Or.inr (Or.inr (Int32.toInt_inj.mp h)))
theorem own_eqi {args : Array Value} {s : State} {t : Term} {n : Int32} (h : (Jvm.Cond.eq t (.int n)).value args s none s [] = some true) : t.eval args s none [] s = some (.int n) := by
  simp only [Cond.value, Term.eval] at h
  cases ht : t.eval args s none [] s with
  | none => simp [ht] at h
  | some x => cases x <;> simp [ht] at h ⊢; exact h
theorem own_irr {x : Int32} : ¬ (x < x) := by rw [Int32.lt_iff_toInt_lt]; omega
theorem own_selP {args : Array Value} {s : State} {y : MethodName} {k : Nat} (hinst : (Jvm.Cond.instanceMethod y).before args s = true) (hi : (Jvm.Cond.instantiable y.cls k).before args s = true) (hp : s.PrivateAt y) (hy : y.cls ≠ "java/lang/invoke/MethodHandle" ∧ y.cls ≠ "java/lang/invoke/VarHandle") : (Jvm.Cond.selects y.cls y y).before args s = true := by
  obtain ⟨m, meth, hn, hm, -, -⟩ := Cond.instanceMethod_spec hinst
  obtain ⟨c, kk, h1, h2, -, h4, -⟩ := Cond.instantiable_spec hi
  have hf := State.methodFound?_of_named hn hy
  have hc := findClass_of_methodNamed hn
  cases h1.symm.trans hc
  have hs := selectMethod_private (p := {}) (c := m.cls) hm (hp m meth hn hm)
  have h5 : kk.isInterface = false := by simp only [Bool.or_eq_false_iff] at h4; exact h4.1
  simp [Cond.before, Cond.holds, Cond.value, hc, hf, hn, hs, h2, h5]
theorem own_add0 (x : Int32) : x = (x + (0 : Int32)) := (Int32.add_zero x).symm
theorem own_nn (x y : Int32) (h : (x &&& (2147483647 : Int32)) = y) : ¬ (y < (0 : Int32)) := by
  subst h
  have h := c_mask x 2147483647 31 (by decide) (by decide)
  rw [Int32.lt_iff_toInt_lt]
  have e : (0 : Int32).toInt = 0 := by decide
  omega
theorem own_255 (x y : Int32) (h : ((x &&& (255 : Int32)).toUInt32.toUInt16.toUInt32.toInt32) = y) : ¬ ((255 : Int32) < y) := by
  subst h
  have h := c_mask x 255 8 (by decide) (by decide)
  have h2 := c_i2c (x &&& 255)
  rw [Int32.lt_iff_toInt_lt]
  have e : (255 : Int32).toInt = 255 := by decide
  omega
theorem own_exaP {Z : State} {h : Heap} {a : Addr} {C : String} (F : Exa Z h a C) : ∀ cell : Cell, h[a]? = some cell → cell.vm.isStatics = false := fun cell q => by
  obtain ⟨c', _, h1, -, -, h4, -⟩ := F
  cases h1.symm.trans q
  exact h4
theorem own_arvP {Z : State} {h : Heap} {a : Addr} {k : ClassId} {ty : FieldType} {z : Int32} {vs : List Value} {dv : Value} (F : Arv Z h a k ty z vs dv) : ∀ cell : Cell, h[a]? = some cell → cell.vm.isStatics = false := fun cell q => by
  obtain ⟨c', A, -⟩ := F
  cases A.1.symm.trans q
  exact A.plain
theorem own_staK {Z : State} {h h' : Heap} {ws : List Addr} {C n d : String} {v : Value} (F : Sta Z h C n d v) (K : Keep h h' ws) (q : ∀ x ∈ ws, ∀ cell : Cell, h[x]? = some cell → cell.vm.isStatics = false) : Sta Z h' C n d v := by
  obtain ⟨cf, i, k, f, st, cell, h1, h2, h3, h4, h5, h6, h7⟩ := F
  exact ⟨cf, i, k, f, st, cell, h1, h2, h3, h4, K.2.1 st cell h5 (fun hm => by rw [q st hm cell h5] at h6; cases h6), h6, h7⟩
theorem own_arr0 {args : Array Value} {s : State} {t : Term} {a : Addr} {ty : FieldType} {dv : Value} (hf : Fit s) (ev : t.eval args s none [] s = some (.ref a)) (hA : (Jvm.Cond.arrayOf t ty).value args s none s [] = some true) (hl : (Jvm.Cond.eq (.length t) (.int 0)).value args s none s [] = some true) : ∃ k, Arv s s.heap a k ty 0 [] dv := by
  obtain ⟨c, A⟩ := Arr.start ev hA
  have h0 := own_eqi hl
  obtain ⟨a', cell, e1, e2, e3⟩ := Term.length_spec h0
  cases ev.symm.trans e1
  have e4 : s.arrayAt? a = some c := Arr.fin (U := s) (Vm.Alike.refl _) A
  cases e4.symm.trans e2
  have hq : c.slots.size < 2 ^ 31 := by
    by_cases q : c.slots.size < 2 ^ 31
    · exact q
    · simp [Term.eval, ev, e4, q] at h0
  have e5 : c.slots.size.toInt32 = 0 := by injection e3 with e; exact e.symm
  exact ⟨_, Arv.start hf A hq e5 (by decide) rfl trivial⟩
theorem own_255n (x y : Int32) (h : ((x &&& (255 : Int32)).toUInt32.toUInt16.toUInt32.toInt32) = y) : ¬ ((255 : Int32) < (nar .char y)) := by
  have h1 := own_255 x y h
  have h0 := (c_i2c (x &&& 255)).2.1
  rw [h] at h0
  have h2 : (nar .char y).toInt = (y.toUInt32.toUInt16.toUInt32.toInt32).toInt := rfl
  have h3 := c_i2c y
  rw [Int32.lt_iff_toInt_lt] at *
  have e : (255 : Int32).toInt = 255 := by decide
  omega
theorem own_tri (a b : Int64) : (a < b ∧ ¬ a = b ∧ ¬ b = a ∧ ¬ b < a) ∨ (¬ a < b ∧ a = b ∧ b = a ∧ ¬ b < a) ∨ (¬ a < b ∧ ¬ a = b ∧ ¬ b = a ∧ b < a) := by
  simp only [Int64.lt_iff_toInt_lt, ← Int64.toInt_inj]
  omega
theorem pn_0 : plainName "com/example/dibs/dibs/sketch/ItemsRequireBatchPinLaw" = true := by first | (simp [plainName, overriddenIn]; done) | decide +kernel
theorem pd_0 : parseMethodDescriptor "(C)Ljava/lang/String;" = some ⟨[.char], some (.object "java/lang/String")⟩ := by decide +kernel
theorem pd_1 : parseMethodDescriptor "()V" = some ⟨[], none⟩ := by decide +kernel
theorem pd_2 : parseMethodDescriptor "(Ljava/lang/Object;)Z" = some ⟨[(.object "java/lang/Object")], some .boolean⟩ := by decide +kernel
theorem pd_3 : parseMethodDescriptor "(Ljava/util/Collection;)Ljava/util/Collection;" = some ⟨[(.object "java/util/Collection")], some (.object "java/util/Collection")⟩ := by decide +kernel
theorem pd_4 : parseMethodDescriptor "()I" = some ⟨[], some .int⟩ := by decide +kernel
theorem pd_5 : parseMethodDescriptor "(I)Ljava/lang/Object;" = some ⟨[.int], some (.object "java/lang/Object")⟩ := by decide +kernel
theorem d1_0 : decode jdk_42_method_139_code 0 = .ok (.getstatic 38, 3) := by decide +kernel
theorem d1_3 : decode jdk_42_method_139_code 3 = .ok (.ifCond .eq 23, 3) := by decide +kernel
theorem d1_6 : decode jdk_42_method_139_code 6 = .ok (.iload_n 0, 1) := by decide +kernel
theorem d1_7 : decode jdk_42_method_139_code 7 = .ok (.invokestatic 1015, 3) := by decide +kernel
theorem d1_10 : decode jdk_42_method_139_code 10 = .ok (.ifCond .eq 16, 3) := by decide +kernel
theorem d1_13 : decode jdk_42_method_139_code 13 = .ok (.new 10, 3) := by decide +kernel
theorem d1_16 : decode jdk_42_method_139_code 16 = .ok (.dup, 1) := by decide +kernel
theorem d1_17 : decode jdk_42_method_139_code 17 = .ok (.iload_n 0, 1) := by decide +kernel
theorem d1_18 : decode jdk_42_method_139_code 18 = .ok (.invokestatic 1018, 3) := by decide +kernel
theorem d1_21 : decode jdk_42_method_139_code 21 = .ok (.iconst 0, 1) := by decide +kernel
theorem d1_22 : decode jdk_42_method_139_code 22 = .ok (.invokespecial 209, 3) := by decide +kernel
theorem d1_25 : decode jdk_42_method_139_code 25 = .ok (.areturn, 1) := by decide +kernel
theorem d1_26 : decode jdk_42_method_139_code 26 = .ok (.new 10, 3) := by decide +kernel
theorem d1_29 : decode jdk_42_method_139_code 29 = .ok (.dup, 1) := by decide +kernel
theorem d1_30 : decode jdk_42_method_139_code 30 = .ok (.iload_n 0, 1) := by decide +kernel
theorem d1_31 : decode jdk_42_method_139_code 31 = .ok (.invokestatic 1021, 3) := by decide +kernel
theorem d1_34 : decode jdk_42_method_139_code 34 = .ok (.iconst 1, 1) := by decide +kernel
theorem d1_35 : decode jdk_42_method_139_code 35 = .ok (.invokespecial 209, 3) := by decide +kernel
theorem d1_38 : decode jdk_42_method_139_code 38 = .ok (.areturn, 1) := by decide +kernel
theorem pn_1 : plainName "java/lang/String" = true := by first | (simp [plainName, overriddenIn]; done) | decide +kernel
theorem pd_6 : parseMethodDescriptor "(C)Z" = some ⟨[.char], some .boolean⟩ := by decide +kernel
theorem pd_7 : parseMethodDescriptor "(C)[B" = some ⟨[.char], some (.array .byte)⟩ := by decide +kernel
theorem pd_8 : parseMethodDescriptor "([BB)V" = some ⟨[(.array .byte), .byte], none⟩ := by decide +kernel
theorem d2_0 : decode jdk_43_method_3_code 0 = .ok (.iload_n 0, 1) := by decide +kernel
theorem d2_1 : decode jdk_43_method_3_code 1 = .ok (.sipush 255, 3) := by decide +kernel
theorem d2_4 : decode jdk_43_method_3_code 4 = .ok (.if_icmp .gt 7, 3) := by decide +kernel
theorem d2_7 : decode jdk_43_method_3_code 7 = .ok (.iconst 1, 1) := by decide +kernel
theorem d2_8 : decode jdk_43_method_3_code 8 = .ok (.goto 4, 3) := by decide +kernel
theorem d2_11 : decode jdk_43_method_3_code 11 = .ok (.iconst 0, 1) := by decide +kernel
theorem d2_12 : decode jdk_43_method_3_code 12 = .ok (.ireturn, 1) := by decide +kernel
theorem pn_2 : plainName "java/lang/StringLatin1" = true := by first | (simp [plainName, overriddenIn]; done) | decide +kernel
theorem ef_2_2 (m : MethodId) (x0 : Int32) : entryFrame m #[(.int x0)] 1 = mkF m 0 #[.val (.int x0)] [] := by first | (simp [entryFrame, mkF, argsToLocals, Value.category]; done) | rfl
def Q2_2 (Z : State) (i1 : Int32) (h0 : Heap) (n0 : Nat) (v : Option Value) (h : Heap) (L : List Loc) : Prop := v = some (.int (1 : Int32)) ∧ Fr n0 L ∧ h = h0
set_option maxRecDepth 65536 in
set_option maxHeartbeats 40000000 in
theorem rm2_2 (l : Launch) (Z : State) (a0 : Array Value) (hw : ∀ d ∈ tables_1, d.before a0 Z = true) (ws : List Jvm.Cond) (i1 : Int32) (h0 : Heap) (n0 : Nat) (Z0 : n0 ≤ h0.size) (hy0 : ¬ ((255 : Int32) < i1))  :
    MetFree l (⟨"java/lang/StringLatin1", "canEncode", "(C)Z"⟩ : MethodName) (head1 (Jvm.Cond.code (⟨"java/lang/StringLatin1", "canEncode", "(C)Z"⟩ : MethodName) jdk_43_method_3_code 1 (some .boolean) :: ws) ({ frames := 0, cells := 0, slots := 0, locals := 0 } : Room)) (fun a U => a = #[(.int i1)] ∧ Z.Warmed39 U.vm ∧ U.heap = h0) (fun _ _ _ _ _ => True) (fun _ U o U' => ∃ v L, o = .returned v ∧ Q2_2 Z i1 h0 n0 v U'.heap L ∧ FrameEnd U o U' L ({ frames := 0, cells := 0, slots := 0, locals := 0 } : Room).cells ({ frames := 0, cells := 0, slots := 0, locals := 0 } : Room).slots) := by
  refine own_body (plainFor_of_name pn_2) ?_
  intro p e s m below meth c s₁ G hx hby hml hZ hown hnm hret X0 e0 step fin
  replace hown : s.vm.findClass "java/lang/StringLatin1" = some m.cls := hown
  replace hnm : meth.name = "canEncode" := hnm
  replace hret : meth.sig.returnType = some .boolean := hret
  replace hml : c.maxLocals = 1 := hml
  have N0 := Fr.nil n0
  refine step (s₁.setTop (mkF m 0 #[.val (.int i1)] [])) (fun t k => castTop (ef_2_2 m i1) k) ?_
  refine step (s₁.setTop (mkF m 1 #[.val (.int i1)] [(.int i1)])) (fun t k => XS.iloadN X0.here hx rfl (hb hby d2_0) rfl k) ?_
  refine step (s₁.setTop (mkF m 4 #[.val (.int i1)] [(.int (255 : Int32)), (.int i1)])) (fun t k => XS.sipush X0.here hx rfl (hb hby d2_1) k) ?_
  have hc4_1 : ¬ ((255 : Int32) < i1) := hy0
  refine step (s₁.setTop (mkF m 7 #[.val (.int i1)] [])) (fun t k => XS.icmpNo X0.here hx rfl (hb hby d2_4) rfl (flt hc4_1).2.2.1 k) ?_
  refine step (s₁.setTop (mkF m 8 #[.val (.int i1)] [(.int (1 : Int32))])) (fun t k => XS.iconst X0.here hx rfl (hb hby d2_7) k) ?_
  refine step (s₁.setTop (mkF m 12 #[.val (.int i1)] [(.int (1 : Int32))])) (fun t k => XS.goto X0.here hx rfl (pc0 := 8) (pc' := 12) rfl (hb hby d2_8) (by decide) (by decide) k) ?_
  refine fin (v := some (.int (nar .boolean (1 : Int32)))) X0 (fun h => by cases h) ?_ (by decide) (by decide) (fun fs hr => retN X0 hx (t := .boolean) hret (by simp) (hb hby d2_12) hr)
  show Q2_2 Z i1 h0 n0 (some (.int (nar .boolean (1 : Int32)))) s₁.heap _
  rw [e0]
  exact ⟨rfl, N0, rfl⟩
theorem d3_0 : decode jdk_43_method_46_code 0 = .ok (.iconst 1, 1) := by decide +kernel
theorem d3_1 : decode jdk_43_method_46_code 1 = .ok (.newarray .byte, 2) := by decide +kernel
theorem d3_3 : decode jdk_43_method_46_code 3 = .ok (.dup, 1) := by decide +kernel
theorem d3_4 : decode jdk_43_method_46_code 4 = .ok (.iconst 0, 1) := by decide +kernel
theorem d3_5 : decode jdk_43_method_46_code 5 = .ok (.iload_n 0, 1) := by decide +kernel
theorem d3_6 : decode jdk_43_method_46_code 6 = .ok (.i2b, 1) := by decide +kernel
theorem d3_7 : decode jdk_43_method_46_code 7 = .ok (.bastore, 1) := by decide +kernel
theorem d3_8 : decode jdk_43_method_46_code 8 = .ok (.areturn, 1) := by decide +kernel
theorem ef_3_3 (m : MethodId) (x0 : Int32) : entryFrame m #[(.int x0)] 1 = mkF m 0 #[.val (.int x0)] [] := by first | (simp [entryFrame, mkF, argsToLocals, Value.category]; done) | rfl
def Q3_3 (Z : State) (i1 : Int32) (h0 : Heap) (n0 : Nat) (v : Option Value) (h : Heap) (L : List Loc) : Prop := ∃ (b1 : Addr) (k1 : ClassId), v = some (.ref b1) ∧ Fr n0 L ∧ Keep h0 h [] ∧ h0.size ≤ b1 ∧ Arv Z h b1 k1 .byte (1 : Int32) [(.int (nar .byte (i1.toInt8.toInt32)))] (.int (0 : Int32))
set_option maxRecDepth 65536 in
set_option maxHeartbeats 40000000 in
theorem rm3_3 (l : Launch) (Z : State) (a0 : Array Value) (hw : ∀ d ∈ tables_1, d.before a0 Z = true) (ws : List Jvm.Cond) (i1 : Int32) (h0 : Heap) (n0 : Nat) (Z0 : n0 ≤ h0.size) (hy0 : ¬ ((255 : Int32) < i1))  :
    MetFree l (⟨"java/lang/StringLatin1", "toBytes", "(C)[B"⟩ : MethodName) (head1 (Jvm.Cond.code (⟨"java/lang/StringLatin1", "toBytes", "(C)[B"⟩ : MethodName) jdk_43_method_46_code 1 (some (.array .byte)) :: ws) ({ frames := 0, cells := 1, slots := 1, locals := 0 } : Room)) (fun a U => a = #[(.int i1)] ∧ Z.Warmed39 U.vm ∧ U.heap = h0) (fun _ _ _ _ _ => True) (fun _ U o U' => ∃ v L, o = .returned v ∧ Q3_3 Z i1 h0 n0 v U'.heap L ∧ FrameEnd U o U' L ({ frames := 0, cells := 1, slots := 1, locals := 0 } : Room).cells ({ frames := 0, cells := 1, slots := 1, locals := 0 } : Room).slots) := by
  refine own_body (plainFor_of_name pn_2) ?_
  intro p e s m below meth c s₁ G hx hby hml hZ hown hnm hret X0 e0 step fin
  replace hown : s.vm.findClass "java/lang/StringLatin1" = some m.cls := hown
  replace hnm : meth.name = "toBytes" := hnm
  replace hret : meth.sig.returnType = some (.array .byte) := hret
  replace hml : c.maxLocals = 1 := hml
  have N0 := Fr.nil n0
  refine step (s₁.setTop (mkF m 0 #[.val (.int i1)] [])) (fun t k => castTop (ef_3_3 m i1) k) ?_
  refine step (s₁.setTop (mkF m 1 #[.val (.int i1)] [(.int (1 : Int32))])) (fun t k => XS.iconst X0.here hx rfl (hb hby d3_0) k) ?_
  obtain ⟨T1, h1, k1, X1, e1, E1, A1, st1⟩ := newP X0 hx hZ (hw _ (List.mem_of_getElem? (i := 14) rfl)) e0 (g := (mkF m 1 #[.val (.int i1)] [(.int (1 : Int32))])) rfl (hb hby d3_1) rfl (by decide) (cap := 1) (by decide) (by decide) (by decide) (by decide)
  obtain ⟨b1, g1⟩ : ∃ z, z = h0.size := ⟨_, rfl⟩
  rw [← g1] at A1 st1
  have gn_b1 : n0 ≤ b1 := Nat.le_trans Z0 (Nat.le_of_eq g1.symm)
  have sz_b1 : h0.size ≤ b1 := Nat.le_of_eq g1.symm
  have K1 : Keep h0 h1 [] := (Keep.refl h0 []).ext E1
  have V1 : Arv Z h1 b1 k1 .byte (1 : Int32) [(.int (0 : Int32))] (.int (0 : Int32)) := (Arv.new A1 (by decide)).pad (pad_rep [] (.int (0 : Int32)) 1)
  refine step (T1.setTop (mkF m 3 #[.val (.int i1)] [(.ref b1)])) (fun t k => st1 t k) ?_
  refine step (T1.setTop (mkF m 4 #[.val (.int i1)] [(.ref b1), (.ref b1)])) (fun t k => XS.dup X1.here hx rfl (hb hby d3_3) rfl rfl k) ?_
  refine step (T1.setTop (mkF m 5 #[.val (.int i1)] [(.int (0 : Int32)), (.ref b1), (.ref b1)])) (fun t k => XS.iconst X1.here hx rfl (hb hby d3_4) k) ?_
  refine step (T1.setTop (mkF m 6 #[.val (.int i1)] [(.int i1), (.int (0 : Int32)), (.ref b1), (.ref b1)])) (fun t k => XS.iloadN X1.here hx rfl (hb hby d3_5) rfl k) ?_
  refine step (T1.setTop (mkF m 7 #[.val (.int i1)] [(.int (i1.toInt8.toInt32)), (.int (0 : Int32)), (.ref b1), (.ref b1)])) (fun t k => XS.i2b X1.here hx rfl (hb hby d3_6) rfl k) ?_
  obtain ⟨cl2, Ar2, q2, S2, N2n, H2, G2⟩ := id V1
  have hin2 : ¬ ((0 : Int32) < 0 ∨ cl2.slots.size ≤ ((0 : Int32)).toNatClampNeg) := inb_of S2 ⟨by decide, by decide⟩
  obtain ⟨T2, h2, X2, e2, W2, st2⟩ := stB X1 hx hZ e1 Ar2 (j := (0 : Int32)) hin2 (g := (mkF m 7 #[.val (.int i1)] [(.int (i1.toInt8.toInt32)), (.int (0 : Int32)), (.ref b1), (.ref b1)])) rfl rfl (hb hby d3_7)
  have N2 := Fr.snoc X2 N0 gn_b1
  have K2 : Keep h0 h2 [] := K1.wr W2 (Or.inr sz_b1)
  have V2 : Arv Z h2 b1 k1 .byte (1 : Int32) [(.int (nar .byte (i1.toInt8.toInt32)))] (.int (0 : Int32)) := Arv.set Ar2 q2 S2 N2n H2 G2 (fits_nar_byte (i1.toInt8.toInt32)) W2 0 rfl (Nat.le_of_ble_eq_true rfl)
  refine step (T2.setTop (mkF m 8 #[.val (.int i1)] [(.ref b1)])) (fun t k => st2 t k) ?_
  refine fin (v := some (.ref b1)) X2 (fun h => by cases h) ?_ (by decide) (by decide) (fun fs hr => X2.areturnOut hx rfl hret rfl (hb hby d3_8) hr)
  show Q3_3 Z i1 h0 n0 (some (.ref b1)) T2.heap _
  rw [e2]
  exact ⟨b1, k1, rfl, N2, K2, sz_b1, V2⟩
theorem d4_0 : decode jdk_42_method_151_code 0 = .ok (.aload_n 0, 1) := by decide +kernel
theorem d4_1 : decode jdk_42_method_151_code 1 = .ok (.invokespecial 1, 3) := by decide +kernel
theorem d4_4 : decode jdk_42_method_151_code 4 = .ok (.aload_n 0, 1) := by decide +kernel
theorem d4_5 : decode jdk_42_method_151_code 5 = .ok (.aload_n 1, 1) := by decide +kernel
theorem d4_6 : decode jdk_42_method_151_code 6 = .ok (.putfield 9, 3) := by decide +kernel
theorem d4_9 : decode jdk_42_method_151_code 9 = .ok (.aload_n 0, 1) := by decide +kernel
theorem d4_10 : decode jdk_42_method_151_code 10 = .ok (.iload_n 2, 1) := by decide +kernel
theorem d4_11 : decode jdk_42_method_151_code 11 = .ok (.putfield 15, 3) := by decide +kernel
theorem d4_14 : decode jdk_42_method_151_code 14 = .ok (.return_, 1) := by decide +kernel
theorem ef_4_4 (m : MethodId) (x0 : Addr) (x1 : Addr) : entryFrame m #[(.ref x0), (.ref x1), (.int (0 : Int32))] 3 = mkF m 0 #[.val (.ref x0), .val (.ref x1), .val (.int (0 : Int32))] [] := by first | (simp [entryFrame, mkF, argsToLocals, Value.category]; done) | rfl
def Q4_4 (Z : State) (o1 : Addr) (o2 : Addr) (o3 : Addr) (h0 : Heap) (n0 : Nat) (v : Option Value) (h : Heap) (L : List Loc) : Prop := v = none ∧ Fr n0 L ∧ Keep h0 h [o1] ∧ Fld Z h o1 "java/lang/String" "coder" "B" (.int (0 : Int32)) ∧ Fld Z h o1 "java/lang/String" "value" "[B" (.ref o2)
set_option maxRecDepth 65536 in
set_option maxHeartbeats 40000000 in
theorem rm4_4 (l : Launch) (Z : State) (a0 : Array Value) (hw : ∀ d ∈ tables_1, d.before a0 Z = true) (ws : List Jvm.Cond) (o1 : Addr) (o2 : Addr) (o3 : Addr) (h0 : Heap) (n0 : Nat) (Z0 : n0 ≤ h0.size) (S0 : Sta Z h0 "java/util/ArrayList" "DEFAULTCAPACITY_EMPTY_ELEMENTDATA" "[Ljava/lang/Object;" (.ref o3)) (A1 : Exa Z h0 o1 "java/lang/String") (A2 : Fld Z h0 o1 "java/lang/String" "coder" "B" (.int (0 : Int32))) (A3 : Fld Z h0 o1 "java/lang/String" "value" "[B" .null) (gn_o1 : n0 ≤ o1) (ne_o1_o2 : o1 ≠ o2) (ne_o1_o3 : o1 ≠ o3) (gn_o2 : n0 ≤ o2) (ne_o2_o3 : o2 ≠ o3)  :
    MetFree l (⟨"java/lang/String", "<init>", "([BB)V"⟩ : MethodName) (head1 (Jvm.Cond.code (⟨"java/lang/String", "<init>", "([BB)V"⟩ : MethodName) jdk_42_method_151_code 3 none :: ws) ({ frames := 1, cells := 0, slots := 0, locals := 12 } : Room)) (fun a U => a = #[(.ref o1), (.ref o2), (.int (0 : Int32))] ∧ Z.Warmed39 U.vm ∧ U.heap = h0) (fun _ _ _ _ _ => True) (fun _ U o U' => ∃ v L, o = .returned v ∧ Q4_4 Z o1 o2 o3 h0 n0 v U'.heap L ∧ FrameEnd U o U' L ({ frames := 1, cells := 0, slots := 0, locals := 12 } : Room).cells ({ frames := 1, cells := 0, slots := 0, locals := 12 } : Room).slots) := by
  refine own_body (plainFor_of_name pn_1) ?_
  intro p e s m below meth c s₁ G hx hby hml hZ hown hnm hret X0 e0 step fin
  replace hown : s.vm.findClass "java/lang/String" = some m.cls := hown
  replace hnm : meth.name = "<init>" := hnm
  replace hret : meth.sig.returnType = none := hret
  replace hml : c.maxLocals = 3 := hml
  have N0 := Fr.nil n0
  refine step (s₁.setTop (mkF m 0 #[.val (.ref o1), .val (.ref o2), .val (.int (0 : Int32))] [])) (fun t k => castTop (ef_4_4 m o1 o2) k) ?_
  refine step (s₁.setTop (mkF m 1 #[.val (.ref o1), .val (.ref o2), .val (.int (0 : Int32))] [(.ref o1)])) (fun t k => XS.aloadN X0.here hx rfl (hb hby d4_0) rfl rfl k) ?_
  obtain ⟨T1, X1, e1, st1⟩ := initO X0 hx hZ hown (hw _ (List.mem_of_getElem? (i := 19) rfl)) (hw _ (List.mem_of_getElem? (i := 20) rfl)) (hw _ (List.mem_of_getElem? (i := 21) rfl)) e0 (g := (mkF m 1 #[.val (.ref o1), .val (.ref o2), .val (.int (0 : Int32))] [(.ref o1)])) rfl (by rw [hml]; rfl) rfl (hb hby d4_1) (by decide) (W := 0) (by show 2 * 0 + _ ≤ _; exact Nat.le_of_eq rfl) (by decide)
  refine step (T1.setTop (mkF m 4 #[.val (.ref o1), .val (.ref o2), .val (.int (0 : Int32))] [])) (fun t k => st1 t k) ?_
  refine step (T1.setTop (mkF m 5 #[.val (.ref o1), .val (.ref o2), .val (.int (0 : Int32))] [(.ref o1)])) (fun t k => XS.aloadN X1.here hx rfl (hb hby d4_4) rfl rfl k) ?_
  refine step (T1.setTop (mkF m 6 #[.val (.ref o1), .val (.ref o2), .val (.int (0 : Int32))] [(.ref o2), (.ref o1)])) (fun t k => XS.aloadN X1.here hx rfl (hb hby d4_5) rfl rfl k) ?_
  obtain ⟨T2, h2, X2, e2, W2, st2⟩ := putF X1 hx hZ hown (host := "") (Or.inl (hw _ (List.mem_of_getElem? (i := 22) rfl))) Via.refl e1 A3 A1 (Or.inr ⟨(hw _ (List.mem_of_getElem? (i := 23) rfl)), rfl, hnm⟩) (hw _ (List.mem_of_getElem? (i := 10) rfl)) (ty := (.array .byte)) (by decide) rfl rfl (g := (mkF m 6 #[.val (.ref o1), .val (.ref o2), .val (.int (0 : Int32))] [(.ref o2), (.ref o1)])) rfl rfl (hb hby d4_6)
  have N2 := Fr.snoc X2 N0 gn_o1
  have K2 : Keep h0 h2 [o1] := (Keep.refl h0 [o1]).wr W2 (Or.inl (List.mem_of_getElem? (i := 0) rfl))
  have F2 := A3.same W2
  refine step (T2.setTop (mkF m 9 #[.val (.ref o1), .val (.ref o2), .val (.int (0 : Int32))] [])) (fun t k => st2 t k) ?_
  refine step (T2.setTop (mkF m 10 #[.val (.ref o1), .val (.ref o2), .val (.int (0 : Int32))] [(.ref o1)])) (fun t k => XS.aloadN X2.here hx rfl (hb hby d4_9) rfl rfl k) ?_
  refine step (T2.setTop (mkF m 11 #[.val (.ref o1), .val (.ref o2), .val (.int (0 : Int32))] [(.int (0 : Int32)), (.ref o1)])) (fun t k => XS.iloadN X2.here hx rfl (hb hby d4_10) rfl k) ?_
  have f3 := (A1.wr W2)
  have f4 := (A2.other W2 (Or.inr (slot_ne (Or.inr (hw _ (List.mem_of_getElem? (i := 25) rfl))) (Or.inr (hw _ (List.mem_of_getElem? (i := 23) rfl))) (by decide) (t := .byte) (t' := (.array .byte)) (by decide) (by decide))))
  obtain ⟨T5, h5, X5, e5, W5, st5⟩ := putFN X2 hx hZ hown (hw _ (List.mem_of_getElem? (i := 24) rfl)) Via.refl e2 f4 f3 (Or.inr ⟨(hw _ (List.mem_of_getElem? (i := 25) rfl)), rfl, hnm⟩) (hw _ (List.mem_of_getElem? (i := 10) rfl)) (ty := .byte) (v' := (.int (0 : Int32))) (by decide) rfl (fits_nar_byte (0 : Int32)) (g := (mkF m 11 #[.val (.ref o1), .val (.ref o2), .val (.int (0 : Int32))] [(.int (0 : Int32)), (.ref o1)])) rfl rfl (hb hby d4_11)
  have N5 := Fr.snoc X5 N2 gn_o1
  have K5 : Keep h0 h5 [o1] := K2.wr W5 (Or.inl (List.mem_of_getElem? (i := 0) rfl))
  have F5 := f4.same W5
  refine step (T5.setTop (mkF m 14 #[.val (.ref o1), .val (.ref o2), .val (.int (0 : Int32))] [])) (fun t k => st5 t k) ?_
  have f6 := (F2.other W5 (Or.inr (slot_ne (Or.inr (hw _ (List.mem_of_getElem? (i := 23) rfl))) (Or.inr (hw _ (List.mem_of_getElem? (i := 25) rfl))) (by decide) (t := (.array .byte)) (t' := .byte) (by decide) (by decide))))
  refine fin (v := none) X5 (fun _ => rfl) ?_ (by decide) (by decide) (fun fs hr => X5.returnOut hx hret (hb hby d4_14) hr)
  show Q4_4 Z o1 o2 o3 h0 n0 (none) T5.heap _
  rw [e5]
  exact ⟨rfl, N5, K5, F5, f6⟩
theorem ef_1_1 (m : MethodId) (x0 : Int32) : entryFrame m #[(.int x0)] 1 = mkF m 0 #[.val (.int x0)] [] := by first | (simp [entryFrame, mkF, argsToLocals, Value.category]; done) | rfl
def Q1_1 (Z : State) (i1 : Int32) (i2 : Int32) (o1 : Addr) (kc3 : ClassId) (h0 : Heap) (n0 : Nat) (v : Option Value) (h : Heap) (L : List Loc) : Prop := ∃ (b4 : Addr) (b1_5 : Addr) (k1_5 : ClassId), v = some (.ref b4) ∧ Fr n0 L ∧ Keep h0 h [] ∧ h0.size ≤ b4 ∧ h0.size ≤ b1_5 ∧ b1_5 ≠ b4 ∧ Exa Z h b4 "java/lang/String" ∧ Fld Z h b4 "java/lang/String" "coder" "B" (.int (0 : Int32)) ∧ Fld Z h b4 "java/lang/String" "value" "[B" (.ref b1_5) ∧ Arv Z h b1_5 k1_5 .byte (1 : Int32) [(.int (nar .byte (i1.toInt8.toInt32)))] (.int (0 : Int32))
set_option maxRecDepth 65536 in
set_option maxHeartbeats 40000000 in
theorem rm1_1 (l : Launch) (Z : State) (a0 : Array Value) (hw : ∀ d ∈ tables_1, d.before a0 Z = true) (ws : List Jvm.Cond) (i1 : Int32) (i2 : Int32) (o1 : Addr) (kc3 : ClassId) (h0 : Heap) (n0 : Nat) (Z0 : n0 ≤ h0.size) (S0 : Sta Z h0 "java/lang/String" "COMPACT_STRINGS" "Z" (.int i2)) (S1 : Sta Z h0 "java/util/ArrayList" "DEFAULTCAPACITY_EMPTY_ELEMENTDATA" "[Ljava/lang/Object;" (.ref o1)) (A2 : Arv Z h0 o1 kc3 (.object "java/lang/Object") (0 : Int32) [] .null) (hy3 : ¬ ((255 : Int32) < i1)) (hy4 : ¬ (i2 = (0 : Int32)))  :
    MetFree l (⟨"java/lang/String", "valueOf", "(C)Ljava/lang/String;"⟩ : MethodName) (head1 (Jvm.Cond.code (⟨"java/lang/String", "valueOf", "(C)Ljava/lang/String;"⟩ : MethodName) jdk_42_method_139_code 1 (some (.object "java/lang/String")) :: ws) ({ frames := 2, cells := 2, slots := 5, locals := 27 } : Room)) (fun a U => a = #[(.int i1)] ∧ Z.Warmed39 U.vm ∧ U.heap = h0) (fun _ _ _ _ _ => True) (fun _ U o U' => ∃ v L, o = .returned v ∧ Q1_1 Z i1 i2 o1 kc3 h0 n0 v U'.heap L ∧ FrameEnd U o U' L ({ frames := 2, cells := 2, slots := 5, locals := 27 } : Room).cells ({ frames := 2, cells := 2, slots := 5, locals := 27 } : Room).slots) := by
  refine own_body (plainFor_of_name pn_1) ?_
  intro p e s m below meth c s₁ G hx hby hml hZ hown hnm hret X0 e0 step fin
  replace hown : s.vm.findClass "java/lang/String" = some m.cls := hown
  replace hnm : meth.name = "valueOf" := hnm
  replace hret : meth.sig.returnType = some (.object "java/lang/String") := hret
  replace hml : c.maxLocals = 1 := hml
  have N0 := Fr.nil n0
  refine step (s₁.setTop (mkF m 0 #[.val (.int i1)] [])) (fun t k => castTop (ef_1_1 m i1) k) ?_
  obtain ⟨T1, X1, e1, st1⟩ := getS2 X0 hx hZ hown (host := "") (Or.inl (hw _ (List.mem_of_getElem? (i := 4) rfl))) Via.refl e0 S0 (g := (mkF m 0 #[.val (.int i1)] [])) rfl (hb hby d1_0)
  refine step (T1.setTop (mkF m 3 #[.val (.int i1)] [(.int i2)])) (fun t k => st1 t k) ?_
  have hc3_2 : ¬ (i2 = (0 : Int32)) := hy4
  refine step (T1.setTop (mkF m 6 #[.val (.int i1)] [])) (fun t k => XS.ifNo X1.here hx rfl (hb hby d1_3) rfl ((if0 _ _).trans (feq hc3_2).1) k) ?_
  refine step (T1.setTop (mkF m 7 #[.val (.int i1)] [(.int i1)])) (fun t k => XS.iloadN X1.here hx rfl (hb hby d1_6) rfl k) ?_
  obtain ⟨_, _, ⟨T3, L3, k3, n3⟩, -, X3, ⟨Lc3, hQ3, l3, y3, z3⟩, st3⟩ := Jvm.LawKit.callS X1 hx (y := (⟨"java/lang/StringLatin1", "canEncode", "(C)Z"⟩ : MethodName)) hown (mvT hZ (hw _ (List.mem_of_getElem? (i := 5) rfl))) (mvT hZ (hw _ (List.mem_of_getElem? (i := 6) rfl))) (mvT hZ (hw _ (List.mem_of_getElem? (i := 7) rfl))) (mvT hZ (hw _ (List.mem_of_getElem? (i := 8) rfl))) (by decide) (backOf (W := 0) (rm2_2 l Z a0 hw [] i1 h0 n0 Z0 hy3) hZ (hw _ (List.mem_of_getElem? (i := 8) rfl)) (hw _ (List.mem_of_getElem? (i := 7) rfl)) (by decide) (by decide)) (g := (mkF m 7 #[.val (.int i1)] [(.int i1)])) rfl (by rw [hml]; rfl) (argsL := [(.int i1)]) (rest := []) (lenOf pd_6 rfl) rfl (by show 2 * 0 + _ ≤ _; exact Nat.le_of_eq rfl) (hb hby d1_7) (fun _ _ => ⟨rfl, e1, (by decide : 0 + 0 ≤ _), (by decide : 0 + 0 ≤ _)⟩)
  dsimp only [Pt.U, Pt.locs, Pt.cells, Pt.slots] at X3 l3 y3 z3 st3 hQ3
  subst l3 y3 z3
  obtain ⟨rfl, N3q, e3q⟩ := hQ3
  have N3 := Fr.app N0 N3q
  refine step (T3.setTop (mkF m 10 #[.val (.int i1)] [(.int (1 : Int32))])) (fun t k => st3 t k) ?_
  refine step (T3.setTop (mkF m 13 #[.val (.int i1)] [])) (fun t k => XS.ifNo X3.here hx rfl (hb hby d1_10) rfl ((if0 _ _).trans (feq (by decide : ¬ ((1 : Int32) = (0 : Int32)))).1) k) ?_
  obtain ⟨T4, h4, X4, e4, E4, A4, D4, -, st4⟩ := newO X3 hx hZ hown (hw _ (List.mem_of_getElem? (i := 9) rfl)) (hw _ (List.mem_of_getElem? (i := 10) rfl)) (hw _ (List.mem_of_getElem? (i := 2) rfl)) e3q (g := (mkF m 13 #[.val (.int i1)] [])) rfl (hb hby d1_13) (by decide) (by decide)
  obtain ⟨b4, g4⟩ : ∃ z, z = h0.size := ⟨_, rfl⟩
  rw [← g4] at A4 D4 st4
  have ne_o1_b4 : o1 ≠ b4 := Nat.ne_of_lt (Nat.lt_of_lt_of_le A2.lt (Nat.le_of_eq g4.symm))
  have gn_b4 : n0 ≤ b4 := Nat.le_trans Z0 (Nat.le_of_eq g4.symm)
  have sz_b4 : h0.size ≤ b4 := Nat.le_of_eq g4.symm
  have K4 : Keep h0 h4 [] := (Keep.refl h0 []).ext E4
  have F_value_b4 : Fld Z h4 b4 "java/lang/String" "value" "[B" .null := D4 (Or.inr (hw _ (List.mem_of_getElem? (i := 23) rfl))) (ty := (.array .byte)) (by decide)
  have F_coder_b4 : Fld Z h4 b4 "java/lang/String" "coder" "B" (.int (0 : Int32)) := D4 (Or.inr (hw _ (List.mem_of_getElem? (i := 25) rfl))) (ty := .byte) (by decide)
  refine step (T4.setTop (mkF m 16 #[.val (.int i1)] [(.ref b4)])) (fun t k => st4 t k) ?_
  refine step (T4.setTop (mkF m 17 #[.val (.int i1)] [(.ref b4), (.ref b4)])) (fun t k => XS.dup X4.here hx rfl (hb hby d1_16) rfl rfl k) ?_
  refine step (T4.setTop (mkF m 18 #[.val (.int i1)] [(.int i1), (.ref b4), (.ref b4)])) (fun t k => XS.iloadN X4.here hx rfl (hb hby d1_17) rfl k) ?_
  obtain ⟨_, _, ⟨T5, L5, k5, n5⟩, -, X5, ⟨Lc5, hQ5, l5, y5, z5⟩, st5⟩ := Jvm.LawKit.callS X4 hx (y := (⟨"java/lang/StringLatin1", "toBytes", "(C)[B"⟩ : MethodName)) hown (mvT hZ (hw _ (List.mem_of_getElem? (i := 11) rfl))) (mvT hZ (hw _ (List.mem_of_getElem? (i := 12) rfl))) (mvT hZ (hw _ (List.mem_of_getElem? (i := 7) rfl))) (mvT hZ (hw _ (List.mem_of_getElem? (i := 13) rfl))) (by decide) (backOf (W := 2) (rm3_3 l Z a0 hw [] i1 h4 n0 (Nat.le_trans Z0 K4.1) hy3) hZ (hw _ (List.mem_of_getElem? (i := 13) rfl)) (hw _ (List.mem_of_getElem? (i := 7) rfl)) (by decide) (by decide)) (g := (mkF m 18 #[.val (.int i1)] [(.int i1), (.ref b4), (.ref b4)])) rfl (by rw [hml]; rfl) (argsL := [(.int i1)]) (rest := [(.ref b4), (.ref b4)]) (lenOf pd_7 rfl) rfl (by show 2 * 0 + _ ≤ _; exact Nat.le_of_eq rfl) (hb hby d1_18) (fun _ _ => ⟨rfl, e4, (by decide : 1 + 1 ≤ _), (by decide : 4 + 1 ≤ _)⟩)
  dsimp only [Pt.U, Pt.locs, Pt.cells, Pt.slots] at X5 l5 y5 z5 st5 hQ5
  subst l5 y5 z5
  obtain ⟨h5, e5⟩ : ∃ z, T5.heap = z := ⟨_, rfl⟩
  rw [e5] at hQ5
  obtain ⟨b1_5, k1_5, rfl, N5q, K5q, sz_b1_5, q0_5⟩ := hQ5
  have N5 := Fr.app N3 N5q
  have f6 := (A2.ext E4)
  have lt5_o1 := f6.lt
  have lt5_b4 := A4.lt
  have ne_o1_b1_5 : o1 ≠ b1_5 := Nat.ne_of_lt (Nat.lt_of_lt_of_le lt5_o1 sz_b1_5)
  have ne_b4_b1_5 : b4 ≠ b1_5 := Nat.ne_of_lt (Nat.lt_of_lt_of_le lt5_b4 sz_b1_5)
  have gn_b1_5 : n0 ≤ b1_5 := Nat.le_trans (Nat.le_trans Z0 K4.1) sz_b1_5
  have sz_b1_5' := Nat.le_trans K4.1 sz_b1_5
  replace sz_b1_5 := sz_b1_5'
  have f7 := (S0.ext E4)
  have f8 := (S1.ext E4)
  have K5 : Keep h0 h5 [] := K4.trans K5q all0
  have f9 := own_staK f7 K5q all0
  have f10 := own_staK f8 K5q all0
  refine step (T5.setTop (mkF m 21 #[.val (.int i1)] [(.ref b1_5), (.ref b4), (.ref b4)])) (fun t k => st5 t k) ?_
  refine step (T5.setTop (mkF m 22 #[.val (.int i1)] [(.int (0 : Int32)), (.ref b1_5), (.ref b4), (.ref b4)])) (fun t k => XS.iconst X5.here hx rfl (hb hby d1_21) k) ?_
  have f11 := (A4.keep K5q)
  have f12 := (F_coder_b4.keep K5q nin0)
  have f13 := (F_value_b4.keep K5q nin0)
  obtain ⟨_, _, ⟨T14, L14, k14, n14⟩, -, X14, ⟨Lc14, hQ14, l14, y14, z14⟩, st14⟩ := X5.specialBack hx (y := (⟨"java/lang/String", "<init>", "([BB)V"⟩ : MethodName)) rfl hown (mvT hZ (hw _ (List.mem_of_getElem? (i := 15) rfl))) (mvT hZ (hw _ (List.mem_of_getElem? (i := 16) rfl))) (mvT hZ (hw _ (List.mem_of_getElem? (i := 18) rfl))) (by decide) (backOf (W := 1) (rm4_4 l Z a0 hw [] b4 b1_5 o1 h5 n0 (Nat.le_trans Z0 K5.1) f10 f11 f12 f13 gn_b4 ne_b4_b1_5 (Ne.symm ne_o1_b4) gn_b1_5 (Ne.symm ne_o1_b1_5)) hZ (hw _ (List.mem_of_getElem? (i := 18) rfl)) (hw _ (List.mem_of_getElem? (i := 2) rfl)) (by decide) (by decide)) (g := (mkF m 22 #[.val (.int i1)] [(.int (0 : Int32)), (.ref b1_5), (.ref b4), (.ref b4)])) rfl (by rw [hml]; rfl) (Steps.refl _) (a := b4) (argsL := [(.ref b1_5), (.int (0 : Int32))]) (rest := [(.ref b4)]) (lenOf pd_8 rfl) rfl (by show 2 * 0 + _ ≤ _; exact Nat.le_of_eq rfl) (hb hby d1_22) (fun _ _ => ⟨rfl, e5, (by decide : 2 + 0 ≤ _), (by decide : 5 + 0 ≤ _)⟩)
  dsimp only [Pt.U, Pt.locs, Pt.cells, Pt.slots] at X14 l14 y14 z14 st14 hQ14
  subst l14 y14 z14
  obtain ⟨h14, e14⟩ : ∃ z, T14.heap = z := ⟨_, rfl⟩
  rw [e14] at hQ14
  obtain ⟨rfl, N14q, K14q, q0_14, q1_14⟩ := hQ14
  have N14 := Fr.app N5 N14q
  have K14 : Keep h0 h14 [] := K5.trans K14q (allS (Or.inr sz_b4) all0)
  have f15 := own_staK f9 K14q (allS (own_exaP f11) all0)
  have f16 := own_staK f10 K14q (allS (own_exaP f11) all0)
  refine step (T14.setTop (mkF m 25 #[.val (.int i1)] [(.ref b4)])) (fun t k => st14.trans k) ?_
  have f17 := (f11.keep K14q)
  have f18 := (q0_5.keep K14q (ninS (Ne.symm ne_b4_b1_5) nin0))
  refine fin (v := some (.ref b4)) X14 (fun h => by cases h) ?_ (by decide) (by decide) (fun fs hr => X14.areturnOut hx rfl hret rfl (hb hby d1_25) hr)
  show Q1_1 Z i1 i2 o1 kc3 h0 n0 (some (.ref b4)) T14.heap _
  rw [e14]
  exact ⟨b4, b1_5, k1_5, rfl, N14, K14, sz_b4, sz_b1_5, (Ne.symm ne_b4_b1_5), f17, q0_14, q1_14, f18⟩
theorem d6_0 : decode jdk_38_method_2_code 0 = .ok (.aload_n 0, 1) := by decide +kernel
theorem d6_1 : decode jdk_38_method_2_code 1 = .ok (.invokespecial 1, 3) := by decide +kernel
theorem d6_4 : decode jdk_38_method_2_code 4 = .ok (.aload_n 0, 1) := by decide +kernel
theorem d6_5 : decode jdk_38_method_2_code 5 = .ok (.getstatic 39, 3) := by decide +kernel
theorem d6_8 : decode jdk_38_method_2_code 8 = .ok (.putfield 9, 3) := by decide +kernel
theorem d6_11 : decode jdk_38_method_2_code 11 = .ok (.return_, 1) := by decide +kernel
theorem pn_3 : plainName "java/util/ArrayList" = true := by first | (simp [plainName, overriddenIn]; done) | decide +kernel
theorem d7_0 : decode jdk_39_method_1_code 0 = .ok (.aload_n 0, 1) := by decide +kernel
theorem d7_1 : decode jdk_39_method_1_code 1 = .ok (.invokespecial 1, 3) := by decide +kernel
theorem d7_4 : decode jdk_39_method_1_code 4 = .ok (.aload_n 0, 1) := by decide +kernel
theorem d7_5 : decode jdk_39_method_1_code 5 = .ok (.iconst 0, 1) := by decide +kernel
theorem d7_6 : decode jdk_39_method_1_code 6 = .ok (.putfield 7, 3) := by decide +kernel
theorem d7_9 : decode jdk_39_method_1_code 9 = .ok (.return_, 1) := by decide +kernel
theorem pn_4 : plainName "java/util/AbstractList" = true := by first | (simp [plainName, overriddenIn]; done) | decide +kernel
theorem d8_0 : decode jdk_22_method_1_code 0 = .ok (.aload_n 0, 1) := by decide +kernel
theorem d8_1 : decode jdk_22_method_1_code 1 = .ok (.invokespecial 1, 3) := by decide +kernel
theorem d8_4 : decode jdk_22_method_1_code 4 = .ok (.return_, 1) := by decide +kernel
theorem pn_5 : plainName "java/util/AbstractCollection" = true := by first | (simp [plainName, overriddenIn]; done) | decide +kernel
theorem ef_8_7 (m : MethodId) (x0 : Addr) : entryFrame m #[(.ref x0)] 1 = mkF m 0 #[.val (.ref x0)] [] := by first | (simp [entryFrame, mkF, argsToLocals, Value.category]; done) | rfl
def Q8_7 (Z : State) (o1 : Addr) (o2 : Addr) (h0 : Heap) (n0 : Nat) (v : Option Value) (h : Heap) (L : List Loc) : Prop := v = none ∧ Fr n0 L ∧ h = h0
set_option maxRecDepth 65536 in
set_option maxHeartbeats 40000000 in
theorem rm8_7 (l : Launch) (Z : State) (a0 : Array Value) (hw : ∀ d ∈ tables_1, d.before a0 Z = true) (ws : List Jvm.Cond) (o1 : Addr) (o2 : Addr) (h0 : Heap) (n0 : Nat) (Z0 : n0 ≤ h0.size) (S0 : Sta Z h0 "java/util/ArrayList" "DEFAULTCAPACITY_EMPTY_ELEMENTDATA" "[Ljava/lang/Object;" (.ref o2)) (A1 : Exa Z h0 o1 "java/util/ArrayList") (A2 : Fld Z h0 o1 "java/util/ArrayList" "elementData" "[Ljava/lang/Object;" .null) (A3 : Fld Z h0 o1 "java/util/AbstractList" "modCount" "I" (.int (0 : Int32))) (A4 : Fld Z h0 o1 "java/util/ArrayList" "size" "I" (.int (0 : Int32))) (gn_o1 : n0 ≤ o1) (ne_o1_o2 : o1 ≠ o2)  :
    MetFree l (⟨"java/util/AbstractCollection", "<init>", "()V"⟩ : MethodName) (head1 (Jvm.Cond.code (⟨"java/util/AbstractCollection", "<init>", "()V"⟩ : MethodName) jdk_22_method_1_code 1 none :: ws) ({ frames := 1, cells := 0, slots := 0, locals := 12 } : Room)) (fun a U => a = #[(.ref o1)] ∧ Z.Warmed39 U.vm ∧ U.heap = h0) (fun _ _ _ _ _ => True) (fun _ U o U' => ∃ v L, o = .returned v ∧ Q8_7 Z o1 o2 h0 n0 v U'.heap L ∧ FrameEnd U o U' L ({ frames := 1, cells := 0, slots := 0, locals := 12 } : Room).cells ({ frames := 1, cells := 0, slots := 0, locals := 12 } : Room).slots) := by
  refine own_body (plainFor_of_name pn_5) ?_
  intro p e s m below meth c s₁ G hx hby hml hZ hown hnm hret X0 e0 step fin
  replace hown : s.vm.findClass "java/util/AbstractCollection" = some m.cls := hown
  replace hnm : meth.name = "<init>" := hnm
  replace hret : meth.sig.returnType = none := hret
  replace hml : c.maxLocals = 1 := hml
  have N0 := Fr.nil n0
  refine step (s₁.setTop (mkF m 0 #[.val (.ref o1)] [])) (fun t k => castTop (ef_8_7 m o1) k) ?_
  refine step (s₁.setTop (mkF m 1 #[.val (.ref o1)] [(.ref o1)])) (fun t k => XS.aloadN X0.here hx rfl (hb hby d8_0) rfl rfl k) ?_
  obtain ⟨T1, X1, e1, st1⟩ := initO X0 hx hZ hown (hw _ (List.mem_of_getElem? (i := 44) rfl)) (hw _ (List.mem_of_getElem? (i := 20) rfl)) (hw _ (List.mem_of_getElem? (i := 21) rfl)) e0 (g := (mkF m 1 #[.val (.ref o1)] [(.ref o1)])) rfl (by rw [hml]; rfl) rfl (hb hby d8_1) (by decide) (W := 0) (by show 2 * 0 + _ ≤ _; exact Nat.le_of_eq rfl) (by decide)
  refine step (T1.setTop (mkF m 4 #[.val (.ref o1)] [])) (fun t k => st1 t k) ?_
  refine fin (v := none) X1 (fun _ => rfl) ?_ (by decide) (by decide) (fun fs hr => X1.returnOut hx hret (hb hby d8_4) hr)
  show Q8_7 Z o1 o2 h0 n0 (none) T1.heap _
  rw [e1]
  exact ⟨rfl, N0, rfl⟩
theorem ef_7_6 (m : MethodId) (x0 : Addr) : entryFrame m #[(.ref x0)] 1 = mkF m 0 #[.val (.ref x0)] [] := by first | (simp [entryFrame, mkF, argsToLocals, Value.category]; done) | rfl
def Q7_6 (Z : State) (o1 : Addr) (o2 : Addr) (h0 : Heap) (n0 : Nat) (v : Option Value) (h : Heap) (L : List Loc) : Prop := v = none ∧ Fr n0 L ∧ Keep h0 h [o1] ∧ Fld Z h o1 "java/util/ArrayList" "elementData" "[Ljava/lang/Object;" .null ∧ Fld Z h o1 "java/util/AbstractList" "modCount" "I" (.int (0 : Int32)) ∧ Fld Z h o1 "java/util/ArrayList" "size" "I" (.int (0 : Int32))
set_option maxRecDepth 65536 in
set_option maxHeartbeats 40000000 in
theorem rm7_6 (l : Launch) (Z : State) (a0 : Array Value) (hw : ∀ d ∈ tables_1, d.before a0 Z = true) (ws : List Jvm.Cond) (o1 : Addr) (o2 : Addr) (h0 : Heap) (n0 : Nat) (Z0 : n0 ≤ h0.size) (S0 : Sta Z h0 "java/util/ArrayList" "DEFAULTCAPACITY_EMPTY_ELEMENTDATA" "[Ljava/lang/Object;" (.ref o2)) (A1 : Exa Z h0 o1 "java/util/ArrayList") (A2 : Fld Z h0 o1 "java/util/ArrayList" "elementData" "[Ljava/lang/Object;" .null) (A3 : Fld Z h0 o1 "java/util/AbstractList" "modCount" "I" (.int (0 : Int32))) (A4 : Fld Z h0 o1 "java/util/ArrayList" "size" "I" (.int (0 : Int32))) (gn_o1 : n0 ≤ o1) (ne_o1_o2 : o1 ≠ o2)  :
    MetFree l (⟨"java/util/AbstractList", "<init>", "()V"⟩ : MethodName) (head1 (Jvm.Cond.code (⟨"java/util/AbstractList", "<init>", "()V"⟩ : MethodName) jdk_39_method_1_code 1 none :: ws) ({ frames := 2, cells := 0, slots := 0, locals := 24 } : Room)) (fun a U => a = #[(.ref o1)] ∧ Z.Warmed39 U.vm ∧ U.heap = h0) (fun _ _ _ _ _ => True) (fun _ U o U' => ∃ v L, o = .returned v ∧ Q7_6 Z o1 o2 h0 n0 v U'.heap L ∧ FrameEnd U o U' L ({ frames := 2, cells := 0, slots := 0, locals := 24 } : Room).cells ({ frames := 2, cells := 0, slots := 0, locals := 24 } : Room).slots) := by
  refine own_body (plainFor_of_name pn_4) ?_
  intro p e s m below meth c s₁ G hx hby hml hZ hown hnm hret X0 e0 step fin
  replace hown : s.vm.findClass "java/util/AbstractList" = some m.cls := hown
  replace hnm : meth.name = "<init>" := hnm
  replace hret : meth.sig.returnType = none := hret
  replace hml : c.maxLocals = 1 := hml
  have N0 := Fr.nil n0
  refine step (s₁.setTop (mkF m 0 #[.val (.ref o1)] [])) (fun t k => castTop (ef_7_6 m o1) k) ?_
  refine step (s₁.setTop (mkF m 1 #[.val (.ref o1)] [(.ref o1)])) (fun t k => XS.aloadN X0.here hx rfl (hb hby d7_0) rfl rfl k) ?_
  obtain ⟨_, _, ⟨T1, L1, k1, n1⟩, -, X1, ⟨Lc1, hQ1, l1, y1, z1⟩, st1⟩ := X0.specialBack hx (y := (⟨"java/util/AbstractCollection", "<init>", "()V"⟩ : MethodName)) rfl hown (mvT hZ (hw _ (List.mem_of_getElem? (i := 38) rfl))) (mvT hZ (hw _ (List.mem_of_getElem? (i := 39) rfl))) (mvT hZ (hw _ (List.mem_of_getElem? (i := 43) rfl))) (by decide) (backOf (W := 0) (rm8_7 l Z a0 hw [] o1 o2 h0 n0 Z0 S0 A1 A2 A3 A4 gn_o1 ne_o1_o2) hZ (hw _ (List.mem_of_getElem? (i := 43) rfl)) (hw _ (List.mem_of_getElem? (i := 42) rfl)) (by decide) (by decide)) (g := (mkF m 1 #[.val (.ref o1)] [(.ref o1)])) rfl (by rw [hml]; rfl) (Steps.refl _) (a := o1) (argsL := []) (rest := []) (lenOf pd_1 rfl) rfl (by show 2 * 0 + _ ≤ _; exact Nat.le_of_eq rfl) (hb hby d7_1) (fun _ _ => ⟨rfl, e0, (by decide : 0 + 0 ≤ _), (by decide : 0 + 0 ≤ _)⟩)
  dsimp only [Pt.U, Pt.locs, Pt.cells, Pt.slots] at X1 l1 y1 z1 st1 hQ1
  subst l1 y1 z1
  obtain ⟨rfl, N1q, e1q⟩ := hQ1
  have N1 := Fr.app N0 N1q
  refine step (T1.setTop (mkF m 4 #[.val (.ref o1)] [])) (fun t k => st1.trans k) ?_
  refine step (T1.setTop (mkF m 5 #[.val (.ref o1)] [(.ref o1)])) (fun t k => XS.aloadN X1.here hx rfl (hb hby d7_4) rfl rfl k) ?_
  refine step (T1.setTop (mkF m 6 #[.val (.ref o1)] [(.int (0 : Int32)), (.ref o1)])) (fun t k => XS.iconst X1.here hx rfl (hb hby d7_5) k) ?_
  obtain ⟨T2, h2, X2, e2, W2, st2⟩ := putF X1 hx hZ hown (host := "") (Or.inl (hw _ (List.mem_of_getElem? (i := 45) rfl))) Via.refl e1q A3 A1 (Or.inl (hw _ (List.mem_of_getElem? (i := 46) rfl))) (hw _ (List.mem_of_getElem? (i := 27) rfl)) (ty := .int) (by decide) rfl rfl (g := (mkF m 6 #[.val (.ref o1)] [(.int (0 : Int32)), (.ref o1)])) rfl rfl (hb hby d7_6)
  have N2 := Fr.snoc X2 N1 gn_o1
  have K2 : Keep h0 h2 [o1] := (Keep.refl h0 [o1]).wr W2 (Or.inl (List.mem_of_getElem? (i := 0) rfl))
  have F2 := A3.same W2
  refine step (T2.setTop (mkF m 9 #[.val (.ref o1)] [])) (fun t k => st2 t k) ?_
  have f3 := (A2.other W2 (Or.inr (slot_ne (Or.inl (hw _ (List.mem_of_getElem? (i := 49) rfl))) (Or.inl (hw _ (List.mem_of_getElem? (i := 46) rfl))) (by decide) (t := (.array (.object "java/lang/Object"))) (t' := .int) (by decide) (by decide))))
  have f4 := (A4.other W2 (Or.inr (slot_ne (Or.inl (hw _ (List.mem_of_getElem? (i := 61) rfl))) (Or.inl (hw _ (List.mem_of_getElem? (i := 46) rfl))) (by decide) (t := .int) (t' := .int) (by decide) (by decide))))
  refine fin (v := none) X2 (fun _ => rfl) ?_ (by decide) (by decide) (fun fs hr => X2.returnOut hx hret (hb hby d7_9) hr)
  show Q7_6 Z o1 o2 h0 n0 (none) T2.heap _
  rw [e2]
  exact ⟨rfl, N2, K2, f3, F2, f4⟩
theorem ef_6_5 (m : MethodId) (x0 : Addr) : entryFrame m #[(.ref x0)] 1 = mkF m 0 #[.val (.ref x0)] [] := by first | (simp [entryFrame, mkF, argsToLocals, Value.category]; done) | rfl
def Q6_5 (Z : State) (o1 : Addr) (o2 : Addr) (h0 : Heap) (n0 : Nat) (v : Option Value) (h : Heap) (L : List Loc) : Prop := v = none ∧ Fr n0 L ∧ Keep h0 h [o1] ∧ Fld Z h o1 "java/util/ArrayList" "elementData" "[Ljava/lang/Object;" (.ref o2) ∧ Fld Z h o1 "java/util/AbstractList" "modCount" "I" (.int (0 : Int32)) ∧ Fld Z h o1 "java/util/ArrayList" "size" "I" (.int (0 : Int32))
set_option maxRecDepth 65536 in
set_option maxHeartbeats 40000000 in
theorem rm6_5 (l : Launch) (Z : State) (a0 : Array Value) (hw : ∀ d ∈ tables_1, d.before a0 Z = true) (ws : List Jvm.Cond) (o1 : Addr) (o2 : Addr) (h0 : Heap) (n0 : Nat) (Z0 : n0 ≤ h0.size) (S0 : Sta Z h0 "java/util/ArrayList" "DEFAULTCAPACITY_EMPTY_ELEMENTDATA" "[Ljava/lang/Object;" (.ref o2)) (A1 : Exa Z h0 o1 "java/util/ArrayList") (A2 : Fld Z h0 o1 "java/util/ArrayList" "elementData" "[Ljava/lang/Object;" .null) (A3 : Fld Z h0 o1 "java/util/AbstractList" "modCount" "I" (.int (0 : Int32))) (A4 : Fld Z h0 o1 "java/util/ArrayList" "size" "I" (.int (0 : Int32))) (gn_o1 : n0 ≤ o1) (ne_o1_o2 : o1 ≠ o2)  :
    MetFree l (⟨"java/util/ArrayList", "<init>", "()V"⟩ : MethodName) (head1 (Jvm.Cond.code (⟨"java/util/ArrayList", "<init>", "()V"⟩ : MethodName) jdk_38_method_2_code 1 none :: ws) ({ frames := 3, cells := 0, slots := 0, locals := 36 } : Room)) (fun a U => a = #[(.ref o1)] ∧ Z.Warmed39 U.vm ∧ U.heap = h0) (fun _ _ _ _ _ => True) (fun _ U o U' => ∃ v L, o = .returned v ∧ Q6_5 Z o1 o2 h0 n0 v U'.heap L ∧ FrameEnd U o U' L ({ frames := 3, cells := 0, slots := 0, locals := 36 } : Room).cells ({ frames := 3, cells := 0, slots := 0, locals := 36 } : Room).slots) := by
  refine own_body (plainFor_of_name pn_3) ?_
  intro p e s m below meth c s₁ G hx hby hml hZ hown hnm hret X0 e0 step fin
  replace hown : s.vm.findClass "java/util/ArrayList" = some m.cls := hown
  replace hnm : meth.name = "<init>" := hnm
  replace hret : meth.sig.returnType = none := hret
  replace hml : c.maxLocals = 1 := hml
  have N0 := Fr.nil n0
  refine step (s₁.setTop (mkF m 0 #[.val (.ref o1)] [])) (fun t k => castTop (ef_6_5 m o1) k) ?_
  refine step (s₁.setTop (mkF m 1 #[.val (.ref o1)] [(.ref o1)])) (fun t k => XS.aloadN X0.here hx rfl (hb hby d6_0) rfl rfl k) ?_
  obtain ⟨_, _, ⟨T1, L1, k1, n1⟩, -, X1, ⟨Lc1, hQ1, l1, y1, z1⟩, st1⟩ := X0.specialBack hx (y := (⟨"java/util/AbstractList", "<init>", "()V"⟩ : MethodName)) rfl hown (mvT hZ (hw _ (List.mem_of_getElem? (i := 32) rfl))) (mvT hZ (hw _ (List.mem_of_getElem? (i := 33) rfl))) (mvT hZ (hw _ (List.mem_of_getElem? (i := 37) rfl))) (by decide) (backOf (W := 0) (rm7_6 l Z a0 hw [] o1 o2 h0 n0 Z0 S0 A1 A2 A3 A4 gn_o1 ne_o1_o2) hZ (hw _ (List.mem_of_getElem? (i := 37) rfl)) (hw _ (List.mem_of_getElem? (i := 36) rfl)) (by decide) (by decide)) (g := (mkF m 1 #[.val (.ref o1)] [(.ref o1)])) rfl (by rw [hml]; rfl) (Steps.refl _) (a := o1) (argsL := []) (rest := []) (lenOf pd_1 rfl) rfl (by show 2 * 0 + _ ≤ _; exact Nat.le_of_eq rfl) (hb hby d6_1) (fun _ _ => ⟨rfl, e0, (by decide : 0 + 0 ≤ _), (by decide : 0 + 0 ≤ _)⟩)
  dsimp only [Pt.U, Pt.locs, Pt.cells, Pt.slots] at X1 l1 y1 z1 st1 hQ1
  subst l1 y1 z1
  obtain ⟨h1, e1⟩ : ∃ z, T1.heap = z := ⟨_, rfl⟩
  rw [e1] at hQ1
  obtain ⟨rfl, N1q, K1q, q0_1, q1_1, q2_1⟩ := hQ1
  have N1 := Fr.app N0 N1q
  have K1 : Keep h0 h1 [o1] := (Keep.refl h0 [o1]).trans K1q (allS (Or.inl (List.mem_of_getElem? (i := 0) rfl)) all0)
  have f2 := own_staK S0 K1q (allS (own_exaP A1) all0)
  refine step (T1.setTop (mkF m 4 #[.val (.ref o1)] [])) (fun t k => st1.trans k) ?_
  refine step (T1.setTop (mkF m 5 #[.val (.ref o1)] [(.ref o1)])) (fun t k => XS.aloadN X1.here hx rfl (hb hby d6_4) rfl rfl k) ?_
  obtain ⟨T3, X3, e3, st3⟩ := getS2 X1 hx hZ hown (host := "") (Or.inl (hw _ (List.mem_of_getElem? (i := 47) rfl))) Via.refl e1 f2 (g := (mkF m 5 #[.val (.ref o1)] [(.ref o1)])) rfl (hb hby d6_5)
  refine step (T3.setTop (mkF m 8 #[.val (.ref o1)] [(.ref o2), (.ref o1)])) (fun t k => st3 t k) ?_
  have f4 := (A1.keep K1q)
  obtain ⟨T5, h5, X5, e5, W5, st5⟩ := putF X3 hx hZ hown (host := "") (Or.inl (hw _ (List.mem_of_getElem? (i := 48) rfl))) Via.refl e3 q0_1 f4 (Or.inl (hw _ (List.mem_of_getElem? (i := 49) rfl))) (hw _ (List.mem_of_getElem? (i := 27) rfl)) (ty := (.array (.object "java/lang/Object"))) (by decide) rfl rfl (g := (mkF m 8 #[.val (.ref o1)] [(.ref o2), (.ref o1)])) rfl rfl (hb hby d6_8)
  have N5 := Fr.snoc X5 N1 gn_o1
  have K5 : Keep h0 h5 [o1] := K1.wr W5 (Or.inl (List.mem_of_getElem? (i := 0) rfl))
  have F5 := q0_1.same W5
  refine step (T5.setTop (mkF m 11 #[.val (.ref o1)] [])) (fun t k => st5 t k) ?_
  have f6 := (q1_1.other W5 (Or.inr (slot_ne (Or.inl (hw _ (List.mem_of_getElem? (i := 46) rfl))) (Or.inl (hw _ (List.mem_of_getElem? (i := 49) rfl))) (by decide) (t := .int) (t' := (.array (.object "java/lang/Object"))) (by decide) (by decide))))
  have f7 := (q2_1.other W5 (Or.inr (slot_ne (Or.inl (hw _ (List.mem_of_getElem? (i := 61) rfl))) (Or.inl (hw _ (List.mem_of_getElem? (i := 49) rfl))) (by decide) (t := .int) (t' := (.array (.object "java/lang/Object"))) (by decide) (by decide))))
  refine fin (v := none) X5 (fun _ => rfl) ?_ (by decide) (by decide) (fun fs hr => X5.returnOut hx hret (hb hby d6_11) hr)
  show Q6_5 Z o1 o2 h0 n0 (none) T5.heap _
  rw [e5]
  exact ⟨rfl, N5, K5, F5, f6, f7⟩
theorem d9_0 : decode prog_16_method_2_code 0 = .ok (.aload_n 0, 1) := by decide +kernel
theorem d9_1 : decode prog_16_method_2_code 1 = .ok (.ifnonnull 13, 3) := by decide +kernel
theorem d9_4 : decode prog_16_method_2_code 4 = .ok (.new 7, 3) := by decide +kernel
theorem d9_7 : decode prog_16_method_2_code 7 = .ok (.dup, 1) := by decide +kernel
theorem d9_8 : decode prog_16_method_2_code 8 = .ok (.ldc 9, 2) := by decide +kernel
theorem d9_10 : decode prog_16_method_2_code 10 = .ok (.invokespecial 11, 3) := by decide +kernel
theorem d9_13 : decode prog_16_method_2_code 13 = .ok (.athrow, 1) := by decide +kernel
theorem d9_14 : decode prog_16_method_2_code 14 = .ok (.aload_n 0, 1) := by decide +kernel
theorem d9_15 : decode prog_16_method_2_code 15 = .ok (.areturn, 1) := by decide +kernel
theorem pn_6 : plainName "com/example/dibs/dibs/sketch/Items" = true := by first | (simp [plainName, overriddenIn]; done) | decide +kernel
theorem ef_9_8 (m : MethodId) (x0 : Addr) : entryFrame m #[(.ref x0)] 1 = mkF m 0 #[.val (.ref x0)] [] := by first | (simp [entryFrame, mkF, argsToLocals, Value.category]; done) | rfl
def Q9_8 (Z : State) (o1 : Addr) (h0 : Heap) (n0 : Nat) (v : Option Value) (h : Heap) (L : List Loc) : Prop := v = some (.ref o1) ∧ Fr n0 L ∧ h = h0
set_option maxRecDepth 65536 in
set_option maxHeartbeats 40000000 in
theorem rm9_8 (l : Launch) (Z : State) (a0 : Array Value) (hw : ∀ d ∈ tables_1, d.before a0 Z = true) (ws : List Jvm.Cond) (o1 : Addr) (h0 : Heap) (n0 : Nat) (Z0 : n0 ≤ h0.size) (A0 : Exa Z h0 o1 "java/util/ArrayList") (gn_o1 : n0 ≤ o1)  :
    MetFree l (⟨"com/example/dibs/dibs/sketch/Items", "requireBatch", "(Ljava/util/Collection;)Ljava/util/Collection;"⟩ : MethodName) (head1 (Jvm.Cond.code (⟨"com/example/dibs/dibs/sketch/Items", "requireBatch", "(Ljava/util/Collection;)Ljava/util/Collection;"⟩ : MethodName) prog_16_method_2_code 1 (some (.object "java/util/Collection")) :: ws) ({ frames := 0, cells := 0, slots := 0, locals := 0 } : Room)) (fun a U => a = #[(.ref o1)] ∧ Z.Warmed39 U.vm ∧ U.heap = h0) (fun _ _ _ _ _ => True) (fun _ U o U' => ∃ v L, o = .returned v ∧ Q9_8 Z o1 h0 n0 v U'.heap L ∧ FrameEnd U o U' L ({ frames := 0, cells := 0, slots := 0, locals := 0 } : Room).cells ({ frames := 0, cells := 0, slots := 0, locals := 0 } : Room).slots) := by
  refine own_body (plainFor_of_name pn_6) ?_
  intro p e s m below meth c s₁ G hx hby hml hZ hown hnm hret X0 e0 step fin
  replace hown : s.vm.findClass "com/example/dibs/dibs/sketch/Items" = some m.cls := hown
  replace hnm : meth.name = "requireBatch" := hnm
  replace hret : meth.sig.returnType = some (.object "java/util/Collection") := hret
  replace hml : c.maxLocals = 1 := hml
  have N0 := Fr.nil n0
  refine step (s₁.setTop (mkF m 0 #[.val (.ref o1)] [])) (fun t k => castTop (ef_9_8 m o1) k) ?_
  refine step (s₁.setTop (mkF m 1 #[.val (.ref o1)] [(.ref o1)])) (fun t k => XS.aloadN X0.here hx rfl (hb hby d9_0) rfl rfl k) ?_
  refine step (s₁.setTop (mkF m 14 #[.val (.ref o1)] [])) (fun t k => XS.ifnonnullYes X0.here hx rfl (pc0 := 1) (pc' := 14) rfl (hb hby d9_1) rfl (by decide) (by decide) k) ?_
  refine step (s₁.setTop (mkF m 15 #[.val (.ref o1)] [(.ref o1)])) (fun t k => XS.aloadN X0.here hx rfl (hb hby d9_14) rfl rfl k) ?_
  refine fin (v := some (.ref o1)) X0 (fun h => by cases h) ?_ (by decide) (by decide) (fun fs hr => X0.areturnOut hx rfl hret rfl (hb hby d9_15) hr)
  show Q9_8 Z o1 h0 n0 (some (.ref o1)) s₁.heap _
  rw [e0]
  exact ⟨rfl, N0, rfl⟩
theorem d10_0 : decode jdk_38_method_8_code 0 = .ok (.aload_n 0, 1) := by decide +kernel
theorem d10_1 : decode jdk_38_method_8_code 1 = .ok (.getfield 48, 3) := by decide +kernel
theorem d10_4 : decode jdk_38_method_8_code 4 = .ok (.ireturn, 1) := by decide +kernel
theorem ef_10_9 (m : MethodId) (x0 : Addr) : entryFrame m #[(.ref x0)] 1 = mkF m 0 #[.val (.ref x0)] [] := by first | (simp [entryFrame, mkF, argsToLocals, Value.category]; done) | rfl
def Q10_9 (Z : State) (o1 : Addr) (h0 : Heap) (n0 : Nat) (v : Option Value) (h : Heap) (L : List Loc) : Prop := v = some (.int (0 : Int32)) ∧ Fr n0 L ∧ h = h0
set_option maxRecDepth 65536 in
set_option maxHeartbeats 40000000 in
theorem rm10_9 (l : Launch) (Z : State) (a0 : Array Value) (hw : ∀ d ∈ tables_1, d.before a0 Z = true) (ws : List Jvm.Cond) (o1 : Addr) (h0 : Heap) (n0 : Nat) (Z0 : n0 ≤ h0.size) (A0 : Exa Z h0 o1 "java/util/ArrayList") (A1 : Fld Z h0 o1 "java/util/ArrayList" "size" "I" (.int (0 : Int32))) (gn_o1 : n0 ≤ o1)  :
    MetFree l (⟨"java/util/ArrayList", "size", "()I"⟩ : MethodName) (head1 (Jvm.Cond.code (⟨"java/util/ArrayList", "size", "()I"⟩ : MethodName) jdk_38_method_8_code 1 (some .int) :: ws) ({ frames := 0, cells := 0, slots := 0, locals := 0 } : Room)) (fun a U => a = #[(.ref o1)] ∧ Z.Warmed39 U.vm ∧ U.heap = h0) (fun _ _ _ _ _ => True) (fun _ U o U' => ∃ v L, o = .returned v ∧ Q10_9 Z o1 h0 n0 v U'.heap L ∧ FrameEnd U o U' L ({ frames := 0, cells := 0, slots := 0, locals := 0 } : Room).cells ({ frames := 0, cells := 0, slots := 0, locals := 0 } : Room).slots) := by
  refine own_body (plainFor_of_name pn_3) ?_
  intro p e s m below meth c s₁ G hx hby hml hZ hown hnm hret X0 e0 step fin
  replace hown : s.vm.findClass "java/util/ArrayList" = some m.cls := hown
  replace hnm : meth.name = "size" := hnm
  replace hret : meth.sig.returnType = some .int := hret
  replace hml : c.maxLocals = 1 := hml
  have N0 := Fr.nil n0
  refine step (s₁.setTop (mkF m 0 #[.val (.ref o1)] [])) (fun t k => castTop (ef_10_9 m o1) k) ?_
  refine step (s₁.setTop (mkF m 1 #[.val (.ref o1)] [(.ref o1)])) (fun t k => XS.aloadN X0.here hx rfl (hb hby d10_0) rfl rfl k) ?_
  obtain ⟨T1, X1, e1, st1⟩ := getF X0 hx hZ hown (host := "") (Or.inl (hw _ (List.mem_of_getElem? (i := 60) rfl))) Via.refl e0 A1 (g := (mkF m 1 #[.val (.ref o1)] [(.ref o1)])) rfl rfl (hb hby d10_1)
  refine step (T1.setTop (mkF m 4 #[.val (.ref o1)] [(.int (0 : Int32))])) (fun t k => st1 t k) ?_
  refine fin (v := some (.int (0 : Int32))) X1 (fun h => by cases h) ?_ (by decide) (by decide) (fun fs hr => retI X1 hx hret (hb hby d10_4) hr)
  show Q10_9 Z o1 h0 n0 (some (.int (0 : Int32))) T1.heap _
  rw [e1]
  exact ⟨rfl, N0, rfl⟩
theorem d11_0 : decode jdk_38_method_25_code 0 = .ok (.aload_n 0, 1) := by decide +kernel
theorem d11_1 : decode jdk_38_method_25_code 1 = .ok (.dup, 1) := by decide +kernel
theorem d11_2 : decode jdk_38_method_25_code 2 = .ok (.getfield 63, 3) := by decide +kernel
theorem d11_5 : decode jdk_38_method_25_code 5 = .ok (.iconst 1, 1) := by decide +kernel
theorem d11_6 : decode jdk_38_method_25_code 6 = .ok (.iadd, 1) := by decide +kernel
theorem d11_7 : decode jdk_38_method_25_code 7 = .ok (.putfield 63, 3) := by decide +kernel
theorem d11_10 : decode jdk_38_method_25_code 10 = .ok (.aload_n 0, 1) := by decide +kernel
theorem d11_11 : decode jdk_38_method_25_code 11 = .ok (.aload_n 1, 1) := by decide +kernel
theorem d11_12 : decode jdk_38_method_25_code 12 = .ok (.aload_n 0, 1) := by decide +kernel
theorem d11_13 : decode jdk_38_method_25_code 13 = .ok (.getfield 9, 3) := by decide +kernel
theorem d11_16 : decode jdk_38_method_25_code 16 = .ok (.aload_n 0, 1) := by decide +kernel
theorem d11_17 : decode jdk_38_method_25_code 17 = .ok (.getfield 48, 3) := by decide +kernel
theorem d11_20 : decode jdk_38_method_25_code 20 = .ok (.invokevirtual 131, 3) := by decide +kernel
theorem d11_23 : decode jdk_38_method_25_code 23 = .ok (.iconst 1, 1) := by decide +kernel
theorem d11_24 : decode jdk_38_method_25_code 24 = .ok (.ireturn, 1) := by decide +kernel
theorem pd_9 : parseMethodDescriptor "(Ljava/lang/Object;[Ljava/lang/Object;I)V" = some ⟨[(.object "java/lang/Object"), (.array (.object "java/lang/Object")), .int], none⟩ := by decide +kernel
theorem d12_0 : decode jdk_38_method_24_code 0 = .ok (.iload_n 3, 1) := by decide +kernel
theorem d12_1 : decode jdk_38_method_24_code 1 = .ok (.aload_n 2, 1) := by decide +kernel
theorem d12_2 : decode jdk_38_method_24_code 2 = .ok (.arraylength, 1) := by decide +kernel
theorem d12_3 : decode jdk_38_method_24_code 3 = .ok (.if_icmp .ne 8, 3) := by decide +kernel
theorem d12_6 : decode jdk_38_method_24_code 6 = .ok (.aload_n 0, 1) := by decide +kernel
theorem d12_7 : decode jdk_38_method_24_code 7 = .ok (.invokevirtual 129, 3) := by decide +kernel
theorem d12_10 : decode jdk_38_method_24_code 10 = .ok (.astore_n 2, 1) := by decide +kernel
theorem d12_11 : decode jdk_38_method_24_code 11 = .ok (.aload_n 2, 1) := by decide +kernel
theorem d12_12 : decode jdk_38_method_24_code 12 = .ok (.iload_n 3, 1) := by decide +kernel
theorem d12_13 : decode jdk_38_method_24_code 13 = .ok (.aload_n 1, 1) := by decide +kernel
theorem d12_14 : decode jdk_38_method_24_code 14 = .ok (.aastore, 1) := by decide +kernel
theorem d12_15 : decode jdk_38_method_24_code 15 = .ok (.aload_n 0, 1) := by decide +kernel
theorem d12_16 : decode jdk_38_method_24_code 16 = .ok (.iload_n 3, 1) := by decide +kernel
theorem d12_17 : decode jdk_38_method_24_code 17 = .ok (.iconst 1, 1) := by decide +kernel
theorem d12_18 : decode jdk_38_method_24_code 18 = .ok (.iadd, 1) := by decide +kernel
theorem d12_19 : decode jdk_38_method_24_code 19 = .ok (.putfield 48, 3) := by decide +kernel
theorem d12_22 : decode jdk_38_method_24_code 22 = .ok (.return_, 1) := by decide +kernel
theorem pd_10 : parseMethodDescriptor "()[Ljava/lang/Object;" = some ⟨[], some (.array (.object "java/lang/Object"))⟩ := by decide +kernel
theorem d13_0 : decode jdk_38_method_7_code 0 = .ok (.aload_n 0, 1) := by decide +kernel
theorem d13_1 : decode jdk_38_method_7_code 1 = .ok (.aload_n 0, 1) := by decide +kernel
theorem d13_2 : decode jdk_38_method_7_code 2 = .ok (.getfield 48, 3) := by decide +kernel
theorem d13_5 : decode jdk_38_method_7_code 5 = .ok (.iconst 1, 1) := by decide +kernel
theorem d13_6 : decode jdk_38_method_7_code 6 = .ok (.iadd, 1) := by decide +kernel
theorem d13_7 : decode jdk_38_method_7_code 7 = .ok (.invokevirtual 69, 3) := by decide +kernel
theorem d13_10 : decode jdk_38_method_7_code 10 = .ok (.areturn, 1) := by decide +kernel
theorem pd_11 : parseMethodDescriptor "(I)[Ljava/lang/Object;" = some ⟨[.int], some (.array (.object "java/lang/Object"))⟩ := by decide +kernel
theorem d14_0 : decode jdk_38_method_6_code 0 = .ok (.aload_n 0, 1) := by decide +kernel
theorem d14_1 : decode jdk_38_method_6_code 1 = .ok (.getfield 9, 3) := by decide +kernel
theorem d14_4 : decode jdk_38_method_6_code 4 = .ok (.arraylength, 1) := by decide +kernel
theorem d14_5 : decode jdk_38_method_6_code 5 = .ok (.istore_n 2, 1) := by decide +kernel
theorem d14_6 : decode jdk_38_method_6_code 6 = .ok (.iload_n 2, 1) := by decide +kernel
theorem d14_7 : decode jdk_38_method_6_code 7 = .ok (.ifCond .gt 13, 3) := by decide +kernel
theorem d14_10 : decode jdk_38_method_6_code 10 = .ok (.aload_n 0, 1) := by decide +kernel
theorem d14_11 : decode jdk_38_method_6_code 11 = .ok (.getfield 9, 3) := by decide +kernel
theorem d14_14 : decode jdk_38_method_6_code 14 = .ok (.getstatic 39, 3) := by decide +kernel
theorem d14_17 : decode jdk_38_method_6_code 17 = .ok (.if_acmp .eq 28, 3) := by decide +kernel
theorem d14_20 : decode jdk_38_method_6_code 20 = .ok (.iload_n 2, 1) := by decide +kernel
theorem d14_21 : decode jdk_38_method_6_code 21 = .ok (.iload_n 1, 1) := by decide +kernel
theorem d14_22 : decode jdk_38_method_6_code 22 = .ok (.iload_n 2, 1) := by decide +kernel
theorem d14_23 : decode jdk_38_method_6_code 23 = .ok (.isub, 1) := by decide +kernel
theorem d14_24 : decode jdk_38_method_6_code 24 = .ok (.iload_n 2, 1) := by decide +kernel
theorem d14_25 : decode jdk_38_method_6_code 25 = .ok (.iconst 1, 1) := by decide +kernel
theorem d14_26 : decode jdk_38_method_6_code 26 = .ok (.ishr, 1) := by decide +kernel
theorem d14_27 : decode jdk_38_method_6_code 27 = .ok (.invokestatic 73, 3) := by decide +kernel
theorem d14_30 : decode jdk_38_method_6_code 30 = .ok (.istore_n 3, 1) := by decide +kernel
theorem d14_31 : decode jdk_38_method_6_code 31 = .ok (.aload_n 0, 1) := by decide +kernel
theorem d14_32 : decode jdk_38_method_6_code 32 = .ok (.aload_n 0, 1) := by decide +kernel
theorem d14_33 : decode jdk_38_method_6_code 33 = .ok (.getfield 9, 3) := by decide +kernel
theorem d14_36 : decode jdk_38_method_6_code 36 = .ok (.iload_n 3, 1) := by decide +kernel
theorem d14_37 : decode jdk_38_method_6_code 37 = .ok (.invokestatic 66, 3) := by decide +kernel
theorem d14_40 : decode jdk_38_method_6_code 40 = .ok (.dup_x1, 1) := by decide +kernel
theorem d14_41 : decode jdk_38_method_6_code 41 = .ok (.putfield 9, 3) := by decide +kernel
theorem d14_44 : decode jdk_38_method_6_code 44 = .ok (.areturn, 1) := by decide +kernel
theorem d14_45 : decode jdk_38_method_6_code 45 = .ok (.aload_n 0, 1) := by decide +kernel
theorem d14_46 : decode jdk_38_method_6_code 46 = .ok (.bipush 10, 2) := by decide +kernel
theorem d14_48 : decode jdk_38_method_6_code 48 = .ok (.iload_n 1, 1) := by decide +kernel
theorem d14_49 : decode jdk_38_method_6_code 49 = .ok (.invokestatic 79, 3) := by decide +kernel
theorem d14_52 : decode jdk_38_method_6_code 52 = .ok (.anewarray 7, 3) := by decide +kernel
theorem d14_55 : decode jdk_38_method_6_code 55 = .ok (.dup_x1, 1) := by decide +kernel
theorem d14_56 : decode jdk_38_method_6_code 56 = .ok (.putfield 9, 3) := by decide +kernel
theorem d14_59 : decode jdk_38_method_6_code 59 = .ok (.areturn, 1) := by decide +kernel
theorem pd_12 : parseMethodDescriptor "(II)I" = some ⟨[.int, .int], some .int⟩ := by decide +kernel
theorem d15_0 : decode jdk_29_method_65_code 0 = .ok (.iload_n 0, 1) := by decide +kernel
theorem d15_1 : decode jdk_29_method_65_code 1 = .ok (.iload_n 1, 1) := by decide +kernel
theorem d15_2 : decode jdk_29_method_65_code 2 = .ok (.if_icmp .lt 7, 3) := by decide +kernel
theorem d15_5 : decode jdk_29_method_65_code 5 = .ok (.iload_n 0, 1) := by decide +kernel
theorem d15_6 : decode jdk_29_method_65_code 6 = .ok (.goto 4, 3) := by decide +kernel
theorem d15_9 : decode jdk_29_method_65_code 9 = .ok (.iload_n 1, 1) := by decide +kernel
theorem d15_10 : decode jdk_29_method_65_code 10 = .ok (.ireturn, 1) := by decide +kernel
theorem ef_15_14 (m : MethodId)  : entryFrame m #[(.int (10 : Int32)), (.int (1 : Int32))] 2 = mkF m 0 #[.val (.int (10 : Int32)), .val (.int (1 : Int32))] [] := by first | (simp [entryFrame, mkF, argsToLocals, Value.category]; done) | rfl
def Q15_14 (Z : State)  (h0 : Heap) (n0 : Nat) (v : Option Value) (h : Heap) (L : List Loc) : Prop := v = some (.int (10 : Int32)) ∧ Fr n0 L ∧ h = h0
set_option maxRecDepth 65536 in
set_option maxHeartbeats 40000000 in
theorem rm15_14 (l : Launch) (Z : State) (a0 : Array Value) (hw : ∀ d ∈ tables_1, d.before a0 Z = true) (ws : List Jvm.Cond)  (h0 : Heap) (n0 : Nat) (Z0 : n0 ≤ h0.size)  :
    MetFree l (⟨"java/lang/Math", "max", "(II)I"⟩ : MethodName) (head1 (Jvm.Cond.code (⟨"java/lang/Math", "max", "(II)I"⟩ : MethodName) jdk_29_method_65_code 2 (some .int) :: ws) ({ frames := 0, cells := 0, slots := 0, locals := 0 } : Room)) (fun a U => a = #[(.int (10 : Int32)), (.int (1 : Int32))] ∧ Z.Warmed39 U.vm ∧ U.heap = h0) (fun _ _ _ _ _ => True) (fun _ U o U' => ∃ v L, o = .returned v ∧ Q15_14 Z  h0 n0 v U'.heap L ∧ FrameEnd U o U' L ({ frames := 0, cells := 0, slots := 0, locals := 0 } : Room).cells ({ frames := 0, cells := 0, slots := 0, locals := 0 } : Room).slots) := by
  refine own_body (Jvm.Free.JP.mathPlain rfl (by decide +kernel)) ?_
  intro p e s m below meth c s₁ G hx hby hml hZ hown hnm hret X0 e0 step fin
  replace hown : s.vm.findClass "java/lang/Math" = some m.cls := hown
  replace hnm : meth.name = "max" := hnm
  replace hret : meth.sig.returnType = some .int := hret
  replace hml : c.maxLocals = 2 := hml
  have N0 := Fr.nil n0
  refine step (s₁.setTop (mkF m 0 #[.val (.int (10 : Int32)), .val (.int (1 : Int32))] [])) (fun t k => castTop (ef_15_14 m ) k) ?_
  refine step (s₁.setTop (mkF m 1 #[.val (.int (10 : Int32)), .val (.int (1 : Int32))] [(.int (10 : Int32))])) (fun t k => XS.iloadN X0.here hx rfl (hb hby d15_0) rfl k) ?_
  refine step (s₁.setTop (mkF m 2 #[.val (.int (10 : Int32)), .val (.int (1 : Int32))] [(.int (1 : Int32)), (.int (10 : Int32))])) (fun t k => XS.iloadN X0.here hx rfl (hb hby d15_1) rfl k) ?_
  refine step (s₁.setTop (mkF m 5 #[.val (.int (10 : Int32)), .val (.int (1 : Int32))] [])) (fun t k => XS.icmpNo X0.here hx rfl (hb hby d15_2) rfl (flt (by decide : ¬ ((10 : Int32) < (1 : Int32)))).1 k) ?_
  refine step (s₁.setTop (mkF m 6 #[.val (.int (10 : Int32)), .val (.int (1 : Int32))] [(.int (10 : Int32))])) (fun t k => XS.iloadN X0.here hx rfl (hb hby d15_5) rfl k) ?_
  refine step (s₁.setTop (mkF m 10 #[.val (.int (10 : Int32)), .val (.int (1 : Int32))] [(.int (10 : Int32))])) (fun t k => XS.goto X0.here hx rfl (pc0 := 6) (pc' := 10) rfl (hb hby d15_6) (by decide) (by decide) k) ?_
  refine fin (v := some (.int (10 : Int32))) X0 (fun h => by cases h) ?_ (by decide) (by decide) (fun fs hr => retI X0 hx hret (hb hby d15_10) hr)
  show Q15_14 Z  h0 n0 (some (.int (10 : Int32))) s₁.heap _
  rw [e0]
  exact ⟨rfl, N0, rfl⟩
theorem ef_14_13 (m : MethodId) (x0 : Addr) : entryFrame m #[(.ref x0), (.int (1 : Int32))] 4 = mkF m 0 #[.val (.ref x0), .val (.int (1 : Int32)), .unset, .unset] [] := by first | (simp [entryFrame, mkF, argsToLocals, Value.category]; done) | rfl
def Q14_13 (Z : State) (o1 : Addr) (o2 : Addr) (kc1 : ClassId) (h0 : Heap) (n0 : Nat) (v : Option Value) (h : Heap) (L : List Loc) : Prop := ∃ (b6 : Addr) (k6 : ClassId), v = some (.ref b6) ∧ Fr n0 L ∧ Keep h0 h [o1] ∧ h0.size ≤ b6 ∧ Fld Z h o1 "java/util/ArrayList" "elementData" "[Ljava/lang/Object;" (.ref b6) ∧ Fld Z h o1 "java/util/AbstractList" "modCount" "I" (.int (1 : Int32)) ∧ Fld Z h o1 "java/util/ArrayList" "size" "I" (.int (0 : Int32)) ∧ Arv Z h b6 k6 (.object "java/lang/Object") (10 : Int32) [.null, .null, .null, .null, .null, .null, .null, .null, .null, .null] .null ∧ Ovr Z k6 "java/lang/Object"
set_option maxRecDepth 65536 in
set_option maxHeartbeats 40000000 in
theorem rm14_13 (l : Launch) (Z : State) (a0 : Array Value) (hw : ∀ d ∈ tables_1, d.before a0 Z = true) (ws : List Jvm.Cond) (o1 : Addr) (o2 : Addr) (kc1 : ClassId) (h0 : Heap) (n0 : Nat) (Z0 : n0 ≤ h0.size) (S0 : Sta Z h0 "java/util/ArrayList" "DEFAULTCAPACITY_EMPTY_ELEMENTDATA" "[Ljava/lang/Object;" (.ref o2)) (A1 : Exa Z h0 o1 "java/util/ArrayList") (A2 : Fld Z h0 o1 "java/util/ArrayList" "elementData" "[Ljava/lang/Object;" (.ref o2)) (A3 : Fld Z h0 o1 "java/util/AbstractList" "modCount" "I" (.int (1 : Int32))) (A4 : Fld Z h0 o1 "java/util/ArrayList" "size" "I" (.int (0 : Int32))) (A5 : Arv Z h0 o2 kc1 (.object "java/lang/Object") (0 : Int32) [] .null) (gn_o1 : n0 ≤ o1) (ne_o1_o2 : o1 ≠ o2)  :
    MetFree l (⟨"java/util/ArrayList", "grow", "(I)[Ljava/lang/Object;"⟩ : MethodName) (head1 (Jvm.Cond.code (⟨"java/util/ArrayList", "grow", "(I)[Ljava/lang/Object;"⟩ : MethodName) jdk_38_method_6_code 4 (some (.array (.object "java/lang/Object"))) :: ws) ({ frames := 1, cells := 1, slots := 10, locals := 14 } : Room)) (fun a U => a = #[(.ref o1), (.int (1 : Int32))] ∧ Z.Warmed39 U.vm ∧ U.heap = h0) (fun _ _ _ _ _ => True) (fun _ U o U' => ∃ v L, o = .returned v ∧ Q14_13 Z o1 o2 kc1 h0 n0 v U'.heap L ∧ FrameEnd U o U' L ({ frames := 1, cells := 1, slots := 10, locals := 14 } : Room).cells ({ frames := 1, cells := 1, slots := 10, locals := 14 } : Room).slots) := by
  refine own_body (plainFor_of_name pn_3) ?_
  intro p e s m below meth c s₁ G hx hby hml hZ hown hnm hret X0 e0 step fin
  replace hown : s.vm.findClass "java/util/ArrayList" = some m.cls := hown
  replace hnm : meth.name = "grow" := hnm
  replace hret : meth.sig.returnType = some (.array (.object "java/lang/Object")) := hret
  replace hml : c.maxLocals = 4 := hml
  have N0 := Fr.nil n0
  refine step (s₁.setTop (mkF m 0 #[.val (.ref o1), .val (.int (1 : Int32)), .unset, .unset] [])) (fun t k => castTop (ef_14_13 m o1) k) ?_
  refine step (s₁.setTop (mkF m 1 #[.val (.ref o1), .val (.int (1 : Int32)), .unset, .unset] [(.ref o1)])) (fun t k => XS.aloadN X0.here hx rfl (hb hby d14_0) rfl rfl k) ?_
  obtain ⟨T1, X1, e1, st1⟩ := getF X0 hx hZ hown (host := "") (Or.inl (hw _ (List.mem_of_getElem? (i := 48) rfl))) Via.refl e0 A2 (g := (mkF m 1 #[.val (.ref o1), .val (.int (1 : Int32)), .unset, .unset] [(.ref o1)])) rfl rfl (hb hby d14_1)
  refine step (T1.setTop (mkF m 4 #[.val (.ref o1), .val (.int (1 : Int32)), .unset, .unset] [(.ref o2)])) (fun t k => st1 t k) ?_
  obtain ⟨cl2, Ar2, q2, S2, N2n, H2, G2⟩ := id A5
  refine step (T1.setTop (mkF m 5 #[.val (.ref o1), .val (.int (1 : Int32)), .unset, .unset] [(.int (0 : Int32))])) (fun t k => X1.arraylength hx (by rw [e1]; exact Ar2.1) (State.isArrayOf_alike hZ.alike Ar2.2.1) (g := (mkF m 4 #[.val (.ref o1), .val (.int (1 : Int32)), .unset, .unset] [(.ref o2)])) rfl rfl (hb hby d14_4) t (by rw [len_of S2 N2n]; exact k)) ?_
  refine step (T1.setTop (mkF m 6 #[.val (.ref o1), .val (.int (1 : Int32)), .val (.int (0 : Int32)), .unset] [])) (fun t k => XS.istoreN X1.here hx rfl (hb hby d14_5) rfl (l' := #[.val (.ref o1), .val (.int (1 : Int32)), .val (.int (0 : Int32)), .unset]) rfl k) ?_
  refine step (T1.setTop (mkF m 7 #[.val (.ref o1), .val (.int (1 : Int32)), .val (.int (0 : Int32)), .unset] [(.int (0 : Int32))])) (fun t k => XS.iloadN X1.here hx rfl (hb hby d14_6) rfl k) ?_
  refine step (T1.setTop (mkF m 10 #[.val (.ref o1), .val (.int (1 : Int32)), .val (.int (0 : Int32)), .unset] [])) (fun t k => XS.ifNo X1.here hx rfl (hb hby d14_7) rfl ((if0 _ _).trans (flt (by decide : ¬ ((0 : Int32) < (0 : Int32)))).2.2.1) k) ?_
  refine step (T1.setTop (mkF m 11 #[.val (.ref o1), .val (.int (1 : Int32)), .val (.int (0 : Int32)), .unset] [(.ref o1)])) (fun t k => XS.aloadN X1.here hx rfl (hb hby d14_10) rfl rfl k) ?_
  obtain ⟨T3, X3, e3, st3⟩ := getF X1 hx hZ hown (host := "") (Or.inl (hw _ (List.mem_of_getElem? (i := 48) rfl))) Via.refl e1 A2 (g := (mkF m 11 #[.val (.ref o1), .val (.int (1 : Int32)), .val (.int (0 : Int32)), .unset] [(.ref o1)])) rfl rfl (hb hby d14_11)
  refine step (T3.setTop (mkF m 14 #[.val (.ref o1), .val (.int (1 : Int32)), .val (.int (0 : Int32)), .unset] [(.ref o2)])) (fun t k => st3 t k) ?_
  obtain ⟨T4, X4, e4, st4⟩ := getS2 X3 hx hZ hown (host := "") (Or.inl (hw _ (List.mem_of_getElem? (i := 47) rfl))) Via.refl e3 S0 (g := (mkF m 14 #[.val (.ref o1), .val (.int (1 : Int32)), .val (.int (0 : Int32)), .unset] [(.ref o2)])) rfl (hb hby d14_14)
  refine step (T4.setTop (mkF m 17 #[.val (.ref o1), .val (.int (1 : Int32)), .val (.int (0 : Int32)), .unset] [(.ref o2), (.ref o2)])) (fun t k => st4 t k) ?_
  refine step (T4.setTop (mkF m 45 #[.val (.ref o1), .val (.int (1 : Int32)), .val (.int (0 : Int32)), .unset] [])) (fun t k => Jvm.RoadKit.acmp (g := (mkF m 17 #[.val (.ref o1), .val (.int (1 : Int32)), .val (.int (0 : Int32)), .unset] [(.ref o2), (.ref o2)])) X4 hx rfl rfl rfl (pc0 := 17) (pc' := 45) (same := true) rfl (hb hby d14_17) rfl (decide_eq_true rfl) (by decide) (by decide) k) ?_
  refine step (T4.setTop (mkF m 46 #[.val (.ref o1), .val (.int (1 : Int32)), .val (.int (0 : Int32)), .unset] [(.ref o1)])) (fun t k => XS.aloadN X4.here hx rfl (hb hby d14_45) rfl rfl k) ?_
  refine step (T4.setTop (mkF m 48 #[.val (.ref o1), .val (.int (1 : Int32)), .val (.int (0 : Int32)), .unset] [(.int (10 : Int32)), (.ref o1)])) (fun t k => XS.bipush X4.here hx rfl (hb hby d14_46) k) ?_
  refine step (T4.setTop (mkF m 49 #[.val (.ref o1), .val (.int (1 : Int32)), .val (.int (0 : Int32)), .unset] [(.int (1 : Int32)), (.int (10 : Int32)), (.ref o1)])) (fun t k => XS.iloadN X4.here hx rfl (hb hby d14_48) rfl k) ?_
  obtain ⟨_, _, ⟨T5, L5, k5, n5⟩, -, X5, ⟨Lc5, hQ5, l5, y5, z5⟩, st5⟩ := Jvm.LawKit.callS X4 hx (y := (⟨"java/lang/Math", "max", "(II)I"⟩ : MethodName)) hown (mvT hZ (hw _ (List.mem_of_getElem? (i := 84) rfl))) (mvT hZ (hw _ (List.mem_of_getElem? (i := 85) rfl))) (mvT hZ (hw _ (List.mem_of_getElem? (i := 86) rfl))) (mvT hZ (hw _ (List.mem_of_getElem? (i := 87) rfl))) (by decide) (backOf (W := 1) (rm15_14 l Z a0 hw []  h0 n0 Z0 ) hZ (hw _ (List.mem_of_getElem? (i := 87) rfl)) (hw _ (List.mem_of_getElem? (i := 86) rfl)) (by decide) (by decide)) (g := (mkF m 49 #[.val (.ref o1), .val (.int (1 : Int32)), .val (.int (0 : Int32)), .unset] [(.int (1 : Int32)), (.int (10 : Int32)), (.ref o1)])) rfl (by rw [hml]; rfl) (argsL := [(.int (10 : Int32)), (.int (1 : Int32))]) (rest := [(.ref o1)]) (lenOf pd_12 rfl) rfl (by show 2 * 0 + _ ≤ _; exact Nat.le_of_eq rfl) (hb hby d14_49) (fun _ _ => ⟨rfl, e4, (by decide : 0 + 0 ≤ _), (by decide : 0 + 0 ≤ _)⟩)
  dsimp only [Pt.U, Pt.locs, Pt.cells, Pt.slots] at X5 l5 y5 z5 st5 hQ5
  subst l5 y5 z5
  obtain ⟨rfl, N5q, e5q⟩ := hQ5
  have N5 := Fr.app N0 N5q
  refine step (T5.setTop (mkF m 52 #[.val (.ref o1), .val (.int (1 : Int32)), .val (.int (0 : Int32)), .unset] [(.int (10 : Int32)), (.ref o1)])) (fun t k => st5 t k) ?_
  obtain ⟨T6, h6, k6, X6, e6, E6, A6, O6, st6⟩ := newR X5 hx hZ hown (hw _ (List.mem_of_getElem? (i := 88) rfl)) (hw _ (List.mem_of_getElem? (i := 89) rfl)) e5q (g := (mkF m 52 #[.val (.ref o1), .val (.int (1 : Int32)), .val (.int (0 : Int32)), .unset] [(.int (10 : Int32)), (.ref o1)])) rfl (hb hby d14_52) rfl (by decide) (cap := 10) (by decide) (by decide) (by decide) (by decide)
  obtain ⟨b6, g6⟩ : ∃ z, z = h0.size := ⟨_, rfl⟩
  rw [← g6] at A6 st6
  have ne_o1_b6 : o1 ≠ b6 := Nat.ne_of_lt (Nat.lt_of_lt_of_le A1.lt (Nat.le_of_eq g6.symm))
  have ne_o2_b6 : o2 ≠ b6 := Nat.ne_of_lt (Nat.lt_of_lt_of_le A5.lt (Nat.le_of_eq g6.symm))
  have gn_b6 : n0 ≤ b6 := Nat.le_trans Z0 (Nat.le_of_eq g6.symm)
  have sz_b6 : h0.size ≤ b6 := Nat.le_of_eq g6.symm
  have K6 : Keep h0 h6 [o1] := (Keep.refl h0 [o1]).ext E6
  have V6 : Arv Z h6 b6 k6 (.object "java/lang/Object") (10 : Int32) [.null, .null, .null, .null, .null, .null, .null, .null, .null, .null] .null := (Arv.new A6 (by decide)).pad (pad_rep [] .null 10)
  refine step (T6.setTop (mkF m 55 #[.val (.ref o1), .val (.int (1 : Int32)), .val (.int (0 : Int32)), .unset] [(.ref b6), (.ref o1)])) (fun t k => st6 t k) ?_
  refine step (T6.setTop (mkF m 56 #[.val (.ref o1), .val (.int (1 : Int32)), .val (.int (0 : Int32)), .unset] [(.ref b6), (.ref o1), (.ref b6)])) (fun t k => XS.dupX1 X6.here hx rfl (hb hby d14_55) rfl rfl rfl k) ?_
  have f7 := (A1.ext E6)
  have f8 := (A2.ext E6)
  obtain ⟨T9, h9, X9, e9, W9, st9⟩ := putF X6 hx hZ hown (host := "") (Or.inl (hw _ (List.mem_of_getElem? (i := 48) rfl))) Via.refl e6 f8 f7 (Or.inl (hw _ (List.mem_of_getElem? (i := 49) rfl))) (hw _ (List.mem_of_getElem? (i := 27) rfl)) (ty := (.array (.object "java/lang/Object"))) (by decide) rfl rfl (g := (mkF m 56 #[.val (.ref o1), .val (.int (1 : Int32)), .val (.int (0 : Int32)), .unset] [(.ref b6), (.ref o1), (.ref b6)])) rfl rfl (hb hby d14_56)
  have N9 := Fr.snoc X9 N5 gn_o1
  have K9 : Keep h0 h9 [o1] := K6.wr W9 (Or.inl (List.mem_of_getElem? (i := 0) rfl))
  have F9 := f8.same W9
  refine step (T9.setTop (mkF m 59 #[.val (.ref o1), .val (.int (1 : Int32)), .val (.int (0 : Int32)), .unset] [(.ref b6)])) (fun t k => st9 t k) ?_
  have f10 := ((A3.ext E6).other W9 (Or.inr (slot_ne (Or.inl (hw _ (List.mem_of_getElem? (i := 46) rfl))) (Or.inl (hw _ (List.mem_of_getElem? (i := 49) rfl))) (by decide) (t := .int) (t' := (.array (.object "java/lang/Object"))) (by decide) (by decide))))
  have f11 := ((A4.ext E6).other W9 (Or.inr (slot_ne (Or.inl (hw _ (List.mem_of_getElem? (i := 61) rfl))) (Or.inl (hw _ (List.mem_of_getElem? (i := 49) rfl))) (by decide) (t := .int) (t' := (.array (.object "java/lang/Object"))) (by decide) (by decide))))
  have f12 := (V6.other W9 (Ne.symm ne_o1_b6))
  refine fin (v := some (.ref b6)) X9 (fun h => by cases h) ?_ (by decide) (by decide) (fun fs hr => X9.areturnOut hx rfl hret rfl (hb hby d14_59) hr)
  show Q14_13 Z o1 o2 kc1 h0 n0 (some (.ref b6)) T9.heap _
  rw [e9]
  exact ⟨b6, k6, rfl, N9, K9, sz_b6, F9, f10, f11, f12, O6⟩
theorem ef_13_12 (m : MethodId) (x0 : Addr) : entryFrame m #[(.ref x0)] 1 = mkF m 0 #[.val (.ref x0)] [] := by first | (simp [entryFrame, mkF, argsToLocals, Value.category]; done) | rfl
def Q13_12 (Z : State) (o1 : Addr) (o2 : Addr) (kc1 : ClassId) (h0 : Heap) (n0 : Nat) (v : Option Value) (h : Heap) (L : List Loc) : Prop := ∃ (b6_2 : Addr) (k6_2 : ClassId), v = some (.ref b6_2) ∧ Fr n0 L ∧ Keep h0 h [o1] ∧ h0.size ≤ b6_2 ∧ Fld Z h o1 "java/util/ArrayList" "elementData" "[Ljava/lang/Object;" (.ref b6_2) ∧ Fld Z h o1 "java/util/AbstractList" "modCount" "I" (.int (1 : Int32)) ∧ Fld Z h o1 "java/util/ArrayList" "size" "I" (.int (0 : Int32)) ∧ Arv Z h b6_2 k6_2 (.object "java/lang/Object") (10 : Int32) [.null, .null, .null, .null, .null, .null, .null, .null, .null, .null] .null ∧ Ovr Z k6_2 "java/lang/Object"
set_option maxRecDepth 65536 in
set_option maxHeartbeats 40000000 in
theorem rm13_12 (l : Launch) (Z : State) (a0 : Array Value) (hw : ∀ d ∈ tables_1, d.before a0 Z = true) (ws : List Jvm.Cond) (o1 : Addr) (o2 : Addr) (kc1 : ClassId) (h0 : Heap) (n0 : Nat) (Z0 : n0 ≤ h0.size) (S0 : Sta Z h0 "java/util/ArrayList" "DEFAULTCAPACITY_EMPTY_ELEMENTDATA" "[Ljava/lang/Object;" (.ref o2)) (A1 : Exa Z h0 o1 "java/util/ArrayList") (A2 : Fld Z h0 o1 "java/util/ArrayList" "elementData" "[Ljava/lang/Object;" (.ref o2)) (A3 : Fld Z h0 o1 "java/util/AbstractList" "modCount" "I" (.int (1 : Int32))) (A4 : Fld Z h0 o1 "java/util/ArrayList" "size" "I" (.int (0 : Int32))) (A5 : Arv Z h0 o2 kc1 (.object "java/lang/Object") (0 : Int32) [] .null) (gn_o1 : n0 ≤ o1) (ne_o1_o2 : o1 ≠ o2)  :
    MetFree l (⟨"java/util/ArrayList", "grow", "()[Ljava/lang/Object;"⟩ : MethodName) (head1 (Jvm.Cond.code (⟨"java/util/ArrayList", "grow", "()[Ljava/lang/Object;"⟩ : MethodName) jdk_38_method_7_code 1 (some (.array (.object "java/lang/Object"))) :: ws) ({ frames := 2, cells := 1, slots := 10, locals := 29 } : Room)) (fun a U => a = #[(.ref o1)] ∧ Z.Warmed39 U.vm ∧ U.heap = h0) (fun _ _ _ _ _ => True) (fun _ U o U' => ∃ v L, o = .returned v ∧ Q13_12 Z o1 o2 kc1 h0 n0 v U'.heap L ∧ FrameEnd U o U' L ({ frames := 2, cells := 1, slots := 10, locals := 29 } : Room).cells ({ frames := 2, cells := 1, slots := 10, locals := 29 } : Room).slots) := by
  refine own_body (plainFor_of_name pn_3) ?_
  intro p e s m below meth c s₁ G hx hby hml hZ hown hnm hret X0 e0 step fin
  replace hown : s.vm.findClass "java/util/ArrayList" = some m.cls := hown
  replace hnm : meth.name = "grow" := hnm
  replace hret : meth.sig.returnType = some (.array (.object "java/lang/Object")) := hret
  replace hml : c.maxLocals = 1 := hml
  have N0 := Fr.nil n0
  refine step (s₁.setTop (mkF m 0 #[.val (.ref o1)] [])) (fun t k => castTop (ef_13_12 m o1) k) ?_
  refine step (s₁.setTop (mkF m 1 #[.val (.ref o1)] [(.ref o1)])) (fun t k => XS.aloadN X0.here hx rfl (hb hby d13_0) rfl rfl k) ?_
  refine step (s₁.setTop (mkF m 2 #[.val (.ref o1)] [(.ref o1), (.ref o1)])) (fun t k => XS.aloadN X0.here hx rfl (hb hby d13_1) rfl rfl k) ?_
  obtain ⟨T1, X1, e1, st1⟩ := getF X0 hx hZ hown (host := "") (Or.inl (hw _ (List.mem_of_getElem? (i := 60) rfl))) Via.refl e0 A4 (g := (mkF m 2 #[.val (.ref o1)] [(.ref o1), (.ref o1)])) rfl rfl (hb hby d13_2)
  refine step (T1.setTop (mkF m 5 #[.val (.ref o1)] [(.int (0 : Int32)), (.ref o1)])) (fun t k => st1 t k) ?_
  refine step (T1.setTop (mkF m 6 #[.val (.ref o1)] [(.int (1 : Int32)), (.int (0 : Int32)), (.ref o1)])) (fun t k => XS.iconst X1.here hx rfl (hb hby d13_5) k) ?_
  refine step (T1.setTop (mkF m 7 #[.val (.ref o1)] [(.int (1 : Int32)), (.ref o1)])) (fun t k => XS.iadd X1.here hx rfl (hb hby d13_6) rfl k) ?_
  obtain ⟨cq2, q2, q2'⟩ := A1.cell
  obtain ⟨_, _, ⟨T2, L2, k2, n2⟩, -, X2, ⟨Lc2, hQ2, l2, y2, z2⟩, st2⟩ := X1.privateBack hx (y := (⟨"java/util/ArrayList", "grow", "(I)[Ljava/lang/Object;"⟩ : MethodName)) hown (mvT hZ (hw _ (List.mem_of_getElem? (i := 79) rfl))) (mvT hZ (hw _ (List.mem_of_getElem? (i := 80) rfl))) (mvT hZ (hw _ (List.mem_of_getElem? (i := 82) rfl))) (Cond.privateMethod_at (mvP hZ (hw _ (List.mem_of_getElem? (i := 81) rfl)) (args := #[]))) (mvT hZ (hw _ (List.mem_of_getElem? (i := 83) rfl))) (by decide) (backOf (W := 0) (rm14_13 l Z a0 hw [] o1 o2 kc1 h0 n0 Z0 S0 A1 A2 A3 A4 A5 gn_o1 ne_o1_o2) hZ (hw _ (List.mem_of_getElem? (i := 83) rfl)) (hw _ (List.mem_of_getElem? (i := 28) rfl)) (by decide) (by decide)) (g := (mkF m 7 #[.val (.ref o1)] [(.int (1 : Int32)), (.ref o1)])) rfl (by rw [hml]; rfl) (Steps.refl _) (a := o1) (by rw [e1]; exact q2) q2' (argsL := [(.int (1 : Int32))]) (rest := []) (lenOf pd_11 rfl) rfl (by show 2 * 0 + _ ≤ _; exact Nat.le_of_eq rfl) (hb hby d13_7) (fun _ _ => ⟨rfl, e1, (by decide : 0 + 1 ≤ _), (by decide : 0 + 10 ≤ _)⟩)
  dsimp only [Pt.U, Pt.locs, Pt.cells, Pt.slots] at X2 l2 y2 z2 st2 hQ2
  subst l2 y2 z2
  obtain ⟨h2, e2⟩ : ∃ z, T2.heap = z := ⟨_, rfl⟩
  rw [e2] at hQ2
  obtain ⟨b6_2, k6_2, rfl, N2q, K2q, sz_b6_2, q0_2, q1_2, q2_2, q3_2, ov0_2⟩ := hQ2
  have N2 := Fr.app N0 N2q
  have lt2_o1 := A1.lt
  have lt2_o2 := A5.lt
  have ne_o1_b6_2 : o1 ≠ b6_2 := Nat.ne_of_lt (Nat.lt_of_lt_of_le lt2_o1 sz_b6_2)
  have ne_o2_b6_2 : o2 ≠ b6_2 := Nat.ne_of_lt (Nat.lt_of_lt_of_le lt2_o2 sz_b6_2)
  have gn_b6_2 : n0 ≤ b6_2 := Nat.le_trans Z0 sz_b6_2
  have K2 : Keep h0 h2 [o1] := (Keep.refl h0 [o1]).trans K2q (allS (Or.inl (List.mem_of_getElem? (i := 0) rfl)) all0)
  have f3 := own_staK S0 K2q (allS (own_exaP A1) all0)
  refine step (T2.setTop (mkF m 10 #[.val (.ref o1)] [(.ref b6_2)])) (fun t k => st2.trans k) ?_
  refine fin (v := some (.ref b6_2)) X2 (fun h => by cases h) ?_ (by decide) (by decide) (fun fs hr => X2.areturnOut hx rfl hret rfl (hb hby d13_10) hr)
  show Q13_12 Z o1 o2 kc1 h0 n0 (some (.ref b6_2)) T2.heap _
  rw [e2]
  exact ⟨b6_2, k6_2, rfl, N2, K2, sz_b6_2, q0_2, q1_2, q2_2, q3_2, ov0_2⟩
theorem ef_12_11 (m : MethodId) (x0 : Addr) (x1 : Addr) (x2 : Addr) : entryFrame m #[(.ref x0), (.ref x1), (.ref x2), (.int (0 : Int32))] 4 = mkF m 0 #[.val (.ref x0), .val (.ref x1), .val (.ref x2), .val (.int (0 : Int32))] [] := by first | (simp [entryFrame, mkF, argsToLocals, Value.category]; done) | rfl
def Q12_11 (Z : State) (o1 : Addr) (o2 : Addr) (o3 : Addr) (kc1 : ClassId) (h0 : Heap) (n0 : Nat) (v : Option Value) (h : Heap) (L : List Loc) : Prop := ∃ (b6_2_2 : Addr) (k6_2_2 : ClassId), v = none ∧ Fr n0 L ∧ Keep h0 h [o1] ∧ h0.size ≤ b6_2_2 ∧ Fld Z h o1 "java/util/ArrayList" "elementData" "[Ljava/lang/Object;" (.ref b6_2_2) ∧ Fld Z h o1 "java/util/AbstractList" "modCount" "I" (.int (1 : Int32)) ∧ Fld Z h o1 "java/util/ArrayList" "size" "I" (.int (1 : Int32)) ∧ Arv Z h b6_2_2 k6_2_2 (.object "java/lang/Object") (10 : Int32) [(.ref o2), .null, .null, .null, .null, .null, .null, .null, .null, .null] .null ∧ Ovr Z k6_2_2 "java/lang/Object"
set_option maxRecDepth 65536 in
set_option maxHeartbeats 40000000 in
theorem rm12_11 (l : Launch) (Z : State) (a0 : Array Value) (hw : ∀ d ∈ tables_1, d.before a0 Z = true) (ws : List Jvm.Cond) (o1 : Addr) (o2 : Addr) (o3 : Addr) (kc1 : ClassId) (h0 : Heap) (n0 : Nat) (Z0 : n0 ≤ h0.size) (S0 : Sta Z h0 "java/util/ArrayList" "DEFAULTCAPACITY_EMPTY_ELEMENTDATA" "[Ljava/lang/Object;" (.ref o3)) (A1 : Exa Z h0 o1 "java/util/ArrayList") (A2 : Fld Z h0 o1 "java/util/ArrayList" "elementData" "[Ljava/lang/Object;" (.ref o3)) (A3 : Fld Z h0 o1 "java/util/AbstractList" "modCount" "I" (.int (1 : Int32))) (A4 : Fld Z h0 o1 "java/util/ArrayList" "size" "I" (.int (0 : Int32))) (A5 : Exa Z h0 o2 "java/lang/String") (A6 : Arv Z h0 o3 kc1 (.object "java/lang/Object") (0 : Int32) [] .null) (gn_o1 : n0 ≤ o1) (ne_o1_o2 : o1 ≠ o2) (ne_o1_o3 : o1 ≠ o3) (gn_o2 : n0 ≤ o2) (ne_o2_o3 : o2 ≠ o3)  :
    MetFree l (⟨"java/util/ArrayList", "add", "(Ljava/lang/Object;[Ljava/lang/Object;I)V"⟩ : MethodName) (head1 (Jvm.Cond.code (⟨"java/util/ArrayList", "add", "(Ljava/lang/Object;[Ljava/lang/Object;I)V"⟩ : MethodName) jdk_38_method_24_code 4 none :: ws) ({ frames := 3, cells := 1, slots := 10, locals := 41 } : Room)) (fun a U => a = #[(.ref o1), (.ref o2), (.ref o3), (.int (0 : Int32))] ∧ Z.Warmed39 U.vm ∧ U.heap = h0) (fun _ _ _ _ _ => True) (fun _ U o U' => ∃ v L, o = .returned v ∧ Q12_11 Z o1 o2 o3 kc1 h0 n0 v U'.heap L ∧ FrameEnd U o U' L ({ frames := 3, cells := 1, slots := 10, locals := 41 } : Room).cells ({ frames := 3, cells := 1, slots := 10, locals := 41 } : Room).slots) := by
  refine own_body (plainFor_of_name pn_3) ?_
  intro p e s m below meth c s₁ G hx hby hml hZ hown hnm hret X0 e0 step fin
  replace hown : s.vm.findClass "java/util/ArrayList" = some m.cls := hown
  replace hnm : meth.name = "add" := hnm
  replace hret : meth.sig.returnType = none := hret
  replace hml : c.maxLocals = 4 := hml
  have N0 := Fr.nil n0
  refine step (s₁.setTop (mkF m 0 #[.val (.ref o1), .val (.ref o2), .val (.ref o3), .val (.int (0 : Int32))] [])) (fun t k => castTop (ef_12_11 m o1 o2 o3) k) ?_
  refine step (s₁.setTop (mkF m 1 #[.val (.ref o1), .val (.ref o2), .val (.ref o3), .val (.int (0 : Int32))] [(.int (0 : Int32))])) (fun t k => XS.iloadN X0.here hx rfl (hb hby d12_0) rfl k) ?_
  refine step (s₁.setTop (mkF m 2 #[.val (.ref o1), .val (.ref o2), .val (.ref o3), .val (.int (0 : Int32))] [(.ref o3), (.int (0 : Int32))])) (fun t k => XS.aloadN X0.here hx rfl (hb hby d12_1) rfl rfl k) ?_
  obtain ⟨cl1, Ar1, q1, S1, N1n, H1, G1⟩ := id A6
  refine step (s₁.setTop (mkF m 3 #[.val (.ref o1), .val (.ref o2), .val (.ref o3), .val (.int (0 : Int32))] [(.int (0 : Int32)), (.int (0 : Int32))])) (fun t k => X0.arraylength hx (by rw [e0]; exact Ar1.1) (State.isArrayOf_alike hZ.alike Ar1.2.1) (g := (mkF m 2 #[.val (.ref o1), .val (.ref o2), .val (.ref o3), .val (.int (0 : Int32))] [(.ref o3), (.int (0 : Int32))])) rfl rfl (hb hby d12_2) t (by rw [len_of S1 N1n]; exact k)) ?_
  refine step (s₁.setTop (mkF m 6 #[.val (.ref o1), .val (.ref o2), .val (.ref o3), .val (.int (0 : Int32))] [])) (fun t k => XS.icmpNo X0.here hx rfl (hb hby d12_3) rfl (teq (by decide : (0 : Int32) = (0 : Int32))).2 k) ?_
  refine step (s₁.setTop (mkF m 7 #[.val (.ref o1), .val (.ref o2), .val (.ref o3), .val (.int (0 : Int32))] [(.ref o1)])) (fun t k => XS.aloadN X0.here hx rfl (hb hby d12_6) rfl rfl k) ?_
  obtain ⟨cq2, q2, q2'⟩ := A1.cell
  obtain ⟨_, _, ⟨T2, L2, k2, n2⟩, -, X2, ⟨Lc2, hQ2, l2, y2, z2⟩, st2⟩ := X0.privateBack hx (y := (⟨"java/util/ArrayList", "grow", "()[Ljava/lang/Object;"⟩ : MethodName)) hown (mvT hZ (hw _ (List.mem_of_getElem? (i := 74) rfl))) (mvT hZ (hw _ (List.mem_of_getElem? (i := 75) rfl))) (mvT hZ (hw _ (List.mem_of_getElem? (i := 77) rfl))) (Cond.privateMethod_at (mvP hZ (hw _ (List.mem_of_getElem? (i := 76) rfl)) (args := #[]))) (mvT hZ (hw _ (List.mem_of_getElem? (i := 78) rfl))) (by decide) (backOf (W := 0) (rm13_12 l Z a0 hw [] o1 o3 kc1 h0 n0 Z0 S0 A1 A2 A3 A4 A6 gn_o1 ne_o1_o3) hZ (hw _ (List.mem_of_getElem? (i := 78) rfl)) (hw _ (List.mem_of_getElem? (i := 28) rfl)) (by decide) (by decide)) (g := (mkF m 7 #[.val (.ref o1), .val (.ref o2), .val (.ref o3), .val (.int (0 : Int32))] [(.ref o1)])) rfl (by rw [hml]; rfl) (Steps.refl _) (a := o1) (by rw [e0]; exact q2) q2' (argsL := []) (rest := []) (lenOf pd_10 rfl) rfl (by show 2 * 0 + _ ≤ _; exact Nat.le_of_eq rfl) (hb hby d12_7) (fun _ _ => ⟨rfl, e0, (by decide : 0 + 1 ≤ _), (by decide : 0 + 10 ≤ _)⟩)
  dsimp only [Pt.U, Pt.locs, Pt.cells, Pt.slots] at X2 l2 y2 z2 st2 hQ2
  subst l2 y2 z2
  obtain ⟨h2, e2⟩ : ∃ z, T2.heap = z := ⟨_, rfl⟩
  rw [e2] at hQ2
  obtain ⟨b6_2_2, k6_2_2, rfl, N2q, K2q, sz_b6_2_2, q0_2, q1_2, q2_2, q3_2, ov0_2⟩ := hQ2
  have N2 := Fr.app N0 N2q
  have lt2_o1 := A1.lt
  have lt2_o2 := A5.lt
  have lt2_o3 := A6.lt
  have ne_o1_b6_2_2 : o1 ≠ b6_2_2 := Nat.ne_of_lt (Nat.lt_of_lt_of_le lt2_o1 sz_b6_2_2)
  have ne_o2_b6_2_2 : o2 ≠ b6_2_2 := Nat.ne_of_lt (Nat.lt_of_lt_of_le lt2_o2 sz_b6_2_2)
  have ne_o3_b6_2_2 : o3 ≠ b6_2_2 := Nat.ne_of_lt (Nat.lt_of_lt_of_le lt2_o3 sz_b6_2_2)
  have gn_b6_2_2 : n0 ≤ b6_2_2 := Nat.le_trans Z0 sz_b6_2_2
  have K2 : Keep h0 h2 [o1] := (Keep.refl h0 [o1]).trans K2q (allS (Or.inl (List.mem_of_getElem? (i := 0) rfl)) all0)
  have f3 := own_staK S0 K2q (allS (own_exaP A1) all0)
  refine step (T2.setTop (mkF m 10 #[.val (.ref o1), .val (.ref o2), .val (.ref o3), .val (.int (0 : Int32))] [(.ref b6_2_2)])) (fun t k => st2.trans k) ?_
  refine step (T2.setTop (mkF m 11 #[.val (.ref o1), .val (.ref o2), .val (.ref b6_2_2), .val (.int (0 : Int32))] [])) (fun t k => XS.astoreN X2.here hx rfl (hb hby d12_10) rfl rfl (l' := #[.val (.ref o1), .val (.ref o2), .val (.ref b6_2_2), .val (.int (0 : Int32))]) rfl k) ?_
  refine step (T2.setTop (mkF m 12 #[.val (.ref o1), .val (.ref o2), .val (.ref b6_2_2), .val (.int (0 : Int32))] [(.ref b6_2_2)])) (fun t k => XS.aloadN X2.here hx rfl (hb hby d12_11) rfl rfl k) ?_
  refine step (T2.setTop (mkF m 13 #[.val (.ref o1), .val (.ref o2), .val (.ref b6_2_2), .val (.int (0 : Int32))] [(.int (0 : Int32)), (.ref b6_2_2)])) (fun t k => XS.iloadN X2.here hx rfl (hb hby d12_12) rfl k) ?_
  refine step (T2.setTop (mkF m 14 #[.val (.ref o1), .val (.ref o2), .val (.ref b6_2_2), .val (.int (0 : Int32))] [(.ref o2), (.int (0 : Int32)), (.ref b6_2_2)])) (fun t k => XS.aloadN X2.here hx rfl (hb hby d12_13) rfl rfl k) ?_
  have f4 := (A5.keep K2q)
  obtain ⟨cl5, Ar5, q5, S5, N5n, H5, G5⟩ := id q3_2
  have hin5 : ¬ ((0 : Int32) < 0 ∨ cl5.slots.size ≤ ((0 : Int32)).toNatClampNeg) := inb_of S5 ⟨by decide, by decide⟩
  obtain ⟨T5, h5, X5, e5, W5, st5⟩ := stR X2 hx hZ e2 Ar5 (j := (0 : Int32)) (v := (.ref o2)) hin5 rfl (Sto.ofV Ar5 q5 ov0_2 (Ins.of_exa f4 (hw _ (List.mem_of_getElem? (i := 90) rfl)))) (g := (mkF m 14 #[.val (.ref o1), .val (.ref o2), .val (.ref b6_2_2), .val (.int (0 : Int32))] [(.ref o2), (.int (0 : Int32)), (.ref b6_2_2)])) rfl rfl (hb hby d12_14)
  have N5 := Fr.snoc X5 N2 gn_b6_2_2
  have K5 : Keep h0 h5 [o1] := K2.wr W5 (Or.inr sz_b6_2_2)
  have V5 : Arv Z h5 b6_2_2 k6_2_2 (.object "java/lang/Object") (10 : Int32) [(.ref o2), .null, .null, .null, .null, .null, .null, .null, .null, .null] .null := Arv.set Ar5 q5 S5 N5n H5 G5 rfl W5 0 rfl (Nat.le_of_ble_eq_true rfl)
  refine step (T5.setTop (mkF m 15 #[.val (.ref o1), .val (.ref o2), .val (.ref b6_2_2), .val (.int (0 : Int32))] [])) (fun t k => st5 t k) ?_
  refine step (T5.setTop (mkF m 16 #[.val (.ref o1), .val (.ref o2), .val (.ref b6_2_2), .val (.int (0 : Int32))] [(.ref o1)])) (fun t k => XS.aloadN X5.here hx rfl (hb hby d12_15) rfl rfl k) ?_
  refine step (T5.setTop (mkF m 17 #[.val (.ref o1), .val (.ref o2), .val (.ref b6_2_2), .val (.int (0 : Int32))] [(.int (0 : Int32)), (.ref o1)])) (fun t k => XS.iloadN X5.here hx rfl (hb hby d12_16) rfl k) ?_
  refine step (T5.setTop (mkF m 18 #[.val (.ref o1), .val (.ref o2), .val (.ref b6_2_2), .val (.int (0 : Int32))] [(.int (1 : Int32)), (.int (0 : Int32)), (.ref o1)])) (fun t k => XS.iconst X5.here hx rfl (hb hby d12_17) k) ?_
  refine step (T5.setTop (mkF m 19 #[.val (.ref o1), .val (.ref o2), .val (.ref b6_2_2), .val (.int (0 : Int32))] [(.int (1 : Int32)), (.ref o1)])) (fun t k => XS.iadd X5.here hx rfl (hb hby d12_18) rfl k) ?_
  have f6 := ((A1.keep K2q).wr W5)
  have f7 := (q2_2.other W5 (Or.inl ne_o1_b6_2_2))
  obtain ⟨T8, h8, X8, e8, W8, st8⟩ := putF X5 hx hZ hown (host := "") (Or.inl (hw _ (List.mem_of_getElem? (i := 60) rfl))) Via.refl e5 f7 f6 (Or.inl (hw _ (List.mem_of_getElem? (i := 61) rfl))) (hw _ (List.mem_of_getElem? (i := 27) rfl)) (ty := .int) (by decide) rfl rfl (g := (mkF m 19 #[.val (.ref o1), .val (.ref o2), .val (.ref b6_2_2), .val (.int (0 : Int32))] [(.int (1 : Int32)), (.ref o1)])) rfl rfl (hb hby d12_19)
  have N8 := Fr.snoc X8 N5 gn_o1
  have K8 : Keep h0 h8 [o1] := K5.wr W8 (Or.inl (List.mem_of_getElem? (i := 0) rfl))
  have F8 := f7.same W8
  refine step (T8.setTop (mkF m 22 #[.val (.ref o1), .val (.ref o2), .val (.ref b6_2_2), .val (.int (0 : Int32))] [])) (fun t k => st8 t k) ?_
  have f9 := ((q0_2.other W5 (Or.inl ne_o1_b6_2_2)).other W8 (Or.inr (slot_ne (Or.inl (hw _ (List.mem_of_getElem? (i := 49) rfl))) (Or.inl (hw _ (List.mem_of_getElem? (i := 61) rfl))) (by decide) (t := (.array (.object "java/lang/Object"))) (t' := .int) (by decide) (by decide))))
  have f10 := ((q1_2.other W5 (Or.inl ne_o1_b6_2_2)).other W8 (Or.inr (slot_ne (Or.inl (hw _ (List.mem_of_getElem? (i := 46) rfl))) (Or.inl (hw _ (List.mem_of_getElem? (i := 61) rfl))) (by decide) (t := .int) (t' := .int) (by decide) (by decide))))
  have f11 := (V5.other W8 (Ne.symm ne_o1_b6_2_2))
  refine fin (v := none) X8 (fun _ => rfl) ?_ (by decide) (by decide) (fun fs hr => X8.returnOut hx hret (hb hby d12_22) hr)
  show Q12_11 Z o1 o2 o3 kc1 h0 n0 (none) T8.heap _
  rw [e8]
  exact ⟨b6_2_2, k6_2_2, rfl, N8, K8, sz_b6_2_2, f9, f10, F8, f11, ov0_2⟩
theorem ef_11_10 (m : MethodId) (x0 : Addr) (x1 : Addr) : entryFrame m #[(.ref x0), (.ref x1)] 2 = mkF m 0 #[.val (.ref x0), .val (.ref x1)] [] := by first | (simp [entryFrame, mkF, argsToLocals, Value.category]; done) | rfl
def Q11_10 (Z : State) (o1 : Addr) (o2 : Addr) (o3 : Addr) (kc1 : ClassId) (h0 : Heap) (n0 : Nat) (v : Option Value) (h : Heap) (L : List Loc) : Prop := ∃ (b6_2_2_11 : Addr) (k6_2_2_11 : ClassId), v = some (.int (1 : Int32)) ∧ Fr n0 L ∧ Keep h0 h [o1] ∧ h0.size ≤ b6_2_2_11 ∧ Fld Z h o1 "java/util/ArrayList" "elementData" "[Ljava/lang/Object;" (.ref b6_2_2_11) ∧ Fld Z h o1 "java/util/AbstractList" "modCount" "I" (.int (1 : Int32)) ∧ Fld Z h o1 "java/util/ArrayList" "size" "I" (.int (1 : Int32)) ∧ Arv Z h b6_2_2_11 k6_2_2_11 (.object "java/lang/Object") (10 : Int32) [(.ref o2), .null, .null, .null, .null, .null, .null, .null, .null, .null] .null ∧ Ovr Z k6_2_2_11 "java/lang/Object"
set_option maxRecDepth 65536 in
set_option maxHeartbeats 40000000 in
theorem rm11_10 (l : Launch) (Z : State) (a0 : Array Value) (hw : ∀ d ∈ tables_1, d.before a0 Z = true) (ws : List Jvm.Cond) (o1 : Addr) (o2 : Addr) (o3 : Addr) (kc1 : ClassId) (h0 : Heap) (n0 : Nat) (Z0 : n0 ≤ h0.size) (S0 : Sta Z h0 "java/util/ArrayList" "DEFAULTCAPACITY_EMPTY_ELEMENTDATA" "[Ljava/lang/Object;" (.ref o3)) (A1 : Exa Z h0 o1 "java/util/ArrayList") (A2 : Fld Z h0 o1 "java/util/ArrayList" "elementData" "[Ljava/lang/Object;" (.ref o3)) (A3 : Fld Z h0 o1 "java/util/AbstractList" "modCount" "I" (.int (0 : Int32))) (A4 : Fld Z h0 o1 "java/util/ArrayList" "size" "I" (.int (0 : Int32))) (A5 : Exa Z h0 o2 "java/lang/String") (A6 : Arv Z h0 o3 kc1 (.object "java/lang/Object") (0 : Int32) [] .null) (gn_o1 : n0 ≤ o1) (ne_o1_o2 : o1 ≠ o2) (ne_o1_o3 : o1 ≠ o3) (gn_o2 : n0 ≤ o2) (ne_o2_o3 : o2 ≠ o3)  :
    MetFree l (⟨"java/util/ArrayList", "add", "(Ljava/lang/Object;)Z"⟩ : MethodName) (head1 (Jvm.Cond.code (⟨"java/util/ArrayList", "add", "(Ljava/lang/Object;)Z"⟩ : MethodName) jdk_38_method_25_code 2 (some .boolean) :: ws) ({ frames := 4, cells := 1, slots := 10, locals := 56 } : Room)) (fun a U => a = #[(.ref o1), (.ref o2)] ∧ Z.Warmed39 U.vm ∧ U.heap = h0) (fun _ _ _ _ _ => True) (fun _ U o U' => ∃ v L, o = .returned v ∧ Q11_10 Z o1 o2 o3 kc1 h0 n0 v U'.heap L ∧ FrameEnd U o U' L ({ frames := 4, cells := 1, slots := 10, locals := 56 } : Room).cells ({ frames := 4, cells := 1, slots := 10, locals := 56 } : Room).slots) := by
  refine own_body (plainFor_of_name pn_3) ?_
  intro p e s m below meth c s₁ G hx hby hml hZ hown hnm hret X0 e0 step fin
  replace hown : s.vm.findClass "java/util/ArrayList" = some m.cls := hown
  replace hnm : meth.name = "add" := hnm
  replace hret : meth.sig.returnType = some .boolean := hret
  replace hml : c.maxLocals = 2 := hml
  have N0 := Fr.nil n0
  refine step (s₁.setTop (mkF m 0 #[.val (.ref o1), .val (.ref o2)] [])) (fun t k => castTop (ef_11_10 m o1 o2) k) ?_
  refine step (s₁.setTop (mkF m 1 #[.val (.ref o1), .val (.ref o2)] [(.ref o1)])) (fun t k => XS.aloadN X0.here hx rfl (hb hby d11_0) rfl rfl k) ?_
  refine step (s₁.setTop (mkF m 2 #[.val (.ref o1), .val (.ref o2)] [(.ref o1), (.ref o1)])) (fun t k => XS.dup X0.here hx rfl (hb hby d11_1) rfl rfl k) ?_
  obtain ⟨T1, X1, e1, st1⟩ := getF X0 hx hZ hown (host := "") (Or.inl (hw _ (List.mem_of_getElem? (i := 67) rfl))) (Via.of (hw _ (List.mem_of_getElem? (i := 68) rfl))) e0 A3 (g := (mkF m 2 #[.val (.ref o1), .val (.ref o2)] [(.ref o1), (.ref o1)])) rfl rfl (hb hby d11_2)
  refine step (T1.setTop (mkF m 5 #[.val (.ref o1), .val (.ref o2)] [(.int (0 : Int32)), (.ref o1)])) (fun t k => st1 t k) ?_
  refine step (T1.setTop (mkF m 6 #[.val (.ref o1), .val (.ref o2)] [(.int (1 : Int32)), (.int (0 : Int32)), (.ref o1)])) (fun t k => XS.iconst X1.here hx rfl (hb hby d11_5) k) ?_
  refine step (T1.setTop (mkF m 7 #[.val (.ref o1), .val (.ref o2)] [(.int (1 : Int32)), (.ref o1)])) (fun t k => XS.iadd X1.here hx rfl (hb hby d11_6) rfl k) ?_
  obtain ⟨T2, h2, X2, e2, W2, st2⟩ := putF X1 hx hZ hown (host := "") (Or.inl (hw _ (List.mem_of_getElem? (i := 67) rfl))) (Via.of (hw _ (List.mem_of_getElem? (i := 68) rfl))) e1 A3 A1 (Or.inl (hw _ (List.mem_of_getElem? (i := 46) rfl))) (hw _ (List.mem_of_getElem? (i := 27) rfl)) (ty := .int) (by decide) rfl rfl (g := (mkF m 7 #[.val (.ref o1), .val (.ref o2)] [(.int (1 : Int32)), (.ref o1)])) rfl rfl (hb hby d11_7)
  have N2 := Fr.snoc X2 N0 gn_o1
  have K2 : Keep h0 h2 [o1] := (Keep.refl h0 [o1]).wr W2 (Or.inl (List.mem_of_getElem? (i := 0) rfl))
  have F2 := A3.same W2
  refine step (T2.setTop (mkF m 10 #[.val (.ref o1), .val (.ref o2)] [])) (fun t k => st2 t k) ?_
  refine step (T2.setTop (mkF m 11 #[.val (.ref o1), .val (.ref o2)] [(.ref o1)])) (fun t k => XS.aloadN X2.here hx rfl (hb hby d11_10) rfl rfl k) ?_
  refine step (T2.setTop (mkF m 12 #[.val (.ref o1), .val (.ref o2)] [(.ref o2), (.ref o1)])) (fun t k => XS.aloadN X2.here hx rfl (hb hby d11_11) rfl rfl k) ?_
  refine step (T2.setTop (mkF m 13 #[.val (.ref o1), .val (.ref o2)] [(.ref o1), (.ref o2), (.ref o1)])) (fun t k => XS.aloadN X2.here hx rfl (hb hby d11_12) rfl rfl k) ?_
  have f3 := (A2.other W2 (Or.inr (slot_ne (Or.inl (hw _ (List.mem_of_getElem? (i := 49) rfl))) (Or.inl (hw _ (List.mem_of_getElem? (i := 46) rfl))) (by decide) (t := (.array (.object "java/lang/Object"))) (t' := .int) (by decide) (by decide))))
  obtain ⟨T4, X4, e4, st4⟩ := getF X2 hx hZ hown (host := "") (Or.inl (hw _ (List.mem_of_getElem? (i := 48) rfl))) Via.refl e2 f3 (g := (mkF m 13 #[.val (.ref o1), .val (.ref o2)] [(.ref o1), (.ref o2), (.ref o1)])) rfl rfl (hb hby d11_13)
  refine step (T4.setTop (mkF m 16 #[.val (.ref o1), .val (.ref o2)] [(.ref o3), (.ref o2), (.ref o1)])) (fun t k => st4 t k) ?_
  refine step (T4.setTop (mkF m 17 #[.val (.ref o1), .val (.ref o2)] [(.ref o1), (.ref o3), (.ref o2), (.ref o1)])) (fun t k => XS.aloadN X4.here hx rfl (hb hby d11_16) rfl rfl k) ?_
  have f5 := (A4.other W2 (Or.inr (slot_ne (Or.inl (hw _ (List.mem_of_getElem? (i := 61) rfl))) (Or.inl (hw _ (List.mem_of_getElem? (i := 46) rfl))) (by decide) (t := .int) (t' := .int) (by decide) (by decide))))
  obtain ⟨T6, X6, e6, st6⟩ := getF X4 hx hZ hown (host := "") (Or.inl (hw _ (List.mem_of_getElem? (i := 60) rfl))) Via.refl e4 f5 (g := (mkF m 17 #[.val (.ref o1), .val (.ref o2)] [(.ref o1), (.ref o3), (.ref o2), (.ref o1)])) rfl rfl (hb hby d11_17)
  refine step (T6.setTop (mkF m 20 #[.val (.ref o1), .val (.ref o2)] [(.int (0 : Int32)), (.ref o3), (.ref o2), (.ref o1)])) (fun t k => st6 t k) ?_
  have f7 := (S0.wr W2)
  have f8 := (A1.wr W2)
  have f9 := (A5.wr W2)
  have f10 := (A6.other W2 (Ne.symm ne_o1_o3))
  obtain ⟨cq11, q11, q11'⟩ := f8.cell
  obtain ⟨_, _, ⟨T11, L11, k11, n11⟩, -, X11, ⟨Lc11, hQ11, l11, y11, z11⟩, st11⟩ := X6.privateBack hx (y := (⟨"java/util/ArrayList", "add", "(Ljava/lang/Object;[Ljava/lang/Object;I)V"⟩ : MethodName)) hown (mvT hZ (hw _ (List.mem_of_getElem? (i := 69) rfl))) (mvT hZ (hw _ (List.mem_of_getElem? (i := 70) rfl))) (mvT hZ (hw _ (List.mem_of_getElem? (i := 72) rfl))) (Cond.privateMethod_at (mvP hZ (hw _ (List.mem_of_getElem? (i := 71) rfl)) (args := #[]))) (mvT hZ (hw _ (List.mem_of_getElem? (i := 73) rfl))) (by decide) (backOf (W := 0) (rm12_11 l Z a0 hw [] o1 o2 o3 kc1 h2 n0 (Nat.le_trans Z0 K2.1) f7 f8 f3 F2 f5 f9 f10 gn_o1 ne_o1_o2 ne_o1_o3 gn_o2 ne_o2_o3) hZ (hw _ (List.mem_of_getElem? (i := 73) rfl)) (hw _ (List.mem_of_getElem? (i := 28) rfl)) (by decide) (by decide)) (g := (mkF m 20 #[.val (.ref o1), .val (.ref o2)] [(.int (0 : Int32)), (.ref o3), (.ref o2), (.ref o1)])) rfl (by rw [hml]; rfl) (Steps.refl _) (a := o1) (by rw [e6]; exact q11) q11' (argsL := [(.ref o2), (.ref o3), (.int (0 : Int32))]) (rest := []) (lenOf pd_9 rfl) rfl (by show 2 * 0 + _ ≤ _; exact Nat.le_of_eq rfl) (hb hby d11_20) (fun _ _ => ⟨rfl, e6, (by decide : 0 + 1 ≤ _), (by decide : 0 + 10 ≤ _)⟩)
  dsimp only [Pt.U, Pt.locs, Pt.cells, Pt.slots] at X11 l11 y11 z11 st11 hQ11
  subst l11 y11 z11
  obtain ⟨h11, e11⟩ : ∃ z, T11.heap = z := ⟨_, rfl⟩
  rw [e11] at hQ11
  obtain ⟨b6_2_2_11, k6_2_2_11, rfl, N11q, K11q, sz_b6_2_2_11, q0_11, q1_11, q2_11, q3_11, ov0_11⟩ := hQ11
  have N11 := Fr.app N2 N11q
  have lt11_o1 := f8.lt
  have lt11_o2 := f9.lt
  have lt11_o3 := f10.lt
  have ne_o1_b6_2_2_11 : o1 ≠ b6_2_2_11 := Nat.ne_of_lt (Nat.lt_of_lt_of_le lt11_o1 sz_b6_2_2_11)
  have ne_o2_b6_2_2_11 : o2 ≠ b6_2_2_11 := Nat.ne_of_lt (Nat.lt_of_lt_of_le lt11_o2 sz_b6_2_2_11)
  have ne_o3_b6_2_2_11 : o3 ≠ b6_2_2_11 := Nat.ne_of_lt (Nat.lt_of_lt_of_le lt11_o3 sz_b6_2_2_11)
  have gn_b6_2_2_11 : n0 ≤ b6_2_2_11 := Nat.le_trans (Nat.le_trans Z0 K2.1) sz_b6_2_2_11
  have sz_b6_2_2_11' := Nat.le_trans K2.1 sz_b6_2_2_11
  replace sz_b6_2_2_11 := sz_b6_2_2_11'
  have K11 : Keep h0 h11 [o1] := K2.trans K11q (allS (Or.inl (List.mem_of_getElem? (i := 0) rfl)) all0)
  have f12 := own_staK f7 K11q (allS (own_exaP f8) all0)
  refine step (T11.setTop (mkF m 23 #[.val (.ref o1), .val (.ref o2)] [])) (fun t k => st11.trans k) ?_
  refine step (T11.setTop (mkF m 24 #[.val (.ref o1), .val (.ref o2)] [(.int (1 : Int32))])) (fun t k => XS.iconst X11.here hx rfl (hb hby d11_23) k) ?_
  refine fin (v := some (.int (nar .boolean (1 : Int32)))) X11 (fun h => by cases h) ?_ (by decide) (by decide) (fun fs hr => retN X11 hx (t := .boolean) hret (by simp) (hb hby d11_24) hr)
  show Q11_10 Z o1 o2 o3 kc1 h0 n0 (some (.int (nar .boolean (1 : Int32)))) T11.heap _
  rw [e11]
  exact ⟨b6_2_2_11, k6_2_2_11, rfl, N11, K11, sz_b6_2_2_11, q0_11, q1_11, q2_11, q3_11, ov0_11⟩
theorem ef_10_15 (m : MethodId) (x0 : Addr) : entryFrame m #[(.ref x0)] 1 = mkF m 0 #[.val (.ref x0)] [] := by first | (simp [entryFrame, mkF, argsToLocals, Value.category]; done) | rfl
def Q10_15 (Z : State) (o1 : Addr) (h0 : Heap) (n0 : Nat) (v : Option Value) (h : Heap) (L : List Loc) : Prop := v = some (.int (1 : Int32)) ∧ Fr n0 L ∧ h = h0
set_option maxRecDepth 65536 in
set_option maxHeartbeats 40000000 in
theorem rm10_15 (l : Launch) (Z : State) (a0 : Array Value) (hw : ∀ d ∈ tables_1, d.before a0 Z = true) (ws : List Jvm.Cond) (o1 : Addr) (h0 : Heap) (n0 : Nat) (Z0 : n0 ≤ h0.size) (A0 : Exa Z h0 o1 "java/util/ArrayList") (A1 : Fld Z h0 o1 "java/util/ArrayList" "size" "I" (.int (1 : Int32))) (gn_o1 : n0 ≤ o1)  :
    MetFree l (⟨"java/util/ArrayList", "size", "()I"⟩ : MethodName) (head1 (Jvm.Cond.code (⟨"java/util/ArrayList", "size", "()I"⟩ : MethodName) jdk_38_method_8_code 1 (some .int) :: ws) ({ frames := 0, cells := 0, slots := 0, locals := 0 } : Room)) (fun a U => a = #[(.ref o1)] ∧ Z.Warmed39 U.vm ∧ U.heap = h0) (fun _ _ _ _ _ => True) (fun _ U o U' => ∃ v L, o = .returned v ∧ Q10_15 Z o1 h0 n0 v U'.heap L ∧ FrameEnd U o U' L ({ frames := 0, cells := 0, slots := 0, locals := 0 } : Room).cells ({ frames := 0, cells := 0, slots := 0, locals := 0 } : Room).slots) := by
  refine own_body (plainFor_of_name pn_3) ?_
  intro p e s m below meth c s₁ G hx hby hml hZ hown hnm hret X0 e0 step fin
  replace hown : s.vm.findClass "java/util/ArrayList" = some m.cls := hown
  replace hnm : meth.name = "size" := hnm
  replace hret : meth.sig.returnType = some .int := hret
  replace hml : c.maxLocals = 1 := hml
  have N0 := Fr.nil n0
  refine step (s₁.setTop (mkF m 0 #[.val (.ref o1)] [])) (fun t k => castTop (ef_10_15 m o1) k) ?_
  refine step (s₁.setTop (mkF m 1 #[.val (.ref o1)] [(.ref o1)])) (fun t k => XS.aloadN X0.here hx rfl (hb hby d10_0) rfl rfl k) ?_
  obtain ⟨T1, X1, e1, st1⟩ := getF X0 hx hZ hown (host := "") (Or.inl (hw _ (List.mem_of_getElem? (i := 60) rfl))) Via.refl e0 A1 (g := (mkF m 1 #[.val (.ref o1)] [(.ref o1)])) rfl rfl (hb hby d10_1)
  refine step (T1.setTop (mkF m 4 #[.val (.ref o1)] [(.int (1 : Int32))])) (fun t k => st1 t k) ?_
  refine fin (v := some (.int (1 : Int32))) X1 (fun h => by cases h) ?_ (by decide) (by decide) (fun fs hr => retI X1 hx hret (hb hby d10_4) hr)
  show Q10_15 Z o1 h0 n0 (some (.int (1 : Int32))) T1.heap _
  rw [e1]
  exact ⟨rfl, N0, rfl⟩
theorem d16_0 : decode jdk_38_method_20_code 0 = .ok (.iload_n 1, 1) := by decide +kernel
theorem d16_1 : decode jdk_38_method_20_code 1 = .ok (.aload_n 0, 1) := by decide +kernel
theorem d16_2 : decode jdk_38_method_20_code 2 = .ok (.getfield 48, 3) := by decide +kernel
theorem d16_5 : decode jdk_38_method_20_code 5 = .ok (.invokestatic 118, 3) := by decide +kernel
theorem d16_8 : decode jdk_38_method_20_code 8 = .ok (.pop, 1) := by decide +kernel
theorem d16_9 : decode jdk_38_method_20_code 9 = .ok (.aload_n 0, 1) := by decide +kernel
theorem d16_10 : decode jdk_38_method_20_code 10 = .ok (.iload_n 1, 1) := by decide +kernel
theorem d16_11 : decode jdk_38_method_20_code 11 = .ok (.invokevirtual 123, 3) := by decide +kernel
theorem d16_14 : decode jdk_38_method_20_code 14 = .ok (.areturn, 1) := by decide +kernel
theorem d17_0 : decode jdk_31_method_17_code 0 = .ok (.iload_n 0, 1) := by decide +kernel
theorem d17_1 : decode jdk_31_method_17_code 1 = .ok (.iload_n 1, 1) := by decide +kernel
theorem d17_2 : decode jdk_31_method_17_code 2 = .ok (.aconst_null, 1) := by decide +kernel
theorem d17_3 : decode jdk_31_method_17_code 3 = .ok (.invokestatic 105, 3) := by decide +kernel
theorem d17_6 : decode jdk_31_method_17_code 6 = .ok (.ireturn, 1) := by decide +kernel
theorem pn_7 : plainName "java/util/Objects" = true := by first | (simp [plainName, overriddenIn]; done) | decide +kernel
theorem pd_13 : parseMethodDescriptor "(IILjava/util/function/BiFunction;)I" = some ⟨[.int, .int, (.object "java/util/function/BiFunction")], some .int⟩ := by decide +kernel
theorem d18_0 : decode jdk_41_method_11_code 0 = .ok (.iload_n 0, 1) := by decide +kernel
theorem d18_1 : decode jdk_41_method_11_code 1 = .ok (.ifCond .lt 8, 3) := by decide +kernel
theorem d18_4 : decode jdk_41_method_11_code 4 = .ok (.iload_n 0, 1) := by decide +kernel
theorem d18_5 : decode jdk_41_method_11_code 5 = .ok (.iload_n 1, 1) := by decide +kernel
theorem d18_6 : decode jdk_41_method_11_code 6 = .ok (.if_icmp .lt 10, 3) := by decide +kernel
theorem d18_9 : decode jdk_41_method_11_code 9 = .ok (.aload_n 2, 1) := by decide +kernel
theorem d18_10 : decode jdk_41_method_11_code 10 = .ok (.iload_n 0, 1) := by decide +kernel
theorem d18_11 : decode jdk_41_method_11_code 11 = .ok (.iload_n 1, 1) := by decide +kernel
theorem d18_12 : decode jdk_41_method_11_code 12 = .ok (.invokestatic 95, 3) := by decide +kernel
theorem d18_15 : decode jdk_41_method_11_code 15 = .ok (.athrow, 1) := by decide +kernel
theorem d18_16 : decode jdk_41_method_11_code 16 = .ok (.iload_n 0, 1) := by decide +kernel
theorem d18_17 : decode jdk_41_method_11_code 17 = .ok (.ireturn, 1) := by decide +kernel
theorem pn_8 : plainName "jdk/internal/util/Preconditions" = true := by first | (simp [plainName, overriddenIn]; done) | decide +kernel
theorem ef_18_18 (m : MethodId)  : entryFrame m #[(.int (0 : Int32)), (.int (1 : Int32)), .null] 3 = mkF m 0 #[.val (.int (0 : Int32)), .val (.int (1 : Int32)), .val .null] [] := by first | (simp [entryFrame, mkF, argsToLocals, Value.category]; done) | rfl
def Q18_18 (Z : State)  (h0 : Heap) (n0 : Nat) (v : Option Value) (h : Heap) (L : List Loc) : Prop := v = some (.int (0 : Int32)) ∧ Fr n0 L ∧ h = h0
set_option maxRecDepth 65536 in
set_option maxHeartbeats 40000000 in
theorem rm18_18 (l : Launch) (Z : State) (a0 : Array Value) (hw : ∀ d ∈ tables_1, d.before a0 Z = true) (ws : List Jvm.Cond)  (h0 : Heap) (n0 : Nat) (Z0 : n0 ≤ h0.size)  :
    MetFree l (⟨"jdk/internal/util/Preconditions", "checkIndex", "(IILjava/util/function/BiFunction;)I"⟩ : MethodName) (head1 (Jvm.Cond.code (⟨"jdk/internal/util/Preconditions", "checkIndex", "(IILjava/util/function/BiFunction;)I"⟩ : MethodName) jdk_41_method_11_code 3 (some .int) :: ws) ({ frames := 0, cells := 0, slots := 0, locals := 0 } : Room)) (fun a U => a = #[(.int (0 : Int32)), (.int (1 : Int32)), .null] ∧ Z.Warmed39 U.vm ∧ U.heap = h0) (fun _ _ _ _ _ => True) (fun _ U o U' => ∃ v L, o = .returned v ∧ Q18_18 Z  h0 n0 v U'.heap L ∧ FrameEnd U o U' L ({ frames := 0, cells := 0, slots := 0, locals := 0 } : Room).cells ({ frames := 0, cells := 0, slots := 0, locals := 0 } : Room).slots) := by
  refine own_body (plainFor_of_name pn_8) ?_
  intro p e s m below meth c s₁ G hx hby hml hZ hown hnm hret X0 e0 step fin
  replace hown : s.vm.findClass "jdk/internal/util/Preconditions" = some m.cls := hown
  replace hnm : meth.name = "checkIndex" := hnm
  replace hret : meth.sig.returnType = some .int := hret
  replace hml : c.maxLocals = 3 := hml
  have N0 := Fr.nil n0
  refine step (s₁.setTop (mkF m 0 #[.val (.int (0 : Int32)), .val (.int (1 : Int32)), .val .null] [])) (fun t k => castTop (ef_18_18 m ) k) ?_
  refine step (s₁.setTop (mkF m 1 #[.val (.int (0 : Int32)), .val (.int (1 : Int32)), .val .null] [(.int (0 : Int32))])) (fun t k => XS.iloadN X0.here hx rfl (hb hby d18_0) rfl k) ?_
  refine step (s₁.setTop (mkF m 4 #[.val (.int (0 : Int32)), .val (.int (1 : Int32)), .val .null] [])) (fun t k => XS.ifNo X0.here hx rfl (hb hby d18_1) rfl ((if0 _ _).trans (flt (by decide : ¬ ((0 : Int32) < (0 : Int32)))).1) k) ?_
  refine step (s₁.setTop (mkF m 5 #[.val (.int (0 : Int32)), .val (.int (1 : Int32)), .val .null] [(.int (0 : Int32))])) (fun t k => XS.iloadN X0.here hx rfl (hb hby d18_4) rfl k) ?_
  refine step (s₁.setTop (mkF m 6 #[.val (.int (0 : Int32)), .val (.int (1 : Int32)), .val .null] [(.int (1 : Int32)), (.int (0 : Int32))])) (fun t k => XS.iloadN X0.here hx rfl (hb hby d18_5) rfl k) ?_
  refine step (s₁.setTop (mkF m 16 #[.val (.int (0 : Int32)), .val (.int (1 : Int32)), .val .null] [])) (fun t k => XS.icmpYes X0.here hx rfl (pc0 := 6) (pc' := 16) rfl (hb hby d18_6) rfl (tlt (by decide : (0 : Int32) < (1 : Int32))).1 (by decide) (by decide) k) ?_
  refine step (s₁.setTop (mkF m 17 #[.val (.int (0 : Int32)), .val (.int (1 : Int32)), .val .null] [(.int (0 : Int32))])) (fun t k => XS.iloadN X0.here hx rfl (hb hby d18_16) rfl k) ?_
  refine fin (v := some (.int (0 : Int32))) X0 (fun h => by cases h) ?_ (by decide) (by decide) (fun fs hr => retI X0 hx hret (hb hby d18_17) hr)
  show Q18_18 Z  h0 n0 (some (.int (0 : Int32))) s₁.heap _
  rw [e0]
  exact ⟨rfl, N0, rfl⟩
theorem ef_17_17 (m : MethodId)  : entryFrame m #[(.int (0 : Int32)), (.int (1 : Int32))] 2 = mkF m 0 #[.val (.int (0 : Int32)), .val (.int (1 : Int32))] [] := by first | (simp [entryFrame, mkF, argsToLocals, Value.category]; done) | rfl
def Q17_17 (Z : State)  (h0 : Heap) (n0 : Nat) (v : Option Value) (h : Heap) (L : List Loc) : Prop := v = some (.int (0 : Int32)) ∧ Fr n0 L ∧ h = h0
set_option maxRecDepth 65536 in
set_option maxHeartbeats 40000000 in
theorem rm17_17 (l : Launch) (Z : State) (a0 : Array Value) (hw : ∀ d ∈ tables_1, d.before a0 Z = true) (ws : List Jvm.Cond)  (h0 : Heap) (n0 : Nat) (Z0 : n0 ≤ h0.size)  :
    MetFree l (⟨"java/util/Objects", "checkIndex", "(II)I"⟩ : MethodName) (head1 (Jvm.Cond.code (⟨"java/util/Objects", "checkIndex", "(II)I"⟩ : MethodName) jdk_31_method_17_code 2 (some .int) :: ws) ({ frames := 1, cells := 0, slots := 0, locals := 14 } : Room)) (fun a U => a = #[(.int (0 : Int32)), (.int (1 : Int32))] ∧ Z.Warmed39 U.vm ∧ U.heap = h0) (fun _ _ _ _ _ => True) (fun _ U o U' => ∃ v L, o = .returned v ∧ Q17_17 Z  h0 n0 v U'.heap L ∧ FrameEnd U o U' L ({ frames := 1, cells := 0, slots := 0, locals := 14 } : Room).cells ({ frames := 1, cells := 0, slots := 0, locals := 14 } : Room).slots) := by
  refine own_body (plainFor_of_name pn_7) ?_
  intro p e s m below meth c s₁ G hx hby hml hZ hown hnm hret X0 e0 step fin
  replace hown : s.vm.findClass "java/util/Objects" = some m.cls := hown
  replace hnm : meth.name = "checkIndex" := hnm
  replace hret : meth.sig.returnType = some .int := hret
  replace hml : c.maxLocals = 2 := hml
  have N0 := Fr.nil n0
  refine step (s₁.setTop (mkF m 0 #[.val (.int (0 : Int32)), .val (.int (1 : Int32))] [])) (fun t k => castTop (ef_17_17 m ) k) ?_
  refine step (s₁.setTop (mkF m 1 #[.val (.int (0 : Int32)), .val (.int (1 : Int32))] [(.int (0 : Int32))])) (fun t k => XS.iloadN X0.here hx rfl (hb hby d17_0) rfl k) ?_
  refine step (s₁.setTop (mkF m 2 #[.val (.int (0 : Int32)), .val (.int (1 : Int32))] [(.int (1 : Int32)), (.int (0 : Int32))])) (fun t k => XS.iloadN X0.here hx rfl (hb hby d17_1) rfl k) ?_
  refine step (s₁.setTop (mkF m 3 #[.val (.int (0 : Int32)), .val (.int (1 : Int32))] [.null, (.int (1 : Int32)), (.int (0 : Int32))])) (fun t k => XS.aconstNull X0.here hx rfl (hb hby d17_2) k) ?_
  obtain ⟨_, _, ⟨T1, L1, k1, n1⟩, -, X1, ⟨Lc1, hQ1, l1, y1, z1⟩, st1⟩ := Jvm.LawKit.callS X0 hx (y := (⟨"jdk/internal/util/Preconditions", "checkIndex", "(IILjava/util/function/BiFunction;)I"⟩ : MethodName)) hown (mvT hZ (hw _ (List.mem_of_getElem? (i := 100) rfl))) (mvT hZ (hw _ (List.mem_of_getElem? (i := 101) rfl))) (mvT hZ (hw _ (List.mem_of_getElem? (i := 102) rfl))) (mvT hZ (hw _ (List.mem_of_getElem? (i := 103) rfl))) (by decide) (backOf (W := 0) (rm18_18 l Z a0 hw []  h0 n0 Z0 ) hZ (hw _ (List.mem_of_getElem? (i := 103) rfl)) (hw _ (List.mem_of_getElem? (i := 102) rfl)) (by decide) (by decide)) (g := (mkF m 3 #[.val (.int (0 : Int32)), .val (.int (1 : Int32))] [.null, (.int (1 : Int32)), (.int (0 : Int32))])) rfl (by rw [hml]; rfl) (argsL := [(.int (0 : Int32)), (.int (1 : Int32)), .null]) (rest := []) (lenOf pd_13 rfl) rfl (by show 2 * 0 + _ ≤ _; exact Nat.le_of_eq rfl) (hb hby d17_3) (fun _ _ => ⟨rfl, e0, (by decide : 0 + 0 ≤ _), (by decide : 0 + 0 ≤ _)⟩)
  dsimp only [Pt.U, Pt.locs, Pt.cells, Pt.slots] at X1 l1 y1 z1 st1 hQ1
  subst l1 y1 z1
  obtain ⟨rfl, N1q, e1q⟩ := hQ1
  have N1 := Fr.app N0 N1q
  refine step (T1.setTop (mkF m 6 #[.val (.int (0 : Int32)), .val (.int (1 : Int32))] [(.int (0 : Int32))])) (fun t k => st1 t k) ?_
  refine fin (v := some (.int (0 : Int32))) X1 (fun h => by cases h) ?_ (by decide) (by decide) (fun fs hr => retI X1 hx hret (hb hby d17_6) hr)
  show Q17_17 Z  h0 n0 (some (.int (0 : Int32))) T1.heap _
  rw [e1q]
  exact ⟨rfl, N1, rfl⟩
theorem d19_0 : decode jdk_38_method_18_code 0 = .ok (.aload_n 0, 1) := by decide +kernel
theorem d19_1 : decode jdk_38_method_18_code 1 = .ok (.getfield 9, 3) := by decide +kernel
theorem d19_4 : decode jdk_38_method_18_code 4 = .ok (.iload_n 1, 1) := by decide +kernel
theorem d19_5 : decode jdk_38_method_18_code 5 = .ok (.aaload, 1) := by decide +kernel
theorem d19_6 : decode jdk_38_method_18_code 6 = .ok (.areturn, 1) := by decide +kernel
theorem ef_19_19 (m : MethodId) (x0 : Addr) : entryFrame m #[(.ref x0), (.int (0 : Int32))] 2 = mkF m 0 #[.val (.ref x0), .val (.int (0 : Int32))] [] := by first | (simp [entryFrame, mkF, argsToLocals, Value.category]; done) | rfl
def Q19_19 (Z : State) (o1 : Addr) (o2 : Addr) (kc1 : ClassId) (o3 : Addr) (h0 : Heap) (n0 : Nat) (v : Option Value) (h : Heap) (L : List Loc) : Prop := v = some (.ref o3) ∧ Fr n0 L ∧ h = h0
set_option maxRecDepth 65536 in
set_option maxHeartbeats 40000000 in
theorem rm19_19 (l : Launch) (Z : State) (a0 : Array Value) (hw : ∀ d ∈ tables_1, d.before a0 Z = true) (ws : List Jvm.Cond) (o1 : Addr) (o2 : Addr) (kc1 : ClassId) (o3 : Addr) (h0 : Heap) (n0 : Nat) (Z0 : n0 ≤ h0.size) (A0 : Exa Z h0 o1 "java/util/ArrayList") (A1 : Fld Z h0 o1 "java/util/ArrayList" "elementData" "[Ljava/lang/Object;" (.ref o2)) (A2 : Arv Z h0 o2 kc1 (.object "java/lang/Object") (10 : Int32) [(.ref o3), .null, .null, .null, .null, .null, .null, .null, .null, .null] .null) (O3 : Ovr Z kc1 "java/lang/Object") (A4 : Exa Z h0 o3 "java/lang/String") (gn_o1 : n0 ≤ o1) (ne_o1_o2 : o1 ≠ o2) (ne_o1_o3 : o1 ≠ o3) (gn_o2 : n0 ≤ o2) (ne_o2_o3 : o2 ≠ o3) (gn_o3 : n0 ≤ o3)  :
    MetFree l (⟨"java/util/ArrayList", "elementData", "(I)Ljava/lang/Object;"⟩ : MethodName) (head1 (Jvm.Cond.code (⟨"java/util/ArrayList", "elementData", "(I)Ljava/lang/Object;"⟩ : MethodName) jdk_38_method_18_code 2 (some (.object "java/lang/Object")) :: ws) ({ frames := 0, cells := 0, slots := 0, locals := 0 } : Room)) (fun a U => a = #[(.ref o1), (.int (0 : Int32))] ∧ Z.Warmed39 U.vm ∧ U.heap = h0) (fun _ _ _ _ _ => True) (fun _ U o U' => ∃ v L, o = .returned v ∧ Q19_19 Z o1 o2 kc1 o3 h0 n0 v U'.heap L ∧ FrameEnd U o U' L ({ frames := 0, cells := 0, slots := 0, locals := 0 } : Room).cells ({ frames := 0, cells := 0, slots := 0, locals := 0 } : Room).slots) := by
  refine own_body (plainFor_of_name pn_3) ?_
  intro p e s m below meth c s₁ G hx hby hml hZ hown hnm hret X0 e0 step fin
  replace hown : s.vm.findClass "java/util/ArrayList" = some m.cls := hown
  replace hnm : meth.name = "elementData" := hnm
  replace hret : meth.sig.returnType = some (.object "java/lang/Object") := hret
  replace hml : c.maxLocals = 2 := hml
  have N0 := Fr.nil n0
  refine step (s₁.setTop (mkF m 0 #[.val (.ref o1), .val (.int (0 : Int32))] [])) (fun t k => castTop (ef_19_19 m o1) k) ?_
  refine step (s₁.setTop (mkF m 1 #[.val (.ref o1), .val (.int (0 : Int32))] [(.ref o1)])) (fun t k => XS.aloadN X0.here hx rfl (hb hby d19_0) rfl rfl k) ?_
  obtain ⟨T1, X1, e1, st1⟩ := getF X0 hx hZ hown (host := "") (Or.inl (hw _ (List.mem_of_getElem? (i := 48) rfl))) Via.refl e0 A1 (g := (mkF m 1 #[.val (.ref o1), .val (.int (0 : Int32))] [(.ref o1)])) rfl rfl (hb hby d19_1)
  refine step (T1.setTop (mkF m 4 #[.val (.ref o1), .val (.int (0 : Int32))] [(.ref o2)])) (fun t k => st1 t k) ?_
  refine step (T1.setTop (mkF m 5 #[.val (.ref o1), .val (.int (0 : Int32))] [(.int (0 : Int32)), (.ref o2)])) (fun t k => XS.iloadN X1.here hx rfl (hb hby d19_4) rfl k) ?_
  obtain ⟨cl2, Ar2, q2, S2, N2n, H2, G2⟩ := id A2
  have hin2 : ¬ ((0 : Int32) < 0 ∨ cl2.slots.size ≤ ((0 : Int32)).toNatClampNeg) := inb_of S2 ⟨by decide, by decide⟩
  have hat2 : cl2.slots[((0 : Int32)).toNatClampNeg]? = some (.ref o3) := H2.at hin2 rfl
  refine step (T1.setTop (mkF m 6 #[.val (.ref o1), .val (.int (0 : Int32))] [(.ref o3)])) (fun t k => X1.aaload hx (j := (0 : Int32)) (v := (.ref o3)) (by rw [e1]; exact Ar2.1) (State.isArrayOf_alike hZ.alike Ar2.2.1) rfl Ar2.2.2 hin2 hat2 (g := (mkF m 5 #[.val (.ref o1), .val (.int (0 : Int32))] [(.int (0 : Int32)), (.ref o2)])) rfl rfl (hb hby d19_5) t k) ?_
  refine fin (v := some (.ref o3)) X1 (fun h => by cases h) ?_ (by decide) (by decide) (fun fs hr => X1.areturnOut hx rfl hret rfl (hb hby d19_6) hr)
  show Q19_19 Z o1 o2 kc1 o3 h0 n0 (some (.ref o3)) T1.heap _
  rw [e1]
  exact ⟨rfl, N0, rfl⟩
theorem ef_16_16 (m : MethodId) (x0 : Addr) : entryFrame m #[(.ref x0), (.int (0 : Int32))] 2 = mkF m 0 #[.val (.ref x0), .val (.int (0 : Int32))] [] := by first | (simp [entryFrame, mkF, argsToLocals, Value.category]; done) | rfl
def Q16_16 (Z : State) (o1 : Addr) (o2 : Addr) (kc1 : ClassId) (o3 : Addr) (h0 : Heap) (n0 : Nat) (v : Option Value) (h : Heap) (L : List Loc) : Prop := v = some (.ref o3) ∧ Fr n0 L ∧ h = h0
set_option maxRecDepth 65536 in
set_option maxHeartbeats 40000000 in
theorem rm16_16 (l : Launch) (Z : State) (a0 : Array Value) (hw : ∀ d ∈ tables_1, d.before a0 Z = true) (ws : List Jvm.Cond) (o1 : Addr) (o2 : Addr) (kc1 : ClassId) (o3 : Addr) (h0 : Heap) (n0 : Nat) (Z0 : n0 ≤ h0.size) (A0 : Exa Z h0 o1 "java/util/ArrayList") (A1 : Fld Z h0 o1 "java/util/ArrayList" "elementData" "[Ljava/lang/Object;" (.ref o2)) (A2 : Fld Z h0 o1 "java/util/ArrayList" "size" "I" (.int (1 : Int32))) (A3 : Arv Z h0 o2 kc1 (.object "java/lang/Object") (10 : Int32) [(.ref o3), .null, .null, .null, .null, .null, .null, .null, .null, .null] .null) (O4 : Ovr Z kc1 "java/lang/Object") (A5 : Exa Z h0 o3 "java/lang/String") (gn_o1 : n0 ≤ o1) (ne_o1_o2 : o1 ≠ o2) (ne_o1_o3 : o1 ≠ o3) (gn_o2 : n0 ≤ o2) (ne_o2_o3 : o2 ≠ o3) (gn_o3 : n0 ≤ o3)  :
    MetFree l (⟨"java/util/ArrayList", "get", "(I)Ljava/lang/Object;"⟩ : MethodName) (head1 (Jvm.Cond.code (⟨"java/util/ArrayList", "get", "(I)Ljava/lang/Object;"⟩ : MethodName) jdk_38_method_20_code 2 (some (.object "java/lang/Object")) :: ws) ({ frames := 2, cells := 0, slots := 0, locals := 27 } : Room)) (fun a U => a = #[(.ref o1), (.int (0 : Int32))] ∧ Z.Warmed39 U.vm ∧ U.heap = h0) (fun _ _ _ _ _ => True) (fun _ U o U' => ∃ v L, o = .returned v ∧ Q16_16 Z o1 o2 kc1 o3 h0 n0 v U'.heap L ∧ FrameEnd U o U' L ({ frames := 2, cells := 0, slots := 0, locals := 27 } : Room).cells ({ frames := 2, cells := 0, slots := 0, locals := 27 } : Room).slots) := by
  refine own_body (plainFor_of_name pn_3) ?_
  intro p e s m below meth c s₁ G hx hby hml hZ hown hnm hret X0 e0 step fin
  replace hown : s.vm.findClass "java/util/ArrayList" = some m.cls := hown
  replace hnm : meth.name = "get" := hnm
  replace hret : meth.sig.returnType = some (.object "java/lang/Object") := hret
  replace hml : c.maxLocals = 2 := hml
  have N0 := Fr.nil n0
  refine step (s₁.setTop (mkF m 0 #[.val (.ref o1), .val (.int (0 : Int32))] [])) (fun t k => castTop (ef_16_16 m o1) k) ?_
  refine step (s₁.setTop (mkF m 1 #[.val (.ref o1), .val (.int (0 : Int32))] [(.int (0 : Int32))])) (fun t k => XS.iloadN X0.here hx rfl (hb hby d16_0) rfl k) ?_
  refine step (s₁.setTop (mkF m 2 #[.val (.ref o1), .val (.int (0 : Int32))] [(.ref o1), (.int (0 : Int32))])) (fun t k => XS.aloadN X0.here hx rfl (hb hby d16_1) rfl rfl k) ?_
  obtain ⟨T1, X1, e1, st1⟩ := getF X0 hx hZ hown (host := "") (Or.inl (hw _ (List.mem_of_getElem? (i := 60) rfl))) Via.refl e0 A2 (g := (mkF m 2 #[.val (.ref o1), .val (.int (0 : Int32))] [(.ref o1), (.int (0 : Int32))])) rfl rfl (hb hby d16_2)
  refine step (T1.setTop (mkF m 5 #[.val (.ref o1), .val (.int (0 : Int32))] [(.int (1 : Int32)), (.int (0 : Int32))])) (fun t k => st1 t k) ?_
  obtain ⟨_, _, ⟨T2, L2, k2, n2⟩, -, X2, ⟨Lc2, hQ2, l2, y2, z2⟩, st2⟩ := Jvm.LawKit.callS X1 hx (y := (⟨"java/util/Objects", "checkIndex", "(II)I"⟩ : MethodName)) hown (mvT hZ (hw _ (List.mem_of_getElem? (i := 96) rfl))) (mvT hZ (hw _ (List.mem_of_getElem? (i := 97) rfl))) (mvT hZ (hw _ (List.mem_of_getElem? (i := 98) rfl))) (mvT hZ (hw _ (List.mem_of_getElem? (i := 99) rfl))) (by decide) (backOf (W := 0) (rm17_17 l Z a0 hw []  h0 n0 Z0 ) hZ (hw _ (List.mem_of_getElem? (i := 99) rfl)) (hw _ (List.mem_of_getElem? (i := 98) rfl)) (by decide) (by decide)) (g := (mkF m 5 #[.val (.ref o1), .val (.int (0 : Int32))] [(.int (1 : Int32)), (.int (0 : Int32))])) rfl (by rw [hml]; rfl) (argsL := [(.int (0 : Int32)), (.int (1 : Int32))]) (rest := []) (lenOf pd_12 rfl) rfl (by show 2 * 0 + _ ≤ _; exact Nat.le_of_eq rfl) (hb hby d16_5) (fun _ _ => ⟨rfl, e1, (by decide : 0 + 0 ≤ _), (by decide : 0 + 0 ≤ _)⟩)
  dsimp only [Pt.U, Pt.locs, Pt.cells, Pt.slots] at X2 l2 y2 z2 st2 hQ2
  subst l2 y2 z2
  obtain ⟨rfl, N2q, e2q⟩ := hQ2
  have N2 := Fr.app N0 N2q
  refine step (T2.setTop (mkF m 8 #[.val (.ref o1), .val (.int (0 : Int32))] [(.int (0 : Int32))])) (fun t k => st2 t k) ?_
  refine step (T2.setTop (mkF m 9 #[.val (.ref o1), .val (.int (0 : Int32))] [])) (fun t k => XS.pop X2.here hx rfl (hb hby d16_8) rfl rfl k) ?_
  refine step (T2.setTop (mkF m 10 #[.val (.ref o1), .val (.int (0 : Int32))] [(.ref o1)])) (fun t k => XS.aloadN X2.here hx rfl (hb hby d16_9) rfl rfl k) ?_
  refine step (T2.setTop (mkF m 11 #[.val (.ref o1), .val (.int (0 : Int32))] [(.int (0 : Int32)), (.ref o1)])) (fun t k => XS.iloadN X2.here hx rfl (hb hby d16_10) rfl k) ?_
  obtain ⟨cq3, kq3, q3a, q3b, q3c⟩ := isOf hZ e2q A0
  obtain ⟨_, _, ⟨T3, L3, k3, n3⟩, -, X3, ⟨Lc3, hQ3, l3, y3, z3⟩, st3⟩ := X2.virtualBack hx (y := (⟨"java/util/ArrayList", "elementData", "(I)Ljava/lang/Object;"⟩ : MethodName)) (z := (⟨"java/util/ArrayList", "elementData", "(I)Ljava/lang/Object;"⟩ : MethodName)) hown (mvT hZ (hw _ (List.mem_of_getElem? (i := 104) rfl))) (mvT hZ (hw _ (List.mem_of_getElem? (i := 105) rfl))) (notFace_of_selects (args := #[]) (mvT hZ (hw _ (List.mem_of_getElem? (i := 107) rfl)))) (mvT hZ (hw _ (List.mem_of_getElem? (i := 107) rfl))) (mvT hZ (hw _ (List.mem_of_getElem? (i := 106) rfl))) (by decide) (backOf (W := 0) (rm19_19 l Z a0 hw [] o1 o2 kc1 o3 h0 n0 Z0 A0 A1 A3 O4 A5 gn_o1 ne_o1_o2 ne_o1_o3 gn_o2 ne_o2_o3 gn_o3) hZ (hw _ (List.mem_of_getElem? (i := 108) rfl)) (hw _ (List.mem_of_getElem? (i := 28) rfl)) (by decide) (by decide)) q3a q3c (g := (mkF m 11 #[.val (.ref o1), .val (.int (0 : Int32))] [(.int (0 : Int32)), (.ref o1)])) rfl (by rw [hml]; rfl) (Steps.refl _) (argsL := [(.int (0 : Int32))]) (rest := []) (lenOf pd_5 rfl) rfl (by show 2 * 0 + _ ≤ _; exact Nat.le_of_eq rfl) (hb hby d16_11) (fun _ _ => ⟨rfl, e2q, (by decide : 0 + 0 ≤ _), (by decide : 0 + 0 ≤ _)⟩)
  dsimp only [Pt.U, Pt.locs, Pt.cells, Pt.slots] at X3 l3 y3 z3 st3 hQ3
  subst l3 y3 z3
  obtain ⟨rfl, N3q, e3q⟩ := hQ3
  have N3 := Fr.app N2 N3q
  refine step (T3.setTop (mkF m 14 #[.val (.ref o1), .val (.int (0 : Int32))] [(.ref o3)])) (fun t k => st3.trans k) ?_
  refine fin (v := some (.ref o3)) X3 (fun h => by cases h) ?_ (by decide) (by decide) (fun fs hr => X3.areturnOut hx rfl hret rfl (hb hby d16_14) hr)
  show Q16_16 Z o1 o2 kc1 o3 h0 n0 (some (.ref o3)) T3.heap _
  rw [e3q]
  exact ⟨rfl, N3, rfl⟩
theorem d20_0 : decode jdk_42_method_66_code 0 = .ok (.aload_n 0, 1) := by decide +kernel
theorem d20_1 : decode jdk_42_method_66_code 1 = .ok (.aload_n 1, 1) := by decide +kernel
theorem d20_2 : decode jdk_42_method_66_code 2 = .ok (.if_acmp .ne 5, 3) := by decide +kernel
theorem d20_5 : decode jdk_42_method_66_code 5 = .ok (.iconst 1, 1) := by decide +kernel
theorem d20_6 : decode jdk_42_method_66_code 6 = .ok (.ireturn, 1) := by decide +kernel
theorem d20_7 : decode jdk_42_method_66_code 7 = .ok (.aload_n 1, 1) := by decide +kernel
theorem d20_8 : decode jdk_42_method_66_code 8 = .ok (.instanceof 10, 3) := by decide +kernel
theorem d20_11 : decode jdk_42_method_66_code 11 = .ok (.ifCond .eq 43, 3) := by decide +kernel
theorem d20_14 : decode jdk_42_method_66_code 14 = .ok (.aload_n 1, 1) := by decide +kernel
theorem d20_15 : decode jdk_42_method_66_code 15 = .ok (.checkcast 10, 3) := by decide +kernel
theorem d20_18 : decode jdk_42_method_66_code 18 = .ok (.astore_n 2, 1) := by decide +kernel
theorem d20_19 : decode jdk_42_method_66_code 19 = .ok (.getstatic 38, 3) := by decide +kernel
theorem d20_22 : decode jdk_42_method_66_code 22 = .ok (.ifCond .eq 14, 3) := by decide +kernel
theorem d20_25 : decode jdk_42_method_66_code 25 = .ok (.aload_n 0, 1) := by decide +kernel
theorem d20_26 : decode jdk_42_method_66_code 26 = .ok (.getfield 15, 3) := by decide +kernel
theorem d20_29 : decode jdk_42_method_66_code 29 = .ok (.aload_n 2, 1) := by decide +kernel
theorem d20_30 : decode jdk_42_method_66_code 30 = .ok (.getfield 15, 3) := by decide +kernel
theorem d20_33 : decode jdk_42_method_66_code 33 = .ok (.if_icmp .ne 21, 3) := by decide +kernel
theorem d20_36 : decode jdk_42_method_66_code 36 = .ok (.aload_n 0, 1) := by decide +kernel
theorem d20_37 : decode jdk_42_method_66_code 37 = .ok (.getfield 9, 3) := by decide +kernel
theorem d20_40 : decode jdk_42_method_66_code 40 = .ok (.aload_n 2, 1) := by decide +kernel
theorem d20_41 : decode jdk_42_method_66_code 41 = .ok (.getfield 9, 3) := by decide +kernel
theorem d20_44 : decode jdk_42_method_66_code 44 = .ok (.invokestatic 541, 3) := by decide +kernel
theorem d20_47 : decode jdk_42_method_66_code 47 = .ok (.ifCond .eq 7, 3) := by decide +kernel
theorem d20_50 : decode jdk_42_method_66_code 50 = .ok (.iconst 1, 1) := by decide +kernel
theorem d20_51 : decode jdk_42_method_66_code 51 = .ok (.goto 4, 3) := by decide +kernel
theorem d20_54 : decode jdk_42_method_66_code 54 = .ok (.iconst 0, 1) := by decide +kernel
theorem d20_55 : decode jdk_42_method_66_code 55 = .ok (.ireturn, 1) := by decide +kernel
theorem ef_20_20 (m : MethodId) (x0 : Addr) (x1 : Addr) : entryFrame m #[(.ref x0), (.ref x1)] 3 = mkF m 0 #[.val (.ref x0), .val (.ref x1), .unset] [] := by first | (simp [entryFrame, mkF, argsToLocals, Value.category]; done) | rfl
def Q20_20 (Z : State) (o1 : Addr) (i1 : Int32) (o2 : Addr) (h0 : Heap) (n0 : Nat) (v : Option Value) (h : Heap) (L : List Loc) : Prop := v = some (.int (1 : Int32)) ∧ Fr n0 L ∧ h = h0
set_option maxRecDepth 65536 in
set_option maxHeartbeats 40000000 in
theorem rm20_20 (l : Launch) (Z : State) (a0 : Array Value) (hw : ∀ d ∈ tables_1, d.before a0 Z = true) (ws : List Jvm.Cond) (o1 : Addr) (i1 : Int32) (o2 : Addr) (h0 : Heap) (n0 : Nat) (Z0 : n0 ≤ h0.size) (S0 : Sta Z h0 "java/lang/String" "COMPACT_STRINGS" "Z" (.int i1)) (A1 : Exa Z h0 o1 "java/lang/String") (A2 : Fld Z h0 o1 "java/lang/String" "coder" "B" (.int (0 : Int32))) (A3 : Fld Z h0 o1 "java/lang/String" "value" "[B" (.ref o2)) (gn_o1 : n0 ≤ o1) (ne_o1_o2 : o1 ≠ o2) (gn_o2 : n0 ≤ o2) (hy7 : ¬ (i1 = (0 : Int32)))  :
    MetFree l (⟨"java/lang/String", "equals", "(Ljava/lang/Object;)Z"⟩ : MethodName) (head1 (Jvm.Cond.code (⟨"java/lang/String", "equals", "(Ljava/lang/Object;)Z"⟩ : MethodName) jdk_42_method_66_code 3 (some .boolean) :: ws) ({ frames := 0, cells := 0, slots := 0, locals := 0 } : Room)) (fun a U => a = #[(.ref o1), (.ref o1)] ∧ Z.Warmed39 U.vm ∧ U.heap = h0) (fun _ _ _ _ _ => True) (fun _ U o U' => ∃ v L, o = .returned v ∧ Q20_20 Z o1 i1 o2 h0 n0 v U'.heap L ∧ FrameEnd U o U' L ({ frames := 0, cells := 0, slots := 0, locals := 0 } : Room).cells ({ frames := 0, cells := 0, slots := 0, locals := 0 } : Room).slots) := by
  refine own_body (plainFor_of_name pn_1) ?_
  intro p e s m below meth c s₁ G hx hby hml hZ hown hnm hret X0 e0 step fin
  replace hown : s.vm.findClass "java/lang/String" = some m.cls := hown
  replace hnm : meth.name = "equals" := hnm
  replace hret : meth.sig.returnType = some .boolean := hret
  replace hml : c.maxLocals = 3 := hml
  have N0 := Fr.nil n0
  refine step (s₁.setTop (mkF m 0 #[.val (.ref o1), .val (.ref o1), .unset] [])) (fun t k => castTop (ef_20_20 m o1 o1) k) ?_
  refine step (s₁.setTop (mkF m 1 #[.val (.ref o1), .val (.ref o1), .unset] [(.ref o1)])) (fun t k => XS.aloadN X0.here hx rfl (hb hby d20_0) rfl rfl k) ?_
  refine step (s₁.setTop (mkF m 2 #[.val (.ref o1), .val (.ref o1), .unset] [(.ref o1), (.ref o1)])) (fun t k => XS.aloadN X0.here hx rfl (hb hby d20_1) rfl rfl k) ?_
  refine step (s₁.setTop (mkF m 5 #[.val (.ref o1), .val (.ref o1), .unset] [])) (fun t k => Jvm.RoadKit.acmp (g := (mkF m 2 #[.val (.ref o1), .val (.ref o1), .unset] [(.ref o1), (.ref o1)])) X0 hx rfl rfl rfl (pc0 := 2) (pc' := 5) (same := true) rfl (hb hby d20_2) rfl (decide_eq_true rfl) (by decide) (by decide) k) ?_
  refine step (s₁.setTop (mkF m 6 #[.val (.ref o1), .val (.ref o1), .unset] [(.int (1 : Int32))])) (fun t k => XS.iconst X0.here hx rfl (hb hby d20_5) k) ?_
  refine fin (v := some (.int (nar .boolean (1 : Int32)))) X0 (fun h => by cases h) ?_ (by decide) (by decide) (fun fs hr => retN X0 hx (t := .boolean) hret (by simp) (hb hby d20_6) hr)
  show Q20_20 Z o1 i1 o2 h0 n0 (some (.int (nar .boolean (1 : Int32)))) s₁.heap _
  rw [e0]
  exact ⟨rfl, N0, rfl⟩
theorem ef_12_22 (m : MethodId) (x0 : Addr) (x1 : Addr) (x2 : Addr) : entryFrame m #[(.ref x0), (.ref x1), (.ref x2), (.int (1 : Int32))] 4 = mkF m 0 #[.val (.ref x0), .val (.ref x1), .val (.ref x2), .val (.int (1 : Int32))] [] := by first | (simp [entryFrame, mkF, argsToLocals, Value.category]; done) | rfl
def Q12_22 (Z : State) (o1 : Addr) (o2 : Addr) (o3 : Addr) (o4 : Addr) (kc1 : ClassId) (o5 : Addr) (kc2 : ClassId) (h0 : Heap) (n0 : Nat) (v : Option Value) (h : Heap) (L : List Loc) : Prop := v = none ∧ Fr n0 L ∧ Keep h0 h [o3, o1] ∧ Arv Z h o3 kc1 (.object "java/lang/Object") (10 : Int32) [(.ref o5), (.ref o2), .null, .null, .null, .null, .null, .null, .null, .null] .null ∧ Fld Z h o1 "java/util/ArrayList" "elementData" "[Ljava/lang/Object;" (.ref o3) ∧ Fld Z h o1 "java/util/AbstractList" "modCount" "I" (.int (2 : Int32)) ∧ Fld Z h o1 "java/util/ArrayList" "size" "I" (.int (2 : Int32))
set_option maxRecDepth 65536 in
set_option maxHeartbeats 40000000 in
theorem rm12_22 (l : Launch) (Z : State) (a0 : Array Value) (hw : ∀ d ∈ tables_1, d.before a0 Z = true) (ws : List Jvm.Cond) (o1 : Addr) (o2 : Addr) (o3 : Addr) (o4 : Addr) (kc1 : ClassId) (o5 : Addr) (kc2 : ClassId) (h0 : Heap) (n0 : Nat) (Z0 : n0 ≤ h0.size) (S0 : Sta Z h0 "java/util/ArrayList" "DEFAULTCAPACITY_EMPTY_ELEMENTDATA" "[Ljava/lang/Object;" (.ref o4)) (A1 : Exa Z h0 o1 "java/util/ArrayList") (A2 : Fld Z h0 o1 "java/util/ArrayList" "elementData" "[Ljava/lang/Object;" (.ref o3)) (A3 : Fld Z h0 o1 "java/util/AbstractList" "modCount" "I" (.int (2 : Int32))) (A4 : Fld Z h0 o1 "java/util/ArrayList" "size" "I" (.int (1 : Int32))) (A5 : Exa Z h0 o2 "java/lang/String") (A6 : Arv Z h0 o3 kc1 (.object "java/lang/Object") (10 : Int32) [(.ref o5), .null, .null, .null, .null, .null, .null, .null, .null, .null] .null) (O7 : Ovr Z kc1 "java/lang/Object") (A8 : Arv Z h0 o4 kc2 (.object "java/lang/Object") (0 : Int32) [] .null) (A9 : Exa Z h0 o5 "java/lang/String") (gn_o1 : n0 ≤ o1) (ne_o1_o2 : o1 ≠ o2) (ne_o1_o3 : o1 ≠ o3) (ne_o1_o4 : o1 ≠ o4) (ne_o1_o5 : o1 ≠ o5) (gn_o2 : n0 ≤ o2) (ne_o2_o3 : o2 ≠ o3) (ne_o2_o4 : o2 ≠ o4) (ne_o2_o5 : o2 ≠ o5) (gn_o3 : n0 ≤ o3) (ne_o3_o4 : o3 ≠ o4) (ne_o3_o5 : o3 ≠ o5) (ne_o4_o5 : o4 ≠ o5) (gn_o5 : n0 ≤ o5)  :
    MetFree l (⟨"java/util/ArrayList", "add", "(Ljava/lang/Object;[Ljava/lang/Object;I)V"⟩ : MethodName) (head1 (Jvm.Cond.code (⟨"java/util/ArrayList", "add", "(Ljava/lang/Object;[Ljava/lang/Object;I)V"⟩ : MethodName) jdk_38_method_24_code 4 none :: ws) ({ frames := 0, cells := 0, slots := 0, locals := 0 } : Room)) (fun a U => a = #[(.ref o1), (.ref o2), (.ref o3), (.int (1 : Int32))] ∧ Z.Warmed39 U.vm ∧ U.heap = h0) (fun _ _ _ _ _ => True) (fun _ U o U' => ∃ v L, o = .returned v ∧ Q12_22 Z o1 o2 o3 o4 kc1 o5 kc2 h0 n0 v U'.heap L ∧ FrameEnd U o U' L ({ frames := 0, cells := 0, slots := 0, locals := 0 } : Room).cells ({ frames := 0, cells := 0, slots := 0, locals := 0 } : Room).slots) := by
  refine own_body (plainFor_of_name pn_3) ?_
  intro p e s m below meth c s₁ G hx hby hml hZ hown hnm hret X0 e0 step fin
  replace hown : s.vm.findClass "java/util/ArrayList" = some m.cls := hown
  replace hnm : meth.name = "add" := hnm
  replace hret : meth.sig.returnType = none := hret
  replace hml : c.maxLocals = 4 := hml
  have N0 := Fr.nil n0
  refine step (s₁.setTop (mkF m 0 #[.val (.ref o1), .val (.ref o2), .val (.ref o3), .val (.int (1 : Int32))] [])) (fun t k => castTop (ef_12_22 m o1 o2 o3) k) ?_
  refine step (s₁.setTop (mkF m 1 #[.val (.ref o1), .val (.ref o2), .val (.ref o3), .val (.int (1 : Int32))] [(.int (1 : Int32))])) (fun t k => XS.iloadN X0.here hx rfl (hb hby d12_0) rfl k) ?_
  refine step (s₁.setTop (mkF m 2 #[.val (.ref o1), .val (.ref o2), .val (.ref o3), .val (.int (1 : Int32))] [(.ref o3), (.int (1 : Int32))])) (fun t k => XS.aloadN X0.here hx rfl (hb hby d12_1) rfl rfl k) ?_
  obtain ⟨cl1, Ar1, q1, S1, N1n, H1, G1⟩ := id A6
  refine step (s₁.setTop (mkF m 3 #[.val (.ref o1), .val (.ref o2), .val (.ref o3), .val (.int (1 : Int32))] [(.int (10 : Int32)), (.int (1 : Int32))])) (fun t k => X0.arraylength hx (by rw [e0]; exact Ar1.1) (State.isArrayOf_alike hZ.alike Ar1.2.1) (g := (mkF m 2 #[.val (.ref o1), .val (.ref o2), .val (.ref o3), .val (.int (1 : Int32))] [(.ref o3), (.int (1 : Int32))])) rfl rfl (hb hby d12_2) t (by rw [len_of S1 N1n]; exact k)) ?_
  refine step (s₁.setTop (mkF m 11 #[.val (.ref o1), .val (.ref o2), .val (.ref o3), .val (.int (1 : Int32))] [])) (fun t k => XS.icmpYes X0.here hx rfl (pc0 := 3) (pc' := 11) rfl (hb hby d12_3) rfl (feq (by decide : ¬ ((1 : Int32) = (10 : Int32)))).2 (by decide) (by decide) k) ?_
  refine step (s₁.setTop (mkF m 12 #[.val (.ref o1), .val (.ref o2), .val (.ref o3), .val (.int (1 : Int32))] [(.ref o3)])) (fun t k => XS.aloadN X0.here hx rfl (hb hby d12_11) rfl rfl k) ?_
  refine step (s₁.setTop (mkF m 13 #[.val (.ref o1), .val (.ref o2), .val (.ref o3), .val (.int (1 : Int32))] [(.int (1 : Int32)), (.ref o3)])) (fun t k => XS.iloadN X0.here hx rfl (hb hby d12_12) rfl k) ?_
  refine step (s₁.setTop (mkF m 14 #[.val (.ref o1), .val (.ref o2), .val (.ref o3), .val (.int (1 : Int32))] [(.ref o2), (.int (1 : Int32)), (.ref o3)])) (fun t k => XS.aloadN X0.here hx rfl (hb hby d12_13) rfl rfl k) ?_
  obtain ⟨cl2, Ar2, q2, S2, N2n, H2, G2⟩ := id A6
  have hin2 : ¬ ((1 : Int32) < 0 ∨ cl2.slots.size ≤ ((1 : Int32)).toNatClampNeg) := inb_of S2 ⟨by decide, by decide⟩
  obtain ⟨T2, h2, X2, e2, W2, st2⟩ := stR X0 hx hZ e0 Ar2 (j := (1 : Int32)) (v := (.ref o2)) hin2 rfl (Sto.ofV Ar2 q2 O7 (Ins.of_exa A5 (hw _ (List.mem_of_getElem? (i := 90) rfl)))) (g := (mkF m 14 #[.val (.ref o1), .val (.ref o2), .val (.ref o3), .val (.int (1 : Int32))] [(.ref o2), (.int (1 : Int32)), (.ref o3)])) rfl rfl (hb hby d12_14)
  have N2 := Fr.snoc X2 N0 gn_o3
  have K2 : Keep h0 h2 [o3, o1] := (Keep.refl h0 [o3, o1]).wr W2 (Or.inl (List.mem_of_getElem? (i := 0) rfl))
  have V2 : Arv Z h2 o3 kc1 (.object "java/lang/Object") (10 : Int32) [(.ref o5), (.ref o2), .null, .null, .null, .null, .null, .null, .null, .null] .null := Arv.set Ar2 q2 S2 N2n H2 G2 rfl W2 1 rfl (Nat.le_of_ble_eq_true rfl)
  refine step (T2.setTop (mkF m 15 #[.val (.ref o1), .val (.ref o2), .val (.ref o3), .val (.int (1 : Int32))] [])) (fun t k => st2 t k) ?_
  refine step (T2.setTop (mkF m 16 #[.val (.ref o1), .val (.ref o2), .val (.ref o3), .val (.int (1 : Int32))] [(.ref o1)])) (fun t k => XS.aloadN X2.here hx rfl (hb hby d12_15) rfl rfl k) ?_
  refine step (T2.setTop (mkF m 17 #[.val (.ref o1), .val (.ref o2), .val (.ref o3), .val (.int (1 : Int32))] [(.int (1 : Int32)), (.ref o1)])) (fun t k => XS.iloadN X2.here hx rfl (hb hby d12_16) rfl k) ?_
  refine step (T2.setTop (mkF m 18 #[.val (.ref o1), .val (.ref o2), .val (.ref o3), .val (.int (1 : Int32))] [(.int (1 : Int32)), (.int (1 : Int32)), (.ref o1)])) (fun t k => XS.iconst X2.here hx rfl (hb hby d12_17) k) ?_
  refine step (T2.setTop (mkF m 19 #[.val (.ref o1), .val (.ref o2), .val (.ref o3), .val (.int (1 : Int32))] [(.int (2 : Int32)), (.ref o1)])) (fun t k => XS.iadd X2.here hx rfl (hb hby d12_18) rfl k) ?_
  have f3 := (A1.wr W2)
  have f4 := (A4.other W2 (Or.inl ne_o1_o3))
  obtain ⟨T5, h5, X5, e5, W5, st5⟩ := putF X2 hx hZ hown (host := "") (Or.inl (hw _ (List.mem_of_getElem? (i := 60) rfl))) Via.refl e2 f4 f3 (Or.inl (hw _ (List.mem_of_getElem? (i := 61) rfl))) (hw _ (List.mem_of_getElem? (i := 27) rfl)) (ty := .int) (by decide) rfl rfl (g := (mkF m 19 #[.val (.ref o1), .val (.ref o2), .val (.ref o3), .val (.int (1 : Int32))] [(.int (2 : Int32)), (.ref o1)])) rfl rfl (hb hby d12_19)
  have N5 := Fr.snoc X5 N2 gn_o1
  have K5 : Keep h0 h5 [o3, o1] := K2.wr W5 (Or.inl (List.mem_of_getElem? (i := 1) rfl))
  have F5 := f4.same W5
  refine step (T5.setTop (mkF m 22 #[.val (.ref o1), .val (.ref o2), .val (.ref o3), .val (.int (1 : Int32))] [])) (fun t k => st5 t k) ?_
  have f6 := (V2.other W5 (Ne.symm ne_o1_o3))
  have f7 := ((A2.other W2 (Or.inl ne_o1_o3)).other W5 (Or.inr (slot_ne (Or.inl (hw _ (List.mem_of_getElem? (i := 49) rfl))) (Or.inl (hw _ (List.mem_of_getElem? (i := 61) rfl))) (by decide) (t := (.array (.object "java/lang/Object"))) (t' := .int) (by decide) (by decide))))
  have f8 := ((A3.other W2 (Or.inl ne_o1_o3)).other W5 (Or.inr (slot_ne (Or.inl (hw _ (List.mem_of_getElem? (i := 46) rfl))) (Or.inl (hw _ (List.mem_of_getElem? (i := 61) rfl))) (by decide) (t := .int) (t' := .int) (by decide) (by decide))))
  refine fin (v := none) X5 (fun _ => rfl) ?_ (by decide) (by decide) (fun fs hr => X5.returnOut hx hret (hb hby d12_22) hr)
  show Q12_22 Z o1 o2 o3 o4 kc1 o5 kc2 h0 n0 (none) T5.heap _
  rw [e5]
  exact ⟨rfl, N5, K5, f6, f7, f8, F5⟩
theorem ef_11_21 (m : MethodId) (x0 : Addr) (x1 : Addr) : entryFrame m #[(.ref x0), (.ref x1)] 2 = mkF m 0 #[.val (.ref x0), .val (.ref x1)] [] := by first | (simp [entryFrame, mkF, argsToLocals, Value.category]; done) | rfl
def Q11_21 (Z : State) (o1 : Addr) (o2 : Addr) (o3 : Addr) (o4 : Addr) (kc1 : ClassId) (kc2 : ClassId) (o5 : Addr) (h0 : Heap) (n0 : Nat) (v : Option Value) (h : Heap) (L : List Loc) : Prop := v = some (.int (1 : Int32)) ∧ Fr n0 L ∧ Keep h0 h [o1, o4] ∧ Fld Z h o1 "java/util/ArrayList" "elementData" "[Ljava/lang/Object;" (.ref o4) ∧ Fld Z h o1 "java/util/AbstractList" "modCount" "I" (.int (2 : Int32)) ∧ Fld Z h o1 "java/util/ArrayList" "size" "I" (.int (2 : Int32)) ∧ Arv Z h o4 kc2 (.object "java/lang/Object") (10 : Int32) [(.ref o5), (.ref o2), .null, .null, .null, .null, .null, .null, .null, .null] .null
set_option maxRecDepth 65536 in
set_option maxHeartbeats 40000000 in
theorem rm11_21 (l : Launch) (Z : State) (a0 : Array Value) (hw : ∀ d ∈ tables_1, d.before a0 Z = true) (ws : List Jvm.Cond) (o1 : Addr) (o2 : Addr) (o3 : Addr) (o4 : Addr) (kc1 : ClassId) (kc2 : ClassId) (o5 : Addr) (h0 : Heap) (n0 : Nat) (Z0 : n0 ≤ h0.size) (S0 : Sta Z h0 "java/util/ArrayList" "DEFAULTCAPACITY_EMPTY_ELEMENTDATA" "[Ljava/lang/Object;" (.ref o3)) (A1 : Exa Z h0 o1 "java/util/ArrayList") (A2 : Fld Z h0 o1 "java/util/ArrayList" "elementData" "[Ljava/lang/Object;" (.ref o4)) (A3 : Fld Z h0 o1 "java/util/AbstractList" "modCount" "I" (.int (1 : Int32))) (A4 : Fld Z h0 o1 "java/util/ArrayList" "size" "I" (.int (1 : Int32))) (A5 : Exa Z h0 o2 "java/lang/String") (A6 : Arv Z h0 o3 kc1 (.object "java/lang/Object") (0 : Int32) [] .null) (A7 : Arv Z h0 o4 kc2 (.object "java/lang/Object") (10 : Int32) [(.ref o5), .null, .null, .null, .null, .null, .null, .null, .null, .null] .null) (O8 : Ovr Z kc2 "java/lang/Object") (A9 : Exa Z h0 o5 "java/lang/String") (gn_o1 : n0 ≤ o1) (ne_o1_o2 : o1 ≠ o2) (ne_o1_o3 : o1 ≠ o3) (ne_o1_o4 : o1 ≠ o4) (ne_o1_o5 : o1 ≠ o5) (gn_o2 : n0 ≤ o2) (ne_o2_o3 : o2 ≠ o3) (ne_o2_o4 : o2 ≠ o4) (ne_o2_o5 : o2 ≠ o5) (ne_o3_o4 : o3 ≠ o4) (ne_o3_o5 : o3 ≠ o5) (gn_o4 : n0 ≤ o4) (ne_o4_o5 : o4 ≠ o5) (gn_o5 : n0 ≤ o5)  :
    MetFree l (⟨"java/util/ArrayList", "add", "(Ljava/lang/Object;)Z"⟩ : MethodName) (head1 (Jvm.Cond.code (⟨"java/util/ArrayList", "add", "(Ljava/lang/Object;)Z"⟩ : MethodName) jdk_38_method_25_code 2 (some .boolean) :: ws) ({ frames := 1, cells := 0, slots := 0, locals := 15 } : Room)) (fun a U => a = #[(.ref o1), (.ref o2)] ∧ Z.Warmed39 U.vm ∧ U.heap = h0) (fun _ _ _ _ _ => True) (fun _ U o U' => ∃ v L, o = .returned v ∧ Q11_21 Z o1 o2 o3 o4 kc1 kc2 o5 h0 n0 v U'.heap L ∧ FrameEnd U o U' L ({ frames := 1, cells := 0, slots := 0, locals := 15 } : Room).cells ({ frames := 1, cells := 0, slots := 0, locals := 15 } : Room).slots) := by
  refine own_body (plainFor_of_name pn_3) ?_
  intro p e s m below meth c s₁ G hx hby hml hZ hown hnm hret X0 e0 step fin
  replace hown : s.vm.findClass "java/util/ArrayList" = some m.cls := hown
  replace hnm : meth.name = "add" := hnm
  replace hret : meth.sig.returnType = some .boolean := hret
  replace hml : c.maxLocals = 2 := hml
  have N0 := Fr.nil n0
  refine step (s₁.setTop (mkF m 0 #[.val (.ref o1), .val (.ref o2)] [])) (fun t k => castTop (ef_11_21 m o1 o2) k) ?_
  refine step (s₁.setTop (mkF m 1 #[.val (.ref o1), .val (.ref o2)] [(.ref o1)])) (fun t k => XS.aloadN X0.here hx rfl (hb hby d11_0) rfl rfl k) ?_
  refine step (s₁.setTop (mkF m 2 #[.val (.ref o1), .val (.ref o2)] [(.ref o1), (.ref o1)])) (fun t k => XS.dup X0.here hx rfl (hb hby d11_1) rfl rfl k) ?_
  obtain ⟨T1, X1, e1, st1⟩ := getF X0 hx hZ hown (host := "") (Or.inl (hw _ (List.mem_of_getElem? (i := 67) rfl))) (Via.of (hw _ (List.mem_of_getElem? (i := 68) rfl))) e0 A3 (g := (mkF m 2 #[.val (.ref o1), .val (.ref o2)] [(.ref o1), (.ref o1)])) rfl rfl (hb hby d11_2)
  refine step (T1.setTop (mkF m 5 #[.val (.ref o1), .val (.ref o2)] [(.int (1 : Int32)), (.ref o1)])) (fun t k => st1 t k) ?_
  refine step (T1.setTop (mkF m 6 #[.val (.ref o1), .val (.ref o2)] [(.int (1 : Int32)), (.int (1 : Int32)), (.ref o1)])) (fun t k => XS.iconst X1.here hx rfl (hb hby d11_5) k) ?_
  refine step (T1.setTop (mkF m 7 #[.val (.ref o1), .val (.ref o2)] [(.int (2 : Int32)), (.ref o1)])) (fun t k => XS.iadd X1.here hx rfl (hb hby d11_6) rfl k) ?_
  obtain ⟨T2, h2, X2, e2, W2, st2⟩ := putF X1 hx hZ hown (host := "") (Or.inl (hw _ (List.mem_of_getElem? (i := 67) rfl))) (Via.of (hw _ (List.mem_of_getElem? (i := 68) rfl))) e1 A3 A1 (Or.inl (hw _ (List.mem_of_getElem? (i := 46) rfl))) (hw _ (List.mem_of_getElem? (i := 27) rfl)) (ty := .int) (by decide) rfl rfl (g := (mkF m 7 #[.val (.ref o1), .val (.ref o2)] [(.int (2 : Int32)), (.ref o1)])) rfl rfl (hb hby d11_7)
  have N2 := Fr.snoc X2 N0 gn_o1
  have K2 : Keep h0 h2 [o1, o4] := (Keep.refl h0 [o1, o4]).wr W2 (Or.inl (List.mem_of_getElem? (i := 0) rfl))
  have F2 := A3.same W2
  refine step (T2.setTop (mkF m 10 #[.val (.ref o1), .val (.ref o2)] [])) (fun t k => st2 t k) ?_
  refine step (T2.setTop (mkF m 11 #[.val (.ref o1), .val (.ref o2)] [(.ref o1)])) (fun t k => XS.aloadN X2.here hx rfl (hb hby d11_10) rfl rfl k) ?_
  refine step (T2.setTop (mkF m 12 #[.val (.ref o1), .val (.ref o2)] [(.ref o2), (.ref o1)])) (fun t k => XS.aloadN X2.here hx rfl (hb hby d11_11) rfl rfl k) ?_
  refine step (T2.setTop (mkF m 13 #[.val (.ref o1), .val (.ref o2)] [(.ref o1), (.ref o2), (.ref o1)])) (fun t k => XS.aloadN X2.here hx rfl (hb hby d11_12) rfl rfl k) ?_
  have f3 := (A2.other W2 (Or.inr (slot_ne (Or.inl (hw _ (List.mem_of_getElem? (i := 49) rfl))) (Or.inl (hw _ (List.mem_of_getElem? (i := 46) rfl))) (by decide) (t := (.array (.object "java/lang/Object"))) (t' := .int) (by decide) (by decide))))
  obtain ⟨T4, X4, e4, st4⟩ := getF X2 hx hZ hown (host := "") (Or.inl (hw _ (List.mem_of_getElem? (i := 48) rfl))) Via.refl e2 f3 (g := (mkF m 13 #[.val (.ref o1), .val (.ref o2)] [(.ref o1), (.ref o2), (.ref o1)])) rfl rfl (hb hby d11_13)
  refine step (T4.setTop (mkF m 16 #[.val (.ref o1), .val (.ref o2)] [(.ref o4), (.ref o2), (.ref o1)])) (fun t k => st4 t k) ?_
  refine step (T4.setTop (mkF m 17 #[.val (.ref o1), .val (.ref o2)] [(.ref o1), (.ref o4), (.ref o2), (.ref o1)])) (fun t k => XS.aloadN X4.here hx rfl (hb hby d11_16) rfl rfl k) ?_
  have f5 := (A4.other W2 (Or.inr (slot_ne (Or.inl (hw _ (List.mem_of_getElem? (i := 61) rfl))) (Or.inl (hw _ (List.mem_of_getElem? (i := 46) rfl))) (by decide) (t := .int) (t' := .int) (by decide) (by decide))))
  obtain ⟨T6, X6, e6, st6⟩ := getF X4 hx hZ hown (host := "") (Or.inl (hw _ (List.mem_of_getElem? (i := 60) rfl))) Via.refl e4 f5 (g := (mkF m 17 #[.val (.ref o1), .val (.ref o2)] [(.ref o1), (.ref o4), (.ref o2), (.ref o1)])) rfl rfl (hb hby d11_17)
  refine step (T6.setTop (mkF m 20 #[.val (.ref o1), .val (.ref o2)] [(.int (1 : Int32)), (.ref o4), (.ref o2), (.ref o1)])) (fun t k => st6 t k) ?_
  have f7 := (S0.wr W2)
  have f8 := (A1.wr W2)
  have f9 := (A5.wr W2)
  have f10 := (A7.other W2 (Ne.symm ne_o1_o4))
  have f11 := (A6.other W2 (Ne.symm ne_o1_o3))
  have f12 := (A9.wr W2)
  obtain ⟨cq13, q13, q13'⟩ := f8.cell
  obtain ⟨_, _, ⟨T13, L13, k13, n13⟩, -, X13, ⟨Lc13, hQ13, l13, y13, z13⟩, st13⟩ := X6.privateBack hx (y := (⟨"java/util/ArrayList", "add", "(Ljava/lang/Object;[Ljava/lang/Object;I)V"⟩ : MethodName)) hown (mvT hZ (hw _ (List.mem_of_getElem? (i := 69) rfl))) (mvT hZ (hw _ (List.mem_of_getElem? (i := 70) rfl))) (mvT hZ (hw _ (List.mem_of_getElem? (i := 72) rfl))) (Cond.privateMethod_at (mvP hZ (hw _ (List.mem_of_getElem? (i := 71) rfl)) (args := #[]))) (mvT hZ (hw _ (List.mem_of_getElem? (i := 73) rfl))) (by decide) (backOf (W := 0) (rm12_22 l Z a0 hw [] o1 o2 o4 o3 kc2 o5 kc1 h2 n0 (Nat.le_trans Z0 K2.1) f7 f8 f3 F2 f5 f9 f10 O8 f11 f12 gn_o1 ne_o1_o2 ne_o1_o4 ne_o1_o3 ne_o1_o5 gn_o2 ne_o2_o4 ne_o2_o3 ne_o2_o5 gn_o4 (Ne.symm ne_o3_o4) ne_o4_o5 ne_o3_o5 gn_o5) hZ (hw _ (List.mem_of_getElem? (i := 73) rfl)) (hw _ (List.mem_of_getElem? (i := 28) rfl)) (by decide) (by decide)) (g := (mkF m 20 #[.val (.ref o1), .val (.ref o2)] [(.int (1 : Int32)), (.ref o4), (.ref o2), (.ref o1)])) rfl (by rw [hml]; rfl) (Steps.refl _) (a := o1) (by rw [e6]; exact q13) q13' (argsL := [(.ref o2), (.ref o4), (.int (1 : Int32))]) (rest := []) (lenOf pd_9 rfl) rfl (by show 2 * 0 + _ ≤ _; exact Nat.le_of_eq rfl) (hb hby d11_20) (fun _ _ => ⟨rfl, e6, (by decide : 0 + 0 ≤ _), (by decide : 0 + 0 ≤ _)⟩)
  dsimp only [Pt.U, Pt.locs, Pt.cells, Pt.slots] at X13 l13 y13 z13 st13 hQ13
  subst l13 y13 z13
  obtain ⟨h13, e13⟩ : ∃ z, T13.heap = z := ⟨_, rfl⟩
  rw [e13] at hQ13
  obtain ⟨rfl, N13q, K13q, q0_13, q1_13, q2_13, q3_13⟩ := hQ13
  have N13 := Fr.app N2 N13q
  have K13 : Keep h0 h13 [o1, o4] := K2.trans K13q (allS (Or.inl (List.mem_of_getElem? (i := 1) rfl)) (allS (Or.inl (List.mem_of_getElem? (i := 0) rfl)) all0))
  have f14 := own_staK f7 K13q (allS (own_arvP f10) (allS (own_exaP f8) all0))
  refine step (T13.setTop (mkF m 23 #[.val (.ref o1), .val (.ref o2)] [])) (fun t k => st13.trans k) ?_
  refine step (T13.setTop (mkF m 24 #[.val (.ref o1), .val (.ref o2)] [(.int (1 : Int32))])) (fun t k => XS.iconst X13.here hx rfl (hb hby d11_23) k) ?_
  refine fin (v := some (.int (nar .boolean (1 : Int32)))) X13 (fun h => by cases h) ?_ (by decide) (by decide) (fun fs hr => retN X13 hx (t := .boolean) hret (by simp) (hb hby d11_24) hr)
  show Q11_21 Z o1 o2 o3 o4 kc1 kc2 o5 h0 n0 (some (.int (nar .boolean (1 : Int32)))) T13.heap _
  rw [e13]
  exact ⟨rfl, N13, K13, q1_13, q2_13, q3_13, q0_13⟩
theorem ef_10_23 (m : MethodId) (x0 : Addr) : entryFrame m #[(.ref x0)] 1 = mkF m 0 #[.val (.ref x0)] [] := by first | (simp [entryFrame, mkF, argsToLocals, Value.category]; done) | rfl
def Q10_23 (Z : State) (o1 : Addr) (h0 : Heap) (n0 : Nat) (v : Option Value) (h : Heap) (L : List Loc) : Prop := v = some (.int (2 : Int32)) ∧ Fr n0 L ∧ h = h0
set_option maxRecDepth 65536 in
set_option maxHeartbeats 40000000 in
theorem rm10_23 (l : Launch) (Z : State) (a0 : Array Value) (hw : ∀ d ∈ tables_1, d.before a0 Z = true) (ws : List Jvm.Cond) (o1 : Addr) (h0 : Heap) (n0 : Nat) (Z0 : n0 ≤ h0.size) (A0 : Exa Z h0 o1 "java/util/ArrayList") (A1 : Fld Z h0 o1 "java/util/ArrayList" "size" "I" (.int (2 : Int32))) (gn_o1 : n0 ≤ o1)  :
    MetFree l (⟨"java/util/ArrayList", "size", "()I"⟩ : MethodName) (head1 (Jvm.Cond.code (⟨"java/util/ArrayList", "size", "()I"⟩ : MethodName) jdk_38_method_8_code 1 (some .int) :: ws) ({ frames := 0, cells := 0, slots := 0, locals := 0 } : Room)) (fun a U => a = #[(.ref o1)] ∧ Z.Warmed39 U.vm ∧ U.heap = h0) (fun _ _ _ _ _ => True) (fun _ U o U' => ∃ v L, o = .returned v ∧ Q10_23 Z o1 h0 n0 v U'.heap L ∧ FrameEnd U o U' L ({ frames := 0, cells := 0, slots := 0, locals := 0 } : Room).cells ({ frames := 0, cells := 0, slots := 0, locals := 0 } : Room).slots) := by
  refine own_body (plainFor_of_name pn_3) ?_
  intro p e s m below meth c s₁ G hx hby hml hZ hown hnm hret X0 e0 step fin
  replace hown : s.vm.findClass "java/util/ArrayList" = some m.cls := hown
  replace hnm : meth.name = "size" := hnm
  replace hret : meth.sig.returnType = some .int := hret
  replace hml : c.maxLocals = 1 := hml
  have N0 := Fr.nil n0
  refine step (s₁.setTop (mkF m 0 #[.val (.ref o1)] [])) (fun t k => castTop (ef_10_23 m o1) k) ?_
  refine step (s₁.setTop (mkF m 1 #[.val (.ref o1)] [(.ref o1)])) (fun t k => XS.aloadN X0.here hx rfl (hb hby d10_0) rfl rfl k) ?_
  obtain ⟨T1, X1, e1, st1⟩ := getF X0 hx hZ hown (host := "") (Or.inl (hw _ (List.mem_of_getElem? (i := 60) rfl))) Via.refl e0 A1 (g := (mkF m 1 #[.val (.ref o1)] [(.ref o1)])) rfl rfl (hb hby d10_1)
  refine step (T1.setTop (mkF m 4 #[.val (.ref o1)] [(.int (2 : Int32))])) (fun t k => st1 t k) ?_
  refine fin (v := some (.int (2 : Int32))) X1 (fun h => by cases h) ?_ (by decide) (by decide) (fun fs hr => retI X1 hx hret (hb hby d10_4) hr)
  show Q10_23 Z o1 h0 n0 (some (.int (2 : Int32))) T1.heap _
  rw [e1]
  exact ⟨rfl, N0, rfl⟩
theorem ef_18_26 (m : MethodId)  : entryFrame m #[(.int (0 : Int32)), (.int (2 : Int32)), .null] 3 = mkF m 0 #[.val (.int (0 : Int32)), .val (.int (2 : Int32)), .val .null] [] := by first | (simp [entryFrame, mkF, argsToLocals, Value.category]; done) | rfl
def Q18_26 (Z : State)  (h0 : Heap) (n0 : Nat) (v : Option Value) (h : Heap) (L : List Loc) : Prop := v = some (.int (0 : Int32)) ∧ Fr n0 L ∧ h = h0
set_option maxRecDepth 65536 in
set_option maxHeartbeats 40000000 in
theorem rm18_26 (l : Launch) (Z : State) (a0 : Array Value) (hw : ∀ d ∈ tables_1, d.before a0 Z = true) (ws : List Jvm.Cond)  (h0 : Heap) (n0 : Nat) (Z0 : n0 ≤ h0.size)  :
    MetFree l (⟨"jdk/internal/util/Preconditions", "checkIndex", "(IILjava/util/function/BiFunction;)I"⟩ : MethodName) (head1 (Jvm.Cond.code (⟨"jdk/internal/util/Preconditions", "checkIndex", "(IILjava/util/function/BiFunction;)I"⟩ : MethodName) jdk_41_method_11_code 3 (some .int) :: ws) ({ frames := 0, cells := 0, slots := 0, locals := 0 } : Room)) (fun a U => a = #[(.int (0 : Int32)), (.int (2 : Int32)), .null] ∧ Z.Warmed39 U.vm ∧ U.heap = h0) (fun _ _ _ _ _ => True) (fun _ U o U' => ∃ v L, o = .returned v ∧ Q18_26 Z  h0 n0 v U'.heap L ∧ FrameEnd U o U' L ({ frames := 0, cells := 0, slots := 0, locals := 0 } : Room).cells ({ frames := 0, cells := 0, slots := 0, locals := 0 } : Room).slots) := by
  refine own_body (plainFor_of_name pn_8) ?_
  intro p e s m below meth c s₁ G hx hby hml hZ hown hnm hret X0 e0 step fin
  replace hown : s.vm.findClass "jdk/internal/util/Preconditions" = some m.cls := hown
  replace hnm : meth.name = "checkIndex" := hnm
  replace hret : meth.sig.returnType = some .int := hret
  replace hml : c.maxLocals = 3 := hml
  have N0 := Fr.nil n0
  refine step (s₁.setTop (mkF m 0 #[.val (.int (0 : Int32)), .val (.int (2 : Int32)), .val .null] [])) (fun t k => castTop (ef_18_26 m ) k) ?_
  refine step (s₁.setTop (mkF m 1 #[.val (.int (0 : Int32)), .val (.int (2 : Int32)), .val .null] [(.int (0 : Int32))])) (fun t k => XS.iloadN X0.here hx rfl (hb hby d18_0) rfl k) ?_
  refine step (s₁.setTop (mkF m 4 #[.val (.int (0 : Int32)), .val (.int (2 : Int32)), .val .null] [])) (fun t k => XS.ifNo X0.here hx rfl (hb hby d18_1) rfl ((if0 _ _).trans (flt (by decide : ¬ ((0 : Int32) < (0 : Int32)))).1) k) ?_
  refine step (s₁.setTop (mkF m 5 #[.val (.int (0 : Int32)), .val (.int (2 : Int32)), .val .null] [(.int (0 : Int32))])) (fun t k => XS.iloadN X0.here hx rfl (hb hby d18_4) rfl k) ?_
  refine step (s₁.setTop (mkF m 6 #[.val (.int (0 : Int32)), .val (.int (2 : Int32)), .val .null] [(.int (2 : Int32)), (.int (0 : Int32))])) (fun t k => XS.iloadN X0.here hx rfl (hb hby d18_5) rfl k) ?_
  refine step (s₁.setTop (mkF m 16 #[.val (.int (0 : Int32)), .val (.int (2 : Int32)), .val .null] [])) (fun t k => XS.icmpYes X0.here hx rfl (pc0 := 6) (pc' := 16) rfl (hb hby d18_6) rfl (tlt (by decide : (0 : Int32) < (2 : Int32))).1 (by decide) (by decide) k) ?_
  refine step (s₁.setTop (mkF m 17 #[.val (.int (0 : Int32)), .val (.int (2 : Int32)), .val .null] [(.int (0 : Int32))])) (fun t k => XS.iloadN X0.here hx rfl (hb hby d18_16) rfl k) ?_
  refine fin (v := some (.int (0 : Int32))) X0 (fun h => by cases h) ?_ (by decide) (by decide) (fun fs hr => retI X0 hx hret (hb hby d18_17) hr)
  show Q18_26 Z  h0 n0 (some (.int (0 : Int32))) s₁.heap _
  rw [e0]
  exact ⟨rfl, N0, rfl⟩
theorem ef_17_25 (m : MethodId)  : entryFrame m #[(.int (0 : Int32)), (.int (2 : Int32))] 2 = mkF m 0 #[.val (.int (0 : Int32)), .val (.int (2 : Int32))] [] := by first | (simp [entryFrame, mkF, argsToLocals, Value.category]; done) | rfl
def Q17_25 (Z : State)  (h0 : Heap) (n0 : Nat) (v : Option Value) (h : Heap) (L : List Loc) : Prop := v = some (.int (0 : Int32)) ∧ Fr n0 L ∧ h = h0
set_option maxRecDepth 65536 in
set_option maxHeartbeats 40000000 in
theorem rm17_25 (l : Launch) (Z : State) (a0 : Array Value) (hw : ∀ d ∈ tables_1, d.before a0 Z = true) (ws : List Jvm.Cond)  (h0 : Heap) (n0 : Nat) (Z0 : n0 ≤ h0.size)  :
    MetFree l (⟨"java/util/Objects", "checkIndex", "(II)I"⟩ : MethodName) (head1 (Jvm.Cond.code (⟨"java/util/Objects", "checkIndex", "(II)I"⟩ : MethodName) jdk_31_method_17_code 2 (some .int) :: ws) ({ frames := 1, cells := 0, slots := 0, locals := 14 } : Room)) (fun a U => a = #[(.int (0 : Int32)), (.int (2 : Int32))] ∧ Z.Warmed39 U.vm ∧ U.heap = h0) (fun _ _ _ _ _ => True) (fun _ U o U' => ∃ v L, o = .returned v ∧ Q17_25 Z  h0 n0 v U'.heap L ∧ FrameEnd U o U' L ({ frames := 1, cells := 0, slots := 0, locals := 14 } : Room).cells ({ frames := 1, cells := 0, slots := 0, locals := 14 } : Room).slots) := by
  refine own_body (plainFor_of_name pn_7) ?_
  intro p e s m below meth c s₁ G hx hby hml hZ hown hnm hret X0 e0 step fin
  replace hown : s.vm.findClass "java/util/Objects" = some m.cls := hown
  replace hnm : meth.name = "checkIndex" := hnm
  replace hret : meth.sig.returnType = some .int := hret
  replace hml : c.maxLocals = 2 := hml
  have N0 := Fr.nil n0
  refine step (s₁.setTop (mkF m 0 #[.val (.int (0 : Int32)), .val (.int (2 : Int32))] [])) (fun t k => castTop (ef_17_25 m ) k) ?_
  refine step (s₁.setTop (mkF m 1 #[.val (.int (0 : Int32)), .val (.int (2 : Int32))] [(.int (0 : Int32))])) (fun t k => XS.iloadN X0.here hx rfl (hb hby d17_0) rfl k) ?_
  refine step (s₁.setTop (mkF m 2 #[.val (.int (0 : Int32)), .val (.int (2 : Int32))] [(.int (2 : Int32)), (.int (0 : Int32))])) (fun t k => XS.iloadN X0.here hx rfl (hb hby d17_1) rfl k) ?_
  refine step (s₁.setTop (mkF m 3 #[.val (.int (0 : Int32)), .val (.int (2 : Int32))] [.null, (.int (2 : Int32)), (.int (0 : Int32))])) (fun t k => XS.aconstNull X0.here hx rfl (hb hby d17_2) k) ?_
  obtain ⟨_, _, ⟨T1, L1, k1, n1⟩, -, X1, ⟨Lc1, hQ1, l1, y1, z1⟩, st1⟩ := Jvm.LawKit.callS X0 hx (y := (⟨"jdk/internal/util/Preconditions", "checkIndex", "(IILjava/util/function/BiFunction;)I"⟩ : MethodName)) hown (mvT hZ (hw _ (List.mem_of_getElem? (i := 100) rfl))) (mvT hZ (hw _ (List.mem_of_getElem? (i := 101) rfl))) (mvT hZ (hw _ (List.mem_of_getElem? (i := 102) rfl))) (mvT hZ (hw _ (List.mem_of_getElem? (i := 103) rfl))) (by decide) (backOf (W := 0) (rm18_26 l Z a0 hw []  h0 n0 Z0 ) hZ (hw _ (List.mem_of_getElem? (i := 103) rfl)) (hw _ (List.mem_of_getElem? (i := 102) rfl)) (by decide) (by decide)) (g := (mkF m 3 #[.val (.int (0 : Int32)), .val (.int (2 : Int32))] [.null, (.int (2 : Int32)), (.int (0 : Int32))])) rfl (by rw [hml]; rfl) (argsL := [(.int (0 : Int32)), (.int (2 : Int32)), .null]) (rest := []) (lenOf pd_13 rfl) rfl (by show 2 * 0 + _ ≤ _; exact Nat.le_of_eq rfl) (hb hby d17_3) (fun _ _ => ⟨rfl, e0, (by decide : 0 + 0 ≤ _), (by decide : 0 + 0 ≤ _)⟩)
  dsimp only [Pt.U, Pt.locs, Pt.cells, Pt.slots] at X1 l1 y1 z1 st1 hQ1
  subst l1 y1 z1
  obtain ⟨rfl, N1q, e1q⟩ := hQ1
  have N1 := Fr.app N0 N1q
  refine step (T1.setTop (mkF m 6 #[.val (.int (0 : Int32)), .val (.int (2 : Int32))] [(.int (0 : Int32))])) (fun t k => st1 t k) ?_
  refine fin (v := some (.int (0 : Int32))) X1 (fun h => by cases h) ?_ (by decide) (by decide) (fun fs hr => retI X1 hx hret (hb hby d17_6) hr)
  show Q17_25 Z  h0 n0 (some (.int (0 : Int32))) T1.heap _
  rw [e1q]
  exact ⟨rfl, N1, rfl⟩
theorem ef_19_27 (m : MethodId) (x0 : Addr) : entryFrame m #[(.ref x0), (.int (0 : Int32))] 2 = mkF m 0 #[.val (.ref x0), .val (.int (0 : Int32))] [] := by first | (simp [entryFrame, mkF, argsToLocals, Value.category]; done) | rfl
def Q19_27 (Z : State) (o1 : Addr) (o2 : Addr) (kc1 : ClassId) (o3 : Addr) (o4 : Addr) (h0 : Heap) (n0 : Nat) (v : Option Value) (h : Heap) (L : List Loc) : Prop := v = some (.ref o3) ∧ Fr n0 L ∧ h = h0
set_option maxRecDepth 65536 in
set_option maxHeartbeats 40000000 in
theorem rm19_27 (l : Launch) (Z : State) (a0 : Array Value) (hw : ∀ d ∈ tables_1, d.before a0 Z = true) (ws : List Jvm.Cond) (o1 : Addr) (o2 : Addr) (kc1 : ClassId) (o3 : Addr) (o4 : Addr) (h0 : Heap) (n0 : Nat) (Z0 : n0 ≤ h0.size) (A0 : Exa Z h0 o1 "java/util/ArrayList") (A1 : Fld Z h0 o1 "java/util/ArrayList" "elementData" "[Ljava/lang/Object;" (.ref o2)) (A2 : Arv Z h0 o2 kc1 (.object "java/lang/Object") (10 : Int32) [(.ref o3), (.ref o4), .null, .null, .null, .null, .null, .null, .null, .null] .null) (O3 : Ovr Z kc1 "java/lang/Object") (A4 : Exa Z h0 o3 "java/lang/String") (A5 : Exa Z h0 o4 "java/lang/String") (gn_o1 : n0 ≤ o1) (ne_o1_o2 : o1 ≠ o2) (ne_o1_o3 : o1 ≠ o3) (ne_o1_o4 : o1 ≠ o4) (gn_o2 : n0 ≤ o2) (ne_o2_o3 : o2 ≠ o3) (ne_o2_o4 : o2 ≠ o4) (gn_o3 : n0 ≤ o3) (ne_o3_o4 : o3 ≠ o4) (gn_o4 : n0 ≤ o4)  :
    MetFree l (⟨"java/util/ArrayList", "elementData", "(I)Ljava/lang/Object;"⟩ : MethodName) (head1 (Jvm.Cond.code (⟨"java/util/ArrayList", "elementData", "(I)Ljava/lang/Object;"⟩ : MethodName) jdk_38_method_18_code 2 (some (.object "java/lang/Object")) :: ws) ({ frames := 0, cells := 0, slots := 0, locals := 0 } : Room)) (fun a U => a = #[(.ref o1), (.int (0 : Int32))] ∧ Z.Warmed39 U.vm ∧ U.heap = h0) (fun _ _ _ _ _ => True) (fun _ U o U' => ∃ v L, o = .returned v ∧ Q19_27 Z o1 o2 kc1 o3 o4 h0 n0 v U'.heap L ∧ FrameEnd U o U' L ({ frames := 0, cells := 0, slots := 0, locals := 0 } : Room).cells ({ frames := 0, cells := 0, slots := 0, locals := 0 } : Room).slots) := by
  refine own_body (plainFor_of_name pn_3) ?_
  intro p e s m below meth c s₁ G hx hby hml hZ hown hnm hret X0 e0 step fin
  replace hown : s.vm.findClass "java/util/ArrayList" = some m.cls := hown
  replace hnm : meth.name = "elementData" := hnm
  replace hret : meth.sig.returnType = some (.object "java/lang/Object") := hret
  replace hml : c.maxLocals = 2 := hml
  have N0 := Fr.nil n0
  refine step (s₁.setTop (mkF m 0 #[.val (.ref o1), .val (.int (0 : Int32))] [])) (fun t k => castTop (ef_19_27 m o1) k) ?_
  refine step (s₁.setTop (mkF m 1 #[.val (.ref o1), .val (.int (0 : Int32))] [(.ref o1)])) (fun t k => XS.aloadN X0.here hx rfl (hb hby d19_0) rfl rfl k) ?_
  obtain ⟨T1, X1, e1, st1⟩ := getF X0 hx hZ hown (host := "") (Or.inl (hw _ (List.mem_of_getElem? (i := 48) rfl))) Via.refl e0 A1 (g := (mkF m 1 #[.val (.ref o1), .val (.int (0 : Int32))] [(.ref o1)])) rfl rfl (hb hby d19_1)
  refine step (T1.setTop (mkF m 4 #[.val (.ref o1), .val (.int (0 : Int32))] [(.ref o2)])) (fun t k => st1 t k) ?_
  refine step (T1.setTop (mkF m 5 #[.val (.ref o1), .val (.int (0 : Int32))] [(.int (0 : Int32)), (.ref o2)])) (fun t k => XS.iloadN X1.here hx rfl (hb hby d19_4) rfl k) ?_
  obtain ⟨cl2, Ar2, q2, S2, N2n, H2, G2⟩ := id A2
  have hin2 : ¬ ((0 : Int32) < 0 ∨ cl2.slots.size ≤ ((0 : Int32)).toNatClampNeg) := inb_of S2 ⟨by decide, by decide⟩
  have hat2 : cl2.slots[((0 : Int32)).toNatClampNeg]? = some (.ref o3) := H2.at hin2 rfl
  refine step (T1.setTop (mkF m 6 #[.val (.ref o1), .val (.int (0 : Int32))] [(.ref o3)])) (fun t k => X1.aaload hx (j := (0 : Int32)) (v := (.ref o3)) (by rw [e1]; exact Ar2.1) (State.isArrayOf_alike hZ.alike Ar2.2.1) rfl Ar2.2.2 hin2 hat2 (g := (mkF m 5 #[.val (.ref o1), .val (.int (0 : Int32))] [(.int (0 : Int32)), (.ref o2)])) rfl rfl (hb hby d19_5) t k) ?_
  refine fin (v := some (.ref o3)) X1 (fun h => by cases h) ?_ (by decide) (by decide) (fun fs hr => X1.areturnOut hx rfl hret rfl (hb hby d19_6) hr)
  show Q19_27 Z o1 o2 kc1 o3 o4 h0 n0 (some (.ref o3)) T1.heap _
  rw [e1]
  exact ⟨rfl, N0, rfl⟩
theorem ef_16_24 (m : MethodId) (x0 : Addr) : entryFrame m #[(.ref x0), (.int (0 : Int32))] 2 = mkF m 0 #[.val (.ref x0), .val (.int (0 : Int32))] [] := by first | (simp [entryFrame, mkF, argsToLocals, Value.category]; done) | rfl
def Q16_24 (Z : State) (o1 : Addr) (o2 : Addr) (kc1 : ClassId) (o3 : Addr) (o4 : Addr) (h0 : Heap) (n0 : Nat) (v : Option Value) (h : Heap) (L : List Loc) : Prop := v = some (.ref o3) ∧ Fr n0 L ∧ h = h0
set_option maxRecDepth 65536 in
set_option maxHeartbeats 40000000 in
theorem rm16_24 (l : Launch) (Z : State) (a0 : Array Value) (hw : ∀ d ∈ tables_1, d.before a0 Z = true) (ws : List Jvm.Cond) (o1 : Addr) (o2 : Addr) (kc1 : ClassId) (o3 : Addr) (o4 : Addr) (h0 : Heap) (n0 : Nat) (Z0 : n0 ≤ h0.size) (A0 : Exa Z h0 o1 "java/util/ArrayList") (A1 : Fld Z h0 o1 "java/util/ArrayList" "elementData" "[Ljava/lang/Object;" (.ref o2)) (A2 : Fld Z h0 o1 "java/util/ArrayList" "size" "I" (.int (2 : Int32))) (A3 : Arv Z h0 o2 kc1 (.object "java/lang/Object") (10 : Int32) [(.ref o3), (.ref o4), .null, .null, .null, .null, .null, .null, .null, .null] .null) (O4 : Ovr Z kc1 "java/lang/Object") (A5 : Exa Z h0 o3 "java/lang/String") (A6 : Exa Z h0 o4 "java/lang/String") (gn_o1 : n0 ≤ o1) (ne_o1_o2 : o1 ≠ o2) (ne_o1_o3 : o1 ≠ o3) (ne_o1_o4 : o1 ≠ o4) (gn_o2 : n0 ≤ o2) (ne_o2_o3 : o2 ≠ o3) (ne_o2_o4 : o2 ≠ o4) (gn_o3 : n0 ≤ o3) (ne_o3_o4 : o3 ≠ o4) (gn_o4 : n0 ≤ o4)  :
    MetFree l (⟨"java/util/ArrayList", "get", "(I)Ljava/lang/Object;"⟩ : MethodName) (head1 (Jvm.Cond.code (⟨"java/util/ArrayList", "get", "(I)Ljava/lang/Object;"⟩ : MethodName) jdk_38_method_20_code 2 (some (.object "java/lang/Object")) :: ws) ({ frames := 2, cells := 0, slots := 0, locals := 27 } : Room)) (fun a U => a = #[(.ref o1), (.int (0 : Int32))] ∧ Z.Warmed39 U.vm ∧ U.heap = h0) (fun _ _ _ _ _ => True) (fun _ U o U' => ∃ v L, o = .returned v ∧ Q16_24 Z o1 o2 kc1 o3 o4 h0 n0 v U'.heap L ∧ FrameEnd U o U' L ({ frames := 2, cells := 0, slots := 0, locals := 27 } : Room).cells ({ frames := 2, cells := 0, slots := 0, locals := 27 } : Room).slots) := by
  refine own_body (plainFor_of_name pn_3) ?_
  intro p e s m below meth c s₁ G hx hby hml hZ hown hnm hret X0 e0 step fin
  replace hown : s.vm.findClass "java/util/ArrayList" = some m.cls := hown
  replace hnm : meth.name = "get" := hnm
  replace hret : meth.sig.returnType = some (.object "java/lang/Object") := hret
  replace hml : c.maxLocals = 2 := hml
  have N0 := Fr.nil n0
  refine step (s₁.setTop (mkF m 0 #[.val (.ref o1), .val (.int (0 : Int32))] [])) (fun t k => castTop (ef_16_24 m o1) k) ?_
  refine step (s₁.setTop (mkF m 1 #[.val (.ref o1), .val (.int (0 : Int32))] [(.int (0 : Int32))])) (fun t k => XS.iloadN X0.here hx rfl (hb hby d16_0) rfl k) ?_
  refine step (s₁.setTop (mkF m 2 #[.val (.ref o1), .val (.int (0 : Int32))] [(.ref o1), (.int (0 : Int32))])) (fun t k => XS.aloadN X0.here hx rfl (hb hby d16_1) rfl rfl k) ?_
  obtain ⟨T1, X1, e1, st1⟩ := getF X0 hx hZ hown (host := "") (Or.inl (hw _ (List.mem_of_getElem? (i := 60) rfl))) Via.refl e0 A2 (g := (mkF m 2 #[.val (.ref o1), .val (.int (0 : Int32))] [(.ref o1), (.int (0 : Int32))])) rfl rfl (hb hby d16_2)
  refine step (T1.setTop (mkF m 5 #[.val (.ref o1), .val (.int (0 : Int32))] [(.int (2 : Int32)), (.int (0 : Int32))])) (fun t k => st1 t k) ?_
  obtain ⟨_, _, ⟨T2, L2, k2, n2⟩, -, X2, ⟨Lc2, hQ2, l2, y2, z2⟩, st2⟩ := Jvm.LawKit.callS X1 hx (y := (⟨"java/util/Objects", "checkIndex", "(II)I"⟩ : MethodName)) hown (mvT hZ (hw _ (List.mem_of_getElem? (i := 96) rfl))) (mvT hZ (hw _ (List.mem_of_getElem? (i := 97) rfl))) (mvT hZ (hw _ (List.mem_of_getElem? (i := 98) rfl))) (mvT hZ (hw _ (List.mem_of_getElem? (i := 99) rfl))) (by decide) (backOf (W := 0) (rm17_25 l Z a0 hw []  h0 n0 Z0 ) hZ (hw _ (List.mem_of_getElem? (i := 99) rfl)) (hw _ (List.mem_of_getElem? (i := 98) rfl)) (by decide) (by decide)) (g := (mkF m 5 #[.val (.ref o1), .val (.int (0 : Int32))] [(.int (2 : Int32)), (.int (0 : Int32))])) rfl (by rw [hml]; rfl) (argsL := [(.int (0 : Int32)), (.int (2 : Int32))]) (rest := []) (lenOf pd_12 rfl) rfl (by show 2 * 0 + _ ≤ _; exact Nat.le_of_eq rfl) (hb hby d16_5) (fun _ _ => ⟨rfl, e1, (by decide : 0 + 0 ≤ _), (by decide : 0 + 0 ≤ _)⟩)
  dsimp only [Pt.U, Pt.locs, Pt.cells, Pt.slots] at X2 l2 y2 z2 st2 hQ2
  subst l2 y2 z2
  obtain ⟨rfl, N2q, e2q⟩ := hQ2
  have N2 := Fr.app N0 N2q
  refine step (T2.setTop (mkF m 8 #[.val (.ref o1), .val (.int (0 : Int32))] [(.int (0 : Int32))])) (fun t k => st2 t k) ?_
  refine step (T2.setTop (mkF m 9 #[.val (.ref o1), .val (.int (0 : Int32))] [])) (fun t k => XS.pop X2.here hx rfl (hb hby d16_8) rfl rfl k) ?_
  refine step (T2.setTop (mkF m 10 #[.val (.ref o1), .val (.int (0 : Int32))] [(.ref o1)])) (fun t k => XS.aloadN X2.here hx rfl (hb hby d16_9) rfl rfl k) ?_
  refine step (T2.setTop (mkF m 11 #[.val (.ref o1), .val (.int (0 : Int32))] [(.int (0 : Int32)), (.ref o1)])) (fun t k => XS.iloadN X2.here hx rfl (hb hby d16_10) rfl k) ?_
  obtain ⟨cq3, kq3, q3a, q3b, q3c⟩ := isOf hZ e2q A0
  obtain ⟨_, _, ⟨T3, L3, k3, n3⟩, -, X3, ⟨Lc3, hQ3, l3, y3, z3⟩, st3⟩ := X2.virtualBack hx (y := (⟨"java/util/ArrayList", "elementData", "(I)Ljava/lang/Object;"⟩ : MethodName)) (z := (⟨"java/util/ArrayList", "elementData", "(I)Ljava/lang/Object;"⟩ : MethodName)) hown (mvT hZ (hw _ (List.mem_of_getElem? (i := 104) rfl))) (mvT hZ (hw _ (List.mem_of_getElem? (i := 105) rfl))) (notFace_of_selects (args := #[]) (mvT hZ (hw _ (List.mem_of_getElem? (i := 107) rfl)))) (mvT hZ (hw _ (List.mem_of_getElem? (i := 107) rfl))) (mvT hZ (hw _ (List.mem_of_getElem? (i := 106) rfl))) (by decide) (backOf (W := 0) (rm19_27 l Z a0 hw [] o1 o2 kc1 o3 o4 h0 n0 Z0 A0 A1 A3 O4 A5 A6 gn_o1 ne_o1_o2 ne_o1_o3 ne_o1_o4 gn_o2 ne_o2_o3 ne_o2_o4 gn_o3 ne_o3_o4 gn_o4) hZ (hw _ (List.mem_of_getElem? (i := 108) rfl)) (hw _ (List.mem_of_getElem? (i := 28) rfl)) (by decide) (by decide)) q3a q3c (g := (mkF m 11 #[.val (.ref o1), .val (.int (0 : Int32))] [(.int (0 : Int32)), (.ref o1)])) rfl (by rw [hml]; rfl) (Steps.refl _) (argsL := [(.int (0 : Int32))]) (rest := []) (lenOf pd_5 rfl) rfl (by show 2 * 0 + _ ≤ _; exact Nat.le_of_eq rfl) (hb hby d16_11) (fun _ _ => ⟨rfl, e2q, (by decide : 0 + 0 ≤ _), (by decide : 0 + 0 ≤ _)⟩)
  dsimp only [Pt.U, Pt.locs, Pt.cells, Pt.slots] at X3 l3 y3 z3 st3 hQ3
  subst l3 y3 z3
  obtain ⟨rfl, N3q, e3q⟩ := hQ3
  have N3 := Fr.app N2 N3q
  refine step (T3.setTop (mkF m 14 #[.val (.ref o1), .val (.int (0 : Int32))] [(.ref o3)])) (fun t k => st3.trans k) ?_
  refine fin (v := some (.ref o3)) X3 (fun h => by cases h) ?_ (by decide) (by decide) (fun fs hr => X3.areturnOut hx rfl hret rfl (hb hby d16_14) hr)
  show Q16_24 Z o1 o2 kc1 o3 o4 h0 n0 (some (.ref o3)) T3.heap _
  rw [e3q]
  exact ⟨rfl, N3, rfl⟩
theorem ef_18_30 (m : MethodId)  : entryFrame m #[(.int (1 : Int32)), (.int (2 : Int32)), .null] 3 = mkF m 0 #[.val (.int (1 : Int32)), .val (.int (2 : Int32)), .val .null] [] := by first | (simp [entryFrame, mkF, argsToLocals, Value.category]; done) | rfl
def Q18_30 (Z : State)  (h0 : Heap) (n0 : Nat) (v : Option Value) (h : Heap) (L : List Loc) : Prop := v = some (.int (1 : Int32)) ∧ Fr n0 L ∧ h = h0
set_option maxRecDepth 65536 in
set_option maxHeartbeats 40000000 in
theorem rm18_30 (l : Launch) (Z : State) (a0 : Array Value) (hw : ∀ d ∈ tables_1, d.before a0 Z = true) (ws : List Jvm.Cond)  (h0 : Heap) (n0 : Nat) (Z0 : n0 ≤ h0.size)  :
    MetFree l (⟨"jdk/internal/util/Preconditions", "checkIndex", "(IILjava/util/function/BiFunction;)I"⟩ : MethodName) (head1 (Jvm.Cond.code (⟨"jdk/internal/util/Preconditions", "checkIndex", "(IILjava/util/function/BiFunction;)I"⟩ : MethodName) jdk_41_method_11_code 3 (some .int) :: ws) ({ frames := 0, cells := 0, slots := 0, locals := 0 } : Room)) (fun a U => a = #[(.int (1 : Int32)), (.int (2 : Int32)), .null] ∧ Z.Warmed39 U.vm ∧ U.heap = h0) (fun _ _ _ _ _ => True) (fun _ U o U' => ∃ v L, o = .returned v ∧ Q18_30 Z  h0 n0 v U'.heap L ∧ FrameEnd U o U' L ({ frames := 0, cells := 0, slots := 0, locals := 0 } : Room).cells ({ frames := 0, cells := 0, slots := 0, locals := 0 } : Room).slots) := by
  refine own_body (plainFor_of_name pn_8) ?_
  intro p e s m below meth c s₁ G hx hby hml hZ hown hnm hret X0 e0 step fin
  replace hown : s.vm.findClass "jdk/internal/util/Preconditions" = some m.cls := hown
  replace hnm : meth.name = "checkIndex" := hnm
  replace hret : meth.sig.returnType = some .int := hret
  replace hml : c.maxLocals = 3 := hml
  have N0 := Fr.nil n0
  refine step (s₁.setTop (mkF m 0 #[.val (.int (1 : Int32)), .val (.int (2 : Int32)), .val .null] [])) (fun t k => castTop (ef_18_30 m ) k) ?_
  refine step (s₁.setTop (mkF m 1 #[.val (.int (1 : Int32)), .val (.int (2 : Int32)), .val .null] [(.int (1 : Int32))])) (fun t k => XS.iloadN X0.here hx rfl (hb hby d18_0) rfl k) ?_
  refine step (s₁.setTop (mkF m 4 #[.val (.int (1 : Int32)), .val (.int (2 : Int32)), .val .null] [])) (fun t k => XS.ifNo X0.here hx rfl (hb hby d18_1) rfl ((if0 _ _).trans (flt (by decide : ¬ ((1 : Int32) < (0 : Int32)))).1) k) ?_
  refine step (s₁.setTop (mkF m 5 #[.val (.int (1 : Int32)), .val (.int (2 : Int32)), .val .null] [(.int (1 : Int32))])) (fun t k => XS.iloadN X0.here hx rfl (hb hby d18_4) rfl k) ?_
  refine step (s₁.setTop (mkF m 6 #[.val (.int (1 : Int32)), .val (.int (2 : Int32)), .val .null] [(.int (2 : Int32)), (.int (1 : Int32))])) (fun t k => XS.iloadN X0.here hx rfl (hb hby d18_5) rfl k) ?_
  refine step (s₁.setTop (mkF m 16 #[.val (.int (1 : Int32)), .val (.int (2 : Int32)), .val .null] [])) (fun t k => XS.icmpYes X0.here hx rfl (pc0 := 6) (pc' := 16) rfl (hb hby d18_6) rfl (tlt (by decide : (1 : Int32) < (2 : Int32))).1 (by decide) (by decide) k) ?_
  refine step (s₁.setTop (mkF m 17 #[.val (.int (1 : Int32)), .val (.int (2 : Int32)), .val .null] [(.int (1 : Int32))])) (fun t k => XS.iloadN X0.here hx rfl (hb hby d18_16) rfl k) ?_
  refine fin (v := some (.int (1 : Int32))) X0 (fun h => by cases h) ?_ (by decide) (by decide) (fun fs hr => retI X0 hx hret (hb hby d18_17) hr)
  show Q18_30 Z  h0 n0 (some (.int (1 : Int32))) s₁.heap _
  rw [e0]
  exact ⟨rfl, N0, rfl⟩
theorem ef_17_29 (m : MethodId)  : entryFrame m #[(.int (1 : Int32)), (.int (2 : Int32))] 2 = mkF m 0 #[.val (.int (1 : Int32)), .val (.int (2 : Int32))] [] := by first | (simp [entryFrame, mkF, argsToLocals, Value.category]; done) | rfl
def Q17_29 (Z : State)  (h0 : Heap) (n0 : Nat) (v : Option Value) (h : Heap) (L : List Loc) : Prop := v = some (.int (1 : Int32)) ∧ Fr n0 L ∧ h = h0
set_option maxRecDepth 65536 in
set_option maxHeartbeats 40000000 in
theorem rm17_29 (l : Launch) (Z : State) (a0 : Array Value) (hw : ∀ d ∈ tables_1, d.before a0 Z = true) (ws : List Jvm.Cond)  (h0 : Heap) (n0 : Nat) (Z0 : n0 ≤ h0.size)  :
    MetFree l (⟨"java/util/Objects", "checkIndex", "(II)I"⟩ : MethodName) (head1 (Jvm.Cond.code (⟨"java/util/Objects", "checkIndex", "(II)I"⟩ : MethodName) jdk_31_method_17_code 2 (some .int) :: ws) ({ frames := 1, cells := 0, slots := 0, locals := 14 } : Room)) (fun a U => a = #[(.int (1 : Int32)), (.int (2 : Int32))] ∧ Z.Warmed39 U.vm ∧ U.heap = h0) (fun _ _ _ _ _ => True) (fun _ U o U' => ∃ v L, o = .returned v ∧ Q17_29 Z  h0 n0 v U'.heap L ∧ FrameEnd U o U' L ({ frames := 1, cells := 0, slots := 0, locals := 14 } : Room).cells ({ frames := 1, cells := 0, slots := 0, locals := 14 } : Room).slots) := by
  refine own_body (plainFor_of_name pn_7) ?_
  intro p e s m below meth c s₁ G hx hby hml hZ hown hnm hret X0 e0 step fin
  replace hown : s.vm.findClass "java/util/Objects" = some m.cls := hown
  replace hnm : meth.name = "checkIndex" := hnm
  replace hret : meth.sig.returnType = some .int := hret
  replace hml : c.maxLocals = 2 := hml
  have N0 := Fr.nil n0
  refine step (s₁.setTop (mkF m 0 #[.val (.int (1 : Int32)), .val (.int (2 : Int32))] [])) (fun t k => castTop (ef_17_29 m ) k) ?_
  refine step (s₁.setTop (mkF m 1 #[.val (.int (1 : Int32)), .val (.int (2 : Int32))] [(.int (1 : Int32))])) (fun t k => XS.iloadN X0.here hx rfl (hb hby d17_0) rfl k) ?_
  refine step (s₁.setTop (mkF m 2 #[.val (.int (1 : Int32)), .val (.int (2 : Int32))] [(.int (2 : Int32)), (.int (1 : Int32))])) (fun t k => XS.iloadN X0.here hx rfl (hb hby d17_1) rfl k) ?_
  refine step (s₁.setTop (mkF m 3 #[.val (.int (1 : Int32)), .val (.int (2 : Int32))] [.null, (.int (2 : Int32)), (.int (1 : Int32))])) (fun t k => XS.aconstNull X0.here hx rfl (hb hby d17_2) k) ?_
  obtain ⟨_, _, ⟨T1, L1, k1, n1⟩, -, X1, ⟨Lc1, hQ1, l1, y1, z1⟩, st1⟩ := Jvm.LawKit.callS X0 hx (y := (⟨"jdk/internal/util/Preconditions", "checkIndex", "(IILjava/util/function/BiFunction;)I"⟩ : MethodName)) hown (mvT hZ (hw _ (List.mem_of_getElem? (i := 100) rfl))) (mvT hZ (hw _ (List.mem_of_getElem? (i := 101) rfl))) (mvT hZ (hw _ (List.mem_of_getElem? (i := 102) rfl))) (mvT hZ (hw _ (List.mem_of_getElem? (i := 103) rfl))) (by decide) (backOf (W := 0) (rm18_30 l Z a0 hw []  h0 n0 Z0 ) hZ (hw _ (List.mem_of_getElem? (i := 103) rfl)) (hw _ (List.mem_of_getElem? (i := 102) rfl)) (by decide) (by decide)) (g := (mkF m 3 #[.val (.int (1 : Int32)), .val (.int (2 : Int32))] [.null, (.int (2 : Int32)), (.int (1 : Int32))])) rfl (by rw [hml]; rfl) (argsL := [(.int (1 : Int32)), (.int (2 : Int32)), .null]) (rest := []) (lenOf pd_13 rfl) rfl (by show 2 * 0 + _ ≤ _; exact Nat.le_of_eq rfl) (hb hby d17_3) (fun _ _ => ⟨rfl, e0, (by decide : 0 + 0 ≤ _), (by decide : 0 + 0 ≤ _)⟩)
  dsimp only [Pt.U, Pt.locs, Pt.cells, Pt.slots] at X1 l1 y1 z1 st1 hQ1
  subst l1 y1 z1
  obtain ⟨rfl, N1q, e1q⟩ := hQ1
  have N1 := Fr.app N0 N1q
  refine step (T1.setTop (mkF m 6 #[.val (.int (1 : Int32)), .val (.int (2 : Int32))] [(.int (1 : Int32))])) (fun t k => st1 t k) ?_
  refine fin (v := some (.int (1 : Int32))) X1 (fun h => by cases h) ?_ (by decide) (by decide) (fun fs hr => retI X1 hx hret (hb hby d17_6) hr)
  show Q17_29 Z  h0 n0 (some (.int (1 : Int32))) T1.heap _
  rw [e1q]
  exact ⟨rfl, N1, rfl⟩
theorem ef_19_31 (m : MethodId) (x0 : Addr) : entryFrame m #[(.ref x0), (.int (1 : Int32))] 2 = mkF m 0 #[.val (.ref x0), .val (.int (1 : Int32))] [] := by first | (simp [entryFrame, mkF, argsToLocals, Value.category]; done) | rfl
def Q19_31 (Z : State) (o1 : Addr) (o2 : Addr) (kc1 : ClassId) (o3 : Addr) (o4 : Addr) (h0 : Heap) (n0 : Nat) (v : Option Value) (h : Heap) (L : List Loc) : Prop := v = some (.ref o4) ∧ Fr n0 L ∧ h = h0
set_option maxRecDepth 65536 in
set_option maxHeartbeats 40000000 in
theorem rm19_31 (l : Launch) (Z : State) (a0 : Array Value) (hw : ∀ d ∈ tables_1, d.before a0 Z = true) (ws : List Jvm.Cond) (o1 : Addr) (o2 : Addr) (kc1 : ClassId) (o3 : Addr) (o4 : Addr) (h0 : Heap) (n0 : Nat) (Z0 : n0 ≤ h0.size) (A0 : Exa Z h0 o1 "java/util/ArrayList") (A1 : Fld Z h0 o1 "java/util/ArrayList" "elementData" "[Ljava/lang/Object;" (.ref o2)) (A2 : Arv Z h0 o2 kc1 (.object "java/lang/Object") (10 : Int32) [(.ref o3), (.ref o4), .null, .null, .null, .null, .null, .null, .null, .null] .null) (O3 : Ovr Z kc1 "java/lang/Object") (A4 : Exa Z h0 o3 "java/lang/String") (A5 : Exa Z h0 o4 "java/lang/String") (gn_o1 : n0 ≤ o1) (ne_o1_o2 : o1 ≠ o2) (ne_o1_o3 : o1 ≠ o3) (ne_o1_o4 : o1 ≠ o4) (gn_o2 : n0 ≤ o2) (ne_o2_o3 : o2 ≠ o3) (ne_o2_o4 : o2 ≠ o4) (gn_o3 : n0 ≤ o3) (ne_o3_o4 : o3 ≠ o4) (gn_o4 : n0 ≤ o4)  :
    MetFree l (⟨"java/util/ArrayList", "elementData", "(I)Ljava/lang/Object;"⟩ : MethodName) (head1 (Jvm.Cond.code (⟨"java/util/ArrayList", "elementData", "(I)Ljava/lang/Object;"⟩ : MethodName) jdk_38_method_18_code 2 (some (.object "java/lang/Object")) :: ws) ({ frames := 0, cells := 0, slots := 0, locals := 0 } : Room)) (fun a U => a = #[(.ref o1), (.int (1 : Int32))] ∧ Z.Warmed39 U.vm ∧ U.heap = h0) (fun _ _ _ _ _ => True) (fun _ U o U' => ∃ v L, o = .returned v ∧ Q19_31 Z o1 o2 kc1 o3 o4 h0 n0 v U'.heap L ∧ FrameEnd U o U' L ({ frames := 0, cells := 0, slots := 0, locals := 0 } : Room).cells ({ frames := 0, cells := 0, slots := 0, locals := 0 } : Room).slots) := by
  refine own_body (plainFor_of_name pn_3) ?_
  intro p e s m below meth c s₁ G hx hby hml hZ hown hnm hret X0 e0 step fin
  replace hown : s.vm.findClass "java/util/ArrayList" = some m.cls := hown
  replace hnm : meth.name = "elementData" := hnm
  replace hret : meth.sig.returnType = some (.object "java/lang/Object") := hret
  replace hml : c.maxLocals = 2 := hml
  have N0 := Fr.nil n0
  refine step (s₁.setTop (mkF m 0 #[.val (.ref o1), .val (.int (1 : Int32))] [])) (fun t k => castTop (ef_19_31 m o1) k) ?_
  refine step (s₁.setTop (mkF m 1 #[.val (.ref o1), .val (.int (1 : Int32))] [(.ref o1)])) (fun t k => XS.aloadN X0.here hx rfl (hb hby d19_0) rfl rfl k) ?_
  obtain ⟨T1, X1, e1, st1⟩ := getF X0 hx hZ hown (host := "") (Or.inl (hw _ (List.mem_of_getElem? (i := 48) rfl))) Via.refl e0 A1 (g := (mkF m 1 #[.val (.ref o1), .val (.int (1 : Int32))] [(.ref o1)])) rfl rfl (hb hby d19_1)
  refine step (T1.setTop (mkF m 4 #[.val (.ref o1), .val (.int (1 : Int32))] [(.ref o2)])) (fun t k => st1 t k) ?_
  refine step (T1.setTop (mkF m 5 #[.val (.ref o1), .val (.int (1 : Int32))] [(.int (1 : Int32)), (.ref o2)])) (fun t k => XS.iloadN X1.here hx rfl (hb hby d19_4) rfl k) ?_
  obtain ⟨cl2, Ar2, q2, S2, N2n, H2, G2⟩ := id A2
  have hin2 : ¬ ((1 : Int32) < 0 ∨ cl2.slots.size ≤ ((1 : Int32)).toNatClampNeg) := inb_of S2 ⟨by decide, by decide⟩
  have hat2 : cl2.slots[((1 : Int32)).toNatClampNeg]? = some (.ref o4) := H2.at hin2 rfl
  refine step (T1.setTop (mkF m 6 #[.val (.ref o1), .val (.int (1 : Int32))] [(.ref o4)])) (fun t k => X1.aaload hx (j := (1 : Int32)) (v := (.ref o4)) (by rw [e1]; exact Ar2.1) (State.isArrayOf_alike hZ.alike Ar2.2.1) rfl Ar2.2.2 hin2 hat2 (g := (mkF m 5 #[.val (.ref o1), .val (.int (1 : Int32))] [(.int (1 : Int32)), (.ref o2)])) rfl rfl (hb hby d19_5) t k) ?_
  refine fin (v := some (.ref o4)) X1 (fun h => by cases h) ?_ (by decide) (by decide) (fun fs hr => X1.areturnOut hx rfl hret rfl (hb hby d19_6) hr)
  show Q19_31 Z o1 o2 kc1 o3 o4 h0 n0 (some (.ref o4)) T1.heap _
  rw [e1]
  exact ⟨rfl, N0, rfl⟩
theorem ef_16_28 (m : MethodId) (x0 : Addr) : entryFrame m #[(.ref x0), (.int (1 : Int32))] 2 = mkF m 0 #[.val (.ref x0), .val (.int (1 : Int32))] [] := by first | (simp [entryFrame, mkF, argsToLocals, Value.category]; done) | rfl
def Q16_28 (Z : State) (o1 : Addr) (o2 : Addr) (kc1 : ClassId) (o3 : Addr) (o4 : Addr) (h0 : Heap) (n0 : Nat) (v : Option Value) (h : Heap) (L : List Loc) : Prop := v = some (.ref o4) ∧ Fr n0 L ∧ h = h0
set_option maxRecDepth 65536 in
set_option maxHeartbeats 40000000 in
theorem rm16_28 (l : Launch) (Z : State) (a0 : Array Value) (hw : ∀ d ∈ tables_1, d.before a0 Z = true) (ws : List Jvm.Cond) (o1 : Addr) (o2 : Addr) (kc1 : ClassId) (o3 : Addr) (o4 : Addr) (h0 : Heap) (n0 : Nat) (Z0 : n0 ≤ h0.size) (A0 : Exa Z h0 o1 "java/util/ArrayList") (A1 : Fld Z h0 o1 "java/util/ArrayList" "elementData" "[Ljava/lang/Object;" (.ref o2)) (A2 : Fld Z h0 o1 "java/util/ArrayList" "size" "I" (.int (2 : Int32))) (A3 : Arv Z h0 o2 kc1 (.object "java/lang/Object") (10 : Int32) [(.ref o3), (.ref o4), .null, .null, .null, .null, .null, .null, .null, .null] .null) (O4 : Ovr Z kc1 "java/lang/Object") (A5 : Exa Z h0 o3 "java/lang/String") (A6 : Exa Z h0 o4 "java/lang/String") (gn_o1 : n0 ≤ o1) (ne_o1_o2 : o1 ≠ o2) (ne_o1_o3 : o1 ≠ o3) (ne_o1_o4 : o1 ≠ o4) (gn_o2 : n0 ≤ o2) (ne_o2_o3 : o2 ≠ o3) (ne_o2_o4 : o2 ≠ o4) (gn_o3 : n0 ≤ o3) (ne_o3_o4 : o3 ≠ o4) (gn_o4 : n0 ≤ o4)  :
    MetFree l (⟨"java/util/ArrayList", "get", "(I)Ljava/lang/Object;"⟩ : MethodName) (head1 (Jvm.Cond.code (⟨"java/util/ArrayList", "get", "(I)Ljava/lang/Object;"⟩ : MethodName) jdk_38_method_20_code 2 (some (.object "java/lang/Object")) :: ws) ({ frames := 2, cells := 0, slots := 0, locals := 27 } : Room)) (fun a U => a = #[(.ref o1), (.int (1 : Int32))] ∧ Z.Warmed39 U.vm ∧ U.heap = h0) (fun _ _ _ _ _ => True) (fun _ U o U' => ∃ v L, o = .returned v ∧ Q16_28 Z o1 o2 kc1 o3 o4 h0 n0 v U'.heap L ∧ FrameEnd U o U' L ({ frames := 2, cells := 0, slots := 0, locals := 27 } : Room).cells ({ frames := 2, cells := 0, slots := 0, locals := 27 } : Room).slots) := by
  refine own_body (plainFor_of_name pn_3) ?_
  intro p e s m below meth c s₁ G hx hby hml hZ hown hnm hret X0 e0 step fin
  replace hown : s.vm.findClass "java/util/ArrayList" = some m.cls := hown
  replace hnm : meth.name = "get" := hnm
  replace hret : meth.sig.returnType = some (.object "java/lang/Object") := hret
  replace hml : c.maxLocals = 2 := hml
  have N0 := Fr.nil n0
  refine step (s₁.setTop (mkF m 0 #[.val (.ref o1), .val (.int (1 : Int32))] [])) (fun t k => castTop (ef_16_28 m o1) k) ?_
  refine step (s₁.setTop (mkF m 1 #[.val (.ref o1), .val (.int (1 : Int32))] [(.int (1 : Int32))])) (fun t k => XS.iloadN X0.here hx rfl (hb hby d16_0) rfl k) ?_
  refine step (s₁.setTop (mkF m 2 #[.val (.ref o1), .val (.int (1 : Int32))] [(.ref o1), (.int (1 : Int32))])) (fun t k => XS.aloadN X0.here hx rfl (hb hby d16_1) rfl rfl k) ?_
  obtain ⟨T1, X1, e1, st1⟩ := getF X0 hx hZ hown (host := "") (Or.inl (hw _ (List.mem_of_getElem? (i := 60) rfl))) Via.refl e0 A2 (g := (mkF m 2 #[.val (.ref o1), .val (.int (1 : Int32))] [(.ref o1), (.int (1 : Int32))])) rfl rfl (hb hby d16_2)
  refine step (T1.setTop (mkF m 5 #[.val (.ref o1), .val (.int (1 : Int32))] [(.int (2 : Int32)), (.int (1 : Int32))])) (fun t k => st1 t k) ?_
  obtain ⟨_, _, ⟨T2, L2, k2, n2⟩, -, X2, ⟨Lc2, hQ2, l2, y2, z2⟩, st2⟩ := Jvm.LawKit.callS X1 hx (y := (⟨"java/util/Objects", "checkIndex", "(II)I"⟩ : MethodName)) hown (mvT hZ (hw _ (List.mem_of_getElem? (i := 96) rfl))) (mvT hZ (hw _ (List.mem_of_getElem? (i := 97) rfl))) (mvT hZ (hw _ (List.mem_of_getElem? (i := 98) rfl))) (mvT hZ (hw _ (List.mem_of_getElem? (i := 99) rfl))) (by decide) (backOf (W := 0) (rm17_29 l Z a0 hw []  h0 n0 Z0 ) hZ (hw _ (List.mem_of_getElem? (i := 99) rfl)) (hw _ (List.mem_of_getElem? (i := 98) rfl)) (by decide) (by decide)) (g := (mkF m 5 #[.val (.ref o1), .val (.int (1 : Int32))] [(.int (2 : Int32)), (.int (1 : Int32))])) rfl (by rw [hml]; rfl) (argsL := [(.int (1 : Int32)), (.int (2 : Int32))]) (rest := []) (lenOf pd_12 rfl) rfl (by show 2 * 0 + _ ≤ _; exact Nat.le_of_eq rfl) (hb hby d16_5) (fun _ _ => ⟨rfl, e1, (by decide : 0 + 0 ≤ _), (by decide : 0 + 0 ≤ _)⟩)
  dsimp only [Pt.U, Pt.locs, Pt.cells, Pt.slots] at X2 l2 y2 z2 st2 hQ2
  subst l2 y2 z2
  obtain ⟨rfl, N2q, e2q⟩ := hQ2
  have N2 := Fr.app N0 N2q
  refine step (T2.setTop (mkF m 8 #[.val (.ref o1), .val (.int (1 : Int32))] [(.int (1 : Int32))])) (fun t k => st2 t k) ?_
  refine step (T2.setTop (mkF m 9 #[.val (.ref o1), .val (.int (1 : Int32))] [])) (fun t k => XS.pop X2.here hx rfl (hb hby d16_8) rfl rfl k) ?_
  refine step (T2.setTop (mkF m 10 #[.val (.ref o1), .val (.int (1 : Int32))] [(.ref o1)])) (fun t k => XS.aloadN X2.here hx rfl (hb hby d16_9) rfl rfl k) ?_
  refine step (T2.setTop (mkF m 11 #[.val (.ref o1), .val (.int (1 : Int32))] [(.int (1 : Int32)), (.ref o1)])) (fun t k => XS.iloadN X2.here hx rfl (hb hby d16_10) rfl k) ?_
  obtain ⟨cq3, kq3, q3a, q3b, q3c⟩ := isOf hZ e2q A0
  obtain ⟨_, _, ⟨T3, L3, k3, n3⟩, -, X3, ⟨Lc3, hQ3, l3, y3, z3⟩, st3⟩ := X2.virtualBack hx (y := (⟨"java/util/ArrayList", "elementData", "(I)Ljava/lang/Object;"⟩ : MethodName)) (z := (⟨"java/util/ArrayList", "elementData", "(I)Ljava/lang/Object;"⟩ : MethodName)) hown (mvT hZ (hw _ (List.mem_of_getElem? (i := 104) rfl))) (mvT hZ (hw _ (List.mem_of_getElem? (i := 105) rfl))) (notFace_of_selects (args := #[]) (mvT hZ (hw _ (List.mem_of_getElem? (i := 107) rfl)))) (mvT hZ (hw _ (List.mem_of_getElem? (i := 107) rfl))) (mvT hZ (hw _ (List.mem_of_getElem? (i := 106) rfl))) (by decide) (backOf (W := 0) (rm19_31 l Z a0 hw [] o1 o2 kc1 o3 o4 h0 n0 Z0 A0 A1 A3 O4 A5 A6 gn_o1 ne_o1_o2 ne_o1_o3 ne_o1_o4 gn_o2 ne_o2_o3 ne_o2_o4 gn_o3 ne_o3_o4 gn_o4) hZ (hw _ (List.mem_of_getElem? (i := 108) rfl)) (hw _ (List.mem_of_getElem? (i := 28) rfl)) (by decide) (by decide)) q3a q3c (g := (mkF m 11 #[.val (.ref o1), .val (.int (1 : Int32))] [(.int (1 : Int32)), (.ref o1)])) rfl (by rw [hml]; rfl) (Steps.refl _) (argsL := [(.int (1 : Int32))]) (rest := []) (lenOf pd_5 rfl) rfl (by show 2 * 0 + _ ≤ _; exact Nat.le_of_eq rfl) (hb hby d16_11) (fun _ _ => ⟨rfl, e2q, (by decide : 0 + 0 ≤ _), (by decide : 0 + 0 ≤ _)⟩)
  dsimp only [Pt.U, Pt.locs, Pt.cells, Pt.slots] at X3 l3 y3 z3 st3 hQ3
  subst l3 y3 z3
  obtain ⟨rfl, N3q, e3q⟩ := hQ3
  have N3 := Fr.app N2 N3q
  refine step (T3.setTop (mkF m 14 #[.val (.ref o1), .val (.int (1 : Int32))] [(.ref o4)])) (fun t k => st3.trans k) ?_
  refine fin (v := some (.ref o4)) X3 (fun h => by cases h) ?_ (by decide) (by decide) (fun fs hr => X3.areturnOut hx rfl hret rfl (hb hby d16_14) hr)
  show Q16_28 Z o1 o2 kc1 o3 o4 h0 n0 (some (.ref o4)) T3.heap _
  rw [e3q]
  exact ⟨rfl, N3, rfl⟩
theorem ef_12_33 (m : MethodId) (x0 : Addr) (x1 : Addr) (x2 : Addr) : entryFrame m #[(.ref x0), (.ref x1), (.ref x2), (.int (2 : Int32))] 4 = mkF m 0 #[.val (.ref x0), .val (.ref x1), .val (.ref x2), .val (.int (2 : Int32))] [] := by first | (simp [entryFrame, mkF, argsToLocals, Value.category]; done) | rfl
def Q12_33 (Z : State) (o1 : Addr) (o2 : Addr) (o3 : Addr) (o4 : Addr) (kc1 : ClassId) (o5 : Addr) (o6 : Addr) (kc2 : ClassId) (h0 : Heap) (n0 : Nat) (v : Option Value) (h : Heap) (L : List Loc) : Prop := v = none ∧ Fr n0 L ∧ Keep h0 h [o3, o1] ∧ Arv Z h o3 kc1 (.object "java/lang/Object") (10 : Int32) [(.ref o5), (.ref o6), (.ref o2), .null, .null, .null, .null, .null, .null, .null] .null ∧ Fld Z h o1 "java/util/ArrayList" "elementData" "[Ljava/lang/Object;" (.ref o3) ∧ Fld Z h o1 "java/util/AbstractList" "modCount" "I" (.int (3 : Int32)) ∧ Fld Z h o1 "java/util/ArrayList" "size" "I" (.int (3 : Int32))
set_option maxRecDepth 65536 in
set_option maxHeartbeats 40000000 in
theorem rm12_33 (l : Launch) (Z : State) (a0 : Array Value) (hw : ∀ d ∈ tables_1, d.before a0 Z = true) (ws : List Jvm.Cond) (o1 : Addr) (o2 : Addr) (o3 : Addr) (o4 : Addr) (kc1 : ClassId) (o5 : Addr) (o6 : Addr) (kc2 : ClassId) (h0 : Heap) (n0 : Nat) (Z0 : n0 ≤ h0.size) (S0 : Sta Z h0 "java/util/ArrayList" "DEFAULTCAPACITY_EMPTY_ELEMENTDATA" "[Ljava/lang/Object;" (.ref o4)) (A1 : Exa Z h0 o1 "java/util/ArrayList") (A2 : Fld Z h0 o1 "java/util/ArrayList" "elementData" "[Ljava/lang/Object;" (.ref o3)) (A3 : Fld Z h0 o1 "java/util/AbstractList" "modCount" "I" (.int (3 : Int32))) (A4 : Fld Z h0 o1 "java/util/ArrayList" "size" "I" (.int (2 : Int32))) (A5 : Exa Z h0 o2 "java/lang/String") (A6 : Arv Z h0 o3 kc1 (.object "java/lang/Object") (10 : Int32) [(.ref o5), (.ref o6), .null, .null, .null, .null, .null, .null, .null, .null] .null) (O7 : Ovr Z kc1 "java/lang/Object") (A8 : Arv Z h0 o4 kc2 (.object "java/lang/Object") (0 : Int32) [] .null) (A9 : Exa Z h0 o5 "java/lang/String") (A10 : Exa Z h0 o6 "java/lang/String") (gn_o1 : n0 ≤ o1) (ne_o1_o2 : o1 ≠ o2) (ne_o1_o3 : o1 ≠ o3) (ne_o1_o4 : o1 ≠ o4) (ne_o1_o5 : o1 ≠ o5) (ne_o1_o6 : o1 ≠ o6) (gn_o2 : n0 ≤ o2) (ne_o2_o3 : o2 ≠ o3) (ne_o2_o4 : o2 ≠ o4) (ne_o2_o5 : o2 ≠ o5) (ne_o2_o6 : o2 ≠ o6) (gn_o3 : n0 ≤ o3) (ne_o3_o4 : o3 ≠ o4) (ne_o3_o5 : o3 ≠ o5) (ne_o3_o6 : o3 ≠ o6) (ne_o4_o5 : o4 ≠ o5) (ne_o4_o6 : o4 ≠ o6) (gn_o5 : n0 ≤ o5) (ne_o5_o6 : o5 ≠ o6) (gn_o6 : n0 ≤ o6)  :
    MetFree l (⟨"java/util/ArrayList", "add", "(Ljava/lang/Object;[Ljava/lang/Object;I)V"⟩ : MethodName) (head1 (Jvm.Cond.code (⟨"java/util/ArrayList", "add", "(Ljava/lang/Object;[Ljava/lang/Object;I)V"⟩ : MethodName) jdk_38_method_24_code 4 none :: ws) ({ frames := 0, cells := 0, slots := 0, locals := 0 } : Room)) (fun a U => a = #[(.ref o1), (.ref o2), (.ref o3), (.int (2 : Int32))] ∧ Z.Warmed39 U.vm ∧ U.heap = h0) (fun _ _ _ _ _ => True) (fun _ U o U' => ∃ v L, o = .returned v ∧ Q12_33 Z o1 o2 o3 o4 kc1 o5 o6 kc2 h0 n0 v U'.heap L ∧ FrameEnd U o U' L ({ frames := 0, cells := 0, slots := 0, locals := 0 } : Room).cells ({ frames := 0, cells := 0, slots := 0, locals := 0 } : Room).slots) := by
  refine own_body (plainFor_of_name pn_3) ?_
  intro p e s m below meth c s₁ G hx hby hml hZ hown hnm hret X0 e0 step fin
  replace hown : s.vm.findClass "java/util/ArrayList" = some m.cls := hown
  replace hnm : meth.name = "add" := hnm
  replace hret : meth.sig.returnType = none := hret
  replace hml : c.maxLocals = 4 := hml
  have N0 := Fr.nil n0
  refine step (s₁.setTop (mkF m 0 #[.val (.ref o1), .val (.ref o2), .val (.ref o3), .val (.int (2 : Int32))] [])) (fun t k => castTop (ef_12_33 m o1 o2 o3) k) ?_
  refine step (s₁.setTop (mkF m 1 #[.val (.ref o1), .val (.ref o2), .val (.ref o3), .val (.int (2 : Int32))] [(.int (2 : Int32))])) (fun t k => XS.iloadN X0.here hx rfl (hb hby d12_0) rfl k) ?_
  refine step (s₁.setTop (mkF m 2 #[.val (.ref o1), .val (.ref o2), .val (.ref o3), .val (.int (2 : Int32))] [(.ref o3), (.int (2 : Int32))])) (fun t k => XS.aloadN X0.here hx rfl (hb hby d12_1) rfl rfl k) ?_
  obtain ⟨cl1, Ar1, q1, S1, N1n, H1, G1⟩ := id A6
  refine step (s₁.setTop (mkF m 3 #[.val (.ref o1), .val (.ref o2), .val (.ref o3), .val (.int (2 : Int32))] [(.int (10 : Int32)), (.int (2 : Int32))])) (fun t k => X0.arraylength hx (by rw [e0]; exact Ar1.1) (State.isArrayOf_alike hZ.alike Ar1.2.1) (g := (mkF m 2 #[.val (.ref o1), .val (.ref o2), .val (.ref o3), .val (.int (2 : Int32))] [(.ref o3), (.int (2 : Int32))])) rfl rfl (hb hby d12_2) t (by rw [len_of S1 N1n]; exact k)) ?_
  refine step (s₁.setTop (mkF m 11 #[.val (.ref o1), .val (.ref o2), .val (.ref o3), .val (.int (2 : Int32))] [])) (fun t k => XS.icmpYes X0.here hx rfl (pc0 := 3) (pc' := 11) rfl (hb hby d12_3) rfl (feq (by decide : ¬ ((2 : Int32) = (10 : Int32)))).2 (by decide) (by decide) k) ?_
  refine step (s₁.setTop (mkF m 12 #[.val (.ref o1), .val (.ref o2), .val (.ref o3), .val (.int (2 : Int32))] [(.ref o3)])) (fun t k => XS.aloadN X0.here hx rfl (hb hby d12_11) rfl rfl k) ?_
  refine step (s₁.setTop (mkF m 13 #[.val (.ref o1), .val (.ref o2), .val (.ref o3), .val (.int (2 : Int32))] [(.int (2 : Int32)), (.ref o3)])) (fun t k => XS.iloadN X0.here hx rfl (hb hby d12_12) rfl k) ?_
  refine step (s₁.setTop (mkF m 14 #[.val (.ref o1), .val (.ref o2), .val (.ref o3), .val (.int (2 : Int32))] [(.ref o2), (.int (2 : Int32)), (.ref o3)])) (fun t k => XS.aloadN X0.here hx rfl (hb hby d12_13) rfl rfl k) ?_
  obtain ⟨cl2, Ar2, q2, S2, N2n, H2, G2⟩ := id A6
  have hin2 : ¬ ((2 : Int32) < 0 ∨ cl2.slots.size ≤ ((2 : Int32)).toNatClampNeg) := inb_of S2 ⟨by decide, by decide⟩
  obtain ⟨T2, h2, X2, e2, W2, st2⟩ := stR X0 hx hZ e0 Ar2 (j := (2 : Int32)) (v := (.ref o2)) hin2 rfl (Sto.ofV Ar2 q2 O7 (Ins.of_exa A5 (hw _ (List.mem_of_getElem? (i := 90) rfl)))) (g := (mkF m 14 #[.val (.ref o1), .val (.ref o2), .val (.ref o3), .val (.int (2 : Int32))] [(.ref o2), (.int (2 : Int32)), (.ref o3)])) rfl rfl (hb hby d12_14)
  have N2 := Fr.snoc X2 N0 gn_o3
  have K2 : Keep h0 h2 [o3, o1] := (Keep.refl h0 [o3, o1]).wr W2 (Or.inl (List.mem_of_getElem? (i := 0) rfl))
  have V2 : Arv Z h2 o3 kc1 (.object "java/lang/Object") (10 : Int32) [(.ref o5), (.ref o6), (.ref o2), .null, .null, .null, .null, .null, .null, .null] .null := Arv.set Ar2 q2 S2 N2n H2 G2 rfl W2 2 rfl (Nat.le_of_ble_eq_true rfl)
  refine step (T2.setTop (mkF m 15 #[.val (.ref o1), .val (.ref o2), .val (.ref o3), .val (.int (2 : Int32))] [])) (fun t k => st2 t k) ?_
  refine step (T2.setTop (mkF m 16 #[.val (.ref o1), .val (.ref o2), .val (.ref o3), .val (.int (2 : Int32))] [(.ref o1)])) (fun t k => XS.aloadN X2.here hx rfl (hb hby d12_15) rfl rfl k) ?_
  refine step (T2.setTop (mkF m 17 #[.val (.ref o1), .val (.ref o2), .val (.ref o3), .val (.int (2 : Int32))] [(.int (2 : Int32)), (.ref o1)])) (fun t k => XS.iloadN X2.here hx rfl (hb hby d12_16) rfl k) ?_
  refine step (T2.setTop (mkF m 18 #[.val (.ref o1), .val (.ref o2), .val (.ref o3), .val (.int (2 : Int32))] [(.int (1 : Int32)), (.int (2 : Int32)), (.ref o1)])) (fun t k => XS.iconst X2.here hx rfl (hb hby d12_17) k) ?_
  refine step (T2.setTop (mkF m 19 #[.val (.ref o1), .val (.ref o2), .val (.ref o3), .val (.int (2 : Int32))] [(.int (3 : Int32)), (.ref o1)])) (fun t k => XS.iadd X2.here hx rfl (hb hby d12_18) rfl k) ?_
  have f3 := (A1.wr W2)
  have f4 := (A4.other W2 (Or.inl ne_o1_o3))
  obtain ⟨T5, h5, X5, e5, W5, st5⟩ := putF X2 hx hZ hown (host := "") (Or.inl (hw _ (List.mem_of_getElem? (i := 60) rfl))) Via.refl e2 f4 f3 (Or.inl (hw _ (List.mem_of_getElem? (i := 61) rfl))) (hw _ (List.mem_of_getElem? (i := 27) rfl)) (ty := .int) (by decide) rfl rfl (g := (mkF m 19 #[.val (.ref o1), .val (.ref o2), .val (.ref o3), .val (.int (2 : Int32))] [(.int (3 : Int32)), (.ref o1)])) rfl rfl (hb hby d12_19)
  have N5 := Fr.snoc X5 N2 gn_o1
  have K5 : Keep h0 h5 [o3, o1] := K2.wr W5 (Or.inl (List.mem_of_getElem? (i := 1) rfl))
  have F5 := f4.same W5
  refine step (T5.setTop (mkF m 22 #[.val (.ref o1), .val (.ref o2), .val (.ref o3), .val (.int (2 : Int32))] [])) (fun t k => st5 t k) ?_
  have f6 := (V2.other W5 (Ne.symm ne_o1_o3))
  have f7 := ((A2.other W2 (Or.inl ne_o1_o3)).other W5 (Or.inr (slot_ne (Or.inl (hw _ (List.mem_of_getElem? (i := 49) rfl))) (Or.inl (hw _ (List.mem_of_getElem? (i := 61) rfl))) (by decide) (t := (.array (.object "java/lang/Object"))) (t' := .int) (by decide) (by decide))))
  have f8 := ((A3.other W2 (Or.inl ne_o1_o3)).other W5 (Or.inr (slot_ne (Or.inl (hw _ (List.mem_of_getElem? (i := 46) rfl))) (Or.inl (hw _ (List.mem_of_getElem? (i := 61) rfl))) (by decide) (t := .int) (t' := .int) (by decide) (by decide))))
  refine fin (v := none) X5 (fun _ => rfl) ?_ (by decide) (by decide) (fun fs hr => X5.returnOut hx hret (hb hby d12_22) hr)
  show Q12_33 Z o1 o2 o3 o4 kc1 o5 o6 kc2 h0 n0 (none) T5.heap _
  rw [e5]
  exact ⟨rfl, N5, K5, f6, f7, f8, F5⟩
theorem ef_11_32 (m : MethodId) (x0 : Addr) (x1 : Addr) : entryFrame m #[(.ref x0), (.ref x1)] 2 = mkF m 0 #[.val (.ref x0), .val (.ref x1)] [] := by first | (simp [entryFrame, mkF, argsToLocals, Value.category]; done) | rfl
def Q11_32 (Z : State) (o1 : Addr) (o2 : Addr) (o3 : Addr) (o4 : Addr) (kc1 : ClassId) (kc2 : ClassId) (o5 : Addr) (o6 : Addr) (h0 : Heap) (n0 : Nat) (v : Option Value) (h : Heap) (L : List Loc) : Prop := v = some (.int (1 : Int32)) ∧ Fr n0 L ∧ Keep h0 h [o1, o4] ∧ Fld Z h o1 "java/util/ArrayList" "elementData" "[Ljava/lang/Object;" (.ref o4) ∧ Fld Z h o1 "java/util/AbstractList" "modCount" "I" (.int (3 : Int32)) ∧ Fld Z h o1 "java/util/ArrayList" "size" "I" (.int (3 : Int32)) ∧ Arv Z h o4 kc2 (.object "java/lang/Object") (10 : Int32) [(.ref o5), (.ref o6), (.ref o2), .null, .null, .null, .null, .null, .null, .null] .null
set_option maxRecDepth 65536 in
set_option maxHeartbeats 40000000 in
theorem rm11_32 (l : Launch) (Z : State) (a0 : Array Value) (hw : ∀ d ∈ tables_1, d.before a0 Z = true) (ws : List Jvm.Cond) (o1 : Addr) (o2 : Addr) (o3 : Addr) (o4 : Addr) (kc1 : ClassId) (kc2 : ClassId) (o5 : Addr) (o6 : Addr) (h0 : Heap) (n0 : Nat) (Z0 : n0 ≤ h0.size) (S0 : Sta Z h0 "java/util/ArrayList" "DEFAULTCAPACITY_EMPTY_ELEMENTDATA" "[Ljava/lang/Object;" (.ref o3)) (A1 : Exa Z h0 o1 "java/util/ArrayList") (A2 : Fld Z h0 o1 "java/util/ArrayList" "elementData" "[Ljava/lang/Object;" (.ref o4)) (A3 : Fld Z h0 o1 "java/util/AbstractList" "modCount" "I" (.int (2 : Int32))) (A4 : Fld Z h0 o1 "java/util/ArrayList" "size" "I" (.int (2 : Int32))) (A5 : Exa Z h0 o2 "java/lang/String") (A6 : Arv Z h0 o3 kc1 (.object "java/lang/Object") (0 : Int32) [] .null) (A7 : Arv Z h0 o4 kc2 (.object "java/lang/Object") (10 : Int32) [(.ref o5), (.ref o6), .null, .null, .null, .null, .null, .null, .null, .null] .null) (O8 : Ovr Z kc2 "java/lang/Object") (A9 : Exa Z h0 o5 "java/lang/String") (A10 : Exa Z h0 o6 "java/lang/String") (gn_o1 : n0 ≤ o1) (ne_o1_o2 : o1 ≠ o2) (ne_o1_o3 : o1 ≠ o3) (ne_o1_o4 : o1 ≠ o4) (ne_o1_o5 : o1 ≠ o5) (ne_o1_o6 : o1 ≠ o6) (gn_o2 : n0 ≤ o2) (ne_o2_o3 : o2 ≠ o3) (ne_o2_o4 : o2 ≠ o4) (ne_o2_o5 : o2 ≠ o5) (ne_o2_o6 : o2 ≠ o6) (ne_o3_o4 : o3 ≠ o4) (ne_o3_o5 : o3 ≠ o5) (ne_o3_o6 : o3 ≠ o6) (gn_o4 : n0 ≤ o4) (ne_o4_o5 : o4 ≠ o5) (ne_o4_o6 : o4 ≠ o6) (gn_o5 : n0 ≤ o5) (ne_o5_o6 : o5 ≠ o6) (gn_o6 : n0 ≤ o6)  :
    MetFree l (⟨"java/util/ArrayList", "add", "(Ljava/lang/Object;)Z"⟩ : MethodName) (head1 (Jvm.Cond.code (⟨"java/util/ArrayList", "add", "(Ljava/lang/Object;)Z"⟩ : MethodName) jdk_38_method_25_code 2 (some .boolean) :: ws) ({ frames := 1, cells := 0, slots := 0, locals := 15 } : Room)) (fun a U => a = #[(.ref o1), (.ref o2)] ∧ Z.Warmed39 U.vm ∧ U.heap = h0) (fun _ _ _ _ _ => True) (fun _ U o U' => ∃ v L, o = .returned v ∧ Q11_32 Z o1 o2 o3 o4 kc1 kc2 o5 o6 h0 n0 v U'.heap L ∧ FrameEnd U o U' L ({ frames := 1, cells := 0, slots := 0, locals := 15 } : Room).cells ({ frames := 1, cells := 0, slots := 0, locals := 15 } : Room).slots) := by
  refine own_body (plainFor_of_name pn_3) ?_
  intro p e s m below meth c s₁ G hx hby hml hZ hown hnm hret X0 e0 step fin
  replace hown : s.vm.findClass "java/util/ArrayList" = some m.cls := hown
  replace hnm : meth.name = "add" := hnm
  replace hret : meth.sig.returnType = some .boolean := hret
  replace hml : c.maxLocals = 2 := hml
  have N0 := Fr.nil n0
  refine step (s₁.setTop (mkF m 0 #[.val (.ref o1), .val (.ref o2)] [])) (fun t k => castTop (ef_11_32 m o1 o2) k) ?_
  refine step (s₁.setTop (mkF m 1 #[.val (.ref o1), .val (.ref o2)] [(.ref o1)])) (fun t k => XS.aloadN X0.here hx rfl (hb hby d11_0) rfl rfl k) ?_
  refine step (s₁.setTop (mkF m 2 #[.val (.ref o1), .val (.ref o2)] [(.ref o1), (.ref o1)])) (fun t k => XS.dup X0.here hx rfl (hb hby d11_1) rfl rfl k) ?_
  obtain ⟨T1, X1, e1, st1⟩ := getF X0 hx hZ hown (host := "") (Or.inl (hw _ (List.mem_of_getElem? (i := 67) rfl))) (Via.of (hw _ (List.mem_of_getElem? (i := 68) rfl))) e0 A3 (g := (mkF m 2 #[.val (.ref o1), .val (.ref o2)] [(.ref o1), (.ref o1)])) rfl rfl (hb hby d11_2)
  refine step (T1.setTop (mkF m 5 #[.val (.ref o1), .val (.ref o2)] [(.int (2 : Int32)), (.ref o1)])) (fun t k => st1 t k) ?_
  refine step (T1.setTop (mkF m 6 #[.val (.ref o1), .val (.ref o2)] [(.int (1 : Int32)), (.int (2 : Int32)), (.ref o1)])) (fun t k => XS.iconst X1.here hx rfl (hb hby d11_5) k) ?_
  refine step (T1.setTop (mkF m 7 #[.val (.ref o1), .val (.ref o2)] [(.int (3 : Int32)), (.ref o1)])) (fun t k => XS.iadd X1.here hx rfl (hb hby d11_6) rfl k) ?_
  obtain ⟨T2, h2, X2, e2, W2, st2⟩ := putF X1 hx hZ hown (host := "") (Or.inl (hw _ (List.mem_of_getElem? (i := 67) rfl))) (Via.of (hw _ (List.mem_of_getElem? (i := 68) rfl))) e1 A3 A1 (Or.inl (hw _ (List.mem_of_getElem? (i := 46) rfl))) (hw _ (List.mem_of_getElem? (i := 27) rfl)) (ty := .int) (by decide) rfl rfl (g := (mkF m 7 #[.val (.ref o1), .val (.ref o2)] [(.int (3 : Int32)), (.ref o1)])) rfl rfl (hb hby d11_7)
  have N2 := Fr.snoc X2 N0 gn_o1
  have K2 : Keep h0 h2 [o1, o4] := (Keep.refl h0 [o1, o4]).wr W2 (Or.inl (List.mem_of_getElem? (i := 0) rfl))
  have F2 := A3.same W2
  refine step (T2.setTop (mkF m 10 #[.val (.ref o1), .val (.ref o2)] [])) (fun t k => st2 t k) ?_
  refine step (T2.setTop (mkF m 11 #[.val (.ref o1), .val (.ref o2)] [(.ref o1)])) (fun t k => XS.aloadN X2.here hx rfl (hb hby d11_10) rfl rfl k) ?_
  refine step (T2.setTop (mkF m 12 #[.val (.ref o1), .val (.ref o2)] [(.ref o2), (.ref o1)])) (fun t k => XS.aloadN X2.here hx rfl (hb hby d11_11) rfl rfl k) ?_
  refine step (T2.setTop (mkF m 13 #[.val (.ref o1), .val (.ref o2)] [(.ref o1), (.ref o2), (.ref o1)])) (fun t k => XS.aloadN X2.here hx rfl (hb hby d11_12) rfl rfl k) ?_
  have f3 := (A2.other W2 (Or.inr (slot_ne (Or.inl (hw _ (List.mem_of_getElem? (i := 49) rfl))) (Or.inl (hw _ (List.mem_of_getElem? (i := 46) rfl))) (by decide) (t := (.array (.object "java/lang/Object"))) (t' := .int) (by decide) (by decide))))
  obtain ⟨T4, X4, e4, st4⟩ := getF X2 hx hZ hown (host := "") (Or.inl (hw _ (List.mem_of_getElem? (i := 48) rfl))) Via.refl e2 f3 (g := (mkF m 13 #[.val (.ref o1), .val (.ref o2)] [(.ref o1), (.ref o2), (.ref o1)])) rfl rfl (hb hby d11_13)
  refine step (T4.setTop (mkF m 16 #[.val (.ref o1), .val (.ref o2)] [(.ref o4), (.ref o2), (.ref o1)])) (fun t k => st4 t k) ?_
  refine step (T4.setTop (mkF m 17 #[.val (.ref o1), .val (.ref o2)] [(.ref o1), (.ref o4), (.ref o2), (.ref o1)])) (fun t k => XS.aloadN X4.here hx rfl (hb hby d11_16) rfl rfl k) ?_
  have f5 := (A4.other W2 (Or.inr (slot_ne (Or.inl (hw _ (List.mem_of_getElem? (i := 61) rfl))) (Or.inl (hw _ (List.mem_of_getElem? (i := 46) rfl))) (by decide) (t := .int) (t' := .int) (by decide) (by decide))))
  obtain ⟨T6, X6, e6, st6⟩ := getF X4 hx hZ hown (host := "") (Or.inl (hw _ (List.mem_of_getElem? (i := 60) rfl))) Via.refl e4 f5 (g := (mkF m 17 #[.val (.ref o1), .val (.ref o2)] [(.ref o1), (.ref o4), (.ref o2), (.ref o1)])) rfl rfl (hb hby d11_17)
  refine step (T6.setTop (mkF m 20 #[.val (.ref o1), .val (.ref o2)] [(.int (2 : Int32)), (.ref o4), (.ref o2), (.ref o1)])) (fun t k => st6 t k) ?_
  have f7 := (S0.wr W2)
  have f8 := (A1.wr W2)
  have f9 := (A5.wr W2)
  have f10 := (A7.other W2 (Ne.symm ne_o1_o4))
  have f11 := (A6.other W2 (Ne.symm ne_o1_o3))
  have f12 := (A9.wr W2)
  have f13 := (A10.wr W2)
  obtain ⟨cq14, q14, q14'⟩ := f8.cell
  obtain ⟨_, _, ⟨T14, L14, k14, n14⟩, -, X14, ⟨Lc14, hQ14, l14, y14, z14⟩, st14⟩ := X6.privateBack hx (y := (⟨"java/util/ArrayList", "add", "(Ljava/lang/Object;[Ljava/lang/Object;I)V"⟩ : MethodName)) hown (mvT hZ (hw _ (List.mem_of_getElem? (i := 69) rfl))) (mvT hZ (hw _ (List.mem_of_getElem? (i := 70) rfl))) (mvT hZ (hw _ (List.mem_of_getElem? (i := 72) rfl))) (Cond.privateMethod_at (mvP hZ (hw _ (List.mem_of_getElem? (i := 71) rfl)) (args := #[]))) (mvT hZ (hw _ (List.mem_of_getElem? (i := 73) rfl))) (by decide) (backOf (W := 0) (rm12_33 l Z a0 hw [] o1 o2 o4 o3 kc2 o5 o6 kc1 h2 n0 (Nat.le_trans Z0 K2.1) f7 f8 f3 F2 f5 f9 f10 O8 f11 f12 f13 gn_o1 ne_o1_o2 ne_o1_o4 ne_o1_o3 ne_o1_o5 ne_o1_o6 gn_o2 ne_o2_o4 ne_o2_o3 ne_o2_o5 ne_o2_o6 gn_o4 (Ne.symm ne_o3_o4) ne_o4_o5 ne_o4_o6 ne_o3_o5 ne_o3_o6 gn_o5 ne_o5_o6 gn_o6) hZ (hw _ (List.mem_of_getElem? (i := 73) rfl)) (hw _ (List.mem_of_getElem? (i := 28) rfl)) (by decide) (by decide)) (g := (mkF m 20 #[.val (.ref o1), .val (.ref o2)] [(.int (2 : Int32)), (.ref o4), (.ref o2), (.ref o1)])) rfl (by rw [hml]; rfl) (Steps.refl _) (a := o1) (by rw [e6]; exact q14) q14' (argsL := [(.ref o2), (.ref o4), (.int (2 : Int32))]) (rest := []) (lenOf pd_9 rfl) rfl (by show 2 * 0 + _ ≤ _; exact Nat.le_of_eq rfl) (hb hby d11_20) (fun _ _ => ⟨rfl, e6, (by decide : 0 + 0 ≤ _), (by decide : 0 + 0 ≤ _)⟩)
  dsimp only [Pt.U, Pt.locs, Pt.cells, Pt.slots] at X14 l14 y14 z14 st14 hQ14
  subst l14 y14 z14
  obtain ⟨h14, e14⟩ : ∃ z, T14.heap = z := ⟨_, rfl⟩
  rw [e14] at hQ14
  obtain ⟨rfl, N14q, K14q, q0_14, q1_14, q2_14, q3_14⟩ := hQ14
  have N14 := Fr.app N2 N14q
  have K14 : Keep h0 h14 [o1, o4] := K2.trans K14q (allS (Or.inl (List.mem_of_getElem? (i := 1) rfl)) (allS (Or.inl (List.mem_of_getElem? (i := 0) rfl)) all0))
  have f15 := own_staK f7 K14q (allS (own_arvP f10) (allS (own_exaP f8) all0))
  refine step (T14.setTop (mkF m 23 #[.val (.ref o1), .val (.ref o2)] [])) (fun t k => st14.trans k) ?_
  refine step (T14.setTop (mkF m 24 #[.val (.ref o1), .val (.ref o2)] [(.int (1 : Int32))])) (fun t k => XS.iconst X14.here hx rfl (hb hby d11_23) k) ?_
  refine fin (v := some (.int (nar .boolean (1 : Int32)))) X14 (fun h => by cases h) ?_ (by decide) (by decide) (fun fs hr => retN X14 hx (t := .boolean) hret (by simp) (hb hby d11_24) hr)
  show Q11_32 Z o1 o2 o3 o4 kc1 kc2 o5 o6 h0 n0 (some (.int (nar .boolean (1 : Int32)))) T14.heap _
  rw [e14]
  exact ⟨rfl, N14, K14, q1_14, q2_14, q3_14, q0_14⟩
theorem ef_10_34 (m : MethodId) (x0 : Addr) : entryFrame m #[(.ref x0)] 1 = mkF m 0 #[.val (.ref x0)] [] := by first | (simp [entryFrame, mkF, argsToLocals, Value.category]; done) | rfl
def Q10_34 (Z : State) (o1 : Addr) (h0 : Heap) (n0 : Nat) (v : Option Value) (h : Heap) (L : List Loc) : Prop := v = some (.int (3 : Int32)) ∧ Fr n0 L ∧ h = h0
set_option maxRecDepth 65536 in
set_option maxHeartbeats 40000000 in
theorem rm10_34 (l : Launch) (Z : State) (a0 : Array Value) (hw : ∀ d ∈ tables_1, d.before a0 Z = true) (ws : List Jvm.Cond) (o1 : Addr) (h0 : Heap) (n0 : Nat) (Z0 : n0 ≤ h0.size) (A0 : Exa Z h0 o1 "java/util/ArrayList") (A1 : Fld Z h0 o1 "java/util/ArrayList" "size" "I" (.int (3 : Int32))) (gn_o1 : n0 ≤ o1)  :
    MetFree l (⟨"java/util/ArrayList", "size", "()I"⟩ : MethodName) (head1 (Jvm.Cond.code (⟨"java/util/ArrayList", "size", "()I"⟩ : MethodName) jdk_38_method_8_code 1 (some .int) :: ws) ({ frames := 0, cells := 0, slots := 0, locals := 0 } : Room)) (fun a U => a = #[(.ref o1)] ∧ Z.Warmed39 U.vm ∧ U.heap = h0) (fun _ _ _ _ _ => True) (fun _ U o U' => ∃ v L, o = .returned v ∧ Q10_34 Z o1 h0 n0 v U'.heap L ∧ FrameEnd U o U' L ({ frames := 0, cells := 0, slots := 0, locals := 0 } : Room).cells ({ frames := 0, cells := 0, slots := 0, locals := 0 } : Room).slots) := by
  refine own_body (plainFor_of_name pn_3) ?_
  intro p e s m below meth c s₁ G hx hby hml hZ hown hnm hret X0 e0 step fin
  replace hown : s.vm.findClass "java/util/ArrayList" = some m.cls := hown
  replace hnm : meth.name = "size" := hnm
  replace hret : meth.sig.returnType = some .int := hret
  replace hml : c.maxLocals = 1 := hml
  have N0 := Fr.nil n0
  refine step (s₁.setTop (mkF m 0 #[.val (.ref o1)] [])) (fun t k => castTop (ef_10_34 m o1) k) ?_
  refine step (s₁.setTop (mkF m 1 #[.val (.ref o1)] [(.ref o1)])) (fun t k => XS.aloadN X0.here hx rfl (hb hby d10_0) rfl rfl k) ?_
  obtain ⟨T1, X1, e1, st1⟩ := getF X0 hx hZ hown (host := "") (Or.inl (hw _ (List.mem_of_getElem? (i := 60) rfl))) Via.refl e0 A1 (g := (mkF m 1 #[.val (.ref o1)] [(.ref o1)])) rfl rfl (hb hby d10_1)
  refine step (T1.setTop (mkF m 4 #[.val (.ref o1)] [(.int (3 : Int32))])) (fun t k => st1 t k) ?_
  refine fin (v := some (.int (3 : Int32))) X1 (fun h => by cases h) ?_ (by decide) (by decide) (fun fs hr => retI X1 hx hret (hb hby d10_4) hr)
  show Q10_34 Z o1 h0 n0 (some (.int (3 : Int32))) T1.heap _
  rw [e1]
  exact ⟨rfl, N0, rfl⟩
theorem ef_18_37 (m : MethodId)  : entryFrame m #[(.int (0 : Int32)), (.int (3 : Int32)), .null] 3 = mkF m 0 #[.val (.int (0 : Int32)), .val (.int (3 : Int32)), .val .null] [] := by first | (simp [entryFrame, mkF, argsToLocals, Value.category]; done) | rfl
def Q18_37 (Z : State)  (h0 : Heap) (n0 : Nat) (v : Option Value) (h : Heap) (L : List Loc) : Prop := v = some (.int (0 : Int32)) ∧ Fr n0 L ∧ h = h0
set_option maxRecDepth 65536 in
set_option maxHeartbeats 40000000 in
theorem rm18_37 (l : Launch) (Z : State) (a0 : Array Value) (hw : ∀ d ∈ tables_1, d.before a0 Z = true) (ws : List Jvm.Cond)  (h0 : Heap) (n0 : Nat) (Z0 : n0 ≤ h0.size)  :
    MetFree l (⟨"jdk/internal/util/Preconditions", "checkIndex", "(IILjava/util/function/BiFunction;)I"⟩ : MethodName) (head1 (Jvm.Cond.code (⟨"jdk/internal/util/Preconditions", "checkIndex", "(IILjava/util/function/BiFunction;)I"⟩ : MethodName) jdk_41_method_11_code 3 (some .int) :: ws) ({ frames := 0, cells := 0, slots := 0, locals := 0 } : Room)) (fun a U => a = #[(.int (0 : Int32)), (.int (3 : Int32)), .null] ∧ Z.Warmed39 U.vm ∧ U.heap = h0) (fun _ _ _ _ _ => True) (fun _ U o U' => ∃ v L, o = .returned v ∧ Q18_37 Z  h0 n0 v U'.heap L ∧ FrameEnd U o U' L ({ frames := 0, cells := 0, slots := 0, locals := 0 } : Room).cells ({ frames := 0, cells := 0, slots := 0, locals := 0 } : Room).slots) := by
  refine own_body (plainFor_of_name pn_8) ?_
  intro p e s m below meth c s₁ G hx hby hml hZ hown hnm hret X0 e0 step fin
  replace hown : s.vm.findClass "jdk/internal/util/Preconditions" = some m.cls := hown
  replace hnm : meth.name = "checkIndex" := hnm
  replace hret : meth.sig.returnType = some .int := hret
  replace hml : c.maxLocals = 3 := hml
  have N0 := Fr.nil n0
  refine step (s₁.setTop (mkF m 0 #[.val (.int (0 : Int32)), .val (.int (3 : Int32)), .val .null] [])) (fun t k => castTop (ef_18_37 m ) k) ?_
  refine step (s₁.setTop (mkF m 1 #[.val (.int (0 : Int32)), .val (.int (3 : Int32)), .val .null] [(.int (0 : Int32))])) (fun t k => XS.iloadN X0.here hx rfl (hb hby d18_0) rfl k) ?_
  refine step (s₁.setTop (mkF m 4 #[.val (.int (0 : Int32)), .val (.int (3 : Int32)), .val .null] [])) (fun t k => XS.ifNo X0.here hx rfl (hb hby d18_1) rfl ((if0 _ _).trans (flt (by decide : ¬ ((0 : Int32) < (0 : Int32)))).1) k) ?_
  refine step (s₁.setTop (mkF m 5 #[.val (.int (0 : Int32)), .val (.int (3 : Int32)), .val .null] [(.int (0 : Int32))])) (fun t k => XS.iloadN X0.here hx rfl (hb hby d18_4) rfl k) ?_
  refine step (s₁.setTop (mkF m 6 #[.val (.int (0 : Int32)), .val (.int (3 : Int32)), .val .null] [(.int (3 : Int32)), (.int (0 : Int32))])) (fun t k => XS.iloadN X0.here hx rfl (hb hby d18_5) rfl k) ?_
  refine step (s₁.setTop (mkF m 16 #[.val (.int (0 : Int32)), .val (.int (3 : Int32)), .val .null] [])) (fun t k => XS.icmpYes X0.here hx rfl (pc0 := 6) (pc' := 16) rfl (hb hby d18_6) rfl (tlt (by decide : (0 : Int32) < (3 : Int32))).1 (by decide) (by decide) k) ?_
  refine step (s₁.setTop (mkF m 17 #[.val (.int (0 : Int32)), .val (.int (3 : Int32)), .val .null] [(.int (0 : Int32))])) (fun t k => XS.iloadN X0.here hx rfl (hb hby d18_16) rfl k) ?_
  refine fin (v := some (.int (0 : Int32))) X0 (fun h => by cases h) ?_ (by decide) (by decide) (fun fs hr => retI X0 hx hret (hb hby d18_17) hr)
  show Q18_37 Z  h0 n0 (some (.int (0 : Int32))) s₁.heap _
  rw [e0]
  exact ⟨rfl, N0, rfl⟩
theorem ef_17_36 (m : MethodId)  : entryFrame m #[(.int (0 : Int32)), (.int (3 : Int32))] 2 = mkF m 0 #[.val (.int (0 : Int32)), .val (.int (3 : Int32))] [] := by first | (simp [entryFrame, mkF, argsToLocals, Value.category]; done) | rfl
def Q17_36 (Z : State)  (h0 : Heap) (n0 : Nat) (v : Option Value) (h : Heap) (L : List Loc) : Prop := v = some (.int (0 : Int32)) ∧ Fr n0 L ∧ h = h0
set_option maxRecDepth 65536 in
set_option maxHeartbeats 40000000 in
theorem rm17_36 (l : Launch) (Z : State) (a0 : Array Value) (hw : ∀ d ∈ tables_1, d.before a0 Z = true) (ws : List Jvm.Cond)  (h0 : Heap) (n0 : Nat) (Z0 : n0 ≤ h0.size)  :
    MetFree l (⟨"java/util/Objects", "checkIndex", "(II)I"⟩ : MethodName) (head1 (Jvm.Cond.code (⟨"java/util/Objects", "checkIndex", "(II)I"⟩ : MethodName) jdk_31_method_17_code 2 (some .int) :: ws) ({ frames := 1, cells := 0, slots := 0, locals := 14 } : Room)) (fun a U => a = #[(.int (0 : Int32)), (.int (3 : Int32))] ∧ Z.Warmed39 U.vm ∧ U.heap = h0) (fun _ _ _ _ _ => True) (fun _ U o U' => ∃ v L, o = .returned v ∧ Q17_36 Z  h0 n0 v U'.heap L ∧ FrameEnd U o U' L ({ frames := 1, cells := 0, slots := 0, locals := 14 } : Room).cells ({ frames := 1, cells := 0, slots := 0, locals := 14 } : Room).slots) := by
  refine own_body (plainFor_of_name pn_7) ?_
  intro p e s m below meth c s₁ G hx hby hml hZ hown hnm hret X0 e0 step fin
  replace hown : s.vm.findClass "java/util/Objects" = some m.cls := hown
  replace hnm : meth.name = "checkIndex" := hnm
  replace hret : meth.sig.returnType = some .int := hret
  replace hml : c.maxLocals = 2 := hml
  have N0 := Fr.nil n0
  refine step (s₁.setTop (mkF m 0 #[.val (.int (0 : Int32)), .val (.int (3 : Int32))] [])) (fun t k => castTop (ef_17_36 m ) k) ?_
  refine step (s₁.setTop (mkF m 1 #[.val (.int (0 : Int32)), .val (.int (3 : Int32))] [(.int (0 : Int32))])) (fun t k => XS.iloadN X0.here hx rfl (hb hby d17_0) rfl k) ?_
  refine step (s₁.setTop (mkF m 2 #[.val (.int (0 : Int32)), .val (.int (3 : Int32))] [(.int (3 : Int32)), (.int (0 : Int32))])) (fun t k => XS.iloadN X0.here hx rfl (hb hby d17_1) rfl k) ?_
  refine step (s₁.setTop (mkF m 3 #[.val (.int (0 : Int32)), .val (.int (3 : Int32))] [.null, (.int (3 : Int32)), (.int (0 : Int32))])) (fun t k => XS.aconstNull X0.here hx rfl (hb hby d17_2) k) ?_
  obtain ⟨_, _, ⟨T1, L1, k1, n1⟩, -, X1, ⟨Lc1, hQ1, l1, y1, z1⟩, st1⟩ := Jvm.LawKit.callS X0 hx (y := (⟨"jdk/internal/util/Preconditions", "checkIndex", "(IILjava/util/function/BiFunction;)I"⟩ : MethodName)) hown (mvT hZ (hw _ (List.mem_of_getElem? (i := 100) rfl))) (mvT hZ (hw _ (List.mem_of_getElem? (i := 101) rfl))) (mvT hZ (hw _ (List.mem_of_getElem? (i := 102) rfl))) (mvT hZ (hw _ (List.mem_of_getElem? (i := 103) rfl))) (by decide) (backOf (W := 0) (rm18_37 l Z a0 hw []  h0 n0 Z0 ) hZ (hw _ (List.mem_of_getElem? (i := 103) rfl)) (hw _ (List.mem_of_getElem? (i := 102) rfl)) (by decide) (by decide)) (g := (mkF m 3 #[.val (.int (0 : Int32)), .val (.int (3 : Int32))] [.null, (.int (3 : Int32)), (.int (0 : Int32))])) rfl (by rw [hml]; rfl) (argsL := [(.int (0 : Int32)), (.int (3 : Int32)), .null]) (rest := []) (lenOf pd_13 rfl) rfl (by show 2 * 0 + _ ≤ _; exact Nat.le_of_eq rfl) (hb hby d17_3) (fun _ _ => ⟨rfl, e0, (by decide : 0 + 0 ≤ _), (by decide : 0 + 0 ≤ _)⟩)
  dsimp only [Pt.U, Pt.locs, Pt.cells, Pt.slots] at X1 l1 y1 z1 st1 hQ1
  subst l1 y1 z1
  obtain ⟨rfl, N1q, e1q⟩ := hQ1
  have N1 := Fr.app N0 N1q
  refine step (T1.setTop (mkF m 6 #[.val (.int (0 : Int32)), .val (.int (3 : Int32))] [(.int (0 : Int32))])) (fun t k => st1 t k) ?_
  refine fin (v := some (.int (0 : Int32))) X1 (fun h => by cases h) ?_ (by decide) (by decide) (fun fs hr => retI X1 hx hret (hb hby d17_6) hr)
  show Q17_36 Z  h0 n0 (some (.int (0 : Int32))) T1.heap _
  rw [e1q]
  exact ⟨rfl, N1, rfl⟩
theorem ef_19_38 (m : MethodId) (x0 : Addr) : entryFrame m #[(.ref x0), (.int (0 : Int32))] 2 = mkF m 0 #[.val (.ref x0), .val (.int (0 : Int32))] [] := by first | (simp [entryFrame, mkF, argsToLocals, Value.category]; done) | rfl
def Q19_38 (Z : State) (o1 : Addr) (o2 : Addr) (kc1 : ClassId) (o3 : Addr) (o4 : Addr) (o5 : Addr) (h0 : Heap) (n0 : Nat) (v : Option Value) (h : Heap) (L : List Loc) : Prop := v = some (.ref o3) ∧ Fr n0 L ∧ h = h0
set_option maxRecDepth 65536 in
set_option maxHeartbeats 40000000 in
theorem rm19_38 (l : Launch) (Z : State) (a0 : Array Value) (hw : ∀ d ∈ tables_1, d.before a0 Z = true) (ws : List Jvm.Cond) (o1 : Addr) (o2 : Addr) (kc1 : ClassId) (o3 : Addr) (o4 : Addr) (o5 : Addr) (h0 : Heap) (n0 : Nat) (Z0 : n0 ≤ h0.size) (A0 : Exa Z h0 o1 "java/util/ArrayList") (A1 : Fld Z h0 o1 "java/util/ArrayList" "elementData" "[Ljava/lang/Object;" (.ref o2)) (A2 : Arv Z h0 o2 kc1 (.object "java/lang/Object") (10 : Int32) [(.ref o3), (.ref o4), (.ref o5), .null, .null, .null, .null, .null, .null, .null] .null) (O3 : Ovr Z kc1 "java/lang/Object") (A4 : Exa Z h0 o3 "java/lang/String") (A5 : Exa Z h0 o4 "java/lang/String") (A6 : Exa Z h0 o5 "java/lang/String") (gn_o1 : n0 ≤ o1) (ne_o1_o2 : o1 ≠ o2) (ne_o1_o3 : o1 ≠ o3) (ne_o1_o4 : o1 ≠ o4) (ne_o1_o5 : o1 ≠ o5) (gn_o2 : n0 ≤ o2) (ne_o2_o3 : o2 ≠ o3) (ne_o2_o4 : o2 ≠ o4) (ne_o2_o5 : o2 ≠ o5) (gn_o3 : n0 ≤ o3) (ne_o3_o4 : o3 ≠ o4) (ne_o3_o5 : o3 ≠ o5) (gn_o4 : n0 ≤ o4) (ne_o4_o5 : o4 ≠ o5) (gn_o5 : n0 ≤ o5)  :
    MetFree l (⟨"java/util/ArrayList", "elementData", "(I)Ljava/lang/Object;"⟩ : MethodName) (head1 (Jvm.Cond.code (⟨"java/util/ArrayList", "elementData", "(I)Ljava/lang/Object;"⟩ : MethodName) jdk_38_method_18_code 2 (some (.object "java/lang/Object")) :: ws) ({ frames := 0, cells := 0, slots := 0, locals := 0 } : Room)) (fun a U => a = #[(.ref o1), (.int (0 : Int32))] ∧ Z.Warmed39 U.vm ∧ U.heap = h0) (fun _ _ _ _ _ => True) (fun _ U o U' => ∃ v L, o = .returned v ∧ Q19_38 Z o1 o2 kc1 o3 o4 o5 h0 n0 v U'.heap L ∧ FrameEnd U o U' L ({ frames := 0, cells := 0, slots := 0, locals := 0 } : Room).cells ({ frames := 0, cells := 0, slots := 0, locals := 0 } : Room).slots) := by
  refine own_body (plainFor_of_name pn_3) ?_
  intro p e s m below meth c s₁ G hx hby hml hZ hown hnm hret X0 e0 step fin
  replace hown : s.vm.findClass "java/util/ArrayList" = some m.cls := hown
  replace hnm : meth.name = "elementData" := hnm
  replace hret : meth.sig.returnType = some (.object "java/lang/Object") := hret
  replace hml : c.maxLocals = 2 := hml
  have N0 := Fr.nil n0
  refine step (s₁.setTop (mkF m 0 #[.val (.ref o1), .val (.int (0 : Int32))] [])) (fun t k => castTop (ef_19_38 m o1) k) ?_
  refine step (s₁.setTop (mkF m 1 #[.val (.ref o1), .val (.int (0 : Int32))] [(.ref o1)])) (fun t k => XS.aloadN X0.here hx rfl (hb hby d19_0) rfl rfl k) ?_
  obtain ⟨T1, X1, e1, st1⟩ := getF X0 hx hZ hown (host := "") (Or.inl (hw _ (List.mem_of_getElem? (i := 48) rfl))) Via.refl e0 A1 (g := (mkF m 1 #[.val (.ref o1), .val (.int (0 : Int32))] [(.ref o1)])) rfl rfl (hb hby d19_1)
  refine step (T1.setTop (mkF m 4 #[.val (.ref o1), .val (.int (0 : Int32))] [(.ref o2)])) (fun t k => st1 t k) ?_
  refine step (T1.setTop (mkF m 5 #[.val (.ref o1), .val (.int (0 : Int32))] [(.int (0 : Int32)), (.ref o2)])) (fun t k => XS.iloadN X1.here hx rfl (hb hby d19_4) rfl k) ?_
  obtain ⟨cl2, Ar2, q2, S2, N2n, H2, G2⟩ := id A2
  have hin2 : ¬ ((0 : Int32) < 0 ∨ cl2.slots.size ≤ ((0 : Int32)).toNatClampNeg) := inb_of S2 ⟨by decide, by decide⟩
  have hat2 : cl2.slots[((0 : Int32)).toNatClampNeg]? = some (.ref o3) := H2.at hin2 rfl
  refine step (T1.setTop (mkF m 6 #[.val (.ref o1), .val (.int (0 : Int32))] [(.ref o3)])) (fun t k => X1.aaload hx (j := (0 : Int32)) (v := (.ref o3)) (by rw [e1]; exact Ar2.1) (State.isArrayOf_alike hZ.alike Ar2.2.1) rfl Ar2.2.2 hin2 hat2 (g := (mkF m 5 #[.val (.ref o1), .val (.int (0 : Int32))] [(.int (0 : Int32)), (.ref o2)])) rfl rfl (hb hby d19_5) t k) ?_
  refine fin (v := some (.ref o3)) X1 (fun h => by cases h) ?_ (by decide) (by decide) (fun fs hr => X1.areturnOut hx rfl hret rfl (hb hby d19_6) hr)
  show Q19_38 Z o1 o2 kc1 o3 o4 o5 h0 n0 (some (.ref o3)) T1.heap _
  rw [e1]
  exact ⟨rfl, N0, rfl⟩
theorem ef_16_35 (m : MethodId) (x0 : Addr) : entryFrame m #[(.ref x0), (.int (0 : Int32))] 2 = mkF m 0 #[.val (.ref x0), .val (.int (0 : Int32))] [] := by first | (simp [entryFrame, mkF, argsToLocals, Value.category]; done) | rfl
def Q16_35 (Z : State) (o1 : Addr) (o2 : Addr) (kc1 : ClassId) (o3 : Addr) (o4 : Addr) (o5 : Addr) (h0 : Heap) (n0 : Nat) (v : Option Value) (h : Heap) (L : List Loc) : Prop := v = some (.ref o3) ∧ Fr n0 L ∧ h = h0
set_option maxRecDepth 65536 in
set_option maxHeartbeats 40000000 in
theorem rm16_35 (l : Launch) (Z : State) (a0 : Array Value) (hw : ∀ d ∈ tables_1, d.before a0 Z = true) (ws : List Jvm.Cond) (o1 : Addr) (o2 : Addr) (kc1 : ClassId) (o3 : Addr) (o4 : Addr) (o5 : Addr) (h0 : Heap) (n0 : Nat) (Z0 : n0 ≤ h0.size) (A0 : Exa Z h0 o1 "java/util/ArrayList") (A1 : Fld Z h0 o1 "java/util/ArrayList" "elementData" "[Ljava/lang/Object;" (.ref o2)) (A2 : Fld Z h0 o1 "java/util/ArrayList" "size" "I" (.int (3 : Int32))) (A3 : Arv Z h0 o2 kc1 (.object "java/lang/Object") (10 : Int32) [(.ref o3), (.ref o4), (.ref o5), .null, .null, .null, .null, .null, .null, .null] .null) (O4 : Ovr Z kc1 "java/lang/Object") (A5 : Exa Z h0 o3 "java/lang/String") (A6 : Exa Z h0 o4 "java/lang/String") (A7 : Exa Z h0 o5 "java/lang/String") (gn_o1 : n0 ≤ o1) (ne_o1_o2 : o1 ≠ o2) (ne_o1_o3 : o1 ≠ o3) (ne_o1_o4 : o1 ≠ o4) (ne_o1_o5 : o1 ≠ o5) (gn_o2 : n0 ≤ o2) (ne_o2_o3 : o2 ≠ o3) (ne_o2_o4 : o2 ≠ o4) (ne_o2_o5 : o2 ≠ o5) (gn_o3 : n0 ≤ o3) (ne_o3_o4 : o3 ≠ o4) (ne_o3_o5 : o3 ≠ o5) (gn_o4 : n0 ≤ o4) (ne_o4_o5 : o4 ≠ o5) (gn_o5 : n0 ≤ o5)  :
    MetFree l (⟨"java/util/ArrayList", "get", "(I)Ljava/lang/Object;"⟩ : MethodName) (head1 (Jvm.Cond.code (⟨"java/util/ArrayList", "get", "(I)Ljava/lang/Object;"⟩ : MethodName) jdk_38_method_20_code 2 (some (.object "java/lang/Object")) :: ws) ({ frames := 2, cells := 0, slots := 0, locals := 27 } : Room)) (fun a U => a = #[(.ref o1), (.int (0 : Int32))] ∧ Z.Warmed39 U.vm ∧ U.heap = h0) (fun _ _ _ _ _ => True) (fun _ U o U' => ∃ v L, o = .returned v ∧ Q16_35 Z o1 o2 kc1 o3 o4 o5 h0 n0 v U'.heap L ∧ FrameEnd U o U' L ({ frames := 2, cells := 0, slots := 0, locals := 27 } : Room).cells ({ frames := 2, cells := 0, slots := 0, locals := 27 } : Room).slots) := by
  refine own_body (plainFor_of_name pn_3) ?_
  intro p e s m below meth c s₁ G hx hby hml hZ hown hnm hret X0 e0 step fin
  replace hown : s.vm.findClass "java/util/ArrayList" = some m.cls := hown
  replace hnm : meth.name = "get" := hnm
  replace hret : meth.sig.returnType = some (.object "java/lang/Object") := hret
  replace hml : c.maxLocals = 2 := hml
  have N0 := Fr.nil n0
  refine step (s₁.setTop (mkF m 0 #[.val (.ref o1), .val (.int (0 : Int32))] [])) (fun t k => castTop (ef_16_35 m o1) k) ?_
  refine step (s₁.setTop (mkF m 1 #[.val (.ref o1), .val (.int (0 : Int32))] [(.int (0 : Int32))])) (fun t k => XS.iloadN X0.here hx rfl (hb hby d16_0) rfl k) ?_
  refine step (s₁.setTop (mkF m 2 #[.val (.ref o1), .val (.int (0 : Int32))] [(.ref o1), (.int (0 : Int32))])) (fun t k => XS.aloadN X0.here hx rfl (hb hby d16_1) rfl rfl k) ?_
  obtain ⟨T1, X1, e1, st1⟩ := getF X0 hx hZ hown (host := "") (Or.inl (hw _ (List.mem_of_getElem? (i := 60) rfl))) Via.refl e0 A2 (g := (mkF m 2 #[.val (.ref o1), .val (.int (0 : Int32))] [(.ref o1), (.int (0 : Int32))])) rfl rfl (hb hby d16_2)
  refine step (T1.setTop (mkF m 5 #[.val (.ref o1), .val (.int (0 : Int32))] [(.int (3 : Int32)), (.int (0 : Int32))])) (fun t k => st1 t k) ?_
  obtain ⟨_, _, ⟨T2, L2, k2, n2⟩, -, X2, ⟨Lc2, hQ2, l2, y2, z2⟩, st2⟩ := Jvm.LawKit.callS X1 hx (y := (⟨"java/util/Objects", "checkIndex", "(II)I"⟩ : MethodName)) hown (mvT hZ (hw _ (List.mem_of_getElem? (i := 96) rfl))) (mvT hZ (hw _ (List.mem_of_getElem? (i := 97) rfl))) (mvT hZ (hw _ (List.mem_of_getElem? (i := 98) rfl))) (mvT hZ (hw _ (List.mem_of_getElem? (i := 99) rfl))) (by decide) (backOf (W := 0) (rm17_36 l Z a0 hw []  h0 n0 Z0 ) hZ (hw _ (List.mem_of_getElem? (i := 99) rfl)) (hw _ (List.mem_of_getElem? (i := 98) rfl)) (by decide) (by decide)) (g := (mkF m 5 #[.val (.ref o1), .val (.int (0 : Int32))] [(.int (3 : Int32)), (.int (0 : Int32))])) rfl (by rw [hml]; rfl) (argsL := [(.int (0 : Int32)), (.int (3 : Int32))]) (rest := []) (lenOf pd_12 rfl) rfl (by show 2 * 0 + _ ≤ _; exact Nat.le_of_eq rfl) (hb hby d16_5) (fun _ _ => ⟨rfl, e1, (by decide : 0 + 0 ≤ _), (by decide : 0 + 0 ≤ _)⟩)
  dsimp only [Pt.U, Pt.locs, Pt.cells, Pt.slots] at X2 l2 y2 z2 st2 hQ2
  subst l2 y2 z2
  obtain ⟨rfl, N2q, e2q⟩ := hQ2
  have N2 := Fr.app N0 N2q
  refine step (T2.setTop (mkF m 8 #[.val (.ref o1), .val (.int (0 : Int32))] [(.int (0 : Int32))])) (fun t k => st2 t k) ?_
  refine step (T2.setTop (mkF m 9 #[.val (.ref o1), .val (.int (0 : Int32))] [])) (fun t k => XS.pop X2.here hx rfl (hb hby d16_8) rfl rfl k) ?_
  refine step (T2.setTop (mkF m 10 #[.val (.ref o1), .val (.int (0 : Int32))] [(.ref o1)])) (fun t k => XS.aloadN X2.here hx rfl (hb hby d16_9) rfl rfl k) ?_
  refine step (T2.setTop (mkF m 11 #[.val (.ref o1), .val (.int (0 : Int32))] [(.int (0 : Int32)), (.ref o1)])) (fun t k => XS.iloadN X2.here hx rfl (hb hby d16_10) rfl k) ?_
  obtain ⟨cq3, kq3, q3a, q3b, q3c⟩ := isOf hZ e2q A0
  obtain ⟨_, _, ⟨T3, L3, k3, n3⟩, -, X3, ⟨Lc3, hQ3, l3, y3, z3⟩, st3⟩ := X2.virtualBack hx (y := (⟨"java/util/ArrayList", "elementData", "(I)Ljava/lang/Object;"⟩ : MethodName)) (z := (⟨"java/util/ArrayList", "elementData", "(I)Ljava/lang/Object;"⟩ : MethodName)) hown (mvT hZ (hw _ (List.mem_of_getElem? (i := 104) rfl))) (mvT hZ (hw _ (List.mem_of_getElem? (i := 105) rfl))) (notFace_of_selects (args := #[]) (mvT hZ (hw _ (List.mem_of_getElem? (i := 107) rfl)))) (mvT hZ (hw _ (List.mem_of_getElem? (i := 107) rfl))) (mvT hZ (hw _ (List.mem_of_getElem? (i := 106) rfl))) (by decide) (backOf (W := 0) (rm19_38 l Z a0 hw [] o1 o2 kc1 o3 o4 o5 h0 n0 Z0 A0 A1 A3 O4 A5 A6 A7 gn_o1 ne_o1_o2 ne_o1_o3 ne_o1_o4 ne_o1_o5 gn_o2 ne_o2_o3 ne_o2_o4 ne_o2_o5 gn_o3 ne_o3_o4 ne_o3_o5 gn_o4 ne_o4_o5 gn_o5) hZ (hw _ (List.mem_of_getElem? (i := 108) rfl)) (hw _ (List.mem_of_getElem? (i := 28) rfl)) (by decide) (by decide)) q3a q3c (g := (mkF m 11 #[.val (.ref o1), .val (.int (0 : Int32))] [(.int (0 : Int32)), (.ref o1)])) rfl (by rw [hml]; rfl) (Steps.refl _) (argsL := [(.int (0 : Int32))]) (rest := []) (lenOf pd_5 rfl) rfl (by show 2 * 0 + _ ≤ _; exact Nat.le_of_eq rfl) (hb hby d16_11) (fun _ _ => ⟨rfl, e2q, (by decide : 0 + 0 ≤ _), (by decide : 0 + 0 ≤ _)⟩)
  dsimp only [Pt.U, Pt.locs, Pt.cells, Pt.slots] at X3 l3 y3 z3 st3 hQ3
  subst l3 y3 z3
  obtain ⟨rfl, N3q, e3q⟩ := hQ3
  have N3 := Fr.app N2 N3q
  refine step (T3.setTop (mkF m 14 #[.val (.ref o1), .val (.int (0 : Int32))] [(.ref o3)])) (fun t k => st3.trans k) ?_
  refine fin (v := some (.ref o3)) X3 (fun h => by cases h) ?_ (by decide) (by decide) (fun fs hr => X3.areturnOut hx rfl hret rfl (hb hby d16_14) hr)
  show Q16_35 Z o1 o2 kc1 o3 o4 o5 h0 n0 (some (.ref o3)) T3.heap _
  rw [e3q]
  exact ⟨rfl, N3, rfl⟩
theorem ef_18_41 (m : MethodId)  : entryFrame m #[(.int (1 : Int32)), (.int (3 : Int32)), .null] 3 = mkF m 0 #[.val (.int (1 : Int32)), .val (.int (3 : Int32)), .val .null] [] := by first | (simp [entryFrame, mkF, argsToLocals, Value.category]; done) | rfl
def Q18_41 (Z : State)  (h0 : Heap) (n0 : Nat) (v : Option Value) (h : Heap) (L : List Loc) : Prop := v = some (.int (1 : Int32)) ∧ Fr n0 L ∧ h = h0
set_option maxRecDepth 65536 in
set_option maxHeartbeats 40000000 in
theorem rm18_41 (l : Launch) (Z : State) (a0 : Array Value) (hw : ∀ d ∈ tables_1, d.before a0 Z = true) (ws : List Jvm.Cond)  (h0 : Heap) (n0 : Nat) (Z0 : n0 ≤ h0.size)  :
    MetFree l (⟨"jdk/internal/util/Preconditions", "checkIndex", "(IILjava/util/function/BiFunction;)I"⟩ : MethodName) (head1 (Jvm.Cond.code (⟨"jdk/internal/util/Preconditions", "checkIndex", "(IILjava/util/function/BiFunction;)I"⟩ : MethodName) jdk_41_method_11_code 3 (some .int) :: ws) ({ frames := 0, cells := 0, slots := 0, locals := 0 } : Room)) (fun a U => a = #[(.int (1 : Int32)), (.int (3 : Int32)), .null] ∧ Z.Warmed39 U.vm ∧ U.heap = h0) (fun _ _ _ _ _ => True) (fun _ U o U' => ∃ v L, o = .returned v ∧ Q18_41 Z  h0 n0 v U'.heap L ∧ FrameEnd U o U' L ({ frames := 0, cells := 0, slots := 0, locals := 0 } : Room).cells ({ frames := 0, cells := 0, slots := 0, locals := 0 } : Room).slots) := by
  refine own_body (plainFor_of_name pn_8) ?_
  intro p e s m below meth c s₁ G hx hby hml hZ hown hnm hret X0 e0 step fin
  replace hown : s.vm.findClass "jdk/internal/util/Preconditions" = some m.cls := hown
  replace hnm : meth.name = "checkIndex" := hnm
  replace hret : meth.sig.returnType = some .int := hret
  replace hml : c.maxLocals = 3 := hml
  have N0 := Fr.nil n0
  refine step (s₁.setTop (mkF m 0 #[.val (.int (1 : Int32)), .val (.int (3 : Int32)), .val .null] [])) (fun t k => castTop (ef_18_41 m ) k) ?_
  refine step (s₁.setTop (mkF m 1 #[.val (.int (1 : Int32)), .val (.int (3 : Int32)), .val .null] [(.int (1 : Int32))])) (fun t k => XS.iloadN X0.here hx rfl (hb hby d18_0) rfl k) ?_
  refine step (s₁.setTop (mkF m 4 #[.val (.int (1 : Int32)), .val (.int (3 : Int32)), .val .null] [])) (fun t k => XS.ifNo X0.here hx rfl (hb hby d18_1) rfl ((if0 _ _).trans (flt (by decide : ¬ ((1 : Int32) < (0 : Int32)))).1) k) ?_
  refine step (s₁.setTop (mkF m 5 #[.val (.int (1 : Int32)), .val (.int (3 : Int32)), .val .null] [(.int (1 : Int32))])) (fun t k => XS.iloadN X0.here hx rfl (hb hby d18_4) rfl k) ?_
  refine step (s₁.setTop (mkF m 6 #[.val (.int (1 : Int32)), .val (.int (3 : Int32)), .val .null] [(.int (3 : Int32)), (.int (1 : Int32))])) (fun t k => XS.iloadN X0.here hx rfl (hb hby d18_5) rfl k) ?_
  refine step (s₁.setTop (mkF m 16 #[.val (.int (1 : Int32)), .val (.int (3 : Int32)), .val .null] [])) (fun t k => XS.icmpYes X0.here hx rfl (pc0 := 6) (pc' := 16) rfl (hb hby d18_6) rfl (tlt (by decide : (1 : Int32) < (3 : Int32))).1 (by decide) (by decide) k) ?_
  refine step (s₁.setTop (mkF m 17 #[.val (.int (1 : Int32)), .val (.int (3 : Int32)), .val .null] [(.int (1 : Int32))])) (fun t k => XS.iloadN X0.here hx rfl (hb hby d18_16) rfl k) ?_
  refine fin (v := some (.int (1 : Int32))) X0 (fun h => by cases h) ?_ (by decide) (by decide) (fun fs hr => retI X0 hx hret (hb hby d18_17) hr)
  show Q18_41 Z  h0 n0 (some (.int (1 : Int32))) s₁.heap _
  rw [e0]
  exact ⟨rfl, N0, rfl⟩
theorem ef_17_40 (m : MethodId)  : entryFrame m #[(.int (1 : Int32)), (.int (3 : Int32))] 2 = mkF m 0 #[.val (.int (1 : Int32)), .val (.int (3 : Int32))] [] := by first | (simp [entryFrame, mkF, argsToLocals, Value.category]; done) | rfl
def Q17_40 (Z : State)  (h0 : Heap) (n0 : Nat) (v : Option Value) (h : Heap) (L : List Loc) : Prop := v = some (.int (1 : Int32)) ∧ Fr n0 L ∧ h = h0
set_option maxRecDepth 65536 in
set_option maxHeartbeats 40000000 in
theorem rm17_40 (l : Launch) (Z : State) (a0 : Array Value) (hw : ∀ d ∈ tables_1, d.before a0 Z = true) (ws : List Jvm.Cond)  (h0 : Heap) (n0 : Nat) (Z0 : n0 ≤ h0.size)  :
    MetFree l (⟨"java/util/Objects", "checkIndex", "(II)I"⟩ : MethodName) (head1 (Jvm.Cond.code (⟨"java/util/Objects", "checkIndex", "(II)I"⟩ : MethodName) jdk_31_method_17_code 2 (some .int) :: ws) ({ frames := 1, cells := 0, slots := 0, locals := 14 } : Room)) (fun a U => a = #[(.int (1 : Int32)), (.int (3 : Int32))] ∧ Z.Warmed39 U.vm ∧ U.heap = h0) (fun _ _ _ _ _ => True) (fun _ U o U' => ∃ v L, o = .returned v ∧ Q17_40 Z  h0 n0 v U'.heap L ∧ FrameEnd U o U' L ({ frames := 1, cells := 0, slots := 0, locals := 14 } : Room).cells ({ frames := 1, cells := 0, slots := 0, locals := 14 } : Room).slots) := by
  refine own_body (plainFor_of_name pn_7) ?_
  intro p e s m below meth c s₁ G hx hby hml hZ hown hnm hret X0 e0 step fin
  replace hown : s.vm.findClass "java/util/Objects" = some m.cls := hown
  replace hnm : meth.name = "checkIndex" := hnm
  replace hret : meth.sig.returnType = some .int := hret
  replace hml : c.maxLocals = 2 := hml
  have N0 := Fr.nil n0
  refine step (s₁.setTop (mkF m 0 #[.val (.int (1 : Int32)), .val (.int (3 : Int32))] [])) (fun t k => castTop (ef_17_40 m ) k) ?_
  refine step (s₁.setTop (mkF m 1 #[.val (.int (1 : Int32)), .val (.int (3 : Int32))] [(.int (1 : Int32))])) (fun t k => XS.iloadN X0.here hx rfl (hb hby d17_0) rfl k) ?_
  refine step (s₁.setTop (mkF m 2 #[.val (.int (1 : Int32)), .val (.int (3 : Int32))] [(.int (3 : Int32)), (.int (1 : Int32))])) (fun t k => XS.iloadN X0.here hx rfl (hb hby d17_1) rfl k) ?_
  refine step (s₁.setTop (mkF m 3 #[.val (.int (1 : Int32)), .val (.int (3 : Int32))] [.null, (.int (3 : Int32)), (.int (1 : Int32))])) (fun t k => XS.aconstNull X0.here hx rfl (hb hby d17_2) k) ?_
  obtain ⟨_, _, ⟨T1, L1, k1, n1⟩, -, X1, ⟨Lc1, hQ1, l1, y1, z1⟩, st1⟩ := Jvm.LawKit.callS X0 hx (y := (⟨"jdk/internal/util/Preconditions", "checkIndex", "(IILjava/util/function/BiFunction;)I"⟩ : MethodName)) hown (mvT hZ (hw _ (List.mem_of_getElem? (i := 100) rfl))) (mvT hZ (hw _ (List.mem_of_getElem? (i := 101) rfl))) (mvT hZ (hw _ (List.mem_of_getElem? (i := 102) rfl))) (mvT hZ (hw _ (List.mem_of_getElem? (i := 103) rfl))) (by decide) (backOf (W := 0) (rm18_41 l Z a0 hw []  h0 n0 Z0 ) hZ (hw _ (List.mem_of_getElem? (i := 103) rfl)) (hw _ (List.mem_of_getElem? (i := 102) rfl)) (by decide) (by decide)) (g := (mkF m 3 #[.val (.int (1 : Int32)), .val (.int (3 : Int32))] [.null, (.int (3 : Int32)), (.int (1 : Int32))])) rfl (by rw [hml]; rfl) (argsL := [(.int (1 : Int32)), (.int (3 : Int32)), .null]) (rest := []) (lenOf pd_13 rfl) rfl (by show 2 * 0 + _ ≤ _; exact Nat.le_of_eq rfl) (hb hby d17_3) (fun _ _ => ⟨rfl, e0, (by decide : 0 + 0 ≤ _), (by decide : 0 + 0 ≤ _)⟩)
  dsimp only [Pt.U, Pt.locs, Pt.cells, Pt.slots] at X1 l1 y1 z1 st1 hQ1
  subst l1 y1 z1
  obtain ⟨rfl, N1q, e1q⟩ := hQ1
  have N1 := Fr.app N0 N1q
  refine step (T1.setTop (mkF m 6 #[.val (.int (1 : Int32)), .val (.int (3 : Int32))] [(.int (1 : Int32))])) (fun t k => st1 t k) ?_
  refine fin (v := some (.int (1 : Int32))) X1 (fun h => by cases h) ?_ (by decide) (by decide) (fun fs hr => retI X1 hx hret (hb hby d17_6) hr)
  show Q17_40 Z  h0 n0 (some (.int (1 : Int32))) T1.heap _
  rw [e1q]
  exact ⟨rfl, N1, rfl⟩
theorem ef_19_42 (m : MethodId) (x0 : Addr) : entryFrame m #[(.ref x0), (.int (1 : Int32))] 2 = mkF m 0 #[.val (.ref x0), .val (.int (1 : Int32))] [] := by first | (simp [entryFrame, mkF, argsToLocals, Value.category]; done) | rfl
def Q19_42 (Z : State) (o1 : Addr) (o2 : Addr) (kc1 : ClassId) (o3 : Addr) (o4 : Addr) (o5 : Addr) (h0 : Heap) (n0 : Nat) (v : Option Value) (h : Heap) (L : List Loc) : Prop := v = some (.ref o4) ∧ Fr n0 L ∧ h = h0
set_option maxRecDepth 65536 in
set_option maxHeartbeats 40000000 in
theorem rm19_42 (l : Launch) (Z : State) (a0 : Array Value) (hw : ∀ d ∈ tables_1, d.before a0 Z = true) (ws : List Jvm.Cond) (o1 : Addr) (o2 : Addr) (kc1 : ClassId) (o3 : Addr) (o4 : Addr) (o5 : Addr) (h0 : Heap) (n0 : Nat) (Z0 : n0 ≤ h0.size) (A0 : Exa Z h0 o1 "java/util/ArrayList") (A1 : Fld Z h0 o1 "java/util/ArrayList" "elementData" "[Ljava/lang/Object;" (.ref o2)) (A2 : Arv Z h0 o2 kc1 (.object "java/lang/Object") (10 : Int32) [(.ref o3), (.ref o4), (.ref o5), .null, .null, .null, .null, .null, .null, .null] .null) (O3 : Ovr Z kc1 "java/lang/Object") (A4 : Exa Z h0 o3 "java/lang/String") (A5 : Exa Z h0 o4 "java/lang/String") (A6 : Exa Z h0 o5 "java/lang/String") (gn_o1 : n0 ≤ o1) (ne_o1_o2 : o1 ≠ o2) (ne_o1_o3 : o1 ≠ o3) (ne_o1_o4 : o1 ≠ o4) (ne_o1_o5 : o1 ≠ o5) (gn_o2 : n0 ≤ o2) (ne_o2_o3 : o2 ≠ o3) (ne_o2_o4 : o2 ≠ o4) (ne_o2_o5 : o2 ≠ o5) (gn_o3 : n0 ≤ o3) (ne_o3_o4 : o3 ≠ o4) (ne_o3_o5 : o3 ≠ o5) (gn_o4 : n0 ≤ o4) (ne_o4_o5 : o4 ≠ o5) (gn_o5 : n0 ≤ o5)  :
    MetFree l (⟨"java/util/ArrayList", "elementData", "(I)Ljava/lang/Object;"⟩ : MethodName) (head1 (Jvm.Cond.code (⟨"java/util/ArrayList", "elementData", "(I)Ljava/lang/Object;"⟩ : MethodName) jdk_38_method_18_code 2 (some (.object "java/lang/Object")) :: ws) ({ frames := 0, cells := 0, slots := 0, locals := 0 } : Room)) (fun a U => a = #[(.ref o1), (.int (1 : Int32))] ∧ Z.Warmed39 U.vm ∧ U.heap = h0) (fun _ _ _ _ _ => True) (fun _ U o U' => ∃ v L, o = .returned v ∧ Q19_42 Z o1 o2 kc1 o3 o4 o5 h0 n0 v U'.heap L ∧ FrameEnd U o U' L ({ frames := 0, cells := 0, slots := 0, locals := 0 } : Room).cells ({ frames := 0, cells := 0, slots := 0, locals := 0 } : Room).slots) := by
  refine own_body (plainFor_of_name pn_3) ?_
  intro p e s m below meth c s₁ G hx hby hml hZ hown hnm hret X0 e0 step fin
  replace hown : s.vm.findClass "java/util/ArrayList" = some m.cls := hown
  replace hnm : meth.name = "elementData" := hnm
  replace hret : meth.sig.returnType = some (.object "java/lang/Object") := hret
  replace hml : c.maxLocals = 2 := hml
  have N0 := Fr.nil n0
  refine step (s₁.setTop (mkF m 0 #[.val (.ref o1), .val (.int (1 : Int32))] [])) (fun t k => castTop (ef_19_42 m o1) k) ?_
  refine step (s₁.setTop (mkF m 1 #[.val (.ref o1), .val (.int (1 : Int32))] [(.ref o1)])) (fun t k => XS.aloadN X0.here hx rfl (hb hby d19_0) rfl rfl k) ?_
  obtain ⟨T1, X1, e1, st1⟩ := getF X0 hx hZ hown (host := "") (Or.inl (hw _ (List.mem_of_getElem? (i := 48) rfl))) Via.refl e0 A1 (g := (mkF m 1 #[.val (.ref o1), .val (.int (1 : Int32))] [(.ref o1)])) rfl rfl (hb hby d19_1)
  refine step (T1.setTop (mkF m 4 #[.val (.ref o1), .val (.int (1 : Int32))] [(.ref o2)])) (fun t k => st1 t k) ?_
  refine step (T1.setTop (mkF m 5 #[.val (.ref o1), .val (.int (1 : Int32))] [(.int (1 : Int32)), (.ref o2)])) (fun t k => XS.iloadN X1.here hx rfl (hb hby d19_4) rfl k) ?_
  obtain ⟨cl2, Ar2, q2, S2, N2n, H2, G2⟩ := id A2
  have hin2 : ¬ ((1 : Int32) < 0 ∨ cl2.slots.size ≤ ((1 : Int32)).toNatClampNeg) := inb_of S2 ⟨by decide, by decide⟩
  have hat2 : cl2.slots[((1 : Int32)).toNatClampNeg]? = some (.ref o4) := H2.at hin2 rfl
  refine step (T1.setTop (mkF m 6 #[.val (.ref o1), .val (.int (1 : Int32))] [(.ref o4)])) (fun t k => X1.aaload hx (j := (1 : Int32)) (v := (.ref o4)) (by rw [e1]; exact Ar2.1) (State.isArrayOf_alike hZ.alike Ar2.2.1) rfl Ar2.2.2 hin2 hat2 (g := (mkF m 5 #[.val (.ref o1), .val (.int (1 : Int32))] [(.int (1 : Int32)), (.ref o2)])) rfl rfl (hb hby d19_5) t k) ?_
  refine fin (v := some (.ref o4)) X1 (fun h => by cases h) ?_ (by decide) (by decide) (fun fs hr => X1.areturnOut hx rfl hret rfl (hb hby d19_6) hr)
  show Q19_42 Z o1 o2 kc1 o3 o4 o5 h0 n0 (some (.ref o4)) T1.heap _
  rw [e1]
  exact ⟨rfl, N0, rfl⟩
theorem ef_16_39 (m : MethodId) (x0 : Addr) : entryFrame m #[(.ref x0), (.int (1 : Int32))] 2 = mkF m 0 #[.val (.ref x0), .val (.int (1 : Int32))] [] := by first | (simp [entryFrame, mkF, argsToLocals, Value.category]; done) | rfl
def Q16_39 (Z : State) (o1 : Addr) (o2 : Addr) (kc1 : ClassId) (o3 : Addr) (o4 : Addr) (o5 : Addr) (h0 : Heap) (n0 : Nat) (v : Option Value) (h : Heap) (L : List Loc) : Prop := v = some (.ref o4) ∧ Fr n0 L ∧ h = h0
set_option maxRecDepth 65536 in
set_option maxHeartbeats 40000000 in
theorem rm16_39 (l : Launch) (Z : State) (a0 : Array Value) (hw : ∀ d ∈ tables_1, d.before a0 Z = true) (ws : List Jvm.Cond) (o1 : Addr) (o2 : Addr) (kc1 : ClassId) (o3 : Addr) (o4 : Addr) (o5 : Addr) (h0 : Heap) (n0 : Nat) (Z0 : n0 ≤ h0.size) (A0 : Exa Z h0 o1 "java/util/ArrayList") (A1 : Fld Z h0 o1 "java/util/ArrayList" "elementData" "[Ljava/lang/Object;" (.ref o2)) (A2 : Fld Z h0 o1 "java/util/ArrayList" "size" "I" (.int (3 : Int32))) (A3 : Arv Z h0 o2 kc1 (.object "java/lang/Object") (10 : Int32) [(.ref o3), (.ref o4), (.ref o5), .null, .null, .null, .null, .null, .null, .null] .null) (O4 : Ovr Z kc1 "java/lang/Object") (A5 : Exa Z h0 o3 "java/lang/String") (A6 : Exa Z h0 o4 "java/lang/String") (A7 : Exa Z h0 o5 "java/lang/String") (gn_o1 : n0 ≤ o1) (ne_o1_o2 : o1 ≠ o2) (ne_o1_o3 : o1 ≠ o3) (ne_o1_o4 : o1 ≠ o4) (ne_o1_o5 : o1 ≠ o5) (gn_o2 : n0 ≤ o2) (ne_o2_o3 : o2 ≠ o3) (ne_o2_o4 : o2 ≠ o4) (ne_o2_o5 : o2 ≠ o5) (gn_o3 : n0 ≤ o3) (ne_o3_o4 : o3 ≠ o4) (ne_o3_o5 : o3 ≠ o5) (gn_o4 : n0 ≤ o4) (ne_o4_o5 : o4 ≠ o5) (gn_o5 : n0 ≤ o5)  :
    MetFree l (⟨"java/util/ArrayList", "get", "(I)Ljava/lang/Object;"⟩ : MethodName) (head1 (Jvm.Cond.code (⟨"java/util/ArrayList", "get", "(I)Ljava/lang/Object;"⟩ : MethodName) jdk_38_method_20_code 2 (some (.object "java/lang/Object")) :: ws) ({ frames := 2, cells := 0, slots := 0, locals := 27 } : Room)) (fun a U => a = #[(.ref o1), (.int (1 : Int32))] ∧ Z.Warmed39 U.vm ∧ U.heap = h0) (fun _ _ _ _ _ => True) (fun _ U o U' => ∃ v L, o = .returned v ∧ Q16_39 Z o1 o2 kc1 o3 o4 o5 h0 n0 v U'.heap L ∧ FrameEnd U o U' L ({ frames := 2, cells := 0, slots := 0, locals := 27 } : Room).cells ({ frames := 2, cells := 0, slots := 0, locals := 27 } : Room).slots) := by
  refine own_body (plainFor_of_name pn_3) ?_
  intro p e s m below meth c s₁ G hx hby hml hZ hown hnm hret X0 e0 step fin
  replace hown : s.vm.findClass "java/util/ArrayList" = some m.cls := hown
  replace hnm : meth.name = "get" := hnm
  replace hret : meth.sig.returnType = some (.object "java/lang/Object") := hret
  replace hml : c.maxLocals = 2 := hml
  have N0 := Fr.nil n0
  refine step (s₁.setTop (mkF m 0 #[.val (.ref o1), .val (.int (1 : Int32))] [])) (fun t k => castTop (ef_16_39 m o1) k) ?_
  refine step (s₁.setTop (mkF m 1 #[.val (.ref o1), .val (.int (1 : Int32))] [(.int (1 : Int32))])) (fun t k => XS.iloadN X0.here hx rfl (hb hby d16_0) rfl k) ?_
  refine step (s₁.setTop (mkF m 2 #[.val (.ref o1), .val (.int (1 : Int32))] [(.ref o1), (.int (1 : Int32))])) (fun t k => XS.aloadN X0.here hx rfl (hb hby d16_1) rfl rfl k) ?_
  obtain ⟨T1, X1, e1, st1⟩ := getF X0 hx hZ hown (host := "") (Or.inl (hw _ (List.mem_of_getElem? (i := 60) rfl))) Via.refl e0 A2 (g := (mkF m 2 #[.val (.ref o1), .val (.int (1 : Int32))] [(.ref o1), (.int (1 : Int32))])) rfl rfl (hb hby d16_2)
  refine step (T1.setTop (mkF m 5 #[.val (.ref o1), .val (.int (1 : Int32))] [(.int (3 : Int32)), (.int (1 : Int32))])) (fun t k => st1 t k) ?_
  obtain ⟨_, _, ⟨T2, L2, k2, n2⟩, -, X2, ⟨Lc2, hQ2, l2, y2, z2⟩, st2⟩ := Jvm.LawKit.callS X1 hx (y := (⟨"java/util/Objects", "checkIndex", "(II)I"⟩ : MethodName)) hown (mvT hZ (hw _ (List.mem_of_getElem? (i := 96) rfl))) (mvT hZ (hw _ (List.mem_of_getElem? (i := 97) rfl))) (mvT hZ (hw _ (List.mem_of_getElem? (i := 98) rfl))) (mvT hZ (hw _ (List.mem_of_getElem? (i := 99) rfl))) (by decide) (backOf (W := 0) (rm17_40 l Z a0 hw []  h0 n0 Z0 ) hZ (hw _ (List.mem_of_getElem? (i := 99) rfl)) (hw _ (List.mem_of_getElem? (i := 98) rfl)) (by decide) (by decide)) (g := (mkF m 5 #[.val (.ref o1), .val (.int (1 : Int32))] [(.int (3 : Int32)), (.int (1 : Int32))])) rfl (by rw [hml]; rfl) (argsL := [(.int (1 : Int32)), (.int (3 : Int32))]) (rest := []) (lenOf pd_12 rfl) rfl (by show 2 * 0 + _ ≤ _; exact Nat.le_of_eq rfl) (hb hby d16_5) (fun _ _ => ⟨rfl, e1, (by decide : 0 + 0 ≤ _), (by decide : 0 + 0 ≤ _)⟩)
  dsimp only [Pt.U, Pt.locs, Pt.cells, Pt.slots] at X2 l2 y2 z2 st2 hQ2
  subst l2 y2 z2
  obtain ⟨rfl, N2q, e2q⟩ := hQ2
  have N2 := Fr.app N0 N2q
  refine step (T2.setTop (mkF m 8 #[.val (.ref o1), .val (.int (1 : Int32))] [(.int (1 : Int32))])) (fun t k => st2 t k) ?_
  refine step (T2.setTop (mkF m 9 #[.val (.ref o1), .val (.int (1 : Int32))] [])) (fun t k => XS.pop X2.here hx rfl (hb hby d16_8) rfl rfl k) ?_
  refine step (T2.setTop (mkF m 10 #[.val (.ref o1), .val (.int (1 : Int32))] [(.ref o1)])) (fun t k => XS.aloadN X2.here hx rfl (hb hby d16_9) rfl rfl k) ?_
  refine step (T2.setTop (mkF m 11 #[.val (.ref o1), .val (.int (1 : Int32))] [(.int (1 : Int32)), (.ref o1)])) (fun t k => XS.iloadN X2.here hx rfl (hb hby d16_10) rfl k) ?_
  obtain ⟨cq3, kq3, q3a, q3b, q3c⟩ := isOf hZ e2q A0
  obtain ⟨_, _, ⟨T3, L3, k3, n3⟩, -, X3, ⟨Lc3, hQ3, l3, y3, z3⟩, st3⟩ := X2.virtualBack hx (y := (⟨"java/util/ArrayList", "elementData", "(I)Ljava/lang/Object;"⟩ : MethodName)) (z := (⟨"java/util/ArrayList", "elementData", "(I)Ljava/lang/Object;"⟩ : MethodName)) hown (mvT hZ (hw _ (List.mem_of_getElem? (i := 104) rfl))) (mvT hZ (hw _ (List.mem_of_getElem? (i := 105) rfl))) (notFace_of_selects (args := #[]) (mvT hZ (hw _ (List.mem_of_getElem? (i := 107) rfl)))) (mvT hZ (hw _ (List.mem_of_getElem? (i := 107) rfl))) (mvT hZ (hw _ (List.mem_of_getElem? (i := 106) rfl))) (by decide) (backOf (W := 0) (rm19_42 l Z a0 hw [] o1 o2 kc1 o3 o4 o5 h0 n0 Z0 A0 A1 A3 O4 A5 A6 A7 gn_o1 ne_o1_o2 ne_o1_o3 ne_o1_o4 ne_o1_o5 gn_o2 ne_o2_o3 ne_o2_o4 ne_o2_o5 gn_o3 ne_o3_o4 ne_o3_o5 gn_o4 ne_o4_o5 gn_o5) hZ (hw _ (List.mem_of_getElem? (i := 108) rfl)) (hw _ (List.mem_of_getElem? (i := 28) rfl)) (by decide) (by decide)) q3a q3c (g := (mkF m 11 #[.val (.ref o1), .val (.int (1 : Int32))] [(.int (1 : Int32)), (.ref o1)])) rfl (by rw [hml]; rfl) (Steps.refl _) (argsL := [(.int (1 : Int32))]) (rest := []) (lenOf pd_5 rfl) rfl (by show 2 * 0 + _ ≤ _; exact Nat.le_of_eq rfl) (hb hby d16_11) (fun _ _ => ⟨rfl, e2q, (by decide : 0 + 0 ≤ _), (by decide : 0 + 0 ≤ _)⟩)
  dsimp only [Pt.U, Pt.locs, Pt.cells, Pt.slots] at X3 l3 y3 z3 st3 hQ3
  subst l3 y3 z3
  obtain ⟨rfl, N3q, e3q⟩ := hQ3
  have N3 := Fr.app N2 N3q
  refine step (T3.setTop (mkF m 14 #[.val (.ref o1), .val (.int (1 : Int32))] [(.ref o4)])) (fun t k => st3.trans k) ?_
  refine fin (v := some (.ref o4)) X3 (fun h => by cases h) ?_ (by decide) (by decide) (fun fs hr => X3.areturnOut hx rfl hret rfl (hb hby d16_14) hr)
  show Q16_39 Z o1 o2 kc1 o3 o4 o5 h0 n0 (some (.ref o4)) T3.heap _
  rw [e3q]
  exact ⟨rfl, N3, rfl⟩
theorem ef_18_45 (m : MethodId)  : entryFrame m #[(.int (2 : Int32)), (.int (3 : Int32)), .null] 3 = mkF m 0 #[.val (.int (2 : Int32)), .val (.int (3 : Int32)), .val .null] [] := by first | (simp [entryFrame, mkF, argsToLocals, Value.category]; done) | rfl
def Q18_45 (Z : State)  (h0 : Heap) (n0 : Nat) (v : Option Value) (h : Heap) (L : List Loc) : Prop := v = some (.int (2 : Int32)) ∧ Fr n0 L ∧ h = h0
set_option maxRecDepth 65536 in
set_option maxHeartbeats 40000000 in
theorem rm18_45 (l : Launch) (Z : State) (a0 : Array Value) (hw : ∀ d ∈ tables_1, d.before a0 Z = true) (ws : List Jvm.Cond)  (h0 : Heap) (n0 : Nat) (Z0 : n0 ≤ h0.size)  :
    MetFree l (⟨"jdk/internal/util/Preconditions", "checkIndex", "(IILjava/util/function/BiFunction;)I"⟩ : MethodName) (head1 (Jvm.Cond.code (⟨"jdk/internal/util/Preconditions", "checkIndex", "(IILjava/util/function/BiFunction;)I"⟩ : MethodName) jdk_41_method_11_code 3 (some .int) :: ws) ({ frames := 0, cells := 0, slots := 0, locals := 0 } : Room)) (fun a U => a = #[(.int (2 : Int32)), (.int (3 : Int32)), .null] ∧ Z.Warmed39 U.vm ∧ U.heap = h0) (fun _ _ _ _ _ => True) (fun _ U o U' => ∃ v L, o = .returned v ∧ Q18_45 Z  h0 n0 v U'.heap L ∧ FrameEnd U o U' L ({ frames := 0, cells := 0, slots := 0, locals := 0 } : Room).cells ({ frames := 0, cells := 0, slots := 0, locals := 0 } : Room).slots) := by
  refine own_body (plainFor_of_name pn_8) ?_
  intro p e s m below meth c s₁ G hx hby hml hZ hown hnm hret X0 e0 step fin
  replace hown : s.vm.findClass "jdk/internal/util/Preconditions" = some m.cls := hown
  replace hnm : meth.name = "checkIndex" := hnm
  replace hret : meth.sig.returnType = some .int := hret
  replace hml : c.maxLocals = 3 := hml
  have N0 := Fr.nil n0
  refine step (s₁.setTop (mkF m 0 #[.val (.int (2 : Int32)), .val (.int (3 : Int32)), .val .null] [])) (fun t k => castTop (ef_18_45 m ) k) ?_
  refine step (s₁.setTop (mkF m 1 #[.val (.int (2 : Int32)), .val (.int (3 : Int32)), .val .null] [(.int (2 : Int32))])) (fun t k => XS.iloadN X0.here hx rfl (hb hby d18_0) rfl k) ?_
  refine step (s₁.setTop (mkF m 4 #[.val (.int (2 : Int32)), .val (.int (3 : Int32)), .val .null] [])) (fun t k => XS.ifNo X0.here hx rfl (hb hby d18_1) rfl ((if0 _ _).trans (flt (by decide : ¬ ((2 : Int32) < (0 : Int32)))).1) k) ?_
  refine step (s₁.setTop (mkF m 5 #[.val (.int (2 : Int32)), .val (.int (3 : Int32)), .val .null] [(.int (2 : Int32))])) (fun t k => XS.iloadN X0.here hx rfl (hb hby d18_4) rfl k) ?_
  refine step (s₁.setTop (mkF m 6 #[.val (.int (2 : Int32)), .val (.int (3 : Int32)), .val .null] [(.int (3 : Int32)), (.int (2 : Int32))])) (fun t k => XS.iloadN X0.here hx rfl (hb hby d18_5) rfl k) ?_
  refine step (s₁.setTop (mkF m 16 #[.val (.int (2 : Int32)), .val (.int (3 : Int32)), .val .null] [])) (fun t k => XS.icmpYes X0.here hx rfl (pc0 := 6) (pc' := 16) rfl (hb hby d18_6) rfl (tlt (by decide : (2 : Int32) < (3 : Int32))).1 (by decide) (by decide) k) ?_
  refine step (s₁.setTop (mkF m 17 #[.val (.int (2 : Int32)), .val (.int (3 : Int32)), .val .null] [(.int (2 : Int32))])) (fun t k => XS.iloadN X0.here hx rfl (hb hby d18_16) rfl k) ?_
  refine fin (v := some (.int (2 : Int32))) X0 (fun h => by cases h) ?_ (by decide) (by decide) (fun fs hr => retI X0 hx hret (hb hby d18_17) hr)
  show Q18_45 Z  h0 n0 (some (.int (2 : Int32))) s₁.heap _
  rw [e0]
  exact ⟨rfl, N0, rfl⟩
theorem ef_17_44 (m : MethodId)  : entryFrame m #[(.int (2 : Int32)), (.int (3 : Int32))] 2 = mkF m 0 #[.val (.int (2 : Int32)), .val (.int (3 : Int32))] [] := by first | (simp [entryFrame, mkF, argsToLocals, Value.category]; done) | rfl
def Q17_44 (Z : State)  (h0 : Heap) (n0 : Nat) (v : Option Value) (h : Heap) (L : List Loc) : Prop := v = some (.int (2 : Int32)) ∧ Fr n0 L ∧ h = h0
set_option maxRecDepth 65536 in
set_option maxHeartbeats 40000000 in
theorem rm17_44 (l : Launch) (Z : State) (a0 : Array Value) (hw : ∀ d ∈ tables_1, d.before a0 Z = true) (ws : List Jvm.Cond)  (h0 : Heap) (n0 : Nat) (Z0 : n0 ≤ h0.size)  :
    MetFree l (⟨"java/util/Objects", "checkIndex", "(II)I"⟩ : MethodName) (head1 (Jvm.Cond.code (⟨"java/util/Objects", "checkIndex", "(II)I"⟩ : MethodName) jdk_31_method_17_code 2 (some .int) :: ws) ({ frames := 1, cells := 0, slots := 0, locals := 14 } : Room)) (fun a U => a = #[(.int (2 : Int32)), (.int (3 : Int32))] ∧ Z.Warmed39 U.vm ∧ U.heap = h0) (fun _ _ _ _ _ => True) (fun _ U o U' => ∃ v L, o = .returned v ∧ Q17_44 Z  h0 n0 v U'.heap L ∧ FrameEnd U o U' L ({ frames := 1, cells := 0, slots := 0, locals := 14 } : Room).cells ({ frames := 1, cells := 0, slots := 0, locals := 14 } : Room).slots) := by
  refine own_body (plainFor_of_name pn_7) ?_
  intro p e s m below meth c s₁ G hx hby hml hZ hown hnm hret X0 e0 step fin
  replace hown : s.vm.findClass "java/util/Objects" = some m.cls := hown
  replace hnm : meth.name = "checkIndex" := hnm
  replace hret : meth.sig.returnType = some .int := hret
  replace hml : c.maxLocals = 2 := hml
  have N0 := Fr.nil n0
  refine step (s₁.setTop (mkF m 0 #[.val (.int (2 : Int32)), .val (.int (3 : Int32))] [])) (fun t k => castTop (ef_17_44 m ) k) ?_
  refine step (s₁.setTop (mkF m 1 #[.val (.int (2 : Int32)), .val (.int (3 : Int32))] [(.int (2 : Int32))])) (fun t k => XS.iloadN X0.here hx rfl (hb hby d17_0) rfl k) ?_
  refine step (s₁.setTop (mkF m 2 #[.val (.int (2 : Int32)), .val (.int (3 : Int32))] [(.int (3 : Int32)), (.int (2 : Int32))])) (fun t k => XS.iloadN X0.here hx rfl (hb hby d17_1) rfl k) ?_
  refine step (s₁.setTop (mkF m 3 #[.val (.int (2 : Int32)), .val (.int (3 : Int32))] [.null, (.int (3 : Int32)), (.int (2 : Int32))])) (fun t k => XS.aconstNull X0.here hx rfl (hb hby d17_2) k) ?_
  obtain ⟨_, _, ⟨T1, L1, k1, n1⟩, -, X1, ⟨Lc1, hQ1, l1, y1, z1⟩, st1⟩ := Jvm.LawKit.callS X0 hx (y := (⟨"jdk/internal/util/Preconditions", "checkIndex", "(IILjava/util/function/BiFunction;)I"⟩ : MethodName)) hown (mvT hZ (hw _ (List.mem_of_getElem? (i := 100) rfl))) (mvT hZ (hw _ (List.mem_of_getElem? (i := 101) rfl))) (mvT hZ (hw _ (List.mem_of_getElem? (i := 102) rfl))) (mvT hZ (hw _ (List.mem_of_getElem? (i := 103) rfl))) (by decide) (backOf (W := 0) (rm18_45 l Z a0 hw []  h0 n0 Z0 ) hZ (hw _ (List.mem_of_getElem? (i := 103) rfl)) (hw _ (List.mem_of_getElem? (i := 102) rfl)) (by decide) (by decide)) (g := (mkF m 3 #[.val (.int (2 : Int32)), .val (.int (3 : Int32))] [.null, (.int (3 : Int32)), (.int (2 : Int32))])) rfl (by rw [hml]; rfl) (argsL := [(.int (2 : Int32)), (.int (3 : Int32)), .null]) (rest := []) (lenOf pd_13 rfl) rfl (by show 2 * 0 + _ ≤ _; exact Nat.le_of_eq rfl) (hb hby d17_3) (fun _ _ => ⟨rfl, e0, (by decide : 0 + 0 ≤ _), (by decide : 0 + 0 ≤ _)⟩)
  dsimp only [Pt.U, Pt.locs, Pt.cells, Pt.slots] at X1 l1 y1 z1 st1 hQ1
  subst l1 y1 z1
  obtain ⟨rfl, N1q, e1q⟩ := hQ1
  have N1 := Fr.app N0 N1q
  refine step (T1.setTop (mkF m 6 #[.val (.int (2 : Int32)), .val (.int (3 : Int32))] [(.int (2 : Int32))])) (fun t k => st1 t k) ?_
  refine fin (v := some (.int (2 : Int32))) X1 (fun h => by cases h) ?_ (by decide) (by decide) (fun fs hr => retI X1 hx hret (hb hby d17_6) hr)
  show Q17_44 Z  h0 n0 (some (.int (2 : Int32))) T1.heap _
  rw [e1q]
  exact ⟨rfl, N1, rfl⟩
theorem ef_19_46 (m : MethodId) (x0 : Addr) : entryFrame m #[(.ref x0), (.int (2 : Int32))] 2 = mkF m 0 #[.val (.ref x0), .val (.int (2 : Int32))] [] := by first | (simp [entryFrame, mkF, argsToLocals, Value.category]; done) | rfl
def Q19_46 (Z : State) (o1 : Addr) (o2 : Addr) (kc1 : ClassId) (o3 : Addr) (o4 : Addr) (o5 : Addr) (h0 : Heap) (n0 : Nat) (v : Option Value) (h : Heap) (L : List Loc) : Prop := v = some (.ref o5) ∧ Fr n0 L ∧ h = h0
set_option maxRecDepth 65536 in
set_option maxHeartbeats 40000000 in
theorem rm19_46 (l : Launch) (Z : State) (a0 : Array Value) (hw : ∀ d ∈ tables_1, d.before a0 Z = true) (ws : List Jvm.Cond) (o1 : Addr) (o2 : Addr) (kc1 : ClassId) (o3 : Addr) (o4 : Addr) (o5 : Addr) (h0 : Heap) (n0 : Nat) (Z0 : n0 ≤ h0.size) (A0 : Exa Z h0 o1 "java/util/ArrayList") (A1 : Fld Z h0 o1 "java/util/ArrayList" "elementData" "[Ljava/lang/Object;" (.ref o2)) (A2 : Arv Z h0 o2 kc1 (.object "java/lang/Object") (10 : Int32) [(.ref o3), (.ref o4), (.ref o5), .null, .null, .null, .null, .null, .null, .null] .null) (O3 : Ovr Z kc1 "java/lang/Object") (A4 : Exa Z h0 o3 "java/lang/String") (A5 : Exa Z h0 o4 "java/lang/String") (A6 : Exa Z h0 o5 "java/lang/String") (gn_o1 : n0 ≤ o1) (ne_o1_o2 : o1 ≠ o2) (ne_o1_o3 : o1 ≠ o3) (ne_o1_o4 : o1 ≠ o4) (ne_o1_o5 : o1 ≠ o5) (gn_o2 : n0 ≤ o2) (ne_o2_o3 : o2 ≠ o3) (ne_o2_o4 : o2 ≠ o4) (ne_o2_o5 : o2 ≠ o5) (gn_o3 : n0 ≤ o3) (ne_o3_o4 : o3 ≠ o4) (ne_o3_o5 : o3 ≠ o5) (gn_o4 : n0 ≤ o4) (ne_o4_o5 : o4 ≠ o5) (gn_o5 : n0 ≤ o5)  :
    MetFree l (⟨"java/util/ArrayList", "elementData", "(I)Ljava/lang/Object;"⟩ : MethodName) (head1 (Jvm.Cond.code (⟨"java/util/ArrayList", "elementData", "(I)Ljava/lang/Object;"⟩ : MethodName) jdk_38_method_18_code 2 (some (.object "java/lang/Object")) :: ws) ({ frames := 0, cells := 0, slots := 0, locals := 0 } : Room)) (fun a U => a = #[(.ref o1), (.int (2 : Int32))] ∧ Z.Warmed39 U.vm ∧ U.heap = h0) (fun _ _ _ _ _ => True) (fun _ U o U' => ∃ v L, o = .returned v ∧ Q19_46 Z o1 o2 kc1 o3 o4 o5 h0 n0 v U'.heap L ∧ FrameEnd U o U' L ({ frames := 0, cells := 0, slots := 0, locals := 0 } : Room).cells ({ frames := 0, cells := 0, slots := 0, locals := 0 } : Room).slots) := by
  refine own_body (plainFor_of_name pn_3) ?_
  intro p e s m below meth c s₁ G hx hby hml hZ hown hnm hret X0 e0 step fin
  replace hown : s.vm.findClass "java/util/ArrayList" = some m.cls := hown
  replace hnm : meth.name = "elementData" := hnm
  replace hret : meth.sig.returnType = some (.object "java/lang/Object") := hret
  replace hml : c.maxLocals = 2 := hml
  have N0 := Fr.nil n0
  refine step (s₁.setTop (mkF m 0 #[.val (.ref o1), .val (.int (2 : Int32))] [])) (fun t k => castTop (ef_19_46 m o1) k) ?_
  refine step (s₁.setTop (mkF m 1 #[.val (.ref o1), .val (.int (2 : Int32))] [(.ref o1)])) (fun t k => XS.aloadN X0.here hx rfl (hb hby d19_0) rfl rfl k) ?_
  obtain ⟨T1, X1, e1, st1⟩ := getF X0 hx hZ hown (host := "") (Or.inl (hw _ (List.mem_of_getElem? (i := 48) rfl))) Via.refl e0 A1 (g := (mkF m 1 #[.val (.ref o1), .val (.int (2 : Int32))] [(.ref o1)])) rfl rfl (hb hby d19_1)
  refine step (T1.setTop (mkF m 4 #[.val (.ref o1), .val (.int (2 : Int32))] [(.ref o2)])) (fun t k => st1 t k) ?_
  refine step (T1.setTop (mkF m 5 #[.val (.ref o1), .val (.int (2 : Int32))] [(.int (2 : Int32)), (.ref o2)])) (fun t k => XS.iloadN X1.here hx rfl (hb hby d19_4) rfl k) ?_
  obtain ⟨cl2, Ar2, q2, S2, N2n, H2, G2⟩ := id A2
  have hin2 : ¬ ((2 : Int32) < 0 ∨ cl2.slots.size ≤ ((2 : Int32)).toNatClampNeg) := inb_of S2 ⟨by decide, by decide⟩
  have hat2 : cl2.slots[((2 : Int32)).toNatClampNeg]? = some (.ref o5) := H2.at hin2 rfl
  refine step (T1.setTop (mkF m 6 #[.val (.ref o1), .val (.int (2 : Int32))] [(.ref o5)])) (fun t k => X1.aaload hx (j := (2 : Int32)) (v := (.ref o5)) (by rw [e1]; exact Ar2.1) (State.isArrayOf_alike hZ.alike Ar2.2.1) rfl Ar2.2.2 hin2 hat2 (g := (mkF m 5 #[.val (.ref o1), .val (.int (2 : Int32))] [(.int (2 : Int32)), (.ref o2)])) rfl rfl (hb hby d19_5) t k) ?_
  refine fin (v := some (.ref o5)) X1 (fun h => by cases h) ?_ (by decide) (by decide) (fun fs hr => X1.areturnOut hx rfl hret rfl (hb hby d19_6) hr)
  show Q19_46 Z o1 o2 kc1 o3 o4 o5 h0 n0 (some (.ref o5)) T1.heap _
  rw [e1]
  exact ⟨rfl, N0, rfl⟩
theorem ef_16_43 (m : MethodId) (x0 : Addr) : entryFrame m #[(.ref x0), (.int (2 : Int32))] 2 = mkF m 0 #[.val (.ref x0), .val (.int (2 : Int32))] [] := by first | (simp [entryFrame, mkF, argsToLocals, Value.category]; done) | rfl
def Q16_43 (Z : State) (o1 : Addr) (o2 : Addr) (kc1 : ClassId) (o3 : Addr) (o4 : Addr) (o5 : Addr) (h0 : Heap) (n0 : Nat) (v : Option Value) (h : Heap) (L : List Loc) : Prop := v = some (.ref o5) ∧ Fr n0 L ∧ h = h0
set_option maxRecDepth 65536 in
set_option maxHeartbeats 40000000 in
theorem rm16_43 (l : Launch) (Z : State) (a0 : Array Value) (hw : ∀ d ∈ tables_1, d.before a0 Z = true) (ws : List Jvm.Cond) (o1 : Addr) (o2 : Addr) (kc1 : ClassId) (o3 : Addr) (o4 : Addr) (o5 : Addr) (h0 : Heap) (n0 : Nat) (Z0 : n0 ≤ h0.size) (A0 : Exa Z h0 o1 "java/util/ArrayList") (A1 : Fld Z h0 o1 "java/util/ArrayList" "elementData" "[Ljava/lang/Object;" (.ref o2)) (A2 : Fld Z h0 o1 "java/util/ArrayList" "size" "I" (.int (3 : Int32))) (A3 : Arv Z h0 o2 kc1 (.object "java/lang/Object") (10 : Int32) [(.ref o3), (.ref o4), (.ref o5), .null, .null, .null, .null, .null, .null, .null] .null) (O4 : Ovr Z kc1 "java/lang/Object") (A5 : Exa Z h0 o3 "java/lang/String") (A6 : Exa Z h0 o4 "java/lang/String") (A7 : Exa Z h0 o5 "java/lang/String") (gn_o1 : n0 ≤ o1) (ne_o1_o2 : o1 ≠ o2) (ne_o1_o3 : o1 ≠ o3) (ne_o1_o4 : o1 ≠ o4) (ne_o1_o5 : o1 ≠ o5) (gn_o2 : n0 ≤ o2) (ne_o2_o3 : o2 ≠ o3) (ne_o2_o4 : o2 ≠ o4) (ne_o2_o5 : o2 ≠ o5) (gn_o3 : n0 ≤ o3) (ne_o3_o4 : o3 ≠ o4) (ne_o3_o5 : o3 ≠ o5) (gn_o4 : n0 ≤ o4) (ne_o4_o5 : o4 ≠ o5) (gn_o5 : n0 ≤ o5)  :
    MetFree l (⟨"java/util/ArrayList", "get", "(I)Ljava/lang/Object;"⟩ : MethodName) (head1 (Jvm.Cond.code (⟨"java/util/ArrayList", "get", "(I)Ljava/lang/Object;"⟩ : MethodName) jdk_38_method_20_code 2 (some (.object "java/lang/Object")) :: ws) ({ frames := 2, cells := 0, slots := 0, locals := 27 } : Room)) (fun a U => a = #[(.ref o1), (.int (2 : Int32))] ∧ Z.Warmed39 U.vm ∧ U.heap = h0) (fun _ _ _ _ _ => True) (fun _ U o U' => ∃ v L, o = .returned v ∧ Q16_43 Z o1 o2 kc1 o3 o4 o5 h0 n0 v U'.heap L ∧ FrameEnd U o U' L ({ frames := 2, cells := 0, slots := 0, locals := 27 } : Room).cells ({ frames := 2, cells := 0, slots := 0, locals := 27 } : Room).slots) := by
  refine own_body (plainFor_of_name pn_3) ?_
  intro p e s m below meth c s₁ G hx hby hml hZ hown hnm hret X0 e0 step fin
  replace hown : s.vm.findClass "java/util/ArrayList" = some m.cls := hown
  replace hnm : meth.name = "get" := hnm
  replace hret : meth.sig.returnType = some (.object "java/lang/Object") := hret
  replace hml : c.maxLocals = 2 := hml
  have N0 := Fr.nil n0
  refine step (s₁.setTop (mkF m 0 #[.val (.ref o1), .val (.int (2 : Int32))] [])) (fun t k => castTop (ef_16_43 m o1) k) ?_
  refine step (s₁.setTop (mkF m 1 #[.val (.ref o1), .val (.int (2 : Int32))] [(.int (2 : Int32))])) (fun t k => XS.iloadN X0.here hx rfl (hb hby d16_0) rfl k) ?_
  refine step (s₁.setTop (mkF m 2 #[.val (.ref o1), .val (.int (2 : Int32))] [(.ref o1), (.int (2 : Int32))])) (fun t k => XS.aloadN X0.here hx rfl (hb hby d16_1) rfl rfl k) ?_
  obtain ⟨T1, X1, e1, st1⟩ := getF X0 hx hZ hown (host := "") (Or.inl (hw _ (List.mem_of_getElem? (i := 60) rfl))) Via.refl e0 A2 (g := (mkF m 2 #[.val (.ref o1), .val (.int (2 : Int32))] [(.ref o1), (.int (2 : Int32))])) rfl rfl (hb hby d16_2)
  refine step (T1.setTop (mkF m 5 #[.val (.ref o1), .val (.int (2 : Int32))] [(.int (3 : Int32)), (.int (2 : Int32))])) (fun t k => st1 t k) ?_
  obtain ⟨_, _, ⟨T2, L2, k2, n2⟩, -, X2, ⟨Lc2, hQ2, l2, y2, z2⟩, st2⟩ := Jvm.LawKit.callS X1 hx (y := (⟨"java/util/Objects", "checkIndex", "(II)I"⟩ : MethodName)) hown (mvT hZ (hw _ (List.mem_of_getElem? (i := 96) rfl))) (mvT hZ (hw _ (List.mem_of_getElem? (i := 97) rfl))) (mvT hZ (hw _ (List.mem_of_getElem? (i := 98) rfl))) (mvT hZ (hw _ (List.mem_of_getElem? (i := 99) rfl))) (by decide) (backOf (W := 0) (rm17_44 l Z a0 hw []  h0 n0 Z0 ) hZ (hw _ (List.mem_of_getElem? (i := 99) rfl)) (hw _ (List.mem_of_getElem? (i := 98) rfl)) (by decide) (by decide)) (g := (mkF m 5 #[.val (.ref o1), .val (.int (2 : Int32))] [(.int (3 : Int32)), (.int (2 : Int32))])) rfl (by rw [hml]; rfl) (argsL := [(.int (2 : Int32)), (.int (3 : Int32))]) (rest := []) (lenOf pd_12 rfl) rfl (by show 2 * 0 + _ ≤ _; exact Nat.le_of_eq rfl) (hb hby d16_5) (fun _ _ => ⟨rfl, e1, (by decide : 0 + 0 ≤ _), (by decide : 0 + 0 ≤ _)⟩)
  dsimp only [Pt.U, Pt.locs, Pt.cells, Pt.slots] at X2 l2 y2 z2 st2 hQ2
  subst l2 y2 z2
  obtain ⟨rfl, N2q, e2q⟩ := hQ2
  have N2 := Fr.app N0 N2q
  refine step (T2.setTop (mkF m 8 #[.val (.ref o1), .val (.int (2 : Int32))] [(.int (2 : Int32))])) (fun t k => st2 t k) ?_
  refine step (T2.setTop (mkF m 9 #[.val (.ref o1), .val (.int (2 : Int32))] [])) (fun t k => XS.pop X2.here hx rfl (hb hby d16_8) rfl rfl k) ?_
  refine step (T2.setTop (mkF m 10 #[.val (.ref o1), .val (.int (2 : Int32))] [(.ref o1)])) (fun t k => XS.aloadN X2.here hx rfl (hb hby d16_9) rfl rfl k) ?_
  refine step (T2.setTop (mkF m 11 #[.val (.ref o1), .val (.int (2 : Int32))] [(.int (2 : Int32)), (.ref o1)])) (fun t k => XS.iloadN X2.here hx rfl (hb hby d16_10) rfl k) ?_
  obtain ⟨cq3, kq3, q3a, q3b, q3c⟩ := isOf hZ e2q A0
  obtain ⟨_, _, ⟨T3, L3, k3, n3⟩, -, X3, ⟨Lc3, hQ3, l3, y3, z3⟩, st3⟩ := X2.virtualBack hx (y := (⟨"java/util/ArrayList", "elementData", "(I)Ljava/lang/Object;"⟩ : MethodName)) (z := (⟨"java/util/ArrayList", "elementData", "(I)Ljava/lang/Object;"⟩ : MethodName)) hown (mvT hZ (hw _ (List.mem_of_getElem? (i := 104) rfl))) (mvT hZ (hw _ (List.mem_of_getElem? (i := 105) rfl))) (notFace_of_selects (args := #[]) (mvT hZ (hw _ (List.mem_of_getElem? (i := 107) rfl)))) (mvT hZ (hw _ (List.mem_of_getElem? (i := 107) rfl))) (mvT hZ (hw _ (List.mem_of_getElem? (i := 106) rfl))) (by decide) (backOf (W := 0) (rm19_46 l Z a0 hw [] o1 o2 kc1 o3 o4 o5 h0 n0 Z0 A0 A1 A3 O4 A5 A6 A7 gn_o1 ne_o1_o2 ne_o1_o3 ne_o1_o4 ne_o1_o5 gn_o2 ne_o2_o3 ne_o2_o4 ne_o2_o5 gn_o3 ne_o3_o4 ne_o3_o5 gn_o4 ne_o4_o5 gn_o5) hZ (hw _ (List.mem_of_getElem? (i := 108) rfl)) (hw _ (List.mem_of_getElem? (i := 28) rfl)) (by decide) (by decide)) q3a q3c (g := (mkF m 11 #[.val (.ref o1), .val (.int (2 : Int32))] [(.int (2 : Int32)), (.ref o1)])) rfl (by rw [hml]; rfl) (Steps.refl _) (argsL := [(.int (2 : Int32))]) (rest := []) (lenOf pd_5 rfl) rfl (by show 2 * 0 + _ ≤ _; exact Nat.le_of_eq rfl) (hb hby d16_11) (fun _ _ => ⟨rfl, e2q, (by decide : 0 + 0 ≤ _), (by decide : 0 + 0 ≤ _)⟩)
  dsimp only [Pt.U, Pt.locs, Pt.cells, Pt.slots] at X3 l3 y3 z3 st3 hQ3
  subst l3 y3 z3
  obtain ⟨rfl, N3q, e3q⟩ := hQ3
  have N3 := Fr.app N2 N3q
  refine step (T3.setTop (mkF m 14 #[.val (.ref o1), .val (.int (2 : Int32))] [(.ref o5)])) (fun t k => st3.trans k) ?_
  refine fin (v := some (.ref o5)) X3 (fun h => by cases h) ?_ (by decide) (by decide) (fun fs hr => X3.areturnOut hx rfl hret rfl (hb hby d16_14) hr)
  show Q16_43 Z o1 o2 kc1 o3 o4 o5 h0 n0 (some (.ref o5)) T3.heap _
  rw [e3q]
  exact ⟨rfl, N3, rfl⟩
theorem ef_0 (m : MethodId) (x0 : Int32) (x1 : Int32) (x2 : Int32) (x3 : Int32) : entryFrame m #[(.int x0), (.int x1), (.int x2), (.int x3)] maxLocals = mkF m 0 #[.val (.int x0), .val (.int x1), .val (.int x2), .val (.int x3), .unset, .unset, .unset, .unset, .unset, .unset] [] := by first | (simp [entryFrame, mkF, argsToLocals, Value.category, maxLocals]; done) | rfl
def Q0 (Z : State) (p0 p1 p2 p3 cs : Int32) (aD : Addr) (kD : ClassId) (h0 : Heap) (n0 : Nat) (v : Option Value) (h : Heap) (L : List Loc) : Prop := v = some (.int 1) ∧ Fr n0 L
set_option maxRecDepth 65536 in
set_option maxHeartbeats 40000000 in
theorem rm0 (l : Launch) (Z : State) (a0 : Array Value) (hw : ∀ d ∈ tables_1, d.before a0 Z = true) (ws : List Jvm.Cond) (p0 p1 p2 p3 cs : Int32) (aD : Addr) (kD : ClassId) (h0 : Heap) (n0 : Nat) (Z0 : n0 ≤ h0.size) (S_cs : Sta Z h0 "java/lang/String" "COMPACT_STRINGS" "Z" (.int cs)) (c_cs : ¬ (cs = (0 : Int32))) (S_aD : Sta Z h0 "java/util/ArrayList" "DEFAULTCAPACITY_EMPTY_ELEMENTDATA" "[Ljava/lang/Object;" (.ref aD)) (V_aD : Arv Z h0 aD kD (.object "java/lang/Object") (0 : Int32) [] .null) :
    MetFree l x (head1 (Jvm.Cond.code x code maxLocals ret :: ws) room_1) (fun a U => a = #[(.int p0), (.int p1), (.int p2), (.int p3)] ∧ Z.Warmed39 U.vm ∧ U.heap = h0) (fun _ _ _ _ _ => True) (fun _ U o U' => ∃ v L, o = .returned v ∧ Q0 Z p0 p1 p2 p3 cs aD kD h0 n0 v U'.heap L ∧ FrameEnd U o U' L room_1.cells room_1.slots) := by
  refine own_body (plainFor_of_name pn_0) ?_
  intro p e s m below meth c s₁ G hx hby hml hZ hown hnm hret X0 e0 step fin
  replace hown : s.vm.findClass "com/example/dibs/dibs/sketch/ItemsRequireBatchPinLaw" = some m.cls := hown
  replace hnm : meth.name = "law" := hnm
  replace hret : meth.sig.returnType = some .boolean := hret
  replace hml : c.maxLocals = 10 := hml
  have N0 := Fr.nil n0
  refine step (s₁.setTop (mkF m 0 #[.val (.int p0), .val (.int p1), .val (.int p2), .val (.int p3), .unset, .unset, .unset, .unset, .unset, .unset] [])) (fun t k => castTop (ef_0 m p0 p1 p2 p3) k) ?_
  refine step (s₁.setTop (mkF m 1 #[.val (.int p0), .val (.int p1), .val (.int p2), .val (.int p3), .unset, .unset, .unset, .unset, .unset, .unset] [(.int p0)])) (fun t k => XS.iloadN X0.here hx rfl (hb hby at_0) rfl k) ?_
  refine step (s₁.setTop (mkF m 2 #[.val (.int p0), .val (.int p1), .val (.int p2), .val (.int p3), .unset, .unset, .unset, .unset, .unset, .unset] [(.int (3 : Int32)), (.int p0)])) (fun t k => XS.iconst X0.here hx rfl (hb hby at_1) k) ?_
  refine step (s₁.setTop (mkF m 3 #[.val (.int p0), .val (.int p1), .val (.int p2), .val (.int p3), .unset, .unset, .unset, .unset, .unset, .unset] [(.int (p0 &&& (3 : Int32)))])) (fun t k => XS.iand X0.here hx rfl (hb hby at_2) rfl k) ?_
  generalize hkk : (p0 &&& (3 : Int32)) = kk
  refine step (s₁.setTop (mkF m 5 #[.val (.int p0), .val (.int p1), .val (.int p2), .val (.int p3), .val (.int kk), .unset, .unset, .unset, .unset, .unset] [])) (fun t k => XS.istore X0.here hx rfl (hb hby at_3) rfl (l' := #[.val (.int p0), .val (.int p1), .val (.int p2), .val (.int p3), .val (.int kk), .unset, .unset, .unset, .unset, .unset]) rfl k) ?_
  refine step (s₁.setTop (mkF m 6 #[.val (.int p0), .val (.int p1), .val (.int p2), .val (.int p3), .val (.int kk), .unset, .unset, .unset, .unset, .unset] [(.int p1)])) (fun t k => XS.iloadN X0.here hx rfl (hb hby at_5) rfl k) ?_
  refine step (s₁.setTop (mkF m 9 #[.val (.int p0), .val (.int p1), .val (.int p2), .val (.int p3), .val (.int kk), .unset, .unset, .unset, .unset, .unset] [(.int (255 : Int32)), (.int p1)])) (fun t k => XS.sipush X0.here hx rfl (hb hby at_6) k) ?_
  refine step (s₁.setTop (mkF m 10 #[.val (.int p0), .val (.int p1), .val (.int p2), .val (.int p3), .val (.int kk), .unset, .unset, .unset, .unset, .unset] [(.int (p1 &&& (255 : Int32)))])) (fun t k => XS.iand X0.here hx rfl (hb hby at_9) rfl k) ?_
  refine step (s₁.setTop (mkF m 11 #[.val (.int p0), .val (.int p1), .val (.int p2), .val (.int p3), .val (.int kk), .unset, .unset, .unset, .unset, .unset] [(.int ((p1 &&& (255 : Int32)).toUInt32.toUInt16.toUInt32.toInt32))])) (fun t k => XS.i2c X0.here hx rfl (hb hby at_10) rfl k) ?_
  generalize hc0 : ((p1 &&& (255 : Int32)).toUInt32.toUInt16.toUInt32.toInt32) = c0
  have le_c0 := own_255 _ _ hc0
  obtain ⟨_, _, ⟨T1, L1, k1, n1⟩, -, X1, ⟨Lc1, hQ1, l1, y1, z1⟩, st1⟩ := Jvm.LawKit.callS X0 hx (y := (⟨"java/lang/String", "valueOf", "(C)Ljava/lang/String;"⟩ : MethodName)) hown (mvT hZ (hw _ (List.mem_of_getElem? (i := 0) rfl))) (mvT hZ (hw _ (List.mem_of_getElem? (i := 1) rfl))) (mvT hZ (hw _ (List.mem_of_getElem? (i := 2) rfl))) (mvT hZ (hw _ (List.mem_of_getElem? (i := 3) rfl))) (by decide) (backOf (W := 0) (rm1_1 l Z a0 hw [] c0 cs aD kD h0 n0 Z0 S_cs S_aD V_aD le_c0 c_cs) hZ (hw _ (List.mem_of_getElem? (i := 3) rfl)) (hw _ (List.mem_of_getElem? (i := 2) rfl)) (by decide) (by decide)) (g := (mkF m 11 #[.val (.int p0), .val (.int p1), .val (.int p2), .val (.int p3), .val (.int kk), .unset, .unset, .unset, .unset, .unset] [(.int c0)])) rfl (by rw [hml]; rfl) (argsL := [(.int c0)]) (rest := []) (lenOf pd_0 rfl) rfl (by show 2 * 0 + _ ≤ _; exact Nat.le_of_eq rfl) (hb hby at_11) (fun _ _ => ⟨rfl, e0, (by decide : 0 + 2 ≤ _), (by decide : 0 + 5 ≤ _)⟩)
  dsimp only [Pt.U, Pt.locs, Pt.cells, Pt.slots] at X1 l1 y1 z1 st1 hQ1
  subst l1 y1 z1
  obtain ⟨h1, e1⟩ : ∃ z, T1.heap = z := ⟨_, rfl⟩
  rw [e1] at hQ1
  obtain ⟨b4_1, b1_5_1, k1_5_1, rfl, N1q, K1q, sz_b4_1, sz_b1_5_1, ne_b1_5_b4_1, q0_1, q1_1, q2_1, q3_1⟩ := hQ1
  have N1 := Fr.app N0 N1q
  have lt1_aD := V_aD.lt
  have ne_aD_b4_1 : aD ≠ b4_1 := Nat.ne_of_lt (Nat.lt_of_lt_of_le lt1_aD sz_b4_1)
  have gn_b4_1 : n0 ≤ b4_1 := Nat.le_trans Z0 sz_b4_1
  have ne_aD_b1_5_1 : aD ≠ b1_5_1 := Nat.ne_of_lt (Nat.lt_of_lt_of_le lt1_aD sz_b1_5_1)
  have gn_b1_5_1 : n0 ≤ b1_5_1 := Nat.le_trans Z0 sz_b1_5_1
  have K1 : Keep h0 h1 [] := (Keep.refl h0 []).trans K1q all0
  have f2 := own_staK S_cs K1q all0
  have f3 := own_staK S_aD K1q all0
  refine step (T1.setTop (mkF m 14 #[.val (.int p0), .val (.int p1), .val (.int p2), .val (.int p3), .val (.int kk), .unset, .unset, .unset, .unset, .unset] [(.ref b4_1)])) (fun t k => st1 t k) ?_
  refine step (T1.setTop (mkF m 16 #[.val (.int p0), .val (.int p1), .val (.int p2), .val (.int p3), .val (.int kk), .val (.ref b4_1), .unset, .unset, .unset, .unset] [])) (fun t k => XS.astore X1.here hx rfl (hb hby at_14) rfl rfl (l' := #[.val (.int p0), .val (.int p1), .val (.int p2), .val (.int p3), .val (.int kk), .val (.ref b4_1), .unset, .unset, .unset, .unset]) rfl k) ?_
  refine step (T1.setTop (mkF m 17 #[.val (.int p0), .val (.int p1), .val (.int p2), .val (.int p3), .val (.int kk), .val (.ref b4_1), .unset, .unset, .unset, .unset] [(.int p2)])) (fun t k => XS.iloadN X1.here hx rfl (hb hby at_16) rfl k) ?_
  refine step (T1.setTop (mkF m 20 #[.val (.int p0), .val (.int p1), .val (.int p2), .val (.int p3), .val (.int kk), .val (.ref b4_1), .unset, .unset, .unset, .unset] [(.int (255 : Int32)), (.int p2)])) (fun t k => XS.sipush X1.here hx rfl (hb hby at_17) k) ?_
  refine step (T1.setTop (mkF m 21 #[.val (.int p0), .val (.int p1), .val (.int p2), .val (.int p3), .val (.int kk), .val (.ref b4_1), .unset, .unset, .unset, .unset] [(.int (p2 &&& (255 : Int32)))])) (fun t k => XS.iand X1.here hx rfl (hb hby at_20) rfl k) ?_
  refine step (T1.setTop (mkF m 22 #[.val (.int p0), .val (.int p1), .val (.int p2), .val (.int p3), .val (.int kk), .val (.ref b4_1), .unset, .unset, .unset, .unset] [(.int ((p2 &&& (255 : Int32)).toUInt32.toUInt16.toUInt32.toInt32))])) (fun t k => XS.i2c X1.here hx rfl (hb hby at_21) rfl k) ?_
  generalize hc1 : ((p2 &&& (255 : Int32)).toUInt32.toUInt16.toUInt32.toInt32) = c1
  have le_c1 := own_255 _ _ hc1
  have f4 := (V_aD.keep K1q nin0)
  obtain ⟨_, _, ⟨T5, L5, k5, n5⟩, -, X5, ⟨Lc5, hQ5, l5, y5, z5⟩, st5⟩ := Jvm.LawKit.callS X1 hx (y := (⟨"java/lang/String", "valueOf", "(C)Ljava/lang/String;"⟩ : MethodName)) hown (mvT hZ (hw _ (List.mem_of_getElem? (i := 0) rfl))) (mvT hZ (hw _ (List.mem_of_getElem? (i := 1) rfl))) (mvT hZ (hw _ (List.mem_of_getElem? (i := 2) rfl))) (mvT hZ (hw _ (List.mem_of_getElem? (i := 3) rfl))) (by decide) (backOf (W := 0) (rm1_1 l Z a0 hw [] c1 cs aD kD h1 n0 (Nat.le_trans Z0 K1.1) f2 f3 f4 le_c1 c_cs) hZ (hw _ (List.mem_of_getElem? (i := 3) rfl)) (hw _ (List.mem_of_getElem? (i := 2) rfl)) (by decide) (by decide)) (g := (mkF m 22 #[.val (.int p0), .val (.int p1), .val (.int p2), .val (.int p3), .val (.int kk), .val (.ref b4_1), .unset, .unset, .unset, .unset] [(.int c1)])) rfl (by rw [hml]; rfl) (argsL := [(.int c1)]) (rest := []) (lenOf pd_0 rfl) rfl (by show 2 * 0 + _ ≤ _; exact Nat.le_of_eq rfl) (hb hby at_22) (fun _ _ => ⟨rfl, e1, (by decide : 2 + 2 ≤ _), (by decide : 5 + 5 ≤ _)⟩)
  dsimp only [Pt.U, Pt.locs, Pt.cells, Pt.slots] at X5 l5 y5 z5 st5 hQ5
  subst l5 y5 z5
  obtain ⟨h5, e5⟩ : ∃ z, T5.heap = z := ⟨_, rfl⟩
  rw [e5] at hQ5
  obtain ⟨b4_5, b1_5_5, k1_5_5, rfl, N5q, K5q, sz_b4_5, sz_b1_5_5, ne_b1_5_b4_5, q0_5, q1_5, q2_5, q3_5⟩ := hQ5
  have N5 := Fr.app N1 N5q
  have lt5_aD := f4.lt
  have lt5_b4_1 := q0_1.lt
  have lt5_b1_5_1 := q3_1.lt
  have ne_aD_b4_5 : aD ≠ b4_5 := Nat.ne_of_lt (Nat.lt_of_lt_of_le lt5_aD sz_b4_5)
  have ne_b4_1_b4_5 : b4_1 ≠ b4_5 := Nat.ne_of_lt (Nat.lt_of_lt_of_le lt5_b4_1 sz_b4_5)
  have ne_b1_5_1_b4_5 : b1_5_1 ≠ b4_5 := Nat.ne_of_lt (Nat.lt_of_lt_of_le lt5_b1_5_1 sz_b4_5)
  have gn_b4_5 : n0 ≤ b4_5 := Nat.le_trans (Nat.le_trans Z0 K1.1) sz_b4_5
  have sz_b4_5' := Nat.le_trans K1.1 sz_b4_5
  replace sz_b4_5 := sz_b4_5'
  have ne_aD_b1_5_5 : aD ≠ b1_5_5 := Nat.ne_of_lt (Nat.lt_of_lt_of_le lt5_aD sz_b1_5_5)
  have ne_b4_1_b1_5_5 : b4_1 ≠ b1_5_5 := Nat.ne_of_lt (Nat.lt_of_lt_of_le lt5_b4_1 sz_b1_5_5)
  have ne_b1_5_1_b1_5_5 : b1_5_1 ≠ b1_5_5 := Nat.ne_of_lt (Nat.lt_of_lt_of_le lt5_b1_5_1 sz_b1_5_5)
  have gn_b1_5_5 : n0 ≤ b1_5_5 := Nat.le_trans (Nat.le_trans Z0 K1.1) sz_b1_5_5
  have sz_b1_5_5' := Nat.le_trans K1.1 sz_b1_5_5
  replace sz_b1_5_5 := sz_b1_5_5'
  have K5 : Keep h0 h5 [] := K1.trans K5q all0
  have f6 := own_staK f2 K5q all0
  have f7 := own_staK f3 K5q all0
  refine step (T5.setTop (mkF m 25 #[.val (.int p0), .val (.int p1), .val (.int p2), .val (.int p3), .val (.int kk), .val (.ref b4_1), .unset, .unset, .unset, .unset] [(.ref b4_5)])) (fun t k => st5 t k) ?_
  refine step (T5.setTop (mkF m 27 #[.val (.int p0), .val (.int p1), .val (.int p2), .val (.int p3), .val (.int kk), .val (.ref b4_1), .val (.ref b4_5), .unset, .unset, .unset] [])) (fun t k => XS.astore X5.here hx rfl (hb hby at_25) rfl rfl (l' := #[.val (.int p0), .val (.int p1), .val (.int p2), .val (.int p3), .val (.int kk), .val (.ref b4_1), .val (.ref b4_5), .unset, .unset, .unset]) rfl k) ?_
  refine step (T5.setTop (mkF m 28 #[.val (.int p0), .val (.int p1), .val (.int p2), .val (.int p3), .val (.int kk), .val (.ref b4_1), .val (.ref b4_5), .unset, .unset, .unset] [(.int p3)])) (fun t k => XS.iloadN X5.here hx rfl (hb hby at_27) rfl k) ?_
  refine step (T5.setTop (mkF m 31 #[.val (.int p0), .val (.int p1), .val (.int p2), .val (.int p3), .val (.int kk), .val (.ref b4_1), .val (.ref b4_5), .unset, .unset, .unset] [(.int (255 : Int32)), (.int p3)])) (fun t k => XS.sipush X5.here hx rfl (hb hby at_28) k) ?_
  refine step (T5.setTop (mkF m 32 #[.val (.int p0), .val (.int p1), .val (.int p2), .val (.int p3), .val (.int kk), .val (.ref b4_1), .val (.ref b4_5), .unset, .unset, .unset] [(.int (p3 &&& (255 : Int32)))])) (fun t k => XS.iand X5.here hx rfl (hb hby at_31) rfl k) ?_
  refine step (T5.setTop (mkF m 33 #[.val (.int p0), .val (.int p1), .val (.int p2), .val (.int p3), .val (.int kk), .val (.ref b4_1), .val (.ref b4_5), .unset, .unset, .unset] [(.int ((p3 &&& (255 : Int32)).toUInt32.toUInt16.toUInt32.toInt32))])) (fun t k => XS.i2c X5.here hx rfl (hb hby at_32) rfl k) ?_
  generalize hc2 : ((p3 &&& (255 : Int32)).toUInt32.toUInt16.toUInt32.toInt32) = c2
  have le_c2 := own_255 _ _ hc2
  have f8 := (f4.keep K5q nin0)
  obtain ⟨_, _, ⟨T9, L9, k9, n9⟩, -, X9, ⟨Lc9, hQ9, l9, y9, z9⟩, st9⟩ := Jvm.LawKit.callS X5 hx (y := (⟨"java/lang/String", "valueOf", "(C)Ljava/lang/String;"⟩ : MethodName)) hown (mvT hZ (hw _ (List.mem_of_getElem? (i := 0) rfl))) (mvT hZ (hw _ (List.mem_of_getElem? (i := 1) rfl))) (mvT hZ (hw _ (List.mem_of_getElem? (i := 2) rfl))) (mvT hZ (hw _ (List.mem_of_getElem? (i := 3) rfl))) (by decide) (backOf (W := 0) (rm1_1 l Z a0 hw [] c2 cs aD kD h5 n0 (Nat.le_trans Z0 K5.1) f6 f7 f8 le_c2 c_cs) hZ (hw _ (List.mem_of_getElem? (i := 3) rfl)) (hw _ (List.mem_of_getElem? (i := 2) rfl)) (by decide) (by decide)) (g := (mkF m 33 #[.val (.int p0), .val (.int p1), .val (.int p2), .val (.int p3), .val (.int kk), .val (.ref b4_1), .val (.ref b4_5), .unset, .unset, .unset] [(.int c2)])) rfl (by rw [hml]; rfl) (argsL := [(.int c2)]) (rest := []) (lenOf pd_0 rfl) rfl (by show 2 * 0 + _ ≤ _; exact Nat.le_of_eq rfl) (hb hby at_33) (fun _ _ => ⟨rfl, e5, (by decide : 4 + 2 ≤ _), (by decide : 10 + 5 ≤ _)⟩)
  dsimp only [Pt.U, Pt.locs, Pt.cells, Pt.slots] at X9 l9 y9 z9 st9 hQ9
  subst l9 y9 z9
  obtain ⟨h9, e9⟩ : ∃ z, T9.heap = z := ⟨_, rfl⟩
  rw [e9] at hQ9
  obtain ⟨b4_9, b1_5_9, k1_5_9, rfl, N9q, K9q, sz_b4_9, sz_b1_5_9, ne_b1_5_b4_9, q0_9, q1_9, q2_9, q3_9⟩ := hQ9
  have N9 := Fr.app N5 N9q
  have lt9_aD := f8.lt
  have f10 := (q0_1.keep K5q)
  have lt9_b4_1 := f10.lt
  have f11 := (q3_1.keep K5q nin0)
  have lt9_b1_5_1 := f11.lt
  have lt9_b4_5 := q0_5.lt
  have lt9_b1_5_5 := q3_5.lt
  have ne_aD_b4_9 : aD ≠ b4_9 := Nat.ne_of_lt (Nat.lt_of_lt_of_le lt9_aD sz_b4_9)
  have ne_b4_1_b4_9 : b4_1 ≠ b4_9 := Nat.ne_of_lt (Nat.lt_of_lt_of_le lt9_b4_1 sz_b4_9)
  have ne_b1_5_1_b4_9 : b1_5_1 ≠ b4_9 := Nat.ne_of_lt (Nat.lt_of_lt_of_le lt9_b1_5_1 sz_b4_9)
  have ne_b4_5_b4_9 : b4_5 ≠ b4_9 := Nat.ne_of_lt (Nat.lt_of_lt_of_le lt9_b4_5 sz_b4_9)
  have ne_b1_5_5_b4_9 : b1_5_5 ≠ b4_9 := Nat.ne_of_lt (Nat.lt_of_lt_of_le lt9_b1_5_5 sz_b4_9)
  have gn_b4_9 : n0 ≤ b4_9 := Nat.le_trans (Nat.le_trans Z0 K5.1) sz_b4_9
  have sz_b4_9' := Nat.le_trans K5.1 sz_b4_9
  replace sz_b4_9 := sz_b4_9'
  have ne_aD_b1_5_9 : aD ≠ b1_5_9 := Nat.ne_of_lt (Nat.lt_of_lt_of_le lt9_aD sz_b1_5_9)
  have ne_b4_1_b1_5_9 : b4_1 ≠ b1_5_9 := Nat.ne_of_lt (Nat.lt_of_lt_of_le lt9_b4_1 sz_b1_5_9)
  have ne_b1_5_1_b1_5_9 : b1_5_1 ≠ b1_5_9 := Nat.ne_of_lt (Nat.lt_of_lt_of_le lt9_b1_5_1 sz_b1_5_9)
  have ne_b4_5_b1_5_9 : b4_5 ≠ b1_5_9 := Nat.ne_of_lt (Nat.lt_of_lt_of_le lt9_b4_5 sz_b1_5_9)
  have ne_b1_5_5_b1_5_9 : b1_5_5 ≠ b1_5_9 := Nat.ne_of_lt (Nat.lt_of_lt_of_le lt9_b1_5_5 sz_b1_5_9)
  have gn_b1_5_9 : n0 ≤ b1_5_9 := Nat.le_trans (Nat.le_trans Z0 K5.1) sz_b1_5_9
  have sz_b1_5_9' := Nat.le_trans K5.1 sz_b1_5_9
  replace sz_b1_5_9 := sz_b1_5_9'
  have K9 : Keep h0 h9 [] := K5.trans K9q all0
  have f12 := own_staK f6 K9q all0
  have f13 := own_staK f7 K9q all0
  refine step (T9.setTop (mkF m 36 #[.val (.int p0), .val (.int p1), .val (.int p2), .val (.int p3), .val (.int kk), .val (.ref b4_1), .val (.ref b4_5), .unset, .unset, .unset] [(.ref b4_9)])) (fun t k => st9 t k) ?_
  refine step (T9.setTop (mkF m 38 #[.val (.int p0), .val (.int p1), .val (.int p2), .val (.int p3), .val (.int kk), .val (.ref b4_1), .val (.ref b4_5), .val (.ref b4_9), .unset, .unset] [])) (fun t k => XS.astore X9.here hx rfl (hb hby at_36) rfl rfl (l' := #[.val (.int p0), .val (.int p1), .val (.int p2), .val (.int p3), .val (.int kk), .val (.ref b4_1), .val (.ref b4_5), .val (.ref b4_9), .unset, .unset]) rfl k) ?_
  obtain ⟨T14, h14, X14, e14, E14, A14, D14, -, st14⟩ := newO X9 hx hZ hown (hw _ (List.mem_of_getElem? (i := 26) rfl)) (hw _ (List.mem_of_getElem? (i := 27) rfl)) (hw _ (List.mem_of_getElem? (i := 28) rfl)) e9 (g := (mkF m 38 #[.val (.int p0), .val (.int p1), .val (.int p2), .val (.int p3), .val (.int kk), .val (.ref b4_1), .val (.ref b4_5), .val (.ref b4_9), .unset, .unset] [])) rfl (hb hby at_38) (by decide) (by decide)
  obtain ⟨b14, g14⟩ : ∃ z, z = h9.size := ⟨_, rfl⟩
  rw [← g14] at A14 D14 st14
  have f15 := (f8.keep K9q nin0)
  have ne_aD_b14 : aD ≠ b14 := Nat.ne_of_lt (Nat.lt_of_lt_of_le f15.lt (Nat.le_of_eq g14.symm))
  have f16 := (f10.keep K9q)
  have ne_b4_1_b14 : b4_1 ≠ b14 := Nat.ne_of_lt (Nat.lt_of_lt_of_le f16.lt (Nat.le_of_eq g14.symm))
  have f17 := (f11.keep K9q nin0)
  have ne_b1_5_1_b14 : b1_5_1 ≠ b14 := Nat.ne_of_lt (Nat.lt_of_lt_of_le f17.lt (Nat.le_of_eq g14.symm))
  have f18 := (q0_5.keep K9q)
  have ne_b4_5_b14 : b4_5 ≠ b14 := Nat.ne_of_lt (Nat.lt_of_lt_of_le f18.lt (Nat.le_of_eq g14.symm))
  have f19 := (q3_5.keep K9q nin0)
  have ne_b1_5_5_b14 : b1_5_5 ≠ b14 := Nat.ne_of_lt (Nat.lt_of_lt_of_le f19.lt (Nat.le_of_eq g14.symm))
  have ne_b4_9_b14 : b4_9 ≠ b14 := Nat.ne_of_lt (Nat.lt_of_lt_of_le q0_9.lt (Nat.le_of_eq g14.symm))
  have ne_b1_5_9_b14 : b1_5_9 ≠ b14 := Nat.ne_of_lt (Nat.lt_of_lt_of_le q3_9.lt (Nat.le_of_eq g14.symm))
  have gn_b14 : n0 ≤ b14 := Nat.le_trans (Nat.le_trans Z0 K9.1) (Nat.le_of_eq g14.symm)
  have sz_b14 : h0.size ≤ b14 := Nat.le_trans K9.1 (Nat.le_of_eq g14.symm)
  have K14 : Keep h0 h14 [] := K9.ext E14
  have F_modCount_b14 : Fld Z h14 b14 "java/util/AbstractList" "modCount" "I" (.int (0 : Int32)) := D14 (Or.inl (hw _ (List.mem_of_getElem? (i := 46) rfl))) (ty := .int) (by decide)
  have F_elementData_b14 : Fld Z h14 b14 "java/util/ArrayList" "elementData" "[Ljava/lang/Object;" .null := D14 (Or.inl (hw _ (List.mem_of_getElem? (i := 49) rfl))) (ty := (.array (.object "java/lang/Object"))) (by decide)
  have F_size_b14 : Fld Z h14 b14 "java/util/ArrayList" "size" "I" (.int (0 : Int32)) := D14 (Or.inl (hw _ (List.mem_of_getElem? (i := 61) rfl))) (ty := .int) (by decide)
  refine step (T14.setTop (mkF m 41 #[.val (.int p0), .val (.int p1), .val (.int p2), .val (.int p3), .val (.int kk), .val (.ref b4_1), .val (.ref b4_5), .val (.ref b4_9), .unset, .unset] [(.ref b14)])) (fun t k => st14 t k) ?_
  refine step (T14.setTop (mkF m 42 #[.val (.int p0), .val (.int p1), .val (.int p2), .val (.int p3), .val (.int kk), .val (.ref b4_1), .val (.ref b4_5), .val (.ref b4_9), .unset, .unset] [(.ref b14), (.ref b14)])) (fun t k => XS.dup X14.here hx rfl (hb hby at_41) rfl rfl k) ?_
  have f20 := (f13.ext E14)
  obtain ⟨_, _, ⟨T21, L21, k21, n21⟩, -, X21, ⟨Lc21, hQ21, l21, y21, z21⟩, st21⟩ := X14.specialBack hx (y := (⟨"java/util/ArrayList", "<init>", "()V"⟩ : MethodName)) rfl hown (mvT hZ (hw _ (List.mem_of_getElem? (i := 29) rfl))) (mvT hZ (hw _ (List.mem_of_getElem? (i := 30) rfl))) (mvT hZ (hw _ (List.mem_of_getElem? (i := 31) rfl))) (by decide) (backOf (W := 1) (rm6_5 l Z a0 hw [] b14 aD h14 n0 (Nat.le_trans Z0 K14.1) f20 A14 F_elementData_b14 F_modCount_b14 F_size_b14 gn_b14 (Ne.symm ne_aD_b14)) hZ (hw _ (List.mem_of_getElem? (i := 31) rfl)) (hw _ (List.mem_of_getElem? (i := 28) rfl)) (by decide) (by decide)) (g := (mkF m 42 #[.val (.int p0), .val (.int p1), .val (.int p2), .val (.int p3), .val (.int kk), .val (.ref b4_1), .val (.ref b4_5), .val (.ref b4_9), .unset, .unset] [(.ref b14), (.ref b14)])) rfl (by rw [hml]; rfl) (Steps.refl _) (a := b14) (argsL := []) (rest := [(.ref b14)]) (lenOf pd_1 rfl) rfl (by show 2 * 0 + _ ≤ _; exact Nat.le_of_eq rfl) (hb hby at_42) (fun _ _ => ⟨rfl, e14, (by decide : 7 + 0 ≤ _), (by decide : 18 + 0 ≤ _)⟩)
  dsimp only [Pt.U, Pt.locs, Pt.cells, Pt.slots] at X21 l21 y21 z21 st21 hQ21
  subst l21 y21 z21
  obtain ⟨h21, e21⟩ : ∃ z, T21.heap = z := ⟨_, rfl⟩
  rw [e21] at hQ21
  obtain ⟨rfl, N21q, K21q, q0_21, q1_21, q2_21⟩ := hQ21
  have N21 := Fr.app N9 N21q
  have f22 := (f12.ext E14)
  have K21 : Keep h0 h21 [] := K14.trans K21q (allS (Or.inr sz_b14) all0)
  have f23 := own_staK f22 K21q (allS (own_exaP A14) all0)
  have f24 := own_staK f20 K21q (allS (own_exaP A14) all0)
  refine step (T21.setTop (mkF m 45 #[.val (.int p0), .val (.int p1), .val (.int p2), .val (.int p3), .val (.int kk), .val (.ref b4_1), .val (.ref b4_5), .val (.ref b4_9), .unset, .unset] [(.ref b14)])) (fun t k => st21.trans k) ?_
  refine step (T21.setTop (mkF m 47 #[.val (.int p0), .val (.int p1), .val (.int p2), .val (.int p3), .val (.int kk), .val (.ref b4_1), .val (.ref b4_5), .val (.ref b4_9), .val (.ref b14), .unset] [])) (fun t k => XS.astore X21.here hx rfl (hb hby at_45) rfl rfl (l' := #[.val (.int p0), .val (.int p1), .val (.int p2), .val (.int p3), .val (.int kk), .val (.ref b4_1), .val (.ref b4_5), .val (.ref b4_9), .val (.ref b14), .unset]) rfl k) ?_
  have hcase := own_and3 p0
  rw [hkk] at hcase
  rcases hcase with rfl | rfl | rfl | rfl
  · -- kk = 0
    show G (T21.setTop (mkF m 47 #[.val (.int p0), .val (.int p1), .val (.int p2), .val (.int p3), .val (.int (0 : Int32)), .val (.ref b4_1), .val (.ref b4_5), .val (.ref b4_9), .val (.ref b14), .unset] []))
    refine step (T21.setTop (mkF m 49 #[.val (.int p0), .val (.int p1), .val (.int p2), .val (.int p3), .val (.int (0 : Int32)), .val (.ref b4_1), .val (.ref b4_5), .val (.ref b4_9), .val (.ref b14), .unset] [(.int (0 : Int32))])) (fun t k => XS.iload X21.here hx rfl (hb hby at_47) rfl k) ?_
    refine step (T21.setTop (mkF m 60 #[.val (.int p0), .val (.int p1), .val (.int p2), .val (.int p3), .val (.int (0 : Int32)), .val (.ref b4_1), .val (.ref b4_5), .val (.ref b4_9), .val (.ref b14), .unset] [])) (fun t k => XS.ifYes X21.here hx rfl (pc0 := 49) (pc' := 60) rfl (hb hby at_49) rfl ((if0 _ _).trans (flt (by decide : ¬ ((0 : Int32) < (0 : Int32)))).2.2.2) (by decide) (by decide) k) ?_
    refine step (T21.setTop (mkF m 62 #[.val (.int p0), .val (.int p1), .val (.int p2), .val (.int p3), .val (.int (0 : Int32)), .val (.ref b4_1), .val (.ref b4_5), .val (.ref b4_9), .val (.ref b14), .unset] [(.int (0 : Int32))])) (fun t k => XS.iload X21.here hx rfl (hb hby at_60) rfl k) ?_
    refine step (T21.setTop (mkF m 63 #[.val (.int p0), .val (.int p1), .val (.int p2), .val (.int p3), .val (.int (0 : Int32)), .val (.ref b4_1), .val (.ref b4_5), .val (.ref b4_9), .val (.ref b14), .unset] [(.int (1 : Int32)), (.int (0 : Int32))])) (fun t k => XS.iconst X21.here hx rfl (hb hby at_62) k) ?_
    refine step (T21.setTop (mkF m 74 #[.val (.int p0), .val (.int p1), .val (.int p2), .val (.int p3), .val (.int (0 : Int32)), .val (.ref b4_1), .val (.ref b4_5), .val (.ref b4_9), .val (.ref b14), .unset] [])) (fun t k => XS.icmpYes X21.here hx rfl (pc0 := 63) (pc' := 74) rfl (hb hby at_63) rfl (flt (by decide : ¬ ((1 : Int32) < (0 : Int32)))).2.2.2 (by decide) (by decide) k) ?_
    refine step (T21.setTop (mkF m 76 #[.val (.int p0), .val (.int p1), .val (.int p2), .val (.int p3), .val (.int (0 : Int32)), .val (.ref b4_1), .val (.ref b4_5), .val (.ref b4_9), .val (.ref b14), .unset] [(.int (0 : Int32))])) (fun t k => XS.iload X21.here hx rfl (hb hby at_74) rfl k) ?_
    refine step (T21.setTop (mkF m 77 #[.val (.int p0), .val (.int p1), .val (.int p2), .val (.int p3), .val (.int (0 : Int32)), .val (.ref b4_1), .val (.ref b4_5), .val (.ref b4_9), .val (.ref b14), .unset] [(.int (2 : Int32)), (.int (0 : Int32))])) (fun t k => XS.iconst X21.here hx rfl (hb hby at_76) k) ?_
    refine step (T21.setTop (mkF m 88 #[.val (.int p0), .val (.int p1), .val (.int p2), .val (.int p3), .val (.int (0 : Int32)), .val (.ref b4_1), .val (.ref b4_5), .val (.ref b4_9), .val (.ref b14), .unset] [])) (fun t k => XS.icmpYes X21.here hx rfl (pc0 := 77) (pc' := 88) rfl (hb hby at_77) rfl (flt (by decide : ¬ ((2 : Int32) < (0 : Int32)))).2.2.2 (by decide) (by decide) k) ?_
    refine step (T21.setTop (mkF m 90 #[.val (.int p0), .val (.int p1), .val (.int p2), .val (.int p3), .val (.int (0 : Int32)), .val (.ref b4_1), .val (.ref b4_5), .val (.ref b4_9), .val (.ref b14), .unset] [(.ref b14)])) (fun t k => XS.aload X21.here hx rfl (hb hby at_88) rfl rfl k) ?_
    have f25 := (A14.keep K21q)
    obtain ⟨_, _, ⟨T26, L26, k26, n26⟩, -, X26, ⟨Lc26, hQ26, l26, y26, z26⟩, st26⟩ := Jvm.LawKit.callS X21 hx (y := (⟨"com/example/dibs/dibs/sketch/Items", "requireBatch", "(Ljava/util/Collection;)Ljava/util/Collection;"⟩ : MethodName)) hown (mvT hZ (hw _ (List.mem_of_getElem? (i := 50) rfl))) (mvT hZ (hw _ (List.mem_of_getElem? (i := 51) rfl))) (mvT hZ (hw _ (List.mem_of_getElem? (i := 52) rfl))) (mvT hZ (hw _ (List.mem_of_getElem? (i := 53) rfl))) (by decide) (backOf (W := 0) (rm9_8 l Z a0 hw [] b14 h21 n0 (Nat.le_trans Z0 K21.1) f25 gn_b14) hZ (hw _ (List.mem_of_getElem? (i := 53) rfl)) (hw _ (List.mem_of_getElem? (i := 52) rfl)) (by decide) (by decide)) (g := (mkF m 90 #[.val (.int p0), .val (.int p1), .val (.int p2), .val (.int p3), .val (.int (0 : Int32)), .val (.ref b4_1), .val (.ref b4_5), .val (.ref b4_9), .val (.ref b14), .unset] [(.ref b14)])) rfl (by rw [hml]; rfl) (argsL := [(.ref b14)]) (rest := []) (lenOf pd_3 rfl) rfl (by show 2 * 0 + _ ≤ _; exact Nat.le_of_eq rfl) (hb hby at_90) (fun _ _ => ⟨rfl, e21, (by decide : 7 + 0 ≤ _), (by decide : 18 + 0 ≤ _)⟩)
    dsimp only [Pt.U, Pt.locs, Pt.cells, Pt.slots] at X26 l26 y26 z26 st26 hQ26
    subst l26 y26 z26
    obtain ⟨rfl, N26q, e26q⟩ := hQ26
    have N26 := Fr.app N21 N26q
    refine step (T26.setTop (mkF m 93 #[.val (.int p0), .val (.int p1), .val (.int p2), .val (.int p3), .val (.int (0 : Int32)), .val (.ref b4_1), .val (.ref b4_5), .val (.ref b4_9), .val (.ref b14), .unset] [(.ref b14)])) (fun t k => st26 t k) ?_
    obtain ⟨T27, X27, e27, st27⟩ := castY X26 hx hZ hown (hw _ (List.mem_of_getElem? (i := 26) rfl)) e26q (Ins.self f25) (g := (mkF m 93 #[.val (.int p0), .val (.int p1), .val (.int p2), .val (.int p3), .val (.int (0 : Int32)), .val (.ref b4_1), .val (.ref b4_5), .val (.ref b4_9), .val (.ref b14), .unset] [(.ref b14)])) rfl rfl (hb hby at_93)
    refine step (T27.setTop (mkF m 96 #[.val (.int p0), .val (.int p1), .val (.int p2), .val (.int p3), .val (.int (0 : Int32)), .val (.ref b4_1), .val (.ref b4_5), .val (.ref b4_9), .val (.ref b14), .unset] [(.ref b14)])) (fun t k => st27 t k) ?_
    refine step (T27.setTop (mkF m 98 #[.val (.int p0), .val (.int p1), .val (.int p2), .val (.int p3), .val (.int (0 : Int32)), .val (.ref b4_1), .val (.ref b4_5), .val (.ref b4_9), .val (.ref b14), .val (.ref b14)] [])) (fun t k => XS.astore X27.here hx rfl (hb hby at_96) rfl rfl (l' := #[.val (.int p0), .val (.int p1), .val (.int p2), .val (.int p3), .val (.int (0 : Int32)), .val (.ref b4_1), .val (.ref b4_5), .val (.ref b4_9), .val (.ref b14), .val (.ref b14)]) rfl k) ?_
    refine step (T27.setTop (mkF m 100 #[.val (.int p0), .val (.int p1), .val (.int p2), .val (.int p3), .val (.int (0 : Int32)), .val (.ref b4_1), .val (.ref b4_5), .val (.ref b4_9), .val (.ref b14), .val (.ref b14)] [(.ref b14)])) (fun t k => XS.aload X27.here hx rfl (hb hby at_98) rfl rfl k) ?_
    refine step (T27.setTop (mkF m 102 #[.val (.int p0), .val (.int p1), .val (.int p2), .val (.int p3), .val (.int (0 : Int32)), .val (.ref b4_1), .val (.ref b4_5), .val (.ref b4_9), .val (.ref b14), .val (.ref b14)] [(.ref b14), (.ref b14)])) (fun t k => XS.aload X27.here hx rfl (hb hby at_100) rfl rfl k) ?_
    refine step (T27.setTop (mkF m 107 #[.val (.int p0), .val (.int p1), .val (.int p2), .val (.int p3), .val (.int (0 : Int32)), .val (.ref b4_1), .val (.ref b4_5), .val (.ref b4_9), .val (.ref b14), .val (.ref b14)] [])) (fun t k => Jvm.RoadKit.acmp (g := (mkF m 102 #[.val (.int p0), .val (.int p1), .val (.int p2), .val (.int p3), .val (.int (0 : Int32)), .val (.ref b4_1), .val (.ref b4_5), .val (.ref b4_9), .val (.ref b14), .val (.ref b14)] [(.ref b14), (.ref b14)])) X27 hx rfl rfl rfl (pc0 := 102) (pc' := 107) (same := true) rfl (hb hby at_102) rfl (decide_eq_true rfl) (by decide) (by decide) k) ?_
    refine step (T27.setTop (mkF m 109 #[.val (.int p0), .val (.int p1), .val (.int p2), .val (.int p3), .val (.int (0 : Int32)), .val (.ref b4_1), .val (.ref b4_5), .val (.ref b4_9), .val (.ref b14), .val (.ref b14)] [(.ref b14)])) (fun t k => XS.aload X27.here hx rfl (hb hby at_107) rfl rfl k) ?_
    obtain ⟨cq28, kq28, q28a, q28b, q28c⟩ := isOf hZ e27 f25
    obtain ⟨_, _, ⟨T28, L28, k28, n28⟩, -, X28, ⟨Lc28, hQ28, l28, y28, z28⟩, st28⟩ := X27.virtualBack hx (y := (⟨"java/util/ArrayList", "size", "()I"⟩ : MethodName)) (z := (⟨"java/util/ArrayList", "size", "()I"⟩ : MethodName)) hown (mvT hZ (hw _ (List.mem_of_getElem? (i := 55) rfl))) (mvT hZ (hw _ (List.mem_of_getElem? (i := 56) rfl))) (notFace_of_selects (args := #[]) (mvT hZ (hw _ (List.mem_of_getElem? (i := 58) rfl)))) (mvT hZ (hw _ (List.mem_of_getElem? (i := 58) rfl))) (mvT hZ (hw _ (List.mem_of_getElem? (i := 57) rfl))) (by decide) (backOf (W := 0) (rm10_9 l Z a0 hw [] b14 h21 n0 (Nat.le_trans Z0 K21.1) f25 q2_21 gn_b14) hZ (hw _ (List.mem_of_getElem? (i := 59) rfl)) (hw _ (List.mem_of_getElem? (i := 28) rfl)) (by decide) (by decide)) q28a q28c (g := (mkF m 109 #[.val (.int p0), .val (.int p1), .val (.int p2), .val (.int p3), .val (.int (0 : Int32)), .val (.ref b4_1), .val (.ref b4_5), .val (.ref b4_9), .val (.ref b14), .val (.ref b14)] [(.ref b14)])) rfl (by rw [hml]; rfl) (Steps.refl _) (argsL := []) (rest := []) (lenOf pd_4 rfl) rfl (by show 2 * 0 + _ ≤ _; exact Nat.le_of_eq rfl) (hb hby at_109) (fun _ _ => ⟨rfl, e27, (by decide : 7 + 0 ≤ _), (by decide : 18 + 0 ≤ _)⟩)
    dsimp only [Pt.U, Pt.locs, Pt.cells, Pt.slots] at X28 l28 y28 z28 st28 hQ28
    subst l28 y28 z28
    obtain ⟨rfl, N28q, e28q⟩ := hQ28
    have N28 := Fr.app N26 N28q
    refine step (T28.setTop (mkF m 112 #[.val (.int p0), .val (.int p1), .val (.int p2), .val (.int p3), .val (.int (0 : Int32)), .val (.ref b4_1), .val (.ref b4_5), .val (.ref b4_9), .val (.ref b14), .val (.ref b14)] [(.int (0 : Int32))])) (fun t k => st28.trans k) ?_
    refine step (T28.setTop (mkF m 114 #[.val (.int p0), .val (.int p1), .val (.int p2), .val (.int p3), .val (.int (0 : Int32)), .val (.ref b4_1), .val (.ref b4_5), .val (.ref b4_9), .val (.ref b14), .val (.ref b14)] [(.int (0 : Int32)), (.int (0 : Int32))])) (fun t k => XS.iload X28.here hx rfl (hb hby at_112) rfl k) ?_
    refine step (T28.setTop (mkF m 119 #[.val (.int p0), .val (.int p1), .val (.int p2), .val (.int p3), .val (.int (0 : Int32)), .val (.ref b4_1), .val (.ref b4_5), .val (.ref b4_9), .val (.ref b14), .val (.ref b14)] [])) (fun t k => XS.icmpYes X28.here hx rfl (pc0 := 114) (pc' := 119) rfl (hb hby at_114) rfl (teq (by decide : (0 : Int32) = (0 : Int32))).1 (by decide) (by decide) k) ?_
    refine step (T28.setTop (mkF m 121 #[.val (.int p0), .val (.int p1), .val (.int p2), .val (.int p3), .val (.int (0 : Int32)), .val (.ref b4_1), .val (.ref b4_5), .val (.ref b4_9), .val (.ref b14), .val (.ref b14)] [(.int (0 : Int32))])) (fun t k => XS.iload X28.here hx rfl (hb hby at_119) rfl k) ?_
    refine step (T28.setTop (mkF m 154 #[.val (.int p0), .val (.int p1), .val (.int p2), .val (.int p3), .val (.int (0 : Int32)), .val (.ref b4_1), .val (.ref b4_5), .val (.ref b4_9), .val (.ref b14), .val (.ref b14)] [])) (fun t k => XS.ifYes X28.here hx rfl (pc0 := 121) (pc' := 154) rfl (hb hby at_121) rfl ((if0 _ _).trans (flt (by decide : ¬ ((0 : Int32) < (0 : Int32)))).2.2.2) (by decide) (by decide) k) ?_
    refine step (T28.setTop (mkF m 156 #[.val (.int p0), .val (.int p1), .val (.int p2), .val (.int p3), .val (.int (0 : Int32)), .val (.ref b4_1), .val (.ref b4_5), .val (.ref b4_9), .val (.ref b14), .val (.ref b14)] [(.int (0 : Int32))])) (fun t k => XS.iload X28.here hx rfl (hb hby at_154) rfl k) ?_
    refine step (T28.setTop (mkF m 157 #[.val (.int p0), .val (.int p1), .val (.int p2), .val (.int p3), .val (.int (0 : Int32)), .val (.ref b4_1), .val (.ref b4_5), .val (.ref b4_9), .val (.ref b14), .val (.ref b14)] [(.int (1 : Int32)), (.int (0 : Int32))])) (fun t k => XS.iconst X28.here hx rfl (hb hby at_156) k) ?_
    refine step (T28.setTop (mkF m 190 #[.val (.int p0), .val (.int p1), .val (.int p2), .val (.int p3), .val (.int (0 : Int32)), .val (.ref b4_1), .val (.ref b4_5), .val (.ref b4_9), .val (.ref b14), .val (.ref b14)] [])) (fun t k => XS.icmpYes X28.here hx rfl (pc0 := 157) (pc' := 190) rfl (hb hby at_157) rfl (flt (by decide : ¬ ((1 : Int32) < (0 : Int32)))).2.2.2 (by decide) (by decide) k) ?_
    refine step (T28.setTop (mkF m 192 #[.val (.int p0), .val (.int p1), .val (.int p2), .val (.int p3), .val (.int (0 : Int32)), .val (.ref b4_1), .val (.ref b4_5), .val (.ref b4_9), .val (.ref b14), .val (.ref b14)] [(.int (0 : Int32))])) (fun t k => XS.iload X28.here hx rfl (hb hby at_190) rfl k) ?_
    refine step (T28.setTop (mkF m 193 #[.val (.int p0), .val (.int p1), .val (.int p2), .val (.int p3), .val (.int (0 : Int32)), .val (.ref b4_1), .val (.ref b4_5), .val (.ref b4_9), .val (.ref b14), .val (.ref b14)] [(.int (2 : Int32)), (.int (0 : Int32))])) (fun t k => XS.iconst X28.here hx rfl (hb hby at_192) k) ?_
    refine step (T28.setTop (mkF m 226 #[.val (.int p0), .val (.int p1), .val (.int p2), .val (.int p3), .val (.int (0 : Int32)), .val (.ref b4_1), .val (.ref b4_5), .val (.ref b4_9), .val (.ref b14), .val (.ref b14)] [])) (fun t k => XS.icmpYes X28.here hx rfl (pc0 := 193) (pc' := 226) rfl (hb hby at_193) rfl (flt (by decide : ¬ ((2 : Int32) < (0 : Int32)))).2.2.2 (by decide) (by decide) k) ?_
    refine step (T28.setTop (mkF m 227 #[.val (.int p0), .val (.int p1), .val (.int p2), .val (.int p3), .val (.int (0 : Int32)), .val (.ref b4_1), .val (.ref b4_5), .val (.ref b4_9), .val (.ref b14), .val (.ref b14)] [(.int (1 : Int32))])) (fun t k => XS.iconst X28.here hx rfl (hb hby at_226) k) ?_
    refine fin (v := some (.int (nar .boolean (1 : Int32)))) X28 (fun h => by cases h) ?_ (by decide) (by decide) (fun fs hr => retN X28 hx (t := .boolean) hret (by simp) (hb hby at_227) hr)
    show Q0 Z p0 p1 p2 p3 cs aD kD h0 n0 (some (.int (nar .boolean (1 : Int32)))) T28.heap _
    rw [e28q]
    exact ⟨rfl, N28⟩
  · -- kk = 1
    show G (T21.setTop (mkF m 47 #[.val (.int p0), .val (.int p1), .val (.int p2), .val (.int p3), .val (.int (1 : Int32)), .val (.ref b4_1), .val (.ref b4_5), .val (.ref b4_9), .val (.ref b14), .unset] []))
    refine step (T21.setTop (mkF m 49 #[.val (.int p0), .val (.int p1), .val (.int p2), .val (.int p3), .val (.int (1 : Int32)), .val (.ref b4_1), .val (.ref b4_5), .val (.ref b4_9), .val (.ref b14), .unset] [(.int (1 : Int32))])) (fun t k => XS.iload X21.here hx rfl (hb hby at_47) rfl k) ?_
    refine step (T21.setTop (mkF m 52 #[.val (.int p0), .val (.int p1), .val (.int p2), .val (.int p3), .val (.int (1 : Int32)), .val (.ref b4_1), .val (.ref b4_5), .val (.ref b4_9), .val (.ref b14), .unset] [])) (fun t k => XS.ifNo X21.here hx rfl (hb hby at_49) rfl ((if0 _ _).trans (tlt (by decide : (0 : Int32) < (1 : Int32))).2.2.2) k) ?_
    refine step (T21.setTop (mkF m 54 #[.val (.int p0), .val (.int p1), .val (.int p2), .val (.int p3), .val (.int (1 : Int32)), .val (.ref b4_1), .val (.ref b4_5), .val (.ref b4_9), .val (.ref b14), .unset] [(.ref b14)])) (fun t k => XS.aload X21.here hx rfl (hb hby at_52) rfl rfl k) ?_
    refine step (T21.setTop (mkF m 56 #[.val (.int p0), .val (.int p1), .val (.int p2), .val (.int p3), .val (.int (1 : Int32)), .val (.ref b4_1), .val (.ref b4_5), .val (.ref b4_9), .val (.ref b14), .unset] [(.ref b4_1), (.ref b14)])) (fun t k => XS.aload X21.here hx rfl (hb hby at_54) rfl rfl k) ?_
    have f29 := (A14.keep K21q)
    have f30 := ((f16.ext E14).keep K21q)
    have f31 := ((f15.ext E14).keep K21q (ninS ne_aD_b14 nin0))
    obtain ⟨cq32, kq32, q32a, q32b, q32c⟩ := isOf hZ e21 f29
    obtain ⟨_, _, ⟨T32, L32, k32, n32⟩, -, X32, ⟨Lc32, hQ32, l32, y32, z32⟩, st32⟩ := X21.virtualBack hx (y := (⟨"java/util/ArrayList", "add", "(Ljava/lang/Object;)Z"⟩ : MethodName)) (z := (⟨"java/util/ArrayList", "add", "(Ljava/lang/Object;)Z"⟩ : MethodName)) hown (mvT hZ (hw _ (List.mem_of_getElem? (i := 62) rfl))) (mvT hZ (hw _ (List.mem_of_getElem? (i := 63) rfl))) (notFace_of_selects (args := #[]) (mvT hZ (hw _ (List.mem_of_getElem? (i := 65) rfl)))) (mvT hZ (hw _ (List.mem_of_getElem? (i := 65) rfl))) (mvT hZ (hw _ (List.mem_of_getElem? (i := 64) rfl))) (by decide) (backOf (W := 0) (rm11_10 l Z a0 hw [] b14 b4_1 aD kD h21 n0 (Nat.le_trans Z0 K21.1) f24 f29 q0_21 q1_21 q2_21 f30 f31 gn_b14 (Ne.symm ne_b4_1_b14) (Ne.symm ne_aD_b14) gn_b4_1 (Ne.symm ne_aD_b4_1)) hZ (hw _ (List.mem_of_getElem? (i := 66) rfl)) (hw _ (List.mem_of_getElem? (i := 28) rfl)) (by decide) (by decide)) q32a q32c (g := (mkF m 56 #[.val (.int p0), .val (.int p1), .val (.int p2), .val (.int p3), .val (.int (1 : Int32)), .val (.ref b4_1), .val (.ref b4_5), .val (.ref b4_9), .val (.ref b14), .unset] [(.ref b4_1), (.ref b14)])) rfl (by rw [hml]; rfl) (Steps.refl _) (argsL := [(.ref b4_1)]) (rest := []) (lenOf pd_2 rfl) rfl (by show 2 * 0 + _ ≤ _; exact Nat.le_of_eq rfl) (hb hby at_56) (fun _ _ => ⟨rfl, e21, (by decide : 7 + 1 ≤ _), (by decide : 18 + 10 ≤ _)⟩)
    dsimp only [Pt.U, Pt.locs, Pt.cells, Pt.slots] at X32 l32 y32 z32 st32 hQ32
    subst l32 y32 z32
    obtain ⟨h32, e32⟩ : ∃ z, T32.heap = z := ⟨_, rfl⟩
    rw [e32] at hQ32
    obtain ⟨b6_2_2_11_32, k6_2_2_11_32, rfl, N32q, K32q, sz_b6_2_2_11_32, q0_32, q1_32, q2_32, q3_32, ov0_32⟩ := hQ32
    have N32 := Fr.app N21 N32q
    have lt32_aD := f31.lt
    have lt32_b4_1 := f30.lt
    have f33 := ((f17.ext E14).keep K21q (ninS ne_b1_5_1_b14 nin0))
    have lt32_b1_5_1 := f33.lt
    have f34 := ((f18.ext E14).keep K21q)
    have lt32_b4_5 := f34.lt
    have f35 := ((f19.ext E14).keep K21q (ninS ne_b1_5_5_b14 nin0))
    have lt32_b1_5_5 := f35.lt
    have f36 := ((q0_9.ext E14).keep K21q)
    have lt32_b4_9 := f36.lt
    have f37 := ((q3_9.ext E14).keep K21q (ninS ne_b1_5_9_b14 nin0))
    have lt32_b1_5_9 := f37.lt
    have lt32_b14 := f29.lt
    have ne_aD_b6_2_2_11_32 : aD ≠ b6_2_2_11_32 := Nat.ne_of_lt (Nat.lt_of_lt_of_le lt32_aD sz_b6_2_2_11_32)
    have ne_b4_1_b6_2_2_11_32 : b4_1 ≠ b6_2_2_11_32 := Nat.ne_of_lt (Nat.lt_of_lt_of_le lt32_b4_1 sz_b6_2_2_11_32)
    have ne_b1_5_1_b6_2_2_11_32 : b1_5_1 ≠ b6_2_2_11_32 := Nat.ne_of_lt (Nat.lt_of_lt_of_le lt32_b1_5_1 sz_b6_2_2_11_32)
    have ne_b4_5_b6_2_2_11_32 : b4_5 ≠ b6_2_2_11_32 := Nat.ne_of_lt (Nat.lt_of_lt_of_le lt32_b4_5 sz_b6_2_2_11_32)
    have ne_b1_5_5_b6_2_2_11_32 : b1_5_5 ≠ b6_2_2_11_32 := Nat.ne_of_lt (Nat.lt_of_lt_of_le lt32_b1_5_5 sz_b6_2_2_11_32)
    have ne_b4_9_b6_2_2_11_32 : b4_9 ≠ b6_2_2_11_32 := Nat.ne_of_lt (Nat.lt_of_lt_of_le lt32_b4_9 sz_b6_2_2_11_32)
    have ne_b1_5_9_b6_2_2_11_32 : b1_5_9 ≠ b6_2_2_11_32 := Nat.ne_of_lt (Nat.lt_of_lt_of_le lt32_b1_5_9 sz_b6_2_2_11_32)
    have ne_b14_b6_2_2_11_32 : b14 ≠ b6_2_2_11_32 := Nat.ne_of_lt (Nat.lt_of_lt_of_le lt32_b14 sz_b6_2_2_11_32)
    have gn_b6_2_2_11_32 : n0 ≤ b6_2_2_11_32 := Nat.le_trans (Nat.le_trans Z0 K21.1) sz_b6_2_2_11_32
    have sz_b6_2_2_11_32' := Nat.le_trans K21.1 sz_b6_2_2_11_32
    replace sz_b6_2_2_11_32 := sz_b6_2_2_11_32'
    have K32 : Keep h0 h32 [] := K21.trans K32q (allS (Or.inr sz_b14) all0)
    have f38 := own_staK f23 K32q (allS (own_exaP f29) all0)
    have f39 := own_staK f24 K32q (allS (own_exaP f29) all0)
    refine step (T32.setTop (mkF m 59 #[.val (.int p0), .val (.int p1), .val (.int p2), .val (.int p3), .val (.int (1 : Int32)), .val (.ref b4_1), .val (.ref b4_5), .val (.ref b4_9), .val (.ref b14), .unset] [(.int (1 : Int32))])) (fun t k => st32.trans k) ?_
    refine step (T32.setTop (mkF m 60 #[.val (.int p0), .val (.int p1), .val (.int p2), .val (.int p3), .val (.int (1 : Int32)), .val (.ref b4_1), .val (.ref b4_5), .val (.ref b4_9), .val (.ref b14), .unset] [])) (fun t k => XS.pop X32.here hx rfl (hb hby at_59) rfl rfl k) ?_
    refine step (T32.setTop (mkF m 62 #[.val (.int p0), .val (.int p1), .val (.int p2), .val (.int p3), .val (.int (1 : Int32)), .val (.ref b4_1), .val (.ref b4_5), .val (.ref b4_9), .val (.ref b14), .unset] [(.int (1 : Int32))])) (fun t k => XS.iload X32.here hx rfl (hb hby at_60) rfl k) ?_
    refine step (T32.setTop (mkF m 63 #[.val (.int p0), .val (.int p1), .val (.int p2), .val (.int p3), .val (.int (1 : Int32)), .val (.ref b4_1), .val (.ref b4_5), .val (.ref b4_9), .val (.ref b14), .unset] [(.int (1 : Int32)), (.int (1 : Int32))])) (fun t k => XS.iconst X32.here hx rfl (hb hby at_62) k) ?_
    refine step (T32.setTop (mkF m 74 #[.val (.int p0), .val (.int p1), .val (.int p2), .val (.int p3), .val (.int (1 : Int32)), .val (.ref b4_1), .val (.ref b4_5), .val (.ref b4_9), .val (.ref b14), .unset] [])) (fun t k => XS.icmpYes X32.here hx rfl (pc0 := 63) (pc' := 74) rfl (hb hby at_63) rfl (flt (by decide : ¬ ((1 : Int32) < (1 : Int32)))).2.2.2 (by decide) (by decide) k) ?_
    refine step (T32.setTop (mkF m 76 #[.val (.int p0), .val (.int p1), .val (.int p2), .val (.int p3), .val (.int (1 : Int32)), .val (.ref b4_1), .val (.ref b4_5), .val (.ref b4_9), .val (.ref b14), .unset] [(.int (1 : Int32))])) (fun t k => XS.iload X32.here hx rfl (hb hby at_74) rfl k) ?_
    refine step (T32.setTop (mkF m 77 #[.val (.int p0), .val (.int p1), .val (.int p2), .val (.int p3), .val (.int (1 : Int32)), .val (.ref b4_1), .val (.ref b4_5), .val (.ref b4_9), .val (.ref b14), .unset] [(.int (2 : Int32)), (.int (1 : Int32))])) (fun t k => XS.iconst X32.here hx rfl (hb hby at_76) k) ?_
    refine step (T32.setTop (mkF m 88 #[.val (.int p0), .val (.int p1), .val (.int p2), .val (.int p3), .val (.int (1 : Int32)), .val (.ref b4_1), .val (.ref b4_5), .val (.ref b4_9), .val (.ref b14), .unset] [])) (fun t k => XS.icmpYes X32.here hx rfl (pc0 := 77) (pc' := 88) rfl (hb hby at_77) rfl (flt (by decide : ¬ ((2 : Int32) < (1 : Int32)))).2.2.2 (by decide) (by decide) k) ?_
    refine step (T32.setTop (mkF m 90 #[.val (.int p0), .val (.int p1), .val (.int p2), .val (.int p3), .val (.int (1 : Int32)), .val (.ref b4_1), .val (.ref b4_5), .val (.ref b4_9), .val (.ref b14), .unset] [(.ref b14)])) (fun t k => XS.aload X32.here hx rfl (hb hby at_88) rfl rfl k) ?_
    have f40 := (f29.keep K32q)
    obtain ⟨_, _, ⟨T41, L41, k41, n41⟩, -, X41, ⟨Lc41, hQ41, l41, y41, z41⟩, st41⟩ := Jvm.LawKit.callS X32 hx (y := (⟨"com/example/dibs/dibs/sketch/Items", "requireBatch", "(Ljava/util/Collection;)Ljava/util/Collection;"⟩ : MethodName)) hown (mvT hZ (hw _ (List.mem_of_getElem? (i := 50) rfl))) (mvT hZ (hw _ (List.mem_of_getElem? (i := 51) rfl))) (mvT hZ (hw _ (List.mem_of_getElem? (i := 52) rfl))) (mvT hZ (hw _ (List.mem_of_getElem? (i := 53) rfl))) (by decide) (backOf (W := 0) (rm9_8 l Z a0 hw [] b14 h32 n0 (Nat.le_trans Z0 K32.1) f40 gn_b14) hZ (hw _ (List.mem_of_getElem? (i := 53) rfl)) (hw _ (List.mem_of_getElem? (i := 52) rfl)) (by decide) (by decide)) (g := (mkF m 90 #[.val (.int p0), .val (.int p1), .val (.int p2), .val (.int p3), .val (.int (1 : Int32)), .val (.ref b4_1), .val (.ref b4_5), .val (.ref b4_9), .val (.ref b14), .unset] [(.ref b14)])) rfl (by rw [hml]; rfl) (argsL := [(.ref b14)]) (rest := []) (lenOf pd_3 rfl) rfl (by show 2 * 0 + _ ≤ _; exact Nat.le_of_eq rfl) (hb hby at_90) (fun _ _ => ⟨rfl, e32, (by decide : 8 + 0 ≤ _), (by decide : 28 + 0 ≤ _)⟩)
    dsimp only [Pt.U, Pt.locs, Pt.cells, Pt.slots] at X41 l41 y41 z41 st41 hQ41
    subst l41 y41 z41
    obtain ⟨rfl, N41q, e41q⟩ := hQ41
    have N41 := Fr.app N32 N41q
    refine step (T41.setTop (mkF m 93 #[.val (.int p0), .val (.int p1), .val (.int p2), .val (.int p3), .val (.int (1 : Int32)), .val (.ref b4_1), .val (.ref b4_5), .val (.ref b4_9), .val (.ref b14), .unset] [(.ref b14)])) (fun t k => st41 t k) ?_
    obtain ⟨T42, X42, e42, st42⟩ := castY X41 hx hZ hown (hw _ (List.mem_of_getElem? (i := 26) rfl)) e41q (Ins.self f40) (g := (mkF m 93 #[.val (.int p0), .val (.int p1), .val (.int p2), .val (.int p3), .val (.int (1 : Int32)), .val (.ref b4_1), .val (.ref b4_5), .val (.ref b4_9), .val (.ref b14), .unset] [(.ref b14)])) rfl rfl (hb hby at_93)
    refine step (T42.setTop (mkF m 96 #[.val (.int p0), .val (.int p1), .val (.int p2), .val (.int p3), .val (.int (1 : Int32)), .val (.ref b4_1), .val (.ref b4_5), .val (.ref b4_9), .val (.ref b14), .unset] [(.ref b14)])) (fun t k => st42 t k) ?_
    refine step (T42.setTop (mkF m 98 #[.val (.int p0), .val (.int p1), .val (.int p2), .val (.int p3), .val (.int (1 : Int32)), .val (.ref b4_1), .val (.ref b4_5), .val (.ref b4_9), .val (.ref b14), .val (.ref b14)] [])) (fun t k => XS.astore X42.here hx rfl (hb hby at_96) rfl rfl (l' := #[.val (.int p0), .val (.int p1), .val (.int p2), .val (.int p3), .val (.int (1 : Int32)), .val (.ref b4_1), .val (.ref b4_5), .val (.ref b4_9), .val (.ref b14), .val (.ref b14)]) rfl k) ?_
    refine step (T42.setTop (mkF m 100 #[.val (.int p0), .val (.int p1), .val (.int p2), .val (.int p3), .val (.int (1 : Int32)), .val (.ref b4_1), .val (.ref b4_5), .val (.ref b4_9), .val (.ref b14), .val (.ref b14)] [(.ref b14)])) (fun t k => XS.aload X42.here hx rfl (hb hby at_98) rfl rfl k) ?_
    refine step (T42.setTop (mkF m 102 #[.val (.int p0), .val (.int p1), .val (.int p2), .val (.int p3), .val (.int (1 : Int32)), .val (.ref b4_1), .val (.ref b4_5), .val (.ref b4_9), .val (.ref b14), .val (.ref b14)] [(.ref b14), (.ref b14)])) (fun t k => XS.aload X42.here hx rfl (hb hby at_100) rfl rfl k) ?_
    refine step (T42.setTop (mkF m 107 #[.val (.int p0), .val (.int p1), .val (.int p2), .val (.int p3), .val (.int (1 : Int32)), .val (.ref b4_1), .val (.ref b4_5), .val (.ref b4_9), .val (.ref b14), .val (.ref b14)] [])) (fun t k => Jvm.RoadKit.acmp (g := (mkF m 102 #[.val (.int p0), .val (.int p1), .val (.int p2), .val (.int p3), .val (.int (1 : Int32)), .val (.ref b4_1), .val (.ref b4_5), .val (.ref b4_9), .val (.ref b14), .val (.ref b14)] [(.ref b14), (.ref b14)])) X42 hx rfl rfl rfl (pc0 := 102) (pc' := 107) (same := true) rfl (hb hby at_102) rfl (decide_eq_true rfl) (by decide) (by decide) k) ?_
    refine step (T42.setTop (mkF m 109 #[.val (.int p0), .val (.int p1), .val (.int p2), .val (.int p3), .val (.int (1 : Int32)), .val (.ref b4_1), .val (.ref b4_5), .val (.ref b4_9), .val (.ref b14), .val (.ref b14)] [(.ref b14)])) (fun t k => XS.aload X42.here hx rfl (hb hby at_107) rfl rfl k) ?_
    obtain ⟨cq43, kq43, q43a, q43b, q43c⟩ := isOf hZ e42 f40
    obtain ⟨_, _, ⟨T43, L43, k43, n43⟩, -, X43, ⟨Lc43, hQ43, l43, y43, z43⟩, st43⟩ := X42.virtualBack hx (y := (⟨"java/util/ArrayList", "size", "()I"⟩ : MethodName)) (z := (⟨"java/util/ArrayList", "size", "()I"⟩ : MethodName)) hown (mvT hZ (hw _ (List.mem_of_getElem? (i := 55) rfl))) (mvT hZ (hw _ (List.mem_of_getElem? (i := 56) rfl))) (notFace_of_selects (args := #[]) (mvT hZ (hw _ (List.mem_of_getElem? (i := 58) rfl)))) (mvT hZ (hw _ (List.mem_of_getElem? (i := 58) rfl))) (mvT hZ (hw _ (List.mem_of_getElem? (i := 57) rfl))) (by decide) (backOf (W := 0) (rm10_15 l Z a0 hw [] b14 h32 n0 (Nat.le_trans Z0 K32.1) f40 q2_32 gn_b14) hZ (hw _ (List.mem_of_getElem? (i := 59) rfl)) (hw _ (List.mem_of_getElem? (i := 28) rfl)) (by decide) (by decide)) q43a q43c (g := (mkF m 109 #[.val (.int p0), .val (.int p1), .val (.int p2), .val (.int p3), .val (.int (1 : Int32)), .val (.ref b4_1), .val (.ref b4_5), .val (.ref b4_9), .val (.ref b14), .val (.ref b14)] [(.ref b14)])) rfl (by rw [hml]; rfl) (Steps.refl _) (argsL := []) (rest := []) (lenOf pd_4 rfl) rfl (by show 2 * 0 + _ ≤ _; exact Nat.le_of_eq rfl) (hb hby at_109) (fun _ _ => ⟨rfl, e42, (by decide : 8 + 0 ≤ _), (by decide : 28 + 0 ≤ _)⟩)
    dsimp only [Pt.U, Pt.locs, Pt.cells, Pt.slots] at X43 l43 y43 z43 st43 hQ43
    subst l43 y43 z43
    obtain ⟨rfl, N43q, e43q⟩ := hQ43
    have N43 := Fr.app N41 N43q
    refine step (T43.setTop (mkF m 112 #[.val (.int p0), .val (.int p1), .val (.int p2), .val (.int p3), .val (.int (1 : Int32)), .val (.ref b4_1), .val (.ref b4_5), .val (.ref b4_9), .val (.ref b14), .val (.ref b14)] [(.int (1 : Int32))])) (fun t k => st43.trans k) ?_
    refine step (T43.setTop (mkF m 114 #[.val (.int p0), .val (.int p1), .val (.int p2), .val (.int p3), .val (.int (1 : Int32)), .val (.ref b4_1), .val (.ref b4_5), .val (.ref b4_9), .val (.ref b14), .val (.ref b14)] [(.int (1 : Int32)), (.int (1 : Int32))])) (fun t k => XS.iload X43.here hx rfl (hb hby at_112) rfl k) ?_
    refine step (T43.setTop (mkF m 119 #[.val (.int p0), .val (.int p1), .val (.int p2), .val (.int p3), .val (.int (1 : Int32)), .val (.ref b4_1), .val (.ref b4_5), .val (.ref b4_9), .val (.ref b14), .val (.ref b14)] [])) (fun t k => XS.icmpYes X43.here hx rfl (pc0 := 114) (pc' := 119) rfl (hb hby at_114) rfl (teq (by decide : (1 : Int32) = (1 : Int32))).1 (by decide) (by decide) k) ?_
    refine step (T43.setTop (mkF m 121 #[.val (.int p0), .val (.int p1), .val (.int p2), .val (.int p3), .val (.int (1 : Int32)), .val (.ref b4_1), .val (.ref b4_5), .val (.ref b4_9), .val (.ref b14), .val (.ref b14)] [(.int (1 : Int32))])) (fun t k => XS.iload X43.here hx rfl (hb hby at_119) rfl k) ?_
    refine step (T43.setTop (mkF m 124 #[.val (.int p0), .val (.int p1), .val (.int p2), .val (.int p3), .val (.int (1 : Int32)), .val (.ref b4_1), .val (.ref b4_5), .val (.ref b4_9), .val (.ref b14), .val (.ref b14)] [])) (fun t k => XS.ifNo X43.here hx rfl (hb hby at_121) rfl ((if0 _ _).trans (tlt (by decide : (0 : Int32) < (1 : Int32))).2.2.2) k) ?_
    refine step (T43.setTop (mkF m 126 #[.val (.int p0), .val (.int p1), .val (.int p2), .val (.int p3), .val (.int (1 : Int32)), .val (.ref b4_1), .val (.ref b4_5), .val (.ref b4_9), .val (.ref b14), .val (.ref b14)] [(.ref b14)])) (fun t k => XS.aload X43.here hx rfl (hb hby at_124) rfl rfl k) ?_
    refine step (T43.setTop (mkF m 127 #[.val (.int p0), .val (.int p1), .val (.int p2), .val (.int p3), .val (.int (1 : Int32)), .val (.ref b4_1), .val (.ref b4_5), .val (.ref b4_9), .val (.ref b14), .val (.ref b14)] [(.int (0 : Int32)), (.ref b14)])) (fun t k => XS.iconst X43.here hx rfl (hb hby at_126) k) ?_
    have f44 := (f30.keep K32q)
    obtain ⟨cq45, kq45, q45a, q45b, q45c⟩ := isOf hZ e43q f40
    obtain ⟨_, _, ⟨T45, L45, k45, n45⟩, -, X45, ⟨Lc45, hQ45, l45, y45, z45⟩, st45⟩ := X43.virtualBack hx (y := (⟨"java/util/ArrayList", "get", "(I)Ljava/lang/Object;"⟩ : MethodName)) (z := (⟨"java/util/ArrayList", "get", "(I)Ljava/lang/Object;"⟩ : MethodName)) hown (mvT hZ (hw _ (List.mem_of_getElem? (i := 91) rfl))) (mvT hZ (hw _ (List.mem_of_getElem? (i := 92) rfl))) (notFace_of_selects (args := #[]) (mvT hZ (hw _ (List.mem_of_getElem? (i := 94) rfl)))) (mvT hZ (hw _ (List.mem_of_getElem? (i := 94) rfl))) (mvT hZ (hw _ (List.mem_of_getElem? (i := 93) rfl))) (by decide) (backOf (W := 0) (rm16_16 l Z a0 hw [] b14 b6_2_2_11_32 k6_2_2_11_32 b4_1 h32 n0 (Nat.le_trans Z0 K32.1) f40 q0_32 q2_32 q3_32 ov0_32 f44 gn_b14 ne_b14_b6_2_2_11_32 (Ne.symm ne_b4_1_b14) gn_b6_2_2_11_32 (Ne.symm ne_b4_1_b6_2_2_11_32) gn_b4_1) hZ (hw _ (List.mem_of_getElem? (i := 95) rfl)) (hw _ (List.mem_of_getElem? (i := 28) rfl)) (by decide) (by decide)) q45a q45c (g := (mkF m 127 #[.val (.int p0), .val (.int p1), .val (.int p2), .val (.int p3), .val (.int (1 : Int32)), .val (.ref b4_1), .val (.ref b4_5), .val (.ref b4_9), .val (.ref b14), .val (.ref b14)] [(.int (0 : Int32)), (.ref b14)])) rfl (by rw [hml]; rfl) (Steps.refl _) (argsL := [(.int (0 : Int32))]) (rest := []) (lenOf pd_5 rfl) rfl (by show 2 * 0 + _ ≤ _; exact Nat.le_of_eq rfl) (hb hby at_127) (fun _ _ => ⟨rfl, e43q, (by decide : 8 + 0 ≤ _), (by decide : 28 + 0 ≤ _)⟩)
    dsimp only [Pt.U, Pt.locs, Pt.cells, Pt.slots] at X45 l45 y45 z45 st45 hQ45
    subst l45 y45 z45
    obtain ⟨rfl, N45q, e45q⟩ := hQ45
    have N45 := Fr.app N43 N45q
    refine step (T45.setTop (mkF m 130 #[.val (.int p0), .val (.int p1), .val (.int p2), .val (.int p3), .val (.int (1 : Int32)), .val (.ref b4_1), .val (.ref b4_5), .val (.ref b4_9), .val (.ref b14), .val (.ref b14)] [(.ref b4_1)])) (fun t k => st45.trans k) ?_
    refine step (T45.setTop (mkF m 132 #[.val (.int p0), .val (.int p1), .val (.int p2), .val (.int p3), .val (.int (1 : Int32)), .val (.ref b4_1), .val (.ref b4_5), .val (.ref b4_9), .val (.ref b14), .val (.ref b14)] [(.ref b4_1), (.ref b4_1)])) (fun t k => XS.aload X45.here hx rfl (hb hby at_130) rfl rfl k) ?_
    refine step (T45.setTop (mkF m 135 #[.val (.int p0), .val (.int p1), .val (.int p2), .val (.int p3), .val (.int (1 : Int32)), .val (.ref b4_1), .val (.ref b4_5), .val (.ref b4_9), .val (.ref b14), .val (.ref b14)] [])) (fun t k => Jvm.RoadKit.acmp (g := (mkF m 132 #[.val (.int p0), .val (.int p1), .val (.int p2), .val (.int p3), .val (.int (1 : Int32)), .val (.ref b4_1), .val (.ref b4_5), .val (.ref b4_9), .val (.ref b14), .val (.ref b14)] [(.ref b4_1), (.ref b4_1)])) X45 hx rfl rfl rfl (pc0 := 132) (pc' := 135) (same := true) rfl (hb hby at_132) rfl (decide_eq_true rfl) (by decide) (by decide) k) ?_
    refine step (T45.setTop (mkF m 137 #[.val (.int p0), .val (.int p1), .val (.int p2), .val (.int p3), .val (.int (1 : Int32)), .val (.ref b4_1), .val (.ref b4_5), .val (.ref b4_9), .val (.ref b14), .val (.ref b14)] [(.ref b14)])) (fun t k => XS.aload X45.here hx rfl (hb hby at_135) rfl rfl k) ?_
    refine step (T45.setTop (mkF m 138 #[.val (.int p0), .val (.int p1), .val (.int p2), .val (.int p3), .val (.int (1 : Int32)), .val (.ref b4_1), .val (.ref b4_5), .val (.ref b4_9), .val (.ref b14), .val (.ref b14)] [(.int (0 : Int32)), (.ref b14)])) (fun t k => XS.iconst X45.here hx rfl (hb hby at_137) k) ?_
    obtain ⟨cq46, kq46, q46a, q46b, q46c⟩ := isOf hZ e45q f40
    obtain ⟨_, _, ⟨T46, L46, k46, n46⟩, -, X46, ⟨Lc46, hQ46, l46, y46, z46⟩, st46⟩ := X45.virtualBack hx (y := (⟨"java/util/ArrayList", "get", "(I)Ljava/lang/Object;"⟩ : MethodName)) (z := (⟨"java/util/ArrayList", "get", "(I)Ljava/lang/Object;"⟩ : MethodName)) hown (mvT hZ (hw _ (List.mem_of_getElem? (i := 91) rfl))) (mvT hZ (hw _ (List.mem_of_getElem? (i := 92) rfl))) (notFace_of_selects (args := #[]) (mvT hZ (hw _ (List.mem_of_getElem? (i := 94) rfl)))) (mvT hZ (hw _ (List.mem_of_getElem? (i := 94) rfl))) (mvT hZ (hw _ (List.mem_of_getElem? (i := 93) rfl))) (by decide) (backOf (W := 0) (rm16_16 l Z a0 hw [] b14 b6_2_2_11_32 k6_2_2_11_32 b4_1 h32 n0 (Nat.le_trans Z0 K32.1) f40 q0_32 q2_32 q3_32 ov0_32 f44 gn_b14 ne_b14_b6_2_2_11_32 (Ne.symm ne_b4_1_b14) gn_b6_2_2_11_32 (Ne.symm ne_b4_1_b6_2_2_11_32) gn_b4_1) hZ (hw _ (List.mem_of_getElem? (i := 95) rfl)) (hw _ (List.mem_of_getElem? (i := 28) rfl)) (by decide) (by decide)) q46a q46c (g := (mkF m 138 #[.val (.int p0), .val (.int p1), .val (.int p2), .val (.int p3), .val (.int (1 : Int32)), .val (.ref b4_1), .val (.ref b4_5), .val (.ref b4_9), .val (.ref b14), .val (.ref b14)] [(.int (0 : Int32)), (.ref b14)])) rfl (by rw [hml]; rfl) (Steps.refl _) (argsL := [(.int (0 : Int32))]) (rest := []) (lenOf pd_5 rfl) rfl (by show 2 * 0 + _ ≤ _; exact Nat.le_of_eq rfl) (hb hby at_138) (fun _ _ => ⟨rfl, e45q, (by decide : 8 + 0 ≤ _), (by decide : 28 + 0 ≤ _)⟩)
    dsimp only [Pt.U, Pt.locs, Pt.cells, Pt.slots] at X46 l46 y46 z46 st46 hQ46
    subst l46 y46 z46
    obtain ⟨rfl, N46q, e46q⟩ := hQ46
    have N46 := Fr.app N45 N46q
    refine step (T46.setTop (mkF m 141 #[.val (.int p0), .val (.int p1), .val (.int p2), .val (.int p3), .val (.int (1 : Int32)), .val (.ref b4_1), .val (.ref b4_5), .val (.ref b4_9), .val (.ref b14), .val (.ref b14)] [(.ref b4_1)])) (fun t k => st46.trans k) ?_
    obtain ⟨T47, X47, e47, st47⟩ := castY X46 hx hZ hown (hw _ (List.mem_of_getElem? (i := 109) rfl)) e46q (Ins.self f44) (g := (mkF m 141 #[.val (.int p0), .val (.int p1), .val (.int p2), .val (.int p3), .val (.int (1 : Int32)), .val (.ref b4_1), .val (.ref b4_5), .val (.ref b4_9), .val (.ref b14), .val (.ref b14)] [(.ref b4_1)])) rfl rfl (hb hby at_141)
    refine step (T47.setTop (mkF m 144 #[.val (.int p0), .val (.int p1), .val (.int p2), .val (.int p3), .val (.int (1 : Int32)), .val (.ref b4_1), .val (.ref b4_5), .val (.ref b4_9), .val (.ref b14), .val (.ref b14)] [(.ref b4_1)])) (fun t k => st47 t k) ?_
    refine step (T47.setTop (mkF m 146 #[.val (.int p0), .val (.int p1), .val (.int p2), .val (.int p3), .val (.int (1 : Int32)), .val (.ref b4_1), .val (.ref b4_5), .val (.ref b4_9), .val (.ref b14), .val (.ref b14)] [(.ref b4_1), (.ref b4_1)])) (fun t k => XS.aload X47.here hx rfl (hb hby at_144) rfl rfl k) ?_
    have f48 := (((((q1_1.keep K5q nin0).keep K9q nin0).ext E14).keep K21q (ninS ne_b4_1_b14 nin0)).keep K32q (ninS ne_b4_1_b14 nin0))
    have f49 := (((((q2_1.keep K5q nin0).keep K9q nin0).ext E14).keep K21q (ninS ne_b4_1_b14 nin0)).keep K32q (ninS ne_b4_1_b14 nin0))
    obtain ⟨cq50, kq50, q50a, q50b, q50c⟩ := isOf hZ e47 f44
    obtain ⟨_, _, ⟨T50, L50, k50, n50⟩, -, X50, ⟨Lc50, hQ50, l50, y50, z50⟩, st50⟩ := X47.virtualBack hx (y := (⟨"java/lang/String", "equals", "(Ljava/lang/Object;)Z"⟩ : MethodName)) (z := (⟨"java/lang/String", "equals", "(Ljava/lang/Object;)Z"⟩ : MethodName)) hown (mvT hZ (hw _ (List.mem_of_getElem? (i := 110) rfl))) (mvT hZ (hw _ (List.mem_of_getElem? (i := 111) rfl))) (notFace_of_selects (args := #[]) (mvT hZ (hw _ (List.mem_of_getElem? (i := 113) rfl)))) (mvT hZ (hw _ (List.mem_of_getElem? (i := 113) rfl))) (mvT hZ (hw _ (List.mem_of_getElem? (i := 112) rfl))) (by decide) (backOf (W := 0) (rm20_20 l Z a0 hw [] b4_1 cs b1_5_1 h32 n0 (Nat.le_trans Z0 K32.1) f38 f44 f48 f49 gn_b4_1 (Ne.symm ne_b1_5_b4_1) gn_b1_5_1 c_cs) hZ (hw _ (List.mem_of_getElem? (i := 114) rfl)) (hw _ (List.mem_of_getElem? (i := 2) rfl)) (by decide) (by decide)) q50a q50c (g := (mkF m 146 #[.val (.int p0), .val (.int p1), .val (.int p2), .val (.int p3), .val (.int (1 : Int32)), .val (.ref b4_1), .val (.ref b4_5), .val (.ref b4_9), .val (.ref b14), .val (.ref b14)] [(.ref b4_1), (.ref b4_1)])) rfl (by rw [hml]; rfl) (Steps.refl _) (argsL := [(.ref b4_1)]) (rest := []) (lenOf pd_2 rfl) rfl (by show 2 * 0 + _ ≤ _; exact Nat.le_of_eq rfl) (hb hby at_146) (fun _ _ => ⟨rfl, e47, (by decide : 8 + 0 ≤ _), (by decide : 28 + 0 ≤ _)⟩)
    dsimp only [Pt.U, Pt.locs, Pt.cells, Pt.slots] at X50 l50 y50 z50 st50 hQ50
    subst l50 y50 z50
    obtain ⟨rfl, N50q, e50q⟩ := hQ50
    have N50 := Fr.app N46 N50q
    refine step (T50.setTop (mkF m 149 #[.val (.int p0), .val (.int p1), .val (.int p2), .val (.int p3), .val (.int (1 : Int32)), .val (.ref b4_1), .val (.ref b4_5), .val (.ref b4_9), .val (.ref b14), .val (.ref b14)] [(.int (1 : Int32))])) (fun t k => st50.trans k) ?_
    refine step (T50.setTop (mkF m 154 #[.val (.int p0), .val (.int p1), .val (.int p2), .val (.int p3), .val (.int (1 : Int32)), .val (.ref b4_1), .val (.ref b4_5), .val (.ref b4_9), .val (.ref b14), .val (.ref b14)] [])) (fun t k => XS.ifYes X50.here hx rfl (pc0 := 149) (pc' := 154) rfl (hb hby at_149) rfl ((if0 _ _).trans (feq (by decide : ¬ ((1 : Int32) = (0 : Int32)))).2) (by decide) (by decide) k) ?_
    refine step (T50.setTop (mkF m 156 #[.val (.int p0), .val (.int p1), .val (.int p2), .val (.int p3), .val (.int (1 : Int32)), .val (.ref b4_1), .val (.ref b4_5), .val (.ref b4_9), .val (.ref b14), .val (.ref b14)] [(.int (1 : Int32))])) (fun t k => XS.iload X50.here hx rfl (hb hby at_154) rfl k) ?_
    refine step (T50.setTop (mkF m 157 #[.val (.int p0), .val (.int p1), .val (.int p2), .val (.int p3), .val (.int (1 : Int32)), .val (.ref b4_1), .val (.ref b4_5), .val (.ref b4_9), .val (.ref b14), .val (.ref b14)] [(.int (1 : Int32)), (.int (1 : Int32))])) (fun t k => XS.iconst X50.here hx rfl (hb hby at_156) k) ?_
    refine step (T50.setTop (mkF m 190 #[.val (.int p0), .val (.int p1), .val (.int p2), .val (.int p3), .val (.int (1 : Int32)), .val (.ref b4_1), .val (.ref b4_5), .val (.ref b4_9), .val (.ref b14), .val (.ref b14)] [])) (fun t k => XS.icmpYes X50.here hx rfl (pc0 := 157) (pc' := 190) rfl (hb hby at_157) rfl (flt (by decide : ¬ ((1 : Int32) < (1 : Int32)))).2.2.2 (by decide) (by decide) k) ?_
    refine step (T50.setTop (mkF m 192 #[.val (.int p0), .val (.int p1), .val (.int p2), .val (.int p3), .val (.int (1 : Int32)), .val (.ref b4_1), .val (.ref b4_5), .val (.ref b4_9), .val (.ref b14), .val (.ref b14)] [(.int (1 : Int32))])) (fun t k => XS.iload X50.here hx rfl (hb hby at_190) rfl k) ?_
    refine step (T50.setTop (mkF m 193 #[.val (.int p0), .val (.int p1), .val (.int p2), .val (.int p3), .val (.int (1 : Int32)), .val (.ref b4_1), .val (.ref b4_5), .val (.ref b4_9), .val (.ref b14), .val (.ref b14)] [(.int (2 : Int32)), (.int (1 : Int32))])) (fun t k => XS.iconst X50.here hx rfl (hb hby at_192) k) ?_
    refine step (T50.setTop (mkF m 226 #[.val (.int p0), .val (.int p1), .val (.int p2), .val (.int p3), .val (.int (1 : Int32)), .val (.ref b4_1), .val (.ref b4_5), .val (.ref b4_9), .val (.ref b14), .val (.ref b14)] [])) (fun t k => XS.icmpYes X50.here hx rfl (pc0 := 193) (pc' := 226) rfl (hb hby at_193) rfl (flt (by decide : ¬ ((2 : Int32) < (1 : Int32)))).2.2.2 (by decide) (by decide) k) ?_
    refine step (T50.setTop (mkF m 227 #[.val (.int p0), .val (.int p1), .val (.int p2), .val (.int p3), .val (.int (1 : Int32)), .val (.ref b4_1), .val (.ref b4_5), .val (.ref b4_9), .val (.ref b14), .val (.ref b14)] [(.int (1 : Int32))])) (fun t k => XS.iconst X50.here hx rfl (hb hby at_226) k) ?_
    refine fin (v := some (.int (nar .boolean (1 : Int32)))) X50 (fun h => by cases h) ?_ (by decide) (by decide) (fun fs hr => retN X50 hx (t := .boolean) hret (by simp) (hb hby at_227) hr)
    show Q0 Z p0 p1 p2 p3 cs aD kD h0 n0 (some (.int (nar .boolean (1 : Int32)))) T50.heap _
    rw [e50q]
    exact ⟨rfl, N50⟩
  · -- kk = 2
    show G (T21.setTop (mkF m 47 #[.val (.int p0), .val (.int p1), .val (.int p2), .val (.int p3), .val (.int (2 : Int32)), .val (.ref b4_1), .val (.ref b4_5), .val (.ref b4_9), .val (.ref b14), .unset] []))
    refine step (T21.setTop (mkF m 49 #[.val (.int p0), .val (.int p1), .val (.int p2), .val (.int p3), .val (.int (2 : Int32)), .val (.ref b4_1), .val (.ref b4_5), .val (.ref b4_9), .val (.ref b14), .unset] [(.int (2 : Int32))])) (fun t k => XS.iload X21.here hx rfl (hb hby at_47) rfl k) ?_
    refine step (T21.setTop (mkF m 52 #[.val (.int p0), .val (.int p1), .val (.int p2), .val (.int p3), .val (.int (2 : Int32)), .val (.ref b4_1), .val (.ref b4_5), .val (.ref b4_9), .val (.ref b14), .unset] [])) (fun t k => XS.ifNo X21.here hx rfl (hb hby at_49) rfl ((if0 _ _).trans (tlt (by decide : (0 : Int32) < (2 : Int32))).2.2.2) k) ?_
    refine step (T21.setTop (mkF m 54 #[.val (.int p0), .val (.int p1), .val (.int p2), .val (.int p3), .val (.int (2 : Int32)), .val (.ref b4_1), .val (.ref b4_5), .val (.ref b4_9), .val (.ref b14), .unset] [(.ref b14)])) (fun t k => XS.aload X21.here hx rfl (hb hby at_52) rfl rfl k) ?_
    refine step (T21.setTop (mkF m 56 #[.val (.int p0), .val (.int p1), .val (.int p2), .val (.int p3), .val (.int (2 : Int32)), .val (.ref b4_1), .val (.ref b4_5), .val (.ref b4_9), .val (.ref b14), .unset] [(.ref b4_1), (.ref b14)])) (fun t k => XS.aload X21.here hx rfl (hb hby at_54) rfl rfl k) ?_
    have f51 := (A14.keep K21q)
    have f52 := ((f16.ext E14).keep K21q)
    have f53 := ((f15.ext E14).keep K21q (ninS ne_aD_b14 nin0))
    obtain ⟨cq54, kq54, q54a, q54b, q54c⟩ := isOf hZ e21 f51
    obtain ⟨_, _, ⟨T54, L54, k54, n54⟩, -, X54, ⟨Lc54, hQ54, l54, y54, z54⟩, st54⟩ := X21.virtualBack hx (y := (⟨"java/util/ArrayList", "add", "(Ljava/lang/Object;)Z"⟩ : MethodName)) (z := (⟨"java/util/ArrayList", "add", "(Ljava/lang/Object;)Z"⟩ : MethodName)) hown (mvT hZ (hw _ (List.mem_of_getElem? (i := 62) rfl))) (mvT hZ (hw _ (List.mem_of_getElem? (i := 63) rfl))) (notFace_of_selects (args := #[]) (mvT hZ (hw _ (List.mem_of_getElem? (i := 65) rfl)))) (mvT hZ (hw _ (List.mem_of_getElem? (i := 65) rfl))) (mvT hZ (hw _ (List.mem_of_getElem? (i := 64) rfl))) (by decide) (backOf (W := 0) (rm11_10 l Z a0 hw [] b14 b4_1 aD kD h21 n0 (Nat.le_trans Z0 K21.1) f24 f51 q0_21 q1_21 q2_21 f52 f53 gn_b14 (Ne.symm ne_b4_1_b14) (Ne.symm ne_aD_b14) gn_b4_1 (Ne.symm ne_aD_b4_1)) hZ (hw _ (List.mem_of_getElem? (i := 66) rfl)) (hw _ (List.mem_of_getElem? (i := 28) rfl)) (by decide) (by decide)) q54a q54c (g := (mkF m 56 #[.val (.int p0), .val (.int p1), .val (.int p2), .val (.int p3), .val (.int (2 : Int32)), .val (.ref b4_1), .val (.ref b4_5), .val (.ref b4_9), .val (.ref b14), .unset] [(.ref b4_1), (.ref b14)])) rfl (by rw [hml]; rfl) (Steps.refl _) (argsL := [(.ref b4_1)]) (rest := []) (lenOf pd_2 rfl) rfl (by show 2 * 0 + _ ≤ _; exact Nat.le_of_eq rfl) (hb hby at_56) (fun _ _ => ⟨rfl, e21, (by decide : 7 + 1 ≤ _), (by decide : 18 + 10 ≤ _)⟩)
    dsimp only [Pt.U, Pt.locs, Pt.cells, Pt.slots] at X54 l54 y54 z54 st54 hQ54
    subst l54 y54 z54
    obtain ⟨h54, e54⟩ : ∃ z, T54.heap = z := ⟨_, rfl⟩
    rw [e54] at hQ54
    obtain ⟨b6_2_2_11_54, k6_2_2_11_54, rfl, N54q, K54q, sz_b6_2_2_11_54, q0_54, q1_54, q2_54, q3_54, ov0_54⟩ := hQ54
    have N54 := Fr.app N21 N54q
    have lt54_aD := f53.lt
    have lt54_b4_1 := f52.lt
    have f55 := ((f17.ext E14).keep K21q (ninS ne_b1_5_1_b14 nin0))
    have lt54_b1_5_1 := f55.lt
    have f56 := ((f18.ext E14).keep K21q)
    have lt54_b4_5 := f56.lt
    have f57 := ((f19.ext E14).keep K21q (ninS ne_b1_5_5_b14 nin0))
    have lt54_b1_5_5 := f57.lt
    have f58 := ((q0_9.ext E14).keep K21q)
    have lt54_b4_9 := f58.lt
    have f59 := ((q3_9.ext E14).keep K21q (ninS ne_b1_5_9_b14 nin0))
    have lt54_b1_5_9 := f59.lt
    have lt54_b14 := f51.lt
    have ne_aD_b6_2_2_11_54 : aD ≠ b6_2_2_11_54 := Nat.ne_of_lt (Nat.lt_of_lt_of_le lt54_aD sz_b6_2_2_11_54)
    have ne_b4_1_b6_2_2_11_54 : b4_1 ≠ b6_2_2_11_54 := Nat.ne_of_lt (Nat.lt_of_lt_of_le lt54_b4_1 sz_b6_2_2_11_54)
    have ne_b1_5_1_b6_2_2_11_54 : b1_5_1 ≠ b6_2_2_11_54 := Nat.ne_of_lt (Nat.lt_of_lt_of_le lt54_b1_5_1 sz_b6_2_2_11_54)
    have ne_b4_5_b6_2_2_11_54 : b4_5 ≠ b6_2_2_11_54 := Nat.ne_of_lt (Nat.lt_of_lt_of_le lt54_b4_5 sz_b6_2_2_11_54)
    have ne_b1_5_5_b6_2_2_11_54 : b1_5_5 ≠ b6_2_2_11_54 := Nat.ne_of_lt (Nat.lt_of_lt_of_le lt54_b1_5_5 sz_b6_2_2_11_54)
    have ne_b4_9_b6_2_2_11_54 : b4_9 ≠ b6_2_2_11_54 := Nat.ne_of_lt (Nat.lt_of_lt_of_le lt54_b4_9 sz_b6_2_2_11_54)
    have ne_b1_5_9_b6_2_2_11_54 : b1_5_9 ≠ b6_2_2_11_54 := Nat.ne_of_lt (Nat.lt_of_lt_of_le lt54_b1_5_9 sz_b6_2_2_11_54)
    have ne_b14_b6_2_2_11_54 : b14 ≠ b6_2_2_11_54 := Nat.ne_of_lt (Nat.lt_of_lt_of_le lt54_b14 sz_b6_2_2_11_54)
    have gn_b6_2_2_11_54 : n0 ≤ b6_2_2_11_54 := Nat.le_trans (Nat.le_trans Z0 K21.1) sz_b6_2_2_11_54
    have sz_b6_2_2_11_54' := Nat.le_trans K21.1 sz_b6_2_2_11_54
    replace sz_b6_2_2_11_54 := sz_b6_2_2_11_54'
    have K54 : Keep h0 h54 [] := K21.trans K54q (allS (Or.inr sz_b14) all0)
    have f60 := own_staK f23 K54q (allS (own_exaP f51) all0)
    have f61 := own_staK f24 K54q (allS (own_exaP f51) all0)
    refine step (T54.setTop (mkF m 59 #[.val (.int p0), .val (.int p1), .val (.int p2), .val (.int p3), .val (.int (2 : Int32)), .val (.ref b4_1), .val (.ref b4_5), .val (.ref b4_9), .val (.ref b14), .unset] [(.int (1 : Int32))])) (fun t k => st54.trans k) ?_
    refine step (T54.setTop (mkF m 60 #[.val (.int p0), .val (.int p1), .val (.int p2), .val (.int p3), .val (.int (2 : Int32)), .val (.ref b4_1), .val (.ref b4_5), .val (.ref b4_9), .val (.ref b14), .unset] [])) (fun t k => XS.pop X54.here hx rfl (hb hby at_59) rfl rfl k) ?_
    refine step (T54.setTop (mkF m 62 #[.val (.int p0), .val (.int p1), .val (.int p2), .val (.int p3), .val (.int (2 : Int32)), .val (.ref b4_1), .val (.ref b4_5), .val (.ref b4_9), .val (.ref b14), .unset] [(.int (2 : Int32))])) (fun t k => XS.iload X54.here hx rfl (hb hby at_60) rfl k) ?_
    refine step (T54.setTop (mkF m 63 #[.val (.int p0), .val (.int p1), .val (.int p2), .val (.int p3), .val (.int (2 : Int32)), .val (.ref b4_1), .val (.ref b4_5), .val (.ref b4_9), .val (.ref b14), .unset] [(.int (1 : Int32)), (.int (2 : Int32))])) (fun t k => XS.iconst X54.here hx rfl (hb hby at_62) k) ?_
    refine step (T54.setTop (mkF m 66 #[.val (.int p0), .val (.int p1), .val (.int p2), .val (.int p3), .val (.int (2 : Int32)), .val (.ref b4_1), .val (.ref b4_5), .val (.ref b4_9), .val (.ref b14), .unset] [])) (fun t k => XS.icmpNo X54.here hx rfl (hb hby at_63) rfl (tlt (by decide : (1 : Int32) < (2 : Int32))).2.2.2 k) ?_
    refine step (T54.setTop (mkF m 68 #[.val (.int p0), .val (.int p1), .val (.int p2), .val (.int p3), .val (.int (2 : Int32)), .val (.ref b4_1), .val (.ref b4_5), .val (.ref b4_9), .val (.ref b14), .unset] [(.ref b14)])) (fun t k => XS.aload X54.here hx rfl (hb hby at_66) rfl rfl k) ?_
    refine step (T54.setTop (mkF m 70 #[.val (.int p0), .val (.int p1), .val (.int p2), .val (.int p3), .val (.int (2 : Int32)), .val (.ref b4_1), .val (.ref b4_5), .val (.ref b4_9), .val (.ref b14), .unset] [(.ref b4_5), (.ref b14)])) (fun t k => XS.aload X54.here hx rfl (hb hby at_68) rfl rfl k) ?_
    have f62 := (f51.keep K54q)
    have f63 := (f56.keep K54q)
    have f64 := (f53.keep K54q (ninS ne_aD_b14 nin0))
    have f65 := (f52.keep K54q)
    obtain ⟨cq66, kq66, q66a, q66b, q66c⟩ := isOf hZ e54 f62
    obtain ⟨_, _, ⟨T66, L66, k66, n66⟩, -, X66, ⟨Lc66, hQ66, l66, y66, z66⟩, st66⟩ := X54.virtualBack hx (y := (⟨"java/util/ArrayList", "add", "(Ljava/lang/Object;)Z"⟩ : MethodName)) (z := (⟨"java/util/ArrayList", "add", "(Ljava/lang/Object;)Z"⟩ : MethodName)) hown (mvT hZ (hw _ (List.mem_of_getElem? (i := 62) rfl))) (mvT hZ (hw _ (List.mem_of_getElem? (i := 63) rfl))) (notFace_of_selects (args := #[]) (mvT hZ (hw _ (List.mem_of_getElem? (i := 65) rfl)))) (mvT hZ (hw _ (List.mem_of_getElem? (i := 65) rfl))) (mvT hZ (hw _ (List.mem_of_getElem? (i := 64) rfl))) (by decide) (backOf (W := 0) (rm11_21 l Z a0 hw [] b14 b4_5 aD b6_2_2_11_54 kD k6_2_2_11_54 b4_1 h54 n0 (Nat.le_trans Z0 K54.1) f61 f62 q0_54 q1_54 q2_54 f63 f64 q3_54 ov0_54 f65 gn_b14 (Ne.symm ne_b4_5_b14) (Ne.symm ne_aD_b14) ne_b14_b6_2_2_11_54 (Ne.symm ne_b4_1_b14) gn_b4_5 (Ne.symm ne_aD_b4_5) ne_b4_5_b6_2_2_11_54 (Ne.symm ne_b4_1_b4_5) ne_aD_b6_2_2_11_54 ne_aD_b4_1 gn_b6_2_2_11_54 (Ne.symm ne_b4_1_b6_2_2_11_54) gn_b4_1) hZ (hw _ (List.mem_of_getElem? (i := 66) rfl)) (hw _ (List.mem_of_getElem? (i := 28) rfl)) (by decide) (by decide)) q66a q66c (g := (mkF m 70 #[.val (.int p0), .val (.int p1), .val (.int p2), .val (.int p3), .val (.int (2 : Int32)), .val (.ref b4_1), .val (.ref b4_5), .val (.ref b4_9), .val (.ref b14), .unset] [(.ref b4_5), (.ref b14)])) rfl (by rw [hml]; rfl) (Steps.refl _) (argsL := [(.ref b4_5)]) (rest := []) (lenOf pd_2 rfl) rfl (by show 2 * 0 + _ ≤ _; exact Nat.le_of_eq rfl) (hb hby at_70) (fun _ _ => ⟨rfl, e54, (by decide : 8 + 0 ≤ _), (by decide : 28 + 0 ≤ _)⟩)
    dsimp only [Pt.U, Pt.locs, Pt.cells, Pt.slots] at X66 l66 y66 z66 st66 hQ66
    subst l66 y66 z66
    obtain ⟨h66, e66⟩ : ∃ z, T66.heap = z := ⟨_, rfl⟩
    rw [e66] at hQ66
    obtain ⟨rfl, N66q, K66q, q0_66, q1_66, q2_66, q3_66⟩ := hQ66
    have N66 := Fr.app N54 N66q
    have K66 : Keep h0 h66 [] := K54.trans K66q (allS (Or.inr sz_b14) (allS (Or.inr sz_b6_2_2_11_54) all0))
    have f67 := own_staK f60 K66q (allS (own_exaP f62) (allS (own_arvP q3_54) all0))
    have f68 := own_staK f61 K66q (allS (own_exaP f62) (allS (own_arvP q3_54) all0))
    refine step (T66.setTop (mkF m 73 #[.val (.int p0), .val (.int p1), .val (.int p2), .val (.int p3), .val (.int (2 : Int32)), .val (.ref b4_1), .val (.ref b4_5), .val (.ref b4_9), .val (.ref b14), .unset] [(.int (1 : Int32))])) (fun t k => st66.trans k) ?_
    refine step (T66.setTop (mkF m 74 #[.val (.int p0), .val (.int p1), .val (.int p2), .val (.int p3), .val (.int (2 : Int32)), .val (.ref b4_1), .val (.ref b4_5), .val (.ref b4_9), .val (.ref b14), .unset] [])) (fun t k => XS.pop X66.here hx rfl (hb hby at_73) rfl rfl k) ?_
    refine step (T66.setTop (mkF m 76 #[.val (.int p0), .val (.int p1), .val (.int p2), .val (.int p3), .val (.int (2 : Int32)), .val (.ref b4_1), .val (.ref b4_5), .val (.ref b4_9), .val (.ref b14), .unset] [(.int (2 : Int32))])) (fun t k => XS.iload X66.here hx rfl (hb hby at_74) rfl k) ?_
    refine step (T66.setTop (mkF m 77 #[.val (.int p0), .val (.int p1), .val (.int p2), .val (.int p3), .val (.int (2 : Int32)), .val (.ref b4_1), .val (.ref b4_5), .val (.ref b4_9), .val (.ref b14), .unset] [(.int (2 : Int32)), (.int (2 : Int32))])) (fun t k => XS.iconst X66.here hx rfl (hb hby at_76) k) ?_
    refine step (T66.setTop (mkF m 88 #[.val (.int p0), .val (.int p1), .val (.int p2), .val (.int p3), .val (.int (2 : Int32)), .val (.ref b4_1), .val (.ref b4_5), .val (.ref b4_9), .val (.ref b14), .unset] [])) (fun t k => XS.icmpYes X66.here hx rfl (pc0 := 77) (pc' := 88) rfl (hb hby at_77) rfl (flt (by decide : ¬ ((2 : Int32) < (2 : Int32)))).2.2.2 (by decide) (by decide) k) ?_
    refine step (T66.setTop (mkF m 90 #[.val (.int p0), .val (.int p1), .val (.int p2), .val (.int p3), .val (.int (2 : Int32)), .val (.ref b4_1), .val (.ref b4_5), .val (.ref b4_9), .val (.ref b14), .unset] [(.ref b14)])) (fun t k => XS.aload X66.here hx rfl (hb hby at_88) rfl rfl k) ?_
    have f69 := (f62.keep K66q)
    obtain ⟨_, _, ⟨T70, L70, k70, n70⟩, -, X70, ⟨Lc70, hQ70, l70, y70, z70⟩, st70⟩ := Jvm.LawKit.callS X66 hx (y := (⟨"com/example/dibs/dibs/sketch/Items", "requireBatch", "(Ljava/util/Collection;)Ljava/util/Collection;"⟩ : MethodName)) hown (mvT hZ (hw _ (List.mem_of_getElem? (i := 50) rfl))) (mvT hZ (hw _ (List.mem_of_getElem? (i := 51) rfl))) (mvT hZ (hw _ (List.mem_of_getElem? (i := 52) rfl))) (mvT hZ (hw _ (List.mem_of_getElem? (i := 53) rfl))) (by decide) (backOf (W := 0) (rm9_8 l Z a0 hw [] b14 h66 n0 (Nat.le_trans Z0 K66.1) f69 gn_b14) hZ (hw _ (List.mem_of_getElem? (i := 53) rfl)) (hw _ (List.mem_of_getElem? (i := 52) rfl)) (by decide) (by decide)) (g := (mkF m 90 #[.val (.int p0), .val (.int p1), .val (.int p2), .val (.int p3), .val (.int (2 : Int32)), .val (.ref b4_1), .val (.ref b4_5), .val (.ref b4_9), .val (.ref b14), .unset] [(.ref b14)])) rfl (by rw [hml]; rfl) (argsL := [(.ref b14)]) (rest := []) (lenOf pd_3 rfl) rfl (by show 2 * 0 + _ ≤ _; exact Nat.le_of_eq rfl) (hb hby at_90) (fun _ _ => ⟨rfl, e66, (by decide : 8 + 0 ≤ _), (by decide : 28 + 0 ≤ _)⟩)
    dsimp only [Pt.U, Pt.locs, Pt.cells, Pt.slots] at X70 l70 y70 z70 st70 hQ70
    subst l70 y70 z70
    obtain ⟨rfl, N70q, e70q⟩ := hQ70
    have N70 := Fr.app N66 N70q
    refine step (T70.setTop (mkF m 93 #[.val (.int p0), .val (.int p1), .val (.int p2), .val (.int p3), .val (.int (2 : Int32)), .val (.ref b4_1), .val (.ref b4_5), .val (.ref b4_9), .val (.ref b14), .unset] [(.ref b14)])) (fun t k => st70 t k) ?_
    obtain ⟨T71, X71, e71, st71⟩ := castY X70 hx hZ hown (hw _ (List.mem_of_getElem? (i := 26) rfl)) e70q (Ins.self f69) (g := (mkF m 93 #[.val (.int p0), .val (.int p1), .val (.int p2), .val (.int p3), .val (.int (2 : Int32)), .val (.ref b4_1), .val (.ref b4_5), .val (.ref b4_9), .val (.ref b14), .unset] [(.ref b14)])) rfl rfl (hb hby at_93)
    refine step (T71.setTop (mkF m 96 #[.val (.int p0), .val (.int p1), .val (.int p2), .val (.int p3), .val (.int (2 : Int32)), .val (.ref b4_1), .val (.ref b4_5), .val (.ref b4_9), .val (.ref b14), .unset] [(.ref b14)])) (fun t k => st71 t k) ?_
    refine step (T71.setTop (mkF m 98 #[.val (.int p0), .val (.int p1), .val (.int p2), .val (.int p3), .val (.int (2 : Int32)), .val (.ref b4_1), .val (.ref b4_5), .val (.ref b4_9), .val (.ref b14), .val (.ref b14)] [])) (fun t k => XS.astore X71.here hx rfl (hb hby at_96) rfl rfl (l' := #[.val (.int p0), .val (.int p1), .val (.int p2), .val (.int p3), .val (.int (2 : Int32)), .val (.ref b4_1), .val (.ref b4_5), .val (.ref b4_9), .val (.ref b14), .val (.ref b14)]) rfl k) ?_
    refine step (T71.setTop (mkF m 100 #[.val (.int p0), .val (.int p1), .val (.int p2), .val (.int p3), .val (.int (2 : Int32)), .val (.ref b4_1), .val (.ref b4_5), .val (.ref b4_9), .val (.ref b14), .val (.ref b14)] [(.ref b14)])) (fun t k => XS.aload X71.here hx rfl (hb hby at_98) rfl rfl k) ?_
    refine step (T71.setTop (mkF m 102 #[.val (.int p0), .val (.int p1), .val (.int p2), .val (.int p3), .val (.int (2 : Int32)), .val (.ref b4_1), .val (.ref b4_5), .val (.ref b4_9), .val (.ref b14), .val (.ref b14)] [(.ref b14), (.ref b14)])) (fun t k => XS.aload X71.here hx rfl (hb hby at_100) rfl rfl k) ?_
    refine step (T71.setTop (mkF m 107 #[.val (.int p0), .val (.int p1), .val (.int p2), .val (.int p3), .val (.int (2 : Int32)), .val (.ref b4_1), .val (.ref b4_5), .val (.ref b4_9), .val (.ref b14), .val (.ref b14)] [])) (fun t k => Jvm.RoadKit.acmp (g := (mkF m 102 #[.val (.int p0), .val (.int p1), .val (.int p2), .val (.int p3), .val (.int (2 : Int32)), .val (.ref b4_1), .val (.ref b4_5), .val (.ref b4_9), .val (.ref b14), .val (.ref b14)] [(.ref b14), (.ref b14)])) X71 hx rfl rfl rfl (pc0 := 102) (pc' := 107) (same := true) rfl (hb hby at_102) rfl (decide_eq_true rfl) (by decide) (by decide) k) ?_
    refine step (T71.setTop (mkF m 109 #[.val (.int p0), .val (.int p1), .val (.int p2), .val (.int p3), .val (.int (2 : Int32)), .val (.ref b4_1), .val (.ref b4_5), .val (.ref b4_9), .val (.ref b14), .val (.ref b14)] [(.ref b14)])) (fun t k => XS.aload X71.here hx rfl (hb hby at_107) rfl rfl k) ?_
    obtain ⟨cq72, kq72, q72a, q72b, q72c⟩ := isOf hZ e71 f69
    obtain ⟨_, _, ⟨T72, L72, k72, n72⟩, -, X72, ⟨Lc72, hQ72, l72, y72, z72⟩, st72⟩ := X71.virtualBack hx (y := (⟨"java/util/ArrayList", "size", "()I"⟩ : MethodName)) (z := (⟨"java/util/ArrayList", "size", "()I"⟩ : MethodName)) hown (mvT hZ (hw _ (List.mem_of_getElem? (i := 55) rfl))) (mvT hZ (hw _ (List.mem_of_getElem? (i := 56) rfl))) (notFace_of_selects (args := #[]) (mvT hZ (hw _ (List.mem_of_getElem? (i := 58) rfl)))) (mvT hZ (hw _ (List.mem_of_getElem? (i := 58) rfl))) (mvT hZ (hw _ (List.mem_of_getElem? (i := 57) rfl))) (by decide) (backOf (W := 0) (rm10_23 l Z a0 hw [] b14 h66 n0 (Nat.le_trans Z0 K66.1) f69 q2_66 gn_b14) hZ (hw _ (List.mem_of_getElem? (i := 59) rfl)) (hw _ (List.mem_of_getElem? (i := 28) rfl)) (by decide) (by decide)) q72a q72c (g := (mkF m 109 #[.val (.int p0), .val (.int p1), .val (.int p2), .val (.int p3), .val (.int (2 : Int32)), .val (.ref b4_1), .val (.ref b4_5), .val (.ref b4_9), .val (.ref b14), .val (.ref b14)] [(.ref b14)])) rfl (by rw [hml]; rfl) (Steps.refl _) (argsL := []) (rest := []) (lenOf pd_4 rfl) rfl (by show 2 * 0 + _ ≤ _; exact Nat.le_of_eq rfl) (hb hby at_109) (fun _ _ => ⟨rfl, e71, (by decide : 8 + 0 ≤ _), (by decide : 28 + 0 ≤ _)⟩)
    dsimp only [Pt.U, Pt.locs, Pt.cells, Pt.slots] at X72 l72 y72 z72 st72 hQ72
    subst l72 y72 z72
    obtain ⟨rfl, N72q, e72q⟩ := hQ72
    have N72 := Fr.app N70 N72q
    refine step (T72.setTop (mkF m 112 #[.val (.int p0), .val (.int p1), .val (.int p2), .val (.int p3), .val (.int (2 : Int32)), .val (.ref b4_1), .val (.ref b4_5), .val (.ref b4_9), .val (.ref b14), .val (.ref b14)] [(.int (2 : Int32))])) (fun t k => st72.trans k) ?_
    refine step (T72.setTop (mkF m 114 #[.val (.int p0), .val (.int p1), .val (.int p2), .val (.int p3), .val (.int (2 : Int32)), .val (.ref b4_1), .val (.ref b4_5), .val (.ref b4_9), .val (.ref b14), .val (.ref b14)] [(.int (2 : Int32)), (.int (2 : Int32))])) (fun t k => XS.iload X72.here hx rfl (hb hby at_112) rfl k) ?_
    refine step (T72.setTop (mkF m 119 #[.val (.int p0), .val (.int p1), .val (.int p2), .val (.int p3), .val (.int (2 : Int32)), .val (.ref b4_1), .val (.ref b4_5), .val (.ref b4_9), .val (.ref b14), .val (.ref b14)] [])) (fun t k => XS.icmpYes X72.here hx rfl (pc0 := 114) (pc' := 119) rfl (hb hby at_114) rfl (teq (by decide : (2 : Int32) = (2 : Int32))).1 (by decide) (by decide) k) ?_
    refine step (T72.setTop (mkF m 121 #[.val (.int p0), .val (.int p1), .val (.int p2), .val (.int p3), .val (.int (2 : Int32)), .val (.ref b4_1), .val (.ref b4_5), .val (.ref b4_9), .val (.ref b14), .val (.ref b14)] [(.int (2 : Int32))])) (fun t k => XS.iload X72.here hx rfl (hb hby at_119) rfl k) ?_
    refine step (T72.setTop (mkF m 124 #[.val (.int p0), .val (.int p1), .val (.int p2), .val (.int p3), .val (.int (2 : Int32)), .val (.ref b4_1), .val (.ref b4_5), .val (.ref b4_9), .val (.ref b14), .val (.ref b14)] [])) (fun t k => XS.ifNo X72.here hx rfl (hb hby at_121) rfl ((if0 _ _).trans (tlt (by decide : (0 : Int32) < (2 : Int32))).2.2.2) k) ?_
    refine step (T72.setTop (mkF m 126 #[.val (.int p0), .val (.int p1), .val (.int p2), .val (.int p3), .val (.int (2 : Int32)), .val (.ref b4_1), .val (.ref b4_5), .val (.ref b4_9), .val (.ref b14), .val (.ref b14)] [(.ref b14)])) (fun t k => XS.aload X72.here hx rfl (hb hby at_124) rfl rfl k) ?_
    refine step (T72.setTop (mkF m 127 #[.val (.int p0), .val (.int p1), .val (.int p2), .val (.int p3), .val (.int (2 : Int32)), .val (.ref b4_1), .val (.ref b4_5), .val (.ref b4_9), .val (.ref b14), .val (.ref b14)] [(.int (0 : Int32)), (.ref b14)])) (fun t k => XS.iconst X72.here hx rfl (hb hby at_126) k) ?_
    have f73 := (f65.keep K66q)
    have f74 := (f63.keep K66q)
    obtain ⟨cq75, kq75, q75a, q75b, q75c⟩ := isOf hZ e72q f69
    obtain ⟨_, _, ⟨T75, L75, k75, n75⟩, -, X75, ⟨Lc75, hQ75, l75, y75, z75⟩, st75⟩ := X72.virtualBack hx (y := (⟨"java/util/ArrayList", "get", "(I)Ljava/lang/Object;"⟩ : MethodName)) (z := (⟨"java/util/ArrayList", "get", "(I)Ljava/lang/Object;"⟩ : MethodName)) hown (mvT hZ (hw _ (List.mem_of_getElem? (i := 91) rfl))) (mvT hZ (hw _ (List.mem_of_getElem? (i := 92) rfl))) (notFace_of_selects (args := #[]) (mvT hZ (hw _ (List.mem_of_getElem? (i := 94) rfl)))) (mvT hZ (hw _ (List.mem_of_getElem? (i := 94) rfl))) (mvT hZ (hw _ (List.mem_of_getElem? (i := 93) rfl))) (by decide) (backOf (W := 0) (rm16_24 l Z a0 hw [] b14 b6_2_2_11_54 k6_2_2_11_54 b4_1 b4_5 h66 n0 (Nat.le_trans Z0 K66.1) f69 q0_66 q2_66 q3_66 ov0_54 f73 f74 gn_b14 ne_b14_b6_2_2_11_54 (Ne.symm ne_b4_1_b14) (Ne.symm ne_b4_5_b14) gn_b6_2_2_11_54 (Ne.symm ne_b4_1_b6_2_2_11_54) (Ne.symm ne_b4_5_b6_2_2_11_54) gn_b4_1 ne_b4_1_b4_5 gn_b4_5) hZ (hw _ (List.mem_of_getElem? (i := 95) rfl)) (hw _ (List.mem_of_getElem? (i := 28) rfl)) (by decide) (by decide)) q75a q75c (g := (mkF m 127 #[.val (.int p0), .val (.int p1), .val (.int p2), .val (.int p3), .val (.int (2 : Int32)), .val (.ref b4_1), .val (.ref b4_5), .val (.ref b4_9), .val (.ref b14), .val (.ref b14)] [(.int (0 : Int32)), (.ref b14)])) rfl (by rw [hml]; rfl) (Steps.refl _) (argsL := [(.int (0 : Int32))]) (rest := []) (lenOf pd_5 rfl) rfl (by show 2 * 0 + _ ≤ _; exact Nat.le_of_eq rfl) (hb hby at_127) (fun _ _ => ⟨rfl, e72q, (by decide : 8 + 0 ≤ _), (by decide : 28 + 0 ≤ _)⟩)
    dsimp only [Pt.U, Pt.locs, Pt.cells, Pt.slots] at X75 l75 y75 z75 st75 hQ75
    subst l75 y75 z75
    obtain ⟨rfl, N75q, e75q⟩ := hQ75
    have N75 := Fr.app N72 N75q
    refine step (T75.setTop (mkF m 130 #[.val (.int p0), .val (.int p1), .val (.int p2), .val (.int p3), .val (.int (2 : Int32)), .val (.ref b4_1), .val (.ref b4_5), .val (.ref b4_9), .val (.ref b14), .val (.ref b14)] [(.ref b4_1)])) (fun t k => st75.trans k) ?_
    refine step (T75.setTop (mkF m 132 #[.val (.int p0), .val (.int p1), .val (.int p2), .val (.int p3), .val (.int (2 : Int32)), .val (.ref b4_1), .val (.ref b4_5), .val (.ref b4_9), .val (.ref b14), .val (.ref b14)] [(.ref b4_1), (.ref b4_1)])) (fun t k => XS.aload X75.here hx rfl (hb hby at_130) rfl rfl k) ?_
    refine step (T75.setTop (mkF m 135 #[.val (.int p0), .val (.int p1), .val (.int p2), .val (.int p3), .val (.int (2 : Int32)), .val (.ref b4_1), .val (.ref b4_5), .val (.ref b4_9), .val (.ref b14), .val (.ref b14)] [])) (fun t k => Jvm.RoadKit.acmp (g := (mkF m 132 #[.val (.int p0), .val (.int p1), .val (.int p2), .val (.int p3), .val (.int (2 : Int32)), .val (.ref b4_1), .val (.ref b4_5), .val (.ref b4_9), .val (.ref b14), .val (.ref b14)] [(.ref b4_1), (.ref b4_1)])) X75 hx rfl rfl rfl (pc0 := 132) (pc' := 135) (same := true) rfl (hb hby at_132) rfl (decide_eq_true rfl) (by decide) (by decide) k) ?_
    refine step (T75.setTop (mkF m 137 #[.val (.int p0), .val (.int p1), .val (.int p2), .val (.int p3), .val (.int (2 : Int32)), .val (.ref b4_1), .val (.ref b4_5), .val (.ref b4_9), .val (.ref b14), .val (.ref b14)] [(.ref b14)])) (fun t k => XS.aload X75.here hx rfl (hb hby at_135) rfl rfl k) ?_
    refine step (T75.setTop (mkF m 138 #[.val (.int p0), .val (.int p1), .val (.int p2), .val (.int p3), .val (.int (2 : Int32)), .val (.ref b4_1), .val (.ref b4_5), .val (.ref b4_9), .val (.ref b14), .val (.ref b14)] [(.int (0 : Int32)), (.ref b14)])) (fun t k => XS.iconst X75.here hx rfl (hb hby at_137) k) ?_
    obtain ⟨cq76, kq76, q76a, q76b, q76c⟩ := isOf hZ e75q f69
    obtain ⟨_, _, ⟨T76, L76, k76, n76⟩, -, X76, ⟨Lc76, hQ76, l76, y76, z76⟩, st76⟩ := X75.virtualBack hx (y := (⟨"java/util/ArrayList", "get", "(I)Ljava/lang/Object;"⟩ : MethodName)) (z := (⟨"java/util/ArrayList", "get", "(I)Ljava/lang/Object;"⟩ : MethodName)) hown (mvT hZ (hw _ (List.mem_of_getElem? (i := 91) rfl))) (mvT hZ (hw _ (List.mem_of_getElem? (i := 92) rfl))) (notFace_of_selects (args := #[]) (mvT hZ (hw _ (List.mem_of_getElem? (i := 94) rfl)))) (mvT hZ (hw _ (List.mem_of_getElem? (i := 94) rfl))) (mvT hZ (hw _ (List.mem_of_getElem? (i := 93) rfl))) (by decide) (backOf (W := 0) (rm16_24 l Z a0 hw [] b14 b6_2_2_11_54 k6_2_2_11_54 b4_1 b4_5 h66 n0 (Nat.le_trans Z0 K66.1) f69 q0_66 q2_66 q3_66 ov0_54 f73 f74 gn_b14 ne_b14_b6_2_2_11_54 (Ne.symm ne_b4_1_b14) (Ne.symm ne_b4_5_b14) gn_b6_2_2_11_54 (Ne.symm ne_b4_1_b6_2_2_11_54) (Ne.symm ne_b4_5_b6_2_2_11_54) gn_b4_1 ne_b4_1_b4_5 gn_b4_5) hZ (hw _ (List.mem_of_getElem? (i := 95) rfl)) (hw _ (List.mem_of_getElem? (i := 28) rfl)) (by decide) (by decide)) q76a q76c (g := (mkF m 138 #[.val (.int p0), .val (.int p1), .val (.int p2), .val (.int p3), .val (.int (2 : Int32)), .val (.ref b4_1), .val (.ref b4_5), .val (.ref b4_9), .val (.ref b14), .val (.ref b14)] [(.int (0 : Int32)), (.ref b14)])) rfl (by rw [hml]; rfl) (Steps.refl _) (argsL := [(.int (0 : Int32))]) (rest := []) (lenOf pd_5 rfl) rfl (by show 2 * 0 + _ ≤ _; exact Nat.le_of_eq rfl) (hb hby at_138) (fun _ _ => ⟨rfl, e75q, (by decide : 8 + 0 ≤ _), (by decide : 28 + 0 ≤ _)⟩)
    dsimp only [Pt.U, Pt.locs, Pt.cells, Pt.slots] at X76 l76 y76 z76 st76 hQ76
    subst l76 y76 z76
    obtain ⟨rfl, N76q, e76q⟩ := hQ76
    have N76 := Fr.app N75 N76q
    refine step (T76.setTop (mkF m 141 #[.val (.int p0), .val (.int p1), .val (.int p2), .val (.int p3), .val (.int (2 : Int32)), .val (.ref b4_1), .val (.ref b4_5), .val (.ref b4_9), .val (.ref b14), .val (.ref b14)] [(.ref b4_1)])) (fun t k => st76.trans k) ?_
    obtain ⟨T77, X77, e77, st77⟩ := castY X76 hx hZ hown (hw _ (List.mem_of_getElem? (i := 109) rfl)) e76q (Ins.self f73) (g := (mkF m 141 #[.val (.int p0), .val (.int p1), .val (.int p2), .val (.int p3), .val (.int (2 : Int32)), .val (.ref b4_1), .val (.ref b4_5), .val (.ref b4_9), .val (.ref b14), .val (.ref b14)] [(.ref b4_1)])) rfl rfl (hb hby at_141)
    refine step (T77.setTop (mkF m 144 #[.val (.int p0), .val (.int p1), .val (.int p2), .val (.int p3), .val (.int (2 : Int32)), .val (.ref b4_1), .val (.ref b4_5), .val (.ref b4_9), .val (.ref b14), .val (.ref b14)] [(.ref b4_1)])) (fun t k => st77 t k) ?_
    refine step (T77.setTop (mkF m 146 #[.val (.int p0), .val (.int p1), .val (.int p2), .val (.int p3), .val (.int (2 : Int32)), .val (.ref b4_1), .val (.ref b4_5), .val (.ref b4_9), .val (.ref b14), .val (.ref b14)] [(.ref b4_1), (.ref b4_1)])) (fun t k => XS.aload X77.here hx rfl (hb hby at_144) rfl rfl k) ?_
    have f78 := ((((((q1_1.keep K5q nin0).keep K9q nin0).ext E14).keep K21q (ninS ne_b4_1_b14 nin0)).keep K54q (ninS ne_b4_1_b14 nin0)).keep K66q (ninS ne_b4_1_b14 (ninS ne_b4_1_b6_2_2_11_54 nin0)))
    have f79 := ((((((q2_1.keep K5q nin0).keep K9q nin0).ext E14).keep K21q (ninS ne_b4_1_b14 nin0)).keep K54q (ninS ne_b4_1_b14 nin0)).keep K66q (ninS ne_b4_1_b14 (ninS ne_b4_1_b6_2_2_11_54 nin0)))
    obtain ⟨cq80, kq80, q80a, q80b, q80c⟩ := isOf hZ e77 f73
    obtain ⟨_, _, ⟨T80, L80, k80, n80⟩, -, X80, ⟨Lc80, hQ80, l80, y80, z80⟩, st80⟩ := X77.virtualBack hx (y := (⟨"java/lang/String", "equals", "(Ljava/lang/Object;)Z"⟩ : MethodName)) (z := (⟨"java/lang/String", "equals", "(Ljava/lang/Object;)Z"⟩ : MethodName)) hown (mvT hZ (hw _ (List.mem_of_getElem? (i := 110) rfl))) (mvT hZ (hw _ (List.mem_of_getElem? (i := 111) rfl))) (notFace_of_selects (args := #[]) (mvT hZ (hw _ (List.mem_of_getElem? (i := 113) rfl)))) (mvT hZ (hw _ (List.mem_of_getElem? (i := 113) rfl))) (mvT hZ (hw _ (List.mem_of_getElem? (i := 112) rfl))) (by decide) (backOf (W := 0) (rm20_20 l Z a0 hw [] b4_1 cs b1_5_1 h66 n0 (Nat.le_trans Z0 K66.1) f67 f73 f78 f79 gn_b4_1 (Ne.symm ne_b1_5_b4_1) gn_b1_5_1 c_cs) hZ (hw _ (List.mem_of_getElem? (i := 114) rfl)) (hw _ (List.mem_of_getElem? (i := 2) rfl)) (by decide) (by decide)) q80a q80c (g := (mkF m 146 #[.val (.int p0), .val (.int p1), .val (.int p2), .val (.int p3), .val (.int (2 : Int32)), .val (.ref b4_1), .val (.ref b4_5), .val (.ref b4_9), .val (.ref b14), .val (.ref b14)] [(.ref b4_1), (.ref b4_1)])) rfl (by rw [hml]; rfl) (Steps.refl _) (argsL := [(.ref b4_1)]) (rest := []) (lenOf pd_2 rfl) rfl (by show 2 * 0 + _ ≤ _; exact Nat.le_of_eq rfl) (hb hby at_146) (fun _ _ => ⟨rfl, e77, (by decide : 8 + 0 ≤ _), (by decide : 28 + 0 ≤ _)⟩)
    dsimp only [Pt.U, Pt.locs, Pt.cells, Pt.slots] at X80 l80 y80 z80 st80 hQ80
    subst l80 y80 z80
    obtain ⟨rfl, N80q, e80q⟩ := hQ80
    have N80 := Fr.app N76 N80q
    refine step (T80.setTop (mkF m 149 #[.val (.int p0), .val (.int p1), .val (.int p2), .val (.int p3), .val (.int (2 : Int32)), .val (.ref b4_1), .val (.ref b4_5), .val (.ref b4_9), .val (.ref b14), .val (.ref b14)] [(.int (1 : Int32))])) (fun t k => st80.trans k) ?_
    refine step (T80.setTop (mkF m 154 #[.val (.int p0), .val (.int p1), .val (.int p2), .val (.int p3), .val (.int (2 : Int32)), .val (.ref b4_1), .val (.ref b4_5), .val (.ref b4_9), .val (.ref b14), .val (.ref b14)] [])) (fun t k => XS.ifYes X80.here hx rfl (pc0 := 149) (pc' := 154) rfl (hb hby at_149) rfl ((if0 _ _).trans (feq (by decide : ¬ ((1 : Int32) = (0 : Int32)))).2) (by decide) (by decide) k) ?_
    refine step (T80.setTop (mkF m 156 #[.val (.int p0), .val (.int p1), .val (.int p2), .val (.int p3), .val (.int (2 : Int32)), .val (.ref b4_1), .val (.ref b4_5), .val (.ref b4_9), .val (.ref b14), .val (.ref b14)] [(.int (2 : Int32))])) (fun t k => XS.iload X80.here hx rfl (hb hby at_154) rfl k) ?_
    refine step (T80.setTop (mkF m 157 #[.val (.int p0), .val (.int p1), .val (.int p2), .val (.int p3), .val (.int (2 : Int32)), .val (.ref b4_1), .val (.ref b4_5), .val (.ref b4_9), .val (.ref b14), .val (.ref b14)] [(.int (1 : Int32)), (.int (2 : Int32))])) (fun t k => XS.iconst X80.here hx rfl (hb hby at_156) k) ?_
    refine step (T80.setTop (mkF m 160 #[.val (.int p0), .val (.int p1), .val (.int p2), .val (.int p3), .val (.int (2 : Int32)), .val (.ref b4_1), .val (.ref b4_5), .val (.ref b4_9), .val (.ref b14), .val (.ref b14)] [])) (fun t k => XS.icmpNo X80.here hx rfl (hb hby at_157) rfl (tlt (by decide : (1 : Int32) < (2 : Int32))).2.2.2 k) ?_
    refine step (T80.setTop (mkF m 162 #[.val (.int p0), .val (.int p1), .val (.int p2), .val (.int p3), .val (.int (2 : Int32)), .val (.ref b4_1), .val (.ref b4_5), .val (.ref b4_9), .val (.ref b14), .val (.ref b14)] [(.ref b14)])) (fun t k => XS.aload X80.here hx rfl (hb hby at_160) rfl rfl k) ?_
    refine step (T80.setTop (mkF m 163 #[.val (.int p0), .val (.int p1), .val (.int p2), .val (.int p3), .val (.int (2 : Int32)), .val (.ref b4_1), .val (.ref b4_5), .val (.ref b4_9), .val (.ref b14), .val (.ref b14)] [(.int (1 : Int32)), (.ref b14)])) (fun t k => XS.iconst X80.here hx rfl (hb hby at_162) k) ?_
    obtain ⟨cq81, kq81, q81a, q81b, q81c⟩ := isOf hZ e80q f69
    obtain ⟨_, _, ⟨T81, L81, k81, n81⟩, -, X81, ⟨Lc81, hQ81, l81, y81, z81⟩, st81⟩ := X80.virtualBack hx (y := (⟨"java/util/ArrayList", "get", "(I)Ljava/lang/Object;"⟩ : MethodName)) (z := (⟨"java/util/ArrayList", "get", "(I)Ljava/lang/Object;"⟩ : MethodName)) hown (mvT hZ (hw _ (List.mem_of_getElem? (i := 91) rfl))) (mvT hZ (hw _ (List.mem_of_getElem? (i := 92) rfl))) (notFace_of_selects (args := #[]) (mvT hZ (hw _ (List.mem_of_getElem? (i := 94) rfl)))) (mvT hZ (hw _ (List.mem_of_getElem? (i := 94) rfl))) (mvT hZ (hw _ (List.mem_of_getElem? (i := 93) rfl))) (by decide) (backOf (W := 0) (rm16_28 l Z a0 hw [] b14 b6_2_2_11_54 k6_2_2_11_54 b4_1 b4_5 h66 n0 (Nat.le_trans Z0 K66.1) f69 q0_66 q2_66 q3_66 ov0_54 f73 f74 gn_b14 ne_b14_b6_2_2_11_54 (Ne.symm ne_b4_1_b14) (Ne.symm ne_b4_5_b14) gn_b6_2_2_11_54 (Ne.symm ne_b4_1_b6_2_2_11_54) (Ne.symm ne_b4_5_b6_2_2_11_54) gn_b4_1 ne_b4_1_b4_5 gn_b4_5) hZ (hw _ (List.mem_of_getElem? (i := 95) rfl)) (hw _ (List.mem_of_getElem? (i := 28) rfl)) (by decide) (by decide)) q81a q81c (g := (mkF m 163 #[.val (.int p0), .val (.int p1), .val (.int p2), .val (.int p3), .val (.int (2 : Int32)), .val (.ref b4_1), .val (.ref b4_5), .val (.ref b4_9), .val (.ref b14), .val (.ref b14)] [(.int (1 : Int32)), (.ref b14)])) rfl (by rw [hml]; rfl) (Steps.refl _) (argsL := [(.int (1 : Int32))]) (rest := []) (lenOf pd_5 rfl) rfl (by show 2 * 0 + _ ≤ _; exact Nat.le_of_eq rfl) (hb hby at_163) (fun _ _ => ⟨rfl, e80q, (by decide : 8 + 0 ≤ _), (by decide : 28 + 0 ≤ _)⟩)
    dsimp only [Pt.U, Pt.locs, Pt.cells, Pt.slots] at X81 l81 y81 z81 st81 hQ81
    subst l81 y81 z81
    obtain ⟨rfl, N81q, e81q⟩ := hQ81
    have N81 := Fr.app N80 N81q
    refine step (T81.setTop (mkF m 166 #[.val (.int p0), .val (.int p1), .val (.int p2), .val (.int p3), .val (.int (2 : Int32)), .val (.ref b4_1), .val (.ref b4_5), .val (.ref b4_9), .val (.ref b14), .val (.ref b14)] [(.ref b4_5)])) (fun t k => st81.trans k) ?_
    refine step (T81.setTop (mkF m 168 #[.val (.int p0), .val (.int p1), .val (.int p2), .val (.int p3), .val (.int (2 : Int32)), .val (.ref b4_1), .val (.ref b4_5), .val (.ref b4_9), .val (.ref b14), .val (.ref b14)] [(.ref b4_5), (.ref b4_5)])) (fun t k => XS.aload X81.here hx rfl (hb hby at_166) rfl rfl k) ?_
    refine step (T81.setTop (mkF m 171 #[.val (.int p0), .val (.int p1), .val (.int p2), .val (.int p3), .val (.int (2 : Int32)), .val (.ref b4_1), .val (.ref b4_5), .val (.ref b4_9), .val (.ref b14), .val (.ref b14)] [])) (fun t k => Jvm.RoadKit.acmp (g := (mkF m 168 #[.val (.int p0), .val (.int p1), .val (.int p2), .val (.int p3), .val (.int (2 : Int32)), .val (.ref b4_1), .val (.ref b4_5), .val (.ref b4_9), .val (.ref b14), .val (.ref b14)] [(.ref b4_5), (.ref b4_5)])) X81 hx rfl rfl rfl (pc0 := 168) (pc' := 171) (same := true) rfl (hb hby at_168) rfl (decide_eq_true rfl) (by decide) (by decide) k) ?_
    refine step (T81.setTop (mkF m 173 #[.val (.int p0), .val (.int p1), .val (.int p2), .val (.int p3), .val (.int (2 : Int32)), .val (.ref b4_1), .val (.ref b4_5), .val (.ref b4_9), .val (.ref b14), .val (.ref b14)] [(.ref b14)])) (fun t k => XS.aload X81.here hx rfl (hb hby at_171) rfl rfl k) ?_
    refine step (T81.setTop (mkF m 174 #[.val (.int p0), .val (.int p1), .val (.int p2), .val (.int p3), .val (.int (2 : Int32)), .val (.ref b4_1), .val (.ref b4_5), .val (.ref b4_9), .val (.ref b14), .val (.ref b14)] [(.int (1 : Int32)), (.ref b14)])) (fun t k => XS.iconst X81.here hx rfl (hb hby at_173) k) ?_
    obtain ⟨cq82, kq82, q82a, q82b, q82c⟩ := isOf hZ e81q f69
    obtain ⟨_, _, ⟨T82, L82, k82, n82⟩, -, X82, ⟨Lc82, hQ82, l82, y82, z82⟩, st82⟩ := X81.virtualBack hx (y := (⟨"java/util/ArrayList", "get", "(I)Ljava/lang/Object;"⟩ : MethodName)) (z := (⟨"java/util/ArrayList", "get", "(I)Ljava/lang/Object;"⟩ : MethodName)) hown (mvT hZ (hw _ (List.mem_of_getElem? (i := 91) rfl))) (mvT hZ (hw _ (List.mem_of_getElem? (i := 92) rfl))) (notFace_of_selects (args := #[]) (mvT hZ (hw _ (List.mem_of_getElem? (i := 94) rfl)))) (mvT hZ (hw _ (List.mem_of_getElem? (i := 94) rfl))) (mvT hZ (hw _ (List.mem_of_getElem? (i := 93) rfl))) (by decide) (backOf (W := 0) (rm16_28 l Z a0 hw [] b14 b6_2_2_11_54 k6_2_2_11_54 b4_1 b4_5 h66 n0 (Nat.le_trans Z0 K66.1) f69 q0_66 q2_66 q3_66 ov0_54 f73 f74 gn_b14 ne_b14_b6_2_2_11_54 (Ne.symm ne_b4_1_b14) (Ne.symm ne_b4_5_b14) gn_b6_2_2_11_54 (Ne.symm ne_b4_1_b6_2_2_11_54) (Ne.symm ne_b4_5_b6_2_2_11_54) gn_b4_1 ne_b4_1_b4_5 gn_b4_5) hZ (hw _ (List.mem_of_getElem? (i := 95) rfl)) (hw _ (List.mem_of_getElem? (i := 28) rfl)) (by decide) (by decide)) q82a q82c (g := (mkF m 174 #[.val (.int p0), .val (.int p1), .val (.int p2), .val (.int p3), .val (.int (2 : Int32)), .val (.ref b4_1), .val (.ref b4_5), .val (.ref b4_9), .val (.ref b14), .val (.ref b14)] [(.int (1 : Int32)), (.ref b14)])) rfl (by rw [hml]; rfl) (Steps.refl _) (argsL := [(.int (1 : Int32))]) (rest := []) (lenOf pd_5 rfl) rfl (by show 2 * 0 + _ ≤ _; exact Nat.le_of_eq rfl) (hb hby at_174) (fun _ _ => ⟨rfl, e81q, (by decide : 8 + 0 ≤ _), (by decide : 28 + 0 ≤ _)⟩)
    dsimp only [Pt.U, Pt.locs, Pt.cells, Pt.slots] at X82 l82 y82 z82 st82 hQ82
    subst l82 y82 z82
    obtain ⟨rfl, N82q, e82q⟩ := hQ82
    have N82 := Fr.app N81 N82q
    refine step (T82.setTop (mkF m 177 #[.val (.int p0), .val (.int p1), .val (.int p2), .val (.int p3), .val (.int (2 : Int32)), .val (.ref b4_1), .val (.ref b4_5), .val (.ref b4_9), .val (.ref b14), .val (.ref b14)] [(.ref b4_5)])) (fun t k => st82.trans k) ?_
    obtain ⟨T83, X83, e83, st83⟩ := castY X82 hx hZ hown (hw _ (List.mem_of_getElem? (i := 109) rfl)) e82q (Ins.self f74) (g := (mkF m 177 #[.val (.int p0), .val (.int p1), .val (.int p2), .val (.int p3), .val (.int (2 : Int32)), .val (.ref b4_1), .val (.ref b4_5), .val (.ref b4_9), .val (.ref b14), .val (.ref b14)] [(.ref b4_5)])) rfl rfl (hb hby at_177)
    refine step (T83.setTop (mkF m 180 #[.val (.int p0), .val (.int p1), .val (.int p2), .val (.int p3), .val (.int (2 : Int32)), .val (.ref b4_1), .val (.ref b4_5), .val (.ref b4_9), .val (.ref b14), .val (.ref b14)] [(.ref b4_5)])) (fun t k => st83 t k) ?_
    refine step (T83.setTop (mkF m 182 #[.val (.int p0), .val (.int p1), .val (.int p2), .val (.int p3), .val (.int (2 : Int32)), .val (.ref b4_1), .val (.ref b4_5), .val (.ref b4_9), .val (.ref b14), .val (.ref b14)] [(.ref b4_5), (.ref b4_5)])) (fun t k => XS.aload X83.here hx rfl (hb hby at_180) rfl rfl k) ?_
    have f84 := (((((q1_5.keep K9q nin0).ext E14).keep K21q (ninS ne_b4_5_b14 nin0)).keep K54q (ninS ne_b4_5_b14 nin0)).keep K66q (ninS ne_b4_5_b14 (ninS ne_b4_5_b6_2_2_11_54 nin0)))
    have f85 := (((((q2_5.keep K9q nin0).ext E14).keep K21q (ninS ne_b4_5_b14 nin0)).keep K54q (ninS ne_b4_5_b14 nin0)).keep K66q (ninS ne_b4_5_b14 (ninS ne_b4_5_b6_2_2_11_54 nin0)))
    obtain ⟨cq86, kq86, q86a, q86b, q86c⟩ := isOf hZ e83 f74
    obtain ⟨_, _, ⟨T86, L86, k86, n86⟩, -, X86, ⟨Lc86, hQ86, l86, y86, z86⟩, st86⟩ := X83.virtualBack hx (y := (⟨"java/lang/String", "equals", "(Ljava/lang/Object;)Z"⟩ : MethodName)) (z := (⟨"java/lang/String", "equals", "(Ljava/lang/Object;)Z"⟩ : MethodName)) hown (mvT hZ (hw _ (List.mem_of_getElem? (i := 110) rfl))) (mvT hZ (hw _ (List.mem_of_getElem? (i := 111) rfl))) (notFace_of_selects (args := #[]) (mvT hZ (hw _ (List.mem_of_getElem? (i := 113) rfl)))) (mvT hZ (hw _ (List.mem_of_getElem? (i := 113) rfl))) (mvT hZ (hw _ (List.mem_of_getElem? (i := 112) rfl))) (by decide) (backOf (W := 0) (rm20_20 l Z a0 hw [] b4_5 cs b1_5_5 h66 n0 (Nat.le_trans Z0 K66.1) f67 f74 f84 f85 gn_b4_5 (Ne.symm ne_b1_5_b4_5) gn_b1_5_5 c_cs) hZ (hw _ (List.mem_of_getElem? (i := 114) rfl)) (hw _ (List.mem_of_getElem? (i := 2) rfl)) (by decide) (by decide)) q86a q86c (g := (mkF m 182 #[.val (.int p0), .val (.int p1), .val (.int p2), .val (.int p3), .val (.int (2 : Int32)), .val (.ref b4_1), .val (.ref b4_5), .val (.ref b4_9), .val (.ref b14), .val (.ref b14)] [(.ref b4_5), (.ref b4_5)])) rfl (by rw [hml]; rfl) (Steps.refl _) (argsL := [(.ref b4_5)]) (rest := []) (lenOf pd_2 rfl) rfl (by show 2 * 0 + _ ≤ _; exact Nat.le_of_eq rfl) (hb hby at_182) (fun _ _ => ⟨rfl, e83, (by decide : 8 + 0 ≤ _), (by decide : 28 + 0 ≤ _)⟩)
    dsimp only [Pt.U, Pt.locs, Pt.cells, Pt.slots] at X86 l86 y86 z86 st86 hQ86
    subst l86 y86 z86
    obtain ⟨rfl, N86q, e86q⟩ := hQ86
    have N86 := Fr.app N82 N86q
    refine step (T86.setTop (mkF m 185 #[.val (.int p0), .val (.int p1), .val (.int p2), .val (.int p3), .val (.int (2 : Int32)), .val (.ref b4_1), .val (.ref b4_5), .val (.ref b4_9), .val (.ref b14), .val (.ref b14)] [(.int (1 : Int32))])) (fun t k => st86.trans k) ?_
    refine step (T86.setTop (mkF m 190 #[.val (.int p0), .val (.int p1), .val (.int p2), .val (.int p3), .val (.int (2 : Int32)), .val (.ref b4_1), .val (.ref b4_5), .val (.ref b4_9), .val (.ref b14), .val (.ref b14)] [])) (fun t k => XS.ifYes X86.here hx rfl (pc0 := 185) (pc' := 190) rfl (hb hby at_185) rfl ((if0 _ _).trans (feq (by decide : ¬ ((1 : Int32) = (0 : Int32)))).2) (by decide) (by decide) k) ?_
    refine step (T86.setTop (mkF m 192 #[.val (.int p0), .val (.int p1), .val (.int p2), .val (.int p3), .val (.int (2 : Int32)), .val (.ref b4_1), .val (.ref b4_5), .val (.ref b4_9), .val (.ref b14), .val (.ref b14)] [(.int (2 : Int32))])) (fun t k => XS.iload X86.here hx rfl (hb hby at_190) rfl k) ?_
    refine step (T86.setTop (mkF m 193 #[.val (.int p0), .val (.int p1), .val (.int p2), .val (.int p3), .val (.int (2 : Int32)), .val (.ref b4_1), .val (.ref b4_5), .val (.ref b4_9), .val (.ref b14), .val (.ref b14)] [(.int (2 : Int32)), (.int (2 : Int32))])) (fun t k => XS.iconst X86.here hx rfl (hb hby at_192) k) ?_
    refine step (T86.setTop (mkF m 226 #[.val (.int p0), .val (.int p1), .val (.int p2), .val (.int p3), .val (.int (2 : Int32)), .val (.ref b4_1), .val (.ref b4_5), .val (.ref b4_9), .val (.ref b14), .val (.ref b14)] [])) (fun t k => XS.icmpYes X86.here hx rfl (pc0 := 193) (pc' := 226) rfl (hb hby at_193) rfl (flt (by decide : ¬ ((2 : Int32) < (2 : Int32)))).2.2.2 (by decide) (by decide) k) ?_
    refine step (T86.setTop (mkF m 227 #[.val (.int p0), .val (.int p1), .val (.int p2), .val (.int p3), .val (.int (2 : Int32)), .val (.ref b4_1), .val (.ref b4_5), .val (.ref b4_9), .val (.ref b14), .val (.ref b14)] [(.int (1 : Int32))])) (fun t k => XS.iconst X86.here hx rfl (hb hby at_226) k) ?_
    refine fin (v := some (.int (nar .boolean (1 : Int32)))) X86 (fun h => by cases h) ?_ (by decide) (by decide) (fun fs hr => retN X86 hx (t := .boolean) hret (by simp) (hb hby at_227) hr)
    show Q0 Z p0 p1 p2 p3 cs aD kD h0 n0 (some (.int (nar .boolean (1 : Int32)))) T86.heap _
    rw [e86q]
    exact ⟨rfl, N86⟩
  · -- kk = 3
    show G (T21.setTop (mkF m 47 #[.val (.int p0), .val (.int p1), .val (.int p2), .val (.int p3), .val (.int (3 : Int32)), .val (.ref b4_1), .val (.ref b4_5), .val (.ref b4_9), .val (.ref b14), .unset] []))
    refine step (T21.setTop (mkF m 49 #[.val (.int p0), .val (.int p1), .val (.int p2), .val (.int p3), .val (.int (3 : Int32)), .val (.ref b4_1), .val (.ref b4_5), .val (.ref b4_9), .val (.ref b14), .unset] [(.int (3 : Int32))])) (fun t k => XS.iload X21.here hx rfl (hb hby at_47) rfl k) ?_
    refine step (T21.setTop (mkF m 52 #[.val (.int p0), .val (.int p1), .val (.int p2), .val (.int p3), .val (.int (3 : Int32)), .val (.ref b4_1), .val (.ref b4_5), .val (.ref b4_9), .val (.ref b14), .unset] [])) (fun t k => XS.ifNo X21.here hx rfl (hb hby at_49) rfl ((if0 _ _).trans (tlt (by decide : (0 : Int32) < (3 : Int32))).2.2.2) k) ?_
    refine step (T21.setTop (mkF m 54 #[.val (.int p0), .val (.int p1), .val (.int p2), .val (.int p3), .val (.int (3 : Int32)), .val (.ref b4_1), .val (.ref b4_5), .val (.ref b4_9), .val (.ref b14), .unset] [(.ref b14)])) (fun t k => XS.aload X21.here hx rfl (hb hby at_52) rfl rfl k) ?_
    refine step (T21.setTop (mkF m 56 #[.val (.int p0), .val (.int p1), .val (.int p2), .val (.int p3), .val (.int (3 : Int32)), .val (.ref b4_1), .val (.ref b4_5), .val (.ref b4_9), .val (.ref b14), .unset] [(.ref b4_1), (.ref b14)])) (fun t k => XS.aload X21.here hx rfl (hb hby at_54) rfl rfl k) ?_
    have f87 := (A14.keep K21q)
    have f88 := ((f16.ext E14).keep K21q)
    have f89 := ((f15.ext E14).keep K21q (ninS ne_aD_b14 nin0))
    obtain ⟨cq90, kq90, q90a, q90b, q90c⟩ := isOf hZ e21 f87
    obtain ⟨_, _, ⟨T90, L90, k90, n90⟩, -, X90, ⟨Lc90, hQ90, l90, y90, z90⟩, st90⟩ := X21.virtualBack hx (y := (⟨"java/util/ArrayList", "add", "(Ljava/lang/Object;)Z"⟩ : MethodName)) (z := (⟨"java/util/ArrayList", "add", "(Ljava/lang/Object;)Z"⟩ : MethodName)) hown (mvT hZ (hw _ (List.mem_of_getElem? (i := 62) rfl))) (mvT hZ (hw _ (List.mem_of_getElem? (i := 63) rfl))) (notFace_of_selects (args := #[]) (mvT hZ (hw _ (List.mem_of_getElem? (i := 65) rfl)))) (mvT hZ (hw _ (List.mem_of_getElem? (i := 65) rfl))) (mvT hZ (hw _ (List.mem_of_getElem? (i := 64) rfl))) (by decide) (backOf (W := 0) (rm11_10 l Z a0 hw [] b14 b4_1 aD kD h21 n0 (Nat.le_trans Z0 K21.1) f24 f87 q0_21 q1_21 q2_21 f88 f89 gn_b14 (Ne.symm ne_b4_1_b14) (Ne.symm ne_aD_b14) gn_b4_1 (Ne.symm ne_aD_b4_1)) hZ (hw _ (List.mem_of_getElem? (i := 66) rfl)) (hw _ (List.mem_of_getElem? (i := 28) rfl)) (by decide) (by decide)) q90a q90c (g := (mkF m 56 #[.val (.int p0), .val (.int p1), .val (.int p2), .val (.int p3), .val (.int (3 : Int32)), .val (.ref b4_1), .val (.ref b4_5), .val (.ref b4_9), .val (.ref b14), .unset] [(.ref b4_1), (.ref b14)])) rfl (by rw [hml]; rfl) (Steps.refl _) (argsL := [(.ref b4_1)]) (rest := []) (lenOf pd_2 rfl) rfl (by show 2 * 0 + _ ≤ _; exact Nat.le_of_eq rfl) (hb hby at_56) (fun _ _ => ⟨rfl, e21, (by decide : 7 + 1 ≤ _), (by decide : 18 + 10 ≤ _)⟩)
    dsimp only [Pt.U, Pt.locs, Pt.cells, Pt.slots] at X90 l90 y90 z90 st90 hQ90
    subst l90 y90 z90
    obtain ⟨h90, e90⟩ : ∃ z, T90.heap = z := ⟨_, rfl⟩
    rw [e90] at hQ90
    obtain ⟨b6_2_2_11_90, k6_2_2_11_90, rfl, N90q, K90q, sz_b6_2_2_11_90, q0_90, q1_90, q2_90, q3_90, ov0_90⟩ := hQ90
    have N90 := Fr.app N21 N90q
    have lt90_aD := f89.lt
    have lt90_b4_1 := f88.lt
    have f91 := ((f17.ext E14).keep K21q (ninS ne_b1_5_1_b14 nin0))
    have lt90_b1_5_1 := f91.lt
    have f92 := ((f18.ext E14).keep K21q)
    have lt90_b4_5 := f92.lt
    have f93 := ((f19.ext E14).keep K21q (ninS ne_b1_5_5_b14 nin0))
    have lt90_b1_5_5 := f93.lt
    have f94 := ((q0_9.ext E14).keep K21q)
    have lt90_b4_9 := f94.lt
    have f95 := ((q3_9.ext E14).keep K21q (ninS ne_b1_5_9_b14 nin0))
    have lt90_b1_5_9 := f95.lt
    have lt90_b14 := f87.lt
    have ne_aD_b6_2_2_11_90 : aD ≠ b6_2_2_11_90 := Nat.ne_of_lt (Nat.lt_of_lt_of_le lt90_aD sz_b6_2_2_11_90)
    have ne_b4_1_b6_2_2_11_90 : b4_1 ≠ b6_2_2_11_90 := Nat.ne_of_lt (Nat.lt_of_lt_of_le lt90_b4_1 sz_b6_2_2_11_90)
    have ne_b1_5_1_b6_2_2_11_90 : b1_5_1 ≠ b6_2_2_11_90 := Nat.ne_of_lt (Nat.lt_of_lt_of_le lt90_b1_5_1 sz_b6_2_2_11_90)
    have ne_b4_5_b6_2_2_11_90 : b4_5 ≠ b6_2_2_11_90 := Nat.ne_of_lt (Nat.lt_of_lt_of_le lt90_b4_5 sz_b6_2_2_11_90)
    have ne_b1_5_5_b6_2_2_11_90 : b1_5_5 ≠ b6_2_2_11_90 := Nat.ne_of_lt (Nat.lt_of_lt_of_le lt90_b1_5_5 sz_b6_2_2_11_90)
    have ne_b4_9_b6_2_2_11_90 : b4_9 ≠ b6_2_2_11_90 := Nat.ne_of_lt (Nat.lt_of_lt_of_le lt90_b4_9 sz_b6_2_2_11_90)
    have ne_b1_5_9_b6_2_2_11_90 : b1_5_9 ≠ b6_2_2_11_90 := Nat.ne_of_lt (Nat.lt_of_lt_of_le lt90_b1_5_9 sz_b6_2_2_11_90)
    have ne_b14_b6_2_2_11_90 : b14 ≠ b6_2_2_11_90 := Nat.ne_of_lt (Nat.lt_of_lt_of_le lt90_b14 sz_b6_2_2_11_90)
    have gn_b6_2_2_11_90 : n0 ≤ b6_2_2_11_90 := Nat.le_trans (Nat.le_trans Z0 K21.1) sz_b6_2_2_11_90
    have sz_b6_2_2_11_90' := Nat.le_trans K21.1 sz_b6_2_2_11_90
    replace sz_b6_2_2_11_90 := sz_b6_2_2_11_90'
    have K90 : Keep h0 h90 [] := K21.trans K90q (allS (Or.inr sz_b14) all0)
    have f96 := own_staK f23 K90q (allS (own_exaP f87) all0)
    have f97 := own_staK f24 K90q (allS (own_exaP f87) all0)
    refine step (T90.setTop (mkF m 59 #[.val (.int p0), .val (.int p1), .val (.int p2), .val (.int p3), .val (.int (3 : Int32)), .val (.ref b4_1), .val (.ref b4_5), .val (.ref b4_9), .val (.ref b14), .unset] [(.int (1 : Int32))])) (fun t k => st90.trans k) ?_
    refine step (T90.setTop (mkF m 60 #[.val (.int p0), .val (.int p1), .val (.int p2), .val (.int p3), .val (.int (3 : Int32)), .val (.ref b4_1), .val (.ref b4_5), .val (.ref b4_9), .val (.ref b14), .unset] [])) (fun t k => XS.pop X90.here hx rfl (hb hby at_59) rfl rfl k) ?_
    refine step (T90.setTop (mkF m 62 #[.val (.int p0), .val (.int p1), .val (.int p2), .val (.int p3), .val (.int (3 : Int32)), .val (.ref b4_1), .val (.ref b4_5), .val (.ref b4_9), .val (.ref b14), .unset] [(.int (3 : Int32))])) (fun t k => XS.iload X90.here hx rfl (hb hby at_60) rfl k) ?_
    refine step (T90.setTop (mkF m 63 #[.val (.int p0), .val (.int p1), .val (.int p2), .val (.int p3), .val (.int (3 : Int32)), .val (.ref b4_1), .val (.ref b4_5), .val (.ref b4_9), .val (.ref b14), .unset] [(.int (1 : Int32)), (.int (3 : Int32))])) (fun t k => XS.iconst X90.here hx rfl (hb hby at_62) k) ?_
    refine step (T90.setTop (mkF m 66 #[.val (.int p0), .val (.int p1), .val (.int p2), .val (.int p3), .val (.int (3 : Int32)), .val (.ref b4_1), .val (.ref b4_5), .val (.ref b4_9), .val (.ref b14), .unset] [])) (fun t k => XS.icmpNo X90.here hx rfl (hb hby at_63) rfl (tlt (by decide : (1 : Int32) < (3 : Int32))).2.2.2 k) ?_
    refine step (T90.setTop (mkF m 68 #[.val (.int p0), .val (.int p1), .val (.int p2), .val (.int p3), .val (.int (3 : Int32)), .val (.ref b4_1), .val (.ref b4_5), .val (.ref b4_9), .val (.ref b14), .unset] [(.ref b14)])) (fun t k => XS.aload X90.here hx rfl (hb hby at_66) rfl rfl k) ?_
    refine step (T90.setTop (mkF m 70 #[.val (.int p0), .val (.int p1), .val (.int p2), .val (.int p3), .val (.int (3 : Int32)), .val (.ref b4_1), .val (.ref b4_5), .val (.ref b4_9), .val (.ref b14), .unset] [(.ref b4_5), (.ref b14)])) (fun t k => XS.aload X90.here hx rfl (hb hby at_68) rfl rfl k) ?_
    have f98 := (f87.keep K90q)
    have f99 := (f92.keep K90q)
    have f100 := (f89.keep K90q (ninS ne_aD_b14 nin0))
    have f101 := (f88.keep K90q)
    obtain ⟨cq102, kq102, q102a, q102b, q102c⟩ := isOf hZ e90 f98
    obtain ⟨_, _, ⟨T102, L102, k102, n102⟩, -, X102, ⟨Lc102, hQ102, l102, y102, z102⟩, st102⟩ := X90.virtualBack hx (y := (⟨"java/util/ArrayList", "add", "(Ljava/lang/Object;)Z"⟩ : MethodName)) (z := (⟨"java/util/ArrayList", "add", "(Ljava/lang/Object;)Z"⟩ : MethodName)) hown (mvT hZ (hw _ (List.mem_of_getElem? (i := 62) rfl))) (mvT hZ (hw _ (List.mem_of_getElem? (i := 63) rfl))) (notFace_of_selects (args := #[]) (mvT hZ (hw _ (List.mem_of_getElem? (i := 65) rfl)))) (mvT hZ (hw _ (List.mem_of_getElem? (i := 65) rfl))) (mvT hZ (hw _ (List.mem_of_getElem? (i := 64) rfl))) (by decide) (backOf (W := 0) (rm11_21 l Z a0 hw [] b14 b4_5 aD b6_2_2_11_90 kD k6_2_2_11_90 b4_1 h90 n0 (Nat.le_trans Z0 K90.1) f97 f98 q0_90 q1_90 q2_90 f99 f100 q3_90 ov0_90 f101 gn_b14 (Ne.symm ne_b4_5_b14) (Ne.symm ne_aD_b14) ne_b14_b6_2_2_11_90 (Ne.symm ne_b4_1_b14) gn_b4_5 (Ne.symm ne_aD_b4_5) ne_b4_5_b6_2_2_11_90 (Ne.symm ne_b4_1_b4_5) ne_aD_b6_2_2_11_90 ne_aD_b4_1 gn_b6_2_2_11_90 (Ne.symm ne_b4_1_b6_2_2_11_90) gn_b4_1) hZ (hw _ (List.mem_of_getElem? (i := 66) rfl)) (hw _ (List.mem_of_getElem? (i := 28) rfl)) (by decide) (by decide)) q102a q102c (g := (mkF m 70 #[.val (.int p0), .val (.int p1), .val (.int p2), .val (.int p3), .val (.int (3 : Int32)), .val (.ref b4_1), .val (.ref b4_5), .val (.ref b4_9), .val (.ref b14), .unset] [(.ref b4_5), (.ref b14)])) rfl (by rw [hml]; rfl) (Steps.refl _) (argsL := [(.ref b4_5)]) (rest := []) (lenOf pd_2 rfl) rfl (by show 2 * 0 + _ ≤ _; exact Nat.le_of_eq rfl) (hb hby at_70) (fun _ _ => ⟨rfl, e90, (by decide : 8 + 0 ≤ _), (by decide : 28 + 0 ≤ _)⟩)
    dsimp only [Pt.U, Pt.locs, Pt.cells, Pt.slots] at X102 l102 y102 z102 st102 hQ102
    subst l102 y102 z102
    obtain ⟨h102, e102⟩ : ∃ z, T102.heap = z := ⟨_, rfl⟩
    rw [e102] at hQ102
    obtain ⟨rfl, N102q, K102q, q0_102, q1_102, q2_102, q3_102⟩ := hQ102
    have N102 := Fr.app N90 N102q
    have K102 : Keep h0 h102 [] := K90.trans K102q (allS (Or.inr sz_b14) (allS (Or.inr sz_b6_2_2_11_90) all0))
    have f103 := own_staK f96 K102q (allS (own_exaP f98) (allS (own_arvP q3_90) all0))
    have f104 := own_staK f97 K102q (allS (own_exaP f98) (allS (own_arvP q3_90) all0))
    refine step (T102.setTop (mkF m 73 #[.val (.int p0), .val (.int p1), .val (.int p2), .val (.int p3), .val (.int (3 : Int32)), .val (.ref b4_1), .val (.ref b4_5), .val (.ref b4_9), .val (.ref b14), .unset] [(.int (1 : Int32))])) (fun t k => st102.trans k) ?_
    refine step (T102.setTop (mkF m 74 #[.val (.int p0), .val (.int p1), .val (.int p2), .val (.int p3), .val (.int (3 : Int32)), .val (.ref b4_1), .val (.ref b4_5), .val (.ref b4_9), .val (.ref b14), .unset] [])) (fun t k => XS.pop X102.here hx rfl (hb hby at_73) rfl rfl k) ?_
    refine step (T102.setTop (mkF m 76 #[.val (.int p0), .val (.int p1), .val (.int p2), .val (.int p3), .val (.int (3 : Int32)), .val (.ref b4_1), .val (.ref b4_5), .val (.ref b4_9), .val (.ref b14), .unset] [(.int (3 : Int32))])) (fun t k => XS.iload X102.here hx rfl (hb hby at_74) rfl k) ?_
    refine step (T102.setTop (mkF m 77 #[.val (.int p0), .val (.int p1), .val (.int p2), .val (.int p3), .val (.int (3 : Int32)), .val (.ref b4_1), .val (.ref b4_5), .val (.ref b4_9), .val (.ref b14), .unset] [(.int (2 : Int32)), (.int (3 : Int32))])) (fun t k => XS.iconst X102.here hx rfl (hb hby at_76) k) ?_
    refine step (T102.setTop (mkF m 80 #[.val (.int p0), .val (.int p1), .val (.int p2), .val (.int p3), .val (.int (3 : Int32)), .val (.ref b4_1), .val (.ref b4_5), .val (.ref b4_9), .val (.ref b14), .unset] [])) (fun t k => XS.icmpNo X102.here hx rfl (hb hby at_77) rfl (tlt (by decide : (2 : Int32) < (3 : Int32))).2.2.2 k) ?_
    refine step (T102.setTop (mkF m 82 #[.val (.int p0), .val (.int p1), .val (.int p2), .val (.int p3), .val (.int (3 : Int32)), .val (.ref b4_1), .val (.ref b4_5), .val (.ref b4_9), .val (.ref b14), .unset] [(.ref b14)])) (fun t k => XS.aload X102.here hx rfl (hb hby at_80) rfl rfl k) ?_
    refine step (T102.setTop (mkF m 84 #[.val (.int p0), .val (.int p1), .val (.int p2), .val (.int p3), .val (.int (3 : Int32)), .val (.ref b4_1), .val (.ref b4_5), .val (.ref b4_9), .val (.ref b14), .unset] [(.ref b4_9), (.ref b14)])) (fun t k => XS.aload X102.here hx rfl (hb hby at_82) rfl rfl k) ?_
    have f105 := (f98.keep K102q)
    have f106 := ((f94.keep K90q).keep K102q)
    have f107 := (f100.keep K102q (ninS ne_aD_b14 (ninS ne_aD_b6_2_2_11_90 nin0)))
    have f108 := (f101.keep K102q)
    have f109 := (f99.keep K102q)
    obtain ⟨cq110, kq110, q110a, q110b, q110c⟩ := isOf hZ e102 f105
    obtain ⟨_, _, ⟨T110, L110, k110, n110⟩, -, X110, ⟨Lc110, hQ110, l110, y110, z110⟩, st110⟩ := X102.virtualBack hx (y := (⟨"java/util/ArrayList", "add", "(Ljava/lang/Object;)Z"⟩ : MethodName)) (z := (⟨"java/util/ArrayList", "add", "(Ljava/lang/Object;)Z"⟩ : MethodName)) hown (mvT hZ (hw _ (List.mem_of_getElem? (i := 62) rfl))) (mvT hZ (hw _ (List.mem_of_getElem? (i := 63) rfl))) (notFace_of_selects (args := #[]) (mvT hZ (hw _ (List.mem_of_getElem? (i := 65) rfl)))) (mvT hZ (hw _ (List.mem_of_getElem? (i := 65) rfl))) (mvT hZ (hw _ (List.mem_of_getElem? (i := 64) rfl))) (by decide) (backOf (W := 0) (rm11_32 l Z a0 hw [] b14 b4_9 aD b6_2_2_11_90 kD k6_2_2_11_90 b4_1 b4_5 h102 n0 (Nat.le_trans Z0 K102.1) f104 f105 q0_102 q1_102 q2_102 f106 f107 q3_102 ov0_90 f108 f109 gn_b14 (Ne.symm ne_b4_9_b14) (Ne.symm ne_aD_b14) ne_b14_b6_2_2_11_90 (Ne.symm ne_b4_1_b14) (Ne.symm ne_b4_5_b14) gn_b4_9 (Ne.symm ne_aD_b4_9) ne_b4_9_b6_2_2_11_90 (Ne.symm ne_b4_1_b4_9) (Ne.symm ne_b4_5_b4_9) ne_aD_b6_2_2_11_90 ne_aD_b4_1 ne_aD_b4_5 gn_b6_2_2_11_90 (Ne.symm ne_b4_1_b6_2_2_11_90) (Ne.symm ne_b4_5_b6_2_2_11_90) gn_b4_1 ne_b4_1_b4_5 gn_b4_5) hZ (hw _ (List.mem_of_getElem? (i := 66) rfl)) (hw _ (List.mem_of_getElem? (i := 28) rfl)) (by decide) (by decide)) q110a q110c (g := (mkF m 84 #[.val (.int p0), .val (.int p1), .val (.int p2), .val (.int p3), .val (.int (3 : Int32)), .val (.ref b4_1), .val (.ref b4_5), .val (.ref b4_9), .val (.ref b14), .unset] [(.ref b4_9), (.ref b14)])) rfl (by rw [hml]; rfl) (Steps.refl _) (argsL := [(.ref b4_9)]) (rest := []) (lenOf pd_2 rfl) rfl (by show 2 * 0 + _ ≤ _; exact Nat.le_of_eq rfl) (hb hby at_84) (fun _ _ => ⟨rfl, e102, (by decide : 8 + 0 ≤ _), (by decide : 28 + 0 ≤ _)⟩)
    dsimp only [Pt.U, Pt.locs, Pt.cells, Pt.slots] at X110 l110 y110 z110 st110 hQ110
    subst l110 y110 z110
    obtain ⟨h110, e110⟩ : ∃ z, T110.heap = z := ⟨_, rfl⟩
    rw [e110] at hQ110
    obtain ⟨rfl, N110q, K110q, q0_110, q1_110, q2_110, q3_110⟩ := hQ110
    have N110 := Fr.app N102 N110q
    have K110 : Keep h0 h110 [] := K102.trans K110q (allS (Or.inr sz_b14) (allS (Or.inr sz_b6_2_2_11_90) all0))
    have f111 := own_staK f103 K110q (allS (own_exaP f105) (allS (own_arvP q3_102) all0))
    have f112 := own_staK f104 K110q (allS (own_exaP f105) (allS (own_arvP q3_102) all0))
    refine step (T110.setTop (mkF m 87 #[.val (.int p0), .val (.int p1), .val (.int p2), .val (.int p3), .val (.int (3 : Int32)), .val (.ref b4_1), .val (.ref b4_5), .val (.ref b4_9), .val (.ref b14), .unset] [(.int (1 : Int32))])) (fun t k => st110.trans k) ?_
    refine step (T110.setTop (mkF m 88 #[.val (.int p0), .val (.int p1), .val (.int p2), .val (.int p3), .val (.int (3 : Int32)), .val (.ref b4_1), .val (.ref b4_5), .val (.ref b4_9), .val (.ref b14), .unset] [])) (fun t k => XS.pop X110.here hx rfl (hb hby at_87) rfl rfl k) ?_
    refine step (T110.setTop (mkF m 90 #[.val (.int p0), .val (.int p1), .val (.int p2), .val (.int p3), .val (.int (3 : Int32)), .val (.ref b4_1), .val (.ref b4_5), .val (.ref b4_9), .val (.ref b14), .unset] [(.ref b14)])) (fun t k => XS.aload X110.here hx rfl (hb hby at_88) rfl rfl k) ?_
    have f113 := (f105.keep K110q)
    obtain ⟨_, _, ⟨T114, L114, k114, n114⟩, -, X114, ⟨Lc114, hQ114, l114, y114, z114⟩, st114⟩ := Jvm.LawKit.callS X110 hx (y := (⟨"com/example/dibs/dibs/sketch/Items", "requireBatch", "(Ljava/util/Collection;)Ljava/util/Collection;"⟩ : MethodName)) hown (mvT hZ (hw _ (List.mem_of_getElem? (i := 50) rfl))) (mvT hZ (hw _ (List.mem_of_getElem? (i := 51) rfl))) (mvT hZ (hw _ (List.mem_of_getElem? (i := 52) rfl))) (mvT hZ (hw _ (List.mem_of_getElem? (i := 53) rfl))) (by decide) (backOf (W := 0) (rm9_8 l Z a0 hw [] b14 h110 n0 (Nat.le_trans Z0 K110.1) f113 gn_b14) hZ (hw _ (List.mem_of_getElem? (i := 53) rfl)) (hw _ (List.mem_of_getElem? (i := 52) rfl)) (by decide) (by decide)) (g := (mkF m 90 #[.val (.int p0), .val (.int p1), .val (.int p2), .val (.int p3), .val (.int (3 : Int32)), .val (.ref b4_1), .val (.ref b4_5), .val (.ref b4_9), .val (.ref b14), .unset] [(.ref b14)])) rfl (by rw [hml]; rfl) (argsL := [(.ref b14)]) (rest := []) (lenOf pd_3 rfl) rfl (by show 2 * 0 + _ ≤ _; exact Nat.le_of_eq rfl) (hb hby at_90) (fun _ _ => ⟨rfl, e110, (by decide : 8 + 0 ≤ _), (by decide : 28 + 0 ≤ _)⟩)
    dsimp only [Pt.U, Pt.locs, Pt.cells, Pt.slots] at X114 l114 y114 z114 st114 hQ114
    subst l114 y114 z114
    obtain ⟨rfl, N114q, e114q⟩ := hQ114
    have N114 := Fr.app N110 N114q
    refine step (T114.setTop (mkF m 93 #[.val (.int p0), .val (.int p1), .val (.int p2), .val (.int p3), .val (.int (3 : Int32)), .val (.ref b4_1), .val (.ref b4_5), .val (.ref b4_9), .val (.ref b14), .unset] [(.ref b14)])) (fun t k => st114 t k) ?_
    obtain ⟨T115, X115, e115, st115⟩ := castY X114 hx hZ hown (hw _ (List.mem_of_getElem? (i := 26) rfl)) e114q (Ins.self f113) (g := (mkF m 93 #[.val (.int p0), .val (.int p1), .val (.int p2), .val (.int p3), .val (.int (3 : Int32)), .val (.ref b4_1), .val (.ref b4_5), .val (.ref b4_9), .val (.ref b14), .unset] [(.ref b14)])) rfl rfl (hb hby at_93)
    refine step (T115.setTop (mkF m 96 #[.val (.int p0), .val (.int p1), .val (.int p2), .val (.int p3), .val (.int (3 : Int32)), .val (.ref b4_1), .val (.ref b4_5), .val (.ref b4_9), .val (.ref b14), .unset] [(.ref b14)])) (fun t k => st115 t k) ?_
    refine step (T115.setTop (mkF m 98 #[.val (.int p0), .val (.int p1), .val (.int p2), .val (.int p3), .val (.int (3 : Int32)), .val (.ref b4_1), .val (.ref b4_5), .val (.ref b4_9), .val (.ref b14), .val (.ref b14)] [])) (fun t k => XS.astore X115.here hx rfl (hb hby at_96) rfl rfl (l' := #[.val (.int p0), .val (.int p1), .val (.int p2), .val (.int p3), .val (.int (3 : Int32)), .val (.ref b4_1), .val (.ref b4_5), .val (.ref b4_9), .val (.ref b14), .val (.ref b14)]) rfl k) ?_
    refine step (T115.setTop (mkF m 100 #[.val (.int p0), .val (.int p1), .val (.int p2), .val (.int p3), .val (.int (3 : Int32)), .val (.ref b4_1), .val (.ref b4_5), .val (.ref b4_9), .val (.ref b14), .val (.ref b14)] [(.ref b14)])) (fun t k => XS.aload X115.here hx rfl (hb hby at_98) rfl rfl k) ?_
    refine step (T115.setTop (mkF m 102 #[.val (.int p0), .val (.int p1), .val (.int p2), .val (.int p3), .val (.int (3 : Int32)), .val (.ref b4_1), .val (.ref b4_5), .val (.ref b4_9), .val (.ref b14), .val (.ref b14)] [(.ref b14), (.ref b14)])) (fun t k => XS.aload X115.here hx rfl (hb hby at_100) rfl rfl k) ?_
    refine step (T115.setTop (mkF m 107 #[.val (.int p0), .val (.int p1), .val (.int p2), .val (.int p3), .val (.int (3 : Int32)), .val (.ref b4_1), .val (.ref b4_5), .val (.ref b4_9), .val (.ref b14), .val (.ref b14)] [])) (fun t k => Jvm.RoadKit.acmp (g := (mkF m 102 #[.val (.int p0), .val (.int p1), .val (.int p2), .val (.int p3), .val (.int (3 : Int32)), .val (.ref b4_1), .val (.ref b4_5), .val (.ref b4_9), .val (.ref b14), .val (.ref b14)] [(.ref b14), (.ref b14)])) X115 hx rfl rfl rfl (pc0 := 102) (pc' := 107) (same := true) rfl (hb hby at_102) rfl (decide_eq_true rfl) (by decide) (by decide) k) ?_
    refine step (T115.setTop (mkF m 109 #[.val (.int p0), .val (.int p1), .val (.int p2), .val (.int p3), .val (.int (3 : Int32)), .val (.ref b4_1), .val (.ref b4_5), .val (.ref b4_9), .val (.ref b14), .val (.ref b14)] [(.ref b14)])) (fun t k => XS.aload X115.here hx rfl (hb hby at_107) rfl rfl k) ?_
    obtain ⟨cq116, kq116, q116a, q116b, q116c⟩ := isOf hZ e115 f113
    obtain ⟨_, _, ⟨T116, L116, k116, n116⟩, -, X116, ⟨Lc116, hQ116, l116, y116, z116⟩, st116⟩ := X115.virtualBack hx (y := (⟨"java/util/ArrayList", "size", "()I"⟩ : MethodName)) (z := (⟨"java/util/ArrayList", "size", "()I"⟩ : MethodName)) hown (mvT hZ (hw _ (List.mem_of_getElem? (i := 55) rfl))) (mvT hZ (hw _ (List.mem_of_getElem? (i := 56) rfl))) (notFace_of_selects (args := #[]) (mvT hZ (hw _ (List.mem_of_getElem? (i := 58) rfl)))) (mvT hZ (hw _ (List.mem_of_getElem? (i := 58) rfl))) (mvT hZ (hw _ (List.mem_of_getElem? (i := 57) rfl))) (by decide) (backOf (W := 0) (rm10_34 l Z a0 hw [] b14 h110 n0 (Nat.le_trans Z0 K110.1) f113 q2_110 gn_b14) hZ (hw _ (List.mem_of_getElem? (i := 59) rfl)) (hw _ (List.mem_of_getElem? (i := 28) rfl)) (by decide) (by decide)) q116a q116c (g := (mkF m 109 #[.val (.int p0), .val (.int p1), .val (.int p2), .val (.int p3), .val (.int (3 : Int32)), .val (.ref b4_1), .val (.ref b4_5), .val (.ref b4_9), .val (.ref b14), .val (.ref b14)] [(.ref b14)])) rfl (by rw [hml]; rfl) (Steps.refl _) (argsL := []) (rest := []) (lenOf pd_4 rfl) rfl (by show 2 * 0 + _ ≤ _; exact Nat.le_of_eq rfl) (hb hby at_109) (fun _ _ => ⟨rfl, e115, (by decide : 8 + 0 ≤ _), (by decide : 28 + 0 ≤ _)⟩)
    dsimp only [Pt.U, Pt.locs, Pt.cells, Pt.slots] at X116 l116 y116 z116 st116 hQ116
    subst l116 y116 z116
    obtain ⟨rfl, N116q, e116q⟩ := hQ116
    have N116 := Fr.app N114 N116q
    refine step (T116.setTop (mkF m 112 #[.val (.int p0), .val (.int p1), .val (.int p2), .val (.int p3), .val (.int (3 : Int32)), .val (.ref b4_1), .val (.ref b4_5), .val (.ref b4_9), .val (.ref b14), .val (.ref b14)] [(.int (3 : Int32))])) (fun t k => st116.trans k) ?_
    refine step (T116.setTop (mkF m 114 #[.val (.int p0), .val (.int p1), .val (.int p2), .val (.int p3), .val (.int (3 : Int32)), .val (.ref b4_1), .val (.ref b4_5), .val (.ref b4_9), .val (.ref b14), .val (.ref b14)] [(.int (3 : Int32)), (.int (3 : Int32))])) (fun t k => XS.iload X116.here hx rfl (hb hby at_112) rfl k) ?_
    refine step (T116.setTop (mkF m 119 #[.val (.int p0), .val (.int p1), .val (.int p2), .val (.int p3), .val (.int (3 : Int32)), .val (.ref b4_1), .val (.ref b4_5), .val (.ref b4_9), .val (.ref b14), .val (.ref b14)] [])) (fun t k => XS.icmpYes X116.here hx rfl (pc0 := 114) (pc' := 119) rfl (hb hby at_114) rfl (teq (by decide : (3 : Int32) = (3 : Int32))).1 (by decide) (by decide) k) ?_
    refine step (T116.setTop (mkF m 121 #[.val (.int p0), .val (.int p1), .val (.int p2), .val (.int p3), .val (.int (3 : Int32)), .val (.ref b4_1), .val (.ref b4_5), .val (.ref b4_9), .val (.ref b14), .val (.ref b14)] [(.int (3 : Int32))])) (fun t k => XS.iload X116.here hx rfl (hb hby at_119) rfl k) ?_
    refine step (T116.setTop (mkF m 124 #[.val (.int p0), .val (.int p1), .val (.int p2), .val (.int p3), .val (.int (3 : Int32)), .val (.ref b4_1), .val (.ref b4_5), .val (.ref b4_9), .val (.ref b14), .val (.ref b14)] [])) (fun t k => XS.ifNo X116.here hx rfl (hb hby at_121) rfl ((if0 _ _).trans (tlt (by decide : (0 : Int32) < (3 : Int32))).2.2.2) k) ?_
    refine step (T116.setTop (mkF m 126 #[.val (.int p0), .val (.int p1), .val (.int p2), .val (.int p3), .val (.int (3 : Int32)), .val (.ref b4_1), .val (.ref b4_5), .val (.ref b4_9), .val (.ref b14), .val (.ref b14)] [(.ref b14)])) (fun t k => XS.aload X116.here hx rfl (hb hby at_124) rfl rfl k) ?_
    refine step (T116.setTop (mkF m 127 #[.val (.int p0), .val (.int p1), .val (.int p2), .val (.int p3), .val (.int (3 : Int32)), .val (.ref b4_1), .val (.ref b4_5), .val (.ref b4_9), .val (.ref b14), .val (.ref b14)] [(.int (0 : Int32)), (.ref b14)])) (fun t k => XS.iconst X116.here hx rfl (hb hby at_126) k) ?_
    have f117 := (f108.keep K110q)
    have f118 := (f109.keep K110q)
    have f119 := (f106.keep K110q)
    obtain ⟨cq120, kq120, q120a, q120b, q120c⟩ := isOf hZ e116q f113
    obtain ⟨_, _, ⟨T120, L120, k120, n120⟩, -, X120, ⟨Lc120, hQ120, l120, y120, z120⟩, st120⟩ := X116.virtualBack hx (y := (⟨"java/util/ArrayList", "get", "(I)Ljava/lang/Object;"⟩ : MethodName)) (z := (⟨"java/util/ArrayList", "get", "(I)Ljava/lang/Object;"⟩ : MethodName)) hown (mvT hZ (hw _ (List.mem_of_getElem? (i := 91) rfl))) (mvT hZ (hw _ (List.mem_of_getElem? (i := 92) rfl))) (notFace_of_selects (args := #[]) (mvT hZ (hw _ (List.mem_of_getElem? (i := 94) rfl)))) (mvT hZ (hw _ (List.mem_of_getElem? (i := 94) rfl))) (mvT hZ (hw _ (List.mem_of_getElem? (i := 93) rfl))) (by decide) (backOf (W := 0) (rm16_35 l Z a0 hw [] b14 b6_2_2_11_90 k6_2_2_11_90 b4_1 b4_5 b4_9 h110 n0 (Nat.le_trans Z0 K110.1) f113 q0_110 q2_110 q3_110 ov0_90 f117 f118 f119 gn_b14 ne_b14_b6_2_2_11_90 (Ne.symm ne_b4_1_b14) (Ne.symm ne_b4_5_b14) (Ne.symm ne_b4_9_b14) gn_b6_2_2_11_90 (Ne.symm ne_b4_1_b6_2_2_11_90) (Ne.symm ne_b4_5_b6_2_2_11_90) (Ne.symm ne_b4_9_b6_2_2_11_90) gn_b4_1 ne_b4_1_b4_5 ne_b4_1_b4_9 gn_b4_5 ne_b4_5_b4_9 gn_b4_9) hZ (hw _ (List.mem_of_getElem? (i := 95) rfl)) (hw _ (List.mem_of_getElem? (i := 28) rfl)) (by decide) (by decide)) q120a q120c (g := (mkF m 127 #[.val (.int p0), .val (.int p1), .val (.int p2), .val (.int p3), .val (.int (3 : Int32)), .val (.ref b4_1), .val (.ref b4_5), .val (.ref b4_9), .val (.ref b14), .val (.ref b14)] [(.int (0 : Int32)), (.ref b14)])) rfl (by rw [hml]; rfl) (Steps.refl _) (argsL := [(.int (0 : Int32))]) (rest := []) (lenOf pd_5 rfl) rfl (by show 2 * 0 + _ ≤ _; exact Nat.le_of_eq rfl) (hb hby at_127) (fun _ _ => ⟨rfl, e116q, (by decide : 8 + 0 ≤ _), (by decide : 28 + 0 ≤ _)⟩)
    dsimp only [Pt.U, Pt.locs, Pt.cells, Pt.slots] at X120 l120 y120 z120 st120 hQ120
    subst l120 y120 z120
    obtain ⟨rfl, N120q, e120q⟩ := hQ120
    have N120 := Fr.app N116 N120q
    refine step (T120.setTop (mkF m 130 #[.val (.int p0), .val (.int p1), .val (.int p2), .val (.int p3), .val (.int (3 : Int32)), .val (.ref b4_1), .val (.ref b4_5), .val (.ref b4_9), .val (.ref b14), .val (.ref b14)] [(.ref b4_1)])) (fun t k => st120.trans k) ?_
    refine step (T120.setTop (mkF m 132 #[.val (.int p0), .val (.int p1), .val (.int p2), .val (.int p3), .val (.int (3 : Int32)), .val (.ref b4_1), .val (.ref b4_5), .val (.ref b4_9), .val (.ref b14), .val (.ref b14)] [(.ref b4_1), (.ref b4_1)])) (fun t k => XS.aload X120.here hx rfl (hb hby at_130) rfl rfl k) ?_
    refine step (T120.setTop (mkF m 135 #[.val (.int p0), .val (.int p1), .val (.int p2), .val (.int p3), .val (.int (3 : Int32)), .val (.ref b4_1), .val (.ref b4_5), .val (.ref b4_9), .val (.ref b14), .val (.ref b14)] [])) (fun t k => Jvm.RoadKit.acmp (g := (mkF m 132 #[.val (.int p0), .val (.int p1), .val (.int p2), .val (.int p3), .val (.int (3 : Int32)), .val (.ref b4_1), .val (.ref b4_5), .val (.ref b4_9), .val (.ref b14), .val (.ref b14)] [(.ref b4_1), (.ref b4_1)])) X120 hx rfl rfl rfl (pc0 := 132) (pc' := 135) (same := true) rfl (hb hby at_132) rfl (decide_eq_true rfl) (by decide) (by decide) k) ?_
    refine step (T120.setTop (mkF m 137 #[.val (.int p0), .val (.int p1), .val (.int p2), .val (.int p3), .val (.int (3 : Int32)), .val (.ref b4_1), .val (.ref b4_5), .val (.ref b4_9), .val (.ref b14), .val (.ref b14)] [(.ref b14)])) (fun t k => XS.aload X120.here hx rfl (hb hby at_135) rfl rfl k) ?_
    refine step (T120.setTop (mkF m 138 #[.val (.int p0), .val (.int p1), .val (.int p2), .val (.int p3), .val (.int (3 : Int32)), .val (.ref b4_1), .val (.ref b4_5), .val (.ref b4_9), .val (.ref b14), .val (.ref b14)] [(.int (0 : Int32)), (.ref b14)])) (fun t k => XS.iconst X120.here hx rfl (hb hby at_137) k) ?_
    obtain ⟨cq121, kq121, q121a, q121b, q121c⟩ := isOf hZ e120q f113
    obtain ⟨_, _, ⟨T121, L121, k121, n121⟩, -, X121, ⟨Lc121, hQ121, l121, y121, z121⟩, st121⟩ := X120.virtualBack hx (y := (⟨"java/util/ArrayList", "get", "(I)Ljava/lang/Object;"⟩ : MethodName)) (z := (⟨"java/util/ArrayList", "get", "(I)Ljava/lang/Object;"⟩ : MethodName)) hown (mvT hZ (hw _ (List.mem_of_getElem? (i := 91) rfl))) (mvT hZ (hw _ (List.mem_of_getElem? (i := 92) rfl))) (notFace_of_selects (args := #[]) (mvT hZ (hw _ (List.mem_of_getElem? (i := 94) rfl)))) (mvT hZ (hw _ (List.mem_of_getElem? (i := 94) rfl))) (mvT hZ (hw _ (List.mem_of_getElem? (i := 93) rfl))) (by decide) (backOf (W := 0) (rm16_35 l Z a0 hw [] b14 b6_2_2_11_90 k6_2_2_11_90 b4_1 b4_5 b4_9 h110 n0 (Nat.le_trans Z0 K110.1) f113 q0_110 q2_110 q3_110 ov0_90 f117 f118 f119 gn_b14 ne_b14_b6_2_2_11_90 (Ne.symm ne_b4_1_b14) (Ne.symm ne_b4_5_b14) (Ne.symm ne_b4_9_b14) gn_b6_2_2_11_90 (Ne.symm ne_b4_1_b6_2_2_11_90) (Ne.symm ne_b4_5_b6_2_2_11_90) (Ne.symm ne_b4_9_b6_2_2_11_90) gn_b4_1 ne_b4_1_b4_5 ne_b4_1_b4_9 gn_b4_5 ne_b4_5_b4_9 gn_b4_9) hZ (hw _ (List.mem_of_getElem? (i := 95) rfl)) (hw _ (List.mem_of_getElem? (i := 28) rfl)) (by decide) (by decide)) q121a q121c (g := (mkF m 138 #[.val (.int p0), .val (.int p1), .val (.int p2), .val (.int p3), .val (.int (3 : Int32)), .val (.ref b4_1), .val (.ref b4_5), .val (.ref b4_9), .val (.ref b14), .val (.ref b14)] [(.int (0 : Int32)), (.ref b14)])) rfl (by rw [hml]; rfl) (Steps.refl _) (argsL := [(.int (0 : Int32))]) (rest := []) (lenOf pd_5 rfl) rfl (by show 2 * 0 + _ ≤ _; exact Nat.le_of_eq rfl) (hb hby at_138) (fun _ _ => ⟨rfl, e120q, (by decide : 8 + 0 ≤ _), (by decide : 28 + 0 ≤ _)⟩)
    dsimp only [Pt.U, Pt.locs, Pt.cells, Pt.slots] at X121 l121 y121 z121 st121 hQ121
    subst l121 y121 z121
    obtain ⟨rfl, N121q, e121q⟩ := hQ121
    have N121 := Fr.app N120 N121q
    refine step (T121.setTop (mkF m 141 #[.val (.int p0), .val (.int p1), .val (.int p2), .val (.int p3), .val (.int (3 : Int32)), .val (.ref b4_1), .val (.ref b4_5), .val (.ref b4_9), .val (.ref b14), .val (.ref b14)] [(.ref b4_1)])) (fun t k => st121.trans k) ?_
    obtain ⟨T122, X122, e122, st122⟩ := castY X121 hx hZ hown (hw _ (List.mem_of_getElem? (i := 109) rfl)) e121q (Ins.self f117) (g := (mkF m 141 #[.val (.int p0), .val (.int p1), .val (.int p2), .val (.int p3), .val (.int (3 : Int32)), .val (.ref b4_1), .val (.ref b4_5), .val (.ref b4_9), .val (.ref b14), .val (.ref b14)] [(.ref b4_1)])) rfl rfl (hb hby at_141)
    refine step (T122.setTop (mkF m 144 #[.val (.int p0), .val (.int p1), .val (.int p2), .val (.int p3), .val (.int (3 : Int32)), .val (.ref b4_1), .val (.ref b4_5), .val (.ref b4_9), .val (.ref b14), .val (.ref b14)] [(.ref b4_1)])) (fun t k => st122 t k) ?_
    refine step (T122.setTop (mkF m 146 #[.val (.int p0), .val (.int p1), .val (.int p2), .val (.int p3), .val (.int (3 : Int32)), .val (.ref b4_1), .val (.ref b4_5), .val (.ref b4_9), .val (.ref b14), .val (.ref b14)] [(.ref b4_1), (.ref b4_1)])) (fun t k => XS.aload X122.here hx rfl (hb hby at_144) rfl rfl k) ?_
    have f123 := (((((((q1_1.keep K5q nin0).keep K9q nin0).ext E14).keep K21q (ninS ne_b4_1_b14 nin0)).keep K90q (ninS ne_b4_1_b14 nin0)).keep K102q (ninS ne_b4_1_b14 (ninS ne_b4_1_b6_2_2_11_90 nin0))).keep K110q (ninS ne_b4_1_b14 (ninS ne_b4_1_b6_2_2_11_90 nin0)))
    have f124 := (((((((q2_1.keep K5q nin0).keep K9q nin0).ext E14).keep K21q (ninS ne_b4_1_b14 nin0)).keep K90q (ninS ne_b4_1_b14 nin0)).keep K102q (ninS ne_b4_1_b14 (ninS ne_b4_1_b6_2_2_11_90 nin0))).keep K110q (ninS ne_b4_1_b14 (ninS ne_b4_1_b6_2_2_11_90 nin0)))
    obtain ⟨cq125, kq125, q125a, q125b, q125c⟩ := isOf hZ e122 f117
    obtain ⟨_, _, ⟨T125, L125, k125, n125⟩, -, X125, ⟨Lc125, hQ125, l125, y125, z125⟩, st125⟩ := X122.virtualBack hx (y := (⟨"java/lang/String", "equals", "(Ljava/lang/Object;)Z"⟩ : MethodName)) (z := (⟨"java/lang/String", "equals", "(Ljava/lang/Object;)Z"⟩ : MethodName)) hown (mvT hZ (hw _ (List.mem_of_getElem? (i := 110) rfl))) (mvT hZ (hw _ (List.mem_of_getElem? (i := 111) rfl))) (notFace_of_selects (args := #[]) (mvT hZ (hw _ (List.mem_of_getElem? (i := 113) rfl)))) (mvT hZ (hw _ (List.mem_of_getElem? (i := 113) rfl))) (mvT hZ (hw _ (List.mem_of_getElem? (i := 112) rfl))) (by decide) (backOf (W := 0) (rm20_20 l Z a0 hw [] b4_1 cs b1_5_1 h110 n0 (Nat.le_trans Z0 K110.1) f111 f117 f123 f124 gn_b4_1 (Ne.symm ne_b1_5_b4_1) gn_b1_5_1 c_cs) hZ (hw _ (List.mem_of_getElem? (i := 114) rfl)) (hw _ (List.mem_of_getElem? (i := 2) rfl)) (by decide) (by decide)) q125a q125c (g := (mkF m 146 #[.val (.int p0), .val (.int p1), .val (.int p2), .val (.int p3), .val (.int (3 : Int32)), .val (.ref b4_1), .val (.ref b4_5), .val (.ref b4_9), .val (.ref b14), .val (.ref b14)] [(.ref b4_1), (.ref b4_1)])) rfl (by rw [hml]; rfl) (Steps.refl _) (argsL := [(.ref b4_1)]) (rest := []) (lenOf pd_2 rfl) rfl (by show 2 * 0 + _ ≤ _; exact Nat.le_of_eq rfl) (hb hby at_146) (fun _ _ => ⟨rfl, e122, (by decide : 8 + 0 ≤ _), (by decide : 28 + 0 ≤ _)⟩)
    dsimp only [Pt.U, Pt.locs, Pt.cells, Pt.slots] at X125 l125 y125 z125 st125 hQ125
    subst l125 y125 z125
    obtain ⟨rfl, N125q, e125q⟩ := hQ125
    have N125 := Fr.app N121 N125q
    refine step (T125.setTop (mkF m 149 #[.val (.int p0), .val (.int p1), .val (.int p2), .val (.int p3), .val (.int (3 : Int32)), .val (.ref b4_1), .val (.ref b4_5), .val (.ref b4_9), .val (.ref b14), .val (.ref b14)] [(.int (1 : Int32))])) (fun t k => st125.trans k) ?_
    refine step (T125.setTop (mkF m 154 #[.val (.int p0), .val (.int p1), .val (.int p2), .val (.int p3), .val (.int (3 : Int32)), .val (.ref b4_1), .val (.ref b4_5), .val (.ref b4_9), .val (.ref b14), .val (.ref b14)] [])) (fun t k => XS.ifYes X125.here hx rfl (pc0 := 149) (pc' := 154) rfl (hb hby at_149) rfl ((if0 _ _).trans (feq (by decide : ¬ ((1 : Int32) = (0 : Int32)))).2) (by decide) (by decide) k) ?_
    refine step (T125.setTop (mkF m 156 #[.val (.int p0), .val (.int p1), .val (.int p2), .val (.int p3), .val (.int (3 : Int32)), .val (.ref b4_1), .val (.ref b4_5), .val (.ref b4_9), .val (.ref b14), .val (.ref b14)] [(.int (3 : Int32))])) (fun t k => XS.iload X125.here hx rfl (hb hby at_154) rfl k) ?_
    refine step (T125.setTop (mkF m 157 #[.val (.int p0), .val (.int p1), .val (.int p2), .val (.int p3), .val (.int (3 : Int32)), .val (.ref b4_1), .val (.ref b4_5), .val (.ref b4_9), .val (.ref b14), .val (.ref b14)] [(.int (1 : Int32)), (.int (3 : Int32))])) (fun t k => XS.iconst X125.here hx rfl (hb hby at_156) k) ?_
    refine step (T125.setTop (mkF m 160 #[.val (.int p0), .val (.int p1), .val (.int p2), .val (.int p3), .val (.int (3 : Int32)), .val (.ref b4_1), .val (.ref b4_5), .val (.ref b4_9), .val (.ref b14), .val (.ref b14)] [])) (fun t k => XS.icmpNo X125.here hx rfl (hb hby at_157) rfl (tlt (by decide : (1 : Int32) < (3 : Int32))).2.2.2 k) ?_
    refine step (T125.setTop (mkF m 162 #[.val (.int p0), .val (.int p1), .val (.int p2), .val (.int p3), .val (.int (3 : Int32)), .val (.ref b4_1), .val (.ref b4_5), .val (.ref b4_9), .val (.ref b14), .val (.ref b14)] [(.ref b14)])) (fun t k => XS.aload X125.here hx rfl (hb hby at_160) rfl rfl k) ?_
    refine step (T125.setTop (mkF m 163 #[.val (.int p0), .val (.int p1), .val (.int p2), .val (.int p3), .val (.int (3 : Int32)), .val (.ref b4_1), .val (.ref b4_5), .val (.ref b4_9), .val (.ref b14), .val (.ref b14)] [(.int (1 : Int32)), (.ref b14)])) (fun t k => XS.iconst X125.here hx rfl (hb hby at_162) k) ?_
    obtain ⟨cq126, kq126, q126a, q126b, q126c⟩ := isOf hZ e125q f113
    obtain ⟨_, _, ⟨T126, L126, k126, n126⟩, -, X126, ⟨Lc126, hQ126, l126, y126, z126⟩, st126⟩ := X125.virtualBack hx (y := (⟨"java/util/ArrayList", "get", "(I)Ljava/lang/Object;"⟩ : MethodName)) (z := (⟨"java/util/ArrayList", "get", "(I)Ljava/lang/Object;"⟩ : MethodName)) hown (mvT hZ (hw _ (List.mem_of_getElem? (i := 91) rfl))) (mvT hZ (hw _ (List.mem_of_getElem? (i := 92) rfl))) (notFace_of_selects (args := #[]) (mvT hZ (hw _ (List.mem_of_getElem? (i := 94) rfl)))) (mvT hZ (hw _ (List.mem_of_getElem? (i := 94) rfl))) (mvT hZ (hw _ (List.mem_of_getElem? (i := 93) rfl))) (by decide) (backOf (W := 0) (rm16_39 l Z a0 hw [] b14 b6_2_2_11_90 k6_2_2_11_90 b4_1 b4_5 b4_9 h110 n0 (Nat.le_trans Z0 K110.1) f113 q0_110 q2_110 q3_110 ov0_90 f117 f118 f119 gn_b14 ne_b14_b6_2_2_11_90 (Ne.symm ne_b4_1_b14) (Ne.symm ne_b4_5_b14) (Ne.symm ne_b4_9_b14) gn_b6_2_2_11_90 (Ne.symm ne_b4_1_b6_2_2_11_90) (Ne.symm ne_b4_5_b6_2_2_11_90) (Ne.symm ne_b4_9_b6_2_2_11_90) gn_b4_1 ne_b4_1_b4_5 ne_b4_1_b4_9 gn_b4_5 ne_b4_5_b4_9 gn_b4_9) hZ (hw _ (List.mem_of_getElem? (i := 95) rfl)) (hw _ (List.mem_of_getElem? (i := 28) rfl)) (by decide) (by decide)) q126a q126c (g := (mkF m 163 #[.val (.int p0), .val (.int p1), .val (.int p2), .val (.int p3), .val (.int (3 : Int32)), .val (.ref b4_1), .val (.ref b4_5), .val (.ref b4_9), .val (.ref b14), .val (.ref b14)] [(.int (1 : Int32)), (.ref b14)])) rfl (by rw [hml]; rfl) (Steps.refl _) (argsL := [(.int (1 : Int32))]) (rest := []) (lenOf pd_5 rfl) rfl (by show 2 * 0 + _ ≤ _; exact Nat.le_of_eq rfl) (hb hby at_163) (fun _ _ => ⟨rfl, e125q, (by decide : 8 + 0 ≤ _), (by decide : 28 + 0 ≤ _)⟩)
    dsimp only [Pt.U, Pt.locs, Pt.cells, Pt.slots] at X126 l126 y126 z126 st126 hQ126
    subst l126 y126 z126
    obtain ⟨rfl, N126q, e126q⟩ := hQ126
    have N126 := Fr.app N125 N126q
    refine step (T126.setTop (mkF m 166 #[.val (.int p0), .val (.int p1), .val (.int p2), .val (.int p3), .val (.int (3 : Int32)), .val (.ref b4_1), .val (.ref b4_5), .val (.ref b4_9), .val (.ref b14), .val (.ref b14)] [(.ref b4_5)])) (fun t k => st126.trans k) ?_
    refine step (T126.setTop (mkF m 168 #[.val (.int p0), .val (.int p1), .val (.int p2), .val (.int p3), .val (.int (3 : Int32)), .val (.ref b4_1), .val (.ref b4_5), .val (.ref b4_9), .val (.ref b14), .val (.ref b14)] [(.ref b4_5), (.ref b4_5)])) (fun t k => XS.aload X126.here hx rfl (hb hby at_166) rfl rfl k) ?_
    refine step (T126.setTop (mkF m 171 #[.val (.int p0), .val (.int p1), .val (.int p2), .val (.int p3), .val (.int (3 : Int32)), .val (.ref b4_1), .val (.ref b4_5), .val (.ref b4_9), .val (.ref b14), .val (.ref b14)] [])) (fun t k => Jvm.RoadKit.acmp (g := (mkF m 168 #[.val (.int p0), .val (.int p1), .val (.int p2), .val (.int p3), .val (.int (3 : Int32)), .val (.ref b4_1), .val (.ref b4_5), .val (.ref b4_9), .val (.ref b14), .val (.ref b14)] [(.ref b4_5), (.ref b4_5)])) X126 hx rfl rfl rfl (pc0 := 168) (pc' := 171) (same := true) rfl (hb hby at_168) rfl (decide_eq_true rfl) (by decide) (by decide) k) ?_
    refine step (T126.setTop (mkF m 173 #[.val (.int p0), .val (.int p1), .val (.int p2), .val (.int p3), .val (.int (3 : Int32)), .val (.ref b4_1), .val (.ref b4_5), .val (.ref b4_9), .val (.ref b14), .val (.ref b14)] [(.ref b14)])) (fun t k => XS.aload X126.here hx rfl (hb hby at_171) rfl rfl k) ?_
    refine step (T126.setTop (mkF m 174 #[.val (.int p0), .val (.int p1), .val (.int p2), .val (.int p3), .val (.int (3 : Int32)), .val (.ref b4_1), .val (.ref b4_5), .val (.ref b4_9), .val (.ref b14), .val (.ref b14)] [(.int (1 : Int32)), (.ref b14)])) (fun t k => XS.iconst X126.here hx rfl (hb hby at_173) k) ?_
    obtain ⟨cq127, kq127, q127a, q127b, q127c⟩ := isOf hZ e126q f113
    obtain ⟨_, _, ⟨T127, L127, k127, n127⟩, -, X127, ⟨Lc127, hQ127, l127, y127, z127⟩, st127⟩ := X126.virtualBack hx (y := (⟨"java/util/ArrayList", "get", "(I)Ljava/lang/Object;"⟩ : MethodName)) (z := (⟨"java/util/ArrayList", "get", "(I)Ljava/lang/Object;"⟩ : MethodName)) hown (mvT hZ (hw _ (List.mem_of_getElem? (i := 91) rfl))) (mvT hZ (hw _ (List.mem_of_getElem? (i := 92) rfl))) (notFace_of_selects (args := #[]) (mvT hZ (hw _ (List.mem_of_getElem? (i := 94) rfl)))) (mvT hZ (hw _ (List.mem_of_getElem? (i := 94) rfl))) (mvT hZ (hw _ (List.mem_of_getElem? (i := 93) rfl))) (by decide) (backOf (W := 0) (rm16_39 l Z a0 hw [] b14 b6_2_2_11_90 k6_2_2_11_90 b4_1 b4_5 b4_9 h110 n0 (Nat.le_trans Z0 K110.1) f113 q0_110 q2_110 q3_110 ov0_90 f117 f118 f119 gn_b14 ne_b14_b6_2_2_11_90 (Ne.symm ne_b4_1_b14) (Ne.symm ne_b4_5_b14) (Ne.symm ne_b4_9_b14) gn_b6_2_2_11_90 (Ne.symm ne_b4_1_b6_2_2_11_90) (Ne.symm ne_b4_5_b6_2_2_11_90) (Ne.symm ne_b4_9_b6_2_2_11_90) gn_b4_1 ne_b4_1_b4_5 ne_b4_1_b4_9 gn_b4_5 ne_b4_5_b4_9 gn_b4_9) hZ (hw _ (List.mem_of_getElem? (i := 95) rfl)) (hw _ (List.mem_of_getElem? (i := 28) rfl)) (by decide) (by decide)) q127a q127c (g := (mkF m 174 #[.val (.int p0), .val (.int p1), .val (.int p2), .val (.int p3), .val (.int (3 : Int32)), .val (.ref b4_1), .val (.ref b4_5), .val (.ref b4_9), .val (.ref b14), .val (.ref b14)] [(.int (1 : Int32)), (.ref b14)])) rfl (by rw [hml]; rfl) (Steps.refl _) (argsL := [(.int (1 : Int32))]) (rest := []) (lenOf pd_5 rfl) rfl (by show 2 * 0 + _ ≤ _; exact Nat.le_of_eq rfl) (hb hby at_174) (fun _ _ => ⟨rfl, e126q, (by decide : 8 + 0 ≤ _), (by decide : 28 + 0 ≤ _)⟩)
    dsimp only [Pt.U, Pt.locs, Pt.cells, Pt.slots] at X127 l127 y127 z127 st127 hQ127
    subst l127 y127 z127
    obtain ⟨rfl, N127q, e127q⟩ := hQ127
    have N127 := Fr.app N126 N127q
    refine step (T127.setTop (mkF m 177 #[.val (.int p0), .val (.int p1), .val (.int p2), .val (.int p3), .val (.int (3 : Int32)), .val (.ref b4_1), .val (.ref b4_5), .val (.ref b4_9), .val (.ref b14), .val (.ref b14)] [(.ref b4_5)])) (fun t k => st127.trans k) ?_
    obtain ⟨T128, X128, e128, st128⟩ := castY X127 hx hZ hown (hw _ (List.mem_of_getElem? (i := 109) rfl)) e127q (Ins.self f118) (g := (mkF m 177 #[.val (.int p0), .val (.int p1), .val (.int p2), .val (.int p3), .val (.int (3 : Int32)), .val (.ref b4_1), .val (.ref b4_5), .val (.ref b4_9), .val (.ref b14), .val (.ref b14)] [(.ref b4_5)])) rfl rfl (hb hby at_177)
    refine step (T128.setTop (mkF m 180 #[.val (.int p0), .val (.int p1), .val (.int p2), .val (.int p3), .val (.int (3 : Int32)), .val (.ref b4_1), .val (.ref b4_5), .val (.ref b4_9), .val (.ref b14), .val (.ref b14)] [(.ref b4_5)])) (fun t k => st128 t k) ?_
    refine step (T128.setTop (mkF m 182 #[.val (.int p0), .val (.int p1), .val (.int p2), .val (.int p3), .val (.int (3 : Int32)), .val (.ref b4_1), .val (.ref b4_5), .val (.ref b4_9), .val (.ref b14), .val (.ref b14)] [(.ref b4_5), (.ref b4_5)])) (fun t k => XS.aload X128.here hx rfl (hb hby at_180) rfl rfl k) ?_
    have f129 := ((((((q1_5.keep K9q nin0).ext E14).keep K21q (ninS ne_b4_5_b14 nin0)).keep K90q (ninS ne_b4_5_b14 nin0)).keep K102q (ninS ne_b4_5_b14 (ninS ne_b4_5_b6_2_2_11_90 nin0))).keep K110q (ninS ne_b4_5_b14 (ninS ne_b4_5_b6_2_2_11_90 nin0)))
    have f130 := ((((((q2_5.keep K9q nin0).ext E14).keep K21q (ninS ne_b4_5_b14 nin0)).keep K90q (ninS ne_b4_5_b14 nin0)).keep K102q (ninS ne_b4_5_b14 (ninS ne_b4_5_b6_2_2_11_90 nin0))).keep K110q (ninS ne_b4_5_b14 (ninS ne_b4_5_b6_2_2_11_90 nin0)))
    obtain ⟨cq131, kq131, q131a, q131b, q131c⟩ := isOf hZ e128 f118
    obtain ⟨_, _, ⟨T131, L131, k131, n131⟩, -, X131, ⟨Lc131, hQ131, l131, y131, z131⟩, st131⟩ := X128.virtualBack hx (y := (⟨"java/lang/String", "equals", "(Ljava/lang/Object;)Z"⟩ : MethodName)) (z := (⟨"java/lang/String", "equals", "(Ljava/lang/Object;)Z"⟩ : MethodName)) hown (mvT hZ (hw _ (List.mem_of_getElem? (i := 110) rfl))) (mvT hZ (hw _ (List.mem_of_getElem? (i := 111) rfl))) (notFace_of_selects (args := #[]) (mvT hZ (hw _ (List.mem_of_getElem? (i := 113) rfl)))) (mvT hZ (hw _ (List.mem_of_getElem? (i := 113) rfl))) (mvT hZ (hw _ (List.mem_of_getElem? (i := 112) rfl))) (by decide) (backOf (W := 0) (rm20_20 l Z a0 hw [] b4_5 cs b1_5_5 h110 n0 (Nat.le_trans Z0 K110.1) f111 f118 f129 f130 gn_b4_5 (Ne.symm ne_b1_5_b4_5) gn_b1_5_5 c_cs) hZ (hw _ (List.mem_of_getElem? (i := 114) rfl)) (hw _ (List.mem_of_getElem? (i := 2) rfl)) (by decide) (by decide)) q131a q131c (g := (mkF m 182 #[.val (.int p0), .val (.int p1), .val (.int p2), .val (.int p3), .val (.int (3 : Int32)), .val (.ref b4_1), .val (.ref b4_5), .val (.ref b4_9), .val (.ref b14), .val (.ref b14)] [(.ref b4_5), (.ref b4_5)])) rfl (by rw [hml]; rfl) (Steps.refl _) (argsL := [(.ref b4_5)]) (rest := []) (lenOf pd_2 rfl) rfl (by show 2 * 0 + _ ≤ _; exact Nat.le_of_eq rfl) (hb hby at_182) (fun _ _ => ⟨rfl, e128, (by decide : 8 + 0 ≤ _), (by decide : 28 + 0 ≤ _)⟩)
    dsimp only [Pt.U, Pt.locs, Pt.cells, Pt.slots] at X131 l131 y131 z131 st131 hQ131
    subst l131 y131 z131
    obtain ⟨rfl, N131q, e131q⟩ := hQ131
    have N131 := Fr.app N127 N131q
    refine step (T131.setTop (mkF m 185 #[.val (.int p0), .val (.int p1), .val (.int p2), .val (.int p3), .val (.int (3 : Int32)), .val (.ref b4_1), .val (.ref b4_5), .val (.ref b4_9), .val (.ref b14), .val (.ref b14)] [(.int (1 : Int32))])) (fun t k => st131.trans k) ?_
    refine step (T131.setTop (mkF m 190 #[.val (.int p0), .val (.int p1), .val (.int p2), .val (.int p3), .val (.int (3 : Int32)), .val (.ref b4_1), .val (.ref b4_5), .val (.ref b4_9), .val (.ref b14), .val (.ref b14)] [])) (fun t k => XS.ifYes X131.here hx rfl (pc0 := 185) (pc' := 190) rfl (hb hby at_185) rfl ((if0 _ _).trans (feq (by decide : ¬ ((1 : Int32) = (0 : Int32)))).2) (by decide) (by decide) k) ?_
    refine step (T131.setTop (mkF m 192 #[.val (.int p0), .val (.int p1), .val (.int p2), .val (.int p3), .val (.int (3 : Int32)), .val (.ref b4_1), .val (.ref b4_5), .val (.ref b4_9), .val (.ref b14), .val (.ref b14)] [(.int (3 : Int32))])) (fun t k => XS.iload X131.here hx rfl (hb hby at_190) rfl k) ?_
    refine step (T131.setTop (mkF m 193 #[.val (.int p0), .val (.int p1), .val (.int p2), .val (.int p3), .val (.int (3 : Int32)), .val (.ref b4_1), .val (.ref b4_5), .val (.ref b4_9), .val (.ref b14), .val (.ref b14)] [(.int (2 : Int32)), (.int (3 : Int32))])) (fun t k => XS.iconst X131.here hx rfl (hb hby at_192) k) ?_
    refine step (T131.setTop (mkF m 196 #[.val (.int p0), .val (.int p1), .val (.int p2), .val (.int p3), .val (.int (3 : Int32)), .val (.ref b4_1), .val (.ref b4_5), .val (.ref b4_9), .val (.ref b14), .val (.ref b14)] [])) (fun t k => XS.icmpNo X131.here hx rfl (hb hby at_193) rfl (tlt (by decide : (2 : Int32) < (3 : Int32))).2.2.2 k) ?_
    refine step (T131.setTop (mkF m 198 #[.val (.int p0), .val (.int p1), .val (.int p2), .val (.int p3), .val (.int (3 : Int32)), .val (.ref b4_1), .val (.ref b4_5), .val (.ref b4_9), .val (.ref b14), .val (.ref b14)] [(.ref b14)])) (fun t k => XS.aload X131.here hx rfl (hb hby at_196) rfl rfl k) ?_
    refine step (T131.setTop (mkF m 199 #[.val (.int p0), .val (.int p1), .val (.int p2), .val (.int p3), .val (.int (3 : Int32)), .val (.ref b4_1), .val (.ref b4_5), .val (.ref b4_9), .val (.ref b14), .val (.ref b14)] [(.int (2 : Int32)), (.ref b14)])) (fun t k => XS.iconst X131.here hx rfl (hb hby at_198) k) ?_
    obtain ⟨cq132, kq132, q132a, q132b, q132c⟩ := isOf hZ e131q f113
    obtain ⟨_, _, ⟨T132, L132, k132, n132⟩, -, X132, ⟨Lc132, hQ132, l132, y132, z132⟩, st132⟩ := X131.virtualBack hx (y := (⟨"java/util/ArrayList", "get", "(I)Ljava/lang/Object;"⟩ : MethodName)) (z := (⟨"java/util/ArrayList", "get", "(I)Ljava/lang/Object;"⟩ : MethodName)) hown (mvT hZ (hw _ (List.mem_of_getElem? (i := 91) rfl))) (mvT hZ (hw _ (List.mem_of_getElem? (i := 92) rfl))) (notFace_of_selects (args := #[]) (mvT hZ (hw _ (List.mem_of_getElem? (i := 94) rfl)))) (mvT hZ (hw _ (List.mem_of_getElem? (i := 94) rfl))) (mvT hZ (hw _ (List.mem_of_getElem? (i := 93) rfl))) (by decide) (backOf (W := 0) (rm16_43 l Z a0 hw [] b14 b6_2_2_11_90 k6_2_2_11_90 b4_1 b4_5 b4_9 h110 n0 (Nat.le_trans Z0 K110.1) f113 q0_110 q2_110 q3_110 ov0_90 f117 f118 f119 gn_b14 ne_b14_b6_2_2_11_90 (Ne.symm ne_b4_1_b14) (Ne.symm ne_b4_5_b14) (Ne.symm ne_b4_9_b14) gn_b6_2_2_11_90 (Ne.symm ne_b4_1_b6_2_2_11_90) (Ne.symm ne_b4_5_b6_2_2_11_90) (Ne.symm ne_b4_9_b6_2_2_11_90) gn_b4_1 ne_b4_1_b4_5 ne_b4_1_b4_9 gn_b4_5 ne_b4_5_b4_9 gn_b4_9) hZ (hw _ (List.mem_of_getElem? (i := 95) rfl)) (hw _ (List.mem_of_getElem? (i := 28) rfl)) (by decide) (by decide)) q132a q132c (g := (mkF m 199 #[.val (.int p0), .val (.int p1), .val (.int p2), .val (.int p3), .val (.int (3 : Int32)), .val (.ref b4_1), .val (.ref b4_5), .val (.ref b4_9), .val (.ref b14), .val (.ref b14)] [(.int (2 : Int32)), (.ref b14)])) rfl (by rw [hml]; rfl) (Steps.refl _) (argsL := [(.int (2 : Int32))]) (rest := []) (lenOf pd_5 rfl) rfl (by show 2 * 0 + _ ≤ _; exact Nat.le_of_eq rfl) (hb hby at_199) (fun _ _ => ⟨rfl, e131q, (by decide : 8 + 0 ≤ _), (by decide : 28 + 0 ≤ _)⟩)
    dsimp only [Pt.U, Pt.locs, Pt.cells, Pt.slots] at X132 l132 y132 z132 st132 hQ132
    subst l132 y132 z132
    obtain ⟨rfl, N132q, e132q⟩ := hQ132
    have N132 := Fr.app N131 N132q
    refine step (T132.setTop (mkF m 202 #[.val (.int p0), .val (.int p1), .val (.int p2), .val (.int p3), .val (.int (3 : Int32)), .val (.ref b4_1), .val (.ref b4_5), .val (.ref b4_9), .val (.ref b14), .val (.ref b14)] [(.ref b4_9)])) (fun t k => st132.trans k) ?_
    refine step (T132.setTop (mkF m 204 #[.val (.int p0), .val (.int p1), .val (.int p2), .val (.int p3), .val (.int (3 : Int32)), .val (.ref b4_1), .val (.ref b4_5), .val (.ref b4_9), .val (.ref b14), .val (.ref b14)] [(.ref b4_9), (.ref b4_9)])) (fun t k => XS.aload X132.here hx rfl (hb hby at_202) rfl rfl k) ?_
    refine step (T132.setTop (mkF m 207 #[.val (.int p0), .val (.int p1), .val (.int p2), .val (.int p3), .val (.int (3 : Int32)), .val (.ref b4_1), .val (.ref b4_5), .val (.ref b4_9), .val (.ref b14), .val (.ref b14)] [])) (fun t k => Jvm.RoadKit.acmp (g := (mkF m 204 #[.val (.int p0), .val (.int p1), .val (.int p2), .val (.int p3), .val (.int (3 : Int32)), .val (.ref b4_1), .val (.ref b4_5), .val (.ref b4_9), .val (.ref b14), .val (.ref b14)] [(.ref b4_9), (.ref b4_9)])) X132 hx rfl rfl rfl (pc0 := 204) (pc' := 207) (same := true) rfl (hb hby at_204) rfl (decide_eq_true rfl) (by decide) (by decide) k) ?_
    refine step (T132.setTop (mkF m 209 #[.val (.int p0), .val (.int p1), .val (.int p2), .val (.int p3), .val (.int (3 : Int32)), .val (.ref b4_1), .val (.ref b4_5), .val (.ref b4_9), .val (.ref b14), .val (.ref b14)] [(.ref b14)])) (fun t k => XS.aload X132.here hx rfl (hb hby at_207) rfl rfl k) ?_
    refine step (T132.setTop (mkF m 210 #[.val (.int p0), .val (.int p1), .val (.int p2), .val (.int p3), .val (.int (3 : Int32)), .val (.ref b4_1), .val (.ref b4_5), .val (.ref b4_9), .val (.ref b14), .val (.ref b14)] [(.int (2 : Int32)), (.ref b14)])) (fun t k => XS.iconst X132.here hx rfl (hb hby at_209) k) ?_
    obtain ⟨cq133, kq133, q133a, q133b, q133c⟩ := isOf hZ e132q f113
    obtain ⟨_, _, ⟨T133, L133, k133, n133⟩, -, X133, ⟨Lc133, hQ133, l133, y133, z133⟩, st133⟩ := X132.virtualBack hx (y := (⟨"java/util/ArrayList", "get", "(I)Ljava/lang/Object;"⟩ : MethodName)) (z := (⟨"java/util/ArrayList", "get", "(I)Ljava/lang/Object;"⟩ : MethodName)) hown (mvT hZ (hw _ (List.mem_of_getElem? (i := 91) rfl))) (mvT hZ (hw _ (List.mem_of_getElem? (i := 92) rfl))) (notFace_of_selects (args := #[]) (mvT hZ (hw _ (List.mem_of_getElem? (i := 94) rfl)))) (mvT hZ (hw _ (List.mem_of_getElem? (i := 94) rfl))) (mvT hZ (hw _ (List.mem_of_getElem? (i := 93) rfl))) (by decide) (backOf (W := 0) (rm16_43 l Z a0 hw [] b14 b6_2_2_11_90 k6_2_2_11_90 b4_1 b4_5 b4_9 h110 n0 (Nat.le_trans Z0 K110.1) f113 q0_110 q2_110 q3_110 ov0_90 f117 f118 f119 gn_b14 ne_b14_b6_2_2_11_90 (Ne.symm ne_b4_1_b14) (Ne.symm ne_b4_5_b14) (Ne.symm ne_b4_9_b14) gn_b6_2_2_11_90 (Ne.symm ne_b4_1_b6_2_2_11_90) (Ne.symm ne_b4_5_b6_2_2_11_90) (Ne.symm ne_b4_9_b6_2_2_11_90) gn_b4_1 ne_b4_1_b4_5 ne_b4_1_b4_9 gn_b4_5 ne_b4_5_b4_9 gn_b4_9) hZ (hw _ (List.mem_of_getElem? (i := 95) rfl)) (hw _ (List.mem_of_getElem? (i := 28) rfl)) (by decide) (by decide)) q133a q133c (g := (mkF m 210 #[.val (.int p0), .val (.int p1), .val (.int p2), .val (.int p3), .val (.int (3 : Int32)), .val (.ref b4_1), .val (.ref b4_5), .val (.ref b4_9), .val (.ref b14), .val (.ref b14)] [(.int (2 : Int32)), (.ref b14)])) rfl (by rw [hml]; rfl) (Steps.refl _) (argsL := [(.int (2 : Int32))]) (rest := []) (lenOf pd_5 rfl) rfl (by show 2 * 0 + _ ≤ _; exact Nat.le_of_eq rfl) (hb hby at_210) (fun _ _ => ⟨rfl, e132q, (by decide : 8 + 0 ≤ _), (by decide : 28 + 0 ≤ _)⟩)
    dsimp only [Pt.U, Pt.locs, Pt.cells, Pt.slots] at X133 l133 y133 z133 st133 hQ133
    subst l133 y133 z133
    obtain ⟨rfl, N133q, e133q⟩ := hQ133
    have N133 := Fr.app N132 N133q
    refine step (T133.setTop (mkF m 213 #[.val (.int p0), .val (.int p1), .val (.int p2), .val (.int p3), .val (.int (3 : Int32)), .val (.ref b4_1), .val (.ref b4_5), .val (.ref b4_9), .val (.ref b14), .val (.ref b14)] [(.ref b4_9)])) (fun t k => st133.trans k) ?_
    obtain ⟨T134, X134, e134, st134⟩ := castY X133 hx hZ hown (hw _ (List.mem_of_getElem? (i := 109) rfl)) e133q (Ins.self f119) (g := (mkF m 213 #[.val (.int p0), .val (.int p1), .val (.int p2), .val (.int p3), .val (.int (3 : Int32)), .val (.ref b4_1), .val (.ref b4_5), .val (.ref b4_9), .val (.ref b14), .val (.ref b14)] [(.ref b4_9)])) rfl rfl (hb hby at_213)
    refine step (T134.setTop (mkF m 216 #[.val (.int p0), .val (.int p1), .val (.int p2), .val (.int p3), .val (.int (3 : Int32)), .val (.ref b4_1), .val (.ref b4_5), .val (.ref b4_9), .val (.ref b14), .val (.ref b14)] [(.ref b4_9)])) (fun t k => st134 t k) ?_
    refine step (T134.setTop (mkF m 218 #[.val (.int p0), .val (.int p1), .val (.int p2), .val (.int p3), .val (.int (3 : Int32)), .val (.ref b4_1), .val (.ref b4_5), .val (.ref b4_9), .val (.ref b14), .val (.ref b14)] [(.ref b4_9), (.ref b4_9)])) (fun t k => XS.aload X134.here hx rfl (hb hby at_216) rfl rfl k) ?_
    have f135 := (((((q1_9.ext E14).keep K21q (ninS ne_b4_9_b14 nin0)).keep K90q (ninS ne_b4_9_b14 nin0)).keep K102q (ninS ne_b4_9_b14 (ninS ne_b4_9_b6_2_2_11_90 nin0))).keep K110q (ninS ne_b4_9_b14 (ninS ne_b4_9_b6_2_2_11_90 nin0)))
    have f136 := (((((q2_9.ext E14).keep K21q (ninS ne_b4_9_b14 nin0)).keep K90q (ninS ne_b4_9_b14 nin0)).keep K102q (ninS ne_b4_9_b14 (ninS ne_b4_9_b6_2_2_11_90 nin0))).keep K110q (ninS ne_b4_9_b14 (ninS ne_b4_9_b6_2_2_11_90 nin0)))
    obtain ⟨cq137, kq137, q137a, q137b, q137c⟩ := isOf hZ e134 f119
    obtain ⟨_, _, ⟨T137, L137, k137, n137⟩, -, X137, ⟨Lc137, hQ137, l137, y137, z137⟩, st137⟩ := X134.virtualBack hx (y := (⟨"java/lang/String", "equals", "(Ljava/lang/Object;)Z"⟩ : MethodName)) (z := (⟨"java/lang/String", "equals", "(Ljava/lang/Object;)Z"⟩ : MethodName)) hown (mvT hZ (hw _ (List.mem_of_getElem? (i := 110) rfl))) (mvT hZ (hw _ (List.mem_of_getElem? (i := 111) rfl))) (notFace_of_selects (args := #[]) (mvT hZ (hw _ (List.mem_of_getElem? (i := 113) rfl)))) (mvT hZ (hw _ (List.mem_of_getElem? (i := 113) rfl))) (mvT hZ (hw _ (List.mem_of_getElem? (i := 112) rfl))) (by decide) (backOf (W := 0) (rm20_20 l Z a0 hw [] b4_9 cs b1_5_9 h110 n0 (Nat.le_trans Z0 K110.1) f111 f119 f135 f136 gn_b4_9 (Ne.symm ne_b1_5_b4_9) gn_b1_5_9 c_cs) hZ (hw _ (List.mem_of_getElem? (i := 114) rfl)) (hw _ (List.mem_of_getElem? (i := 2) rfl)) (by decide) (by decide)) q137a q137c (g := (mkF m 218 #[.val (.int p0), .val (.int p1), .val (.int p2), .val (.int p3), .val (.int (3 : Int32)), .val (.ref b4_1), .val (.ref b4_5), .val (.ref b4_9), .val (.ref b14), .val (.ref b14)] [(.ref b4_9), (.ref b4_9)])) rfl (by rw [hml]; rfl) (Steps.refl _) (argsL := [(.ref b4_9)]) (rest := []) (lenOf pd_2 rfl) rfl (by show 2 * 0 + _ ≤ _; exact Nat.le_of_eq rfl) (hb hby at_218) (fun _ _ => ⟨rfl, e134, (by decide : 8 + 0 ≤ _), (by decide : 28 + 0 ≤ _)⟩)
    dsimp only [Pt.U, Pt.locs, Pt.cells, Pt.slots] at X137 l137 y137 z137 st137 hQ137
    subst l137 y137 z137
    obtain ⟨rfl, N137q, e137q⟩ := hQ137
    have N137 := Fr.app N133 N137q
    refine step (T137.setTop (mkF m 221 #[.val (.int p0), .val (.int p1), .val (.int p2), .val (.int p3), .val (.int (3 : Int32)), .val (.ref b4_1), .val (.ref b4_5), .val (.ref b4_9), .val (.ref b14), .val (.ref b14)] [(.int (1 : Int32))])) (fun t k => st137.trans k) ?_
    refine step (T137.setTop (mkF m 226 #[.val (.int p0), .val (.int p1), .val (.int p2), .val (.int p3), .val (.int (3 : Int32)), .val (.ref b4_1), .val (.ref b4_5), .val (.ref b4_9), .val (.ref b14), .val (.ref b14)] [])) (fun t k => XS.ifYes X137.here hx rfl (pc0 := 221) (pc' := 226) rfl (hb hby at_221) rfl ((if0 _ _).trans (feq (by decide : ¬ ((1 : Int32) = (0 : Int32)))).2) (by decide) (by decide) k) ?_
    refine step (T137.setTop (mkF m 227 #[.val (.int p0), .val (.int p1), .val (.int p2), .val (.int p3), .val (.int (3 : Int32)), .val (.ref b4_1), .val (.ref b4_5), .val (.ref b4_9), .val (.ref b14), .val (.ref b14)] [(.int (1 : Int32))])) (fun t k => XS.iconst X137.here hx rfl (hb hby at_226) k) ?_
    refine fin (v := some (.int (nar .boolean (1 : Int32)))) X137 (fun h => by cases h) ?_ (by decide) (by decide) (fun fs hr => retN X137 hx (t := .boolean) hret (by simp) (hb hby at_227) hr)
    show Q0 Z p0 p1 p2 p3 cs aD kD h0 n0 (some (.int (nar .boolean (1 : Int32)))) T137.heap _
    rw [e137q]
    exact ⟨rfl, N137⟩
set_option maxRecDepth 65536 in
set_option maxHeartbeats 40000000 in
theorem comes_1 {Post : Tables → Env → Array Value → State → Outcome → State → Prop} (hpost : ∀ tb e args s v u, (limb_1_1.after args s (.returned v) u = true ∧ limb_1_2.after args s (.returned v) u = true ∧ True) → FrameEnd s (.returned v) u (Jvm.fieldLocs frame_1_writes args s ++ Jvm.arrayLocs frame_1_arrays args s ++ Jvm.staticLocs frame_1_statics s) 24 128 → Post tb e args s (.returned v) u) :
    ArmFor flags0 classFile x code maxLocals ret World_1 tables_1 room_1 Calls_1 rest_1 Pre_1 Post := by
  intro l hfl _ _ p e ha hc hk s m args below hf hA hF happ hP
  obtain ⟨hcalls, hrest, hpre⟩ := hP
  obtain ⟨-, -, -, hnamed, -, -, -, hat⟩ := (Spec.applies_iff hf).mp happ
  obtain ⟨hg, hn⟩ := and_e (Cond.before_iff.mp (show (Jvm.Cond.and given_1 narrow_1).before args s = true from hpre))
  obtain ⟨hcount, hr0⟩ := and_e hg
  obtain ⟨ha0, hr1⟩ := and_e hr0
  obtain ⟨ha1, hr2⟩ := and_e hr1
  obtain ⟨ha2, hr3⟩ := and_e hr2
  have ha3 := hr3
  obtain ⟨w0, w1, w2, w3, rfl⟩ : ∃ w0 w1 w2 w3 : Value, args = #[w0, w1, w2, w3] := by
    have hs : args.size = 4 := by simpa [Cond.value, given_1] using hcount
    obtain ⟨L⟩ := args
    match L, hs with
    | [w0, w1, w2, w3], _ => exact ⟨w0, w1, w2, w3, rfl⟩
  have hw := fun d (hd : d ∈ tables_1) => atoms_spec (ws := Jvm.Cond.code x code maxLocals ret :: tables_1) hat d (List.mem_cons_of_mem _ hd)
  have hfit : Fit s := fun {y c} hc i hi => by
    obtain ⟨ha, rfl⟩ := Array.getElem?_eq_some_iff.mp hc
    have q := List.all_eq_true.mp ((Array.all_eq_true_iff_forall_mem.mp hF) _ (Array.getElem_mem ha)) i (List.mem_range.mpr hi)
    simpa [Array.getElem?_eq_getElem hi] using q
  obtain ⟨hsets, hown0⟩ := atoms_of _ (rest_1_c_eq ▸ (show rest_1_c.before _ s = true from hrest))
  have hr00 := Cond.before_iff.mp hown0
  obtain ⟨i0, ei0⟩ := is_v ha0
  obtain rfl : w0 = (.int i0) := Option.some.inj ei0
  obtain ⟨i1, ei1⟩ := is_v ha1
  obtain rfl : w1 = (.int i1) := Option.some.inj ei1
  obtain ⟨i2, ei2⟩ := is_v ha2
  obtain rfl : w2 = (.int i2) := Option.some.inj ei2
  obtain ⟨i3, ei3⟩ := is_v ha3
  obtain rfl : w3 = (.int i3) := Option.some.inj ei3
  have n3 := not_v (Cond.before_iff.mp (hsets _ (List.mem_of_getElem? (i := 2) rfl)))
  obtain ⟨cs, e6⟩ := is_v (Cond.before_iff.mp (hsets _ (List.mem_of_getElem? (i := 1) rfl)))
  have S_cs : Sta s s.heap "java/lang/String" "COMPACT_STRINGS" "Z" (.int cs) := Sta.start e6 (Or.inl (hsets _ (List.mem_of_getElem? (i := 0) rfl)))
  have c_cs : ¬ (cs = (0 : Int32)) := gotF (Cond.eq_ints e6 (Term.int_eval (0))) n3
  have hA := Cond.before_iff.mp (hsets _ (List.mem_of_getElem? (i := 15) rfl))
  obtain ⟨aD, ev_aD⟩ := arr_v hA
  have S_aD := Sta.start ev_aD (Or.inr ⟨(hw _ (List.mem_of_getElem? (i := 28) rfl)), (hsets _ (List.mem_of_getElem? (i := 11) rfl))⟩)
  obtain ⟨kD, V_aD⟩ := own_arr0 (dv := .null) hfit ev_aD hA (Cond.before_iff.mp (hsets _ (List.mem_of_getElem? (i := 17) rfl)))
  obtain ⟨n, o, h1, h2, h3, _, L, rfl, ⟨rfl, N⟩, hq⟩ := rm0 l s _ hw tables_1 i0 i1 i2 i3 cs aD kD s.heap s.heap.size (Nat.le_refl _) S_cs c_cs S_aD V_aD p e ha hc hk s m _ below hf ((Spec.applies_iff_loose hf).mp happ).1 ⟨rfl, State.Warmed39.refl s, rfl⟩ trivial
  refine ⟨n, _, h1, h2, h3, hpost _ _ _ _ _ _ ⟨Cond.after_iff.mpr rfl, Cond.after_iff.mpr (eq_i res_at (Term.int_eval (1)) rfl), trivial⟩ ⟨hq.1, hq.2.1, (hq.2.2.sift fun y hy => Or.inr (N y hy)).mono (by decide) (by decide)⟩⟩
theorem main_1_1 : Claimed_1_1 := comes_1 fun _ _ _ _ _ _ h hF => ⟨h.1, hF⟩
theorem main_1_2 : Claimed_1_2 := comes_1 fun _ _ _ _ _ _ h hF => ⟨h.2.1, hF⟩
end Jvm.Pilot.@@N@@
namespace Jvm.Pilot.@@N@@
open Jvm Jvm.ClassFile Sem Op Lib Jvm.Free Jvm.Stand Jvm.Pilot.@@N@@.Jvm.D
/-! MADE BY PROGRAM (witnessworld.py) out of the Statement's table words and the real class files: 28 classes; the members and pool entries that the words name. The judged class is class 1, her method 1. -/
namespace start1
open Jvm.ClassFile
def u (s : String) : CpInfo := .utf8 (stringToUtf16 s)
/-- a pool by its gaps: so many unusable entries, then the entry; so many at the end -/
def gap : Nat → List CpInfo → List CpInfo
  | 0, r => r
  | n + 1, r => .unusable :: gap n r
def poolList (es : List (Nat × CpInfo)) (last : Nat) : List CpInfo := es.foldr (fun e r => gap e.1 (e.2 :: r)) (gap last [])
def pool (es : List (Nat × CpInfo)) (last : Nat) : Array CpInfo := ⟨poolList es last⟩
def fileOf (pool : Array CpInfo) (this : Nat) (attrs : Array Attribute := #[]) (ms : Array MethodInfo := #[]) (fl : Nat := 33) (sup : Nat := 0) (ifs : Array Nat := #[]) (fds : Array FieldInfo := #[]) : ClassFile where
  minorVersion := 0
  majorVersion := 65
  constantPool := pool
  accessFlags := fl
  thisClass := this
  superClass := sup
  interfaces := ifs
  fields := fds
  methods := ms
  attributes := attrs
def plain (name : String) (sup : Option ClassId) : Class where
  name := name
  kind := .ordinary
  loader := none
  accessFlags := 33
  super := sup
  interfaces := #[]
  cf := none
  fields := #[]
  methods := #[]
  instanceTypes := #[]
  staticTypes := #[]
  resolved := #[]
  callSites := []
  init := .initialized
  statics := none
  mirror := none

def pool0 : Array CpInfo := pool [(5, u "<init>"), (0, u "()V"), (1, .class_ 10), (1, u "java/lang/Object")] 113

def k0c0 : Code := { maxStack := 0, maxLocals := 1, code := object_method_1_code, exceptionTable := #[], attributes := #[] }
def k0m0 : Method := { name := "<init>", desc := "()V", sig := { parameters := [], returnType := none }, accessFlags := 1, code := some k0c0 }
/-- java/lang/Object -/
def k0 : Class := { plain "java/lang/Object" none with
  accessFlags := 33
  interfaces := #[]
  cf := some (fileOf pool0 8 #[] #[{ accessFlags := 1, nameIndex := 5, descriptorIndex := 6, attributes := #[] }] 33 0 #[] #[])
  fields := #[]
  methods := #[k0m0]
  instanceTypes := #[]
  staticTypes := #[]
  resolved := Array.replicate 124 none
  statics := none }

def pool1 : Array CpInfo := pool [(2, .class_ 4), (0, .nameAndType 5 6), (0, u "java/lang/Object"), (0, u "<init>"), (0, u "()V"), (0, .methodref 8 9), (0, .class_ 10), (0, .nameAndType 11 12), (0, u "java/lang/String"), (0, u "valueOf"), (0, u "(C)Ljava/lang/String;"), (0, .class_ 14), (0, u "java/util/ArrayList"), (0, .methodref 13 3), (0, .methodref 13 17), (0, .nameAndType 18 19), (0, u "add"), (0, u "(Ljava/lang/Object;)Z"), (0, .methodref 21 22), (0, .class_ 23), (0, .nameAndType 24 25), (0, u "com/example/dibs/dibs/sketch/Items"), (0, u "requireBatch"), (0, u "(Ljava/util/Collection;)Ljava/util/Collection;"), (0, .methodref 13 27), (0, .nameAndType 28 29), (0, u "size"), (0, u "()I"), (0, .methodref 13 31), (0, .nameAndType 32 33), (0, u "get"), (0, u "(I)Ljava/lang/Object;"), (0, .methodref 8 35), (0, .nameAndType 36 19), (0, u "equals"), (0, .class_ 38), (0, u "com/example/dibs/dibs/sketch/ItemsRequireBatchPinLaw"), (2, u "law"), (0, u "(IIII)Z")] 3

def k1m0 : Method := { name := "<init>", desc := "()V", sig := { parameters := [], returnType := none }, accessFlags := 2, code := none }
def k1c1 : Code := { maxStack := 2, maxLocals := 10, code := code, exceptionTable := #[], attributes := #[] }
def k1m1 : Method := { name := "law", desc := "(IIII)Z", sig := { parameters := [.int, .int, .int, .int], returnType := some .boolean }, accessFlags := 9, code := some k1c1 }
/-- com/example/dibs/dibs/sketch/ItemsRequireBatchPinLaw -/
def k1 : Class := { plain "com/example/dibs/dibs/sketch/ItemsRequireBatchPinLaw" (some 0) with
  accessFlags := 49
  interfaces := #[]
  cf := some (fileOf pool1 37 #[] #[{ accessFlags := 2, nameIndex := 5, descriptorIndex := 6, attributes := #[] }, { accessFlags := 9, nameIndex := 41, descriptorIndex := 42, attributes := #[] }] 49 2 #[] #[])
  fields := #[]
  methods := #[k1m0, k1m1]
  instanceTypes := #[]
  staticTypes := #[]
  resolved := Array.replicate 46 none
  statics := none }

def pool2 : Array CpInfo := pool [(1, .class_ 2), (0, u "java/io/Serializable"), (0, .class_ 4), (0, u "java/lang/Object")] 2

/-- java/io/Serializable -/
def k2 : Class := { plain "java/io/Serializable" (some 0) with
  accessFlags := 1537
  interfaces := #[]
  cf := some (fileOf pool2 1 #[] #[] 1537 3 #[] #[])
  fields := #[]
  methods := #[]
  instanceTypes := #[]
  staticTypes := #[]
  resolved := Array.replicate 7 none
  statics := none }

def pool3 : Array CpInfo := pool [(1, .class_ 2), (0, u "java/lang/Comparable"), (0, .class_ 4), (0, u "java/lang/Object")] 7

/-- java/lang/Comparable -/
def k3 : Class := { plain "java/lang/Comparable" (some 0) with
  accessFlags := 1537
  interfaces := #[]
  cf := some (fileOf pool3 1 #[] #[] 1537 3 #[] #[])
  fields := #[]
  methods := #[]
  instanceTypes := #[]
  staticTypes := #[]
  resolved := Array.replicate 12 none
  statics := none }

def pool4 : Array CpInfo := pool [(2, .class_ 4), (1, u "java/lang/CharSequence"), (42, .class_ 48), (0, u "java/lang/CharSequence$1CodePointIterator"), (10, .class_ 60), (0, u "java/lang/CharSequence$1CharIterator"), (5, .class_ 67), (0, u "java/lang/Object")] 63

/-- java/lang/CharSequence -/
def k4 : Class := { plain "java/lang/CharSequence" (some 0) with
  accessFlags := 1537
  interfaces := #[]
  cf := some (fileOf pool4 2 #[.nestMembers #[47, 59]] #[] 1537 66 #[] #[])
  fields := #[]
  methods := #[]
  instanceTypes := #[]
  staticTypes := #[]
  resolved := Array.replicate 131 none
  statics := none }

def pool5 : Array CpInfo := pool [(1, .class_ 2), (0, u "java/lang/constant/Constable"), (0, .class_ 4), (0, u "java/lang/Object")] 6

/-- java/lang/constant/Constable -/
def k5 : Class := { plain "java/lang/constant/Constable" (some 0) with
  accessFlags := 1537
  interfaces := #[]
  cf := some (fileOf pool5 1 #[] #[] 1537 3 #[] #[])
  fields := #[]
  methods := #[]
  instanceTypes := #[]
  staticTypes := #[]
  resolved := Array.replicate 11 none
  statics := none }

def pool6 : Array CpInfo := pool [(1, .class_ 2), (0, u "java/lang/constant/ConstantDesc"), (0, .class_ 4), (0, u "java/lang/Object")] 32

/-- java/lang/constant/ConstantDesc -/
def k6 : Class := { plain "java/lang/constant/ConstantDesc" (some 0) with
  accessFlags := 1537
  interfaces := #[]
  cf := some (fileOf pool6 1 #[] #[] 1537 3 #[] #[])
  fields := #[]
  methods := #[]
  instanceTypes := #[]
  staticTypes := #[]
  resolved := Array.replicate 37 none
  statics := none }

def pool7 : Array CpInfo := pool [(1, .methodref 2 3), (0, .class_ 4), (0, .nameAndType 5 6), (0, u "java/lang/Object"), (0, u "<init>"), (0, u "()V"), (2, .fieldref 10 11), (0, .class_ 12), (0, .nameAndType 13 14), (0, u "java/lang/String"), (0, u "value"), (0, u "[B"), (0, .fieldref 10 16), (0, .nameAndType 17 18), (0, u "coder"), (0, u "B"), (2, u "hash"), (0, u "I"), (2, u "hashIsZero"), (0, u "Z"), (11, .fieldref 10 39), (0, .nameAndType 40 26), (0, u "COMPACT_STRINGS"), (12, u "toBytes"), (53, .class_ 109), (1, u "java/lang/StringLatin1"), (99, .methodref 10 210), (0, .nameAndType 5 211), (0, u "([BB)V"), (157, u "(C)Z"), (173, u "equals"), (29, u "(Ljava/lang/Object;)Z"), (1, .class_ 576), (0, u "java/lang/CharSequence"), (22, u "CASE_INSENSITIVE_ORDER"), (0, u "Ljava/util/Comparator;"), (181, u "valueOf"), (0, u "(C)Ljava/lang/String;"), (231, .methodref 107 1016), (0, .nameAndType 1017 369), (0, u "canEncode"), (0, .methodref 107 1019), (0, .nameAndType 53 1020), (0, u "(C)[B"), (80, u "serialPersistentFields"), (0, u "[Ljava/io/ObjectStreamField;"), (0, .class_ 1104), (0, u "java/lang/String$CaseInsensitiveComparator"), (1, .class_ 1107), (0, u "java/io/Serializable"), (0, .class_ 1109), (0, u "java/lang/Comparable"), (0, .class_ 1111), (0, u "java/lang/constant/Constable"), (0, .class_ 1113), (0, u "java/lang/constant/ConstantDesc"), (2, u "serialVersionUID"), (0, u "J"), (3, u "REPL"), (0, u "C"), (2, u "LATIN1"), (1, u "UTF16")] 323

def k7m0 : Method := { name := "<init>", desc := "()V", sig := { parameters := [], returnType := none }, accessFlags := 1, code := none }
def k7c1 : Code := { maxStack := 2, maxLocals := 3, code := jdk_42_method_66_code, exceptionTable := #[], attributes := #[] }
def k7m1 : Method := { name := "equals", desc := "(Ljava/lang/Object;)Z", sig := { parameters := [(.object "java/lang/Object")], returnType := some .boolean }, accessFlags := 1, code := some k7c1 }
def k7c2 : Code := { maxStack := 4, maxLocals := 1, code := jdk_42_method_139_code, exceptionTable := #[], attributes := #[] }
def k7m2 : Method := { name := "valueOf", desc := "(C)Ljava/lang/String;", sig := { parameters := [.char], returnType := some (.object "java/lang/String") }, accessFlags := 9, code := some k7c2 }
def k7c3 : Code := { maxStack := 2, maxLocals := 3, code := jdk_42_method_151_code, exceptionTable := #[], attributes := #[] }
def k7m3 : Method := { name := "<init>", desc := "([BB)V", sig := { parameters := [(.array .byte), .byte], returnType := none }, accessFlags := 0, code := some k7c3 }
/-- java/lang/String -/
def k7 : Class := { plain "java/lang/String" (some 0) with
  accessFlags := 49
  interfaces := #[2, 3, 4, 5, 6]
  cf := some (fileOf pool7 10 #[.nestMembers #[1103]] #[{ accessFlags := 1, nameIndex := 5, descriptorIndex := 6, attributes := #[] }, { accessFlags := 1, nameIndex := 543, descriptorIndex := 573, attributes := #[] }, { accessFlags := 9, nameIndex := 782, descriptorIndex := 783, attributes := #[] }, { accessFlags := 0, nameIndex := 5, descriptorIndex := 211, attributes := #[] }] 49 2 #[1106, 1108, 575, 1110, 1112] #[{ accessFlags := 18, nameIndex := 13, descriptorIndex := 14, attributes := #[] }, { accessFlags := 18, nameIndex := 17, descriptorIndex := 18, attributes := #[] }, { accessFlags := 2, nameIndex := 21, descriptorIndex := 22, attributes := #[] }, { accessFlags := 2, nameIndex := 25, descriptorIndex := 26, attributes := #[] }, { accessFlags := 26, nameIndex := 1116, descriptorIndex := 1117, attributes := #[] }, { accessFlags := 24, nameIndex := 40, descriptorIndex := 26, attributes := #[] }, { accessFlags := 26, nameIndex := 1101, descriptorIndex := 1102, attributes := #[] }, { accessFlags := 26, nameIndex := 1121, descriptorIndex := 1122, attributes := #[] }, { accessFlags := 25, nameIndex := 599, descriptorIndex := 600, attributes := #[] }, { accessFlags := 24, nameIndex := 1125, descriptorIndex := 18, attributes := #[] }, { accessFlags := 24, nameIndex := 1127, descriptorIndex := 18, attributes := #[] }])
  fields := #[{ name := "value", type := (.array .byte), accessFlags := 18, slot := 0, constantValue := 0 }, { name := "coder", type := .byte, accessFlags := 18, slot := 1, constantValue := 0 }, { name := "hash", type := .int, accessFlags := 2, slot := 2, constantValue := 0 }, { name := "hashIsZero", type := .boolean, accessFlags := 2, slot := 3, constantValue := 0 }, { name := "serialVersionUID", type := .long, accessFlags := 26, slot := 0, constantValue := 0 }, { name := "COMPACT_STRINGS", type := .boolean, accessFlags := 24, slot := 1, constantValue := 0 }, { name := "serialPersistentFields", type := (.array (.object "java/io/ObjectStreamField")), accessFlags := 26, slot := 2, constantValue := 0 }, { name := "REPL", type := .char, accessFlags := 26, slot := 3, constantValue := 0 }, { name := "CASE_INSENSITIVE_ORDER", type := (.object "java/util/Comparator"), accessFlags := 25, slot := 4, constantValue := 0 }, { name := "LATIN1", type := .byte, accessFlags := 24, slot := 5, constantValue := 0 }, { name := "UTF16", type := .byte, accessFlags := 24, slot := 6, constantValue := 0 }]
  methods := #[k7m0, k7m1, k7m2, k7m3]
  instanceTypes := #[(.array .byte), .byte, .int, .boolean]
  staticTypes := #[.long, .boolean, (.array (.object "java/io/ObjectStreamField")), .char, (.object "java/util/Comparator"), .byte, .byte]
  resolved := Array.replicate 1451 none
  statics := some 0 }

def pool8 : Array CpInfo := pool [(4, .class_ 6), (1, u "java/lang/Object"), (0, u "<init>"), (0, u "()V"), (5, .class_ 16), (1, u "java/lang/StringLatin1"), (73, u "canEncode"), (14, u "(C)Z"), (15, u "$assertionsDisabled"), (0, u "Z"), (98, .class_ 223), (1, u "java/lang/StringLatin1$LinesSpliterator"), (156, u "toBytes"), (1, u "(C)[B"), (7, .class_ 391), (0, u "java/lang/StringLatin1$CharsSpliterator")] 3

def k8m0 : Method := { name := "<init>", desc := "()V", sig := { parameters := [], returnType := none }, accessFlags := 0, code := none }
def k8c1 : Code := { maxStack := 2, maxLocals := 1, code := jdk_43_method_3_code, exceptionTable := #[], attributes := #[] }
def k8m1 : Method := { name := "canEncode", desc := "(C)Z", sig := { parameters := [.char], returnType := some .boolean }, accessFlags := 9, code := some k8c1 }
def k8c2 : Code := { maxStack := 4, maxLocals := 1, code := jdk_43_method_46_code, exceptionTable := #[], attributes := #[] }
def k8m2 : Method := { name := "toBytes", desc := "(C)[B", sig := { parameters := [.char], returnType := some (.array .byte) }, accessFlags := 9, code := some k8c2 }
/-- java/lang/StringLatin1 -/
def k8 : Class := { plain "java/lang/StringLatin1" (some 0) with
  accessFlags := 48
  interfaces := #[]
  cf := some (fileOf pool8 14 #[.nestMembers #[390, 221]] #[{ accessFlags := 0, nameIndex := 7, descriptorIndex := 8, attributes := #[] }, { accessFlags := 9, nameIndex := 90, descriptorIndex := 105, attributes := #[] }, { accessFlags := 9, nameIndex := 380, descriptorIndex := 382, attributes := #[] }] 48 4 #[] #[{ accessFlags := 4120, nameIndex := 121, descriptorIndex := 122, attributes := #[] }])
  fields := #[{ name := "$assertionsDisabled", type := .boolean, accessFlags := 4120, slot := 0, constantValue := 0 }]
  methods := #[k8m0, k8m1, k8m2]
  instanceTypes := #[]
  staticTypes := #[.boolean]
  resolved := Array.replicate 395 none
  statics := none }

def pool9 : Array CpInfo := pool [(8, .class_ 10), (1, u "java/lang/Iterable"), (24, .class_ 36), (0, u "java/lang/Object")] 25

/-- java/lang/Iterable -/
def k9 : Class := { plain "java/lang/Iterable" (some 0) with
  accessFlags := 1537
  interfaces := #[]
  cf := some (fileOf pool9 8 #[] #[] 1537 35 #[] #[])
  fields := #[]
  methods := #[]
  instanceTypes := #[]
  staticTypes := #[]
  resolved := Array.replicate 62 none
  statics := none }

def pool10 : Array CpInfo := pool [(10, .class_ 12), (1, u "java/util/Collection"), (47, .class_ 61), (0, u "java/lang/Object"), (0, .class_ 63), (0, u "java/lang/Iterable")] 51

/-- java/util/Collection -/
def k10 : Class := { plain "java/util/Collection" (some 0) with
  accessFlags := 1537
  interfaces := #[9]
  cf := some (fileOf pool10 10 #[] #[] 1537 60 #[62] #[])
  fields := #[]
  methods := #[]
  instanceTypes := #[]
  staticTypes := #[]
  resolved := Array.replicate 115 none
  statics := none }

def pool11 : Array CpInfo := pool [(1, .methodref 2 3), (0, .class_ 4), (0, .nameAndType 5 6), (0, u "java/lang/Object"), (0, u "<init>"), (0, u "()V"), (1, .class_ 10), (1, u "java/util/AbstractCollection"), (66, .class_ 78), (0, u "java/util/Collection")] 81

def k11c0 : Code := { maxStack := 1, maxLocals := 1, code := jdk_22_method_1_code, exceptionTable := #[], attributes := #[] }
def k11m0 : Method := { name := "<init>", desc := "()V", sig := { parameters := [], returnType := none }, accessFlags := 4, code := some k11c0 }
/-- java/util/AbstractCollection -/
def k11 : Class := { plain "java/util/AbstractCollection" (some 0) with
  accessFlags := 1057
  interfaces := #[10]
  cf := some (fileOf pool11 8 #[] #[{ accessFlags := 4, nameIndex := 5, descriptorIndex := 6, attributes := #[] }] 1057 2 #[77] #[])
  fields := #[]
  methods := #[k11m0]
  instanceTypes := #[]
  staticTypes := #[]
  resolved := Array.replicate 160 none
  statics := none }

def pool12 : Array CpInfo := pool [(8, .class_ 10), (1, u "java/util/SequencedCollection"), (15, .class_ 27), (0, u "java/lang/Object"), (0, .class_ 29), (0, u "java/util/Collection")] 27

/-- java/util/SequencedCollection -/
def k12 : Class := { plain "java/util/SequencedCollection" (some 0) with
  accessFlags := 1537
  interfaces := #[10]
  cf := some (fileOf pool12 8 #[] #[] 1537 26 #[28] #[])
  fields := #[]
  methods := #[]
  instanceTypes := #[]
  staticTypes := #[]
  resolved := Array.replicate 57 none
  statics := none }

def pool13 : Array CpInfo := pool [(8, .class_ 10), (1, u "java/util/List"), (92, .class_ 104), (0, u "java/lang/Object"), (15, .class_ 121), (0, u "java/util/SequencedCollection")] 129

/-- java/util/List -/
def k13 : Class := { plain "java/util/List" (some 0) with
  accessFlags := 1537
  interfaces := #[12]
  cf := some (fileOf pool13 8 #[] #[] 1537 103 #[120] #[])
  fields := #[]
  methods := #[]
  instanceTypes := #[]
  staticTypes := #[]
  resolved := Array.replicate 251 none
  statics := none }

def pool14 : Array CpInfo := pool [(1, .methodref 2 3), (0, .class_ 4), (0, .nameAndType 5 6), (0, u "java/util/AbstractCollection"), (0, u "<init>"), (0, u "()V"), (0, .fieldref 8 9), (0, .class_ 10), (0, .nameAndType 11 12), (0, u "java/util/AbstractList"), (0, u "modCount"), (0, u "I"), (64, .class_ 78), (0, u "java/util/AbstractList$Itr"), (3, .class_ 83), (0, u "java/util/AbstractList$ListItr"), (9, .class_ 94), (0, u "java/util/AbstractList$RandomAccessSubList"), (3, .class_ 99), (0, u "java/util/AbstractList$SubList"), (33, .class_ 134), (0, u "java/util/List"), (73, .class_ 209), (0, u "java/util/AbstractList$SubList$1"), (0, .class_ 211), (0, u "java/util/AbstractList$RandomAccessSpliterator")] 6

def k14c0 : Code := { maxStack := 2, maxLocals := 1, code := jdk_39_method_1_code, exceptionTable := #[], attributes := #[] }
def k14m0 : Method := { name := "<init>", desc := "()V", sig := { parameters := [], returnType := none }, accessFlags := 4, code := some k14c0 }
/-- java/util/AbstractList -/
def k14 : Class := { plain "java/util/AbstractList" (some 11) with
  accessFlags := 1057
  interfaces := #[13]
  cf := some (fileOf pool14 8 #[.nestMembers #[93, 98, 208, 210, 82, 77]] #[{ accessFlags := 4, nameIndex := 5, descriptorIndex := 6, attributes := #[] }] 1057 2 #[133] #[{ accessFlags := 132, nameIndex := 11, descriptorIndex := 12, attributes := #[] }])
  fields := #[{ name := "modCount", type := .int, accessFlags := 132, slot := 0, constantValue := 0 }]
  methods := #[k14m0]
  instanceTypes := #[.int]
  staticTypes := #[]
  resolved := Array.replicate 218 none
  statics := none }

def pool15 : Array CpInfo := pool [(1, .class_ 2), (0, u "java/util/RandomAccess"), (0, .class_ 4), (0, u "java/lang/Object")] 2

/-- java/util/RandomAccess -/
def k15 : Class := { plain "java/util/RandomAccess" (some 0) with
  accessFlags := 1537
  interfaces := #[]
  cf := some (fileOf pool15 1 #[] #[] 1537 3 #[] #[])
  fields := #[]
  methods := #[]
  instanceTypes := #[]
  staticTypes := #[]
  resolved := Array.replicate 7 none
  statics := none }

def pool16 : Array CpInfo := pool [(1, .class_ 2), (0, u "java/lang/Cloneable"), (0, .class_ 4), (0, u "java/lang/Object")] 2

/-- java/lang/Cloneable -/
def k16 : Class := { plain "java/lang/Cloneable" (some 0) with
  accessFlags := 1537
  interfaces := #[]
  cf := some (fileOf pool16 1 #[] #[] 1537 3 #[] #[])
  fields := #[]
  methods := #[]
  instanceTypes := #[]
  staticTypes := #[]
  resolved := Array.replicate 7 none
  statics := none }

def pool17 : Array CpInfo := pool [(1, .methodref 2 3), (0, .class_ 4), (0, .nameAndType 5 6), (0, u "java/util/AbstractList"), (0, u "<init>"), (0, u "()V"), (0, .class_ 8), (0, u "java/lang/Object"), (0, .fieldref 10 11), (0, .class_ 12), (0, .nameAndType 13 14), (0, u "java/util/ArrayList"), (0, u "elementData"), (0, u "[Ljava/lang/Object;"), (2, u "EMPTY_ELEMENTDATA"), (21, .fieldref 10 40), (0, .nameAndType 41 14), (0, u "DEFAULTCAPACITY_EMPTY_ELEMENTDATA"), (5, u "()[Ljava/lang/Object;"), (0, .fieldref 10 49), (0, .nameAndType 50 51), (0, u "size"), (0, u "I"), (11, .fieldref 10 64), (0, .nameAndType 65 51), (0, u "modCount"), (3, .methodref 10 70), (0, .nameAndType 71 72), (0, u "grow"), (0, u "(I)[Ljava/lang/Object;"), (6, .methodref 80 81), (0, .class_ 82), (0, .nameAndType 83 84), (0, u "java/lang/Math"), (0, u "max"), (0, u "(II)I"), (11, u "(Ljava/lang/Object;)Z"), (21, .methodref 119 120), (0, .class_ 121), (0, .nameAndType 122 84), (0, u "java/util/Objects"), (0, u "checkIndex"), (0, .methodref 10 124), (0, .nameAndType 13 125), (0, u "(I)Ljava/lang/Object;"), (3, .methodref 10 130), (0, .nameAndType 71 47), (0, .methodref 10 132), (0, .nameAndType 133 134), (0, u "add"), (0, u "(Ljava/lang/Object;[Ljava/lang/Object;I)V"), (13, .class_ 149), (0, u "java/util/List"), (36, u "()I"), (75, .class_ 263), (0, u "java/util/ArrayList$ListItr"), (3, .class_ 268), (0, u "java/util/ArrayList$Itr"), (7, .class_ 277), (0, u "java/util/ArrayList$SubList"), (12, .class_ 291), (0, u "java/util/ArrayList$ArrayListSpliterator"), (37, .class_ 330), (0, u "java/util/RandomAccess"), (0, .class_ 332), (0, u "java/lang/Cloneable"), (0, .class_ 334), (0, u "java/io/Serializable"), (0, u "serialVersionUID"), (0, u "J"), (3, u "DEFAULT_CAPACITY"), (40, u "get"), (118, .class_ 501), (0, u "java/util/ArrayList$SubList$2"), (0, .class_ 503), (0, u "java/util/ArrayList$SubList$1")] 5

def k17c0 : Code := { maxStack := 2, maxLocals := 1, code := jdk_38_method_2_code, exceptionTable := #[], attributes := #[] }
def k17m0 : Method := { name := "<init>", desc := "()V", sig := { parameters := [], returnType := none }, accessFlags := 1, code := some k17c0 }
def k17c1 : Code := { maxStack := 4, maxLocals := 4, code := jdk_38_method_6_code, exceptionTable := #[], attributes := #[] }
def k17m1 : Method := { name := "grow", desc := "(I)[Ljava/lang/Object;", sig := { parameters := [.int], returnType := some (.array (.object "java/lang/Object")) }, accessFlags := 2, code := some k17c1 }
def k17c2 : Code := { maxStack := 3, maxLocals := 1, code := jdk_38_method_7_code, exceptionTable := #[], attributes := #[] }
def k17m2 : Method := { name := "grow", desc := "()[Ljava/lang/Object;", sig := { parameters := [], returnType := some (.array (.object "java/lang/Object")) }, accessFlags := 2, code := some k17c2 }
def k17c3 : Code := { maxStack := 1, maxLocals := 1, code := jdk_38_method_8_code, exceptionTable := #[], attributes := #[] }
def k17m3 : Method := { name := "size", desc := "()I", sig := { parameters := [], returnType := some .int }, accessFlags := 1, code := some k17c3 }
def k17c4 : Code := { maxStack := 2, maxLocals := 2, code := jdk_38_method_18_code, exceptionTable := #[], attributes := #[] }
def k17m4 : Method := { name := "elementData", desc := "(I)Ljava/lang/Object;", sig := { parameters := [.int], returnType := some (.object "java/lang/Object") }, accessFlags := 0, code := some k17c4 }
def k17c5 : Code := { maxStack := 2, maxLocals := 2, code := jdk_38_method_20_code, exceptionTable := #[], attributes := #[] }
def k17m5 : Method := { name := "get", desc := "(I)Ljava/lang/Object;", sig := { parameters := [.int], returnType := some (.object "java/lang/Object") }, accessFlags := 1, code := some k17c5 }
def k17c6 : Code := { maxStack := 3, maxLocals := 4, code := jdk_38_method_24_code, exceptionTable := #[], attributes := #[] }
def k17m6 : Method := { name := "add", desc := "(Ljava/lang/Object;[Ljava/lang/Object;I)V", sig := { parameters := [(.object "java/lang/Object"), (.array (.object "java/lang/Object")), .int], returnType := none }, accessFlags := 2, code := some k17c6 }
def k17c7 : Code := { maxStack := 4, maxLocals := 2, code := jdk_38_method_25_code, exceptionTable := #[], attributes := #[] }
def k17m7 : Method := { name := "add", desc := "(Ljava/lang/Object;)Z", sig := { parameters := [(.object "java/lang/Object")], returnType := some .boolean }, accessFlags := 1, code := some k17c7 }
/-- java/util/ArrayList -/
def k17 : Class := { plain "java/util/ArrayList" (some 14) with
  accessFlags := 33
  interfaces := #[13, 15, 16, 2]
  cf := some (fileOf pool17 10 #[.nestMembers #[290, 276, 500, 502, 262, 267]] #[{ accessFlags := 1, nameIndex := 5, descriptorIndex := 6, attributes := #[] }, { accessFlags := 2, nameIndex := 71, descriptorIndex := 72, attributes := #[] }, { accessFlags := 2, nameIndex := 71, descriptorIndex := 47, attributes := #[] }, { accessFlags := 1, nameIndex := 50, descriptorIndex := 186, attributes := #[] }, { accessFlags := 0, nameIndex := 13, descriptorIndex := 125, attributes := #[] }, { accessFlags := 1, nameIndex := 381, descriptorIndex := 125, attributes := #[] }, { accessFlags := 2, nameIndex := 133, descriptorIndex := 134, attributes := #[] }, { accessFlags := 1, nameIndex := 133, descriptorIndex := 96, attributes := #[] }] 33 2 #[148, 329, 331, 333] #[{ accessFlags := 26, nameIndex := 335, descriptorIndex := 336, attributes := #[] }, { accessFlags := 26, nameIndex := 340, descriptorIndex := 51, attributes := #[] }, { accessFlags := 26, nameIndex := 17, descriptorIndex := 14, attributes := #[] }, { accessFlags := 26, nameIndex := 41, descriptorIndex := 14, attributes := #[] }, { accessFlags := 128, nameIndex := 13, descriptorIndex := 14, attributes := #[] }, { accessFlags := 2, nameIndex := 50, descriptorIndex := 51, attributes := #[] }])
  fields := #[{ name := "serialVersionUID", type := .long, accessFlags := 26, slot := 0, constantValue := 0 }, { name := "DEFAULT_CAPACITY", type := .int, accessFlags := 26, slot := 1, constantValue := 0 }, { name := "EMPTY_ELEMENTDATA", type := (.array (.object "java/lang/Object")), accessFlags := 26, slot := 2, constantValue := 0 }, { name := "DEFAULTCAPACITY_EMPTY_ELEMENTDATA", type := (.array (.object "java/lang/Object")), accessFlags := 26, slot := 3, constantValue := 0 }, { name := "elementData", type := (.array (.object "java/lang/Object")), accessFlags := 128, slot := 1, constantValue := 0 }, { name := "size", type := .int, accessFlags := 2, slot := 2, constantValue := 0 }]
  methods := #[k17m0, k17m1, k17m2, k17m3, k17m4, k17m5, k17m6, k17m7]
  instanceTypes := #[.int, (.array (.object "java/lang/Object")), .int]
  staticTypes := #[.long, .int, (.array (.object "java/lang/Object")), (.array (.object "java/lang/Object"))]
  resolved := Array.replicate 509 none
  statics := some 1 }

def pool18 : Array CpInfo := pool [(2, .class_ 4), (1, u "java/lang/Object"), (0, u "<init>"), (0, u "()V"), (17, .class_ 25), (0, u "com/example/dibs/dibs/sketch/Items"), (0, u "MOST_PER_COMMAND"), (0, u "I"), (4, u "requireBatch"), (0, u "(Ljava/util/Collection;)Ljava/util/Collection;")] 6

def k18m0 : Method := { name := "<init>", desc := "()V", sig := { parameters := [], returnType := none }, accessFlags := 2, code := none }
def k18c1 : Code := { maxStack := 3, maxLocals := 1, code := prog_16_method_2_code, exceptionTable := #[], attributes := #[] }
def k18m1 : Method := { name := "requireBatch", desc := "(Ljava/util/Collection;)Ljava/util/Collection;", sig := { parameters := [(.object "java/util/Collection")], returnType := some (.object "java/util/Collection") }, accessFlags := 8, code := some k18c1 }
/-- com/example/dibs/dibs/sketch/Items -/
def k18 : Class := { plain "com/example/dibs/dibs/sketch/Items" (some 0) with
  accessFlags := 48
  interfaces := #[]
  cf := some (fileOf pool18 24 #[] #[{ accessFlags := 2, nameIndex := 5, descriptorIndex := 6, attributes := #[] }, { accessFlags := 8, nameIndex := 32, descriptorIndex := 33, attributes := #[] }] 48 2 #[] #[{ accessFlags := 24, nameIndex := 26, descriptorIndex := 27, attributes := #[] }])
  fields := #[{ name := "MOST_PER_COMMAND", type := .int, accessFlags := 24, slot := 0, constantValue := 0 }]
  methods := #[k18m0, k18m1]
  instanceTypes := #[]
  staticTypes := #[.int]
  resolved := Array.replicate 40 none
  statics := none }

def pool19 : Array CpInfo := pool [(1, .class_ 2), (0, u "java/lang/Math"), (1, .class_ 6), (1, u "java/lang/Object"), (0, u "<init>"), (0, u "()V"), (89, .class_ 100), (1, u "java/lang/Math$RandomNumberGeneratorHolder"), (71, u "negativeZeroFloatBits"), (0, u "J"), (2, u "negativeZeroDoubleBits"), (21, u "max"), (46, u "$assertionsDisabled"), (0, u "Z"), (88, u "(II)I"), (2, u "twoToTheDoubleScaleDown"), (0, u "D"), (4, u "twoToTheDoubleScaleUp"), (9, u "E"), (3, u "PI"), (2, u "TAU"), (2, u "DEGREES_TO_RADIANS"), (0, u "RADIANS_TO_DEGREES")] 94

def k19m0 : Method := { name := "<init>", desc := "()V", sig := { parameters := [], returnType := none }, accessFlags := 2, code := none }
def k19c1 : Code := { maxStack := 2, maxLocals := 2, code := jdk_29_method_65_code, exceptionTable := #[], attributes := #[] }
def k19m1 : Method := { name := "max", desc := "(II)I", sig := { parameters := [.int, .int], returnType := some .int }, accessFlags := 9, code := some k19c1 }
/-- java/lang/Math -/
def k19 : Class := { plain "java/lang/Math" (some 0) with
  accessFlags := 49
  interfaces := #[]
  cf := some (fileOf pool19 1 #[.nestMembers #[98]] #[{ accessFlags := 2, nameIndex := 7, descriptorIndex := 8, attributes := #[] }, { accessFlags := 9, nameIndex := 198, descriptorIndex := 335, attributes := #[] }] 49 4 #[] #[{ accessFlags := 25, nameIndex := 354, descriptorIndex := 339, attributes := #[] }, { accessFlags := 25, nameIndex := 358, descriptorIndex := 339, attributes := #[] }, { accessFlags := 25, nameIndex := 361, descriptorIndex := 339, attributes := #[] }, { accessFlags := 26, nameIndex := 364, descriptorIndex := 339, attributes := #[] }, { accessFlags := 26, nameIndex := 365, descriptorIndex := 339, attributes := #[] }, { accessFlags := 26, nameIndex := 172, descriptorIndex := 173, attributes := #[] }, { accessFlags := 26, nameIndex := 176, descriptorIndex := 173, attributes := #[] }, { accessFlags := 8, nameIndex := 344, descriptorIndex := 339, attributes := #[] }, { accessFlags := 8, nameIndex := 338, descriptorIndex := 339, attributes := #[] }, { accessFlags := 4120, nameIndex := 245, descriptorIndex := 246, attributes := #[] }])
  fields := #[{ name := "E", type := .double, accessFlags := 25, slot := 0, constantValue := 0 }, { name := "PI", type := .double, accessFlags := 25, slot := 1, constantValue := 0 }, { name := "TAU", type := .double, accessFlags := 25, slot := 2, constantValue := 0 }, { name := "DEGREES_TO_RADIANS", type := .double, accessFlags := 26, slot := 3, constantValue := 0 }, { name := "RADIANS_TO_DEGREES", type := .double, accessFlags := 26, slot := 4, constantValue := 0 }, { name := "negativeZeroFloatBits", type := .long, accessFlags := 26, slot := 5, constantValue := 0 }, { name := "negativeZeroDoubleBits", type := .long, accessFlags := 26, slot := 6, constantValue := 0 }, { name := "twoToTheDoubleScaleUp", type := .double, accessFlags := 8, slot := 7, constantValue := 0 }, { name := "twoToTheDoubleScaleDown", type := .double, accessFlags := 8, slot := 8, constantValue := 0 }, { name := "$assertionsDisabled", type := .boolean, accessFlags := 4120, slot := 9, constantValue := 0 }]
  methods := #[k19m0, k19m1]
  instanceTypes := #[]
  staticTypes := #[.double, .double, .double, .double, .double, .long, .long, .double, .double, .boolean]
  resolved := Array.replicate 460 none
  statics := none }

def pool20 : Array CpInfo := pool [(2, .class_ 4), (1, u "java/lang/Object"), (0, u "<init>"), (0, u "()V"), (35, .class_ 44), (1, u "java/util/Objects"), (60, .methodref 106 107), (0, .class_ 108), (0, .nameAndType 109 110), (0, u "jdk/internal/util/Preconditions"), (0, u "checkIndex"), (0, u "(IILjava/util/function/BiFunction;)I"), (60, u "(II)I")] 12

def k20m0 : Method := { name := "<init>", desc := "()V", sig := { parameters := [], returnType := none }, accessFlags := 2, code := none }
def k20c1 : Code := { maxStack := 3, maxLocals := 2, code := jdk_31_method_17_code, exceptionTable := #[], attributes := #[] }
def k20m1 : Method := { name := "checkIndex", desc := "(II)I", sig := { parameters := [.int, .int], returnType := some .int }, accessFlags := 9, code := some k20c1 }
/-- java/util/Objects -/
def k20 : Class := { plain "java/util/Objects" (some 0) with
  accessFlags := 49
  interfaces := #[]
  cf := some (fileOf pool20 42 #[] #[{ accessFlags := 2, nameIndex := 5, descriptorIndex := 6, attributes := #[] }, { accessFlags := 9, nameIndex := 109, descriptorIndex := 171, attributes := #[] }] 49 2 #[] #[])
  fields := #[]
  methods := #[k20m0, k20m1]
  instanceTypes := #[]
  staticTypes := #[]
  resolved := Array.replicate 184 none
  statics := none }

def pool21 : Array CpInfo := pool [(2, .class_ 4), (1, u "java/lang/Object"), (0, u "<init>"), (0, u "()V"), (17, .class_ 26), (1, u "jdk/internal/util/Preconditions"), (6, u "checkIndex"), (21, .class_ 56), (0, u "jdk/internal/util/Preconditions$4"), (57, .class_ 115), (0, u "jdk/internal/util/Preconditions$1"), (7, u "SIOOBE_FORMATTER"), (0, u "Ljava/util/function/BiFunction;"), (0, .class_ 126), (0, u "jdk/internal/util/Preconditions$2"), (3, u "AIOOBE_FORMATTER"), (0, .class_ 132), (0, u "jdk/internal/util/Preconditions$3"), (3, u "IOOBE_FORMATTER"), (41, u "(IILjava/util/function/BiFunction;)I")] 15

def k21m0 : Method := { name := "<init>", desc := "()V", sig := { parameters := [], returnType := none }, accessFlags := 1, code := none }
def k21c1 : Code := { maxStack := 3, maxLocals := 3, code := jdk_41_method_11_code, exceptionTable := #[], attributes := #[] }
def k21m1 : Method := { name := "checkIndex", desc := "(IILjava/util/function/BiFunction;)I", sig := { parameters := [.int, .int, (.object "java/util/function/BiFunction")], returnType := some .int }, accessFlags := 9, code := some k21c1 }
/-- jdk/internal/util/Preconditions -/
def k21 : Class := { plain "jdk/internal/util/Preconditions" (some 0) with
  accessFlags := 33
  interfaces := #[]
  cf := some (fileOf pool21 24 #[.nestMembers #[55, 131, 125, 114]] #[{ accessFlags := 1, nameIndex := 5, descriptorIndex := 6, attributes := #[] }, { accessFlags := 9, nameIndex := 33, descriptorIndex := 178, attributes := #[] }] 33 2 #[] #[{ accessFlags := 25, nameIndex := 123, descriptorIndex := 124, attributes := #[] }, { accessFlags := 25, nameIndex := 130, descriptorIndex := 124, attributes := #[] }, { accessFlags := 25, nameIndex := 136, descriptorIndex := 124, attributes := #[] }])
  fields := #[{ name := "SIOOBE_FORMATTER", type := (.object "java/util/function/BiFunction"), accessFlags := 25, slot := 0, constantValue := 0 }, { name := "AIOOBE_FORMATTER", type := (.object "java/util/function/BiFunction"), accessFlags := 25, slot := 1, constantValue := 0 }, { name := "IOOBE_FORMATTER", type := (.object "java/util/function/BiFunction"), accessFlags := 25, slot := 2, constantValue := 0 }]
  methods := #[k21m0, k21m1]
  instanceTypes := #[]
  staticTypes := #[(.object "java/util/function/BiFunction"), (.object "java/util/function/BiFunction"), (.object "java/util/function/BiFunction")]
  resolved := Array.replicate 194 none
  statics := some 2 }

def pool22 : Array CpInfo := pool [(9, u "<init>"), (6, .class_ 18), (1, u "java/lang/Object"), (0, u "()V"), (1, .class_ 23), (1, u "jdk/internal/util/ArraysSupport"), (0, u "LOG2_ARRAY_LONG_INDEX_SCALE"), (0, u "I"), (2, u "U"), (0, u "Ljdk/internal/misc/Unsafe;"), (8, u "BIG_ENDIAN"), (0, u "Z"), (8, u "LOG2_BYTE_BIT_SIZE"), (4, u "LOG2_ARRAY_INT_INDEX_SCALE"), (54, u "JLA"), (0, u "Ljdk/internal/access/JavaLangAccess;"), (11, u "LOG2_ARRAY_BOOLEAN_INDEX_SCALE"), (9, u "LOG2_ARRAY_BYTE_INDEX_SCALE"), (5, u "LOG2_ARRAY_CHAR_INDEX_SCALE"), (5, u "LOG2_ARRAY_SHORT_INDEX_SCALE"), (18, u "LOG2_ARRAY_FLOAT_INDEX_SCALE"), (24, u "LOG2_ARRAY_DOUBLE_INDEX_SCALE"), (89, u "T_BOOLEAN"), (2, u "T_CHAR"), (1, u "T_FLOAT"), (1, u "T_DOUBLE"), (1, u "T_BYTE"), (1, u "T_SHORT"), (1, u "T_INT"), (1, u "T_LONG"), (1, u "SOFT_MAX_ARRAY_LENGTH")] 83

def k22m0 : Method := { name := "<init>", desc := "()V", sig := { parameters := [], returnType := none }, accessFlags := 2, code := none }
/-- jdk/internal/util/ArraysSupport -/
def k22 : Class := { plain "jdk/internal/util/ArraysSupport" (some 0) with
  accessFlags := 33
  interfaces := #[]
  cf := some (fileOf pool22 21 #[] #[{ accessFlags := 2, nameIndex := 9, descriptorIndex := 19, attributes := #[] }] 33 16 #[] #[{ accessFlags := 24, nameIndex := 28, descriptorIndex := 29, attributes := #[] }, { accessFlags := 26, nameIndex := 38, descriptorIndex := 39, attributes := #[] }, { accessFlags := 25, nameIndex := 121, descriptorIndex := 25, attributes := #[] }, { accessFlags := 25, nameIndex := 131, descriptorIndex := 25, attributes := #[] }, { accessFlags := 25, nameIndex := 137, descriptorIndex := 25, attributes := #[] }, { accessFlags := 25, nameIndex := 143, descriptorIndex := 25, attributes := #[] }, { accessFlags := 25, nameIndex := 53, descriptorIndex := 25, attributes := #[] }, { accessFlags := 25, nameIndex := 24, descriptorIndex := 25, attributes := #[] }, { accessFlags := 25, nameIndex := 162, descriptorIndex := 25, attributes := #[] }, { accessFlags := 25, nameIndex := 187, descriptorIndex := 25, attributes := #[] }, { accessFlags := 26, nameIndex := 48, descriptorIndex := 25, attributes := #[] }, { accessFlags := 25, nameIndex := 277, descriptorIndex := 25, attributes := #[] }, { accessFlags := 25, nameIndex := 280, descriptorIndex := 25, attributes := #[] }, { accessFlags := 25, nameIndex := 282, descriptorIndex := 25, attributes := #[] }, { accessFlags := 25, nameIndex := 284, descriptorIndex := 25, attributes := #[] }, { accessFlags := 25, nameIndex := 286, descriptorIndex := 25, attributes := #[] }, { accessFlags := 25, nameIndex := 288, descriptorIndex := 25, attributes := #[] }, { accessFlags := 25, nameIndex := 290, descriptorIndex := 25, attributes := #[] }, { accessFlags := 25, nameIndex := 292, descriptorIndex := 25, attributes := #[] }, { accessFlags := 26, nameIndex := 108, descriptorIndex := 109, attributes := #[] }, { accessFlags := 25, nameIndex := 294, descriptorIndex := 25, attributes := #[] }])
  fields := #[{ name := "U", type := (.object "jdk/internal/misc/Unsafe"), accessFlags := 24, slot := 0, constantValue := 0 }, { name := "BIG_ENDIAN", type := .boolean, accessFlags := 26, slot := 1, constantValue := 0 }, { name := "LOG2_ARRAY_BOOLEAN_INDEX_SCALE", type := .int, accessFlags := 25, slot := 2, constantValue := 0 }, { name := "LOG2_ARRAY_BYTE_INDEX_SCALE", type := .int, accessFlags := 25, slot := 3, constantValue := 0 }, { name := "LOG2_ARRAY_CHAR_INDEX_SCALE", type := .int, accessFlags := 25, slot := 4, constantValue := 0 }, { name := "LOG2_ARRAY_SHORT_INDEX_SCALE", type := .int, accessFlags := 25, slot := 5, constantValue := 0 }, { name := "LOG2_ARRAY_INT_INDEX_SCALE", type := .int, accessFlags := 25, slot := 6, constantValue := 0 }, { name := "LOG2_ARRAY_LONG_INDEX_SCALE", type := .int, accessFlags := 25, slot := 7, constantValue := 0 }, { name := "LOG2_ARRAY_FLOAT_INDEX_SCALE", type := .int, accessFlags := 25, slot := 8, constantValue := 0 }, { name := "LOG2_ARRAY_DOUBLE_INDEX_SCALE", type := .int, accessFlags := 25, slot := 9, constantValue := 0 }, { name := "LOG2_BYTE_BIT_SIZE", type := .int, accessFlags := 26, slot := 10, constantValue := 0 }, { name := "T_BOOLEAN", type := .int, accessFlags := 25, slot := 11, constantValue := 0 }, { name := "T_CHAR", type := .int, accessFlags := 25, slot := 12, constantValue := 0 }, { name := "T_FLOAT", type := .int, accessFlags := 25, slot := 13, constantValue := 0 }, { name := "T_DOUBLE", type := .int, accessFlags := 25, slot := 14, constantValue := 0 }, { name := "T_BYTE", type := .int, accessFlags := 25, slot := 15, constantValue := 0 }, { name := "T_SHORT", type := .int, accessFlags := 25, slot := 16, constantValue := 0 }, { name := "T_INT", type := .int, accessFlags := 25, slot := 17, constantValue := 0 }, { name := "T_LONG", type := .int, accessFlags := 25, slot := 18, constantValue := 0 }, { name := "JLA", type := (.object "jdk/internal/access/JavaLangAccess"), accessFlags := 26, slot := 19, constantValue := 0 }, { name := "SOFT_MAX_ARRAY_LENGTH", type := .int, accessFlags := 25, slot := 20, constantValue := 0 }]
  methods := #[k22m0]
  instanceTypes := #[]
  staticTypes := #[(.object "jdk/internal/misc/Unsafe"), .boolean, .int, .int, .int, .int, .int, .int, .int, .int, .int, .int, .int, .int, .int, .int, .int, .int, .int, (.object "jdk/internal/access/JavaLangAccess"), .int]
  resolved := Array.replicate 378 none
  statics := none }

/-- the primitive byte -/
def k23 : Class := { plain "byte" none with kind := .primitive 'B', accessFlags := 0x411 }
/-- [B -/
def k24 : Class := { plain "[B" (some 0) with kind := .array 23 .byte, interfaces := #[16, 2], accessFlags := 1041 }

/-- the primitive int -/
def k25 : Class := { plain "int" none with kind := .primitive 'I', accessFlags := 0x411 }
/-- [I -/
def k26 : Class := { plain "[I" (some 0) with kind := .array 25 .int, interfaces := #[16, 2], accessFlags := 1041 }

/-- [Ljava/lang/Object; -/
def k27 : Class := { plain "[Ljava/lang/Object;" (some 0) with kind := .array 0 (.object "java/lang/Object"), interfaces := #[16, 2], accessFlags := 1041 }

def heap : Heap := #[{ cls := 7, slots := #[.long 0, .int 1, .null, .int 0, .null, .int 0, .int 0], vm := .statics 7 },
  { cls := 17, slots := #[.long 0, .int 0, .ref 3, .ref 4], vm := .statics 17 },
  { cls := 21, slots := #[.null, .null, .null], vm := .statics 21 },
  { cls := 27, slots := #[], vm := .none },
  { cls := 27, slots := #[], vm := .none }]
def classes : Array Class := #[k0, k1, k2, k3, k4, k5, k6, k7, k8, k9, k10, k11, k12, k13, k14, k15, k16, k17, k18, k19, k20, k21, k22, k23, k24, k25, k26, k27]
def interned : List (Array UInt16 × Addr) := []
def slotsUsed : Nat := 14
def theMethod : MethodId := ⟨1, 1⟩
def args0 : Array Value := #[.int 5, .int 6, .int 7, .int 8]
def aboutOver (below : List Frame) : State where
  vm := { classes := classes, interned := interned.toArray }
  heap := heap
  slotsUsed := slotsUsed
  threads := #[{ frames := .invoking theMethod args0 :: below }]
def below0 : List Frame := [.native { method := ⟨0, 0⟩, args := #[] }]
def about1 : State := aboutOver below0
def p0 : Program := .bare "" "" ""
def e0 : Env := launch0.env 0 0 0
theorem w_frames : about1.frames = Frame.invoking theMethod args0 :: below0 := rfl
set_option maxRecDepth 65536 in
theorem w_args : argsFit about1.vm theMethod args0 = true := by decide +kernel
set_option maxRecDepth 65536 in
theorem w_heap : heapFits about1 = true := by decide +kernel
set_option maxRecDepth 65536 in
theorem w_runnable : about1.curStatus? = some .runnable := by decide +kernel
set_option maxRecDepth 65536 in
theorem w_alone : about1.alone = true := by decide +kernel
set_option maxRecDepth 65536 in
theorem w_named : about1.methodNamed? x = some theMethod := by decide +kernel
set_option maxRecDepth 65536 in
theorem w_hears : about1.hears theMethod below0 = true := by decide +kernel
set_option maxRecDepth 65536 in
theorem w_ripe : about1.ripe theMethod args0 below0 = true := by decide +kernel
theorem w_running : about1.status = .running := rfl
set_option maxRecDepth 65536 in
theorem w_room : about1.hasRoom e0.platform room_1 = true :=
  launch0.hasRoom_least _ room_1 (by decide +kernel) (by decide +kernel) (by decide +kernel) (by decide +kernel) (by decide +kernel) (by decide +kernel)
theorem allAtoms_all (ts : List Jvm.Cond) (a : Array Jvm.Value) (st : Jvm.State) : (allAtoms ts).before a st = ts.all (fun c => c.before a st) := by
  induction ts with
  | nil => rfl
  | cons c t ih =>
    show (Jvm.Cond.and c (allAtoms t)).before a st = _
    rw [Jvm.Cond.before_and, ih, List.all_cons]
def words1 : List Jvm.Cond := Jvm.Cond.code x code maxLocals ret :: tables_1
/-- a 'code' word, met by the world's own term for the bytes: nothing is compared byte by byte -/
theorem code_word {y : MethodName} {bytes : ByteArray} {mx : Nat} {rt : Option FieldType} {a : Array Value} {s : State} {m : MethodId} {meth : Method} {c : Code} (h1 : s.methodNamed? y = some m) (h2 : s.vm.method? m = some meth) (h3 : meth.code = some c) (h4 : c.code = bytes)
    (h5 : (c.maxLocals == mx && c.exceptionTable.isEmpty && decide (c.maxStack ≤ mostOperands) && decide (meth.sig.returnType = rt) && !meth.locks && decide (parseMethodDescriptor y.desc = some meth.sig)) = true) : (Jvm.Cond.code y bytes mx rt).before a s = true := by
  simp only [Bool.and_eq_true, beq_iff_eq, Bool.not_eq_true', decide_eq_true_eq] at h5
  obtain ⟨⟨⟨⟨⟨g1, g2⟩, g3⟩, g4⟩, g5⟩, g6⟩ := h5
  simp [Cond.before, Cond.holds, Cond.value, h1, h2, h3, h4, g1, g2, g3, g4, g5, g6]
def isCode : Jvm.Cond → Bool
  | .code _ _ _ _ => true
  | _ => false
theorem all_split {L : List Jvm.Cond} {P : Jvm.Cond → Bool} (h1 : L.all (fun c => isCode c || P c) = true) (h2 : ∀ c ∈ L.filter isCode, P c = true) : L.all P = true := by
  refine List.all_eq_true.mpr fun c hc => ?_
  have h := List.all_eq_true.mp h1 c hc
  rcases Bool.eq_false_or_eq_true (isCode c) with hi | hi
  · exact h2 c (List.mem_filter.mpr ⟨hc, hi⟩)
  · simpa [hi] using h
set_option maxRecDepth 65536 in
theorem w_c0 : (Jvm.Cond.code x code maxLocals ret).before args0 about1 = true := code_word (m := ⟨1, 1⟩) (meth := k1m1) (c := k1c1) (by decide +kernel) rfl rfl rfl (by decide +kernel)
set_option maxRecDepth 65536 in
theorem w_c1 : (Jvm.Cond.code ({ cls := "java/lang/String", name := "valueOf", desc := "(C)Ljava/lang/String;" } : Jvm.MethodName) jdk_42_method_139_code (1 : Nat) (Option.some (Jvm.ClassFile.FieldType.object "java/lang/String"))).before args0 about1 = true := code_word (m := ⟨7, 2⟩) (meth := k7m2) (c := k7c2) (by decide +kernel) rfl rfl rfl (by decide +kernel)
set_option maxRecDepth 65536 in
theorem w_c2 : (Jvm.Cond.code ({ cls := "java/lang/StringLatin1", name := "canEncode", desc := "(C)Z" } : Jvm.MethodName) jdk_43_method_3_code (1 : Nat) (Option.some Jvm.ClassFile.FieldType.boolean)).before args0 about1 = true := code_word (m := ⟨8, 1⟩) (meth := k8m1) (c := k8c1) (by decide +kernel) rfl rfl rfl (by decide +kernel)
set_option maxRecDepth 65536 in
theorem w_c3 : (Jvm.Cond.code ({ cls := "java/lang/StringLatin1", name := "toBytes", desc := "(C)[B" } : Jvm.MethodName) jdk_43_method_46_code (1 : Nat) (Option.some (Jvm.ClassFile.FieldType.array Jvm.ClassFile.FieldType.byte))).before args0 about1 = true := code_word (m := ⟨8, 2⟩) (meth := k8m2) (c := k8c2) (by decide +kernel) rfl rfl rfl (by decide +kernel)
set_option maxRecDepth 65536 in
theorem w_c4 : (Jvm.Cond.code ({ cls := "java/lang/String", name := "<init>", desc := "([BB)V" } : Jvm.MethodName) jdk_42_method_151_code (3 : Nat) (Option.none : Option Jvm.ClassFile.FieldType)).before args0 about1 = true := code_word (m := ⟨7, 3⟩) (meth := k7m3) (c := k7c3) (by decide +kernel) rfl rfl rfl (by decide +kernel)
set_option maxRecDepth 65536 in
theorem w_c5 : (Jvm.Cond.code ({ cls := "java/lang/Object", name := "<init>", desc := "()V" } : Jvm.MethodName) object_method_1_code (1 : Nat) (Option.none : Option Jvm.ClassFile.FieldType)).before args0 about1 = true := code_word (m := ⟨0, 0⟩) (meth := k0m0) (c := k0c0) (by decide +kernel) rfl rfl rfl (by decide +kernel)
set_option maxRecDepth 65536 in
theorem w_c6 : (Jvm.Cond.code ({ cls := "java/util/ArrayList", name := "<init>", desc := "()V" } : Jvm.MethodName) jdk_38_method_2_code (1 : Nat) (Option.none : Option Jvm.ClassFile.FieldType)).before args0 about1 = true := code_word (m := ⟨17, 0⟩) (meth := k17m0) (c := k17c0) (by decide +kernel) rfl rfl rfl (by decide +kernel)
set_option maxRecDepth 65536 in
theorem w_c7 : (Jvm.Cond.code ({ cls := "java/util/AbstractList", name := "<init>", desc := "()V" } : Jvm.MethodName) jdk_39_method_1_code (1 : Nat) (Option.none : Option Jvm.ClassFile.FieldType)).before args0 about1 = true := code_word (m := ⟨14, 0⟩) (meth := k14m0) (c := k14c0) (by decide +kernel) rfl rfl rfl (by decide +kernel)
set_option maxRecDepth 65536 in
theorem w_c8 : (Jvm.Cond.code ({ cls := "java/util/AbstractCollection", name := "<init>", desc := "()V" } : Jvm.MethodName) jdk_22_method_1_code (1 : Nat) (Option.none : Option Jvm.ClassFile.FieldType)).before args0 about1 = true := code_word (m := ⟨11, 0⟩) (meth := k11m0) (c := k11c0) (by decide +kernel) rfl rfl rfl (by decide +kernel)
set_option maxRecDepth 65536 in
theorem w_c9 : (Jvm.Cond.code ({ cls := "com/example/dibs/dibs/sketch/Items", name := "requireBatch", desc := "(Ljava/util/Collection;)Ljava/util/Collection;" } : Jvm.MethodName) prog_16_method_2_code (1 : Nat) (Option.some (Jvm.ClassFile.FieldType.object "java/util/Collection"))).before args0 about1 = true := code_word (m := ⟨18, 1⟩) (meth := k18m1) (c := k18c1) (by decide +kernel) rfl rfl rfl (by decide +kernel)
set_option maxRecDepth 65536 in
theorem w_c10 : (Jvm.Cond.code ({ cls := "java/util/ArrayList", name := "size", desc := "()I" } : Jvm.MethodName) jdk_38_method_8_code (1 : Nat) (Option.some Jvm.ClassFile.FieldType.int)).before args0 about1 = true := code_word (m := ⟨17, 3⟩) (meth := k17m3) (c := k17c3) (by decide +kernel) rfl rfl rfl (by decide +kernel)
set_option maxRecDepth 65536 in
theorem w_c11 : (Jvm.Cond.code ({ cls := "java/util/ArrayList", name := "add", desc := "(Ljava/lang/Object;)Z" } : Jvm.MethodName) jdk_38_method_25_code (2 : Nat) (Option.some Jvm.ClassFile.FieldType.boolean)).before args0 about1 = true := code_word (m := ⟨17, 7⟩) (meth := k17m7) (c := k17c7) (by decide +kernel) rfl rfl rfl (by decide +kernel)
set_option maxRecDepth 65536 in
theorem w_c12 : (Jvm.Cond.code ({ cls := "java/util/ArrayList", name := "add", desc := "(Ljava/lang/Object;[Ljava/lang/Object;I)V" } : Jvm.MethodName) jdk_38_method_24_code (4 : Nat) (Option.none : Option Jvm.ClassFile.FieldType)).before args0 about1 = true := code_word (m := ⟨17, 6⟩) (meth := k17m6) (c := k17c6) (by decide +kernel) rfl rfl rfl (by decide +kernel)
set_option maxRecDepth 65536 in
theorem w_c13 : (Jvm.Cond.code ({ cls := "java/util/ArrayList", name := "grow", desc := "()[Ljava/lang/Object;" } : Jvm.MethodName) jdk_38_method_7_code (1 : Nat) (Option.some (Jvm.ClassFile.FieldType.array (Jvm.ClassFile.FieldType.object "java/lang/Object")))).before args0 about1 = true := code_word (m := ⟨17, 2⟩) (meth := k17m2) (c := k17c2) (by decide +kernel) rfl rfl rfl (by decide +kernel)
set_option maxRecDepth 65536 in
theorem w_c14 : (Jvm.Cond.code ({ cls := "java/util/ArrayList", name := "grow", desc := "(I)[Ljava/lang/Object;" } : Jvm.MethodName) jdk_38_method_6_code (4 : Nat) (Option.some (Jvm.ClassFile.FieldType.array (Jvm.ClassFile.FieldType.object "java/lang/Object")))).before args0 about1 = true := code_word (m := ⟨17, 1⟩) (meth := k17m1) (c := k17c1) (by decide +kernel) rfl rfl rfl (by decide +kernel)
set_option maxRecDepth 65536 in
theorem w_c15 : (Jvm.Cond.code ({ cls := "java/lang/Math", name := "max", desc := "(II)I" } : Jvm.MethodName) jdk_29_method_65_code (2 : Nat) (Option.some Jvm.ClassFile.FieldType.int)).before args0 about1 = true := code_word (m := ⟨19, 1⟩) (meth := k19m1) (c := k19c1) (by decide +kernel) rfl rfl rfl (by decide +kernel)
set_option maxRecDepth 65536 in
theorem w_c16 : (Jvm.Cond.code ({ cls := "java/util/ArrayList", name := "get", desc := "(I)Ljava/lang/Object;" } : Jvm.MethodName) jdk_38_method_20_code (2 : Nat) (Option.some (Jvm.ClassFile.FieldType.object "java/lang/Object"))).before args0 about1 = true := code_word (m := ⟨17, 5⟩) (meth := k17m5) (c := k17c5) (by decide +kernel) rfl rfl rfl (by decide +kernel)
set_option maxRecDepth 65536 in
theorem w_c17 : (Jvm.Cond.code ({ cls := "java/util/Objects", name := "checkIndex", desc := "(II)I" } : Jvm.MethodName) jdk_31_method_17_code (2 : Nat) (Option.some Jvm.ClassFile.FieldType.int)).before args0 about1 = true := code_word (m := ⟨20, 1⟩) (meth := k20m1) (c := k20c1) (by decide +kernel) rfl rfl rfl (by decide +kernel)
set_option maxRecDepth 65536 in
theorem w_c18 : (Jvm.Cond.code ({ cls := "jdk/internal/util/Preconditions", name := "checkIndex", desc := "(IILjava/util/function/BiFunction;)I" } : Jvm.MethodName) jdk_41_method_11_code (3 : Nat) (Option.some Jvm.ClassFile.FieldType.int)).before args0 about1 = true := code_word (m := ⟨21, 1⟩) (meth := k21m1) (c := k21c1) (by decide +kernel) rfl rfl rfl (by decide +kernel)
set_option maxRecDepth 65536 in
theorem w_c19 : (Jvm.Cond.code ({ cls := "java/util/ArrayList", name := "elementData", desc := "(I)Ljava/lang/Object;" } : Jvm.MethodName) jdk_38_method_18_code (2 : Nat) (Option.some (Jvm.ClassFile.FieldType.object "java/lang/Object"))).before args0 about1 = true := code_word (m := ⟨17, 4⟩) (meth := k17m4) (c := k17c4) (by decide +kernel) rfl rfl rfl (by decide +kernel)
set_option maxRecDepth 65536 in
theorem w_c20 : (Jvm.Cond.code ({ cls := "java/lang/String", name := "equals", desc := "(Ljava/lang/Object;)Z" } : Jvm.MethodName) jdk_42_method_66_code (3 : Nat) (Option.some Jvm.ClassFile.FieldType.boolean)).before args0 about1 = true := code_word (m := ⟨7, 1⟩) (meth := k7m1) (c := k7c1) (by decide +kernel) rfl rfl rfl (by decide +kernel)
def codes1 : List Jvm.Cond := [Jvm.Cond.code x code maxLocals ret, Jvm.Cond.code ({ cls := "java/lang/String", name := "valueOf", desc := "(C)Ljava/lang/String;" } : Jvm.MethodName) jdk_42_method_139_code (1 : Nat) (Option.some (Jvm.ClassFile.FieldType.object "java/lang/String")), Jvm.Cond.code ({ cls := "java/lang/StringLatin1", name := "canEncode", desc := "(C)Z" } : Jvm.MethodName) jdk_43_method_3_code (1 : Nat) (Option.some Jvm.ClassFile.FieldType.boolean), Jvm.Cond.code ({ cls := "java/lang/StringLatin1", name := "toBytes", desc := "(C)[B" } : Jvm.MethodName) jdk_43_method_46_code (1 : Nat) (Option.some (Jvm.ClassFile.FieldType.array Jvm.ClassFile.FieldType.byte)), Jvm.Cond.code ({ cls := "java/lang/String", name := "<init>", desc := "([BB)V" } : Jvm.MethodName) jdk_42_method_151_code (3 : Nat) (Option.none : Option Jvm.ClassFile.FieldType), Jvm.Cond.code ({ cls := "java/lang/Object", name := "<init>", desc := "()V" } : Jvm.MethodName) object_method_1_code (1 : Nat) (Option.none : Option Jvm.ClassFile.FieldType), Jvm.Cond.code ({ cls := "java/util/ArrayList", name := "<init>", desc := "()V" } : Jvm.MethodName) jdk_38_method_2_code (1 : Nat) (Option.none : Option Jvm.ClassFile.FieldType), Jvm.Cond.code ({ cls := "java/util/AbstractList", name := "<init>", desc := "()V" } : Jvm.MethodName) jdk_39_method_1_code (1 : Nat) (Option.none : Option Jvm.ClassFile.FieldType), Jvm.Cond.code ({ cls := "java/util/AbstractCollection", name := "<init>", desc := "()V" } : Jvm.MethodName) jdk_22_method_1_code (1 : Nat) (Option.none : Option Jvm.ClassFile.FieldType), Jvm.Cond.code ({ cls := "com/example/dibs/dibs/sketch/Items", name := "requireBatch", desc := "(Ljava/util/Collection;)Ljava/util/Collection;" } : Jvm.MethodName) prog_16_method_2_code (1 : Nat) (Option.some (Jvm.ClassFile.FieldType.object "java/util/Collection")), Jvm.Cond.code ({ cls := "java/util/ArrayList", name := "size", desc := "()I" } : Jvm.MethodName) jdk_38_method_8_code (1 : Nat) (Option.some Jvm.ClassFile.FieldType.int), Jvm.Cond.code ({ cls := "java/util/ArrayList", name := "add", desc := "(Ljava/lang/Object;)Z" } : Jvm.MethodName) jdk_38_method_25_code (2 : Nat) (Option.some Jvm.ClassFile.FieldType.boolean), Jvm.Cond.code ({ cls := "java/util/ArrayList", name := "add", desc := "(Ljava/lang/Object;[Ljava/lang/Object;I)V" } : Jvm.MethodName) jdk_38_method_24_code (4 : Nat) (Option.none : Option Jvm.ClassFile.FieldType), Jvm.Cond.code ({ cls := "java/util/ArrayList", name := "grow", desc := "()[Ljava/lang/Object;" } : Jvm.MethodName) jdk_38_method_7_code (1 : Nat) (Option.some (Jvm.ClassFile.FieldType.array (Jvm.ClassFile.FieldType.object "java/lang/Object"))), Jvm.Cond.code ({ cls := "java/util/ArrayList", name := "grow", desc := "(I)[Ljava/lang/Object;" } : Jvm.MethodName) jdk_38_method_6_code (4 : Nat) (Option.some (Jvm.ClassFile.FieldType.array (Jvm.ClassFile.FieldType.object "java/lang/Object"))), Jvm.Cond.code ({ cls := "java/lang/Math", name := "max", desc := "(II)I" } : Jvm.MethodName) jdk_29_method_65_code (2 : Nat) (Option.some Jvm.ClassFile.FieldType.int), Jvm.Cond.code ({ cls := "java/util/ArrayList", name := "get", desc := "(I)Ljava/lang/Object;" } : Jvm.MethodName) jdk_38_method_20_code (2 : Nat) (Option.some (Jvm.ClassFile.FieldType.object "java/lang/Object")), Jvm.Cond.code ({ cls := "java/util/Objects", name := "checkIndex", desc := "(II)I" } : Jvm.MethodName) jdk_31_method_17_code (2 : Nat) (Option.some Jvm.ClassFile.FieldType.int), Jvm.Cond.code ({ cls := "jdk/internal/util/Preconditions", name := "checkIndex", desc := "(IILjava/util/function/BiFunction;)I" } : Jvm.MethodName) jdk_41_method_11_code (3 : Nat) (Option.some Jvm.ClassFile.FieldType.int), Jvm.Cond.code ({ cls := "java/util/ArrayList", name := "elementData", desc := "(I)Ljava/lang/Object;" } : Jvm.MethodName) jdk_38_method_18_code (2 : Nat) (Option.some (Jvm.ClassFile.FieldType.object "java/lang/Object")), Jvm.Cond.code ({ cls := "java/lang/String", name := "equals", desc := "(Ljava/lang/Object;)Z" } : Jvm.MethodName) jdk_42_method_66_code (3 : Nat) (Option.some Jvm.ClassFile.FieldType.boolean)]
set_option maxRecDepth 65536 in
theorem codes_eq : words1.filter isCode = codes1 := rfl
theorem w_codes : ∀ c ∈ words1.filter isCode, c.before args0 about1 = true := by
  rw [codes_eq]
  intro c hc
  simp only [codes1, List.mem_cons, List.not_mem_nil, or_false] at hc
  rcases hc with rfl | rfl | rfl | rfl | rfl | rfl | rfl | rfl | rfl | rfl | rfl | rfl | rfl | rfl | rfl | rfl | rfl | rfl | rfl | rfl | rfl
  · exact w_c0
  · exact w_c1
  · exact w_c2
  · exact w_c3
  · exact w_c4
  · exact w_c5
  · exact w_c6
  · exact w_c7
  · exact w_c8
  · exact w_c9
  · exact w_c10
  · exact w_c11
  · exact w_c12
  · exact w_c13
  · exact w_c14
  · exact w_c15
  · exact w_c16
  · exact w_c17
  · exact w_c18
  · exact w_c19
  · exact w_c20
set_option maxRecDepth 65536 in
theorem w_t1 : (words1.take 24).all (fun c => isCode c || c.before args0 about1) = true := by decide +kernel
set_option maxRecDepth 65536 in
theorem w_t2 : ((words1.drop 24).take 24).all (fun c => isCode c || c.before args0 about1) = true := by decide +kernel
set_option maxRecDepth 65536 in
theorem w_t3 : (((words1.drop 24).drop 24).take 24).all (fun c => isCode c || c.before args0 about1) = true := by decide +kernel
set_option maxRecDepth 65536 in
theorem w_t4 : ((((words1.drop 24).drop 24).drop 24).take 24).all (fun c => isCode c || c.before args0 about1) = true := by decide +kernel
set_option maxRecDepth 65536 in
theorem w_t5 : ((((words1.drop 24).drop 24).drop 24).drop 24).all (fun c => isCode c || c.before args0 about1) = true := by decide +kernel
theorem w_tables : (allAtoms (Jvm.Cond.code x code maxLocals ret :: tables_1)).before args0 about1 = true := by
  rw [allAtoms_all]
  show words1.all (fun c => c.before args0 about1) = true
  refine all_split ?_ w_codes
  rw [← List.take_append_drop 24 words1, List.all_append, w_t1, ← List.take_append_drop 24 (words1.drop 24), List.all_append, w_t2, ← List.take_append_drop 24 ((words1.drop 24).drop 24), List.all_append, w_t3, ← List.take_append_drop 24 (((words1.drop 24).drop 24).drop 24), List.all_append, w_t4, w_t5]
  rfl
set_option maxRecDepth 65536 in
theorem w_rest : rest_1_c.before args0 about1 = true := by decide +kernel
set_option maxRecDepth 65536 in
theorem w_case : (Jvm.Cond.and given_1 narrow_1).before args0 about1 = true := by decide +kernel
theorem w_applies : (headSpec (Jvm.Cond.code x code maxLocals ret :: tables_1) room_1).applies x e0.platform about1 = true :=
  (Spec.applies_iff w_frames).mpr ⟨w_running, w_runnable, w_alone, w_named, w_hears, w_ripe, w_room, w_tables⟩
theorem atStart : AtStart classFile x code maxLocals ret World_1 tables_1 room_1 Calls_1 rest_1 Pre_1 launch0 p0 e0 about1 theMethod args0 below0 :=
  ⟨lists_1, trivial, launch0.admits_env _ _ _, launch0.least_env, fairChoices_fair.cas, fairChoices_fair.clock, w_frames, w_args, w_heap, w_applies, trivial, w_rest, w_case⟩
end start1
theorem witness_1 : WitnessClaimed_1 := ⟨start1.p0, start1.e0, start1.about1, start1.theMethod, start1.args0, start1.below0, start1.atStart⟩
end Jvm.Pilot.@@N@@
