import JvmDerived
import JvmDerived.Pilot.@@N@@Statement
import JvmDerived.Pilot.@@N@@Code
set_option linter.unusedVariables false
set_option linter.unusedSimpArgs false
namespace Jvm.RoadKit
open Sem ClassFile Op Lib Jvm.Stand Jvm.Free Jvm.LawKit
section New
variable {p : Program} {l : Launch} {e : Env} {R : Room} {s : State} {m : MethodId} {args : Array Value} {below : List Frame} {meth : Method} {c : Code} {T : State} {locs : List Loc} {cells slots : Nat}
theorem retI (X : Stand p l e R s m args below meth c T locs cells slots) (hx : p.tables.exec = Jvm.exec) {pc : Nat} {Ls : Array Slot} {z : Int32} {rest : List Value} (hret : meth.sig.returnType = some .int) (hd : decode c.code pc = .ok (.ireturn, 1)) {fs : List Frame}
    (hl : ∀ (f : JFrame) (acts : List Action), f.method = m → f.locked = none → f.entered = [] → (doReturn e (T.setTop f) acts (some (.int z))).1 = T.setFrames fs) : Steps p.tables e below (T.setTop (mkF m pc Ls (.int z :: rest))) (T.setFrames fs) := by
  have hm' : T.vm.method? m = some meth := X.method'
  have hn : narrow .int (.int z) = .int z := rfl
  show Steps p.tables e below (T.setTop { method := m, pc := pc, locals := Ls, stack := _ :: rest, locked := none }) _
  jvm_step X.here [X.here.top, hx, hd, hm', hret, hn]
  first | (intro acts; rw [hl _ acts rfl rfl rfl]) | rw [hl _ _ rfl rfl rfl]
  exact Steps.refl _
end New
end Jvm.RoadKit
namespace Jvm.Pilot.@@N@@
open Jvm Jvm.ClassFile Sem Op Lib Jvm.Free Jvm.Stand Jvm.LawKit Jvm.RoadKit Bundle Jvm.Pilot.@@N@@.Jvm.D
/-- a body's contract, by a walk forwards: G U says that the run from U comes to an end that the contract allows -/
theorem own_body {l : Launch} {Z : State} {y : MethodName} {bytes : ByteArray} {maxL : Nat} {ret : Option FieldType} {ws : List Jvm.Cond} {rm : Room} {as' : Array Value} {h0 : Heap} {Q : Option Value → Heap → List Loc → Prop} (hpl : plainFor y = true)
    (body : ∀ (p : Program) (e : Env) (s : State) (m : MethodId) (below : List Frame) (meth : Method) (c : Code) (s₁ : State) (G : State → Prop),
      p.tables.exec = Jvm.exec → c.code = bytes → c.maxLocals = maxL → Z.Warmed39 s.vm → s.vm.findClass y.cls = some m.cls → meth.name = y.name → meth.sig.returnType = ret →
      Stand p l e rm s m as' below meth c s₁ [] 0 0 → s₁.heap = h0 →
      (∀ (U' : State) {U : State}, (∀ t, Steps p.tables e below U' t → Steps p.tables e below U t) → G U' → G U) →
      (∀ {U T : State} {locs : List Loc} {cells slots : Nat} {v : Option Value}, Stand p l e rm s m as' below meth c T locs cells slots → (ret = none → v = none) → Q v T.heap locs → cells ≤ rm.cells → slots ≤ rm.slots →
        (∀ fs, (∀ (f : JFrame) (acts : List Action), f.method = m → f.locked = none → f.entered = [] → (doReturn e (T.setTop f) acts v).1 = T.setFrames fs) → Steps p.tables e below U (T.setFrames fs)) → G U) →
      G (s₁.setTop (entryFrame m as' maxL))) :
    MetFree l y (head1 (Jvm.Cond.code y bytes maxL ret :: ws) rm) (fun a U => a = as' ∧ Z.Warmed39 U.vm ∧ U.heap = h0) (fun _ _ _ _ _ => True) (fun _ U o U' => ∃ v L, o = .returned v ∧ Q v U'.heap L ∧ FrameEnd U o U' L rm.cells rm.slots) := by
  refine MetFree.of_bodySF hpl hisR ?_
  intro p e s m args below meth c s₁ Bd hml0 hP hK
  obtain ⟨rfl, hZ, hh⟩ := hP
  have hnm := (name_of_methodNamed Bd.named Bd.method).1
  exact body p e s m below meth c s₁ (fun U => ∃ s₂ o, Steps p.tables e below U s₂ ∧ s₂.status = .running ∧ Ended s₂ below o ∧ ∃ v L, o = .returned v ∧ Q v s₂.heap L ∧ FrameEnd s o s₂ L rm.cells rm.slots)
    Bd.exec Bd.bytes hml0 hZ (findClass_of_methodNamed Bd.named) hnm Bd.returns (Stand.of_body Bd) (by rw [← hh, Bd.state]; rfl)
    (fun U' U h k => by obtain ⟨s₂, o, h1, h2⟩ := k; exact ⟨s₂, o, h _ h1, h2⟩)
    (fun {U T locs cells slots v} X hv hQ hc hs hst => by
      obtain ⟨fs, hr, hrun, hended, hW, hsame⟩ := X.leave (v := v) (fun h => hv (by rw [← Bd.returns]; exact h))
      exact ⟨_, _, hst fs hr, hrun, hended, v, locs, rfl, hQ, ⟨_, rfl⟩, hW, hsame.mono hc hs⟩)
/-- the same, of a body that may intern String constants on its way -/
theorem own_bodyW {l : Launch} {Z : State} {y : MethodName} {bytes : ByteArray} {maxL : Nat} {ret : Option FieldType} {ws : List Jvm.Cond} {rm : Room} {as' : Array Value} {h0 : Heap} {Q : Option Value → Heap → List Loc → Prop} (hpl : plainFor y = true)
    (body : ∀ (p : Program) (e : Env) (s : State) (m : MethodId) (below : List Frame) (meth : Method) (c : Code) (s₁ : State) (G : State → Prop) (vm0 : Vm) (k0 : Nat),
      p.tables.exec = Jvm.exec → c.code = bytes → c.maxLocals = maxL → Z.Warmed39 vm0 → vm0.findClass y.cls = some m.cls → meth.name = y.name → meth.sig.returnType = ret → s.Since vm0 k0 → k0 ≤ h0.size →
      Stand p l e rm (s.setVm vm0) m as' below meth c s₁ [] 0 0 → s₁.heap = h0 →
      (∀ (U' : State) {U : State}, (∀ t, Steps p.tables e below U' t → Steps p.tables e below U t) → G U' → G U) →
      (∀ {U T : State} {locs : List Loc} {cells slots : Nat} {v : Option Value} {vm1 : Vm} {k1 : Nat}, Stand p l e rm (s.setVm vm1) m as' below meth c T locs cells slots → s.Since vm1 k1 → k1 ≤ T.heap.size → (ret = none → v = none) → Q v T.heap locs → cells ≤ rm.cells → slots ≤ rm.slots →
        (∀ fs, (∀ (f : JFrame) (acts : List Action), f.method = m → f.locked = none → f.entered = [] → (doReturn e (T.setTop f) acts v).1 = T.setFrames fs) → Steps p.tables e below U (T.setFrames fs)) → G U) →
      G (s₁.setTop (entryFrame m as' maxL))) :
    MetFree l y (head1 (Jvm.Cond.code y bytes maxL ret :: ws) rm) (fun a U => a = as' ∧ Z.Warmed39 U.vm ∧ U.heap = h0) (fun _ _ _ _ _ => True) (fun _ U o U' => ∃ v L, o = .returned v ∧ Q v U'.heap L ∧ ReturnedEndW U o U' L rm.cells rm.slots) := by
  refine MetFree.of_bodySF hpl hisR ?_
  intro p e s m args below meth c s₁ Bd hml0 hP hK
  obtain ⟨rfl, hZ, hh⟩ := hP
  have hnm := (name_of_methodNamed Bd.named Bd.method).1
  have X0 := Stand.of_body Bd
  exact body p e s m below meth c s₁ (fun U => ∃ s₂ o, Steps p.tables e below U s₂ ∧ s₂.status = .running ∧ Ended s₂ below o ∧ ∃ v L, o = .returned v ∧ Q v s₂.heap L ∧ ReturnedEndW s o s₂ L rm.cells rm.slots)
    s.vm h0.size Bd.exec Bd.bytes hml0 hZ (findClass_of_methodNamed Bd.named) hnm Bd.returns ((State.WarmedH.refl s).since _) (Nat.le_refl _) X0 (by rw [← hh, Bd.state]; rfl)
    (fun U' U h k => by obtain ⟨s₂, o, h1, h2⟩ := k; exact ⟨s₂, o, h _ h1, h2⟩)
    (fun {U T locs cells slots v vm1 k1} X hS hk hv hQ hc hs hst => by
      obtain ⟨fs, hr, hrun, hended, hE⟩ := X.leaveW hS hk (v := v) (fun h => hv (by rw [← Bd.returns]; exact h))
      exact ⟨_, _, hst fs hr, hrun, hended, v, locs, rfl, hQ, hE.1, hE.2.1, hE.2.2.1, hE.2.2.2.mono hc hs⟩)
theorem own_fin {z : Int32} (h : z = 1) : some (Value.int (nar .boolean z)) = some (.int 1) := by subst h; rfl
theorem own_and3 (p : Int32) : p &&& 3 = 0 ∨ p &&& 3 = 1 ∨ p &&& 3 = 2 ∨ p &&& 3 = 3 := by
  have h := c_mask p 3 2 (by decide) (by decide)
  have h4 : (p &&& 3).toInt = 0 ∨ (p &&& 3).toInt = 1 ∨ (p &&& 3).toInt = 2 ∨ (p &&& 3).toInt = 3 := by omega
  rcases h4 with h | h | h | h
  · exact Or.inl (Int32.toInt_inj.mp h)
  · exact Or.inr (Or.inl (Int32.toInt_inj.mp h))
  · exact Or.inr (Or.inr (Or.inl (Int32.toInt_inj.mp h)))
  · exact Or.inr (Or.inr (Or.inr (Int32.toInt_inj.mp h)))
theorem own_eqi {args : Array Value} {s : State} {t : Term} {n : Int32} (h : (Jvm.Cond.eq t (.int n)).value args s none s [] = some true) : t.eval args s none [] s = some (.int n) := by
  simp only [Cond.value, Term.eval] at h
  cases ht : t.eval args s none [] s with
  | none => simp [ht] at h
  | some x => cases x <;> simp [ht] at h ⊢; exact h
theorem own_irr {x : Int32} : ¬ (x < x) := by rw [Int32.lt_iff_toInt_lt]; omega
theorem own_selP {args : Array Value} {s : State} {y : MethodName} {k : Nat} (hinst : (Jvm.Cond.instanceMethod y).before args s = true) (hi : (Jvm.Cond.instantiable y.cls k).before args s = true) (hp : s.PrivateAt y) (hy : y.cls ≠ "java/lang/invoke/MethodHandle" ∧ y.cls ≠ "java/lang/invoke/VarHandle") : (Jvm.Cond.selects y.cls y y).before args s = true := by
  obtain ⟨m, meth, hn, hm, -, -⟩ := Cond.instanceMethod_spec hinst
  obtain ⟨c, kk, h1, h2, -, h4, -⟩ := Cond.instantiable_spec hi
  have hf := State.methodFound?_of_named hn hy
  have hc := findClass_of_methodNamed hn
  cases h1.symm.trans hc
  have hs := selectMethod_private (p := {}) (c := m.cls) hm (hp m meth hn hm)
  have h5 : kk.isInterface = false := by simp only [Bool.or_eq_false_iff] at h4; exact h4.1
  simp [Cond.before, Cond.holds, Cond.value, hc, hf, hn, hs, h2, h5]
theorem own_add0 (x : Int32) : x = (x + (0 : Int32)) := (Int32.add_zero x).symm
theorem own_nn (x y : Int32) (h : (x &&& (2147483647 : Int32)) = y) : ¬ (y < (0 : Int32)) := by
  subst h
  have h := c_mask x 2147483647 31 (by decide) (by decide)
  rw [Int32.lt_iff_toInt_lt]
  have e : (0 : Int32).toInt = 0 := by decide
  omega
theorem own_255 (x y : Int32) (h : ((x &&& (255 : Int32)).toUInt32.toUInt16.toUInt32.toInt32) = y) : ¬ ((255 : Int32) < y) := by
  subst h
  have h := c_mask x 255 8 (by decide) (by decide)
  have h2 := c_i2c (x &&& 255)
  rw [Int32.lt_iff_toInt_lt]
  have e : (255 : Int32).toInt = 255 := by decide
  omega
theorem own_exaP {Z : State} {h : Heap} {a : Addr} {C : String} (F : Exa Z h a C) : ∀ cell : Cell, h[a]? = some cell → cell.vm.isStatics = false := fun cell q => by
  obtain ⟨c', _, h1, -, -, h4, -⟩ := F
  cases h1.symm.trans q
  exact h4
theorem own_arvP {Z : State} {h : Heap} {a : Addr} {k : ClassId} {ty : FieldType} {z : Int32} {vs : List Value} {dv : Value} (F : Arv Z h a k ty z vs dv) : ∀ cell : Cell, h[a]? = some cell → cell.vm.isStatics = false := fun cell q => by
  obtain ⟨c', A, -⟩ := F
  cases A.1.symm.trans q
  exact A.plain
theorem own_staK {Z : State} {h h' : Heap} {ws : List Addr} {C n d : String} {v : Value} (F : Sta Z h C n d v) (K : Keep h h' ws) (q : ∀ x ∈ ws, ∀ cell : Cell, h[x]? = some cell → cell.vm.isStatics = false) : Sta Z h' C n d v := by
  obtain ⟨cf, i, k, f, st, cell, h1, h2, h3, h4, h5, h6, h7⟩ := F
  exact ⟨cf, i, k, f, st, cell, h1, h2, h3, h4, K.2.1 st cell h5 (fun hm => by rw [q st hm cell h5] at h6; cases h6), h6, h7⟩
theorem own_arr0 {args : Array Value} {s : State} {t : Term} {a : Addr} {ty : FieldType} {dv : Value} (hf : Fit s) (ev : t.eval args s none [] s = some (.ref a)) (hA : (Jvm.Cond.arrayOf t ty).value args s none s [] = some true) (hl : (Jvm.Cond.eq (.length t) (.int 0)).value args s none s [] = some true) : ∃ k, Arv s s.heap a k ty 0 [] dv := by
  obtain ⟨c, A⟩ := Arr.start ev hA
  have h0 := own_eqi hl
  obtain ⟨a', cell, e1, e2, e3⟩ := Term.length_spec h0
  cases ev.symm.trans e1
  have e4 : s.arrayAt? a = some c := Arr.fin (U := s) (Vm.Alike.refl _) A
  cases e4.symm.trans e2
  have hq : c.slots.size < 2 ^ 31 := by
    by_cases q : c.slots.size < 2 ^ 31
    · exact q
    · simp [Term.eval, ev, e4, q] at h0
  have e5 : c.slots.size.toInt32 = 0 := by injection e3 with e; exact e.symm
  exact ⟨_, Arv.start hf A hq e5 (by decide) rfl trivial⟩
theorem own_255n (x y : Int32) (h : ((x &&& (255 : Int32)).toUInt32.toUInt16.toUInt32.toInt32) = y) : ¬ ((255 : Int32) < (nar .char y)) := by
  have h1 := own_255 x y h
  have h0 := (c_i2c (x &&& 255)).2.1
  rw [h] at h0
  have h2 : (nar .char y).toInt = (y.toUInt32.toUInt16.toUInt32.toInt32).toInt := rfl
  have h3 := c_i2c y
  rw [Int32.lt_iff_toInt_lt] at *
  have e : (255 : Int32).toInt = 255 := by decide
  omega
theorem own_tri (a b : Int64) : (a < b ∧ ¬ a = b ∧ ¬ b = a ∧ ¬ b < a) ∨ (¬ a < b ∧ a = b ∧ b = a ∧ ¬ b < a) ∨ (¬ a < b ∧ ¬ a = b ∧ ¬ b = a ∧ b < a) := by
  simp only [Int64.lt_iff_toInt_lt, ← Int64.toInt_inj]
  omega
def own_ap {α β : Type} (e : α) (F : α → β) : β := F e
theorem own_let {α β : Type} {z e : α} {F : α → β} {g : β} (h : z = e) (k : g = F z) : g = own_ap e F := by subst h; exact k
theorem pn_0 : plainName "com/example/whisman/whisman/connector/RequestHeadHasBodyPinLaw" = true := by first | (simp [plainName, overriddenIn]; done) | decide +kernel
theorem pd_0 : parseMethodDescriptor "(C)Ljava/lang/String;" = some ⟨[.char], some (.object "java/lang/String")⟩ := by decide +kernel
theorem pd_1 : parseMethodDescriptor "()V" = some ⟨[], none⟩ := by decide +kernel
theorem pd_2 : parseMethodDescriptor "(Ljava/lang/String;Ljava/lang/String;Ljava/lang/String;Lcom/example/whisman/whisman/connector/HttpVersion;Lcom/example/whisman/whisman/connector/HttpFields;Ljava/lang/String;Ljava/lang/String;Ljava/lang/String;JZZZ)V" = some ⟨[(.object "java/lang/String"), (.object "java/lang/String"), (.object "java/lang/String"), (.object "com/example/whisman/whisman/connector/HttpVersion"), (.object "com/example/whisman/whisman/connector/HttpFields"), (.object "java/lang/String"), (.object "java/lang/String"), (.object "java/lang/String"), .long, .boolean, .boolean, .boolean], none⟩ := by decide +kernel
theorem pd_3 : parseMethodDescriptor "()Z" = some ⟨[], some .boolean⟩ := by decide +kernel
theorem d1_0 : decode jdk_42_method_139_code 0 = .ok (.getstatic 38, 3) := by decide +kernel
theorem d1_3 : decode jdk_42_method_139_code 3 = .ok (.ifCond .eq 23, 3) := by decide +kernel
theorem d1_6 : decode jdk_42_method_139_code 6 = .ok (.iload_n 0, 1) := by decide +kernel
theorem d1_7 : decode jdk_42_method_139_code 7 = .ok (.invokestatic 1015, 3) := by decide +kernel
theorem d1_10 : decode jdk_42_method_139_code 10 = .ok (.ifCond .eq 16, 3) := by decide +kernel
theorem d1_13 : decode jdk_42_method_139_code 13 = .ok (.new 10, 3) := by decide +kernel
theorem d1_16 : decode jdk_42_method_139_code 16 = .ok (.dup, 1) := by decide +kernel
theorem d1_17 : decode jdk_42_method_139_code 17 = .ok (.iload_n 0, 1) := by decide +kernel
theorem d1_18 : decode jdk_42_method_139_code 18 = .ok (.invokestatic 1018, 3) := by decide +kernel
theorem d1_21 : decode jdk_42_method_139_code 21 = .ok (.iconst 0, 1) := by decide +kernel
theorem d1_22 : decode jdk_42_method_139_code 22 = .ok (.invokespecial 209, 3) := by decide +kernel
theorem d1_25 : decode jdk_42_method_139_code 25 = .ok (.areturn, 1) := by decide +kernel
theorem d1_26 : decode jdk_42_method_139_code 26 = .ok (.new 10, 3) := by decide +kernel
theorem d1_29 : decode jdk_42_method_139_code 29 = .ok (.dup, 1) := by decide +kernel
theorem d1_30 : decode jdk_42_method_139_code 30 = .ok (.iload_n 0, 1) := by decide +kernel
theorem d1_31 : decode jdk_42_method_139_code 31 = .ok (.invokestatic 1021, 3) := by decide +kernel
theorem d1_34 : decode jdk_42_method_139_code 34 = .ok (.iconst 1, 1) := by decide +kernel
theorem d1_35 : decode jdk_42_method_139_code 35 = .ok (.invokespecial 209, 3) := by decide +kernel
theorem d1_38 : decode jdk_42_method_139_code 38 = .ok (.areturn, 1) := by decide +kernel
theorem pn_1 : plainName "java/lang/String" = true := by first | (simp [plainName, overriddenIn]; done) | decide +kernel
theorem pd_4 : parseMethodDescriptor "(C)Z" = some ⟨[.char], some .boolean⟩ := by decide +kernel
theorem pd_5 : parseMethodDescriptor "(C)[B" = some ⟨[.char], some (.array .byte)⟩ := by decide +kernel
theorem pd_6 : parseMethodDescriptor "([BB)V" = some ⟨[(.array .byte), .byte], none⟩ := by decide +kernel
theorem d2_0 : decode jdk_43_method_3_code 0 = .ok (.iload_n 0, 1) := by decide +kernel
theorem d2_1 : decode jdk_43_method_3_code 1 = .ok (.sipush 255, 3) := by decide +kernel
theorem d2_4 : decode jdk_43_method_3_code 4 = .ok (.if_icmp .gt 7, 3) := by decide +kernel
theorem d2_7 : decode jdk_43_method_3_code 7 = .ok (.iconst 1, 1) := by decide +kernel
theorem d2_8 : decode jdk_43_method_3_code 8 = .ok (.goto 4, 3) := by decide +kernel
theorem d2_11 : decode jdk_43_method_3_code 11 = .ok (.iconst 0, 1) := by decide +kernel
theorem d2_12 : decode jdk_43_method_3_code 12 = .ok (.ireturn, 1) := by decide +kernel
theorem pn_2 : plainName "java/lang/StringLatin1" = true := by first | (simp [plainName, overriddenIn]; done) | decide +kernel
theorem ef_2_2 (m : MethodId) (x0 : Int32) : entryFrame m #[(.int x0)] 1 = mkF m 0 #[.val (.int x0)] [] := by first | (simp [entryFrame, mkF, argsToLocals, Value.category]; done) | rfl
def Q2_2 (Z : State) (i1 : Int32) (h0 : Heap) (n0 : Nat) (v : Option Value) (h : Heap) (L : List Loc) : Prop := v = some (.int (1 : Int32)) ∧ Fr n0 L ∧ h = h0
set_option maxRecDepth 65536 in
set_option maxHeartbeats 40000000 in
theorem rm2_2 (l : Launch) (Z : State) (a0 : Array Value) (hw : ∀ d ∈ tables_1, d.before a0 Z = true) (ws : List Jvm.Cond) (i1 : Int32) (h0 : Heap) (n0 : Nat) (Z0 : n0 ≤ h0.size) (hy0 : ¬ ((255 : Int32) < i1))  :
    MetFree l (⟨"java/lang/StringLatin1", "canEncode", "(C)Z"⟩ : MethodName) (head1 (Jvm.Cond.code (⟨"java/lang/StringLatin1", "canEncode", "(C)Z"⟩ : MethodName) jdk_43_method_3_code 1 (some .boolean) :: ws) ({ frames := 0, cells := 0, slots := 0, locals := 0 } : Room)) (fun a U => a = #[(.int i1)] ∧ Z.Warmed39 U.vm ∧ U.heap = h0) (fun _ _ _ _ _ => True) (fun _ U o U' => ∃ v L, o = .returned v ∧ Q2_2 Z i1 h0 n0 v U'.heap L ∧ FrameEnd U o U' L ({ frames := 0, cells := 0, slots := 0, locals := 0 } : Room).cells ({ frames := 0, cells := 0, slots := 0, locals := 0 } : Room).slots) := by
  refine own_body (plainFor_of_name pn_2) ?_
  intro p e s m below meth c s₁ G hx hby hml hZ hown hnm hret X0 e0 step fin
  replace hown : s.vm.findClass "java/lang/StringLatin1" = some m.cls := hown
  replace hnm : meth.name = "canEncode" := hnm
  replace hret : meth.sig.returnType = some .boolean := hret
  replace hml : c.maxLocals = 1 := hml
  have N0 := Fr.nil n0
  refine step (s₁.setTop (mkF m 0 #[.val (.int i1)] [])) (fun t k => castTop (ef_2_2 m i1) k) ?_
  refine step (s₁.setTop (mkF m 1 #[.val (.int i1)] [(.int i1)])) (fun t k => XS.iloadN X0.here hx rfl (hb hby d2_0) rfl k) ?_
  refine step (s₁.setTop (mkF m 4 #[.val (.int i1)] [(.int (255 : Int32)), (.int i1)])) (fun t k => XS.sipush X0.here hx rfl (hb hby d2_1) k) ?_
  have hc4_1 : ¬ ((255 : Int32) < i1) := hy0
  refine step (s₁.setTop (mkF m 7 #[.val (.int i1)] [])) (fun t k => XS.icmpNo X0.here hx rfl (hb hby d2_4) rfl (flt hc4_1).2.2.1 k) ?_
  refine step (s₁.setTop (mkF m 8 #[.val (.int i1)] [(.int (1 : Int32))])) (fun t k => XS.iconst X0.here hx rfl (hb hby d2_7) k) ?_
  refine step (s₁.setTop (mkF m 12 #[.val (.int i1)] [(.int (1 : Int32))])) (fun t k => XS.goto X0.here hx rfl (pc0 := 8) (pc' := 12) rfl (hb hby d2_8) (by decide) (by decide) k) ?_
  refine fin (v := some (.int (nar .boolean (1 : Int32)))) X0 (fun h => by cases h) ?_ (by decide) (by decide) (fun fs hr => retN X0 hx (t := .boolean) hret (by simp) (hb hby d2_12) hr)
  show Q2_2 Z i1 h0 n0 (some (.int (nar .boolean (1 : Int32)))) s₁.heap _
  rw [e0]
  exact ⟨rfl, N0, rfl⟩
theorem d3_0 : decode jdk_43_method_46_code 0 = .ok (.iconst 1, 1) := by decide +kernel
theorem d3_1 : decode jdk_43_method_46_code 1 = .ok (.newarray .byte, 2) := by decide +kernel
theorem d3_3 : decode jdk_43_method_46_code 3 = .ok (.dup, 1) := by decide +kernel
theorem d3_4 : decode jdk_43_method_46_code 4 = .ok (.iconst 0, 1) := by decide +kernel
theorem d3_5 : decode jdk_43_method_46_code 5 = .ok (.iload_n 0, 1) := by decide +kernel
theorem d3_6 : decode jdk_43_method_46_code 6 = .ok (.i2b, 1) := by decide +kernel
theorem d3_7 : decode jdk_43_method_46_code 7 = .ok (.bastore, 1) := by decide +kernel
theorem d3_8 : decode jdk_43_method_46_code 8 = .ok (.areturn, 1) := by decide +kernel
theorem ef_3_3 (m : MethodId) (x0 : Int32) : entryFrame m #[(.int x0)] 1 = mkF m 0 #[.val (.int x0)] [] := by first | (simp [entryFrame, mkF, argsToLocals, Value.category]; done) | rfl
def Q3_3 (Z : State) (i1 : Int32) (h0 : Heap) (n0 : Nat) (v : Option Value) (h : Heap) (L : List Loc) : Prop := ∃ (b1 : Addr) (k1 : ClassId), v = some (.ref b1) ∧ Fr n0 L ∧ Keep h0 h [] ∧ h0.size ≤ b1 ∧ Arv Z h b1 k1 .byte (1 : Int32) [(.int (nar .byte (i1.toInt8.toInt32)))] (.int (0 : Int32))
set_option maxRecDepth 65536 in
set_option maxHeartbeats 40000000 in
theorem rm3_3 (l : Launch) (Z : State) (a0 : Array Value) (hw : ∀ d ∈ tables_1, d.before a0 Z = true) (ws : List Jvm.Cond) (i1 : Int32) (h0 : Heap) (n0 : Nat) (Z0 : n0 ≤ h0.size) (hy0 : ¬ ((255 : Int32) < i1))  :
    MetFree l (⟨"java/lang/StringLatin1", "toBytes", "(C)[B"⟩ : MethodName) (head1 (Jvm.Cond.code (⟨"java/lang/StringLatin1", "toBytes", "(C)[B"⟩ : MethodName) jdk_43_method_46_code 1 (some (.array .byte)) :: ws) ({ frames := 0, cells := 1, slots := 1, locals := 0 } : Room)) (fun a U => a = #[(.int i1)] ∧ Z.Warmed39 U.vm ∧ U.heap = h0) (fun _ _ _ _ _ => True) (fun _ U o U' => ∃ v L, o = .returned v ∧ Q3_3 Z i1 h0 n0 v U'.heap L ∧ FrameEnd U o U' L ({ frames := 0, cells := 1, slots := 1, locals := 0 } : Room).cells ({ frames := 0, cells := 1, slots := 1, locals := 0 } : Room).slots) := by
  refine own_body (plainFor_of_name pn_2) ?_
  intro p e s m below meth c s₁ G hx hby hml hZ hown hnm hret X0 e0 step fin
  replace hown : s.vm.findClass "java/lang/StringLatin1" = some m.cls := hown
  replace hnm : meth.name = "toBytes" := hnm
  replace hret : meth.sig.returnType = some (.array .byte) := hret
  replace hml : c.maxLocals = 1 := hml
  have N0 := Fr.nil n0
  refine step (s₁.setTop (mkF m 0 #[.val (.int i1)] [])) (fun t k => castTop (ef_3_3 m i1) k) ?_
  refine step (s₁.setTop (mkF m 1 #[.val (.int i1)] [(.int (1 : Int32))])) (fun t k => XS.iconst X0.here hx rfl (hb hby d3_0) k) ?_
  obtain ⟨T1, h1, k1, X1, e1, E1, A1, st1⟩ := newP X0 hx hZ (hw _ (List.mem_of_getElem? (i := 17) rfl)) e0 (g := (mkF m 1 #[.val (.int i1)] [(.int (1 : Int32))])) rfl (hb hby d3_1) rfl (by decide) (cap := 1) (by decide) (by decide) (by decide) (by decide)
  obtain ⟨b1, g1⟩ : ∃ z, z = h0.size := ⟨_, rfl⟩
  rw [← g1] at A1 st1
  have gn_b1 : n0 ≤ b1 := Nat.le_trans Z0 (Nat.le_of_eq g1.symm)
  have sz_b1 : h0.size ≤ b1 := Nat.le_of_eq g1.symm
  have K1 : Keep h0 h1 [] := (Keep.refl h0 []).ext E1
  have V1 : Arv Z h1 b1 k1 .byte (1 : Int32) [(.int (0 : Int32))] (.int (0 : Int32)) := (Arv.new A1 (by decide)).pad (pad_rep [] (.int (0 : Int32)) 1)
  refine step (T1.setTop (mkF m 3 #[.val (.int i1)] [(.ref b1)])) (fun t k => st1 t k) ?_
  refine step (T1.setTop (mkF m 4 #[.val (.int i1)] [(.ref b1), (.ref b1)])) (fun t k => XS.dup X1.here hx rfl (hb hby d3_3) rfl rfl k) ?_
  refine step (T1.setTop (mkF m 5 #[.val (.int i1)] [(.int (0 : Int32)), (.ref b1), (.ref b1)])) (fun t k => XS.iconst X1.here hx rfl (hb hby d3_4) k) ?_
  refine step (T1.setTop (mkF m 6 #[.val (.int i1)] [(.int i1), (.int (0 : Int32)), (.ref b1), (.ref b1)])) (fun t k => XS.iloadN X1.here hx rfl (hb hby d3_5) rfl k) ?_
  refine step (T1.setTop (mkF m 7 #[.val (.int i1)] [(.int (i1.toInt8.toInt32)), (.int (0 : Int32)), (.ref b1), (.ref b1)])) (fun t k => XS.i2b X1.here hx rfl (hb hby d3_6) rfl k) ?_
  obtain ⟨cl2, Ar2, q2, S2, N2n, H2, G2⟩ := id V1
  have hin2 : ¬ ((0 : Int32) < 0 ∨ cl2.slots.size ≤ ((0 : Int32)).toNatClampNeg) := inb_of S2 ⟨by decide, by decide⟩
  obtain ⟨T2, h2, X2, e2, W2, st2⟩ := stB X1 hx hZ e1 Ar2 (j := (0 : Int32)) hin2 (g := (mkF m 7 #[.val (.int i1)] [(.int (i1.toInt8.toInt32)), (.int (0 : Int32)), (.ref b1), (.ref b1)])) rfl rfl (hb hby d3_7)
  have N2 := Fr.snoc X2 N0 gn_b1
  have K2 : Keep h0 h2 [] := K1.wr W2 (Or.inr sz_b1)
  have V2 : Arv Z h2 b1 k1 .byte (1 : Int32) [(.int (nar .byte (i1.toInt8.toInt32)))] (.int (0 : Int32)) := Arv.set Ar2 q2 S2 N2n H2 G2 (fits_nar_byte (i1.toInt8.toInt32)) W2 0 rfl (Nat.le_of_ble_eq_true rfl)
  refine step (T2.setTop (mkF m 8 #[.val (.int i1)] [(.ref b1)])) (fun t k => st2 t k) ?_
  refine fin (v := some (.ref b1)) X2 (fun h => by cases h) ?_ (by decide) (by decide) (fun fs hr => X2.areturnOut hx rfl hret rfl (hb hby d3_8) hr)
  show Q3_3 Z i1 h0 n0 (some (.ref b1)) T2.heap _
  rw [e2]
  exact ⟨b1, k1, rfl, N2, K2, sz_b1, V2⟩
theorem d4_0 : decode jdk_42_method_151_code 0 = .ok (.aload_n 0, 1) := by decide +kernel
theorem d4_1 : decode jdk_42_method_151_code 1 = .ok (.invokespecial 1, 3) := by decide +kernel
theorem d4_4 : decode jdk_42_method_151_code 4 = .ok (.aload_n 0, 1) := by decide +kernel
theorem d4_5 : decode jdk_42_method_151_code 5 = .ok (.aload_n 1, 1) := by decide +kernel
theorem d4_6 : decode jdk_42_method_151_code 6 = .ok (.putfield 9, 3) := by decide +kernel
theorem d4_9 : decode jdk_42_method_151_code 9 = .ok (.aload_n 0, 1) := by decide +kernel
theorem d4_10 : decode jdk_42_method_151_code 10 = .ok (.iload_n 2, 1) := by decide +kernel
theorem d4_11 : decode jdk_42_method_151_code 11 = .ok (.putfield 15, 3) := by decide +kernel
theorem d4_14 : decode jdk_42_method_151_code 14 = .ok (.return_, 1) := by decide +kernel
theorem ef_4_4 (m : MethodId) (x0 : Addr) (x1 : Addr) : entryFrame m #[(.ref x0), (.ref x1), (.int (0 : Int32))] 3 = mkF m 0 #[.val (.ref x0), .val (.ref x1), .val (.int (0 : Int32))] [] := by first | (simp [entryFrame, mkF, argsToLocals, Value.category]; done) | rfl
def Q4_4 (Z : State) (o1 : Addr) (o2 : Addr) (o3 : Addr) (h0 : Heap) (n0 : Nat) (v : Option Value) (h : Heap) (L : List Loc) : Prop := v = none ∧ Fr n0 L ∧ Keep h0 h [o1] ∧ Fld Z h o1 "java/lang/String" "coder" "B" (.int (0 : Int32)) ∧ Fld Z h o1 "java/lang/String" "value" "[B" (.ref o2)
set_option maxRecDepth 65536 in
set_option maxHeartbeats 40000000 in
theorem rm4_4 (l : Launch) (Z : State) (a0 : Array Value) (hw : ∀ d ∈ tables_1, d.before a0 Z = true) (ws : List Jvm.Cond) (o1 : Addr) (o2 : Addr) (o3 : Addr) (h0 : Heap) (n0 : Nat) (Z0 : n0 ≤ h0.size) (S0 : Sta Z h0 "com/example/whisman/whisman/connector/HttpFields" "NONE" "[Ljava/lang/String;" (.ref o3)) (Pm1 : Exa Z h0 o1 "java/lang/String") (Pm2 : Fld Z h0 o1 "java/lang/String" "coder" "B" (.int (0 : Int32))) (Pm3 : Fld Z h0 o1 "java/lang/String" "value" "[B" .null) (gn_o1 : n0 ≤ o1) (ne_o1_o2 : o1 ≠ o2) (gn_o2 : n0 ≤ o2)  :
    MetFree l (⟨"java/lang/String", "<init>", "([BB)V"⟩ : MethodName) (head1 (Jvm.Cond.code (⟨"java/lang/String", "<init>", "([BB)V"⟩ : MethodName) jdk_42_method_151_code 3 none :: ws) ({ frames := 1, cells := 0, slots := 0, locals := 12 } : Room)) (fun a U => a = #[(.ref o1), (.ref o2), (.int (0 : Int32))] ∧ Z.Warmed39 U.vm ∧ U.heap = h0) (fun _ _ _ _ _ => True) (fun _ U o U' => ∃ v L, o = .returned v ∧ Q4_4 Z o1 o2 o3 h0 n0 v U'.heap L ∧ FrameEnd U o U' L ({ frames := 1, cells := 0, slots := 0, locals := 12 } : Room).cells ({ frames := 1, cells := 0, slots := 0, locals := 12 } : Room).slots) := by
  refine own_body (plainFor_of_name pn_1) ?_
  intro p e s m below meth c s₁ G hx hby hml hZ hown hnm hret X0 e0 step fin
  replace hown : s.vm.findClass "java/lang/String" = some m.cls := hown
  replace hnm : meth.name = "<init>" := hnm
  replace hret : meth.sig.returnType = none := hret
  replace hml : c.maxLocals = 3 := hml
  have N0 := Fr.nil n0
  refine step (s₁.setTop (mkF m 0 #[.val (.ref o1), .val (.ref o2), .val (.int (0 : Int32))] [])) (fun t k => castTop (ef_4_4 m o1 o2) k) ?_
  refine step (s₁.setTop (mkF m 1 #[.val (.ref o1), .val (.ref o2), .val (.int (0 : Int32))] [(.ref o1)])) (fun t k => XS.aloadN X0.here hx rfl (hb hby d4_0) rfl rfl k) ?_
  obtain ⟨T1, X1, e1, st1⟩ := initO X0 hx hZ hown (hw _ (List.mem_of_getElem? (i := 22) rfl)) (hw _ (List.mem_of_getElem? (i := 23) rfl)) (hw _ (List.mem_of_getElem? (i := 24) rfl)) e0 (g := (mkF m 1 #[.val (.ref o1), .val (.ref o2), .val (.int (0 : Int32))] [(.ref o1)])) rfl (by rw [hml]; rfl) rfl (hb hby d4_1) (by decide) (W := 0) (by show 2 * 0 + _ ≤ _; exact Nat.le_of_eq rfl) (by decide)
  refine step (T1.setTop (mkF m 4 #[.val (.ref o1), .val (.ref o2), .val (.int (0 : Int32))] [])) (fun t k => st1 t k) ?_
  refine step (T1.setTop (mkF m 5 #[.val (.ref o1), .val (.ref o2), .val (.int (0 : Int32))] [(.ref o1)])) (fun t k => XS.aloadN X1.here hx rfl (hb hby d4_4) rfl rfl k) ?_
  refine step (T1.setTop (mkF m 6 #[.val (.ref o1), .val (.ref o2), .val (.int (0 : Int32))] [(.ref o2), (.ref o1)])) (fun t k => XS.aloadN X1.here hx rfl (hb hby d4_5) rfl rfl k) ?_
  obtain ⟨T2, h2, X2, e2, W2, st2⟩ := putF X1 hx hZ hown (host := "") (Or.inl (hw _ (List.mem_of_getElem? (i := 25) rfl))) Via.refl e1 Pm3 Pm1 (Or.inr ⟨(hw _ (List.mem_of_getElem? (i := 26) rfl)), rfl, hnm⟩) (hw _ (List.mem_of_getElem? (i := 13) rfl)) (ty := (.array .byte)) (by decide) rfl rfl (g := (mkF m 6 #[.val (.ref o1), .val (.ref o2), .val (.int (0 : Int32))] [(.ref o2), (.ref o1)])) rfl rfl (hb hby d4_6)
  have N2 := Fr.snoc X2 N0 gn_o1
  have K2 : Keep h0 h2 [o1] := (Keep.refl h0 [o1]).wr W2 (Or.inl (List.mem_of_getElem? (i := 0) rfl))
  have F2 := Pm3.same W2
  refine step (T2.setTop (mkF m 9 #[.val (.ref o1), .val (.ref o2), .val (.int (0 : Int32))] [])) (fun t k => st2 t k) ?_
  refine step (T2.setTop (mkF m 10 #[.val (.ref o1), .val (.ref o2), .val (.int (0 : Int32))] [(.ref o1)])) (fun t k => XS.aloadN X2.here hx rfl (hb hby d4_9) rfl rfl k) ?_
  refine step (T2.setTop (mkF m 11 #[.val (.ref o1), .val (.ref o2), .val (.int (0 : Int32))] [(.int (0 : Int32)), (.ref o1)])) (fun t k => XS.iloadN X2.here hx rfl (hb hby d4_10) rfl k) ?_
  have f3 := (Pm1.wr W2)
  have f4 := (Pm2.other W2 (Or.inr (slot_ne (Or.inr (hw _ (List.mem_of_getElem? (i := 28) rfl))) (Or.inr (hw _ (List.mem_of_getElem? (i := 26) rfl))) (by decide) (t := .byte) (t' := (.array .byte)) (by decide) (by decide))))
  obtain ⟨T5, h5, X5, e5, W5, st5⟩ := putFN X2 hx hZ hown (hw _ (List.mem_of_getElem? (i := 27) rfl)) Via.refl e2 f4 f3 (Or.inr ⟨(hw _ (List.mem_of_getElem? (i := 28) rfl)), rfl, hnm⟩) (hw _ (List.mem_of_getElem? (i := 13) rfl)) (ty := .byte) (v' := (.int (0 : Int32))) (by decide) rfl (fits_nar_byte (0 : Int32)) (g := (mkF m 11 #[.val (.ref o1), .val (.ref o2), .val (.int (0 : Int32))] [(.int (0 : Int32)), (.ref o1)])) rfl rfl (hb hby d4_11)
  have N5 := Fr.snoc X5 N2 gn_o1
  have K5 : Keep h0 h5 [o1] := K2.wr W5 (Or.inl (List.mem_of_getElem? (i := 0) rfl))
  have F5 := f4.same W5
  refine step (T5.setTop (mkF m 14 #[.val (.ref o1), .val (.ref o2), .val (.int (0 : Int32))] [])) (fun t k => st5 t k) ?_
  have f6 := (F2.other W5 (Or.inr (slot_ne (Or.inr (hw _ (List.mem_of_getElem? (i := 26) rfl))) (Or.inr (hw _ (List.mem_of_getElem? (i := 28) rfl))) (by decide) (t := (.array .byte)) (t' := .byte) (by decide) (by decide))))
  refine fin (v := none) X5 (fun _ => rfl) ?_ (by decide) (by decide) (fun fs hr => X5.returnOut hx hret (hb hby d4_14) hr)
  show Q4_4 Z o1 o2 o3 h0 n0 (none) T5.heap _
  rw [e5]
  exact ⟨rfl, N5, K5, F5, f6⟩
theorem ef_1_1 (m : MethodId) (x0 : Int32) : entryFrame m #[(.int x0)] 1 = mkF m 0 #[.val (.int x0)] [] := by first | (simp [entryFrame, mkF, argsToLocals, Value.category]; done) | rfl
def Q1_1 (Z : State) (i1 : Int32) (i2 : Int32) (o1 : Addr) (h0 : Heap) (n0 : Nat) (v : Option Value) (h : Heap) (L : List Loc) : Prop := ∃ (b4 : Addr) (b1_5 : Addr) (k1_5 : ClassId), v = some (.ref b4) ∧ Fr n0 L ∧ Keep h0 h [] ∧ h0.size ≤ b4 ∧ h0.size ≤ b1_5 ∧ b1_5 ≠ b4 ∧ Exa Z h b4 "java/lang/String" ∧ Fld Z h b4 "java/lang/String" "coder" "B" (.int (0 : Int32)) ∧ Fld Z h b4 "java/lang/String" "value" "[B" (.ref b1_5) ∧ Arv Z h b1_5 k1_5 .byte (1 : Int32) [(.int (nar .byte (i1.toInt8.toInt32)))] (.int (0 : Int32))
set_option maxRecDepth 65536 in
set_option maxHeartbeats 40000000 in
theorem rm1_1 (l : Launch) (Z : State) (a0 : Array Value) (hw : ∀ d ∈ tables_1, d.before a0 Z = true) (ws : List Jvm.Cond) (i1 : Int32) (i2 : Int32) (o1 : Addr) (h0 : Heap) (n0 : Nat) (Z0 : n0 ≤ h0.size) (S0 : Sta Z h0 "java/lang/String" "COMPACT_STRINGS" "Z" (.int i2)) (S1 : Sta Z h0 "com/example/whisman/whisman/connector/HttpFields" "NONE" "[Ljava/lang/String;" (.ref o1)) (hy2 : ¬ ((255 : Int32) < i1)) (hy3 : ¬ (i2 = (0 : Int32)))  :
    MetFree l (⟨"java/lang/String", "valueOf", "(C)Ljava/lang/String;"⟩ : MethodName) (head1 (Jvm.Cond.code (⟨"java/lang/String", "valueOf", "(C)Ljava/lang/String;"⟩ : MethodName) jdk_42_method_139_code 1 (some (.object "java/lang/String")) :: ws) ({ frames := 2, cells := 2, slots := 5, locals := 27 } : Room)) (fun a U => a = #[(.int i1)] ∧ Z.Warmed39 U.vm ∧ U.heap = h0) (fun _ _ _ _ _ => True) (fun _ U o U' => ∃ v L, o = .returned v ∧ Q1_1 Z i1 i2 o1 h0 n0 v U'.heap L ∧ FrameEnd U o U' L ({ frames := 2, cells := 2, slots := 5, locals := 27 } : Room).cells ({ frames := 2, cells := 2, slots := 5, locals := 27 } : Room).slots) := by
  refine own_body (plainFor_of_name pn_1) ?_
  intro p e s m below meth c s₁ G hx hby hml hZ hown hnm hret X0 e0 step fin
  replace hown : s.vm.findClass "java/lang/String" = some m.cls := hown
  replace hnm : meth.name = "valueOf" := hnm
  replace hret : meth.sig.returnType = some (.object "java/lang/String") := hret
  replace hml : c.maxLocals = 1 := hml
  have N0 := Fr.nil n0
  refine step (s₁.setTop (mkF m 0 #[.val (.int i1)] [])) (fun t k => castTop (ef_1_1 m i1) k) ?_
  obtain ⟨T1, X1, e1, st1⟩ := getS2 X0 hx hZ hown (host := "") (Or.inl (hw _ (List.mem_of_getElem? (i := 7) rfl))) Via.refl e0 S0 (g := (mkF m 0 #[.val (.int i1)] [])) rfl (hb hby d1_0)
  refine step (T1.setTop (mkF m 3 #[.val (.int i1)] [(.int i2)])) (fun t k => st1 t k) ?_
  have hc3_2 : ¬ (i2 = (0 : Int32)) := hy3
  refine step (T1.setTop (mkF m 6 #[.val (.int i1)] [])) (fun t k => XS.ifNo X1.here hx rfl (hb hby d1_3) rfl ((if0 _ _).trans (feq hc3_2).1) k) ?_
  refine step (T1.setTop (mkF m 7 #[.val (.int i1)] [(.int i1)])) (fun t k => XS.iloadN X1.here hx rfl (hb hby d1_6) rfl k) ?_
  obtain ⟨_, _, ⟨T3, L3, k3, n3⟩, -, X3, ⟨Lc3, hQ3, l3, y3, z3⟩, st3⟩ := Jvm.LawKit.callS X1 hx (y := (⟨"java/lang/StringLatin1", "canEncode", "(C)Z"⟩ : MethodName)) hown (mvT hZ (hw _ (List.mem_of_getElem? (i := 8) rfl))) (mvT hZ (hw _ (List.mem_of_getElem? (i := 9) rfl))) (mvT hZ (hw _ (List.mem_of_getElem? (i := 10) rfl))) (mvT hZ (hw _ (List.mem_of_getElem? (i := 11) rfl))) (by decide) (backOf (W := 0) (rm2_2 l Z a0 hw [] i1 h0 n0 Z0 hy2) hZ (hw _ (List.mem_of_getElem? (i := 11) rfl)) (hw _ (List.mem_of_getElem? (i := 10) rfl)) (by decide) (by decide)) (g := (mkF m 7 #[.val (.int i1)] [(.int i1)])) rfl (by rw [hml]; rfl) (argsL := [(.int i1)]) (rest := []) (lenOf pd_4 rfl) rfl (by show 2 * 0 + _ ≤ _; exact Nat.le_of_eq rfl) (hb hby d1_7) (fun _ _ => ⟨rfl, e1, (by decide : 0 + 0 ≤ _), (by decide : 0 + 0 ≤ _)⟩)
  dsimp only [Pt.U, Pt.locs, Pt.cells, Pt.slots] at X3 l3 y3 z3 st3 hQ3
  subst l3 y3 z3
  obtain ⟨rfl, N3q, e3q⟩ := hQ3
  have N3 := Fr.app N0 N3q
  refine step (T3.setTop (mkF m 10 #[.val (.int i1)] [(.int (1 : Int32))])) (fun t k => st3 t k) ?_
  refine step (T3.setTop (mkF m 13 #[.val (.int i1)] [])) (fun t k => XS.ifNo X3.here hx rfl (hb hby d1_10) rfl ((if0 _ _).trans (feq (by decide : ¬ ((1 : Int32) = (0 : Int32)))).1) k) ?_
  obtain ⟨T4, h4, X4, e4, E4, A4, D4, -, st4⟩ := newO X3 hx hZ hown (hw _ (List.mem_of_getElem? (i := 12) rfl)) (hw _ (List.mem_of_getElem? (i := 13) rfl)) (hw _ (List.mem_of_getElem? (i := 5) rfl)) e3q (g := (mkF m 13 #[.val (.int i1)] [])) rfl (hb hby d1_13) (by decide) (by decide)
  obtain ⟨b4, g4⟩ : ∃ z, z = h0.size := ⟨_, rfl⟩
  rw [← g4] at A4 D4 st4
  have gn_b4 : n0 ≤ b4 := Nat.le_trans Z0 (Nat.le_of_eq g4.symm)
  have sz_b4 : h0.size ≤ b4 := Nat.le_of_eq g4.symm
  have K4 : Keep h0 h4 [] := (Keep.refl h0 []).ext E4
  have F_value_b4 : Fld Z h4 b4 "java/lang/String" "value" "[B" .null := D4 (Or.inr (hw _ (List.mem_of_getElem? (i := 26) rfl))) (ty := (.array .byte)) (by decide)
  have F_coder_b4 : Fld Z h4 b4 "java/lang/String" "coder" "B" (.int (0 : Int32)) := D4 (Or.inr (hw _ (List.mem_of_getElem? (i := 28) rfl))) (ty := .byte) (by decide)
  refine step (T4.setTop (mkF m 16 #[.val (.int i1)] [(.ref b4)])) (fun t k => st4 t k) ?_
  refine step (T4.setTop (mkF m 17 #[.val (.int i1)] [(.ref b4), (.ref b4)])) (fun t k => XS.dup X4.here hx rfl (hb hby d1_16) rfl rfl k) ?_
  refine step (T4.setTop (mkF m 18 #[.val (.int i1)] [(.int i1), (.ref b4), (.ref b4)])) (fun t k => XS.iloadN X4.here hx rfl (hb hby d1_17) rfl k) ?_
  obtain ⟨_, _, ⟨T5, L5, k5, n5⟩, -, X5, ⟨Lc5, hQ5, l5, y5, z5⟩, st5⟩ := Jvm.LawKit.callS X4 hx (y := (⟨"java/lang/StringLatin1", "toBytes", "(C)[B"⟩ : MethodName)) hown (mvT hZ (hw _ (List.mem_of_getElem? (i := 14) rfl))) (mvT hZ (hw _ (List.mem_of_getElem? (i := 15) rfl))) (mvT hZ (hw _ (List.mem_of_getElem? (i := 10) rfl))) (mvT hZ (hw _ (List.mem_of_getElem? (i := 16) rfl))) (by decide) (backOf (W := 2) (rm3_3 l Z a0 hw [] i1 h4 n0 (Nat.le_trans Z0 K4.1) hy2) hZ (hw _ (List.mem_of_getElem? (i := 16) rfl)) (hw _ (List.mem_of_getElem? (i := 10) rfl)) (by decide) (by decide)) (g := (mkF m 18 #[.val (.int i1)] [(.int i1), (.ref b4), (.ref b4)])) rfl (by rw [hml]; rfl) (argsL := [(.int i1)]) (rest := [(.ref b4), (.ref b4)]) (lenOf pd_5 rfl) rfl (by show 2 * 0 + _ ≤ _; exact Nat.le_of_eq rfl) (hb hby d1_18) (fun _ _ => ⟨rfl, e4, (by decide : 1 + 1 ≤ _), (by decide : 4 + 1 ≤ _)⟩)
  dsimp only [Pt.U, Pt.locs, Pt.cells, Pt.slots] at X5 l5 y5 z5 st5 hQ5
  subst l5 y5 z5
  obtain ⟨h5, e5⟩ : ∃ z, T5.heap = z := ⟨_, rfl⟩
  rw [e5] at hQ5
  obtain ⟨b1_5, k1_5, rfl, N5q, K5q, sz_b1_5, q0_5⟩ := hQ5
  have N5 := Fr.app N3 N5q
  have lt5_b4 := A4.lt
  have ne_b4_b1_5 : b4 ≠ b1_5 := Nat.ne_of_lt (Nat.lt_of_lt_of_le lt5_b4 sz_b1_5)
  have gn_b1_5 : n0 ≤ b1_5 := Nat.le_trans (Nat.le_trans Z0 K4.1) sz_b1_5
  have sz_b1_5' := Nat.le_trans K4.1 sz_b1_5
  replace sz_b1_5 := sz_b1_5'
  have f6 := (S0.ext E4)
  have f7 := (S1.ext E4)
  have K5 : Keep h0 h5 [] := K4.trans K5q all0
  have f8 := own_staK f6 K5q all0
  have f9 := own_staK f7 K5q all0
  refine step (T5.setTop (mkF m 21 #[.val (.int i1)] [(.ref b1_5), (.ref b4), (.ref b4)])) (fun t k => st5 t k) ?_
  refine step (T5.setTop (mkF m 22 #[.val (.int i1)] [(.int (0 : Int32)), (.ref b1_5), (.ref b4), (.ref b4)])) (fun t k => XS.iconst X5.here hx rfl (hb hby d1_21) k) ?_
  have f10 := (A4.keep K5q)
  have f11 := (F_coder_b4.keep K5q nin0)
  have f12 := (F_value_b4.keep K5q nin0)
  obtain ⟨_, _, ⟨T13, L13, k13, n13⟩, -, X13, ⟨Lc13, hQ13, l13, y13, z13⟩, st13⟩ := X5.specialBack hx (y := (⟨"java/lang/String", "<init>", "([BB)V"⟩ : MethodName)) rfl hown (mvT hZ (hw _ (List.mem_of_getElem? (i := 18) rfl))) (mvT hZ (hw _ (List.mem_of_getElem? (i := 19) rfl))) (mvT hZ (hw _ (List.mem_of_getElem? (i := 21) rfl))) (by decide) (backOf (W := 1) (rm4_4 l Z a0 hw [] b4 b1_5 o1 h5 n0 (Nat.le_trans Z0 K5.1) f9 f10 f11 f12 gn_b4 ne_b4_b1_5 gn_b1_5) hZ (hw _ (List.mem_of_getElem? (i := 21) rfl)) (hw _ (List.mem_of_getElem? (i := 5) rfl)) (by decide) (by decide)) (g := (mkF m 22 #[.val (.int i1)] [(.int (0 : Int32)), (.ref b1_5), (.ref b4), (.ref b4)])) rfl (by rw [hml]; rfl) (Steps.refl _) (a := b4) (argsL := [(.ref b1_5), (.int (0 : Int32))]) (rest := [(.ref b4)]) (lenOf pd_6 rfl) rfl (by show 2 * 0 + _ ≤ _; exact Nat.le_of_eq rfl) (hb hby d1_22) (fun _ _ => ⟨rfl, e5, (by decide : 2 + 0 ≤ _), (by decide : 5 + 0 ≤ _)⟩)
  dsimp only [Pt.U, Pt.locs, Pt.cells, Pt.slots] at X13 l13 y13 z13 st13 hQ13
  subst l13 y13 z13
  obtain ⟨h13, e13⟩ : ∃ z, T13.heap = z := ⟨_, rfl⟩
  rw [e13] at hQ13
  obtain ⟨rfl, N13q, K13q, q0_13, q1_13⟩ := hQ13
  have N13 := Fr.app N5 N13q
  have K13 : Keep h0 h13 [] := K5.trans K13q (allS (Or.inr sz_b4) all0)
  have f14 := own_staK f8 K13q (allS (own_exaP f10) all0)
  have f15 := own_staK f9 K13q (allS (own_exaP f10) all0)
  refine step (T13.setTop (mkF m 25 #[.val (.int i1)] [(.ref b4)])) (fun t k => st13.trans k) ?_
  have f16 := (f10.keep K13q)
  have f17 := (q0_5.keep K13q (ninS (Ne.symm ne_b4_b1_5) nin0))
  refine fin (v := some (.ref b4)) X13 (fun h => by cases h) ?_ (by decide) (by decide) (fun fs hr => X13.areturnOut hx rfl hret rfl (hb hby d1_25) hr)
  show Q1_1 Z i1 i2 o1 h0 n0 (some (.ref b4)) T13.heap _
  rw [e13]
  exact ⟨b4, b1_5, k1_5, rfl, N13, K13, sz_b4, sz_b1_5, (Ne.symm ne_b4_b1_5), f16, q0_13, q1_13, f17⟩
theorem d6_0 : decode prog_9_method_1_code 0 = .ok (.aload_n 0, 1) := by decide +kernel
theorem d6_1 : decode prog_9_method_1_code 1 = .ok (.invokespecial 1, 3) := by decide +kernel
theorem d6_4 : decode prog_9_method_1_code 4 = .ok (.aload_n 0, 1) := by decide +kernel
theorem d6_5 : decode prog_9_method_1_code 5 = .ok (.getstatic 7, 3) := by decide +kernel
theorem d6_8 : decode prog_9_method_1_code 8 = .ok (.putfield 13, 3) := by decide +kernel
theorem d6_11 : decode prog_9_method_1_code 11 = .ok (.return_, 1) := by decide +kernel
theorem pn_3 : plainName "com/example/whisman/whisman/connector/HttpFields" = true := by first | (simp [plainName, overriddenIn]; done) | decide +kernel
theorem ef_6_5 (m : MethodId) (x0 : Addr) : entryFrame m #[(.ref x0)] 1 = mkF m 0 #[.val (.ref x0)] [] := by first | (simp [entryFrame, mkF, argsToLocals, Value.category]; done) | rfl
def Q6_5 (Z : State) (o1 : Addr) (o2 : Addr) (h0 : Heap) (n0 : Nat) (v : Option Value) (h : Heap) (L : List Loc) : Prop := v = none ∧ Fr n0 L ∧ Keep h0 h [o1] ∧ Fld Z h o1 "com/example/whisman/whisman/connector/HttpFields" "entries" "[Ljava/lang/String;" (.ref o2)
set_option maxRecDepth 65536 in
set_option maxHeartbeats 40000000 in
theorem rm6_5 (l : Launch) (Z : State) (a0 : Array Value) (hw : ∀ d ∈ tables_1, d.before a0 Z = true) (ws : List Jvm.Cond) (o1 : Addr) (o2 : Addr) (h0 : Heap) (n0 : Nat) (Z0 : n0 ≤ h0.size) (S0 : Sta Z h0 "com/example/whisman/whisman/connector/HttpFields" "NONE" "[Ljava/lang/String;" (.ref o2)) (Pm1 : Exa Z h0 o1 "com/example/whisman/whisman/connector/HttpFields") (Pm2 : Fld Z h0 o1 "com/example/whisman/whisman/connector/HttpFields" "entries" "[Ljava/lang/String;" .null) (gn_o1 : n0 ≤ o1)  :
    MetFree l (⟨"com/example/whisman/whisman/connector/HttpFields", "<init>", "()V"⟩ : MethodName) (head1 (Jvm.Cond.code (⟨"com/example/whisman/whisman/connector/HttpFields", "<init>", "()V"⟩ : MethodName) prog_9_method_1_code 1 none :: ws) ({ frames := 1, cells := 0, slots := 0, locals := 12 } : Room)) (fun a U => a = #[(.ref o1)] ∧ Z.Warmed39 U.vm ∧ U.heap = h0) (fun _ _ _ _ _ => True) (fun _ U o U' => ∃ v L, o = .returned v ∧ Q6_5 Z o1 o2 h0 n0 v U'.heap L ∧ FrameEnd U o U' L ({ frames := 1, cells := 0, slots := 0, locals := 12 } : Room).cells ({ frames := 1, cells := 0, slots := 0, locals := 12 } : Room).slots) := by
  refine own_body (plainFor_of_name pn_3) ?_
  intro p e s m below meth c s₁ G hx hby hml hZ hown hnm hret X0 e0 step fin
  replace hown : s.vm.findClass "com/example/whisman/whisman/connector/HttpFields" = some m.cls := hown
  replace hnm : meth.name = "<init>" := hnm
  replace hret : meth.sig.returnType = none := hret
  replace hml : c.maxLocals = 1 := hml
  have N0 := Fr.nil n0
  refine step (s₁.setTop (mkF m 0 #[.val (.ref o1)] [])) (fun t k => castTop (ef_6_5 m o1) k) ?_
  refine step (s₁.setTop (mkF m 1 #[.val (.ref o1)] [(.ref o1)])) (fun t k => XS.aloadN X0.here hx rfl (hb hby d6_0) rfl rfl k) ?_
  obtain ⟨T1, X1, e1, st1⟩ := initO X0 hx hZ hown (hw _ (List.mem_of_getElem? (i := 35) rfl)) (hw _ (List.mem_of_getElem? (i := 23) rfl)) (hw _ (List.mem_of_getElem? (i := 24) rfl)) e0 (g := (mkF m 1 #[.val (.ref o1)] [(.ref o1)])) rfl (by rw [hml]; rfl) rfl (hb hby d6_1) (by decide) (W := 0) (by show 2 * 0 + _ ≤ _; exact Nat.le_of_eq rfl) (by decide)
  refine step (T1.setTop (mkF m 4 #[.val (.ref o1)] [])) (fun t k => st1 t k) ?_
  refine step (T1.setTop (mkF m 5 #[.val (.ref o1)] [(.ref o1)])) (fun t k => XS.aloadN X1.here hx rfl (hb hby d6_4) rfl rfl k) ?_
  obtain ⟨T2, X2, e2, st2⟩ := getS2 X1 hx hZ hown (host := "") (Or.inl (hw _ (List.mem_of_getElem? (i := 36) rfl))) Via.refl e1 S0 (g := (mkF m 5 #[.val (.ref o1)] [(.ref o1)])) rfl (hb hby d6_5)
  refine step (T2.setTop (mkF m 8 #[.val (.ref o1)] [(.ref o2), (.ref o1)])) (fun t k => st2 t k) ?_
  obtain ⟨T3, h3, X3, e3, W3, st3⟩ := putF X2 hx hZ hown (host := "") (Or.inl (hw _ (List.mem_of_getElem? (i := 38) rfl))) Via.refl e2 Pm2 Pm1 (Or.inl (hw _ (List.mem_of_getElem? (i := 39) rfl))) (hw _ (List.mem_of_getElem? (i := 30) rfl)) (ty := (.array (.object "java/lang/String"))) (by decide) rfl rfl (g := (mkF m 8 #[.val (.ref o1)] [(.ref o2), (.ref o1)])) rfl rfl (hb hby d6_8)
  have N3 := Fr.snoc X3 N0 gn_o1
  have K3 : Keep h0 h3 [o1] := (Keep.refl h0 [o1]).wr W3 (Or.inl (List.mem_of_getElem? (i := 0) rfl))
  have F3 := Pm2.same W3
  refine step (T3.setTop (mkF m 11 #[.val (.ref o1)] [])) (fun t k => st3 t k) ?_
  refine fin (v := none) X3 (fun _ => rfl) ?_ (by decide) (by decide) (fun fs hr => X3.returnOut hx hret (hb hby d6_11) hr)
  show Q6_5 Z o1 o2 h0 n0 (none) T3.heap _
  rw [e3]
  exact ⟨rfl, N3, K3, F3⟩
theorem d7_0 : decode prog_16_method_1_code 0 = .ok (.aload_n 0, 1) := by decide +kernel
theorem d7_1 : decode prog_16_method_1_code 1 = .ok (.invokespecial 1, 3) := by decide +kernel
theorem d7_4 : decode prog_16_method_1_code 4 = .ok (.aload_n 0, 1) := by decide +kernel
theorem d7_5 : decode prog_16_method_1_code 5 = .ok (.aload_n 1, 1) := by decide +kernel
theorem d7_6 : decode prog_16_method_1_code 6 = .ok (.putfield 7, 3) := by decide +kernel
theorem d7_9 : decode prog_16_method_1_code 9 = .ok (.aload_n 0, 1) := by decide +kernel
theorem d7_10 : decode prog_16_method_1_code 10 = .ok (.aload_n 2, 1) := by decide +kernel
theorem d7_11 : decode prog_16_method_1_code 11 = .ok (.putfield 13, 3) := by decide +kernel
theorem d7_14 : decode prog_16_method_1_code 14 = .ok (.aload_n 0, 1) := by decide +kernel
theorem d7_15 : decode prog_16_method_1_code 15 = .ok (.aload_n 3, 1) := by decide +kernel
theorem d7_16 : decode prog_16_method_1_code 16 = .ok (.putfield 16, 3) := by decide +kernel
theorem d7_19 : decode prog_16_method_1_code 19 = .ok (.aload_n 0, 1) := by decide +kernel
theorem d7_20 : decode prog_16_method_1_code 20 = .ok (.aload 4, 2) := by decide +kernel
theorem d7_22 : decode prog_16_method_1_code 22 = .ok (.putfield 19, 3) := by decide +kernel
theorem d7_25 : decode prog_16_method_1_code 25 = .ok (.aload_n 0, 1) := by decide +kernel
theorem d7_26 : decode prog_16_method_1_code 26 = .ok (.aload 5, 2) := by decide +kernel
theorem d7_28 : decode prog_16_method_1_code 28 = .ok (.putfield 23, 3) := by decide +kernel
theorem d7_31 : decode prog_16_method_1_code 31 = .ok (.aload_n 0, 1) := by decide +kernel
theorem d7_32 : decode prog_16_method_1_code 32 = .ok (.aload 6, 2) := by decide +kernel
theorem d7_34 : decode prog_16_method_1_code 34 = .ok (.putfield 27, 3) := by decide +kernel
theorem d7_37 : decode prog_16_method_1_code 37 = .ok (.aload_n 0, 1) := by decide +kernel
theorem d7_38 : decode prog_16_method_1_code 38 = .ok (.aload 7, 2) := by decide +kernel
theorem d7_40 : decode prog_16_method_1_code 40 = .ok (.putfield 30, 3) := by decide +kernel
theorem d7_43 : decode prog_16_method_1_code 43 = .ok (.aload_n 0, 1) := by decide +kernel
theorem d7_44 : decode prog_16_method_1_code 44 = .ok (.aload 8, 2) := by decide +kernel
theorem d7_46 : decode prog_16_method_1_code 46 = .ok (.putfield 33, 3) := by decide +kernel
theorem d7_49 : decode prog_16_method_1_code 49 = .ok (.aload_n 0, 1) := by decide +kernel
theorem d7_50 : decode prog_16_method_1_code 50 = .ok (.lload 9, 2) := by decide +kernel
theorem d7_52 : decode prog_16_method_1_code 52 = .ok (.putfield 36, 3) := by decide +kernel
theorem d7_55 : decode prog_16_method_1_code 55 = .ok (.aload_n 0, 1) := by decide +kernel
theorem d7_56 : decode prog_16_method_1_code 56 = .ok (.iload 11, 2) := by decide +kernel
theorem d7_58 : decode prog_16_method_1_code 58 = .ok (.putfield 40, 3) := by decide +kernel
theorem d7_61 : decode prog_16_method_1_code 61 = .ok (.aload_n 0, 1) := by decide +kernel
theorem d7_62 : decode prog_16_method_1_code 62 = .ok (.iload 12, 2) := by decide +kernel
theorem d7_64 : decode prog_16_method_1_code 64 = .ok (.putfield 44, 3) := by decide +kernel
theorem d7_67 : decode prog_16_method_1_code 67 = .ok (.aload_n 0, 1) := by decide +kernel
theorem d7_68 : decode prog_16_method_1_code 68 = .ok (.iload 13, 2) := by decide +kernel
theorem d7_70 : decode prog_16_method_1_code 70 = .ok (.putfield 47, 3) := by decide +kernel
theorem d7_73 : decode prog_16_method_1_code 73 = .ok (.return_, 1) := by decide +kernel
theorem pn_4 : plainName "com/example/whisman/whisman/connector/RequestHead" = true := by first | (simp [plainName, overriddenIn]; done) | decide +kernel
theorem d8_0 : decode jdk_30_method_1_code 0 = .ok (.aload_n 0, 1) := by decide +kernel
theorem d8_1 : decode jdk_30_method_1_code 1 = .ok (.invokespecial 1, 3) := by decide +kernel
theorem d8_4 : decode jdk_30_method_1_code 4 = .ok (.return_, 1) := by decide +kernel
theorem pn_5 : plainName "java/lang/Record" = true := by first | (simp [plainName, overriddenIn]; done) | decide +kernel
theorem ef_8_7 (m : MethodId) (x0 : Addr) : entryFrame m #[(.ref x0)] 1 = mkF m 0 #[.val (.ref x0)] [] := by first | (simp [entryFrame, mkF, argsToLocals, Value.category]; done) | rfl
def Q8_7 (Z : State) (o1 : Addr) (o2 : Addr) (h0 : Heap) (n0 : Nat) (v : Option Value) (h : Heap) (L : List Loc) : Prop := v = none ∧ Fr n0 L ∧ h = h0
set_option maxRecDepth 65536 in
set_option maxHeartbeats 40000000 in
theorem rm8_7 (l : Launch) (Z : State) (a0 : Array Value) (hw : ∀ d ∈ tables_1, d.before a0 Z = true) (ws : List Jvm.Cond) (o1 : Addr) (o2 : Addr) (h0 : Heap) (n0 : Nat) (Z0 : n0 ≤ h0.size) (S0 : Sta Z h0 "com/example/whisman/whisman/connector/HttpFields" "NONE" "[Ljava/lang/String;" (.ref o2)) (Pm1 : Exa Z h0 o1 "com/example/whisman/whisman/connector/RequestHead") (gn_o1 : n0 ≤ o1)  :
    MetFree l (⟨"java/lang/Record", "<init>", "()V"⟩ : MethodName) (head1 (Jvm.Cond.code (⟨"java/lang/Record", "<init>", "()V"⟩ : MethodName) jdk_30_method_1_code 1 none :: ws) ({ frames := 1, cells := 0, slots := 0, locals := 12 } : Room)) (fun a U => a = #[(.ref o1)] ∧ Z.Warmed39 U.vm ∧ U.heap = h0) (fun _ _ _ _ _ => True) (fun _ U o U' => ∃ v L, o = .returned v ∧ Q8_7 Z o1 o2 h0 n0 v U'.heap L ∧ FrameEnd U o U' L ({ frames := 1, cells := 0, slots := 0, locals := 12 } : Room).cells ({ frames := 1, cells := 0, slots := 0, locals := 12 } : Room).slots) := by
  refine own_body (plainFor_of_name pn_5) ?_
  intro p e s m below meth c s₁ G hx hby hml hZ hown hnm hret X0 e0 step fin
  replace hown : s.vm.findClass "java/lang/Record" = some m.cls := hown
  replace hnm : meth.name = "<init>" := hnm
  replace hret : meth.sig.returnType = none := hret
  replace hml : c.maxLocals = 1 := hml
  have N0 := Fr.nil n0
  refine step (s₁.setTop (mkF m 0 #[.val (.ref o1)] [])) (fun t k => castTop (ef_8_7 m o1) k) ?_
  refine step (s₁.setTop (mkF m 1 #[.val (.ref o1)] [(.ref o1)])) (fun t k => XS.aloadN X0.here hx rfl (hb hby d8_0) rfl rfl k) ?_
  obtain ⟨T1, X1, e1, st1⟩ := initO X0 hx hZ hown (hw _ (List.mem_of_getElem? (i := 51) rfl)) (hw _ (List.mem_of_getElem? (i := 23) rfl)) (hw _ (List.mem_of_getElem? (i := 24) rfl)) e0 (g := (mkF m 1 #[.val (.ref o1)] [(.ref o1)])) rfl (by rw [hml]; rfl) rfl (hb hby d8_1) (by decide) (W := 0) (by show 2 * 0 + _ ≤ _; exact Nat.le_of_eq rfl) (by decide)
  refine step (T1.setTop (mkF m 4 #[.val (.ref o1)] [])) (fun t k => st1 t k) ?_
  refine fin (v := none) X1 (fun _ => rfl) ?_ (by decide) (by decide) (fun fs hr => X1.returnOut hx hret (hb hby d8_4) hr)
  show Q8_7 Z o1 o2 h0 n0 (none) T1.heap _
  rw [e1]
  exact ⟨rfl, N0, rfl⟩
theorem ef_7_6 (m : MethodId) (x0 : Addr) (x1 : Addr) (x2 : Addr) (x3 : Addr) (x4 : Addr) (x5 : Addr) (x6 : Addr) (x7 : Value) (x8 : Value) (x9 : Int64) (x11 : Int32) (x12 : Int32) (r7 : Value.isRef x7 = true) (r8 : Value.isRef x8 = true) : entryFrame m #[(.ref x0), (.ref x1), (.ref x2), (.ref x3), (.ref x4), (.ref x5), (.ref x6), x7, x8, (.long x9), (.int (0 : Int32)), (.int x11), (.int x12)] 14 = mkF m 0 #[.val (.ref x0), .val (.ref x1), .val (.ref x2), .val (.ref x3), .val (.ref x4), .val (.ref x5), .val (.ref x6), .val x7, .val x8, .val (.long x9), .second, .val (.int (0 : Int32)), .val (.int x11), .val (.int x12)] [] := by cases x7 <;> first | (cases r7; done) | (cases x8 <;> first | (cases r8; done) | (simp [entryFrame, mkF, argsToLocals, Value.category]))
def Q7_6 (Z : State) (o1 : Addr) (o2 : Addr) (o3 : Addr) (o4 : Addr) (u1 : Value) (u2 : Value) (j3 : Int64) (i4 : Int32) (i5 : Int32) (o5 : Addr) (h0 : Heap) (n0 : Nat) (v : Option Value) (h : Heap) (L : List Loc) : Prop := v = none ∧ Fr n0 L ∧ Keep h0 h [o1] ∧ Fld Z h o1 "com/example/whisman/whisman/connector/RequestHead" "authority" "Ljava/lang/String;" u2 ∧ Fld Z h o1 "com/example/whisman/whisman/connector/RequestHead" "chunked" "Z" (.int (0 : Int32)) ∧ Fld Z h o1 "com/example/whisman/whisman/connector/RequestHead" "contentLength" "J" (.long j3) ∧ Fld Z h o1 "com/example/whisman/whisman/connector/RequestHead" "expectsContinue" "Z" (.int (nar .boolean i5)) ∧ Fld Z h o1 "com/example/whisman/whisman/connector/RequestHead" "fields" "Lcom/example/whisman/whisman/connector/HttpFields;" (.ref o4) ∧ Fld Z h o1 "com/example/whisman/whisman/connector/RequestHead" "method" "Ljava/lang/String;" (.ref o2) ∧ Fld Z h o1 "com/example/whisman/whisman/connector/RequestHead" "path" "Ljava/lang/String;" (.ref o2) ∧ Fld Z h o1 "com/example/whisman/whisman/connector/RequestHead" "persistent" "Z" (.int (nar .boolean i4)) ∧ Fld Z h o1 "com/example/whisman/whisman/connector/RequestHead" "query" "Ljava/lang/String;" u1 ∧ Fld Z h o1 "com/example/whisman/whisman/connector/RequestHead" "target" "Ljava/lang/String;" (.ref o2) ∧ Fld Z h o1 "com/example/whisman/whisman/connector/RequestHead" "version" "Lcom/example/whisman/whisman/connector/HttpVersion;" (.ref o3) ∧ Fld Z h o1 "com/example/whisman/whisman/connector/RequestHead" "versionText" "Ljava/lang/String;" (.ref o2)
set_option maxRecDepth 65536 in
set_option maxHeartbeats 40000000 in
theorem rm7_6 (l : Launch) (Z : State) (a0 : Array Value) (hw : ∀ d ∈ tables_1, d.before a0 Z = true) (ws : List Jvm.Cond) (o1 : Addr) (o2 : Addr) (o3 : Addr) (o4 : Addr) (u1 : Value) (u2 : Value) (j3 : Int64) (i4 : Int32) (i5 : Int32) (o5 : Addr) (h0 : Heap) (n0 : Nat) (Z0 : n0 ≤ h0.size) (ru1 : Value.isRef u1 = true) (ru2 : Value.isRef u2 = true) (S2 : Sta Z h0 "com/example/whisman/whisman/connector/HttpFields" "NONE" "[Ljava/lang/String;" (.ref o5)) (Pm3 : Exa Z h0 o1 "com/example/whisman/whisman/connector/RequestHead") (Pm4 : Fld Z h0 o1 "com/example/whisman/whisman/connector/RequestHead" "authority" "Ljava/lang/String;" .null) (Pm5 : Fld Z h0 o1 "com/example/whisman/whisman/connector/RequestHead" "chunked" "Z" (.int (0 : Int32))) (Pm6 : Fld Z h0 o1 "com/example/whisman/whisman/connector/RequestHead" "contentLength" "J" (.long (0 : Int64))) (Pm7 : Fld Z h0 o1 "com/example/whisman/whisman/connector/RequestHead" "expectsContinue" "Z" (.int (0 : Int32))) (Pm8 : Fld Z h0 o1 "com/example/whisman/whisman/connector/RequestHead" "fields" "Lcom/example/whisman/whisman/connector/HttpFields;" .null) (Pm9 : Fld Z h0 o1 "com/example/whisman/whisman/connector/RequestHead" "method" "Ljava/lang/String;" .null) (Pm10 : Fld Z h0 o1 "com/example/whisman/whisman/connector/RequestHead" "path" "Ljava/lang/String;" .null) (Pm11 : Fld Z h0 o1 "com/example/whisman/whisman/connector/RequestHead" "persistent" "Z" (.int (0 : Int32))) (Pm12 : Fld Z h0 o1 "com/example/whisman/whisman/connector/RequestHead" "query" "Ljava/lang/String;" .null) (Pm13 : Fld Z h0 o1 "com/example/whisman/whisman/connector/RequestHead" "target" "Ljava/lang/String;" .null) (Pm14 : Fld Z h0 o1 "com/example/whisman/whisman/connector/RequestHead" "version" "Lcom/example/whisman/whisman/connector/HttpVersion;" .null) (Pm15 : Fld Z h0 o1 "com/example/whisman/whisman/connector/RequestHead" "versionText" "Ljava/lang/String;" .null) (Pm16 : Exa Z h0 o2 "java/lang/String") (Pm17 : Exa Z h0 o3 "com/example/whisman/whisman/connector/HttpVersion") (Pm18 : Exa Z h0 o4 "com/example/whisman/whisman/connector/HttpFields") (Pm19 : Fld Z h0 o4 "com/example/whisman/whisman/connector/HttpFields" "entries" "[Ljava/lang/String;" (.ref o5)) (gn_o1 : n0 ≤ o1) (ne_o1_o2 : o1 ≠ o2) (ne_o1_o3 : o1 ≠ o3) (ne_o1_o4 : o1 ≠ o4) (gn_o2 : n0 ≤ o2) (ne_o2_o3 : o2 ≠ o3) (ne_o2_o4 : o2 ≠ o4) (ne_o3_o4 : o3 ≠ o4) (gn_o4 : n0 ≤ o4)  :
    MetFree l (⟨"com/example/whisman/whisman/connector/RequestHead", "<init>", "(Ljava/lang/String;Ljava/lang/String;Ljava/lang/String;Lcom/example/whisman/whisman/connector/HttpVersion;Lcom/example/whisman/whisman/connector/HttpFields;Ljava/lang/String;Ljava/lang/String;Ljava/lang/String;JZZZ)V"⟩ : MethodName) (head1 (Jvm.Cond.code (⟨"com/example/whisman/whisman/connector/RequestHead", "<init>", "(Ljava/lang/String;Ljava/lang/String;Ljava/lang/String;Lcom/example/whisman/whisman/connector/HttpVersion;Lcom/example/whisman/whisman/connector/HttpFields;Ljava/lang/String;Ljava/lang/String;Ljava/lang/String;JZZZ)V"⟩ : MethodName) prog_16_method_1_code 14 none :: ws) ({ frames := 2, cells := 0, slots := 0, locals := 24 } : Room)) (fun a U => a = #[(.ref o1), (.ref o2), (.ref o2), (.ref o2), (.ref o3), (.ref o4), (.ref o2), u1, u2, (.long j3), (.int (0 : Int32)), (.int i4), (.int i5)] ∧ Z.Warmed39 U.vm ∧ U.heap = h0) (fun _ _ _ _ _ => True) (fun _ U o U' => ∃ v L, o = .returned v ∧ Q7_6 Z o1 o2 o3 o4 u1 u2 j3 i4 i5 o5 h0 n0 v U'.heap L ∧ FrameEnd U o U' L ({ frames := 2, cells := 0, slots := 0, locals := 24 } : Room).cells ({ frames := 2, cells := 0, slots := 0, locals := 24 } : Room).slots) := by
  refine own_body (plainFor_of_name pn_4) ?_
  intro p e s m below meth c s₁ G hx hby hml hZ hown hnm hret X0 e0 step fin
  replace hown : s.vm.findClass "com/example/whisman/whisman/connector/RequestHead" = some m.cls := hown
  replace hnm : meth.name = "<init>" := hnm
  replace hret : meth.sig.returnType = none := hret
  replace hml : c.maxLocals = 14 := hml
  have N0 := Fr.nil n0
  refine step (s₁.setTop (mkF m 0 #[.val (.ref o1), .val (.ref o2), .val (.ref o2), .val (.ref o2), .val (.ref o3), .val (.ref o4), .val (.ref o2), .val u1, .val u2, .val (.long j3), .second, .val (.int (0 : Int32)), .val (.int i4), .val (.int i5)] [])) (fun t k => castTop (ef_7_6 m o1 o2 o2 o2 o3 o4 o2 u1 u2 j3 i4 i5 ru1 ru2) k) ?_
  refine step (s₁.setTop (mkF m 1 #[.val (.ref o1), .val (.ref o2), .val (.ref o2), .val (.ref o2), .val (.ref o3), .val (.ref o4), .val (.ref o2), .val u1, .val u2, .val (.long j3), .second, .val (.int (0 : Int32)), .val (.int i4), .val (.int i5)] [(.ref o1)])) (fun t k => XS.aloadN X0.here hx rfl (hb hby d7_0) rfl rfl k) ?_
  obtain ⟨_, _, ⟨T1, L1, k1, n1⟩, -, X1, ⟨Lc1, hQ1, l1, y1, z1⟩, st1⟩ := X0.specialBack hx (y := (⟨"java/lang/Record", "<init>", "()V"⟩ : MethodName)) rfl hown (mvT hZ (hw _ (List.mem_of_getElem? (i := 46) rfl))) (mvT hZ (hw _ (List.mem_of_getElem? (i := 47) rfl))) (mvT hZ (hw _ (List.mem_of_getElem? (i := 50) rfl))) (by decide) (backOf (W := 0) (rm8_7 l Z a0 hw [] o1 o5 h0 n0 Z0 S2 Pm3 gn_o1) hZ (hw _ (List.mem_of_getElem? (i := 50) rfl)) (hw _ (List.mem_of_getElem? (i := 49) rfl)) (by decide) (by decide)) (g := (mkF m 1 #[.val (.ref o1), .val (.ref o2), .val (.ref o2), .val (.ref o2), .val (.ref o3), .val (.ref o4), .val (.ref o2), .val u1, .val u2, .val (.long j3), .second, .val (.int (0 : Int32)), .val (.int i4), .val (.int i5)] [(.ref o1)])) rfl (by rw [hml]; rfl) (Steps.refl _) (a := o1) (argsL := []) (rest := []) (lenOf pd_1 rfl) rfl (by show 2 * 0 + _ ≤ _; exact Nat.le_of_eq rfl) (hb hby d7_1) (fun _ _ => ⟨rfl, e0, (by decide : 0 + 0 ≤ _), (by decide : 0 + 0 ≤ _)⟩)
  dsimp only [Pt.U, Pt.locs, Pt.cells, Pt.slots] at X1 l1 y1 z1 st1 hQ1
  subst l1 y1 z1
  obtain ⟨rfl, N1q, e1q⟩ := hQ1
  have N1 := Fr.app N0 N1q
  refine step (T1.setTop (mkF m 4 #[.val (.ref o1), .val (.ref o2), .val (.ref o2), .val (.ref o2), .val (.ref o3), .val (.ref o4), .val (.ref o2), .val u1, .val u2, .val (.long j3), .second, .val (.int (0 : Int32)), .val (.int i4), .val (.int i5)] [])) (fun t k => st1.trans k) ?_
  refine step (T1.setTop (mkF m 5 #[.val (.ref o1), .val (.ref o2), .val (.ref o2), .val (.ref o2), .val (.ref o3), .val (.ref o4), .val (.ref o2), .val u1, .val u2, .val (.long j3), .second, .val (.int (0 : Int32)), .val (.int i4), .val (.int i5)] [(.ref o1)])) (fun t k => XS.aloadN X1.here hx rfl (hb hby d7_4) rfl rfl k) ?_
  refine step (T1.setTop (mkF m 6 #[.val (.ref o1), .val (.ref o2), .val (.ref o2), .val (.ref o2), .val (.ref o3), .val (.ref o4), .val (.ref o2), .val u1, .val u2, .val (.long j3), .second, .val (.int (0 : Int32)), .val (.int i4), .val (.int i5)] [(.ref o2), (.ref o1)])) (fun t k => XS.aloadN X1.here hx rfl (hb hby d7_5) rfl rfl k) ?_
  obtain ⟨T2, h2, X2, e2, W2, st2⟩ := putF X1 hx hZ hown (host := "") (Or.inl (hw _ (List.mem_of_getElem? (i := 52) rfl))) Via.refl e1q Pm9 Pm3 (Or.inr ⟨(hw _ (List.mem_of_getElem? (i := 53) rfl)), rfl, hnm⟩) (hw _ (List.mem_of_getElem? (i := 41) rfl)) (ty := (.object "java/lang/String")) (by decide) rfl rfl (g := (mkF m 6 #[.val (.ref o1), .val (.ref o2), .val (.ref o2), .val (.ref o2), .val (.ref o3), .val (.ref o4), .val (.ref o2), .val u1, .val u2, .val (.long j3), .second, .val (.int (0 : Int32)), .val (.int i4), .val (.int i5)] [(.ref o2), (.ref o1)])) rfl rfl (hb hby d7_6)
  have N2 := Fr.snoc X2 N1 gn_o1
  have K2 : Keep h0 h2 [o1] := (Keep.refl h0 [o1]).wr W2 (Or.inl (List.mem_of_getElem? (i := 0) rfl))
  have F2 := Pm9.same W2
  refine step (T2.setTop (mkF m 9 #[.val (.ref o1), .val (.ref o2), .val (.ref o2), .val (.ref o2), .val (.ref o3), .val (.ref o4), .val (.ref o2), .val u1, .val u2, .val (.long j3), .second, .val (.int (0 : Int32)), .val (.int i4), .val (.int i5)] [])) (fun t k => st2 t k) ?_
  refine step (T2.setTop (mkF m 10 #[.val (.ref o1), .val (.ref o2), .val (.ref o2), .val (.ref o2), .val (.ref o3), .val (.ref o4), .val (.ref o2), .val u1, .val u2, .val (.long j3), .second, .val (.int (0 : Int32)), .val (.int i4), .val (.int i5)] [(.ref o1)])) (fun t k => XS.aloadN X2.here hx rfl (hb hby d7_9) rfl rfl k) ?_
  refine step (T2.setTop (mkF m 11 #[.val (.ref o1), .val (.ref o2), .val (.ref o2), .val (.ref o2), .val (.ref o3), .val (.ref o4), .val (.ref o2), .val u1, .val u2, .val (.long j3), .second, .val (.int (0 : Int32)), .val (.int i4), .val (.int i5)] [(.ref o2), (.ref o1)])) (fun t k => XS.aloadN X2.here hx rfl (hb hby d7_10) rfl rfl k) ?_
  have f3 := (Pm3.wr W2)
  have f4 := (Pm13.other W2 (Or.inr (slot_ne (Or.inr (hw _ (List.mem_of_getElem? (i := 55) rfl))) (Or.inr (hw _ (List.mem_of_getElem? (i := 53) rfl))) (by decide) (t := (.object "java/lang/String")) (t' := (.object "java/lang/String")) (by decide) (by decide))))
  obtain ⟨T5, h5, X5, e5, W5, st5⟩ := putF X2 hx hZ hown (host := "") (Or.inl (hw _ (List.mem_of_getElem? (i := 54) rfl))) Via.refl e2 f4 f3 (Or.inr ⟨(hw _ (List.mem_of_getElem? (i := 55) rfl)), rfl, hnm⟩) (hw _ (List.mem_of_getElem? (i := 41) rfl)) (ty := (.object "java/lang/String")) (by decide) rfl rfl (g := (mkF m 11 #[.val (.ref o1), .val (.ref o2), .val (.ref o2), .val (.ref o2), .val (.ref o3), .val (.ref o4), .val (.ref o2), .val u1, .val u2, .val (.long j3), .second, .val (.int (0 : Int32)), .val (.int i4), .val (.int i5)] [(.ref o2), (.ref o1)])) rfl rfl (hb hby d7_11)
  have N5 := Fr.snoc X5 N2 gn_o1
  have K5 : Keep h0 h5 [o1] := K2.wr W5 (Or.inl (List.mem_of_getElem? (i := 0) rfl))
  have F5 := f4.same W5
  refine step (T5.setTop (mkF m 14 #[.val (.ref o1), .val (.ref o2), .val (.ref o2), .val (.ref o2), .val (.ref o3), .val (.ref o4), .val (.ref o2), .val u1, .val u2, .val (.long j3), .second, .val (.int (0 : Int32)), .val (.int i4), .val (.int i5)] [])) (fun t k => st5 t k) ?_
  refine step (T5.setTop (mkF m 15 #[.val (.ref o1), .val (.ref o2), .val (.ref o2), .val (.ref o2), .val (.ref o3), .val (.ref o4), .val (.ref o2), .val u1, .val u2, .val (.long j3), .second, .val (.int (0 : Int32)), .val (.int i4), .val (.int i5)] [(.ref o1)])) (fun t k => XS.aloadN X5.here hx rfl (hb hby d7_14) rfl rfl k) ?_
  refine step (T5.setTop (mkF m 16 #[.val (.ref o1), .val (.ref o2), .val (.ref o2), .val (.ref o2), .val (.ref o3), .val (.ref o4), .val (.ref o2), .val u1, .val u2, .val (.long j3), .second, .val (.int (0 : Int32)), .val (.int i4), .val (.int i5)] [(.ref o2), (.ref o1)])) (fun t k => XS.aloadN X5.here hx rfl (hb hby d7_15) rfl rfl k) ?_
  have f6 := (f3.wr W5)
  have f7 := ((Pm15.other W2 (Or.inr (slot_ne (Or.inr (hw _ (List.mem_of_getElem? (i := 57) rfl))) (Or.inr (hw _ (List.mem_of_getElem? (i := 53) rfl))) (by decide) (t := (.object "java/lang/String")) (t' := (.object "java/lang/String")) (by decide) (by decide)))).other W5 (Or.inr (slot_ne (Or.inr (hw _ (List.mem_of_getElem? (i := 57) rfl))) (Or.inr (hw _ (List.mem_of_getElem? (i := 55) rfl))) (by decide) (t := (.object "java/lang/String")) (t' := (.object "java/lang/String")) (by decide) (by decide))))
  obtain ⟨T8, h8, X8, e8, W8, st8⟩ := putF X5 hx hZ hown (host := "") (Or.inl (hw _ (List.mem_of_getElem? (i := 56) rfl))) Via.refl e5 f7 f6 (Or.inr ⟨(hw _ (List.mem_of_getElem? (i := 57) rfl)), rfl, hnm⟩) (hw _ (List.mem_of_getElem? (i := 41) rfl)) (ty := (.object "java/lang/String")) (by decide) rfl rfl (g := (mkF m 16 #[.val (.ref o1), .val (.ref o2), .val (.ref o2), .val (.ref o2), .val (.ref o3), .val (.ref o4), .val (.ref o2), .val u1, .val u2, .val (.long j3), .second, .val (.int (0 : Int32)), .val (.int i4), .val (.int i5)] [(.ref o2), (.ref o1)])) rfl rfl (hb hby d7_16)
  have N8 := Fr.snoc X8 N5 gn_o1
  have K8 : Keep h0 h8 [o1] := K5.wr W8 (Or.inl (List.mem_of_getElem? (i := 0) rfl))
  have F8 := f7.same W8
  refine step (T8.setTop (mkF m 19 #[.val (.ref o1), .val (.ref o2), .val (.ref o2), .val (.ref o2), .val (.ref o3), .val (.ref o4), .val (.ref o2), .val u1, .val u2, .val (.long j3), .second, .val (.int (0 : Int32)), .val (.int i4), .val (.int i5)] [])) (fun t k => st8 t k) ?_
  refine step (T8.setTop (mkF m 20 #[.val (.ref o1), .val (.ref o2), .val (.ref o2), .val (.ref o2), .val (.ref o3), .val (.ref o4), .val (.ref o2), .val u1, .val u2, .val (.long j3), .second, .val (.int (0 : Int32)), .val (.int i4), .val (.int i5)] [(.ref o1)])) (fun t k => XS.aloadN X8.here hx rfl (hb hby d7_19) rfl rfl k) ?_
  refine step (T8.setTop (mkF m 22 #[.val (.ref o1), .val (.ref o2), .val (.ref o2), .val (.ref o2), .val (.ref o3), .val (.ref o4), .val (.ref o2), .val u1, .val u2, .val (.long j3), .second, .val (.int (0 : Int32)), .val (.int i4), .val (.int i5)] [(.ref o3), (.ref o1)])) (fun t k => XS.aload X8.here hx rfl (hb hby d7_20) rfl rfl k) ?_
  have f9 := (f6.wr W8)
  have f10 := (((Pm14.other W2 (Or.inr (slot_ne (Or.inr (hw _ (List.mem_of_getElem? (i := 59) rfl))) (Or.inr (hw _ (List.mem_of_getElem? (i := 53) rfl))) (by decide) (t := (.object "com/example/whisman/whisman/connector/HttpVersion")) (t' := (.object "java/lang/String")) (by decide) (by decide)))).other W5 (Or.inr (slot_ne (Or.inr (hw _ (List.mem_of_getElem? (i := 59) rfl))) (Or.inr (hw _ (List.mem_of_getElem? (i := 55) rfl))) (by decide) (t := (.object "com/example/whisman/whisman/connector/HttpVersion")) (t' := (.object "java/lang/String")) (by decide) (by decide)))).other W8 (Or.inr (slot_ne (Or.inr (hw _ (List.mem_of_getElem? (i := 59) rfl))) (Or.inr (hw _ (List.mem_of_getElem? (i := 57) rfl))) (by decide) (t := (.object "com/example/whisman/whisman/connector/HttpVersion")) (t' := (.object "java/lang/String")) (by decide) (by decide))))
  obtain ⟨T11, h11, X11, e11, W11, st11⟩ := putF X8 hx hZ hown (host := "") (Or.inl (hw _ (List.mem_of_getElem? (i := 58) rfl))) Via.refl e8 f10 f9 (Or.inr ⟨(hw _ (List.mem_of_getElem? (i := 59) rfl)), rfl, hnm⟩) (hw _ (List.mem_of_getElem? (i := 41) rfl)) (ty := (.object "com/example/whisman/whisman/connector/HttpVersion")) (by decide) rfl rfl (g := (mkF m 22 #[.val (.ref o1), .val (.ref o2), .val (.ref o2), .val (.ref o2), .val (.ref o3), .val (.ref o4), .val (.ref o2), .val u1, .val u2, .val (.long j3), .second, .val (.int (0 : Int32)), .val (.int i4), .val (.int i5)] [(.ref o3), (.ref o1)])) rfl rfl (hb hby d7_22)
  have N11 := Fr.snoc X11 N8 gn_o1
  have K11 : Keep h0 h11 [o1] := K8.wr W11 (Or.inl (List.mem_of_getElem? (i := 0) rfl))
  have F11 := f10.same W11
  refine step (T11.setTop (mkF m 25 #[.val (.ref o1), .val (.ref o2), .val (.ref o2), .val (.ref o2), .val (.ref o3), .val (.ref o4), .val (.ref o2), .val u1, .val u2, .val (.long j3), .second, .val (.int (0 : Int32)), .val (.int i4), .val (.int i5)] [])) (fun t k => st11 t k) ?_
  refine step (T11.setTop (mkF m 26 #[.val (.ref o1), .val (.ref o2), .val (.ref o2), .val (.ref o2), .val (.ref o3), .val (.ref o4), .val (.ref o2), .val u1, .val u2, .val (.long j3), .second, .val (.int (0 : Int32)), .val (.int i4), .val (.int i5)] [(.ref o1)])) (fun t k => XS.aloadN X11.here hx rfl (hb hby d7_25) rfl rfl k) ?_
  refine step (T11.setTop (mkF m 28 #[.val (.ref o1), .val (.ref o2), .val (.ref o2), .val (.ref o2), .val (.ref o3), .val (.ref o4), .val (.ref o2), .val u1, .val u2, .val (.long j3), .second, .val (.int (0 : Int32)), .val (.int i4), .val (.int i5)] [(.ref o4), (.ref o1)])) (fun t k => XS.aload X11.here hx rfl (hb hby d7_26) rfl rfl k) ?_
  have f12 := (f9.wr W11)
  have f13 := ((((Pm8.other W2 (Or.inr (slot_ne (Or.inr (hw _ (List.mem_of_getElem? (i := 61) rfl))) (Or.inr (hw _ (List.mem_of_getElem? (i := 53) rfl))) (by decide) (t := (.object "com/example/whisman/whisman/connector/HttpFields")) (t' := (.object "java/lang/String")) (by decide) (by decide)))).other W5 (Or.inr (slot_ne (Or.inr (hw _ (List.mem_of_getElem? (i := 61) rfl))) (Or.inr (hw _ (List.mem_of_getElem? (i := 55) rfl))) (by decide) (t := (.object "com/example/whisman/whisman/connector/HttpFields")) (t' := (.object "java/lang/String")) (by decide) (by decide)))).other W8 (Or.inr (slot_ne (Or.inr (hw _ (List.mem_of_getElem? (i := 61) rfl))) (Or.inr (hw _ (List.mem_of_getElem? (i := 57) rfl))) (by decide) (t := (.object "com/example/whisman/whisman/connector/HttpFields")) (t' := (.object "java/lang/String")) (by decide) (by decide)))).other W11 (Or.inr (slot_ne (Or.inr (hw _ (List.mem_of_getElem? (i := 61) rfl))) (Or.inr (hw _ (List.mem_of_getElem? (i := 59) rfl))) (by decide) (t := (.object "com/example/whisman/whisman/connector/HttpFields")) (t' := (.object "com/example/whisman/whisman/connector/HttpVersion")) (by decide) (by decide))))
  obtain ⟨T14, h14, X14, e14, W14, st14⟩ := putF X11 hx hZ hown (host := "") (Or.inl (hw _ (List.mem_of_getElem? (i := 60) rfl))) Via.refl e11 f13 f12 (Or.inr ⟨(hw _ (List.mem_of_getElem? (i := 61) rfl)), rfl, hnm⟩) (hw _ (List.mem_of_getElem? (i := 41) rfl)) (ty := (.object "com/example/whisman/whisman/connector/HttpFields")) (by decide) rfl rfl (g := (mkF m 28 #[.val (.ref o1), .val (.ref o2), .val (.ref o2), .val (.ref o2), .val (.ref o3), .val (.ref o4), .val (.ref o2), .val u1, .val u2, .val (.long j3), .second, .val (.int (0 : Int32)), .val (.int i4), .val (.int i5)] [(.ref o4), (.ref o1)])) rfl rfl (hb hby d7_28)
  have N14 := Fr.snoc X14 N11 gn_o1
  have K14 : Keep h0 h14 [o1] := K11.wr W14 (Or.inl (List.mem_of_getElem? (i := 0) rfl))
  have F14 := f13.same W14
  refine step (T14.setTop (mkF m 31 #[.val (.ref o1), .val (.ref o2), .val (.ref o2), .val (.ref o2), .val (.ref o3), .val (.ref o4), .val (.ref o2), .val u1, .val u2, .val (.long j3), .second, .val (.int (0 : Int32)), .val (.int i4), .val (.int i5)] [])) (fun t k => st14 t k) ?_
  refine step (T14.setTop (mkF m 32 #[.val (.ref o1), .val (.ref o2), .val (.ref o2), .val (.ref o2), .val (.ref o3), .val (.ref o4), .val (.ref o2), .val u1, .val u2, .val (.long j3), .second, .val (.int (0 : Int32)), .val (.int i4), .val (.int i5)] [(.ref o1)])) (fun t k => XS.aloadN X14.here hx rfl (hb hby d7_31) rfl rfl k) ?_
  refine step (T14.setTop (mkF m 34 #[.val (.ref o1), .val (.ref o2), .val (.ref o2), .val (.ref o2), .val (.ref o3), .val (.ref o4), .val (.ref o2), .val u1, .val u2, .val (.long j3), .second, .val (.int (0 : Int32)), .val (.int i4), .val (.int i5)] [(.ref o2), (.ref o1)])) (fun t k => XS.aload X14.here hx rfl (hb hby d7_32) rfl rfl k) ?_
  have f15 := (f12.wr W14)
  have f16 := (((((Pm10.other W2 (Or.inr (slot_ne (Or.inr (hw _ (List.mem_of_getElem? (i := 63) rfl))) (Or.inr (hw _ (List.mem_of_getElem? (i := 53) rfl))) (by decide) (t := (.object "java/lang/String")) (t' := (.object "java/lang/String")) (by decide) (by decide)))).other W5 (Or.inr (slot_ne (Or.inr (hw _ (List.mem_of_getElem? (i := 63) rfl))) (Or.inr (hw _ (List.mem_of_getElem? (i := 55) rfl))) (by decide) (t := (.object "java/lang/String")) (t' := (.object "java/lang/String")) (by decide) (by decide)))).other W8 (Or.inr (slot_ne (Or.inr (hw _ (List.mem_of_getElem? (i := 63) rfl))) (Or.inr (hw _ (List.mem_of_getElem? (i := 57) rfl))) (by decide) (t := (.object "java/lang/String")) (t' := (.object "java/lang/String")) (by decide) (by decide)))).other W11 (Or.inr (slot_ne (Or.inr (hw _ (List.mem_of_getElem? (i := 63) rfl))) (Or.inr (hw _ (List.mem_of_getElem? (i := 59) rfl))) (by decide) (t := (.object "java/lang/String")) (t' := (.object "com/example/whisman/whisman/connector/HttpVersion")) (by decide) (by decide)))).other W14 (Or.inr (slot_ne (Or.inr (hw _ (List.mem_of_getElem? (i := 63) rfl))) (Or.inr (hw _ (List.mem_of_getElem? (i := 61) rfl))) (by decide) (t := (.object "java/lang/String")) (t' := (.object "com/example/whisman/whisman/connector/HttpFields")) (by decide) (by decide))))
  obtain ⟨T17, h17, X17, e17, W17, st17⟩ := putF X14 hx hZ hown (host := "") (Or.inl (hw _ (List.mem_of_getElem? (i := 62) rfl))) Via.refl e14 f16 f15 (Or.inr ⟨(hw _ (List.mem_of_getElem? (i := 63) rfl)), rfl, hnm⟩) (hw _ (List.mem_of_getElem? (i := 41) rfl)) (ty := (.object "java/lang/String")) (by decide) rfl rfl (g := (mkF m 34 #[.val (.ref o1), .val (.ref o2), .val (.ref o2), .val (.ref o2), .val (.ref o3), .val (.ref o4), .val (.ref o2), .val u1, .val u2, .val (.long j3), .second, .val (.int (0 : Int32)), .val (.int i4), .val (.int i5)] [(.ref o2), (.ref o1)])) rfl rfl (hb hby d7_34)
  have N17 := Fr.snoc X17 N14 gn_o1
  have K17 : Keep h0 h17 [o1] := K14.wr W17 (Or.inl (List.mem_of_getElem? (i := 0) rfl))
  have F17 := f16.same W17
  refine step (T17.setTop (mkF m 37 #[.val (.ref o1), .val (.ref o2), .val (.ref o2), .val (.ref o2), .val (.ref o3), .val (.ref o4), .val (.ref o2), .val u1, .val u2, .val (.long j3), .second, .val (.int (0 : Int32)), .val (.int i4), .val (.int i5)] [])) (fun t k => st17 t k) ?_
  refine step (T17.setTop (mkF m 38 #[.val (.ref o1), .val (.ref o2), .val (.ref o2), .val (.ref o2), .val (.ref o3), .val (.ref o4), .val (.ref o2), .val u1, .val u2, .val (.long j3), .second, .val (.int (0 : Int32)), .val (.int i4), .val (.int i5)] [(.ref o1)])) (fun t k => XS.aloadN X17.here hx rfl (hb hby d7_37) rfl rfl k) ?_
  refine step (T17.setTop (mkF m 40 #[.val (.ref o1), .val (.ref o2), .val (.ref o2), .val (.ref o2), .val (.ref o3), .val (.ref o4), .val (.ref o2), .val u1, .val u2, .val (.long j3), .second, .val (.int (0 : Int32)), .val (.int i4), .val (.int i5)] [u1, (.ref o1)])) (fun t k => XS.aload X17.here hx rfl (hb hby d7_38) rfl ru1 k) ?_
  have f18 := (f15.wr W17)
  have f19 := ((((((Pm12.other W2 (Or.inr (slot_ne (Or.inr (hw _ (List.mem_of_getElem? (i := 65) rfl))) (Or.inr (hw _ (List.mem_of_getElem? (i := 53) rfl))) (by decide) (t := (.object "java/lang/String")) (t' := (.object "java/lang/String")) (by decide) (by decide)))).other W5 (Or.inr (slot_ne (Or.inr (hw _ (List.mem_of_getElem? (i := 65) rfl))) (Or.inr (hw _ (List.mem_of_getElem? (i := 55) rfl))) (by decide) (t := (.object "java/lang/String")) (t' := (.object "java/lang/String")) (by decide) (by decide)))).other W8 (Or.inr (slot_ne (Or.inr (hw _ (List.mem_of_getElem? (i := 65) rfl))) (Or.inr (hw _ (List.mem_of_getElem? (i := 57) rfl))) (by decide) (t := (.object "java/lang/String")) (t' := (.object "java/lang/String")) (by decide) (by decide)))).other W11 (Or.inr (slot_ne (Or.inr (hw _ (List.mem_of_getElem? (i := 65) rfl))) (Or.inr (hw _ (List.mem_of_getElem? (i := 59) rfl))) (by decide) (t := (.object "java/lang/String")) (t' := (.object "com/example/whisman/whisman/connector/HttpVersion")) (by decide) (by decide)))).other W14 (Or.inr (slot_ne (Or.inr (hw _ (List.mem_of_getElem? (i := 65) rfl))) (Or.inr (hw _ (List.mem_of_getElem? (i := 61) rfl))) (by decide) (t := (.object "java/lang/String")) (t' := (.object "com/example/whisman/whisman/connector/HttpFields")) (by decide) (by decide)))).other W17 (Or.inr (slot_ne (Or.inr (hw _ (List.mem_of_getElem? (i := 65) rfl))) (Or.inr (hw _ (List.mem_of_getElem? (i := 63) rfl))) (by decide) (t := (.object "java/lang/String")) (t' := (.object "java/lang/String")) (by decide) (by decide))))
  obtain ⟨T20, h20, X20, e20, W20, st20⟩ := putF X17 hx hZ hown (host := "") (Or.inl (hw _ (List.mem_of_getElem? (i := 64) rfl))) Via.refl e17 f19 f18 (Or.inr ⟨(hw _ (List.mem_of_getElem? (i := 65) rfl)), rfl, hnm⟩) (hw _ (List.mem_of_getElem? (i := 41) rfl)) (ty := (.object "java/lang/String")) (by decide) (by rcases ref_cases ru1 with q | ⟨_, q⟩ <;> rw [q] <;> rfl) (by rcases ref_cases ru1 with q | ⟨_, q⟩ <;> rw [q] <;> rfl) (g := (mkF m 40 #[.val (.ref o1), .val (.ref o2), .val (.ref o2), .val (.ref o2), .val (.ref o3), .val (.ref o4), .val (.ref o2), .val u1, .val u2, .val (.long j3), .second, .val (.int (0 : Int32)), .val (.int i4), .val (.int i5)] [u1, (.ref o1)])) rfl rfl (hb hby d7_40)
  have N20 := Fr.snoc X20 N17 gn_o1
  have K20 : Keep h0 h20 [o1] := K17.wr W20 (Or.inl (List.mem_of_getElem? (i := 0) rfl))
  have F20 := f19.same W20
  refine step (T20.setTop (mkF m 43 #[.val (.ref o1), .val (.ref o2), .val (.ref o2), .val (.ref o2), .val (.ref o3), .val (.ref o4), .val (.ref o2), .val u1, .val u2, .val (.long j3), .second, .val (.int (0 : Int32)), .val (.int i4), .val (.int i5)] [])) (fun t k => st20 t k) ?_
  refine step (T20.setTop (mkF m 44 #[.val (.ref o1), .val (.ref o2), .val (.ref o2), .val (.ref o2), .val (.ref o3), .val (.ref o4), .val (.ref o2), .val u1, .val u2, .val (.long j3), .second, .val (.int (0 : Int32)), .val (.int i4), .val (.int i5)] [(.ref o1)])) (fun t k => XS.aloadN X20.here hx rfl (hb hby d7_43) rfl rfl k) ?_
  refine step (T20.setTop (mkF m 46 #[.val (.ref o1), .val (.ref o2), .val (.ref o2), .val (.ref o2), .val (.ref o3), .val (.ref o4), .val (.ref o2), .val u1, .val u2, .val (.long j3), .second, .val (.int (0 : Int32)), .val (.int i4), .val (.int i5)] [u2, (.ref o1)])) (fun t k => XS.aload X20.here hx rfl (hb hby d7_44) rfl ru2 k) ?_
  have f21 := (f18.wr W20)
  have f22 := (((((((Pm4.other W2 (Or.inr (slot_ne (Or.inr (hw _ (List.mem_of_getElem? (i := 67) rfl))) (Or.inr (hw _ (List.mem_of_getElem? (i := 53) rfl))) (by decide) (t := (.object "java/lang/String")) (t' := (.object "java/lang/String")) (by decide) (by decide)))).other W5 (Or.inr (slot_ne (Or.inr (hw _ (List.mem_of_getElem? (i := 67) rfl))) (Or.inr (hw _ (List.mem_of_getElem? (i := 55) rfl))) (by decide) (t := (.object "java/lang/String")) (t' := (.object "java/lang/String")) (by decide) (by decide)))).other W8 (Or.inr (slot_ne (Or.inr (hw _ (List.mem_of_getElem? (i := 67) rfl))) (Or.inr (hw _ (List.mem_of_getElem? (i := 57) rfl))) (by decide) (t := (.object "java/lang/String")) (t' := (.object "java/lang/String")) (by decide) (by decide)))).other W11 (Or.inr (slot_ne (Or.inr (hw _ (List.mem_of_getElem? (i := 67) rfl))) (Or.inr (hw _ (List.mem_of_getElem? (i := 59) rfl))) (by decide) (t := (.object "java/lang/String")) (t' := (.object "com/example/whisman/whisman/connector/HttpVersion")) (by decide) (by decide)))).other W14 (Or.inr (slot_ne (Or.inr (hw _ (List.mem_of_getElem? (i := 67) rfl))) (Or.inr (hw _ (List.mem_of_getElem? (i := 61) rfl))) (by decide) (t := (.object "java/lang/String")) (t' := (.object "com/example/whisman/whisman/connector/HttpFields")) (by decide) (by decide)))).other W17 (Or.inr (slot_ne (Or.inr (hw _ (List.mem_of_getElem? (i := 67) rfl))) (Or.inr (hw _ (List.mem_of_getElem? (i := 63) rfl))) (by decide) (t := (.object "java/lang/String")) (t' := (.object "java/lang/String")) (by decide) (by decide)))).other W20 (Or.inr (slot_ne (Or.inr (hw _ (List.mem_of_getElem? (i := 67) rfl))) (Or.inr (hw _ (List.mem_of_getElem? (i := 65) rfl))) (by decide) (t := (.object "java/lang/String")) (t' := (.object "java/lang/String")) (by decide) (by decide))))
  obtain ⟨T23, h23, X23, e23, W23, st23⟩ := putF X20 hx hZ hown (host := "") (Or.inl (hw _ (List.mem_of_getElem? (i := 66) rfl))) Via.refl e20 f22 f21 (Or.inr ⟨(hw _ (List.mem_of_getElem? (i := 67) rfl)), rfl, hnm⟩) (hw _ (List.mem_of_getElem? (i := 41) rfl)) (ty := (.object "java/lang/String")) (by decide) (by rcases ref_cases ru2 with q | ⟨_, q⟩ <;> rw [q] <;> rfl) (by rcases ref_cases ru2 with q | ⟨_, q⟩ <;> rw [q] <;> rfl) (g := (mkF m 46 #[.val (.ref o1), .val (.ref o2), .val (.ref o2), .val (.ref o2), .val (.ref o3), .val (.ref o4), .val (.ref o2), .val u1, .val u2, .val (.long j3), .second, .val (.int (0 : Int32)), .val (.int i4), .val (.int i5)] [u2, (.ref o1)])) rfl rfl (hb hby d7_46)
  have N23 := Fr.snoc X23 N20 gn_o1
  have K23 : Keep h0 h23 [o1] := K20.wr W23 (Or.inl (List.mem_of_getElem? (i := 0) rfl))
  have F23 := f22.same W23
  refine step (T23.setTop (mkF m 49 #[.val (.ref o1), .val (.ref o2), .val (.ref o2), .val (.ref o2), .val (.ref o3), .val (.ref o4), .val (.ref o2), .val u1, .val u2, .val (.long j3), .second, .val (.int (0 : Int32)), .val (.int i4), .val (.int i5)] [])) (fun t k => st23 t k) ?_
  refine step (T23.setTop (mkF m 50 #[.val (.ref o1), .val (.ref o2), .val (.ref o2), .val (.ref o2), .val (.ref o3), .val (.ref o4), .val (.ref o2), .val u1, .val u2, .val (.long j3), .second, .val (.int (0 : Int32)), .val (.int i4), .val (.int i5)] [(.ref o1)])) (fun t k => XS.aloadN X23.here hx rfl (hb hby d7_49) rfl rfl k) ?_
  refine step (T23.setTop (mkF m 52 #[.val (.ref o1), .val (.ref o2), .val (.ref o2), .val (.ref o2), .val (.ref o3), .val (.ref o4), .val (.ref o2), .val u1, .val u2, .val (.long j3), .second, .val (.int (0 : Int32)), .val (.int i4), .val (.int i5)] [(.long j3), (.ref o1)])) (fun t k => XS.lload X23.here hx rfl (hb hby d7_50) rfl k) ?_
  have f24 := (f21.wr W23)
  have f25 := ((((((((Pm6.other W2 (Or.inr (slot_ne (Or.inr (hw _ (List.mem_of_getElem? (i := 69) rfl))) (Or.inr (hw _ (List.mem_of_getElem? (i := 53) rfl))) (by decide) (t := .long) (t' := (.object "java/lang/String")) (by decide) (by decide)))).other W5 (Or.inr (slot_ne (Or.inr (hw _ (List.mem_of_getElem? (i := 69) rfl))) (Or.inr (hw _ (List.mem_of_getElem? (i := 55) rfl))) (by decide) (t := .long) (t' := (.object "java/lang/String")) (by decide) (by decide)))).other W8 (Or.inr (slot_ne (Or.inr (hw _ (List.mem_of_getElem? (i := 69) rfl))) (Or.inr (hw _ (List.mem_of_getElem? (i := 57) rfl))) (by decide) (t := .long) (t' := (.object "java/lang/String")) (by decide) (by decide)))).other W11 (Or.inr (slot_ne (Or.inr (hw _ (List.mem_of_getElem? (i := 69) rfl))) (Or.inr (hw _ (List.mem_of_getElem? (i := 59) rfl))) (by decide) (t := .long) (t' := (.object "com/example/whisman/whisman/connector/HttpVersion")) (by decide) (by decide)))).other W14 (Or.inr (slot_ne (Or.inr (hw _ (List.mem_of_getElem? (i := 69) rfl))) (Or.inr (hw _ (List.mem_of_getElem? (i := 61) rfl))) (by decide) (t := .long) (t' := (.object "com/example/whisman/whisman/connector/HttpFields")) (by decide) (by decide)))).other W17 (Or.inr (slot_ne (Or.inr (hw _ (List.mem_of_getElem? (i := 69) rfl))) (Or.inr (hw _ (List.mem_of_getElem? (i := 63) rfl))) (by decide) (t := .long) (t' := (.object "java/lang/String")) (by decide) (by decide)))).other W20 (Or.inr (slot_ne (Or.inr (hw _ (List.mem_of_getElem? (i := 69) rfl))) (Or.inr (hw _ (List.mem_of_getElem? (i := 65) rfl))) (by decide) (t := .long) (t' := (.object "java/lang/String")) (by decide) (by decide)))).other W23 (Or.inr (slot_ne (Or.inr (hw _ (List.mem_of_getElem? (i := 69) rfl))) (Or.inr (hw _ (List.mem_of_getElem? (i := 67) rfl))) (by decide) (t := .long) (t' := (.object "java/lang/String")) (by decide) (by decide))))
  obtain ⟨T26, h26, X26, e26, W26, st26⟩ := putF X23 hx hZ hown (host := "") (Or.inl (hw _ (List.mem_of_getElem? (i := 68) rfl))) Via.refl e23 f25 f24 (Or.inr ⟨(hw _ (List.mem_of_getElem? (i := 69) rfl)), rfl, hnm⟩) (hw _ (List.mem_of_getElem? (i := 41) rfl)) (ty := .long) (by decide) rfl rfl (g := (mkF m 52 #[.val (.ref o1), .val (.ref o2), .val (.ref o2), .val (.ref o2), .val (.ref o3), .val (.ref o4), .val (.ref o2), .val u1, .val u2, .val (.long j3), .second, .val (.int (0 : Int32)), .val (.int i4), .val (.int i5)] [(.long j3), (.ref o1)])) rfl rfl (hb hby d7_52)
  have N26 := Fr.snoc X26 N23 gn_o1
  have K26 : Keep h0 h26 [o1] := K23.wr W26 (Or.inl (List.mem_of_getElem? (i := 0) rfl))
  have F26 := f25.same W26
  refine step (T26.setTop (mkF m 55 #[.val (.ref o1), .val (.ref o2), .val (.ref o2), .val (.ref o2), .val (.ref o3), .val (.ref o4), .val (.ref o2), .val u1, .val u2, .val (.long j3), .second, .val (.int (0 : Int32)), .val (.int i4), .val (.int i5)] [])) (fun t k => st26 t k) ?_
  refine step (T26.setTop (mkF m 56 #[.val (.ref o1), .val (.ref o2), .val (.ref o2), .val (.ref o2), .val (.ref o3), .val (.ref o4), .val (.ref o2), .val u1, .val u2, .val (.long j3), .second, .val (.int (0 : Int32)), .val (.int i4), .val (.int i5)] [(.ref o1)])) (fun t k => XS.aloadN X26.here hx rfl (hb hby d7_55) rfl rfl k) ?_
  refine step (T26.setTop (mkF m 58 #[.val (.ref o1), .val (.ref o2), .val (.ref o2), .val (.ref o2), .val (.ref o3), .val (.ref o4), .val (.ref o2), .val u1, .val u2, .val (.long j3), .second, .val (.int (0 : Int32)), .val (.int i4), .val (.int i5)] [(.int (0 : Int32)), (.ref o1)])) (fun t k => XS.iload X26.here hx rfl (hb hby d7_56) rfl k) ?_
  have f27 := (f24.wr W26)
  have f28 := (((((((((Pm5.other W2 (Or.inr (slot_ne (Or.inr (hw _ (List.mem_of_getElem? (i := 71) rfl))) (Or.inr (hw _ (List.mem_of_getElem? (i := 53) rfl))) (by decide) (t := .boolean) (t' := (.object "java/lang/String")) (by decide) (by decide)))).other W5 (Or.inr (slot_ne (Or.inr (hw _ (List.mem_of_getElem? (i := 71) rfl))) (Or.inr (hw _ (List.mem_of_getElem? (i := 55) rfl))) (by decide) (t := .boolean) (t' := (.object "java/lang/String")) (by decide) (by decide)))).other W8 (Or.inr (slot_ne (Or.inr (hw _ (List.mem_of_getElem? (i := 71) rfl))) (Or.inr (hw _ (List.mem_of_getElem? (i := 57) rfl))) (by decide) (t := .boolean) (t' := (.object "java/lang/String")) (by decide) (by decide)))).other W11 (Or.inr (slot_ne (Or.inr (hw _ (List.mem_of_getElem? (i := 71) rfl))) (Or.inr (hw _ (List.mem_of_getElem? (i := 59) rfl))) (by decide) (t := .boolean) (t' := (.object "com/example/whisman/whisman/connector/HttpVersion")) (by decide) (by decide)))).other W14 (Or.inr (slot_ne (Or.inr (hw _ (List.mem_of_getElem? (i := 71) rfl))) (Or.inr (hw _ (List.mem_of_getElem? (i := 61) rfl))) (by decide) (t := .boolean) (t' := (.object "com/example/whisman/whisman/connector/HttpFields")) (by decide) (by decide)))).other W17 (Or.inr (slot_ne (Or.inr (hw _ (List.mem_of_getElem? (i := 71) rfl))) (Or.inr (hw _ (List.mem_of_getElem? (i := 63) rfl))) (by decide) (t := .boolean) (t' := (.object "java/lang/String")) (by decide) (by decide)))).other W20 (Or.inr (slot_ne (Or.inr (hw _ (List.mem_of_getElem? (i := 71) rfl))) (Or.inr (hw _ (List.mem_of_getElem? (i := 65) rfl))) (by decide) (t := .boolean) (t' := (.object "java/lang/String")) (by decide) (by decide)))).other W23 (Or.inr (slot_ne (Or.inr (hw _ (List.mem_of_getElem? (i := 71) rfl))) (Or.inr (hw _ (List.mem_of_getElem? (i := 67) rfl))) (by decide) (t := .boolean) (t' := (.object "java/lang/String")) (by decide) (by decide)))).other W26 (Or.inr (slot_ne (Or.inr (hw _ (List.mem_of_getElem? (i := 71) rfl))) (Or.inr (hw _ (List.mem_of_getElem? (i := 69) rfl))) (by decide) (t := .boolean) (t' := .long) (by decide) (by decide))))
  obtain ⟨T29, h29, X29, e29, W29, st29⟩ := putFN X26 hx hZ hown (hw _ (List.mem_of_getElem? (i := 70) rfl)) Via.refl e26 f28 f27 (Or.inr ⟨(hw _ (List.mem_of_getElem? (i := 71) rfl)), rfl, hnm⟩) (hw _ (List.mem_of_getElem? (i := 41) rfl)) (ty := .boolean) (v' := (.int (0 : Int32))) (by decide) rfl (fits_nar_bool (0 : Int32)) (g := (mkF m 58 #[.val (.ref o1), .val (.ref o2), .val (.ref o2), .val (.ref o2), .val (.ref o3), .val (.ref o4), .val (.ref o2), .val u1, .val u2, .val (.long j3), .second, .val (.int (0 : Int32)), .val (.int i4), .val (.int i5)] [(.int (0 : Int32)), (.ref o1)])) rfl rfl (hb hby d7_58)
  have N29 := Fr.snoc X29 N26 gn_o1
  have K29 : Keep h0 h29 [o1] := K26.wr W29 (Or.inl (List.mem_of_getElem? (i := 0) rfl))
  have F29 := f28.same W29
  refine step (T29.setTop (mkF m 61 #[.val (.ref o1), .val (.ref o2), .val (.ref o2), .val (.ref o2), .val (.ref o3), .val (.ref o4), .val (.ref o2), .val u1, .val u2, .val (.long j3), .second, .val (.int (0 : Int32)), .val (.int i4), .val (.int i5)] [])) (fun t k => st29 t k) ?_
  refine step (T29.setTop (mkF m 62 #[.val (.ref o1), .val (.ref o2), .val (.ref o2), .val (.ref o2), .val (.ref o3), .val (.ref o4), .val (.ref o2), .val u1, .val u2, .val (.long j3), .second, .val (.int (0 : Int32)), .val (.int i4), .val (.int i5)] [(.ref o1)])) (fun t k => XS.aloadN X29.here hx rfl (hb hby d7_61) rfl rfl k) ?_
  refine step (T29.setTop (mkF m 64 #[.val (.ref o1), .val (.ref o2), .val (.ref o2), .val (.ref o2), .val (.ref o3), .val (.ref o4), .val (.ref o2), .val u1, .val u2, .val (.long j3), .second, .val (.int (0 : Int32)), .val (.int i4), .val (.int i5)] [(.int i4), (.ref o1)])) (fun t k => XS.iload X29.here hx rfl (hb hby d7_62) rfl k) ?_
  have f30 := (f27.wr W29)
  have f31 := ((((((((((Pm11.other W2 (Or.inr (slot_ne (Or.inr (hw _ (List.mem_of_getElem? (i := 73) rfl))) (Or.inr (hw _ (List.mem_of_getElem? (i := 53) rfl))) (by decide) (t := .boolean) (t' := (.object "java/lang/String")) (by decide) (by decide)))).other W5 (Or.inr (slot_ne (Or.inr (hw _ (List.mem_of_getElem? (i := 73) rfl))) (Or.inr (hw _ (List.mem_of_getElem? (i := 55) rfl))) (by decide) (t := .boolean) (t' := (.object "java/lang/String")) (by decide) (by decide)))).other W8 (Or.inr (slot_ne (Or.inr (hw _ (List.mem_of_getElem? (i := 73) rfl))) (Or.inr (hw _ (List.mem_of_getElem? (i := 57) rfl))) (by decide) (t := .boolean) (t' := (.object "java/lang/String")) (by decide) (by decide)))).other W11 (Or.inr (slot_ne (Or.inr (hw _ (List.mem_of_getElem? (i := 73) rfl))) (Or.inr (hw _ (List.mem_of_getElem? (i := 59) rfl))) (by decide) (t := .boolean) (t' := (.object "com/example/whisman/whisman/connector/HttpVersion")) (by decide) (by decide)))).other W14 (Or.inr (slot_ne (Or.inr (hw _ (List.mem_of_getElem? (i := 73) rfl))) (Or.inr (hw _ (List.mem_of_getElem? (i := 61) rfl))) (by decide) (t := .boolean) (t' := (.object "com/example/whisman/whisman/connector/HttpFields")) (by decide) (by decide)))).other W17 (Or.inr (slot_ne (Or.inr (hw _ (List.mem_of_getElem? (i := 73) rfl))) (Or.inr (hw _ (List.mem_of_getElem? (i := 63) rfl))) (by decide) (t := .boolean) (t' := (.object "java/lang/String")) (by decide) (by decide)))).other W20 (Or.inr (slot_ne (Or.inr (hw _ (List.mem_of_getElem? (i := 73) rfl))) (Or.inr (hw _ (List.mem_of_getElem? (i := 65) rfl))) (by decide) (t := .boolean) (t' := (.object "java/lang/String")) (by decide) (by decide)))).other W23 (Or.inr (slot_ne (Or.inr (hw _ (List.mem_of_getElem? (i := 73) rfl))) (Or.inr (hw _ (List.mem_of_getElem? (i := 67) rfl))) (by decide) (t := .boolean) (t' := (.object "java/lang/String")) (by decide) (by decide)))).other W26 (Or.inr (slot_ne (Or.inr (hw _ (List.mem_of_getElem? (i := 73) rfl))) (Or.inr (hw _ (List.mem_of_getElem? (i := 69) rfl))) (by decide) (t := .boolean) (t' := .long) (by decide) (by decide)))).other W29 (Or.inr (slot_ne (Or.inr (hw _ (List.mem_of_getElem? (i := 73) rfl))) (Or.inr (hw _ (List.mem_of_getElem? (i := 71) rfl))) (by decide) (t := .boolean) (t' := .boolean) (by decide) (by decide))))
  obtain ⟨T32, h32, X32, e32, W32, st32⟩ := putFN X29 hx hZ hown (hw _ (List.mem_of_getElem? (i := 72) rfl)) Via.refl e29 f31 f30 (Or.inr ⟨(hw _ (List.mem_of_getElem? (i := 73) rfl)), rfl, hnm⟩) (hw _ (List.mem_of_getElem? (i := 41) rfl)) (ty := .boolean) (v' := (.int (nar .boolean i4))) (by decide) rfl (fits_nar_bool i4) (g := (mkF m 64 #[.val (.ref o1), .val (.ref o2), .val (.ref o2), .val (.ref o2), .val (.ref o3), .val (.ref o4), .val (.ref o2), .val u1, .val u2, .val (.long j3), .second, .val (.int (0 : Int32)), .val (.int i4), .val (.int i5)] [(.int i4), (.ref o1)])) rfl rfl (hb hby d7_64)
  have N32 := Fr.snoc X32 N29 gn_o1
  have K32 : Keep h0 h32 [o1] := K29.wr W32 (Or.inl (List.mem_of_getElem? (i := 0) rfl))
  have F32 := f31.same W32
  refine step (T32.setTop (mkF m 67 #[.val (.ref o1), .val (.ref o2), .val (.ref o2), .val (.ref o2), .val (.ref o3), .val (.ref o4), .val (.ref o2), .val u1, .val u2, .val (.long j3), .second, .val (.int (0 : Int32)), .val (.int i4), .val (.int i5)] [])) (fun t k => st32 t k) ?_
  refine step (T32.setTop (mkF m 68 #[.val (.ref o1), .val (.ref o2), .val (.ref o2), .val (.ref o2), .val (.ref o3), .val (.ref o4), .val (.ref o2), .val u1, .val u2, .val (.long j3), .second, .val (.int (0 : Int32)), .val (.int i4), .val (.int i5)] [(.ref o1)])) (fun t k => XS.aloadN X32.here hx rfl (hb hby d7_67) rfl rfl k) ?_
  refine step (T32.setTop (mkF m 70 #[.val (.ref o1), .val (.ref o2), .val (.ref o2), .val (.ref o2), .val (.ref o3), .val (.ref o4), .val (.ref o2), .val u1, .val u2, .val (.long j3), .second, .val (.int (0 : Int32)), .val (.int i4), .val (.int i5)] [(.int i5), (.ref o1)])) (fun t k => XS.iload X32.here hx rfl (hb hby d7_68) rfl k) ?_
  have f33 := (f30.wr W32)
  have f34 := (((((((((((Pm7.other W2 (Or.inr (slot_ne (Or.inr (hw _ (List.mem_of_getElem? (i := 75) rfl))) (Or.inr (hw _ (List.mem_of_getElem? (i := 53) rfl))) (by decide) (t := .boolean) (t' := (.object "java/lang/String")) (by decide) (by decide)))).other W5 (Or.inr (slot_ne (Or.inr (hw _ (List.mem_of_getElem? (i := 75) rfl))) (Or.inr (hw _ (List.mem_of_getElem? (i := 55) rfl))) (by decide) (t := .boolean) (t' := (.object "java/lang/String")) (by decide) (by decide)))).other W8 (Or.inr (slot_ne (Or.inr (hw _ (List.mem_of_getElem? (i := 75) rfl))) (Or.inr (hw _ (List.mem_of_getElem? (i := 57) rfl))) (by decide) (t := .boolean) (t' := (.object "java/lang/String")) (by decide) (by decide)))).other W11 (Or.inr (slot_ne (Or.inr (hw _ (List.mem_of_getElem? (i := 75) rfl))) (Or.inr (hw _ (List.mem_of_getElem? (i := 59) rfl))) (by decide) (t := .boolean) (t' := (.object "com/example/whisman/whisman/connector/HttpVersion")) (by decide) (by decide)))).other W14 (Or.inr (slot_ne (Or.inr (hw _ (List.mem_of_getElem? (i := 75) rfl))) (Or.inr (hw _ (List.mem_of_getElem? (i := 61) rfl))) (by decide) (t := .boolean) (t' := (.object "com/example/whisman/whisman/connector/HttpFields")) (by decide) (by decide)))).other W17 (Or.inr (slot_ne (Or.inr (hw _ (List.mem_of_getElem? (i := 75) rfl))) (Or.inr (hw _ (List.mem_of_getElem? (i := 63) rfl))) (by decide) (t := .boolean) (t' := (.object "java/lang/String")) (by decide) (by decide)))).other W20 (Or.inr (slot_ne (Or.inr (hw _ (List.mem_of_getElem? (i := 75) rfl))) (Or.inr (hw _ (List.mem_of_getElem? (i := 65) rfl))) (by decide) (t := .boolean) (t' := (.object "java/lang/String")) (by decide) (by decide)))).other W23 (Or.inr (slot_ne (Or.inr (hw _ (List.mem_of_getElem? (i := 75) rfl))) (Or.inr (hw _ (List.mem_of_getElem? (i := 67) rfl))) (by decide) (t := .boolean) (t' := (.object "java/lang/String")) (by decide) (by decide)))).other W26 (Or.inr (slot_ne (Or.inr (hw _ (List.mem_of_getElem? (i := 75) rfl))) (Or.inr (hw _ (List.mem_of_getElem? (i := 69) rfl))) (by decide) (t := .boolean) (t' := .long) (by decide) (by decide)))).other W29 (Or.inr (slot_ne (Or.inr (hw _ (List.mem_of_getElem? (i := 75) rfl))) (Or.inr (hw _ (List.mem_of_getElem? (i := 71) rfl))) (by decide) (t := .boolean) (t' := .boolean) (by decide) (by decide)))).other W32 (Or.inr (slot_ne (Or.inr (hw _ (List.mem_of_getElem? (i := 75) rfl))) (Or.inr (hw _ (List.mem_of_getElem? (i := 73) rfl))) (by decide) (t := .boolean) (t' := .boolean) (by decide) (by decide))))
  obtain ⟨T35, h35, X35, e35, W35, st35⟩ := putFN X32 hx hZ hown (hw _ (List.mem_of_getElem? (i := 74) rfl)) Via.refl e32 f34 f33 (Or.inr ⟨(hw _ (List.mem_of_getElem? (i := 75) rfl)), rfl, hnm⟩) (hw _ (List.mem_of_getElem? (i := 41) rfl)) (ty := .boolean) (v' := (.int (nar .boolean i5))) (by decide) rfl (fits_nar_bool i5) (g := (mkF m 70 #[.val (.ref o1), .val (.ref o2), .val (.ref o2), .val (.ref o2), .val (.ref o3), .val (.ref o4), .val (.ref o2), .val u1, .val u2, .val (.long j3), .second, .val (.int (0 : Int32)), .val (.int i4), .val (.int i5)] [(.int i5), (.ref o1)])) rfl rfl (hb hby d7_70)
  have N35 := Fr.snoc X35 N32 gn_o1
  have K35 : Keep h0 h35 [o1] := K32.wr W35 (Or.inl (List.mem_of_getElem? (i := 0) rfl))
  have F35 := f34.same W35
  refine step (T35.setTop (mkF m 73 #[.val (.ref o1), .val (.ref o2), .val (.ref o2), .val (.ref o2), .val (.ref o3), .val (.ref o4), .val (.ref o2), .val u1, .val u2, .val (.long j3), .second, .val (.int (0 : Int32)), .val (.int i4), .val (.int i5)] [])) (fun t k => st35 t k) ?_
  have f36 := ((((F23.other W26 (Or.inr (slot_ne (Or.inr (hw _ (List.mem_of_getElem? (i := 67) rfl))) (Or.inr (hw _ (List.mem_of_getElem? (i := 69) rfl))) (by decide) (t := (.object "java/lang/String")) (t' := .long) (by decide) (by decide)))).other W29 (Or.inr (slot_ne (Or.inr (hw _ (List.mem_of_getElem? (i := 67) rfl))) (Or.inr (hw _ (List.mem_of_getElem? (i := 71) rfl))) (by decide) (t := (.object "java/lang/String")) (t' := .boolean) (by decide) (by decide)))).other W32 (Or.inr (slot_ne (Or.inr (hw _ (List.mem_of_getElem? (i := 67) rfl))) (Or.inr (hw _ (List.mem_of_getElem? (i := 73) rfl))) (by decide) (t := (.object "java/lang/String")) (t' := .boolean) (by decide) (by decide)))).other W35 (Or.inr (slot_ne (Or.inr (hw _ (List.mem_of_getElem? (i := 67) rfl))) (Or.inr (hw _ (List.mem_of_getElem? (i := 75) rfl))) (by decide) (t := (.object "java/lang/String")) (t' := .boolean) (by decide) (by decide))))
  have f37 := ((F29.other W32 (Or.inr (slot_ne (Or.inr (hw _ (List.mem_of_getElem? (i := 71) rfl))) (Or.inr (hw _ (List.mem_of_getElem? (i := 73) rfl))) (by decide) (t := .boolean) (t' := .boolean) (by decide) (by decide)))).other W35 (Or.inr (slot_ne (Or.inr (hw _ (List.mem_of_getElem? (i := 71) rfl))) (Or.inr (hw _ (List.mem_of_getElem? (i := 75) rfl))) (by decide) (t := .boolean) (t' := .boolean) (by decide) (by decide))))
  have f38 := (((F26.other W29 (Or.inr (slot_ne (Or.inr (hw _ (List.mem_of_getElem? (i := 69) rfl))) (Or.inr (hw _ (List.mem_of_getElem? (i := 71) rfl))) (by decide) (t := .long) (t' := .boolean) (by decide) (by decide)))).other W32 (Or.inr (slot_ne (Or.inr (hw _ (List.mem_of_getElem? (i := 69) rfl))) (Or.inr (hw _ (List.mem_of_getElem? (i := 73) rfl))) (by decide) (t := .long) (t' := .boolean) (by decide) (by decide)))).other W35 (Or.inr (slot_ne (Or.inr (hw _ (List.mem_of_getElem? (i := 69) rfl))) (Or.inr (hw _ (List.mem_of_getElem? (i := 75) rfl))) (by decide) (t := .long) (t' := .boolean) (by decide) (by decide))))
  have f39 := (((((((F14.other W17 (Or.inr (slot_ne (Or.inr (hw _ (List.mem_of_getElem? (i := 61) rfl))) (Or.inr (hw _ (List.mem_of_getElem? (i := 63) rfl))) (by decide) (t := (.object "com/example/whisman/whisman/connector/HttpFields")) (t' := (.object "java/lang/String")) (by decide) (by decide)))).other W20 (Or.inr (slot_ne (Or.inr (hw _ (List.mem_of_getElem? (i := 61) rfl))) (Or.inr (hw _ (List.mem_of_getElem? (i := 65) rfl))) (by decide) (t := (.object "com/example/whisman/whisman/connector/HttpFields")) (t' := (.object "java/lang/String")) (by decide) (by decide)))).other W23 (Or.inr (slot_ne (Or.inr (hw _ (List.mem_of_getElem? (i := 61) rfl))) (Or.inr (hw _ (List.mem_of_getElem? (i := 67) rfl))) (by decide) (t := (.object "com/example/whisman/whisman/connector/HttpFields")) (t' := (.object "java/lang/String")) (by decide) (by decide)))).other W26 (Or.inr (slot_ne (Or.inr (hw _ (List.mem_of_getElem? (i := 61) rfl))) (Or.inr (hw _ (List.mem_of_getElem? (i := 69) rfl))) (by decide) (t := (.object "com/example/whisman/whisman/connector/HttpFields")) (t' := .long) (by decide) (by decide)))).other W29 (Or.inr (slot_ne (Or.inr (hw _ (List.mem_of_getElem? (i := 61) rfl))) (Or.inr (hw _ (List.mem_of_getElem? (i := 71) rfl))) (by decide) (t := (.object "com/example/whisman/whisman/connector/HttpFields")) (t' := .boolean) (by decide) (by decide)))).other W32 (Or.inr (slot_ne (Or.inr (hw _ (List.mem_of_getElem? (i := 61) rfl))) (Or.inr (hw _ (List.mem_of_getElem? (i := 73) rfl))) (by decide) (t := (.object "com/example/whisman/whisman/connector/HttpFields")) (t' := .boolean) (by decide) (by decide)))).other W35 (Or.inr (slot_ne (Or.inr (hw _ (List.mem_of_getElem? (i := 61) rfl))) (Or.inr (hw _ (List.mem_of_getElem? (i := 75) rfl))) (by decide) (t := (.object "com/example/whisman/whisman/connector/HttpFields")) (t' := .boolean) (by decide) (by decide))))
  have f40 := (((((((((((F2.other W5 (Or.inr (slot_ne (Or.inr (hw _ (List.mem_of_getElem? (i := 53) rfl))) (Or.inr (hw _ (List.mem_of_getElem? (i := 55) rfl))) (by decide) (t := (.object "java/lang/String")) (t' := (.object "java/lang/String")) (by decide) (by decide)))).other W8 (Or.inr (slot_ne (Or.inr (hw _ (List.mem_of_getElem? (i := 53) rfl))) (Or.inr (hw _ (List.mem_of_getElem? (i := 57) rfl))) (by decide) (t := (.object "java/lang/String")) (t' := (.object "java/lang/String")) (by decide) (by decide)))).other W11 (Or.inr (slot_ne (Or.inr (hw _ (List.mem_of_getElem? (i := 53) rfl))) (Or.inr (hw _ (List.mem_of_getElem? (i := 59) rfl))) (by decide) (t := (.object "java/lang/String")) (t' := (.object "com/example/whisman/whisman/connector/HttpVersion")) (by decide) (by decide)))).other W14 (Or.inr (slot_ne (Or.inr (hw _ (List.mem_of_getElem? (i := 53) rfl))) (Or.inr (hw _ (List.mem_of_getElem? (i := 61) rfl))) (by decide) (t := (.object "java/lang/String")) (t' := (.object "com/example/whisman/whisman/connector/HttpFields")) (by decide) (by decide)))).other W17 (Or.inr (slot_ne (Or.inr (hw _ (List.mem_of_getElem? (i := 53) rfl))) (Or.inr (hw _ (List.mem_of_getElem? (i := 63) rfl))) (by decide) (t := (.object "java/lang/String")) (t' := (.object "java/lang/String")) (by decide) (by decide)))).other W20 (Or.inr (slot_ne (Or.inr (hw _ (List.mem_of_getElem? (i := 53) rfl))) (Or.inr (hw _ (List.mem_of_getElem? (i := 65) rfl))) (by decide) (t := (.object "java/lang/String")) (t' := (.object "java/lang/String")) (by decide) (by decide)))).other W23 (Or.inr (slot_ne (Or.inr (hw _ (List.mem_of_getElem? (i := 53) rfl))) (Or.inr (hw _ (List.mem_of_getElem? (i := 67) rfl))) (by decide) (t := (.object "java/lang/String")) (t' := (.object "java/lang/String")) (by decide) (by decide)))).other W26 (Or.inr (slot_ne (Or.inr (hw _ (List.mem_of_getElem? (i := 53) rfl))) (Or.inr (hw _ (List.mem_of_getElem? (i := 69) rfl))) (by decide) (t := (.object "java/lang/String")) (t' := .long) (by decide) (by decide)))).other W29 (Or.inr (slot_ne (Or.inr (hw _ (List.mem_of_getElem? (i := 53) rfl))) (Or.inr (hw _ (List.mem_of_getElem? (i := 71) rfl))) (by decide) (t := (.object "java/lang/String")) (t' := .boolean) (by decide) (by decide)))).other W32 (Or.inr (slot_ne (Or.inr (hw _ (List.mem_of_getElem? (i := 53) rfl))) (Or.inr (hw _ (List.mem_of_getElem? (i := 73) rfl))) (by decide) (t := (.object "java/lang/String")) (t' := .boolean) (by decide) (by decide)))).other W35 (Or.inr (slot_ne (Or.inr (hw _ (List.mem_of_getElem? (i := 53) rfl))) (Or.inr (hw _ (List.mem_of_getElem? (i := 75) rfl))) (by decide) (t := (.object "java/lang/String")) (t' := .boolean) (by decide) (by decide))))
  have f41 := ((((((F17.other W20 (Or.inr (slot_ne (Or.inr (hw _ (List.mem_of_getElem? (i := 63) rfl))) (Or.inr (hw _ (List.mem_of_getElem? (i := 65) rfl))) (by decide) (t := (.object "java/lang/String")) (t' := (.object "java/lang/String")) (by decide) (by decide)))).other W23 (Or.inr (slot_ne (Or.inr (hw _ (List.mem_of_getElem? (i := 63) rfl))) (Or.inr (hw _ (List.mem_of_getElem? (i := 67) rfl))) (by decide) (t := (.object "java/lang/String")) (t' := (.object "java/lang/String")) (by decide) (by decide)))).other W26 (Or.inr (slot_ne (Or.inr (hw _ (List.mem_of_getElem? (i := 63) rfl))) (Or.inr (hw _ (List.mem_of_getElem? (i := 69) rfl))) (by decide) (t := (.object "java/lang/String")) (t' := .long) (by decide) (by decide)))).other W29 (Or.inr (slot_ne (Or.inr (hw _ (List.mem_of_getElem? (i := 63) rfl))) (Or.inr (hw _ (List.mem_of_getElem? (i := 71) rfl))) (by decide) (t := (.object "java/lang/String")) (t' := .boolean) (by decide) (by decide)))).other W32 (Or.inr (slot_ne (Or.inr (hw _ (List.mem_of_getElem? (i := 63) rfl))) (Or.inr (hw _ (List.mem_of_getElem? (i := 73) rfl))) (by decide) (t := (.object "java/lang/String")) (t' := .boolean) (by decide) (by decide)))).other W35 (Or.inr (slot_ne (Or.inr (hw _ (List.mem_of_getElem? (i := 63) rfl))) (Or.inr (hw _ (List.mem_of_getElem? (i := 75) rfl))) (by decide) (t := (.object "java/lang/String")) (t' := .boolean) (by decide) (by decide))))
  have f42 := (F32.other W35 (Or.inr (slot_ne (Or.inr (hw _ (List.mem_of_getElem? (i := 73) rfl))) (Or.inr (hw _ (List.mem_of_getElem? (i := 75) rfl))) (by decide) (t := .boolean) (t' := .boolean) (by decide) (by decide))))
  have f43 := (((((F20.other W23 (Or.inr (slot_ne (Or.inr (hw _ (List.mem_of_getElem? (i := 65) rfl))) (Or.inr (hw _ (List.mem_of_getElem? (i := 67) rfl))) (by decide) (t := (.object "java/lang/String")) (t' := (.object "java/lang/String")) (by decide) (by decide)))).other W26 (Or.inr (slot_ne (Or.inr (hw _ (List.mem_of_getElem? (i := 65) rfl))) (Or.inr (hw _ (List.mem_of_getElem? (i := 69) rfl))) (by decide) (t := (.object "java/lang/String")) (t' := .long) (by decide) (by decide)))).other W29 (Or.inr (slot_ne (Or.inr (hw _ (List.mem_of_getElem? (i := 65) rfl))) (Or.inr (hw _ (List.mem_of_getElem? (i := 71) rfl))) (by decide) (t := (.object "java/lang/String")) (t' := .boolean) (by decide) (by decide)))).other W32 (Or.inr (slot_ne (Or.inr (hw _ (List.mem_of_getElem? (i := 65) rfl))) (Or.inr (hw _ (List.mem_of_getElem? (i := 73) rfl))) (by decide) (t := (.object "java/lang/String")) (t' := .boolean) (by decide) (by decide)))).other W35 (Or.inr (slot_ne (Or.inr (hw _ (List.mem_of_getElem? (i := 65) rfl))) (Or.inr (hw _ (List.mem_of_getElem? (i := 75) rfl))) (by decide) (t := (.object "java/lang/String")) (t' := .boolean) (by decide) (by decide))))
  have f44 := ((((((((((F5.other W8 (Or.inr (slot_ne (Or.inr (hw _ (List.mem_of_getElem? (i := 55) rfl))) (Or.inr (hw _ (List.mem_of_getElem? (i := 57) rfl))) (by decide) (t := (.object "java/lang/String")) (t' := (.object "java/lang/String")) (by decide) (by decide)))).other W11 (Or.inr (slot_ne (Or.inr (hw _ (List.mem_of_getElem? (i := 55) rfl))) (Or.inr (hw _ (List.mem_of_getElem? (i := 59) rfl))) (by decide) (t := (.object "java/lang/String")) (t' := (.object "com/example/whisman/whisman/connector/HttpVersion")) (by decide) (by decide)))).other W14 (Or.inr (slot_ne (Or.inr (hw _ (List.mem_of_getElem? (i := 55) rfl))) (Or.inr (hw _ (List.mem_of_getElem? (i := 61) rfl))) (by decide) (t := (.object "java/lang/String")) (t' := (.object "com/example/whisman/whisman/connector/HttpFields")) (by decide) (by decide)))).other W17 (Or.inr (slot_ne (Or.inr (hw _ (List.mem_of_getElem? (i := 55) rfl))) (Or.inr (hw _ (List.mem_of_getElem? (i := 63) rfl))) (by decide) (t := (.object "java/lang/String")) (t' := (.object "java/lang/String")) (by decide) (by decide)))).other W20 (Or.inr (slot_ne (Or.inr (hw _ (List.mem_of_getElem? (i := 55) rfl))) (Or.inr (hw _ (List.mem_of_getElem? (i := 65) rfl))) (by decide) (t := (.object "java/lang/String")) (t' := (.object "java/lang/String")) (by decide) (by decide)))).other W23 (Or.inr (slot_ne (Or.inr (hw _ (List.mem_of_getElem? (i := 55) rfl))) (Or.inr (hw _ (List.mem_of_getElem? (i := 67) rfl))) (by decide) (t := (.object "java/lang/String")) (t' := (.object "java/lang/String")) (by decide) (by decide)))).other W26 (Or.inr (slot_ne (Or.inr (hw _ (List.mem_of_getElem? (i := 55) rfl))) (Or.inr (hw _ (List.mem_of_getElem? (i := 69) rfl))) (by decide) (t := (.object "java/lang/String")) (t' := .long) (by decide) (by decide)))).other W29 (Or.inr (slot_ne (Or.inr (hw _ (List.mem_of_getElem? (i := 55) rfl))) (Or.inr (hw _ (List.mem_of_getElem? (i := 71) rfl))) (by decide) (t := (.object "java/lang/String")) (t' := .boolean) (by decide) (by decide)))).other W32 (Or.inr (slot_ne (Or.inr (hw _ (List.mem_of_getElem? (i := 55) rfl))) (Or.inr (hw _ (List.mem_of_getElem? (i := 73) rfl))) (by decide) (t := (.object "java/lang/String")) (t' := .boolean) (by decide) (by decide)))).other W35 (Or.inr (slot_ne (Or.inr (hw _ (List.mem_of_getElem? (i := 55) rfl))) (Or.inr (hw _ (List.mem_of_getElem? (i := 75) rfl))) (by decide) (t := (.object "java/lang/String")) (t' := .boolean) (by decide) (by decide))))
  have f45 := ((((((((F11.other W14 (Or.inr (slot_ne (Or.inr (hw _ (List.mem_of_getElem? (i := 59) rfl))) (Or.inr (hw _ (List.mem_of_getElem? (i := 61) rfl))) (by decide) (t := (.object "com/example/whisman/whisman/connector/HttpVersion")) (t' := (.object "com/example/whisman/whisman/connector/HttpFields")) (by decide) (by decide)))).other W17 (Or.inr (slot_ne (Or.inr (hw _ (List.mem_of_getElem? (i := 59) rfl))) (Or.inr (hw _ (List.mem_of_getElem? (i := 63) rfl))) (by decide) (t := (.object "com/example/whisman/whisman/connector/HttpVersion")) (t' := (.object "java/lang/String")) (by decide) (by decide)))).other W20 (Or.inr (slot_ne (Or.inr (hw _ (List.mem_of_getElem? (i := 59) rfl))) (Or.inr (hw _ (List.mem_of_getElem? (i := 65) rfl))) (by decide) (t := (.object "com/example/whisman/whisman/connector/HttpVersion")) (t' := (.object "java/lang/String")) (by decide) (by decide)))).other W23 (Or.inr (slot_ne (Or.inr (hw _ (List.mem_of_getElem? (i := 59) rfl))) (Or.inr (hw _ (List.mem_of_getElem? (i := 67) rfl))) (by decide) (t := (.object "com/example/whisman/whisman/connector/HttpVersion")) (t' := (.object "java/lang/String")) (by decide) (by decide)))).other W26 (Or.inr (slot_ne (Or.inr (hw _ (List.mem_of_getElem? (i := 59) rfl))) (Or.inr (hw _ (List.mem_of_getElem? (i := 69) rfl))) (by decide) (t := (.object "com/example/whisman/whisman/connector/HttpVersion")) (t' := .long) (by decide) (by decide)))).other W29 (Or.inr (slot_ne (Or.inr (hw _ (List.mem_of_getElem? (i := 59) rfl))) (Or.inr (hw _ (List.mem_of_getElem? (i := 71) rfl))) (by decide) (t := (.object "com/example/whisman/whisman/connector/HttpVersion")) (t' := .boolean) (by decide) (by decide)))).other W32 (Or.inr (slot_ne (Or.inr (hw _ (List.mem_of_getElem? (i := 59) rfl))) (Or.inr (hw _ (List.mem_of_getElem? (i := 73) rfl))) (by decide) (t := (.object "com/example/whisman/whisman/connector/HttpVersion")) (t' := .boolean) (by decide) (by decide)))).other W35 (Or.inr (slot_ne (Or.inr (hw _ (List.mem_of_getElem? (i := 59) rfl))) (Or.inr (hw _ (List.mem_of_getElem? (i := 75) rfl))) (by decide) (t := (.object "com/example/whisman/whisman/connector/HttpVersion")) (t' := .boolean) (by decide) (by decide))))
  have f46 := (((((((((F8.other W11 (Or.inr (slot_ne (Or.inr (hw _ (List.mem_of_getElem? (i := 57) rfl))) (Or.inr (hw _ (List.mem_of_getElem? (i := 59) rfl))) (by decide) (t := (.object "java/lang/String")) (t' := (.object "com/example/whisman/whisman/connector/HttpVersion")) (by decide) (by decide)))).other W14 (Or.inr (slot_ne (Or.inr (hw _ (List.mem_of_getElem? (i := 57) rfl))) (Or.inr (hw _ (List.mem_of_getElem? (i := 61) rfl))) (by decide) (t := (.object "java/lang/String")) (t' := (.object "com/example/whisman/whisman/connector/HttpFields")) (by decide) (by decide)))).other W17 (Or.inr (slot_ne (Or.inr (hw _ (List.mem_of_getElem? (i := 57) rfl))) (Or.inr (hw _ (List.mem_of_getElem? (i := 63) rfl))) (by decide) (t := (.object "java/lang/String")) (t' := (.object "java/lang/String")) (by decide) (by decide)))).other W20 (Or.inr (slot_ne (Or.inr (hw _ (List.mem_of_getElem? (i := 57) rfl))) (Or.inr (hw _ (List.mem_of_getElem? (i := 65) rfl))) (by decide) (t := (.object "java/lang/String")) (t' := (.object "java/lang/String")) (by decide) (by decide)))).other W23 (Or.inr (slot_ne (Or.inr (hw _ (List.mem_of_getElem? (i := 57) rfl))) (Or.inr (hw _ (List.mem_of_getElem? (i := 67) rfl))) (by decide) (t := (.object "java/lang/String")) (t' := (.object "java/lang/String")) (by decide) (by decide)))).other W26 (Or.inr (slot_ne (Or.inr (hw _ (List.mem_of_getElem? (i := 57) rfl))) (Or.inr (hw _ (List.mem_of_getElem? (i := 69) rfl))) (by decide) (t := (.object "java/lang/String")) (t' := .long) (by decide) (by decide)))).other W29 (Or.inr (slot_ne (Or.inr (hw _ (List.mem_of_getElem? (i := 57) rfl))) (Or.inr (hw _ (List.mem_of_getElem? (i := 71) rfl))) (by decide) (t := (.object "java/lang/String")) (t' := .boolean) (by decide) (by decide)))).other W32 (Or.inr (slot_ne (Or.inr (hw _ (List.mem_of_getElem? (i := 57) rfl))) (Or.inr (hw _ (List.mem_of_getElem? (i := 73) rfl))) (by decide) (t := (.object "java/lang/String")) (t' := .boolean) (by decide) (by decide)))).other W35 (Or.inr (slot_ne (Or.inr (hw _ (List.mem_of_getElem? (i := 57) rfl))) (Or.inr (hw _ (List.mem_of_getElem? (i := 75) rfl))) (by decide) (t := (.object "java/lang/String")) (t' := .boolean) (by decide) (by decide))))
  refine fin (v := none) X35 (fun _ => rfl) ?_ (by decide) (by decide) (fun fs hr => X35.returnOut hx hret (hb hby d7_73) hr)
  show Q7_6 Z o1 o2 o3 o4 u1 u2 j3 i4 i5 o5 h0 n0 (none) T35.heap _
  rw [e35]
  exact ⟨rfl, N35, K35, f36, f37, f38, F35, f39, f40, f41, f42, f43, f44, f45, f46⟩
theorem d9_0 : decode prog_16_method_3_code 0 = .ok (.aload_n 0, 1) := by decide +kernel
theorem d9_1 : decode prog_16_method_3_code 1 = .ok (.getfield 40, 3) := by decide +kernel
theorem d9_4 : decode prog_16_method_3_code 4 = .ok (.ifCond .ne 12, 3) := by decide +kernel
theorem d9_7 : decode prog_16_method_3_code 7 = .ok (.aload_n 0, 1) := by decide +kernel
theorem d9_8 : decode prog_16_method_3_code 8 = .ok (.getfield 36, 3) := by decide +kernel
theorem d9_11 : decode prog_16_method_3_code 11 = .ok (.lconst 0, 1) := by decide +kernel
theorem d9_12 : decode prog_16_method_3_code 12 = .ok (.lcmp, 1) := by decide +kernel
theorem d9_13 : decode prog_16_method_3_code 13 = .ok (.ifCond .le 7, 3) := by decide +kernel
theorem d9_16 : decode prog_16_method_3_code 16 = .ok (.iconst 1, 1) := by decide +kernel
theorem d9_17 : decode prog_16_method_3_code 17 = .ok (.goto 4, 3) := by decide +kernel
theorem d9_20 : decode prog_16_method_3_code 20 = .ok (.iconst 0, 1) := by decide +kernel
theorem d9_21 : decode prog_16_method_3_code 21 = .ok (.ireturn, 1) := by decide +kernel
theorem ef_9_8 (m : MethodId) (x0 : Addr) : entryFrame m #[(.ref x0)] 1 = mkF m 0 #[.val (.ref x0)] [] := by first | (simp [entryFrame, mkF, argsToLocals, Value.category]; done) | rfl
def Q9_8 (Z : State) (o1 : Addr) (j1 : Int64) (h0 : Heap) (n0 : Nat) (v : Option Value) (h : Heap) (L : List Loc) : Prop := ∃ (z21_3 : Int32), v = some (.int z21_3) ∧ Fr n0 L ∧ h = h0 ∧ z21_3 = (if (0 : Int64) < j1 then (1 : Int32) else (0 : Int32))
set_option maxRecDepth 65536 in
set_option maxHeartbeats 40000000 in
theorem rm9_8 (l : Launch) (Z : State) (a0 : Array Value) (hw : ∀ d ∈ tables_1, d.before a0 Z = true) (ws : List Jvm.Cond) (o1 : Addr) (j1 : Int64) (h0 : Heap) (n0 : Nat) (Z0 : n0 ≤ h0.size) (Pm0 : Exa Z h0 o1 "com/example/whisman/whisman/connector/RequestHead") (Pm1 : Fld Z h0 o1 "com/example/whisman/whisman/connector/RequestHead" "chunked" "Z" (.int (0 : Int32))) (Pm2 : Fld Z h0 o1 "com/example/whisman/whisman/connector/RequestHead" "contentLength" "J" (.long j1)) (gn_o1 : n0 ≤ o1)  :
    MetFree l (⟨"com/example/whisman/whisman/connector/RequestHead", "hasBody", "()Z"⟩ : MethodName) (head1 (Jvm.Cond.code (⟨"com/example/whisman/whisman/connector/RequestHead", "hasBody", "()Z"⟩ : MethodName) prog_16_method_3_code 1 (some .boolean) :: ws) ({ frames := 0, cells := 0, slots := 0, locals := 0 } : Room)) (fun a U => a = #[(.ref o1)] ∧ Z.Warmed39 U.vm ∧ U.heap = h0) (fun _ _ _ _ _ => True) (fun _ U o U' => ∃ v L, o = .returned v ∧ Q9_8 Z o1 j1 h0 n0 v U'.heap L ∧ FrameEnd U o U' L ({ frames := 0, cells := 0, slots := 0, locals := 0 } : Room).cells ({ frames := 0, cells := 0, slots := 0, locals := 0 } : Room).slots) := by
  refine own_body (plainFor_of_name pn_4) ?_
  intro p e s m below meth c s₁ G hx hby hml hZ hown hnm hret X0 e0 step fin
  replace hown : s.vm.findClass "com/example/whisman/whisman/connector/RequestHead" = some m.cls := hown
  replace hnm : meth.name = "hasBody" := hnm
  replace hret : meth.sig.returnType = some .boolean := hret
  replace hml : c.maxLocals = 1 := hml
  have N0 := Fr.nil n0
  refine step (s₁.setTop (mkF m 0 #[.val (.ref o1)] [])) (fun t k => castTop (ef_9_8 m o1) k) ?_
  refine step (s₁.setTop (mkF m 1 #[.val (.ref o1)] [(.ref o1)])) (fun t k => XS.aloadN X0.here hx rfl (hb hby d9_0) rfl rfl k) ?_
  obtain ⟨T1, X1, e1, st1⟩ := getF X0 hx hZ hown (host := "") (Or.inl (hw _ (List.mem_of_getElem? (i := 70) rfl))) Via.refl e0 Pm1 (g := (mkF m 1 #[.val (.ref o1)] [(.ref o1)])) rfl rfl (hb hby d9_1)
  refine step (T1.setTop (mkF m 4 #[.val (.ref o1)] [(.int (0 : Int32))])) (fun t k => st1 t k) ?_
  refine step (T1.setTop (mkF m 7 #[.val (.ref o1)] [])) (fun t k => XS.ifNo X1.here hx rfl (hb hby d9_4) rfl ((if0 _ _).trans (teq (by decide : (0 : Int32) = (0 : Int32))).2) k) ?_
  refine step (T1.setTop (mkF m 8 #[.val (.ref o1)] [(.ref o1)])) (fun t k => XS.aloadN X1.here hx rfl (hb hby d9_7) rfl rfl k) ?_
  obtain ⟨T2, X2, e2, st2⟩ := getF X1 hx hZ hown (host := "") (Or.inl (hw _ (List.mem_of_getElem? (i := 68) rfl))) Via.refl e1 Pm2 (g := (mkF m 8 #[.val (.ref o1)] [(.ref o1)])) rfl rfl (hb hby d9_8)
  refine step (T2.setTop (mkF m 11 #[.val (.ref o1)] [(.long j1)])) (fun t k => st2 t k) ?_
  refine step (T2.setTop (mkF m 12 #[.val (.ref o1)] [(.long (0 : Int64)), (.long j1)])) (fun t k => XS.lconst X2.here hx rfl (hb hby d9_11) k) ?_
  refine step (T2.setTop (mkF m 13 #[.val (.ref o1)] [(.int (lcmpW j1 (0 : Int64)))])) (fun t k => XS.lcmp X2.here hx rfl (hb hby d9_12) rfl k) ?_
  suffices J21_4 : ∀ (z21_3 : Int32), z21_3 = (if (0 : Int64) < j1 then (1 : Int32) else (0 : Int32)) → G (T2.setTop (mkF m 21 #[.val (.ref o1)] [(.int z21_3)])) by
    by_cases hc13_5 : (0 : Int64) < j1
    · -- 13 True
      refine step (T2.setTop (mkF m 16 #[.val (.ref o1)] [])) (fun t k => XS.ifNo X2.here hx rfl (hb hby d9_13) rfl ((if0 _ _).trans (tlt ((lw_gt _ _).mpr hc13_5)).2.2.2) k) ?_
      refine step (T2.setTop (mkF m 17 #[.val (.ref o1)] [(.int (1 : Int32))])) (fun t k => XS.iconst X2.here hx rfl (hb hby d9_16) k) ?_
      refine step (T2.setTop (mkF m 21 #[.val (.ref o1)] [(.int (1 : Int32))])) (fun t k => XS.goto X2.here hx rfl (pc0 := 17) (pc' := 21) rfl (hb hby d9_17) (by decide) (by decide) k) ?_
      exact J21_4 _ (by simp only [if_pos hc13_5, if_true, if_false] <;> rfl)
    · -- 13 False
      refine step (T2.setTop (mkF m 20 #[.val (.ref o1)] [])) (fun t k => XS.ifYes X2.here hx rfl (pc0 := 13) (pc' := 20) rfl (hb hby d9_13) rfl ((if0 _ _).trans (flt (fun q => hc13_5 ((lw_gt _ _).mp q))).2.2.2) (by decide) (by decide) k) ?_
      refine step (T2.setTop (mkF m 21 #[.val (.ref o1)] [(.int (0 : Int32))])) (fun t k => XS.iconst X2.here hx rfl (hb hby d9_20) k) ?_
      exact J21_4 _ (by simp only [if_neg hc13_5, if_true, if_false] <;> rfl)
  intro z21_3 hz21_3
  refine fin (v := some (.int (nar .boolean z21_3))) X2 (fun h => by cases h) ?_ (by decide) (by decide) (fun fs hr => retN X2 hx (t := .boolean) hret (by simp) (hb hby d9_21) hr)
  show Q9_8 Z o1 j1 h0 n0 (some (.int (nar .boolean z21_3))) T2.heap _
  rw [e2]
  exact ⟨z21_3, (congrArg (fun z => some (Value.int z)) (by rw [hz21_3]; (repeat' split) <;> rfl)), N0, rfl, hz21_3⟩
theorem own_plain8 (p0 : Int64) (p1 : Int32) (cs : Int32) (aV0 : Addr) (aV1 : Addr) (aNONE : Addr) (z165_52 : Int32) (z21_3_56 : Int32) (z180_57 : Int32) (hz165_52 : z165_52 = (if p0 < (1 : Int64) then (0 : Int32) else (1 : Int32))) (hz21_3_56 : z21_3_56 = (if (0 : Int64) < p0 then (1 : Int32) else (0 : Int32))) (hz180_57 : z180_57 = (if z21_3_56 = z165_52 then (1 : Int32) else (0 : Int32))) : z180_57 = 1 := by
  subst hz165_52 hz21_3_56 hz180_57
  have e1 : (1 : Int64).toInt = 1 := by decide
  have e0 : (0 : Int64).toInt = 0 := by decide
  by_cases h : p0 < (1 : Int64)
  · have h' : ¬ ((0 : Int64) < p0) := by rw [Int64.lt_iff_toInt_lt] at *; omega
    simp only [if_pos h, if_neg h']; decide
  · have h' : (0 : Int64) < p0 := by rw [Int64.lt_iff_toInt_lt] at *; omega
    simp only [if_neg h, if_pos h']; decide
theorem own_plain9 (p0 : Int64) (p1 : Int32) (cs : Int32) (aV0 : Addr) (aV1 : Addr) (aNONE : Addr) (z165_103 : Int32) (z21_3_107 : Int32) (z180_108 : Int32) (hz165_103 : z165_103 = (if p0 < (1 : Int64) then (0 : Int32) else (1 : Int32))) (hz21_3_107 : z21_3_107 = (if (0 : Int64) < p0 then (1 : Int32) else (0 : Int32))) (hz180_108 : z180_108 = (if z21_3_107 = z165_103 then (1 : Int32) else (0 : Int32))) : z180_108 = 1 := by
  subst hz165_103 hz21_3_107 hz180_108
  have e1 : (1 : Int64).toInt = 1 := by decide
  have e0 : (0 : Int64).toInt = 0 := by decide
  by_cases h : p0 < (1 : Int64)
  · have h' : ¬ ((0 : Int64) < p0) := by rw [Int64.lt_iff_toInt_lt] at *; omega
    simp only [if_pos h, if_neg h']; decide
  · have h' : (0 : Int64) < p0 := by rw [Int64.lt_iff_toInt_lt] at *; omega
    simp only [if_neg h, if_pos h']; decide
theorem ef_7_11 (m : MethodId) (x0 : Addr) (x1 : Addr) (x2 : Addr) (x3 : Addr) (x4 : Addr) (x5 : Addr) (x6 : Addr) (x7 : Value) (x8 : Value) (x9 : Int64) (x11 : Int32) (x12 : Int32) (r7 : Value.isRef x7 = true) (r8 : Value.isRef x8 = true) : entryFrame m #[(.ref x0), (.ref x1), (.ref x2), (.ref x3), (.ref x4), (.ref x5), (.ref x6), x7, x8, (.long x9), (.int (1 : Int32)), (.int x11), (.int x12)] 14 = mkF m 0 #[.val (.ref x0), .val (.ref x1), .val (.ref x2), .val (.ref x3), .val (.ref x4), .val (.ref x5), .val (.ref x6), .val x7, .val x8, .val (.long x9), .second, .val (.int (1 : Int32)), .val (.int x11), .val (.int x12)] [] := by cases x7 <;> first | (cases r7; done) | (cases x8 <;> first | (cases r8; done) | (simp [entryFrame, mkF, argsToLocals, Value.category]))
def Q7_11 (Z : State) (o1 : Addr) (o2 : Addr) (o3 : Addr) (o4 : Addr) (u1 : Value) (u2 : Value) (j3 : Int64) (i4 : Int32) (i5 : Int32) (o5 : Addr) (h0 : Heap) (n0 : Nat) (v : Option Value) (h : Heap) (L : List Loc) : Prop := v = none ∧ Fr n0 L ∧ Keep h0 h [o1] ∧ Fld Z h o1 "com/example/whisman/whisman/connector/RequestHead" "authority" "Ljava/lang/String;" u2 ∧ Fld Z h o1 "com/example/whisman/whisman/connector/RequestHead" "chunked" "Z" (.int (1 : Int32)) ∧ Fld Z h o1 "com/example/whisman/whisman/connector/RequestHead" "contentLength" "J" (.long j3) ∧ Fld Z h o1 "com/example/whisman/whisman/connector/RequestHead" "expectsContinue" "Z" (.int (nar .boolean i5)) ∧ Fld Z h o1 "com/example/whisman/whisman/connector/RequestHead" "fields" "Lcom/example/whisman/whisman/connector/HttpFields;" (.ref o4) ∧ Fld Z h o1 "com/example/whisman/whisman/connector/RequestHead" "method" "Ljava/lang/String;" (.ref o2) ∧ Fld Z h o1 "com/example/whisman/whisman/connector/RequestHead" "path" "Ljava/lang/String;" (.ref o2) ∧ Fld Z h o1 "com/example/whisman/whisman/connector/RequestHead" "persistent" "Z" (.int (nar .boolean i4)) ∧ Fld Z h o1 "com/example/whisman/whisman/connector/RequestHead" "query" "Ljava/lang/String;" u1 ∧ Fld Z h o1 "com/example/whisman/whisman/connector/RequestHead" "target" "Ljava/lang/String;" (.ref o2) ∧ Fld Z h o1 "com/example/whisman/whisman/connector/RequestHead" "version" "Lcom/example/whisman/whisman/connector/HttpVersion;" (.ref o3) ∧ Fld Z h o1 "com/example/whisman/whisman/connector/RequestHead" "versionText" "Ljava/lang/String;" (.ref o2)
set_option maxRecDepth 65536 in
set_option maxHeartbeats 40000000 in
theorem rm7_11 (l : Launch) (Z : State) (a0 : Array Value) (hw : ∀ d ∈ tables_1, d.before a0 Z = true) (ws : List Jvm.Cond) (o1 : Addr) (o2 : Addr) (o3 : Addr) (o4 : Addr) (u1 : Value) (u2 : Value) (j3 : Int64) (i4 : Int32) (i5 : Int32) (o5 : Addr) (h0 : Heap) (n0 : Nat) (Z0 : n0 ≤ h0.size) (ru1 : Value.isRef u1 = true) (ru2 : Value.isRef u2 = true) (S2 : Sta Z h0 "com/example/whisman/whisman/connector/HttpFields" "NONE" "[Ljava/lang/String;" (.ref o5)) (Pm3 : Exa Z h0 o1 "com/example/whisman/whisman/connector/RequestHead") (Pm4 : Fld Z h0 o1 "com/example/whisman/whisman/connector/RequestHead" "authority" "Ljava/lang/String;" .null) (Pm5 : Fld Z h0 o1 "com/example/whisman/whisman/connector/RequestHead" "chunked" "Z" (.int (0 : Int32))) (Pm6 : Fld Z h0 o1 "com/example/whisman/whisman/connector/RequestHead" "contentLength" "J" (.long (0 : Int64))) (Pm7 : Fld Z h0 o1 "com/example/whisman/whisman/connector/RequestHead" "expectsContinue" "Z" (.int (0 : Int32))) (Pm8 : Fld Z h0 o1 "com/example/whisman/whisman/connector/RequestHead" "fields" "Lcom/example/whisman/whisman/connector/HttpFields;" .null) (Pm9 : Fld Z h0 o1 "com/example/whisman/whisman/connector/RequestHead" "method" "Ljava/lang/String;" .null) (Pm10 : Fld Z h0 o1 "com/example/whisman/whisman/connector/RequestHead" "path" "Ljava/lang/String;" .null) (Pm11 : Fld Z h0 o1 "com/example/whisman/whisman/connector/RequestHead" "persistent" "Z" (.int (0 : Int32))) (Pm12 : Fld Z h0 o1 "com/example/whisman/whisman/connector/RequestHead" "query" "Ljava/lang/String;" .null) (Pm13 : Fld Z h0 o1 "com/example/whisman/whisman/connector/RequestHead" "target" "Ljava/lang/String;" .null) (Pm14 : Fld Z h0 o1 "com/example/whisman/whisman/connector/RequestHead" "version" "Lcom/example/whisman/whisman/connector/HttpVersion;" .null) (Pm15 : Fld Z h0 o1 "com/example/whisman/whisman/connector/RequestHead" "versionText" "Ljava/lang/String;" .null) (Pm16 : Exa Z h0 o2 "java/lang/String") (Pm17 : Exa Z h0 o3 "com/example/whisman/whisman/connector/HttpVersion") (Pm18 : Exa Z h0 o4 "com/example/whisman/whisman/connector/HttpFields") (Pm19 : Fld Z h0 o4 "com/example/whisman/whisman/connector/HttpFields" "entries" "[Ljava/lang/String;" (.ref o5)) (gn_o1 : n0 ≤ o1) (ne_o1_o2 : o1 ≠ o2) (ne_o1_o3 : o1 ≠ o3) (ne_o1_o4 : o1 ≠ o4) (gn_o2 : n0 ≤ o2) (ne_o2_o3 : o2 ≠ o3) (ne_o2_o4 : o2 ≠ o4) (ne_o3_o4 : o3 ≠ o4) (gn_o4 : n0 ≤ o4)  :
    MetFree l (⟨"com/example/whisman/whisman/connector/RequestHead", "<init>", "(Ljava/lang/String;Ljava/lang/String;Ljava/lang/String;Lcom/example/whisman/whisman/connector/HttpVersion;Lcom/example/whisman/whisman/connector/HttpFields;Ljava/lang/String;Ljava/lang/String;Ljava/lang/String;JZZZ)V"⟩ : MethodName) (head1 (Jvm.Cond.code (⟨"com/example/whisman/whisman/connector/RequestHead", "<init>", "(Ljava/lang/String;Ljava/lang/String;Ljava/lang/String;Lcom/example/whisman/whisman/connector/HttpVersion;Lcom/example/whisman/whisman/connector/HttpFields;Ljava/lang/String;Ljava/lang/String;Ljava/lang/String;JZZZ)V"⟩ : MethodName) prog_16_method_1_code 14 none :: ws) ({ frames := 2, cells := 0, slots := 0, locals := 24 } : Room)) (fun a U => a = #[(.ref o1), (.ref o2), (.ref o2), (.ref o2), (.ref o3), (.ref o4), (.ref o2), u1, u2, (.long j3), (.int (1 : Int32)), (.int i4), (.int i5)] ∧ Z.Warmed39 U.vm ∧ U.heap = h0) (fun _ _ _ _ _ => True) (fun _ U o U' => ∃ v L, o = .returned v ∧ Q7_11 Z o1 o2 o3 o4 u1 u2 j3 i4 i5 o5 h0 n0 v U'.heap L ∧ FrameEnd U o U' L ({ frames := 2, cells := 0, slots := 0, locals := 24 } : Room).cells ({ frames := 2, cells := 0, slots := 0, locals := 24 } : Room).slots) := by
  refine own_body (plainFor_of_name pn_4) ?_
  intro p e s m below meth c s₁ G hx hby hml hZ hown hnm hret X0 e0 step fin
  replace hown : s.vm.findClass "com/example/whisman/whisman/connector/RequestHead" = some m.cls := hown
  replace hnm : meth.name = "<init>" := hnm
  replace hret : meth.sig.returnType = none := hret
  replace hml : c.maxLocals = 14 := hml
  have N0 := Fr.nil n0
  refine step (s₁.setTop (mkF m 0 #[.val (.ref o1), .val (.ref o2), .val (.ref o2), .val (.ref o2), .val (.ref o3), .val (.ref o4), .val (.ref o2), .val u1, .val u2, .val (.long j3), .second, .val (.int (1 : Int32)), .val (.int i4), .val (.int i5)] [])) (fun t k => castTop (ef_7_11 m o1 o2 o2 o2 o3 o4 o2 u1 u2 j3 i4 i5 ru1 ru2) k) ?_
  refine step (s₁.setTop (mkF m 1 #[.val (.ref o1), .val (.ref o2), .val (.ref o2), .val (.ref o2), .val (.ref o3), .val (.ref o4), .val (.ref o2), .val u1, .val u2, .val (.long j3), .second, .val (.int (1 : Int32)), .val (.int i4), .val (.int i5)] [(.ref o1)])) (fun t k => XS.aloadN X0.here hx rfl (hb hby d7_0) rfl rfl k) ?_
  obtain ⟨_, _, ⟨T1, L1, k1, n1⟩, -, X1, ⟨Lc1, hQ1, l1, y1, z1⟩, st1⟩ := X0.specialBack hx (y := (⟨"java/lang/Record", "<init>", "()V"⟩ : MethodName)) rfl hown (mvT hZ (hw _ (List.mem_of_getElem? (i := 46) rfl))) (mvT hZ (hw _ (List.mem_of_getElem? (i := 47) rfl))) (mvT hZ (hw _ (List.mem_of_getElem? (i := 50) rfl))) (by decide) (backOf (W := 0) (rm8_7 l Z a0 hw [] o1 o5 h0 n0 Z0 S2 Pm3 gn_o1) hZ (hw _ (List.mem_of_getElem? (i := 50) rfl)) (hw _ (List.mem_of_getElem? (i := 49) rfl)) (by decide) (by decide)) (g := (mkF m 1 #[.val (.ref o1), .val (.ref o2), .val (.ref o2), .val (.ref o2), .val (.ref o3), .val (.ref o4), .val (.ref o2), .val u1, .val u2, .val (.long j3), .second, .val (.int (1 : Int32)), .val (.int i4), .val (.int i5)] [(.ref o1)])) rfl (by rw [hml]; rfl) (Steps.refl _) (a := o1) (argsL := []) (rest := []) (lenOf pd_1 rfl) rfl (by show 2 * 0 + _ ≤ _; exact Nat.le_of_eq rfl) (hb hby d7_1) (fun _ _ => ⟨rfl, e0, (by decide : 0 + 0 ≤ _), (by decide : 0 + 0 ≤ _)⟩)
  dsimp only [Pt.U, Pt.locs, Pt.cells, Pt.slots] at X1 l1 y1 z1 st1 hQ1
  subst l1 y1 z1
  obtain ⟨rfl, N1q, e1q⟩ := hQ1
  have N1 := Fr.app N0 N1q
  refine step (T1.setTop (mkF m 4 #[.val (.ref o1), .val (.ref o2), .val (.ref o2), .val (.ref o2), .val (.ref o3), .val (.ref o4), .val (.ref o2), .val u1, .val u2, .val (.long j3), .second, .val (.int (1 : Int32)), .val (.int i4), .val (.int i5)] [])) (fun t k => st1.trans k) ?_
  refine step (T1.setTop (mkF m 5 #[.val (.ref o1), .val (.ref o2), .val (.ref o2), .val (.ref o2), .val (.ref o3), .val (.ref o4), .val (.ref o2), .val u1, .val u2, .val (.long j3), .second, .val (.int (1 : Int32)), .val (.int i4), .val (.int i5)] [(.ref o1)])) (fun t k => XS.aloadN X1.here hx rfl (hb hby d7_4) rfl rfl k) ?_
  refine step (T1.setTop (mkF m 6 #[.val (.ref o1), .val (.ref o2), .val (.ref o2), .val (.ref o2), .val (.ref o3), .val (.ref o4), .val (.ref o2), .val u1, .val u2, .val (.long j3), .second, .val (.int (1 : Int32)), .val (.int i4), .val (.int i5)] [(.ref o2), (.ref o1)])) (fun t k => XS.aloadN X1.here hx rfl (hb hby d7_5) rfl rfl k) ?_
  obtain ⟨T2, h2, X2, e2, W2, st2⟩ := putF X1 hx hZ hown (host := "") (Or.inl (hw _ (List.mem_of_getElem? (i := 52) rfl))) Via.refl e1q Pm9 Pm3 (Or.inr ⟨(hw _ (List.mem_of_getElem? (i := 53) rfl)), rfl, hnm⟩) (hw _ (List.mem_of_getElem? (i := 41) rfl)) (ty := (.object "java/lang/String")) (by decide) rfl rfl (g := (mkF m 6 #[.val (.ref o1), .val (.ref o2), .val (.ref o2), .val (.ref o2), .val (.ref o3), .val (.ref o4), .val (.ref o2), .val u1, .val u2, .val (.long j3), .second, .val (.int (1 : Int32)), .val (.int i4), .val (.int i5)] [(.ref o2), (.ref o1)])) rfl rfl (hb hby d7_6)
  have N2 := Fr.snoc X2 N1 gn_o1
  have K2 : Keep h0 h2 [o1] := (Keep.refl h0 [o1]).wr W2 (Or.inl (List.mem_of_getElem? (i := 0) rfl))
  have F2 := Pm9.same W2
  refine step (T2.setTop (mkF m 9 #[.val (.ref o1), .val (.ref o2), .val (.ref o2), .val (.ref o2), .val (.ref o3), .val (.ref o4), .val (.ref o2), .val u1, .val u2, .val (.long j3), .second, .val (.int (1 : Int32)), .val (.int i4), .val (.int i5)] [])) (fun t k => st2 t k) ?_
  refine step (T2.setTop (mkF m 10 #[.val (.ref o1), .val (.ref o2), .val (.ref o2), .val (.ref o2), .val (.ref o3), .val (.ref o4), .val (.ref o2), .val u1, .val u2, .val (.long j3), .second, .val (.int (1 : Int32)), .val (.int i4), .val (.int i5)] [(.ref o1)])) (fun t k => XS.aloadN X2.here hx rfl (hb hby d7_9) rfl rfl k) ?_
  refine step (T2.setTop (mkF m 11 #[.val (.ref o1), .val (.ref o2), .val (.ref o2), .val (.ref o2), .val (.ref o3), .val (.ref o4), .val (.ref o2), .val u1, .val u2, .val (.long j3), .second, .val (.int (1 : Int32)), .val (.int i4), .val (.int i5)] [(.ref o2), (.ref o1)])) (fun t k => XS.aloadN X2.here hx rfl (hb hby d7_10) rfl rfl k) ?_
  have f3 := (Pm3.wr W2)
  have f4 := (Pm13.other W2 (Or.inr (slot_ne (Or.inr (hw _ (List.mem_of_getElem? (i := 55) rfl))) (Or.inr (hw _ (List.mem_of_getElem? (i := 53) rfl))) (by decide) (t := (.object "java/lang/String")) (t' := (.object "java/lang/String")) (by decide) (by decide))))
  obtain ⟨T5, h5, X5, e5, W5, st5⟩ := putF X2 hx hZ hown (host := "") (Or.inl (hw _ (List.mem_of_getElem? (i := 54) rfl))) Via.refl e2 f4 f3 (Or.inr ⟨(hw _ (List.mem_of_getElem? (i := 55) rfl)), rfl, hnm⟩) (hw _ (List.mem_of_getElem? (i := 41) rfl)) (ty := (.object "java/lang/String")) (by decide) rfl rfl (g := (mkF m 11 #[.val (.ref o1), .val (.ref o2), .val (.ref o2), .val (.ref o2), .val (.ref o3), .val (.ref o4), .val (.ref o2), .val u1, .val u2, .val (.long j3), .second, .val (.int (1 : Int32)), .val (.int i4), .val (.int i5)] [(.ref o2), (.ref o1)])) rfl rfl (hb hby d7_11)
  have N5 := Fr.snoc X5 N2 gn_o1
  have K5 : Keep h0 h5 [o1] := K2.wr W5 (Or.inl (List.mem_of_getElem? (i := 0) rfl))
  have F5 := f4.same W5
  refine step (T5.setTop (mkF m 14 #[.val (.ref o1), .val (.ref o2), .val (.ref o2), .val (.ref o2), .val (.ref o3), .val (.ref o4), .val (.ref o2), .val u1, .val u2, .val (.long j3), .second, .val (.int (1 : Int32)), .val (.int i4), .val (.int i5)] [])) (fun t k => st5 t k) ?_
  refine step (T5.setTop (mkF m 15 #[.val (.ref o1), .val (.ref o2), .val (.ref o2), .val (.ref o2), .val (.ref o3), .val (.ref o4), .val (.ref o2), .val u1, .val u2, .val (.long j3), .second, .val (.int (1 : Int32)), .val (.int i4), .val (.int i5)] [(.ref o1)])) (fun t k => XS.aloadN X5.here hx rfl (hb hby d7_14) rfl rfl k) ?_
  refine step (T5.setTop (mkF m 16 #[.val (.ref o1), .val (.ref o2), .val (.ref o2), .val (.ref o2), .val (.ref o3), .val (.ref o4), .val (.ref o2), .val u1, .val u2, .val (.long j3), .second, .val (.int (1 : Int32)), .val (.int i4), .val (.int i5)] [(.ref o2), (.ref o1)])) (fun t k => XS.aloadN X5.here hx rfl (hb hby d7_15) rfl rfl k) ?_
  have f6 := (f3.wr W5)
  have f7 := ((Pm15.other W2 (Or.inr (slot_ne (Or.inr (hw _ (List.mem_of_getElem? (i := 57) rfl))) (Or.inr (hw _ (List.mem_of_getElem? (i := 53) rfl))) (by decide) (t := (.object "java/lang/String")) (t' := (.object "java/lang/String")) (by decide) (by decide)))).other W5 (Or.inr (slot_ne (Or.inr (hw _ (List.mem_of_getElem? (i := 57) rfl))) (Or.inr (hw _ (List.mem_of_getElem? (i := 55) rfl))) (by decide) (t := (.object "java/lang/String")) (t' := (.object "java/lang/String")) (by decide) (by decide))))
  obtain ⟨T8, h8, X8, e8, W8, st8⟩ := putF X5 hx hZ hown (host := "") (Or.inl (hw _ (List.mem_of_getElem? (i := 56) rfl))) Via.refl e5 f7 f6 (Or.inr ⟨(hw _ (List.mem_of_getElem? (i := 57) rfl)), rfl, hnm⟩) (hw _ (List.mem_of_getElem? (i := 41) rfl)) (ty := (.object "java/lang/String")) (by decide) rfl rfl (g := (mkF m 16 #[.val (.ref o1), .val (.ref o2), .val (.ref o2), .val (.ref o2), .val (.ref o3), .val (.ref o4), .val (.ref o2), .val u1, .val u2, .val (.long j3), .second, .val (.int (1 : Int32)), .val (.int i4), .val (.int i5)] [(.ref o2), (.ref o1)])) rfl rfl (hb hby d7_16)
  have N8 := Fr.snoc X8 N5 gn_o1
  have K8 : Keep h0 h8 [o1] := K5.wr W8 (Or.inl (List.mem_of_getElem? (i := 0) rfl))
  have F8 := f7.same W8
  refine step (T8.setTop (mkF m 19 #[.val (.ref o1), .val (.ref o2), .val (.ref o2), .val (.ref o2), .val (.ref o3), .val (.ref o4), .val (.ref o2), .val u1, .val u2, .val (.long j3), .second, .val (.int (1 : Int32)), .val (.int i4), .val (.int i5)] [])) (fun t k => st8 t k) ?_
  refine step (T8.setTop (mkF m 20 #[.val (.ref o1), .val (.ref o2), .val (.ref o2), .val (.ref o2), .val (.ref o3), .val (.ref o4), .val (.ref o2), .val u1, .val u2, .val (.long j3), .second, .val (.int (1 : Int32)), .val (.int i4), .val (.int i5)] [(.ref o1)])) (fun t k => XS.aloadN X8.here hx rfl (hb hby d7_19) rfl rfl k) ?_
  refine step (T8.setTop (mkF m 22 #[.val (.ref o1), .val (.ref o2), .val (.ref o2), .val (.ref o2), .val (.ref o3), .val (.ref o4), .val (.ref o2), .val u1, .val u2, .val (.long j3), .second, .val (.int (1 : Int32)), .val (.int i4), .val (.int i5)] [(.ref o3), (.ref o1)])) (fun t k => XS.aload X8.here hx rfl (hb hby d7_20) rfl rfl k) ?_
  have f9 := (f6.wr W8)
  have f10 := (((Pm14.other W2 (Or.inr (slot_ne (Or.inr (hw _ (List.mem_of_getElem? (i := 59) rfl))) (Or.inr (hw _ (List.mem_of_getElem? (i := 53) rfl))) (by decide) (t := (.object "com/example/whisman/whisman/connector/HttpVersion")) (t' := (.object "java/lang/String")) (by decide) (by decide)))).other W5 (Or.inr (slot_ne (Or.inr (hw _ (List.mem_of_getElem? (i := 59) rfl))) (Or.inr (hw _ (List.mem_of_getElem? (i := 55) rfl))) (by decide) (t := (.object "com/example/whisman/whisman/connector/HttpVersion")) (t' := (.object "java/lang/String")) (by decide) (by decide)))).other W8 (Or.inr (slot_ne (Or.inr (hw _ (List.mem_of_getElem? (i := 59) rfl))) (Or.inr (hw _ (List.mem_of_getElem? (i := 57) rfl))) (by decide) (t := (.object "com/example/whisman/whisman/connector/HttpVersion")) (t' := (.object "java/lang/String")) (by decide) (by decide))))
  obtain ⟨T11, h11, X11, e11, W11, st11⟩ := putF X8 hx hZ hown (host := "") (Or.inl (hw _ (List.mem_of_getElem? (i := 58) rfl))) Via.refl e8 f10 f9 (Or.inr ⟨(hw _ (List.mem_of_getElem? (i := 59) rfl)), rfl, hnm⟩) (hw _ (List.mem_of_getElem? (i := 41) rfl)) (ty := (.object "com/example/whisman/whisman/connector/HttpVersion")) (by decide) rfl rfl (g := (mkF m 22 #[.val (.ref o1), .val (.ref o2), .val (.ref o2), .val (.ref o2), .val (.ref o3), .val (.ref o4), .val (.ref o2), .val u1, .val u2, .val (.long j3), .second, .val (.int (1 : Int32)), .val (.int i4), .val (.int i5)] [(.ref o3), (.ref o1)])) rfl rfl (hb hby d7_22)
  have N11 := Fr.snoc X11 N8 gn_o1
  have K11 : Keep h0 h11 [o1] := K8.wr W11 (Or.inl (List.mem_of_getElem? (i := 0) rfl))
  have F11 := f10.same W11
  refine step (T11.setTop (mkF m 25 #[.val (.ref o1), .val (.ref o2), .val (.ref o2), .val (.ref o2), .val (.ref o3), .val (.ref o4), .val (.ref o2), .val u1, .val u2, .val (.long j3), .second, .val (.int (1 : Int32)), .val (.int i4), .val (.int i5)] [])) (fun t k => st11 t k) ?_
  refine step (T11.setTop (mkF m 26 #[.val (.ref o1), .val (.ref o2), .val (.ref o2), .val (.ref o2), .val (.ref o3), .val (.ref o4), .val (.ref o2), .val u1, .val u2, .val (.long j3), .second, .val (.int (1 : Int32)), .val (.int i4), .val (.int i5)] [(.ref o1)])) (fun t k => XS.aloadN X11.here hx rfl (hb hby d7_25) rfl rfl k) ?_
  refine step (T11.setTop (mkF m 28 #[.val (.ref o1), .val (.ref o2), .val (.ref o2), .val (.ref o2), .val (.ref o3), .val (.ref o4), .val (.ref o2), .val u1, .val u2, .val (.long j3), .second, .val (.int (1 : Int32)), .val (.int i4), .val (.int i5)] [(.ref o4), (.ref o1)])) (fun t k => XS.aload X11.here hx rfl (hb hby d7_26) rfl rfl k) ?_
  have f12 := (f9.wr W11)
  have f13 := ((((Pm8.other W2 (Or.inr (slot_ne (Or.inr (hw _ (List.mem_of_getElem? (i := 61) rfl))) (Or.inr (hw _ (List.mem_of_getElem? (i := 53) rfl))) (by decide) (t := (.object "com/example/whisman/whisman/connector/HttpFields")) (t' := (.object "java/lang/String")) (by decide) (by decide)))).other W5 (Or.inr (slot_ne (Or.inr (hw _ (List.mem_of_getElem? (i := 61) rfl))) (Or.inr (hw _ (List.mem_of_getElem? (i := 55) rfl))) (by decide) (t := (.object "com/example/whisman/whisman/connector/HttpFields")) (t' := (.object "java/lang/String")) (by decide) (by decide)))).other W8 (Or.inr (slot_ne (Or.inr (hw _ (List.mem_of_getElem? (i := 61) rfl))) (Or.inr (hw _ (List.mem_of_getElem? (i := 57) rfl))) (by decide) (t := (.object "com/example/whisman/whisman/connector/HttpFields")) (t' := (.object "java/lang/String")) (by decide) (by decide)))).other W11 (Or.inr (slot_ne (Or.inr (hw _ (List.mem_of_getElem? (i := 61) rfl))) (Or.inr (hw _ (List.mem_of_getElem? (i := 59) rfl))) (by decide) (t := (.object "com/example/whisman/whisman/connector/HttpFields")) (t' := (.object "com/example/whisman/whisman/connector/HttpVersion")) (by decide) (by decide))))
  obtain ⟨T14, h14, X14, e14, W14, st14⟩ := putF X11 hx hZ hown (host := "") (Or.inl (hw _ (List.mem_of_getElem? (i := 60) rfl))) Via.refl e11 f13 f12 (Or.inr ⟨(hw _ (List.mem_of_getElem? (i := 61) rfl)), rfl, hnm⟩) (hw _ (List.mem_of_getElem? (i := 41) rfl)) (ty := (.object "com/example/whisman/whisman/connector/HttpFields")) (by decide) rfl rfl (g := (mkF m 28 #[.val (.ref o1), .val (.ref o2), .val (.ref o2), .val (.ref o2), .val (.ref o3), .val (.ref o4), .val (.ref o2), .val u1, .val u2, .val (.long j3), .second, .val (.int (1 : Int32)), .val (.int i4), .val (.int i5)] [(.ref o4), (.ref o1)])) rfl rfl (hb hby d7_28)
  have N14 := Fr.snoc X14 N11 gn_o1
  have K14 : Keep h0 h14 [o1] := K11.wr W14 (Or.inl (List.mem_of_getElem? (i := 0) rfl))
  have F14 := f13.same W14
  refine step (T14.setTop (mkF m 31 #[.val (.ref o1), .val (.ref o2), .val (.ref o2), .val (.ref o2), .val (.ref o3), .val (.ref o4), .val (.ref o2), .val u1, .val u2, .val (.long j3), .second, .val (.int (1 : Int32)), .val (.int i4), .val (.int i5)] [])) (fun t k => st14 t k) ?_
  refine step (T14.setTop (mkF m 32 #[.val (.ref o1), .val (.ref o2), .val (.ref o2), .val (.ref o2), .val (.ref o3), .val (.ref o4), .val (.ref o2), .val u1, .val u2, .val (.long j3), .second, .val (.int (1 : Int32)), .val (.int i4), .val (.int i5)] [(.ref o1)])) (fun t k => XS.aloadN X14.here hx rfl (hb hby d7_31) rfl rfl k) ?_
  refine step (T14.setTop (mkF m 34 #[.val (.ref o1), .val (.ref o2), .val (.ref o2), .val (.ref o2), .val (.ref o3), .val (.ref o4), .val (.ref o2), .val u1, .val u2, .val (.long j3), .second, .val (.int (1 : Int32)), .val (.int i4), .val (.int i5)] [(.ref o2), (.ref o1)])) (fun t k => XS.aload X14.here hx rfl (hb hby d7_32) rfl rfl k) ?_
  have f15 := (f12.wr W14)
  have f16 := (((((Pm10.other W2 (Or.inr (slot_ne (Or.inr (hw _ (List.mem_of_getElem? (i := 63) rfl))) (Or.inr (hw _ (List.mem_of_getElem? (i := 53) rfl))) (by decide) (t := (.object "java/lang/String")) (t' := (.object "java/lang/String")) (by decide) (by decide)))).other W5 (Or.inr (slot_ne (Or.inr (hw _ (List.mem_of_getElem? (i := 63) rfl))) (Or.inr (hw _ (List.mem_of_getElem? (i := 55) rfl))) (by decide) (t := (.object "java/lang/String")) (t' := (.object "java/lang/String")) (by decide) (by decide)))).other W8 (Or.inr (slot_ne (Or.inr (hw _ (List.mem_of_getElem? (i := 63) rfl))) (Or.inr (hw _ (List.mem_of_getElem? (i := 57) rfl))) (by decide) (t := (.object "java/lang/String")) (t' := (.object "java/lang/String")) (by decide) (by decide)))).other W11 (Or.inr (slot_ne (Or.inr (hw _ (List.mem_of_getElem? (i := 63) rfl))) (Or.inr (hw _ (List.mem_of_getElem? (i := 59) rfl))) (by decide) (t := (.object "java/lang/String")) (t' := (.object "com/example/whisman/whisman/connector/HttpVersion")) (by decide) (by decide)))).other W14 (Or.inr (slot_ne (Or.inr (hw _ (List.mem_of_getElem? (i := 63) rfl))) (Or.inr (hw _ (List.mem_of_getElem? (i := 61) rfl))) (by decide) (t := (.object "java/lang/String")) (t' := (.object "com/example/whisman/whisman/connector/HttpFields")) (by decide) (by decide))))
  obtain ⟨T17, h17, X17, e17, W17, st17⟩ := putF X14 hx hZ hown (host := "") (Or.inl (hw _ (List.mem_of_getElem? (i := 62) rfl))) Via.refl e14 f16 f15 (Or.inr ⟨(hw _ (List.mem_of_getElem? (i := 63) rfl)), rfl, hnm⟩) (hw _ (List.mem_of_getElem? (i := 41) rfl)) (ty := (.object "java/lang/String")) (by decide) rfl rfl (g := (mkF m 34 #[.val (.ref o1), .val (.ref o2), .val (.ref o2), .val (.ref o2), .val (.ref o3), .val (.ref o4), .val (.ref o2), .val u1, .val u2, .val (.long j3), .second, .val (.int (1 : Int32)), .val (.int i4), .val (.int i5)] [(.ref o2), (.ref o1)])) rfl rfl (hb hby d7_34)
  have N17 := Fr.snoc X17 N14 gn_o1
  have K17 : Keep h0 h17 [o1] := K14.wr W17 (Or.inl (List.mem_of_getElem? (i := 0) rfl))
  have F17 := f16.same W17
  refine step (T17.setTop (mkF m 37 #[.val (.ref o1), .val (.ref o2), .val (.ref o2), .val (.ref o2), .val (.ref o3), .val (.ref o4), .val (.ref o2), .val u1, .val u2, .val (.long j3), .second, .val (.int (1 : Int32)), .val (.int i4), .val (.int i5)] [])) (fun t k => st17 t k) ?_
  refine step (T17.setTop (mkF m 38 #[.val (.ref o1), .val (.ref o2), .val (.ref o2), .val (.ref o2), .val (.ref o3), .val (.ref o4), .val (.ref o2), .val u1, .val u2, .val (.long j3), .second, .val (.int (1 : Int32)), .val (.int i4), .val (.int i5)] [(.ref o1)])) (fun t k => XS.aloadN X17.here hx rfl (hb hby d7_37) rfl rfl k) ?_
  refine step (T17.setTop (mkF m 40 #[.val (.ref o1), .val (.ref o2), .val (.ref o2), .val (.ref o2), .val (.ref o3), .val (.ref o4), .val (.ref o2), .val u1, .val u2, .val (.long j3), .second, .val (.int (1 : Int32)), .val (.int i4), .val (.int i5)] [u1, (.ref o1)])) (fun t k => XS.aload X17.here hx rfl (hb hby d7_38) rfl ru1 k) ?_
  have f18 := (f15.wr W17)
  have f19 := ((((((Pm12.other W2 (Or.inr (slot_ne (Or.inr (hw _ (List.mem_of_getElem? (i := 65) rfl))) (Or.inr (hw _ (List.mem_of_getElem? (i := 53) rfl))) (by decide) (t := (.object "java/lang/String")) (t' := (.object "java/lang/String")) (by decide) (by decide)))).other W5 (Or.inr (slot_ne (Or.inr (hw _ (List.mem_of_getElem? (i := 65) rfl))) (Or.inr (hw _ (List.mem_of_getElem? (i := 55) rfl))) (by decide) (t := (.object "java/lang/String")) (t' := (.object "java/lang/String")) (by decide) (by decide)))).other W8 (Or.inr (slot_ne (Or.inr (hw _ (List.mem_of_getElem? (i := 65) rfl))) (Or.inr (hw _ (List.mem_of_getElem? (i := 57) rfl))) (by decide) (t := (.object "java/lang/String")) (t' := (.object "java/lang/String")) (by decide) (by decide)))).other W11 (Or.inr (slot_ne (Or.inr (hw _ (List.mem_of_getElem? (i := 65) rfl))) (Or.inr (hw _ (List.mem_of_getElem? (i := 59) rfl))) (by decide) (t := (.object "java/lang/String")) (t' := (.object "com/example/whisman/whisman/connector/HttpVersion")) (by decide) (by decide)))).other W14 (Or.inr (slot_ne (Or.inr (hw _ (List.mem_of_getElem? (i := 65) rfl))) (Or.inr (hw _ (List.mem_of_getElem? (i := 61) rfl))) (by decide) (t := (.object "java/lang/String")) (t' := (.object "com/example/whisman/whisman/connector/HttpFields")) (by decide) (by decide)))).other W17 (Or.inr (slot_ne (Or.inr (hw _ (List.mem_of_getElem? (i := 65) rfl))) (Or.inr (hw _ (List.mem_of_getElem? (i := 63) rfl))) (by decide) (t := (.object "java/lang/String")) (t' := (.object "java/lang/String")) (by decide) (by decide))))
  obtain ⟨T20, h20, X20, e20, W20, st20⟩ := putF X17 hx hZ hown (host := "") (Or.inl (hw _ (List.mem_of_getElem? (i := 64) rfl))) Via.refl e17 f19 f18 (Or.inr ⟨(hw _ (List.mem_of_getElem? (i := 65) rfl)), rfl, hnm⟩) (hw _ (List.mem_of_getElem? (i := 41) rfl)) (ty := (.object "java/lang/String")) (by decide) (by rcases ref_cases ru1 with q | ⟨_, q⟩ <;> rw [q] <;> rfl) (by rcases ref_cases ru1 with q | ⟨_, q⟩ <;> rw [q] <;> rfl) (g := (mkF m 40 #[.val (.ref o1), .val (.ref o2), .val (.ref o2), .val (.ref o2), .val (.ref o3), .val (.ref o4), .val (.ref o2), .val u1, .val u2, .val (.long j3), .second, .val (.int (1 : Int32)), .val (.int i4), .val (.int i5)] [u1, (.ref o1)])) rfl rfl (hb hby d7_40)
  have N20 := Fr.snoc X20 N17 gn_o1
  have K20 : Keep h0 h20 [o1] := K17.wr W20 (Or.inl (List.mem_of_getElem? (i := 0) rfl))
  have F20 := f19.same W20
  refine step (T20.setTop (mkF m 43 #[.val (.ref o1), .val (.ref o2), .val (.ref o2), .val (.ref o2), .val (.ref o3), .val (.ref o4), .val (.ref o2), .val u1, .val u2, .val (.long j3), .second, .val (.int (1 : Int32)), .val (.int i4), .val (.int i5)] [])) (fun t k => st20 t k) ?_
  refine step (T20.setTop (mkF m 44 #[.val (.ref o1), .val (.ref o2), .val (.ref o2), .val (.ref o2), .val (.ref o3), .val (.ref o4), .val (.ref o2), .val u1, .val u2, .val (.long j3), .second, .val (.int (1 : Int32)), .val (.int i4), .val (.int i5)] [(.ref o1)])) (fun t k => XS.aloadN X20.here hx rfl (hb hby d7_43) rfl rfl k) ?_
  refine step (T20.setTop (mkF m 46 #[.val (.ref o1), .val (.ref o2), .val (.ref o2), .val (.ref o2), .val (.ref o3), .val (.ref o4), .val (.ref o2), .val u1, .val u2, .val (.long j3), .second, .val (.int (1 : Int32)), .val (.int i4), .val (.int i5)] [u2, (.ref o1)])) (fun t k => XS.aload X20.here hx rfl (hb hby d7_44) rfl ru2 k) ?_
  have f21 := (f18.wr W20)
  have f22 := (((((((Pm4.other W2 (Or.inr (slot_ne (Or.inr (hw _ (List.mem_of_getElem? (i := 67) rfl))) (Or.inr (hw _ (List.mem_of_getElem? (i := 53) rfl))) (by decide) (t := (.object "java/lang/String")) (t' := (.object "java/lang/String")) (by decide) (by decide)))).other W5 (Or.inr (slot_ne (Or.inr (hw _ (List.mem_of_getElem? (i := 67) rfl))) (Or.inr (hw _ (List.mem_of_getElem? (i := 55) rfl))) (by decide) (t := (.object "java/lang/String")) (t' := (.object "java/lang/String")) (by decide) (by decide)))).other W8 (Or.inr (slot_ne (Or.inr (hw _ (List.mem_of_getElem? (i := 67) rfl))) (Or.inr (hw _ (List.mem_of_getElem? (i := 57) rfl))) (by decide) (t := (.object "java/lang/String")) (t' := (.object "java/lang/String")) (by decide) (by decide)))).other W11 (Or.inr (slot_ne (Or.inr (hw _ (List.mem_of_getElem? (i := 67) rfl))) (Or.inr (hw _ (List.mem_of_getElem? (i := 59) rfl))) (by decide) (t := (.object "java/lang/String")) (t' := (.object "com/example/whisman/whisman/connector/HttpVersion")) (by decide) (by decide)))).other W14 (Or.inr (slot_ne (Or.inr (hw _ (List.mem_of_getElem? (i := 67) rfl))) (Or.inr (hw _ (List.mem_of_getElem? (i := 61) rfl))) (by decide) (t := (.object "java/lang/String")) (t' := (.object "com/example/whisman/whisman/connector/HttpFields")) (by decide) (by decide)))).other W17 (Or.inr (slot_ne (Or.inr (hw _ (List.mem_of_getElem? (i := 67) rfl))) (Or.inr (hw _ (List.mem_of_getElem? (i := 63) rfl))) (by decide) (t := (.object "java/lang/String")) (t' := (.object "java/lang/String")) (by decide) (by decide)))).other W20 (Or.inr (slot_ne (Or.inr (hw _ (List.mem_of_getElem? (i := 67) rfl))) (Or.inr (hw _ (List.mem_of_getElem? (i := 65) rfl))) (by decide) (t := (.object "java/lang/String")) (t' := (.object "java/lang/String")) (by decide) (by decide))))
  obtain ⟨T23, h23, X23, e23, W23, st23⟩ := putF X20 hx hZ hown (host := "") (Or.inl (hw _ (List.mem_of_getElem? (i := 66) rfl))) Via.refl e20 f22 f21 (Or.inr ⟨(hw _ (List.mem_of_getElem? (i := 67) rfl)), rfl, hnm⟩) (hw _ (List.mem_of_getElem? (i := 41) rfl)) (ty := (.object "java/lang/String")) (by decide) (by rcases ref_cases ru2 with q | ⟨_, q⟩ <;> rw [q] <;> rfl) (by rcases ref_cases ru2 with q | ⟨_, q⟩ <;> rw [q] <;> rfl) (g := (mkF m 46 #[.val (.ref o1), .val (.ref o2), .val (.ref o2), .val (.ref o2), .val (.ref o3), .val (.ref o4), .val (.ref o2), .val u1, .val u2, .val (.long j3), .second, .val (.int (1 : Int32)), .val (.int i4), .val (.int i5)] [u2, (.ref o1)])) rfl rfl (hb hby d7_46)
  have N23 := Fr.snoc X23 N20 gn_o1
  have K23 : Keep h0 h23 [o1] := K20.wr W23 (Or.inl (List.mem_of_getElem? (i := 0) rfl))
  have F23 := f22.same W23
  refine step (T23.setTop (mkF m 49 #[.val (.ref o1), .val (.ref o2), .val (.ref o2), .val (.ref o2), .val (.ref o3), .val (.ref o4), .val (.ref o2), .val u1, .val u2, .val (.long j3), .second, .val (.int (1 : Int32)), .val (.int i4), .val (.int i5)] [])) (fun t k => st23 t k) ?_
  refine step (T23.setTop (mkF m 50 #[.val (.ref o1), .val (.ref o2), .val (.ref o2), .val (.ref o2), .val (.ref o3), .val (.ref o4), .val (.ref o2), .val u1, .val u2, .val (.long j3), .second, .val (.int (1 : Int32)), .val (.int i4), .val (.int i5)] [(.ref o1)])) (fun t k => XS.aloadN X23.here hx rfl (hb hby d7_49) rfl rfl k) ?_
  refine step (T23.setTop (mkF m 52 #[.val (.ref o1), .val (.ref o2), .val (.ref o2), .val (.ref o2), .val (.ref o3), .val (.ref o4), .val (.ref o2), .val u1, .val u2, .val (.long j3), .second, .val (.int (1 : Int32)), .val (.int i4), .val (.int i5)] [(.long j3), (.ref o1)])) (fun t k => XS.lload X23.here hx rfl (hb hby d7_50) rfl k) ?_
  have f24 := (f21.wr W23)
  have f25 := ((((((((Pm6.other W2 (Or.inr (slot_ne (Or.inr (hw _ (List.mem_of_getElem? (i := 69) rfl))) (Or.inr (hw _ (List.mem_of_getElem? (i := 53) rfl))) (by decide) (t := .long) (t' := (.object "java/lang/String")) (by decide) (by decide)))).other W5 (Or.inr (slot_ne (Or.inr (hw _ (List.mem_of_getElem? (i := 69) rfl))) (Or.inr (hw _ (List.mem_of_getElem? (i := 55) rfl))) (by decide) (t := .long) (t' := (.object "java/lang/String")) (by decide) (by decide)))).other W8 (Or.inr (slot_ne (Or.inr (hw _ (List.mem_of_getElem? (i := 69) rfl))) (Or.inr (hw _ (List.mem_of_getElem? (i := 57) rfl))) (by decide) (t := .long) (t' := (.object "java/lang/String")) (by decide) (by decide)))).other W11 (Or.inr (slot_ne (Or.inr (hw _ (List.mem_of_getElem? (i := 69) rfl))) (Or.inr (hw _ (List.mem_of_getElem? (i := 59) rfl))) (by decide) (t := .long) (t' := (.object "com/example/whisman/whisman/connector/HttpVersion")) (by decide) (by decide)))).other W14 (Or.inr (slot_ne (Or.inr (hw _ (List.mem_of_getElem? (i := 69) rfl))) (Or.inr (hw _ (List.mem_of_getElem? (i := 61) rfl))) (by decide) (t := .long) (t' := (.object "com/example/whisman/whisman/connector/HttpFields")) (by decide) (by decide)))).other W17 (Or.inr (slot_ne (Or.inr (hw _ (List.mem_of_getElem? (i := 69) rfl))) (Or.inr (hw _ (List.mem_of_getElem? (i := 63) rfl))) (by decide) (t := .long) (t' := (.object "java/lang/String")) (by decide) (by decide)))).other W20 (Or.inr (slot_ne (Or.inr (hw _ (List.mem_of_getElem? (i := 69) rfl))) (Or.inr (hw _ (List.mem_of_getElem? (i := 65) rfl))) (by decide) (t := .long) (t' := (.object "java/lang/String")) (by decide) (by decide)))).other W23 (Or.inr (slot_ne (Or.inr (hw _ (List.mem_of_getElem? (i := 69) rfl))) (Or.inr (hw _ (List.mem_of_getElem? (i := 67) rfl))) (by decide) (t := .long) (t' := (.object "java/lang/String")) (by decide) (by decide))))
  obtain ⟨T26, h26, X26, e26, W26, st26⟩ := putF X23 hx hZ hown (host := "") (Or.inl (hw _ (List.mem_of_getElem? (i := 68) rfl))) Via.refl e23 f25 f24 (Or.inr ⟨(hw _ (List.mem_of_getElem? (i := 69) rfl)), rfl, hnm⟩) (hw _ (List.mem_of_getElem? (i := 41) rfl)) (ty := .long) (by decide) rfl rfl (g := (mkF m 52 #[.val (.ref o1), .val (.ref o2), .val (.ref o2), .val (.ref o2), .val (.ref o3), .val (.ref o4), .val (.ref o2), .val u1, .val u2, .val (.long j3), .second, .val (.int (1 : Int32)), .val (.int i4), .val (.int i5)] [(.long j3), (.ref o1)])) rfl rfl (hb hby d7_52)
  have N26 := Fr.snoc X26 N23 gn_o1
  have K26 : Keep h0 h26 [o1] := K23.wr W26 (Or.inl (List.mem_of_getElem? (i := 0) rfl))
  have F26 := f25.same W26
  refine step (T26.setTop (mkF m 55 #[.val (.ref o1), .val (.ref o2), .val (.ref o2), .val (.ref o2), .val (.ref o3), .val (.ref o4), .val (.ref o2), .val u1, .val u2, .val (.long j3), .second, .val (.int (1 : Int32)), .val (.int i4), .val (.int i5)] [])) (fun t k => st26 t k) ?_
  refine step (T26.setTop (mkF m 56 #[.val (.ref o1), .val (.ref o2), .val (.ref o2), .val (.ref o2), .val (.ref o3), .val (.ref o4), .val (.ref o2), .val u1, .val u2, .val (.long j3), .second, .val (.int (1 : Int32)), .val (.int i4), .val (.int i5)] [(.ref o1)])) (fun t k => XS.aloadN X26.here hx rfl (hb hby d7_55) rfl rfl k) ?_
  refine step (T26.setTop (mkF m 58 #[.val (.ref o1), .val (.ref o2), .val (.ref o2), .val (.ref o2), .val (.ref o3), .val (.ref o4), .val (.ref o2), .val u1, .val u2, .val (.long j3), .second, .val (.int (1 : Int32)), .val (.int i4), .val (.int i5)] [(.int (1 : Int32)), (.ref o1)])) (fun t k => XS.iload X26.here hx rfl (hb hby d7_56) rfl k) ?_
  have f27 := (f24.wr W26)
  have f28 := (((((((((Pm5.other W2 (Or.inr (slot_ne (Or.inr (hw _ (List.mem_of_getElem? (i := 71) rfl))) (Or.inr (hw _ (List.mem_of_getElem? (i := 53) rfl))) (by decide) (t := .boolean) (t' := (.object "java/lang/String")) (by decide) (by decide)))).other W5 (Or.inr (slot_ne (Or.inr (hw _ (List.mem_of_getElem? (i := 71) rfl))) (Or.inr (hw _ (List.mem_of_getElem? (i := 55) rfl))) (by decide) (t := .boolean) (t' := (.object "java/lang/String")) (by decide) (by decide)))).other W8 (Or.inr (slot_ne (Or.inr (hw _ (List.mem_of_getElem? (i := 71) rfl))) (Or.inr (hw _ (List.mem_of_getElem? (i := 57) rfl))) (by decide) (t := .boolean) (t' := (.object "java/lang/String")) (by decide) (by decide)))).other W11 (Or.inr (slot_ne (Or.inr (hw _ (List.mem_of_getElem? (i := 71) rfl))) (Or.inr (hw _ (List.mem_of_getElem? (i := 59) rfl))) (by decide) (t := .boolean) (t' := (.object "com/example/whisman/whisman/connector/HttpVersion")) (by decide) (by decide)))).other W14 (Or.inr (slot_ne (Or.inr (hw _ (List.mem_of_getElem? (i := 71) rfl))) (Or.inr (hw _ (List.mem_of_getElem? (i := 61) rfl))) (by decide) (t := .boolean) (t' := (.object "com/example/whisman/whisman/connector/HttpFields")) (by decide) (by decide)))).other W17 (Or.inr (slot_ne (Or.inr (hw _ (List.mem_of_getElem? (i := 71) rfl))) (Or.inr (hw _ (List.mem_of_getElem? (i := 63) rfl))) (by decide) (t := .boolean) (t' := (.object "java/lang/String")) (by decide) (by decide)))).other W20 (Or.inr (slot_ne (Or.inr (hw _ (List.mem_of_getElem? (i := 71) rfl))) (Or.inr (hw _ (List.mem_of_getElem? (i := 65) rfl))) (by decide) (t := .boolean) (t' := (.object "java/lang/String")) (by decide) (by decide)))).other W23 (Or.inr (slot_ne (Or.inr (hw _ (List.mem_of_getElem? (i := 71) rfl))) (Or.inr (hw _ (List.mem_of_getElem? (i := 67) rfl))) (by decide) (t := .boolean) (t' := (.object "java/lang/String")) (by decide) (by decide)))).other W26 (Or.inr (slot_ne (Or.inr (hw _ (List.mem_of_getElem? (i := 71) rfl))) (Or.inr (hw _ (List.mem_of_getElem? (i := 69) rfl))) (by decide) (t := .boolean) (t' := .long) (by decide) (by decide))))
  obtain ⟨T29, h29, X29, e29, W29, st29⟩ := putFN X26 hx hZ hown (hw _ (List.mem_of_getElem? (i := 70) rfl)) Via.refl e26 f28 f27 (Or.inr ⟨(hw _ (List.mem_of_getElem? (i := 71) rfl)), rfl, hnm⟩) (hw _ (List.mem_of_getElem? (i := 41) rfl)) (ty := .boolean) (v' := (.int (1 : Int32))) (by decide) rfl (fits_nar_bool (1 : Int32)) (g := (mkF m 58 #[.val (.ref o1), .val (.ref o2), .val (.ref o2), .val (.ref o2), .val (.ref o3), .val (.ref o4), .val (.ref o2), .val u1, .val u2, .val (.long j3), .second, .val (.int (1 : Int32)), .val (.int i4), .val (.int i5)] [(.int (1 : Int32)), (.ref o1)])) rfl rfl (hb hby d7_58)
  have N29 := Fr.snoc X29 N26 gn_o1
  have K29 : Keep h0 h29 [o1] := K26.wr W29 (Or.inl (List.mem_of_getElem? (i := 0) rfl))
  have F29 := f28.same W29
  refine step (T29.setTop (mkF m 61 #[.val (.ref o1), .val (.ref o2), .val (.ref o2), .val (.ref o2), .val (.ref o3), .val (.ref o4), .val (.ref o2), .val u1, .val u2, .val (.long j3), .second, .val (.int (1 : Int32)), .val (.int i4), .val (.int i5)] [])) (fun t k => st29 t k) ?_
  refine step (T29.setTop (mkF m 62 #[.val (.ref o1), .val (.ref o2), .val (.ref o2), .val (.ref o2), .val (.ref o3), .val (.ref o4), .val (.ref o2), .val u1, .val u2, .val (.long j3), .second, .val (.int (1 : Int32)), .val (.int i4), .val (.int i5)] [(.ref o1)])) (fun t k => XS.aloadN X29.here hx rfl (hb hby d7_61) rfl rfl k) ?_
  refine step (T29.setTop (mkF m 64 #[.val (.ref o1), .val (.ref o2), .val (.ref o2), .val (.ref o2), .val (.ref o3), .val (.ref o4), .val (.ref o2), .val u1, .val u2, .val (.long j3), .second, .val (.int (1 : Int32)), .val (.int i4), .val (.int i5)] [(.int i4), (.ref o1)])) (fun t k => XS.iload X29.here hx rfl (hb hby d7_62) rfl k) ?_
  have f30 := (f27.wr W29)
  have f31 := ((((((((((Pm11.other W2 (Or.inr (slot_ne (Or.inr (hw _ (List.mem_of_getElem? (i := 73) rfl))) (Or.inr (hw _ (List.mem_of_getElem? (i := 53) rfl))) (by decide) (t := .boolean) (t' := (.object "java/lang/String")) (by decide) (by decide)))).other W5 (Or.inr (slot_ne (Or.inr (hw _ (List.mem_of_getElem? (i := 73) rfl))) (Or.inr (hw _ (List.mem_of_getElem? (i := 55) rfl))) (by decide) (t := .boolean) (t' := (.object "java/lang/String")) (by decide) (by decide)))).other W8 (Or.inr (slot_ne (Or.inr (hw _ (List.mem_of_getElem? (i := 73) rfl))) (Or.inr (hw _ (List.mem_of_getElem? (i := 57) rfl))) (by decide) (t := .boolean) (t' := (.object "java/lang/String")) (by decide) (by decide)))).other W11 (Or.inr (slot_ne (Or.inr (hw _ (List.mem_of_getElem? (i := 73) rfl))) (Or.inr (hw _ (List.mem_of_getElem? (i := 59) rfl))) (by decide) (t := .boolean) (t' := (.object "com/example/whisman/whisman/connector/HttpVersion")) (by decide) (by decide)))).other W14 (Or.inr (slot_ne (Or.inr (hw _ (List.mem_of_getElem? (i := 73) rfl))) (Or.inr (hw _ (List.mem_of_getElem? (i := 61) rfl))) (by decide) (t := .boolean) (t' := (.object "com/example/whisman/whisman/connector/HttpFields")) (by decide) (by decide)))).other W17 (Or.inr (slot_ne (Or.inr (hw _ (List.mem_of_getElem? (i := 73) rfl))) (Or.inr (hw _ (List.mem_of_getElem? (i := 63) rfl))) (by decide) (t := .boolean) (t' := (.object "java/lang/String")) (by decide) (by decide)))).other W20 (Or.inr (slot_ne (Or.inr (hw _ (List.mem_of_getElem? (i := 73) rfl))) (Or.inr (hw _ (List.mem_of_getElem? (i := 65) rfl))) (by decide) (t := .boolean) (t' := (.object "java/lang/String")) (by decide) (by decide)))).other W23 (Or.inr (slot_ne (Or.inr (hw _ (List.mem_of_getElem? (i := 73) rfl))) (Or.inr (hw _ (List.mem_of_getElem? (i := 67) rfl))) (by decide) (t := .boolean) (t' := (.object "java/lang/String")) (by decide) (by decide)))).other W26 (Or.inr (slot_ne (Or.inr (hw _ (List.mem_of_getElem? (i := 73) rfl))) (Or.inr (hw _ (List.mem_of_getElem? (i := 69) rfl))) (by decide) (t := .boolean) (t' := .long) (by decide) (by decide)))).other W29 (Or.inr (slot_ne (Or.inr (hw _ (List.mem_of_getElem? (i := 73) rfl))) (Or.inr (hw _ (List.mem_of_getElem? (i := 71) rfl))) (by decide) (t := .boolean) (t' := .boolean) (by decide) (by decide))))
  obtain ⟨T32, h32, X32, e32, W32, st32⟩ := putFN X29 hx hZ hown (hw _ (List.mem_of_getElem? (i := 72) rfl)) Via.refl e29 f31 f30 (Or.inr ⟨(hw _ (List.mem_of_getElem? (i := 73) rfl)), rfl, hnm⟩) (hw _ (List.mem_of_getElem? (i := 41) rfl)) (ty := .boolean) (v' := (.int (nar .boolean i4))) (by decide) rfl (fits_nar_bool i4) (g := (mkF m 64 #[.val (.ref o1), .val (.ref o2), .val (.ref o2), .val (.ref o2), .val (.ref o3), .val (.ref o4), .val (.ref o2), .val u1, .val u2, .val (.long j3), .second, .val (.int (1 : Int32)), .val (.int i4), .val (.int i5)] [(.int i4), (.ref o1)])) rfl rfl (hb hby d7_64)
  have N32 := Fr.snoc X32 N29 gn_o1
  have K32 : Keep h0 h32 [o1] := K29.wr W32 (Or.inl (List.mem_of_getElem? (i := 0) rfl))
  have F32 := f31.same W32
  refine step (T32.setTop (mkF m 67 #[.val (.ref o1), .val (.ref o2), .val (.ref o2), .val (.ref o2), .val (.ref o3), .val (.ref o4), .val (.ref o2), .val u1, .val u2, .val (.long j3), .second, .val (.int (1 : Int32)), .val (.int i4), .val (.int i5)] [])) (fun t k => st32 t k) ?_
  refine step (T32.setTop (mkF m 68 #[.val (.ref o1), .val (.ref o2), .val (.ref o2), .val (.ref o2), .val (.ref o3), .val (.ref o4), .val (.ref o2), .val u1, .val u2, .val (.long j3), .second, .val (.int (1 : Int32)), .val (.int i4), .val (.int i5)] [(.ref o1)])) (fun t k => XS.aloadN X32.here hx rfl (hb hby d7_67) rfl rfl k) ?_
  refine step (T32.setTop (mkF m 70 #[.val (.ref o1), .val (.ref o2), .val (.ref o2), .val (.ref o2), .val (.ref o3), .val (.ref o4), .val (.ref o2), .val u1, .val u2, .val (.long j3), .second, .val (.int (1 : Int32)), .val (.int i4), .val (.int i5)] [(.int i5), (.ref o1)])) (fun t k => XS.iload X32.here hx rfl (hb hby d7_68) rfl k) ?_
  have f33 := (f30.wr W32)
  have f34 := (((((((((((Pm7.other W2 (Or.inr (slot_ne (Or.inr (hw _ (List.mem_of_getElem? (i := 75) rfl))) (Or.inr (hw _ (List.mem_of_getElem? (i := 53) rfl))) (by decide) (t := .boolean) (t' := (.object "java/lang/String")) (by decide) (by decide)))).other W5 (Or.inr (slot_ne (Or.inr (hw _ (List.mem_of_getElem? (i := 75) rfl))) (Or.inr (hw _ (List.mem_of_getElem? (i := 55) rfl))) (by decide) (t := .boolean) (t' := (.object "java/lang/String")) (by decide) (by decide)))).other W8 (Or.inr (slot_ne (Or.inr (hw _ (List.mem_of_getElem? (i := 75) rfl))) (Or.inr (hw _ (List.mem_of_getElem? (i := 57) rfl))) (by decide) (t := .boolean) (t' := (.object "java/lang/String")) (by decide) (by decide)))).other W11 (Or.inr (slot_ne (Or.inr (hw _ (List.mem_of_getElem? (i := 75) rfl))) (Or.inr (hw _ (List.mem_of_getElem? (i := 59) rfl))) (by decide) (t := .boolean) (t' := (.object "com/example/whisman/whisman/connector/HttpVersion")) (by decide) (by decide)))).other W14 (Or.inr (slot_ne (Or.inr (hw _ (List.mem_of_getElem? (i := 75) rfl))) (Or.inr (hw _ (List.mem_of_getElem? (i := 61) rfl))) (by decide) (t := .boolean) (t' := (.object "com/example/whisman/whisman/connector/HttpFields")) (by decide) (by decide)))).other W17 (Or.inr (slot_ne (Or.inr (hw _ (List.mem_of_getElem? (i := 75) rfl))) (Or.inr (hw _ (List.mem_of_getElem? (i := 63) rfl))) (by decide) (t := .boolean) (t' := (.object "java/lang/String")) (by decide) (by decide)))).other W20 (Or.inr (slot_ne (Or.inr (hw _ (List.mem_of_getElem? (i := 75) rfl))) (Or.inr (hw _ (List.mem_of_getElem? (i := 65) rfl))) (by decide) (t := .boolean) (t' := (.object "java/lang/String")) (by decide) (by decide)))).other W23 (Or.inr (slot_ne (Or.inr (hw _ (List.mem_of_getElem? (i := 75) rfl))) (Or.inr (hw _ (List.mem_of_getElem? (i := 67) rfl))) (by decide) (t := .boolean) (t' := (.object "java/lang/String")) (by decide) (by decide)))).other W26 (Or.inr (slot_ne (Or.inr (hw _ (List.mem_of_getElem? (i := 75) rfl))) (Or.inr (hw _ (List.mem_of_getElem? (i := 69) rfl))) (by decide) (t := .boolean) (t' := .long) (by decide) (by decide)))).other W29 (Or.inr (slot_ne (Or.inr (hw _ (List.mem_of_getElem? (i := 75) rfl))) (Or.inr (hw _ (List.mem_of_getElem? (i := 71) rfl))) (by decide) (t := .boolean) (t' := .boolean) (by decide) (by decide)))).other W32 (Or.inr (slot_ne (Or.inr (hw _ (List.mem_of_getElem? (i := 75) rfl))) (Or.inr (hw _ (List.mem_of_getElem? (i := 73) rfl))) (by decide) (t := .boolean) (t' := .boolean) (by decide) (by decide))))
  obtain ⟨T35, h35, X35, e35, W35, st35⟩ := putFN X32 hx hZ hown (hw _ (List.mem_of_getElem? (i := 74) rfl)) Via.refl e32 f34 f33 (Or.inr ⟨(hw _ (List.mem_of_getElem? (i := 75) rfl)), rfl, hnm⟩) (hw _ (List.mem_of_getElem? (i := 41) rfl)) (ty := .boolean) (v' := (.int (nar .boolean i5))) (by decide) rfl (fits_nar_bool i5) (g := (mkF m 70 #[.val (.ref o1), .val (.ref o2), .val (.ref o2), .val (.ref o2), .val (.ref o3), .val (.ref o4), .val (.ref o2), .val u1, .val u2, .val (.long j3), .second, .val (.int (1 : Int32)), .val (.int i4), .val (.int i5)] [(.int i5), (.ref o1)])) rfl rfl (hb hby d7_70)
  have N35 := Fr.snoc X35 N32 gn_o1
  have K35 : Keep h0 h35 [o1] := K32.wr W35 (Or.inl (List.mem_of_getElem? (i := 0) rfl))
  have F35 := f34.same W35
  refine step (T35.setTop (mkF m 73 #[.val (.ref o1), .val (.ref o2), .val (.ref o2), .val (.ref o2), .val (.ref o3), .val (.ref o4), .val (.ref o2), .val u1, .val u2, .val (.long j3), .second, .val (.int (1 : Int32)), .val (.int i4), .val (.int i5)] [])) (fun t k => st35 t k) ?_
  have f36 := ((((F23.other W26 (Or.inr (slot_ne (Or.inr (hw _ (List.mem_of_getElem? (i := 67) rfl))) (Or.inr (hw _ (List.mem_of_getElem? (i := 69) rfl))) (by decide) (t := (.object "java/lang/String")) (t' := .long) (by decide) (by decide)))).other W29 (Or.inr (slot_ne (Or.inr (hw _ (List.mem_of_getElem? (i := 67) rfl))) (Or.inr (hw _ (List.mem_of_getElem? (i := 71) rfl))) (by decide) (t := (.object "java/lang/String")) (t' := .boolean) (by decide) (by decide)))).other W32 (Or.inr (slot_ne (Or.inr (hw _ (List.mem_of_getElem? (i := 67) rfl))) (Or.inr (hw _ (List.mem_of_getElem? (i := 73) rfl))) (by decide) (t := (.object "java/lang/String")) (t' := .boolean) (by decide) (by decide)))).other W35 (Or.inr (slot_ne (Or.inr (hw _ (List.mem_of_getElem? (i := 67) rfl))) (Or.inr (hw _ (List.mem_of_getElem? (i := 75) rfl))) (by decide) (t := (.object "java/lang/String")) (t' := .boolean) (by decide) (by decide))))
  have f37 := ((F29.other W32 (Or.inr (slot_ne (Or.inr (hw _ (List.mem_of_getElem? (i := 71) rfl))) (Or.inr (hw _ (List.mem_of_getElem? (i := 73) rfl))) (by decide) (t := .boolean) (t' := .boolean) (by decide) (by decide)))).other W35 (Or.inr (slot_ne (Or.inr (hw _ (List.mem_of_getElem? (i := 71) rfl))) (Or.inr (hw _ (List.mem_of_getElem? (i := 75) rfl))) (by decide) (t := .boolean) (t' := .boolean) (by decide) (by decide))))
  have f38 := (((F26.other W29 (Or.inr (slot_ne (Or.inr (hw _ (List.mem_of_getElem? (i := 69) rfl))) (Or.inr (hw _ (List.mem_of_getElem? (i := 71) rfl))) (by decide) (t := .long) (t' := .boolean) (by decide) (by decide)))).other W32 (Or.inr (slot_ne (Or.inr (hw _ (List.mem_of_getElem? (i := 69) rfl))) (Or.inr (hw _ (List.mem_of_getElem? (i := 73) rfl))) (by decide) (t := .long) (t' := .boolean) (by decide) (by decide)))).other W35 (Or.inr (slot_ne (Or.inr (hw _ (List.mem_of_getElem? (i := 69) rfl))) (Or.inr (hw _ (List.mem_of_getElem? (i := 75) rfl))) (by decide) (t := .long) (t' := .boolean) (by decide) (by decide))))
  have f39 := (((((((F14.other W17 (Or.inr (slot_ne (Or.inr (hw _ (List.mem_of_getElem? (i := 61) rfl))) (Or.inr (hw _ (List.mem_of_getElem? (i := 63) rfl))) (by decide) (t := (.object "com/example/whisman/whisman/connector/HttpFields")) (t' := (.object "java/lang/String")) (by decide) (by decide)))).other W20 (Or.inr (slot_ne (Or.inr (hw _ (List.mem_of_getElem? (i := 61) rfl))) (Or.inr (hw _ (List.mem_of_getElem? (i := 65) rfl))) (by decide) (t := (.object "com/example/whisman/whisman/connector/HttpFields")) (t' := (.object "java/lang/String")) (by decide) (by decide)))).other W23 (Or.inr (slot_ne (Or.inr (hw _ (List.mem_of_getElem? (i := 61) rfl))) (Or.inr (hw _ (List.mem_of_getElem? (i := 67) rfl))) (by decide) (t := (.object "com/example/whisman/whisman/connector/HttpFields")) (t' := (.object "java/lang/String")) (by decide) (by decide)))).other W26 (Or.inr (slot_ne (Or.inr (hw _ (List.mem_of_getElem? (i := 61) rfl))) (Or.inr (hw _ (List.mem_of_getElem? (i := 69) rfl))) (by decide) (t := (.object "com/example/whisman/whisman/connector/HttpFields")) (t' := .long) (by decide) (by decide)))).other W29 (Or.inr (slot_ne (Or.inr (hw _ (List.mem_of_getElem? (i := 61) rfl))) (Or.inr (hw _ (List.mem_of_getElem? (i := 71) rfl))) (by decide) (t := (.object "com/example/whisman/whisman/connector/HttpFields")) (t' := .boolean) (by decide) (by decide)))).other W32 (Or.inr (slot_ne (Or.inr (hw _ (List.mem_of_getElem? (i := 61) rfl))) (Or.inr (hw _ (List.mem_of_getElem? (i := 73) rfl))) (by decide) (t := (.object "com/example/whisman/whisman/connector/HttpFields")) (t' := .boolean) (by decide) (by decide)))).other W35 (Or.inr (slot_ne (Or.inr (hw _ (List.mem_of_getElem? (i := 61) rfl))) (Or.inr (hw _ (List.mem_of_getElem? (i := 75) rfl))) (by decide) (t := (.object "com/example/whisman/whisman/connector/HttpFields")) (t' := .boolean) (by decide) (by decide))))
  have f40 := (((((((((((F2.other W5 (Or.inr (slot_ne (Or.inr (hw _ (List.mem_of_getElem? (i := 53) rfl))) (Or.inr (hw _ (List.mem_of_getElem? (i := 55) rfl))) (by decide) (t := (.object "java/lang/String")) (t' := (.object "java/lang/String")) (by decide) (by decide)))).other W8 (Or.inr (slot_ne (Or.inr (hw _ (List.mem_of_getElem? (i := 53) rfl))) (Or.inr (hw _ (List.mem_of_getElem? (i := 57) rfl))) (by decide) (t := (.object "java/lang/String")) (t' := (.object "java/lang/String")) (by decide) (by decide)))).other W11 (Or.inr (slot_ne (Or.inr (hw _ (List.mem_of_getElem? (i := 53) rfl))) (Or.inr (hw _ (List.mem_of_getElem? (i := 59) rfl))) (by decide) (t := (.object "java/lang/String")) (t' := (.object "com/example/whisman/whisman/connector/HttpVersion")) (by decide) (by decide)))).other W14 (Or.inr (slot_ne (Or.inr (hw _ (List.mem_of_getElem? (i := 53) rfl))) (Or.inr (hw _ (List.mem_of_getElem? (i := 61) rfl))) (by decide) (t := (.object "java/lang/String")) (t' := (.object "com/example/whisman/whisman/connector/HttpFields")) (by decide) (by decide)))).other W17 (Or.inr (slot_ne (Or.inr (hw _ (List.mem_of_getElem? (i := 53) rfl))) (Or.inr (hw _ (List.mem_of_getElem? (i := 63) rfl))) (by decide) (t := (.object "java/lang/String")) (t' := (.object "java/lang/String")) (by decide) (by decide)))).other W20 (Or.inr (slot_ne (Or.inr (hw _ (List.mem_of_getElem? (i := 53) rfl))) (Or.inr (hw _ (List.mem_of_getElem? (i := 65) rfl))) (by decide) (t := (.object "java/lang/String")) (t' := (.object "java/lang/String")) (by decide) (by decide)))).other W23 (Or.inr (slot_ne (Or.inr (hw _ (List.mem_of_getElem? (i := 53) rfl))) (Or.inr (hw _ (List.mem_of_getElem? (i := 67) rfl))) (by decide) (t := (.object "java/lang/String")) (t' := (.object "java/lang/String")) (by decide) (by decide)))).other W26 (Or.inr (slot_ne (Or.inr (hw _ (List.mem_of_getElem? (i := 53) rfl))) (Or.inr (hw _ (List.mem_of_getElem? (i := 69) rfl))) (by decide) (t := (.object "java/lang/String")) (t' := .long) (by decide) (by decide)))).other W29 (Or.inr (slot_ne (Or.inr (hw _ (List.mem_of_getElem? (i := 53) rfl))) (Or.inr (hw _ (List.mem_of_getElem? (i := 71) rfl))) (by decide) (t := (.object "java/lang/String")) (t' := .boolean) (by decide) (by decide)))).other W32 (Or.inr (slot_ne (Or.inr (hw _ (List.mem_of_getElem? (i := 53) rfl))) (Or.inr (hw _ (List.mem_of_getElem? (i := 73) rfl))) (by decide) (t := (.object "java/lang/String")) (t' := .boolean) (by decide) (by decide)))).other W35 (Or.inr (slot_ne (Or.inr (hw _ (List.mem_of_getElem? (i := 53) rfl))) (Or.inr (hw _ (List.mem_of_getElem? (i := 75) rfl))) (by decide) (t := (.object "java/lang/String")) (t' := .boolean) (by decide) (by decide))))
  have f41 := ((((((F17.other W20 (Or.inr (slot_ne (Or.inr (hw _ (List.mem_of_getElem? (i := 63) rfl))) (Or.inr (hw _ (List.mem_of_getElem? (i := 65) rfl))) (by decide) (t := (.object "java/lang/String")) (t' := (.object "java/lang/String")) (by decide) (by decide)))).other W23 (Or.inr (slot_ne (Or.inr (hw _ (List.mem_of_getElem? (i := 63) rfl))) (Or.inr (hw _ (List.mem_of_getElem? (i := 67) rfl))) (by decide) (t := (.object "java/lang/String")) (t' := (.object "java/lang/String")) (by decide) (by decide)))).other W26 (Or.inr (slot_ne (Or.inr (hw _ (List.mem_of_getElem? (i := 63) rfl))) (Or.inr (hw _ (List.mem_of_getElem? (i := 69) rfl))) (by decide) (t := (.object "java/lang/String")) (t' := .long) (by decide) (by decide)))).other W29 (Or.inr (slot_ne (Or.inr (hw _ (List.mem_of_getElem? (i := 63) rfl))) (Or.inr (hw _ (List.mem_of_getElem? (i := 71) rfl))) (by decide) (t := (.object "java/lang/String")) (t' := .boolean) (by decide) (by decide)))).other W32 (Or.inr (slot_ne (Or.inr (hw _ (List.mem_of_getElem? (i := 63) rfl))) (Or.inr (hw _ (List.mem_of_getElem? (i := 73) rfl))) (by decide) (t := (.object "java/lang/String")) (t' := .boolean) (by decide) (by decide)))).other W35 (Or.inr (slot_ne (Or.inr (hw _ (List.mem_of_getElem? (i := 63) rfl))) (Or.inr (hw _ (List.mem_of_getElem? (i := 75) rfl))) (by decide) (t := (.object "java/lang/String")) (t' := .boolean) (by decide) (by decide))))
  have f42 := (F32.other W35 (Or.inr (slot_ne (Or.inr (hw _ (List.mem_of_getElem? (i := 73) rfl))) (Or.inr (hw _ (List.mem_of_getElem? (i := 75) rfl))) (by decide) (t := .boolean) (t' := .boolean) (by decide) (by decide))))
  have f43 := (((((F20.other W23 (Or.inr (slot_ne (Or.inr (hw _ (List.mem_of_getElem? (i := 65) rfl))) (Or.inr (hw _ (List.mem_of_getElem? (i := 67) rfl))) (by decide) (t := (.object "java/lang/String")) (t' := (.object "java/lang/String")) (by decide) (by decide)))).other W26 (Or.inr (slot_ne (Or.inr (hw _ (List.mem_of_getElem? (i := 65) rfl))) (Or.inr (hw _ (List.mem_of_getElem? (i := 69) rfl))) (by decide) (t := (.object "java/lang/String")) (t' := .long) (by decide) (by decide)))).other W29 (Or.inr (slot_ne (Or.inr (hw _ (List.mem_of_getElem? (i := 65) rfl))) (Or.inr (hw _ (List.mem_of_getElem? (i := 71) rfl))) (by decide) (t := (.object "java/lang/String")) (t' := .boolean) (by decide) (by decide)))).other W32 (Or.inr (slot_ne (Or.inr (hw _ (List.mem_of_getElem? (i := 65) rfl))) (Or.inr (hw _ (List.mem_of_getElem? (i := 73) rfl))) (by decide) (t := (.object "java/lang/String")) (t' := .boolean) (by decide) (by decide)))).other W35 (Or.inr (slot_ne (Or.inr (hw _ (List.mem_of_getElem? (i := 65) rfl))) (Or.inr (hw _ (List.mem_of_getElem? (i := 75) rfl))) (by decide) (t := (.object "java/lang/String")) (t' := .boolean) (by decide) (by decide))))
  have f44 := ((((((((((F5.other W8 (Or.inr (slot_ne (Or.inr (hw _ (List.mem_of_getElem? (i := 55) rfl))) (Or.inr (hw _ (List.mem_of_getElem? (i := 57) rfl))) (by decide) (t := (.object "java/lang/String")) (t' := (.object "java/lang/String")) (by decide) (by decide)))).other W11 (Or.inr (slot_ne (Or.inr (hw _ (List.mem_of_getElem? (i := 55) rfl))) (Or.inr (hw _ (List.mem_of_getElem? (i := 59) rfl))) (by decide) (t := (.object "java/lang/String")) (t' := (.object "com/example/whisman/whisman/connector/HttpVersion")) (by decide) (by decide)))).other W14 (Or.inr (slot_ne (Or.inr (hw _ (List.mem_of_getElem? (i := 55) rfl))) (Or.inr (hw _ (List.mem_of_getElem? (i := 61) rfl))) (by decide) (t := (.object "java/lang/String")) (t' := (.object "com/example/whisman/whisman/connector/HttpFields")) (by decide) (by decide)))).other W17 (Or.inr (slot_ne (Or.inr (hw _ (List.mem_of_getElem? (i := 55) rfl))) (Or.inr (hw _ (List.mem_of_getElem? (i := 63) rfl))) (by decide) (t := (.object "java/lang/String")) (t' := (.object "java/lang/String")) (by decide) (by decide)))).other W20 (Or.inr (slot_ne (Or.inr (hw _ (List.mem_of_getElem? (i := 55) rfl))) (Or.inr (hw _ (List.mem_of_getElem? (i := 65) rfl))) (by decide) (t := (.object "java/lang/String")) (t' := (.object "java/lang/String")) (by decide) (by decide)))).other W23 (Or.inr (slot_ne (Or.inr (hw _ (List.mem_of_getElem? (i := 55) rfl))) (Or.inr (hw _ (List.mem_of_getElem? (i := 67) rfl))) (by decide) (t := (.object "java/lang/String")) (t' := (.object "java/lang/String")) (by decide) (by decide)))).other W26 (Or.inr (slot_ne (Or.inr (hw _ (List.mem_of_getElem? (i := 55) rfl))) (Or.inr (hw _ (List.mem_of_getElem? (i := 69) rfl))) (by decide) (t := (.object "java/lang/String")) (t' := .long) (by decide) (by decide)))).other W29 (Or.inr (slot_ne (Or.inr (hw _ (List.mem_of_getElem? (i := 55) rfl))) (Or.inr (hw _ (List.mem_of_getElem? (i := 71) rfl))) (by decide) (t := (.object "java/lang/String")) (t' := .boolean) (by decide) (by decide)))).other W32 (Or.inr (slot_ne (Or.inr (hw _ (List.mem_of_getElem? (i := 55) rfl))) (Or.inr (hw _ (List.mem_of_getElem? (i := 73) rfl))) (by decide) (t := (.object "java/lang/String")) (t' := .boolean) (by decide) (by decide)))).other W35 (Or.inr (slot_ne (Or.inr (hw _ (List.mem_of_getElem? (i := 55) rfl))) (Or.inr (hw _ (List.mem_of_getElem? (i := 75) rfl))) (by decide) (t := (.object "java/lang/String")) (t' := .boolean) (by decide) (by decide))))
  have f45 := ((((((((F11.other W14 (Or.inr (slot_ne (Or.inr (hw _ (List.mem_of_getElem? (i := 59) rfl))) (Or.inr (hw _ (List.mem_of_getElem? (i := 61) rfl))) (by decide) (t := (.object "com/example/whisman/whisman/connector/HttpVersion")) (t' := (.object "com/example/whisman/whisman/connector/HttpFields")) (by decide) (by decide)))).other W17 (Or.inr (slot_ne (Or.inr (hw _ (List.mem_of_getElem? (i := 59) rfl))) (Or.inr (hw _ (List.mem_of_getElem? (i := 63) rfl))) (by decide) (t := (.object "com/example/whisman/whisman/connector/HttpVersion")) (t' := (.object "java/lang/String")) (by decide) (by decide)))).other W20 (Or.inr (slot_ne (Or.inr (hw _ (List.mem_of_getElem? (i := 59) rfl))) (Or.inr (hw _ (List.mem_of_getElem? (i := 65) rfl))) (by decide) (t := (.object "com/example/whisman/whisman/connector/HttpVersion")) (t' := (.object "java/lang/String")) (by decide) (by decide)))).other W23 (Or.inr (slot_ne (Or.inr (hw _ (List.mem_of_getElem? (i := 59) rfl))) (Or.inr (hw _ (List.mem_of_getElem? (i := 67) rfl))) (by decide) (t := (.object "com/example/whisman/whisman/connector/HttpVersion")) (t' := (.object "java/lang/String")) (by decide) (by decide)))).other W26 (Or.inr (slot_ne (Or.inr (hw _ (List.mem_of_getElem? (i := 59) rfl))) (Or.inr (hw _ (List.mem_of_getElem? (i := 69) rfl))) (by decide) (t := (.object "com/example/whisman/whisman/connector/HttpVersion")) (t' := .long) (by decide) (by decide)))).other W29 (Or.inr (slot_ne (Or.inr (hw _ (List.mem_of_getElem? (i := 59) rfl))) (Or.inr (hw _ (List.mem_of_getElem? (i := 71) rfl))) (by decide) (t := (.object "com/example/whisman/whisman/connector/HttpVersion")) (t' := .boolean) (by decide) (by decide)))).other W32 (Or.inr (slot_ne (Or.inr (hw _ (List.mem_of_getElem? (i := 59) rfl))) (Or.inr (hw _ (List.mem_of_getElem? (i := 73) rfl))) (by decide) (t := (.object "com/example/whisman/whisman/connector/HttpVersion")) (t' := .boolean) (by decide) (by decide)))).other W35 (Or.inr (slot_ne (Or.inr (hw _ (List.mem_of_getElem? (i := 59) rfl))) (Or.inr (hw _ (List.mem_of_getElem? (i := 75) rfl))) (by decide) (t := (.object "com/example/whisman/whisman/connector/HttpVersion")) (t' := .boolean) (by decide) (by decide))))
  have f46 := (((((((((F8.other W11 (Or.inr (slot_ne (Or.inr (hw _ (List.mem_of_getElem? (i := 57) rfl))) (Or.inr (hw _ (List.mem_of_getElem? (i := 59) rfl))) (by decide) (t := (.object "java/lang/String")) (t' := (.object "com/example/whisman/whisman/connector/HttpVersion")) (by decide) (by decide)))).other W14 (Or.inr (slot_ne (Or.inr (hw _ (List.mem_of_getElem? (i := 57) rfl))) (Or.inr (hw _ (List.mem_of_getElem? (i := 61) rfl))) (by decide) (t := (.object "java/lang/String")) (t' := (.object "com/example/whisman/whisman/connector/HttpFields")) (by decide) (by decide)))).other W17 (Or.inr (slot_ne (Or.inr (hw _ (List.mem_of_getElem? (i := 57) rfl))) (Or.inr (hw _ (List.mem_of_getElem? (i := 63) rfl))) (by decide) (t := (.object "java/lang/String")) (t' := (.object "java/lang/String")) (by decide) (by decide)))).other W20 (Or.inr (slot_ne (Or.inr (hw _ (List.mem_of_getElem? (i := 57) rfl))) (Or.inr (hw _ (List.mem_of_getElem? (i := 65) rfl))) (by decide) (t := (.object "java/lang/String")) (t' := (.object "java/lang/String")) (by decide) (by decide)))).other W23 (Or.inr (slot_ne (Or.inr (hw _ (List.mem_of_getElem? (i := 57) rfl))) (Or.inr (hw _ (List.mem_of_getElem? (i := 67) rfl))) (by decide) (t := (.object "java/lang/String")) (t' := (.object "java/lang/String")) (by decide) (by decide)))).other W26 (Or.inr (slot_ne (Or.inr (hw _ (List.mem_of_getElem? (i := 57) rfl))) (Or.inr (hw _ (List.mem_of_getElem? (i := 69) rfl))) (by decide) (t := (.object "java/lang/String")) (t' := .long) (by decide) (by decide)))).other W29 (Or.inr (slot_ne (Or.inr (hw _ (List.mem_of_getElem? (i := 57) rfl))) (Or.inr (hw _ (List.mem_of_getElem? (i := 71) rfl))) (by decide) (t := (.object "java/lang/String")) (t' := .boolean) (by decide) (by decide)))).other W32 (Or.inr (slot_ne (Or.inr (hw _ (List.mem_of_getElem? (i := 57) rfl))) (Or.inr (hw _ (List.mem_of_getElem? (i := 73) rfl))) (by decide) (t := (.object "java/lang/String")) (t' := .boolean) (by decide) (by decide)))).other W35 (Or.inr (slot_ne (Or.inr (hw _ (List.mem_of_getElem? (i := 57) rfl))) (Or.inr (hw _ (List.mem_of_getElem? (i := 75) rfl))) (by decide) (t := (.object "java/lang/String")) (t' := .boolean) (by decide) (by decide))))
  refine fin (v := none) X35 (fun _ => rfl) ?_ (by decide) (by decide) (fun fs hr => X35.returnOut hx hret (hb hby d7_73) hr)
  show Q7_11 Z o1 o2 o3 o4 u1 u2 j3 i4 i5 o5 h0 n0 (none) T35.heap _
  rw [e35]
  exact ⟨rfl, N35, K35, f36, f37, f38, F35, f39, f40, f41, f42, f43, f44, f45, f46⟩
theorem ef_9_12 (m : MethodId) (x0 : Addr) : entryFrame m #[(.ref x0)] 1 = mkF m 0 #[.val (.ref x0)] [] := by first | (simp [entryFrame, mkF, argsToLocals, Value.category]; done) | rfl
def Q9_12 (Z : State) (o1 : Addr) (j1 : Int64) (h0 : Heap) (n0 : Nat) (v : Option Value) (h : Heap) (L : List Loc) : Prop := v = some (.int (1 : Int32)) ∧ Fr n0 L ∧ h = h0
set_option maxRecDepth 65536 in
set_option maxHeartbeats 40000000 in
theorem rm9_12 (l : Launch) (Z : State) (a0 : Array Value) (hw : ∀ d ∈ tables_1, d.before a0 Z = true) (ws : List Jvm.Cond) (o1 : Addr) (j1 : Int64) (h0 : Heap) (n0 : Nat) (Z0 : n0 ≤ h0.size) (Pm0 : Exa Z h0 o1 "com/example/whisman/whisman/connector/RequestHead") (Pm1 : Fld Z h0 o1 "com/example/whisman/whisman/connector/RequestHead" "chunked" "Z" (.int (1 : Int32))) (Pm2 : Fld Z h0 o1 "com/example/whisman/whisman/connector/RequestHead" "contentLength" "J" (.long j1)) (gn_o1 : n0 ≤ o1)  :
    MetFree l (⟨"com/example/whisman/whisman/connector/RequestHead", "hasBody", "()Z"⟩ : MethodName) (head1 (Jvm.Cond.code (⟨"com/example/whisman/whisman/connector/RequestHead", "hasBody", "()Z"⟩ : MethodName) prog_16_method_3_code 1 (some .boolean) :: ws) ({ frames := 0, cells := 0, slots := 0, locals := 0 } : Room)) (fun a U => a = #[(.ref o1)] ∧ Z.Warmed39 U.vm ∧ U.heap = h0) (fun _ _ _ _ _ => True) (fun _ U o U' => ∃ v L, o = .returned v ∧ Q9_12 Z o1 j1 h0 n0 v U'.heap L ∧ FrameEnd U o U' L ({ frames := 0, cells := 0, slots := 0, locals := 0 } : Room).cells ({ frames := 0, cells := 0, slots := 0, locals := 0 } : Room).slots) := by
  refine own_body (plainFor_of_name pn_4) ?_
  intro p e s m below meth c s₁ G hx hby hml hZ hown hnm hret X0 e0 step fin
  replace hown : s.vm.findClass "com/example/whisman/whisman/connector/RequestHead" = some m.cls := hown
  replace hnm : meth.name = "hasBody" := hnm
  replace hret : meth.sig.returnType = some .boolean := hret
  replace hml : c.maxLocals = 1 := hml
  have N0 := Fr.nil n0
  refine step (s₁.setTop (mkF m 0 #[.val (.ref o1)] [])) (fun t k => castTop (ef_9_12 m o1) k) ?_
  refine step (s₁.setTop (mkF m 1 #[.val (.ref o1)] [(.ref o1)])) (fun t k => XS.aloadN X0.here hx rfl (hb hby d9_0) rfl rfl k) ?_
  obtain ⟨T1, X1, e1, st1⟩ := getF X0 hx hZ hown (host := "") (Or.inl (hw _ (List.mem_of_getElem? (i := 70) rfl))) Via.refl e0 Pm1 (g := (mkF m 1 #[.val (.ref o1)] [(.ref o1)])) rfl rfl (hb hby d9_1)
  refine step (T1.setTop (mkF m 4 #[.val (.ref o1)] [(.int (1 : Int32))])) (fun t k => st1 t k) ?_
  refine step (T1.setTop (mkF m 16 #[.val (.ref o1)] [])) (fun t k => XS.ifYes X1.here hx rfl (pc0 := 4) (pc' := 16) rfl (hb hby d9_4) rfl ((if0 _ _).trans (feq (by decide : ¬ ((1 : Int32) = (0 : Int32)))).2) (by decide) (by decide) k) ?_
  refine step (T1.setTop (mkF m 17 #[.val (.ref o1)] [(.int (1 : Int32))])) (fun t k => XS.iconst X1.here hx rfl (hb hby d9_16) k) ?_
  refine step (T1.setTop (mkF m 21 #[.val (.ref o1)] [(.int (1 : Int32))])) (fun t k => XS.goto X1.here hx rfl (pc0 := 17) (pc' := 21) rfl (hb hby d9_17) (by decide) (by decide) k) ?_
  refine fin (v := some (.int (nar .boolean (1 : Int32)))) X1 (fun h => by cases h) ?_ (by decide) (by decide) (fun fs hr => retN X1 hx (t := .boolean) hret (by simp) (hb hby d9_21) hr)
  show Q9_12 Z o1 j1 h0 n0 (some (.int (nar .boolean (1 : Int32)))) T1.heap _
  rw [e1]
  exact ⟨rfl, N0, rfl⟩
theorem ef_0 (m : MethodId) (x0 : Int64) (x1 : Int32) : entryFrame m #[(.long x0), (.int x1)] maxLocals = mkF m 0 #[.val (.long x0), .second, .val (.int x1), .unset, .unset, .unset, .unset, .unset, .unset, .unset, .unset, .unset, .unset] [] := by first | (simp [entryFrame, mkF, argsToLocals, Value.category, maxLocals]; done) | rfl
def Q0 (Z : State) (p0 : Int64) (p1 cs : Int32) (aV0 aV1 aNONE : Addr) (h0 : Heap) (n0 : Nat) (v : Option Value) (h : Heap) (L : List Loc) : Prop := v = some (.int 1) ∧ Fr n0 L
set_option maxRecDepth 65536 in
set_option maxHeartbeats 40000000 in
theorem rm0 (l : Launch) (Z : State) (a0 : Array Value) (hw : ∀ d ∈ tables_1, d.before a0 Z = true) (ws : List Jvm.Cond) (p0 : Int64) (p1 cs : Int32) (aV0 aV1 aNONE : Addr) (h0 : Heap) (n0 : Nat) (Z0 : n0 ≤ h0.size) (S_cs : Sta Z h0 "java/lang/String" "COMPACT_STRINGS" "Z" (.int cs)) (c_cs : ¬ (cs = (0 : Int32))) (S_aV0 : Sta Z h0 "com/example/whisman/whisman/connector/HttpVersion" "HTTP_1_0" "Lcom/example/whisman/whisman/connector/HttpVersion;" (.ref aV0)) (S_aV1 : Sta Z h0 "com/example/whisman/whisman/connector/HttpVersion" "HTTP_1_1" "Lcom/example/whisman/whisman/connector/HttpVersion;" (.ref aV1)) (S_aNONE : Sta Z h0 "com/example/whisman/whisman/connector/HttpFields" "NONE" "[Ljava/lang/String;" (.ref aNONE)) (E_aV0 : Exa Z h0 aV0 "com/example/whisman/whisman/connector/HttpVersion") (E_aV1 : Exa Z h0 aV1 "com/example/whisman/whisman/connector/HttpVersion") :
    MetFree l x (head1 (Jvm.Cond.code x code maxLocals ret :: ws) room_1) (fun a U => a = #[(.long p0), (.int p1)] ∧ Z.Warmed39 U.vm ∧ U.heap = h0) (fun _ _ _ _ _ => True) (fun _ U o U' => ∃ v L, o = .returned v ∧ Q0 Z p0 p1 cs aV0 aV1 aNONE h0 n0 v U'.heap L ∧ FrameEnd U o U' L room_1.cells room_1.slots) := by
  refine own_body (plainFor_of_name pn_0) ?_
  intro p e s m below meth c s₁ G hx hby hml hZ hown hnm hret X0 e0 step fin
  replace hown : s.vm.findClass "com/example/whisman/whisman/connector/RequestHeadHasBodyPinLaw" = some m.cls := hown
  replace hnm : meth.name = "law" := hnm
  replace hret : meth.sig.returnType = some .boolean := hret
  replace hml : c.maxLocals = 13 := hml
  have N0 := Fr.nil n0
  refine step (s₁.setTop (mkF m 0 #[.val (.long p0), .second, .val (.int p1), .unset, .unset, .unset, .unset, .unset, .unset, .unset, .unset, .unset, .unset] [])) (fun t k => castTop (ef_0 m p0 p1) k) ?_
  refine step (s₁.setTop (mkF m 1 #[.val (.long p0), .second, .val (.int p1), .unset, .unset, .unset, .unset, .unset, .unset, .unset, .unset, .unset, .unset] [(.int p1)])) (fun t k => XS.iloadN X0.here hx rfl (hb hby at_0) rfl k) ?_
  refine step (s₁.setTop (mkF m 2 #[.val (.long p0), .second, .val (.int p1), .unset, .unset, .unset, .unset, .unset, .unset, .unset, .unset, .unset, .unset] [(.int (1 : Int32)), (.int p1)])) (fun t k => XS.iconst X0.here hx rfl (hb hby at_1) k) ?_
  refine step (s₁.setTop (mkF m 3 #[.val (.long p0), .second, .val (.int p1), .unset, .unset, .unset, .unset, .unset, .unset, .unset, .unset, .unset, .unset] [(.int (p1 &&& (1 : Int32)))])) (fun t k => XS.iand X0.here hx rfl (hb hby at_2) rfl k) ?_
  by_cases hc3_1 : (p1 &&& (1 : Int32)) = (0 : Int32)
  · -- pc 3: (p1 &&& (1 : Int32)) = (0 : Int32) True
    refine step (s₁.setTop (mkF m 10 #[.val (.long p0), .second, .val (.int p1), .unset, .unset, .unset, .unset, .unset, .unset, .unset, .unset, .unset, .unset] [])) (fun t k => XS.ifYes X0.here hx rfl (pc0 := 3) (pc' := 10) rfl (hb hby at_3) rfl ((if0 _ _).trans (teq hc3_1).1) (by decide) (by decide) k) ?_
    refine step (s₁.setTop (mkF m 11 #[.val (.long p0), .second, .val (.int p1), .unset, .unset, .unset, .unset, .unset, .unset, .unset, .unset, .unset, .unset] [(.int (0 : Int32))])) (fun t k => XS.iconst X0.here hx rfl (hb hby at_10) k) ?_
    refine step (s₁.setTop (mkF m 12 #[.val (.long p0), .second, .val (.int p1), .val (.int (0 : Int32)), .unset, .unset, .unset, .unset, .unset, .unset, .unset, .unset, .unset] [])) (fun t k => XS.istoreN X0.here hx rfl (hb hby at_11) rfl (l' := #[.val (.long p0), .second, .val (.int p1), .val (.int (0 : Int32)), .unset, .unset, .unset, .unset, .unset, .unset, .unset, .unset, .unset]) rfl k) ?_
    refine step (s₁.setTop (mkF m 13 #[.val (.long p0), .second, .val (.int p1), .val (.int (0 : Int32)), .unset, .unset, .unset, .unset, .unset, .unset, .unset, .unset, .unset] [(.int p1)])) (fun t k => XS.iloadN X0.here hx rfl (hb hby at_12) rfl k) ?_
    refine step (s₁.setTop (mkF m 14 #[.val (.long p0), .second, .val (.int p1), .val (.int (0 : Int32)), .unset, .unset, .unset, .unset, .unset, .unset, .unset, .unset, .unset] [(.int (2 : Int32)), (.int p1)])) (fun t k => XS.iconst X0.here hx rfl (hb hby at_13) k) ?_
    refine step (s₁.setTop (mkF m 15 #[.val (.long p0), .second, .val (.int p1), .val (.int (0 : Int32)), .unset, .unset, .unset, .unset, .unset, .unset, .unset, .unset, .unset] [(.int (p1 &&& (2 : Int32)))])) (fun t k => XS.iand X0.here hx rfl (hb hby at_14) rfl k) ?_
    suffices J23_3 : ∀ (z23_2 : Int32), z23_2 = (if (p1 &&& (2 : Int32)) = (0 : Int32) then (0 : Int32) else (1 : Int32)) → G (s₁.setTop (mkF m 23 #[.val (.long p0), .second, .val (.int p1), .val (.int (0 : Int32)), .unset, .unset, .unset, .unset, .unset, .unset, .unset, .unset, .unset] [(.int z23_2)])) by
      by_cases hc15_4 : (p1 &&& (2 : Int32)) = (0 : Int32)
      · -- 15 True
        refine step (s₁.setTop (mkF m 22 #[.val (.long p0), .second, .val (.int p1), .val (.int (0 : Int32)), .unset, .unset, .unset, .unset, .unset, .unset, .unset, .unset, .unset] [])) (fun t k => XS.ifYes X0.here hx rfl (pc0 := 15) (pc' := 22) rfl (hb hby at_15) rfl ((if0 _ _).trans (teq hc15_4).1) (by decide) (by decide) k) ?_
        refine step (s₁.setTop (mkF m 23 #[.val (.long p0), .second, .val (.int p1), .val (.int (0 : Int32)), .unset, .unset, .unset, .unset, .unset, .unset, .unset, .unset, .unset] [(.int (0 : Int32))])) (fun t k => XS.iconst X0.here hx rfl (hb hby at_22) k) ?_
        exact J23_3 _ (by simp only [if_pos hc15_4, if_true, if_false] <;> rfl)
      · -- 15 False
        refine step (s₁.setTop (mkF m 18 #[.val (.long p0), .second, .val (.int p1), .val (.int (0 : Int32)), .unset, .unset, .unset, .unset, .unset, .unset, .unset, .unset, .unset] [])) (fun t k => XS.ifNo X0.here hx rfl (hb hby at_15) rfl ((if0 _ _).trans (feq hc15_4).1) k) ?_
        refine step (s₁.setTop (mkF m 19 #[.val (.long p0), .second, .val (.int p1), .val (.int (0 : Int32)), .unset, .unset, .unset, .unset, .unset, .unset, .unset, .unset, .unset] [(.int (1 : Int32))])) (fun t k => XS.iconst X0.here hx rfl (hb hby at_18) k) ?_
        refine step (s₁.setTop (mkF m 23 #[.val (.long p0), .second, .val (.int p1), .val (.int (0 : Int32)), .unset, .unset, .unset, .unset, .unset, .unset, .unset, .unset, .unset] [(.int (1 : Int32))])) (fun t k => XS.goto X0.here hx rfl (pc0 := 19) (pc' := 23) rfl (hb hby at_19) (by decide) (by decide) k) ?_
        exact J23_3 _ (by simp only [if_neg hc15_4, if_true, if_false] <;> rfl)
    intro z23_2 hz23_2
    refine step (s₁.setTop (mkF m 25 #[.val (.long p0), .second, .val (.int p1), .val (.int (0 : Int32)), .val (.int z23_2), .unset, .unset, .unset, .unset, .unset, .unset, .unset, .unset] [])) (fun t k => XS.istore X0.here hx rfl (hb hby at_23) rfl (l' := #[.val (.long p0), .second, .val (.int p1), .val (.int (0 : Int32)), .val (.int z23_2), .unset, .unset, .unset, .unset, .unset, .unset, .unset, .unset]) rfl k) ?_
    refine step (s₁.setTop (mkF m 26 #[.val (.long p0), .second, .val (.int p1), .val (.int (0 : Int32)), .val (.int z23_2), .unset, .unset, .unset, .unset, .unset, .unset, .unset, .unset] [(.int p1)])) (fun t k => XS.iloadN X0.here hx rfl (hb hby at_25) rfl k) ?_
    refine step (s₁.setTop (mkF m 27 #[.val (.long p0), .second, .val (.int p1), .val (.int (0 : Int32)), .val (.int z23_2), .unset, .unset, .unset, .unset, .unset, .unset, .unset, .unset] [(.int (4 : Int32)), (.int p1)])) (fun t k => XS.iconst X0.here hx rfl (hb hby at_26) k) ?_
    refine step (s₁.setTop (mkF m 28 #[.val (.long p0), .second, .val (.int p1), .val (.int (0 : Int32)), .val (.int z23_2), .unset, .unset, .unset, .unset, .unset, .unset, .unset, .unset] [(.int (p1 &&& (4 : Int32)))])) (fun t k => XS.iand X0.here hx rfl (hb hby at_27) rfl k) ?_
    suffices J36_6 : ∀ (z36_5 : Int32), z36_5 = (if (p1 &&& (4 : Int32)) = (0 : Int32) then (0 : Int32) else (1 : Int32)) → G (s₁.setTop (mkF m 36 #[.val (.long p0), .second, .val (.int p1), .val (.int (0 : Int32)), .val (.int z23_2), .unset, .unset, .unset, .unset, .unset, .unset, .unset, .unset] [(.int z36_5)])) by
      by_cases hc28_7 : (p1 &&& (4 : Int32)) = (0 : Int32)
      · -- 28 True
        refine step (s₁.setTop (mkF m 35 #[.val (.long p0), .second, .val (.int p1), .val (.int (0 : Int32)), .val (.int z23_2), .unset, .unset, .unset, .unset, .unset, .unset, .unset, .unset] [])) (fun t k => XS.ifYes X0.here hx rfl (pc0 := 28) (pc' := 35) rfl (hb hby at_28) rfl ((if0 _ _).trans (teq hc28_7).1) (by decide) (by decide) k) ?_
        refine step (s₁.setTop (mkF m 36 #[.val (.long p0), .second, .val (.int p1), .val (.int (0 : Int32)), .val (.int z23_2), .unset, .unset, .unset, .unset, .unset, .unset, .unset, .unset] [(.int (0 : Int32))])) (fun t k => XS.iconst X0.here hx rfl (hb hby at_35) k) ?_
        exact J36_6 _ (by simp only [if_pos hc28_7, if_true, if_false] <;> rfl)
      · -- 28 False
        refine step (s₁.setTop (mkF m 31 #[.val (.long p0), .second, .val (.int p1), .val (.int (0 : Int32)), .val (.int z23_2), .unset, .unset, .unset, .unset, .unset, .unset, .unset, .unset] [])) (fun t k => XS.ifNo X0.here hx rfl (hb hby at_28) rfl ((if0 _ _).trans (feq hc28_7).1) k) ?_
        refine step (s₁.setTop (mkF m 32 #[.val (.long p0), .second, .val (.int p1), .val (.int (0 : Int32)), .val (.int z23_2), .unset, .unset, .unset, .unset, .unset, .unset, .unset, .unset] [(.int (1 : Int32))])) (fun t k => XS.iconst X0.here hx rfl (hb hby at_31) k) ?_
        refine step (s₁.setTop (mkF m 36 #[.val (.long p0), .second, .val (.int p1), .val (.int (0 : Int32)), .val (.int z23_2), .unset, .unset, .unset, .unset, .unset, .unset, .unset, .unset] [(.int (1 : Int32))])) (fun t k => XS.goto X0.here hx rfl (pc0 := 32) (pc' := 36) rfl (hb hby at_32) (by decide) (by decide) k) ?_
        exact J36_6 _ (by simp only [if_neg hc28_7, if_true, if_false] <;> rfl)
    intro z36_5 hz36_5
    refine step (s₁.setTop (mkF m 38 #[.val (.long p0), .second, .val (.int p1), .val (.int (0 : Int32)), .val (.int z23_2), .val (.int z36_5), .unset, .unset, .unset, .unset, .unset, .unset, .unset] [])) (fun t k => XS.istore X0.here hx rfl (hb hby at_36) rfl (l' := #[.val (.long p0), .second, .val (.int p1), .val (.int (0 : Int32)), .val (.int z23_2), .val (.int z36_5), .unset, .unset, .unset, .unset, .unset, .unset, .unset]) rfl k) ?_
    refine step (s₁.setTop (mkF m 39 #[.val (.long p0), .second, .val (.int p1), .val (.int (0 : Int32)), .val (.int z23_2), .val (.int z36_5), .unset, .unset, .unset, .unset, .unset, .unset, .unset] [(.int p1)])) (fun t k => XS.iloadN X0.here hx rfl (hb hby at_38) rfl k) ?_
    refine step (s₁.setTop (mkF m 41 #[.val (.long p0), .second, .val (.int p1), .val (.int (0 : Int32)), .val (.int z23_2), .val (.int z36_5), .unset, .unset, .unset, .unset, .unset, .unset, .unset] [(.int (8 : Int32)), (.int p1)])) (fun t k => XS.bipush X0.here hx rfl (hb hby at_39) k) ?_
    refine step (s₁.setTop (mkF m 42 #[.val (.long p0), .second, .val (.int p1), .val (.int (0 : Int32)), .val (.int z23_2), .val (.int z36_5), .unset, .unset, .unset, .unset, .unset, .unset, .unset] [(.int (p1 &&& (8 : Int32)))])) (fun t k => XS.iand X0.here hx rfl (hb hby at_41) rfl k) ?_
    by_cases hc42_8 : (p1 &&& (8 : Int32)) = (0 : Int32)
    · -- pc 42: (p1 &&& (8 : Int32)) = (0 : Int32) True
      refine step (s₁.setTop (mkF m 51 #[.val (.long p0), .second, .val (.int p1), .val (.int (0 : Int32)), .val (.int z23_2), .val (.int z36_5), .unset, .unset, .unset, .unset, .unset, .unset, .unset] [])) (fun t k => XS.ifYes X0.here hx rfl (pc0 := 42) (pc' := 51) rfl (hb hby at_42) rfl ((if0 _ _).trans (teq hc42_8).1) (by decide) (by decide) k) ?_
      obtain ⟨T9, X9, e9, st9⟩ := getS2 X0 hx hZ hown (host := "") (Or.inl (hw _ (List.mem_of_getElem? (i := 0) rfl))) Via.refl e0 S_aV0 (g := (mkF m 51 #[.val (.long p0), .second, .val (.int p1), .val (.int (0 : Int32)), .val (.int z23_2), .val (.int z36_5), .unset, .unset, .unset, .unset, .unset, .unset, .unset] [])) rfl (hb hby at_51)
      refine step (T9.setTop (mkF m 54 #[.val (.long p0), .second, .val (.int p1), .val (.int (0 : Int32)), .val (.int z23_2), .val (.int z36_5), .unset, .unset, .unset, .unset, .unset, .unset, .unset] [(.ref aV0)])) (fun t k => st9 t k) ?_
      refine step (T9.setTop (mkF m 56 #[.val (.long p0), .second, .val (.int p1), .val (.int (0 : Int32)), .val (.int z23_2), .val (.int z36_5), .val (.ref aV0), .unset, .unset, .unset, .unset, .unset, .unset] [])) (fun t k => XS.astore X9.here hx rfl (hb hby at_54) rfl rfl (l' := #[.val (.long p0), .second, .val (.int p1), .val (.int (0 : Int32)), .val (.int z23_2), .val (.int z36_5), .val (.ref aV0), .unset, .unset, .unset, .unset, .unset, .unset]) rfl k) ?_
      refine step (T9.setTop (mkF m 57 #[.val (.long p0), .second, .val (.int p1), .val (.int (0 : Int32)), .val (.int z23_2), .val (.int z36_5), .val (.ref aV0), .unset, .unset, .unset, .unset, .unset, .unset] [(.int p1)])) (fun t k => XS.iloadN X9.here hx rfl (hb hby at_56) rfl k) ?_
      refine step (T9.setTop (mkF m 59 #[.val (.long p0), .second, .val (.int p1), .val (.int (0 : Int32)), .val (.int z23_2), .val (.int z36_5), .val (.ref aV0), .unset, .unset, .unset, .unset, .unset, .unset] [(.int (8 : Int32)), (.int p1)])) (fun t k => XS.bipush X9.here hx rfl (hb hby at_57) k) ?_
      refine step (T9.setTop (mkF m 60 #[.val (.long p0), .second, .val (.int p1), .val (.int (0 : Int32)), .val (.int z23_2), .val (.int z36_5), .val (.ref aV0), .unset, .unset, .unset, .unset, .unset, .unset] [(.int ((p1.toUInt32 >>> ((8 : Int32) &&& 31).toUInt32).toInt32))])) (fun t k => XS.iushr X9.here hx rfl (hb hby at_59) rfl k) ?_
      refine step (T9.setTop (mkF m 63 #[.val (.long p0), .second, .val (.int p1), .val (.int (0 : Int32)), .val (.int z23_2), .val (.int z36_5), .val (.ref aV0), .unset, .unset, .unset, .unset, .unset, .unset] [(.int (255 : Int32)), (.int ((p1.toUInt32 >>> ((8 : Int32) &&& 31).toUInt32).toInt32))])) (fun t k => XS.sipush X9.here hx rfl (hb hby at_60) k) ?_
      refine step (T9.setTop (mkF m 64 #[.val (.long p0), .second, .val (.int p1), .val (.int (0 : Int32)), .val (.int z23_2), .val (.int z36_5), .val (.ref aV0), .unset, .unset, .unset, .unset, .unset, .unset] [(.int (((p1.toUInt32 >>> ((8 : Int32) &&& 31).toUInt32).toInt32) &&& (255 : Int32)))])) (fun t k => XS.iand X9.here hx rfl (hb hby at_63) rfl k) ?_
      refine step (T9.setTop (mkF m 65 #[.val (.long p0), .second, .val (.int p1), .val (.int (0 : Int32)), .val (.int z23_2), .val (.int z36_5), .val (.ref aV0), .unset, .unset, .unset, .unset, .unset, .unset] [(.int ((((p1.toUInt32 >>> ((8 : Int32) &&& 31).toUInt32).toInt32) &&& (255 : Int32)).toUInt32.toUInt16.toUInt32.toInt32))])) (fun t k => XS.i2c X9.here hx rfl (hb hby at_64) rfl k) ?_
      generalize hch : ((((p1.toUInt32 >>> ((8 : Int32) &&& 31).toUInt32).toInt32) &&& (255 : Int32)).toUInt32.toUInt16.toUInt32.toInt32) = ch
      have le_ch := own_255 _ _ hch
      obtain ⟨_, _, ⟨T10, L10, k10, n10⟩, -, X10, ⟨Lc10, hQ10, l10, y10, z10⟩, st10⟩ := Jvm.LawKit.callS X9 hx (y := (⟨"java/lang/String", "valueOf", "(C)Ljava/lang/String;"⟩ : MethodName)) hown (mvT hZ (hw _ (List.mem_of_getElem? (i := 3) rfl))) (mvT hZ (hw _ (List.mem_of_getElem? (i := 4) rfl))) (mvT hZ (hw _ (List.mem_of_getElem? (i := 5) rfl))) (mvT hZ (hw _ (List.mem_of_getElem? (i := 6) rfl))) (by decide) (backOf (W := 0) (rm1_1 l Z a0 hw [] ch cs aNONE h0 n0 Z0 S_cs S_aNONE le_ch c_cs) hZ (hw _ (List.mem_of_getElem? (i := 6) rfl)) (hw _ (List.mem_of_getElem? (i := 5) rfl)) (by decide) (by decide)) (g := (mkF m 65 #[.val (.long p0), .second, .val (.int p1), .val (.int (0 : Int32)), .val (.int z23_2), .val (.int z36_5), .val (.ref aV0), .unset, .unset, .unset, .unset, .unset, .unset] [(.int ch)])) rfl (by rw [hml]; rfl) (argsL := [(.int ch)]) (rest := []) (lenOf pd_0 rfl) rfl (by show 2 * 0 + _ ≤ _; exact Nat.le_of_eq rfl) (hb hby at_65) (fun _ _ => ⟨rfl, e9, (by decide : 0 + 2 ≤ _), (by decide : 0 + 5 ≤ _)⟩)
      dsimp only [Pt.U, Pt.locs, Pt.cells, Pt.slots] at X10 l10 y10 z10 st10 hQ10
      subst l10 y10 z10
      obtain ⟨h10, e10⟩ : ∃ z, T10.heap = z := ⟨_, rfl⟩
      rw [e10] at hQ10
      obtain ⟨b4_10, b1_5_10, k1_5_10, rfl, N10q, K10q, sz_b4_10, sz_b1_5_10, ne_b1_5_b4_10, q0_10, q1_10, q2_10, q3_10⟩ := hQ10
      have N10 := Fr.app N0 N10q
      have lt10_aV0 := E_aV0.lt
      have lt10_aV1 := E_aV1.lt
      have ne_aV0_b4_10 : aV0 ≠ b4_10 := Nat.ne_of_lt (Nat.lt_of_lt_of_le lt10_aV0 sz_b4_10)
      have ne_aV1_b4_10 : aV1 ≠ b4_10 := Nat.ne_of_lt (Nat.lt_of_lt_of_le lt10_aV1 sz_b4_10)
      have gn_b4_10 : n0 ≤ b4_10 := Nat.le_trans Z0 sz_b4_10
      have ne_aV0_b1_5_10 : aV0 ≠ b1_5_10 := Nat.ne_of_lt (Nat.lt_of_lt_of_le lt10_aV0 sz_b1_5_10)
      have ne_aV1_b1_5_10 : aV1 ≠ b1_5_10 := Nat.ne_of_lt (Nat.lt_of_lt_of_le lt10_aV1 sz_b1_5_10)
      have gn_b1_5_10 : n0 ≤ b1_5_10 := Nat.le_trans Z0 sz_b1_5_10
      have K10 : Keep h0 h10 [] := (Keep.refl h0 []).trans K10q all0
      have f11 := own_staK S_cs K10q all0
      have f12 := own_staK S_aV0 K10q all0
      have f13 := own_staK S_aV1 K10q all0
      have f14 := own_staK S_aNONE K10q all0
      refine step (T10.setTop (mkF m 68 #[.val (.long p0), .second, .val (.int p1), .val (.int (0 : Int32)), .val (.int z23_2), .val (.int z36_5), .val (.ref aV0), .unset, .unset, .unset, .unset, .unset, .unset] [(.ref b4_10)])) (fun t k => st10 t k) ?_
      refine step (T10.setTop (mkF m 70 #[.val (.long p0), .second, .val (.int p1), .val (.int (0 : Int32)), .val (.int z23_2), .val (.int z36_5), .val (.ref aV0), .val (.ref b4_10), .unset, .unset, .unset, .unset, .unset] [])) (fun t k => XS.astore X10.here hx rfl (hb hby at_68) rfl rfl (l' := #[.val (.long p0), .second, .val (.int p1), .val (.int (0 : Int32)), .val (.int z23_2), .val (.int z36_5), .val (.ref aV0), .val (.ref b4_10), .unset, .unset, .unset, .unset, .unset]) rfl k) ?_
      refine step (T10.setTop (mkF m 71 #[.val (.long p0), .second, .val (.int p1), .val (.int (0 : Int32)), .val (.int z23_2), .val (.int z36_5), .val (.ref aV0), .val (.ref b4_10), .unset, .unset, .unset, .unset, .unset] [(.int p1)])) (fun t k => XS.iloadN X10.here hx rfl (hb hby at_70) rfl k) ?_
      refine step (T10.setTop (mkF m 73 #[.val (.long p0), .second, .val (.int p1), .val (.int (0 : Int32)), .val (.int z23_2), .val (.int z36_5), .val (.ref aV0), .val (.ref b4_10), .unset, .unset, .unset, .unset, .unset] [(.int (16 : Int32)), (.int p1)])) (fun t k => XS.bipush X10.here hx rfl (hb hby at_71) k) ?_
      refine step (T10.setTop (mkF m 74 #[.val (.long p0), .second, .val (.int p1), .val (.int (0 : Int32)), .val (.int z23_2), .val (.int z36_5), .val (.ref aV0), .val (.ref b4_10), .unset, .unset, .unset, .unset, .unset] [(.int (p1 &&& (16 : Int32)))])) (fun t k => XS.iand X10.here hx rfl (hb hby at_73) rfl k) ?_
      suffices J83_16 : ∀ (z83_15 : Value), z83_15 = (if (p1 &&& (16 : Int32)) = (0 : Int32) then (Value.ref b4_10) else Value.null) → G (T10.setTop (mkF m 83 #[.val (.long p0), .second, .val (.int p1), .val (.int (0 : Int32)), .val (.int z23_2), .val (.int z36_5), .val (.ref aV0), .val (.ref b4_10), .unset, .unset, .unset, .unset, .unset] [z83_15])) by
        by_cases hc74_17 : (p1 &&& (16 : Int32)) = (0 : Int32)
        · -- 74 True
          refine step (T10.setTop (mkF m 81 #[.val (.long p0), .second, .val (.int p1), .val (.int (0 : Int32)), .val (.int z23_2), .val (.int z36_5), .val (.ref aV0), .val (.ref b4_10), .unset, .unset, .unset, .unset, .unset] [])) (fun t k => XS.ifYes X10.here hx rfl (pc0 := 74) (pc' := 81) rfl (hb hby at_74) rfl ((if0 _ _).trans (teq hc74_17).1) (by decide) (by decide) k) ?_
          refine step (T10.setTop (mkF m 83 #[.val (.long p0), .second, .val (.int p1), .val (.int (0 : Int32)), .val (.int z23_2), .val (.int z36_5), .val (.ref aV0), .val (.ref b4_10), .unset, .unset, .unset, .unset, .unset] [(.ref b4_10)])) (fun t k => XS.aload X10.here hx rfl (hb hby at_81) rfl rfl k) ?_
          exact J83_16 _ (by simp only [if_pos hc74_17, if_true, if_false] <;> rfl)
        · -- 74 False
          refine step (T10.setTop (mkF m 77 #[.val (.long p0), .second, .val (.int p1), .val (.int (0 : Int32)), .val (.int z23_2), .val (.int z36_5), .val (.ref aV0), .val (.ref b4_10), .unset, .unset, .unset, .unset, .unset] [])) (fun t k => XS.ifNo X10.here hx rfl (hb hby at_74) rfl ((if0 _ _).trans (feq hc74_17).1) k) ?_
          refine step (T10.setTop (mkF m 78 #[.val (.long p0), .second, .val (.int p1), .val (.int (0 : Int32)), .val (.int z23_2), .val (.int z36_5), .val (.ref aV0), .val (.ref b4_10), .unset, .unset, .unset, .unset, .unset] [.null])) (fun t k => XS.aconstNull X10.here hx rfl (hb hby at_77) k) ?_
          refine step (T10.setTop (mkF m 83 #[.val (.long p0), .second, .val (.int p1), .val (.int (0 : Int32)), .val (.int z23_2), .val (.int z36_5), .val (.ref aV0), .val (.ref b4_10), .unset, .unset, .unset, .unset, .unset] [.null])) (fun t k => XS.goto X10.here hx rfl (pc0 := 78) (pc' := 83) rfl (hb hby at_78) (by decide) (by decide) k) ?_
          exact J83_16 _ (by simp only [if_neg hc74_17, if_true, if_false] <;> rfl)
      intro z83_15 hz83_15
      have rz83_15 : Value.isRef z83_15 = true := by rw [hz83_15]; (repeat' split) <;> rfl
      refine step (T10.setTop (mkF m 85 #[.val (.long p0), .second, .val (.int p1), .val (.int (0 : Int32)), .val (.int z23_2), .val (.int z36_5), .val (.ref aV0), .val (.ref b4_10), .val z83_15, .unset, .unset, .unset, .unset] [])) (fun t k => XS.astore X10.here hx rfl (hb hby at_83) rfl rz83_15 (l' := #[.val (.long p0), .second, .val (.int p1), .val (.int (0 : Int32)), .val (.int z23_2), .val (.int z36_5), .val (.ref aV0), .val (.ref b4_10), .val z83_15, .unset, .unset, .unset, .unset]) (by rcases ref_cases rz83_15 with q | ⟨_, q⟩ <;> rw [q] <;> rfl) k) ?_
      refine step (T10.setTop (mkF m 86 #[.val (.long p0), .second, .val (.int p1), .val (.int (0 : Int32)), .val (.int z23_2), .val (.int z36_5), .val (.ref aV0), .val (.ref b4_10), .val z83_15, .unset, .unset, .unset, .unset] [(.int p1)])) (fun t k => XS.iloadN X10.here hx rfl (hb hby at_85) rfl k) ?_
      refine step (T10.setTop (mkF m 88 #[.val (.long p0), .second, .val (.int p1), .val (.int (0 : Int32)), .val (.int z23_2), .val (.int z36_5), .val (.ref aV0), .val (.ref b4_10), .val z83_15, .unset, .unset, .unset, .unset] [(.int (32 : Int32)), (.int p1)])) (fun t k => XS.bipush X10.here hx rfl (hb hby at_86) k) ?_
      refine step (T10.setTop (mkF m 89 #[.val (.long p0), .second, .val (.int p1), .val (.int (0 : Int32)), .val (.int z23_2), .val (.int z36_5), .val (.ref aV0), .val (.ref b4_10), .val z83_15, .unset, .unset, .unset, .unset] [(.int (p1 &&& (32 : Int32)))])) (fun t k => XS.iand X10.here hx rfl (hb hby at_88) rfl k) ?_
      suffices J98_19 : ∀ (z98_18 : Value), z98_18 = (if (p1 &&& (32 : Int32)) = (0 : Int32) then (Value.ref b4_10) else Value.null) → G (T10.setTop (mkF m 98 #[.val (.long p0), .second, .val (.int p1), .val (.int (0 : Int32)), .val (.int z23_2), .val (.int z36_5), .val (.ref aV0), .val (.ref b4_10), .val z83_15, .unset, .unset, .unset, .unset] [z98_18])) by
        by_cases hc89_20 : (p1 &&& (32 : Int32)) = (0 : Int32)
        · -- 89 True
          refine step (T10.setTop (mkF m 96 #[.val (.long p0), .second, .val (.int p1), .val (.int (0 : Int32)), .val (.int z23_2), .val (.int z36_5), .val (.ref aV0), .val (.ref b4_10), .val z83_15, .unset, .unset, .unset, .unset] [])) (fun t k => XS.ifYes X10.here hx rfl (pc0 := 89) (pc' := 96) rfl (hb hby at_89) rfl ((if0 _ _).trans (teq hc89_20).1) (by decide) (by decide) k) ?_
          refine step (T10.setTop (mkF m 98 #[.val (.long p0), .second, .val (.int p1), .val (.int (0 : Int32)), .val (.int z23_2), .val (.int z36_5), .val (.ref aV0), .val (.ref b4_10), .val z83_15, .unset, .unset, .unset, .unset] [(.ref b4_10)])) (fun t k => XS.aload X10.here hx rfl (hb hby at_96) rfl rfl k) ?_
          exact J98_19 _ (by simp only [if_pos hc89_20, if_true, if_false] <;> rfl)
        · -- 89 False
          refine step (T10.setTop (mkF m 92 #[.val (.long p0), .second, .val (.int p1), .val (.int (0 : Int32)), .val (.int z23_2), .val (.int z36_5), .val (.ref aV0), .val (.ref b4_10), .val z83_15, .unset, .unset, .unset, .unset] [])) (fun t k => XS.ifNo X10.here hx rfl (hb hby at_89) rfl ((if0 _ _).trans (feq hc89_20).1) k) ?_
          refine step (T10.setTop (mkF m 93 #[.val (.long p0), .second, .val (.int p1), .val (.int (0 : Int32)), .val (.int z23_2), .val (.int z36_5), .val (.ref aV0), .val (.ref b4_10), .val z83_15, .unset, .unset, .unset, .unset] [.null])) (fun t k => XS.aconstNull X10.here hx rfl (hb hby at_92) k) ?_
          refine step (T10.setTop (mkF m 98 #[.val (.long p0), .second, .val (.int p1), .val (.int (0 : Int32)), .val (.int z23_2), .val (.int z36_5), .val (.ref aV0), .val (.ref b4_10), .val z83_15, .unset, .unset, .unset, .unset] [.null])) (fun t k => XS.goto X10.here hx rfl (pc0 := 93) (pc' := 98) rfl (hb hby at_93) (by decide) (by decide) k) ?_
          exact J98_19 _ (by simp only [if_neg hc89_20, if_true, if_false] <;> rfl)
      intro z98_18 hz98_18
      have rz98_18 : Value.isRef z98_18 = true := by rw [hz98_18]; (repeat' split) <;> rfl
      refine step (T10.setTop (mkF m 100 #[.val (.long p0), .second, .val (.int p1), .val (.int (0 : Int32)), .val (.int z23_2), .val (.int z36_5), .val (.ref aV0), .val (.ref b4_10), .val z83_15, .val z98_18, .unset, .unset, .unset] [])) (fun t k => XS.astore X10.here hx rfl (hb hby at_98) rfl rz98_18 (l' := #[.val (.long p0), .second, .val (.int p1), .val (.int (0 : Int32)), .val (.int z23_2), .val (.int z36_5), .val (.ref aV0), .val (.ref b4_10), .val z83_15, .val z98_18, .unset, .unset, .unset]) (by rcases ref_cases rz98_18 with q | ⟨_, q⟩ <;> rw [q] <;> rfl) k) ?_
      obtain ⟨T21, h21, X21, e21, E21, A21, D21, -, st21⟩ := newO X10 hx hZ hown (hw _ (List.mem_of_getElem? (i := 29) rfl)) (hw _ (List.mem_of_getElem? (i := 30) rfl)) (hw _ (List.mem_of_getElem? (i := 31) rfl)) e10 (g := (mkF m 100 #[.val (.long p0), .second, .val (.int p1), .val (.int (0 : Int32)), .val (.int z23_2), .val (.int z36_5), .val (.ref aV0), .val (.ref b4_10), .val z83_15, .val z98_18, .unset, .unset, .unset] [])) rfl (hb hby at_100) (by decide) (by decide)
      obtain ⟨b21, g21⟩ : ∃ z, z = h10.size := ⟨_, rfl⟩
      rw [← g21] at A21 D21 st21
      have f22 := (E_aV0.keep K10q)
      have ne_aV0_b21 : aV0 ≠ b21 := Nat.ne_of_lt (Nat.lt_of_lt_of_le f22.lt (Nat.le_of_eq g21.symm))
      have f23 := (E_aV1.keep K10q)
      have ne_aV1_b21 : aV1 ≠ b21 := Nat.ne_of_lt (Nat.lt_of_lt_of_le f23.lt (Nat.le_of_eq g21.symm))
      have ne_b4_10_b21 : b4_10 ≠ b21 := Nat.ne_of_lt (Nat.lt_of_lt_of_le q0_10.lt (Nat.le_of_eq g21.symm))
      have ne_b1_5_10_b21 : b1_5_10 ≠ b21 := Nat.ne_of_lt (Nat.lt_of_lt_of_le q3_10.lt (Nat.le_of_eq g21.symm))
      have gn_b21 : n0 ≤ b21 := Nat.le_trans (Nat.le_trans Z0 K10.1) (Nat.le_of_eq g21.symm)
      have sz_b21 : h0.size ≤ b21 := Nat.le_trans K10.1 (Nat.le_of_eq g21.symm)
      have K21 : Keep h0 h21 [] := K10.ext E21
      have F_entries_b21 : Fld Z h21 b21 "com/example/whisman/whisman/connector/HttpFields" "entries" "[Ljava/lang/String;" .null := D21 (Or.inl (hw _ (List.mem_of_getElem? (i := 39) rfl))) (ty := (.array (.object "java/lang/String"))) (by decide)
      refine step (T21.setTop (mkF m 103 #[.val (.long p0), .second, .val (.int p1), .val (.int (0 : Int32)), .val (.int z23_2), .val (.int z36_5), .val (.ref aV0), .val (.ref b4_10), .val z83_15, .val z98_18, .unset, .unset, .unset] [(.ref b21)])) (fun t k => st21 t k) ?_
      refine step (T21.setTop (mkF m 104 #[.val (.long p0), .second, .val (.int p1), .val (.int (0 : Int32)), .val (.int z23_2), .val (.int z36_5), .val (.ref aV0), .val (.ref b4_10), .val z83_15, .val z98_18, .unset, .unset, .unset] [(.ref b21), (.ref b21)])) (fun t k => XS.dup X21.here hx rfl (hb hby at_103) rfl rfl k) ?_
      have f24 := (f14.ext E21)
      obtain ⟨_, _, ⟨T25, L25, k25, n25⟩, -, X25, ⟨Lc25, hQ25, l25, y25, z25⟩, st25⟩ := X21.specialBack hx (y := (⟨"com/example/whisman/whisman/connector/HttpFields", "<init>", "()V"⟩ : MethodName)) rfl hown (mvT hZ (hw _ (List.mem_of_getElem? (i := 32) rfl))) (mvT hZ (hw _ (List.mem_of_getElem? (i := 33) rfl))) (mvT hZ (hw _ (List.mem_of_getElem? (i := 34) rfl))) (by decide) (backOf (W := 1) (rm6_5 l Z a0 hw [] b21 aNONE h21 n0 (Nat.le_trans Z0 K21.1) f24 A21 F_entries_b21 gn_b21) hZ (hw _ (List.mem_of_getElem? (i := 34) rfl)) (hw _ (List.mem_of_getElem? (i := 31) rfl)) (by decide) (by decide)) (g := (mkF m 104 #[.val (.long p0), .second, .val (.int p1), .val (.int (0 : Int32)), .val (.int z23_2), .val (.int z36_5), .val (.ref aV0), .val (.ref b4_10), .val z83_15, .val z98_18, .unset, .unset, .unset] [(.ref b21), (.ref b21)])) rfl (by rw [hml]; rfl) (Steps.refl _) (a := b21) (argsL := []) (rest := [(.ref b21)]) (lenOf pd_1 rfl) rfl (by show 2 * 0 + _ ≤ _; exact Nat.le_of_eq rfl) (hb hby at_104) (fun _ _ => ⟨rfl, e21, (by decide : 3 + 0 ≤ _), (by decide : 7 + 0 ≤ _)⟩)
      dsimp only [Pt.U, Pt.locs, Pt.cells, Pt.slots] at X25 l25 y25 z25 st25 hQ25
      subst l25 y25 z25
      obtain ⟨h25, e25⟩ : ∃ z, T25.heap = z := ⟨_, rfl⟩
      rw [e25] at hQ25
      obtain ⟨rfl, N25q, K25q, q0_25⟩ := hQ25
      have N25 := Fr.app N10 N25q
      have f26 := (f11.ext E21)
      have f27 := (f12.ext E21)
      have f28 := (f13.ext E21)
      have K25 : Keep h0 h25 [] := K21.trans K25q (allS (Or.inr sz_b21) all0)
      have f29 := own_staK f26 K25q (allS (own_exaP A21) all0)
      have f30 := own_staK f27 K25q (allS (own_exaP A21) all0)
      have f31 := own_staK f28 K25q (allS (own_exaP A21) all0)
      have f32 := own_staK f24 K25q (allS (own_exaP A21) all0)
      refine step (T25.setTop (mkF m 107 #[.val (.long p0), .second, .val (.int p1), .val (.int (0 : Int32)), .val (.int z23_2), .val (.int z36_5), .val (.ref aV0), .val (.ref b4_10), .val z83_15, .val z98_18, .unset, .unset, .unset] [(.ref b21)])) (fun t k => st25.trans k) ?_
      refine step (T25.setTop (mkF m 109 #[.val (.long p0), .second, .val (.int p1), .val (.int (0 : Int32)), .val (.int z23_2), .val (.int z36_5), .val (.ref aV0), .val (.ref b4_10), .val z83_15, .val z98_18, .val (.ref b21), .unset, .unset] [])) (fun t k => XS.astore X25.here hx rfl (hb hby at_107) rfl rfl (l' := #[.val (.long p0), .second, .val (.int p1), .val (.int (0 : Int32)), .val (.int z23_2), .val (.int z36_5), .val (.ref aV0), .val (.ref b4_10), .val z83_15, .val z98_18, .val (.ref b21), .unset, .unset]) rfl k) ?_
      obtain ⟨T33, h33, X33, e33, E33, A33, D33, -, st33⟩ := newO X25 hx hZ hown (hw _ (List.mem_of_getElem? (i := 40) rfl)) (hw _ (List.mem_of_getElem? (i := 41) rfl)) (hw _ (List.mem_of_getElem? (i := 42) rfl)) e25 (g := (mkF m 109 #[.val (.long p0), .second, .val (.int p1), .val (.int (0 : Int32)), .val (.int z23_2), .val (.int z36_5), .val (.ref aV0), .val (.ref b4_10), .val z83_15, .val z98_18, .val (.ref b21), .unset, .unset] [])) rfl (hb hby at_109) (by decide) (by decide)
      obtain ⟨b33, g33⟩ : ∃ z, z = h25.size := ⟨_, rfl⟩
      rw [← g33] at A33 D33 st33
      have f34 := ((f22.ext E21).keep K25q)
      have ne_aV0_b33 : aV0 ≠ b33 := Nat.ne_of_lt (Nat.lt_of_lt_of_le f34.lt (Nat.le_of_eq g33.symm))
      have f35 := ((f23.ext E21).keep K25q)
      have ne_aV1_b33 : aV1 ≠ b33 := Nat.ne_of_lt (Nat.lt_of_lt_of_le f35.lt (Nat.le_of_eq g33.symm))
      have f36 := ((q0_10.ext E21).keep K25q)
      have ne_b4_10_b33 : b4_10 ≠ b33 := Nat.ne_of_lt (Nat.lt_of_lt_of_le f36.lt (Nat.le_of_eq g33.symm))
      have f37 := ((q3_10.ext E21).keep K25q (ninS ne_b1_5_10_b21 nin0))
      have ne_b1_5_10_b33 : b1_5_10 ≠ b33 := Nat.ne_of_lt (Nat.lt_of_lt_of_le f37.lt (Nat.le_of_eq g33.symm))
      have f38 := (A21.keep K25q)
      have ne_b21_b33 : b21 ≠ b33 := Nat.ne_of_lt (Nat.lt_of_lt_of_le f38.lt (Nat.le_of_eq g33.symm))
      have gn_b33 : n0 ≤ b33 := Nat.le_trans (Nat.le_trans Z0 K25.1) (Nat.le_of_eq g33.symm)
      have sz_b33 : h0.size ≤ b33 := Nat.le_trans K25.1 (Nat.le_of_eq g33.symm)
      have K33 : Keep h0 h33 [] := K25.ext E33
      have F_method_b33 : Fld Z h33 b33 "com/example/whisman/whisman/connector/RequestHead" "method" "Ljava/lang/String;" .null := D33 (Or.inr (hw _ (List.mem_of_getElem? (i := 53) rfl))) (ty := (.object "java/lang/String")) (by decide)
      have F_target_b33 : Fld Z h33 b33 "com/example/whisman/whisman/connector/RequestHead" "target" "Ljava/lang/String;" .null := D33 (Or.inr (hw _ (List.mem_of_getElem? (i := 55) rfl))) (ty := (.object "java/lang/String")) (by decide)
      have F_versionText_b33 : Fld Z h33 b33 "com/example/whisman/whisman/connector/RequestHead" "versionText" "Ljava/lang/String;" .null := D33 (Or.inr (hw _ (List.mem_of_getElem? (i := 57) rfl))) (ty := (.object "java/lang/String")) (by decide)
      have F_version_b33 : Fld Z h33 b33 "com/example/whisman/whisman/connector/RequestHead" "version" "Lcom/example/whisman/whisman/connector/HttpVersion;" .null := D33 (Or.inr (hw _ (List.mem_of_getElem? (i := 59) rfl))) (ty := (.object "com/example/whisman/whisman/connector/HttpVersion")) (by decide)
      have F_fields_b33 : Fld Z h33 b33 "com/example/whisman/whisman/connector/RequestHead" "fields" "Lcom/example/whisman/whisman/connector/HttpFields;" .null := D33 (Or.inr (hw _ (List.mem_of_getElem? (i := 61) rfl))) (ty := (.object "com/example/whisman/whisman/connector/HttpFields")) (by decide)
      have F_path_b33 : Fld Z h33 b33 "com/example/whisman/whisman/connector/RequestHead" "path" "Ljava/lang/String;" .null := D33 (Or.inr (hw _ (List.mem_of_getElem? (i := 63) rfl))) (ty := (.object "java/lang/String")) (by decide)
      have F_query_b33 : Fld Z h33 b33 "com/example/whisman/whisman/connector/RequestHead" "query" "Ljava/lang/String;" .null := D33 (Or.inr (hw _ (List.mem_of_getElem? (i := 65) rfl))) (ty := (.object "java/lang/String")) (by decide)
      have F_authority_b33 : Fld Z h33 b33 "com/example/whisman/whisman/connector/RequestHead" "authority" "Ljava/lang/String;" .null := D33 (Or.inr (hw _ (List.mem_of_getElem? (i := 67) rfl))) (ty := (.object "java/lang/String")) (by decide)
      have F_contentLength_b33 : Fld Z h33 b33 "com/example/whisman/whisman/connector/RequestHead" "contentLength" "J" (.long (0 : Int64)) := D33 (Or.inr (hw _ (List.mem_of_getElem? (i := 69) rfl))) (ty := .long) (by decide)
      have F_chunked_b33 : Fld Z h33 b33 "com/example/whisman/whisman/connector/RequestHead" "chunked" "Z" (.int (0 : Int32)) := D33 (Or.inr (hw _ (List.mem_of_getElem? (i := 71) rfl))) (ty := .boolean) (by decide)
      have F_persistent_b33 : Fld Z h33 b33 "com/example/whisman/whisman/connector/RequestHead" "persistent" "Z" (.int (0 : Int32)) := D33 (Or.inr (hw _ (List.mem_of_getElem? (i := 73) rfl))) (ty := .boolean) (by decide)
      have F_expectsContinue_b33 : Fld Z h33 b33 "com/example/whisman/whisman/connector/RequestHead" "expectsContinue" "Z" (.int (0 : Int32)) := D33 (Or.inr (hw _ (List.mem_of_getElem? (i := 75) rfl))) (ty := .boolean) (by decide)
      refine step (T33.setTop (mkF m 112 #[.val (.long p0), .second, .val (.int p1), .val (.int (0 : Int32)), .val (.int z23_2), .val (.int z36_5), .val (.ref aV0), .val (.ref b4_10), .val z83_15, .val z98_18, .val (.ref b21), .unset, .unset] [(.ref b33)])) (fun t k => st33 t k) ?_
      refine step (T33.setTop (mkF m 113 #[.val (.long p0), .second, .val (.int p1), .val (.int (0 : Int32)), .val (.int z23_2), .val (.int z36_5), .val (.ref aV0), .val (.ref b4_10), .val z83_15, .val z98_18, .val (.ref b21), .unset, .unset] [(.ref b33), (.ref b33)])) (fun t k => XS.dup X33.here hx rfl (hb hby at_112) rfl rfl k) ?_
      refine step (T33.setTop (mkF m 115 #[.val (.long p0), .second, .val (.int p1), .val (.int (0 : Int32)), .val (.int z23_2), .val (.int z36_5), .val (.ref aV0), .val (.ref b4_10), .val z83_15, .val z98_18, .val (.ref b21), .unset, .unset] [(.ref b4_10), (.ref b33), (.ref b33)])) (fun t k => XS.aload X33.here hx rfl (hb hby at_113) rfl rfl k) ?_
      refine step (T33.setTop (mkF m 117 #[.val (.long p0), .second, .val (.int p1), .val (.int (0 : Int32)), .val (.int z23_2), .val (.int z36_5), .val (.ref aV0), .val (.ref b4_10), .val z83_15, .val z98_18, .val (.ref b21), .unset, .unset] [(.ref b4_10), (.ref b4_10), (.ref b33), (.ref b33)])) (fun t k => XS.aload X33.here hx rfl (hb hby at_115) rfl rfl k) ?_
      refine step (T33.setTop (mkF m 119 #[.val (.long p0), .second, .val (.int p1), .val (.int (0 : Int32)), .val (.int z23_2), .val (.int z36_5), .val (.ref aV0), .val (.ref b4_10), .val z83_15, .val z98_18, .val (.ref b21), .unset, .unset] [(.ref b4_10), (.ref b4_10), (.ref b4_10), (.ref b33), (.ref b33)])) (fun t k => XS.aload X33.here hx rfl (hb hby at_117) rfl rfl k) ?_
      refine step (T33.setTop (mkF m 121 #[.val (.long p0), .second, .val (.int p1), .val (.int (0 : Int32)), .val (.int z23_2), .val (.int z36_5), .val (.ref aV0), .val (.ref b4_10), .val z83_15, .val z98_18, .val (.ref b21), .unset, .unset] [(.ref aV0), (.ref b4_10), (.ref b4_10), (.ref b4_10), (.ref b33), (.ref b33)])) (fun t k => XS.aload X33.here hx rfl (hb hby at_119) rfl rfl k) ?_
      refine step (T33.setTop (mkF m 123 #[.val (.long p0), .second, .val (.int p1), .val (.int (0 : Int32)), .val (.int z23_2), .val (.int z36_5), .val (.ref aV0), .val (.ref b4_10), .val z83_15, .val z98_18, .val (.ref b21), .unset, .unset] [(.ref b21), (.ref aV0), (.ref b4_10), (.ref b4_10), (.ref b4_10), (.ref b33), (.ref b33)])) (fun t k => XS.aload X33.here hx rfl (hb hby at_121) rfl rfl k) ?_
      refine step (T33.setTop (mkF m 125 #[.val (.long p0), .second, .val (.int p1), .val (.int (0 : Int32)), .val (.int z23_2), .val (.int z36_5), .val (.ref aV0), .val (.ref b4_10), .val z83_15, .val z98_18, .val (.ref b21), .unset, .unset] [(.ref b4_10), (.ref b21), (.ref aV0), (.ref b4_10), (.ref b4_10), (.ref b4_10), (.ref b33), (.ref b33)])) (fun t k => XS.aload X33.here hx rfl (hb hby at_123) rfl rfl k) ?_
      refine step (T33.setTop (mkF m 127 #[.val (.long p0), .second, .val (.int p1), .val (.int (0 : Int32)), .val (.int z23_2), .val (.int z36_5), .val (.ref aV0), .val (.ref b4_10), .val z83_15, .val z98_18, .val (.ref b21), .unset, .unset] [z83_15, (.ref b4_10), (.ref b21), (.ref aV0), (.ref b4_10), (.ref b4_10), (.ref b4_10), (.ref b33), (.ref b33)])) (fun t k => XS.aload X33.here hx rfl (hb hby at_125) rfl rz83_15 k) ?_
      refine step (T33.setTop (mkF m 129 #[.val (.long p0), .second, .val (.int p1), .val (.int (0 : Int32)), .val (.int z23_2), .val (.int z36_5), .val (.ref aV0), .val (.ref b4_10), .val z83_15, .val z98_18, .val (.ref b21), .unset, .unset] [z98_18, z83_15, (.ref b4_10), (.ref b21), (.ref aV0), (.ref b4_10), (.ref b4_10), (.ref b4_10), (.ref b33), (.ref b33)])) (fun t k => XS.aload X33.here hx rfl (hb hby at_127) rfl rz98_18 k) ?_
      refine step (T33.setTop (mkF m 130 #[.val (.long p0), .second, .val (.int p1), .val (.int (0 : Int32)), .val (.int z23_2), .val (.int z36_5), .val (.ref aV0), .val (.ref b4_10), .val z83_15, .val z98_18, .val (.ref b21), .unset, .unset] [(.long p0), z98_18, z83_15, (.ref b4_10), (.ref b21), (.ref aV0), (.ref b4_10), (.ref b4_10), (.ref b4_10), (.ref b33), (.ref b33)])) (fun t k => XS.lloadN X33.here hx rfl (hb hby at_129) rfl k) ?_
      refine step (T33.setTop (mkF m 131 #[.val (.long p0), .second, .val (.int p1), .val (.int (0 : Int32)), .val (.int z23_2), .val (.int z36_5), .val (.ref aV0), .val (.ref b4_10), .val z83_15, .val z98_18, .val (.ref b21), .unset, .unset] [(.int (0 : Int32)), (.long p0), z98_18, z83_15, (.ref b4_10), (.ref b21), (.ref aV0), (.ref b4_10), (.ref b4_10), (.ref b4_10), (.ref b33), (.ref b33)])) (fun t k => XS.iloadN X33.here hx rfl (hb hby at_130) rfl k) ?_
      refine step (T33.setTop (mkF m 133 #[.val (.long p0), .second, .val (.int p1), .val (.int (0 : Int32)), .val (.int z23_2), .val (.int z36_5), .val (.ref aV0), .val (.ref b4_10), .val z83_15, .val z98_18, .val (.ref b21), .unset, .unset] [(.int z23_2), (.int (0 : Int32)), (.long p0), z98_18, z83_15, (.ref b4_10), (.ref b21), (.ref aV0), (.ref b4_10), (.ref b4_10), (.ref b4_10), (.ref b33), (.ref b33)])) (fun t k => XS.iload X33.here hx rfl (hb hby at_131) rfl k) ?_
      refine step (T33.setTop (mkF m 135 #[.val (.long p0), .second, .val (.int p1), .val (.int (0 : Int32)), .val (.int z23_2), .val (.int z36_5), .val (.ref aV0), .val (.ref b4_10), .val z83_15, .val z98_18, .val (.ref b21), .unset, .unset] [(.int z36_5), (.int z23_2), (.int (0 : Int32)), (.long p0), z98_18, z83_15, (.ref b4_10), (.ref b21), (.ref aV0), (.ref b4_10), (.ref b4_10), (.ref b4_10), (.ref b33), (.ref b33)])) (fun t k => XS.iload X33.here hx rfl (hb hby at_133) rfl k) ?_
      have f39 := (f32.ext E33)
      have f40 := (f36.ext E33)
      have f41 := (f34.ext E33)
      have f42 := (f38.ext E33)
      have f43 := (q0_25.ext E33)
      obtain ⟨_, _, ⟨T44, L44, k44, n44⟩, -, X44, ⟨Lc44, hQ44, l44, y44, z44⟩, st44⟩ := X33.specialBack hx (y := (⟨"com/example/whisman/whisman/connector/RequestHead", "<init>", "(Ljava/lang/String;Ljava/lang/String;Ljava/lang/String;Lcom/example/whisman/whisman/connector/HttpVersion;Lcom/example/whisman/whisman/connector/HttpFields;Ljava/lang/String;Ljava/lang/String;Ljava/lang/String;JZZZ)V"⟩ : MethodName)) rfl hown (mvT hZ (hw _ (List.mem_of_getElem? (i := 43) rfl))) (mvT hZ (hw _ (List.mem_of_getElem? (i := 44) rfl))) (mvT hZ (hw _ (List.mem_of_getElem? (i := 45) rfl))) (by decide) (backOf (W := 1) (rm7_6 l Z a0 hw [] b33 b4_10 aV0 b21 z83_15 z98_18 p0 z23_2 z36_5 aNONE h33 n0 (Nat.le_trans Z0 K33.1) rz83_15 rz98_18 f39 A33 F_authority_b33 F_chunked_b33 F_contentLength_b33 F_expectsContinue_b33 F_fields_b33 F_method_b33 F_path_b33 F_persistent_b33 F_query_b33 F_target_b33 F_version_b33 F_versionText_b33 f40 f41 f42 f43 gn_b33 (Ne.symm ne_b4_10_b33) (Ne.symm ne_aV0_b33) (Ne.symm ne_b21_b33) gn_b4_10 (Ne.symm ne_aV0_b4_10) ne_b4_10_b21 ne_aV0_b21 gn_b21) hZ (hw _ (List.mem_of_getElem? (i := 45) rfl)) (hw _ (List.mem_of_getElem? (i := 42) rfl)) (by decide) (by decide)) (g := (mkF m 135 #[.val (.long p0), .second, .val (.int p1), .val (.int (0 : Int32)), .val (.int z23_2), .val (.int z36_5), .val (.ref aV0), .val (.ref b4_10), .val z83_15, .val z98_18, .val (.ref b21), .unset, .unset] [(.int z36_5), (.int z23_2), (.int (0 : Int32)), (.long p0), z98_18, z83_15, (.ref b4_10), (.ref b21), (.ref aV0), (.ref b4_10), (.ref b4_10), (.ref b4_10), (.ref b33), (.ref b33)])) rfl (by rw [hml]; rfl) (Steps.refl _) (a := b33) (argsL := [(.ref b4_10), (.ref b4_10), (.ref b4_10), (.ref aV0), (.ref b21), (.ref b4_10), z83_15, z98_18, (.long p0), (.int (0 : Int32)), (.int z23_2), (.int z36_5)]) (rest := [(.ref b33)]) (lenOf pd_2 rfl) rfl (by show 2 * 0 + _ ≤ _; exact Nat.le_of_eq rfl) (hb hby at_135) (fun _ _ => ⟨rfl, e33, (by decide : 4 + 0 ≤ _), (by decide : 19 + 0 ≤ _)⟩)
      dsimp only [Pt.U, Pt.locs, Pt.cells, Pt.slots] at X44 l44 y44 z44 st44 hQ44
      subst l44 y44 z44
      obtain ⟨h44, e44⟩ : ∃ z, T44.heap = z := ⟨_, rfl⟩
      rw [e44] at hQ44
      obtain ⟨rfl, N44q, K44q, q0_44, q1_44, q2_44, q3_44, q4_44, q5_44, q6_44, q7_44, q8_44, q9_44, q10_44, q11_44⟩ := hQ44
      have N44 := Fr.app N25 N44q
      have f45 := (f29.ext E33)
      have f46 := (f30.ext E33)
      have f47 := (f31.ext E33)
      have K44 : Keep h0 h44 [] := K33.trans K44q (allS (Or.inr sz_b33) all0)
      have f48 := own_staK f45 K44q (allS (own_exaP A33) all0)
      have f49 := own_staK f46 K44q (allS (own_exaP A33) all0)
      have f50 := own_staK f47 K44q (allS (own_exaP A33) all0)
      have f51 := own_staK f39 K44q (allS (own_exaP A33) all0)
      refine step (T44.setTop (mkF m 138 #[.val (.long p0), .second, .val (.int p1), .val (.int (0 : Int32)), .val (.int z23_2), .val (.int z36_5), .val (.ref aV0), .val (.ref b4_10), .val z83_15, .val z98_18, .val (.ref b21), .unset, .unset] [(.ref b33)])) (fun t k => st44.trans k) ?_
      refine step (T44.setTop (mkF m 140 #[.val (.long p0), .second, .val (.int p1), .val (.int (0 : Int32)), .val (.int z23_2), .val (.int z36_5), .val (.ref aV0), .val (.ref b4_10), .val z83_15, .val z98_18, .val (.ref b21), .val (.ref b33), .unset] [])) (fun t k => XS.astore X44.here hx rfl (hb hby at_138) rfl rfl (l' := #[.val (.long p0), .second, .val (.int p1), .val (.int (0 : Int32)), .val (.int z23_2), .val (.int z36_5), .val (.ref aV0), .val (.ref b4_10), .val z83_15, .val z98_18, .val (.ref b21), .val (.ref b33), .unset]) rfl k) ?_
      refine step (T44.setTop (mkF m 141 #[.val (.long p0), .second, .val (.int p1), .val (.int (0 : Int32)), .val (.int z23_2), .val (.int z36_5), .val (.ref aV0), .val (.ref b4_10), .val z83_15, .val z98_18, .val (.ref b21), .val (.ref b33), .unset] [(.int (0 : Int32))])) (fun t k => XS.iloadN X44.here hx rfl (hb hby at_140) rfl k) ?_
      refine step (T44.setTop (mkF m 150 #[.val (.long p0), .second, .val (.int p1), .val (.int (0 : Int32)), .val (.int z23_2), .val (.int z36_5), .val (.ref aV0), .val (.ref b4_10), .val z83_15, .val z98_18, .val (.ref b21), .val (.ref b33), .unset] [])) (fun t k => XS.ifYes X44.here hx rfl (pc0 := 141) (pc' := 150) rfl (hb hby at_141) rfl ((if0 _ _).trans (teq (by decide : (0 : Int32) = (0 : Int32))).1) (by decide) (by decide) k) ?_
      refine step (T44.setTop (mkF m 151 #[.val (.long p0), .second, .val (.int p1), .val (.int (0 : Int32)), .val (.int z23_2), .val (.int z36_5), .val (.ref aV0), .val (.ref b4_10), .val z83_15, .val z98_18, .val (.ref b21), .val (.ref b33), .unset] [(.long p0)])) (fun t k => XS.lloadN X44.here hx rfl (hb hby at_150) rfl k) ?_
      refine step (T44.setTop (mkF m 152 #[.val (.long p0), .second, .val (.int p1), .val (.int (0 : Int32)), .val (.int z23_2), .val (.int z36_5), .val (.ref aV0), .val (.ref b4_10), .val z83_15, .val z98_18, .val (.ref b21), .val (.ref b33), .unset] [(.long (1 : Int64)), (.long p0)])) (fun t k => XS.lconst X44.here hx rfl (hb hby at_151) k) ?_
      refine step (T44.setTop (mkF m 153 #[.val (.long p0), .second, .val (.int p1), .val (.int (0 : Int32)), .val (.int z23_2), .val (.int z36_5), .val (.ref aV0), .val (.ref b4_10), .val z83_15, .val z98_18, .val (.ref b21), .val (.ref b33), .unset] [(.int (lcmpW p0 (1 : Int64)))])) (fun t k => XS.lcmp X44.here hx rfl (hb hby at_152) rfl k) ?_
      suffices J165_53 : ∀ (z165_52 : Int32), z165_52 = (if p0 < (1 : Int64) then (0 : Int32) else (1 : Int32)) → G (T44.setTop (mkF m 165 #[.val (.long p0), .second, .val (.int p1), .val (.int (0 : Int32)), .val (.int z23_2), .val (.int z36_5), .val (.ref aV0), .val (.ref b4_10), .val z83_15, .val z98_18, .val (.ref b21), .val (.ref b33), .val (.int z165_52)] [])) by
        by_cases hc153_54 : p0 < (1 : Int64)
        · -- 153 True
          refine step (T44.setTop (mkF m 162 #[.val (.long p0), .second, .val (.int p1), .val (.int (0 : Int32)), .val (.int z23_2), .val (.int z36_5), .val (.ref aV0), .val (.ref b4_10), .val z83_15, .val z98_18, .val (.ref b21), .val (.ref b33), .unset] [])) (fun t k => XS.ifYes X44.here hx rfl (pc0 := 153) (pc' := 162) rfl (hb hby at_153) rfl ((if0 _ _).trans (tlt ((lw_lt _ _).mpr hc153_54)).1) (by decide) (by decide) k) ?_
          refine step (T44.setTop (mkF m 163 #[.val (.long p0), .second, .val (.int p1), .val (.int (0 : Int32)), .val (.int z23_2), .val (.int z36_5), .val (.ref aV0), .val (.ref b4_10), .val z83_15, .val z98_18, .val (.ref b21), .val (.ref b33), .unset] [(.int (0 : Int32))])) (fun t k => XS.iconst X44.here hx rfl (hb hby at_162) k) ?_
          refine step (T44.setTop (mkF m 165 #[.val (.long p0), .second, .val (.int p1), .val (.int (0 : Int32)), .val (.int z23_2), .val (.int z36_5), .val (.ref aV0), .val (.ref b4_10), .val z83_15, .val z98_18, .val (.ref b21), .val (.ref b33), .val (.int (0 : Int32))] [])) (fun t k => XS.istore X44.here hx rfl (hb hby at_163) rfl (l' := #[.val (.long p0), .second, .val (.int p1), .val (.int (0 : Int32)), .val (.int z23_2), .val (.int z36_5), .val (.ref aV0), .val (.ref b4_10), .val z83_15, .val z98_18, .val (.ref b21), .val (.ref b33), .val (.int (0 : Int32))]) rfl k) ?_
          exact J165_53 _ (by simp only [if_pos hc153_54, if_true, if_false] <;> rfl)
        · -- 153 False
          refine step (T44.setTop (mkF m 156 #[.val (.long p0), .second, .val (.int p1), .val (.int (0 : Int32)), .val (.int z23_2), .val (.int z36_5), .val (.ref aV0), .val (.ref b4_10), .val z83_15, .val z98_18, .val (.ref b21), .val (.ref b33), .unset] [])) (fun t k => XS.ifNo X44.here hx rfl (hb hby at_153) rfl ((if0 _ _).trans (flt (fun q => hc153_54 ((lw_lt _ _).mp q))).1) k) ?_
          refine step (T44.setTop (mkF m 157 #[.val (.long p0), .second, .val (.int p1), .val (.int (0 : Int32)), .val (.int z23_2), .val (.int z36_5), .val (.ref aV0), .val (.ref b4_10), .val z83_15, .val z98_18, .val (.ref b21), .val (.ref b33), .unset] [(.int (1 : Int32))])) (fun t k => XS.iconst X44.here hx rfl (hb hby at_156) k) ?_
          refine step (T44.setTop (mkF m 159 #[.val (.long p0), .second, .val (.int p1), .val (.int (0 : Int32)), .val (.int z23_2), .val (.int z36_5), .val (.ref aV0), .val (.ref b4_10), .val z83_15, .val z98_18, .val (.ref b21), .val (.ref b33), .val (.int (1 : Int32))] [])) (fun t k => XS.istore X44.here hx rfl (hb hby at_157) rfl (l' := #[.val (.long p0), .second, .val (.int p1), .val (.int (0 : Int32)), .val (.int z23_2), .val (.int z36_5), .val (.ref aV0), .val (.ref b4_10), .val z83_15, .val z98_18, .val (.ref b21), .val (.ref b33), .val (.int (1 : Int32))]) rfl k) ?_
          refine step (T44.setTop (mkF m 165 #[.val (.long p0), .second, .val (.int p1), .val (.int (0 : Int32)), .val (.int z23_2), .val (.int z36_5), .val (.ref aV0), .val (.ref b4_10), .val z83_15, .val z98_18, .val (.ref b21), .val (.ref b33), .val (.int (1 : Int32))] [])) (fun t k => XS.goto X44.here hx rfl (pc0 := 159) (pc' := 165) rfl (hb hby at_159) (by decide) (by decide) k) ?_
          exact J165_53 _ (by simp only [if_neg hc153_54, if_true, if_false] <;> rfl)
      intro z165_52 hz165_52
      refine step (T44.setTop (mkF m 167 #[.val (.long p0), .second, .val (.int p1), .val (.int (0 : Int32)), .val (.int z23_2), .val (.int z36_5), .val (.ref aV0), .val (.ref b4_10), .val z83_15, .val z98_18, .val (.ref b21), .val (.ref b33), .val (.int z165_52)] [(.ref b33)])) (fun t k => XS.aload X44.here hx rfl (hb hby at_165) rfl rfl k) ?_
      have f55 := (A33.keep K44q)
      obtain ⟨cq56, kq56, q56a, q56b, q56c⟩ := isOf hZ e44 f55
      obtain ⟨_, _, ⟨T56, L56, k56, n56⟩, -, X56, ⟨Lc56, hQ56, l56, y56, z56⟩, st56⟩ := X44.virtualBack hx (y := (⟨"com/example/whisman/whisman/connector/RequestHead", "hasBody", "()Z"⟩ : MethodName)) (z := (⟨"com/example/whisman/whisman/connector/RequestHead", "hasBody", "()Z"⟩ : MethodName)) hown (mvT hZ (hw _ (List.mem_of_getElem? (i := 76) rfl))) (mvT hZ (hw _ (List.mem_of_getElem? (i := 77) rfl))) (notFace_of_selects (args := #[]) (mvT hZ (hw _ (List.mem_of_getElem? (i := 79) rfl)))) (mvT hZ (hw _ (List.mem_of_getElem? (i := 79) rfl))) (mvT hZ (hw _ (List.mem_of_getElem? (i := 78) rfl))) (by decide) (backOf (W := 0) (rm9_8 l Z a0 hw [] b33 p0 h44 n0 (Nat.le_trans Z0 K44.1) f55 q1_44 q2_44 gn_b33) hZ (hw _ (List.mem_of_getElem? (i := 80) rfl)) (hw _ (List.mem_of_getElem? (i := 42) rfl)) (by decide) (by decide)) q56a q56c (g := (mkF m 167 #[.val (.long p0), .second, .val (.int p1), .val (.int (0 : Int32)), .val (.int z23_2), .val (.int z36_5), .val (.ref aV0), .val (.ref b4_10), .val z83_15, .val z98_18, .val (.ref b21), .val (.ref b33), .val (.int z165_52)] [(.ref b33)])) rfl (by rw [hml]; rfl) (Steps.refl _) (argsL := []) (rest := []) (lenOf pd_3 rfl) rfl (by show 2 * 0 + _ ≤ _; exact Nat.le_of_eq rfl) (hb hby at_167) (fun _ _ => ⟨rfl, e44, (by decide : 4 + 0 ≤ _), (by decide : 19 + 0 ≤ _)⟩)
      dsimp only [Pt.U, Pt.locs, Pt.cells, Pt.slots] at X56 l56 y56 z56 st56 hQ56
      subst l56 y56 z56
      obtain ⟨z21_3_56, rfl, N56q, e56q, hz21_3_56⟩ := hQ56
      have N56 := Fr.app N44 N56q
      refine step (T56.setTop (mkF m 170 #[.val (.long p0), .second, .val (.int p1), .val (.int (0 : Int32)), .val (.int z23_2), .val (.int z36_5), .val (.ref aV0), .val (.ref b4_10), .val z83_15, .val z98_18, .val (.ref b21), .val (.ref b33), .val (.int z165_52)] [(.int z21_3_56)])) (fun t k => st56.trans k) ?_
      refine step (T56.setTop (mkF m 172 #[.val (.long p0), .second, .val (.int p1), .val (.int (0 : Int32)), .val (.int z23_2), .val (.int z36_5), .val (.ref aV0), .val (.ref b4_10), .val z83_15, .val z98_18, .val (.ref b21), .val (.ref b33), .val (.int z165_52)] [(.int z165_52), (.int z21_3_56)])) (fun t k => XS.iload X56.here hx rfl (hb hby at_170) rfl k) ?_
      suffices J180_58 : ∀ (z180_57 : Int32), z180_57 = (if z21_3_56 = z165_52 then (1 : Int32) else (0 : Int32)) → G (T56.setTop (mkF m 180 #[.val (.long p0), .second, .val (.int p1), .val (.int (0 : Int32)), .val (.int z23_2), .val (.int z36_5), .val (.ref aV0), .val (.ref b4_10), .val z83_15, .val z98_18, .val (.ref b21), .val (.ref b33), .val (.int z165_52)] [(.int z180_57)])) by
        by_cases hc172_59 : z21_3_56 = z165_52
        · -- 172 True
          refine step (T56.setTop (mkF m 175 #[.val (.long p0), .second, .val (.int p1), .val (.int (0 : Int32)), .val (.int z23_2), .val (.int z36_5), .val (.ref aV0), .val (.ref b4_10), .val z83_15, .val z98_18, .val (.ref b21), .val (.ref b33), .val (.int z165_52)] [])) (fun t k => XS.icmpNo X56.here hx rfl (hb hby at_172) rfl (teq hc172_59).2 k) ?_
          refine step (T56.setTop (mkF m 176 #[.val (.long p0), .second, .val (.int p1), .val (.int (0 : Int32)), .val (.int z23_2), .val (.int z36_5), .val (.ref aV0), .val (.ref b4_10), .val z83_15, .val z98_18, .val (.ref b21), .val (.ref b33), .val (.int z165_52)] [(.int (1 : Int32))])) (fun t k => XS.iconst X56.here hx rfl (hb hby at_175) k) ?_
          refine step (T56.setTop (mkF m 180 #[.val (.long p0), .second, .val (.int p1), .val (.int (0 : Int32)), .val (.int z23_2), .val (.int z36_5), .val (.ref aV0), .val (.ref b4_10), .val z83_15, .val z98_18, .val (.ref b21), .val (.ref b33), .val (.int z165_52)] [(.int (1 : Int32))])) (fun t k => XS.goto X56.here hx rfl (pc0 := 176) (pc' := 180) rfl (hb hby at_176) (by decide) (by decide) k) ?_
          exact J180_58 _ (by simp only [if_pos hc172_59, if_true, if_false] <;> rfl)
        · -- 172 False
          refine step (T56.setTop (mkF m 179 #[.val (.long p0), .second, .val (.int p1), .val (.int (0 : Int32)), .val (.int z23_2), .val (.int z36_5), .val (.ref aV0), .val (.ref b4_10), .val z83_15, .val z98_18, .val (.ref b21), .val (.ref b33), .val (.int z165_52)] [])) (fun t k => XS.icmpYes X56.here hx rfl (pc0 := 172) (pc' := 179) rfl (hb hby at_172) rfl (feq hc172_59).2 (by decide) (by decide) k) ?_
          refine step (T56.setTop (mkF m 180 #[.val (.long p0), .second, .val (.int p1), .val (.int (0 : Int32)), .val (.int z23_2), .val (.int z36_5), .val (.ref aV0), .val (.ref b4_10), .val z83_15, .val z98_18, .val (.ref b21), .val (.ref b33), .val (.int z165_52)] [(.int (0 : Int32))])) (fun t k => XS.iconst X56.here hx rfl (hb hby at_179) k) ?_
          exact J180_58 _ (by simp only [if_neg hc172_59, if_true, if_false] <;> rfl)
      intro z180_57 hz180_57
      refine fin (v := some (.int (nar .boolean z180_57))) X56 (fun h => by cases h) ?_ (by decide) (by decide) (fun fs hr => retN X56 hx (t := .boolean) hret (by simp) (hb hby at_180) hr)
      show Q0 Z p0 p1 cs aV0 aV1 aNONE h0 n0 (some (.int (nar .boolean z180_57))) T56.heap _
      rw [e56q]
      exact ⟨own_fin (own_plain8 p0 p1 cs aV0 aV1 aNONE z165_52 z21_3_56 z180_57 hz165_52 hz21_3_56 hz180_57), N56⟩
    · -- pc 42: (p1 &&& (8 : Int32)) = (0 : Int32) False
      refine step (s₁.setTop (mkF m 45 #[.val (.long p0), .second, .val (.int p1), .val (.int (0 : Int32)), .val (.int z23_2), .val (.int z36_5), .unset, .unset, .unset, .unset, .unset, .unset, .unset] [])) (fun t k => XS.ifNo X0.here hx rfl (hb hby at_42) rfl ((if0 _ _).trans (feq hc42_8).1) k) ?_
      obtain ⟨T60, X60, e60, st60⟩ := getS2 X0 hx hZ hown (host := "") (Or.inl (hw _ (List.mem_of_getElem? (i := 81) rfl))) Via.refl e0 S_aV1 (g := (mkF m 45 #[.val (.long p0), .second, .val (.int p1), .val (.int (0 : Int32)), .val (.int z23_2), .val (.int z36_5), .unset, .unset, .unset, .unset, .unset, .unset, .unset] [])) rfl (hb hby at_45)
      refine step (T60.setTop (mkF m 48 #[.val (.long p0), .second, .val (.int p1), .val (.int (0 : Int32)), .val (.int z23_2), .val (.int z36_5), .unset, .unset, .unset, .unset, .unset, .unset, .unset] [(.ref aV1)])) (fun t k => st60 t k) ?_
      refine step (T60.setTop (mkF m 54 #[.val (.long p0), .second, .val (.int p1), .val (.int (0 : Int32)), .val (.int z23_2), .val (.int z36_5), .unset, .unset, .unset, .unset, .unset, .unset, .unset] [(.ref aV1)])) (fun t k => XS.goto X60.here hx rfl (pc0 := 48) (pc' := 54) rfl (hb hby at_48) (by decide) (by decide) k) ?_
      refine step (T60.setTop (mkF m 56 #[.val (.long p0), .second, .val (.int p1), .val (.int (0 : Int32)), .val (.int z23_2), .val (.int z36_5), .val (.ref aV1), .unset, .unset, .unset, .unset, .unset, .unset] [])) (fun t k => XS.astore X60.here hx rfl (hb hby at_54) rfl rfl (l' := #[.val (.long p0), .second, .val (.int p1), .val (.int (0 : Int32)), .val (.int z23_2), .val (.int z36_5), .val (.ref aV1), .unset, .unset, .unset, .unset, .unset, .unset]) rfl k) ?_
      refine step (T60.setTop (mkF m 57 #[.val (.long p0), .second, .val (.int p1), .val (.int (0 : Int32)), .val (.int z23_2), .val (.int z36_5), .val (.ref aV1), .unset, .unset, .unset, .unset, .unset, .unset] [(.int p1)])) (fun t k => XS.iloadN X60.here hx rfl (hb hby at_56) rfl k) ?_
      refine step (T60.setTop (mkF m 59 #[.val (.long p0), .second, .val (.int p1), .val (.int (0 : Int32)), .val (.int z23_2), .val (.int z36_5), .val (.ref aV1), .unset, .unset, .unset, .unset, .unset, .unset] [(.int (8 : Int32)), (.int p1)])) (fun t k => XS.bipush X60.here hx rfl (hb hby at_57) k) ?_
      refine step (T60.setTop (mkF m 60 #[.val (.long p0), .second, .val (.int p1), .val (.int (0 : Int32)), .val (.int z23_2), .val (.int z36_5), .val (.ref aV1), .unset, .unset, .unset, .unset, .unset, .unset] [(.int ((p1.toUInt32 >>> ((8 : Int32) &&& 31).toUInt32).toInt32))])) (fun t k => XS.iushr X60.here hx rfl (hb hby at_59) rfl k) ?_
      refine step (T60.setTop (mkF m 63 #[.val (.long p0), .second, .val (.int p1), .val (.int (0 : Int32)), .val (.int z23_2), .val (.int z36_5), .val (.ref aV1), .unset, .unset, .unset, .unset, .unset, .unset] [(.int (255 : Int32)), (.int ((p1.toUInt32 >>> ((8 : Int32) &&& 31).toUInt32).toInt32))])) (fun t k => XS.sipush X60.here hx rfl (hb hby at_60) k) ?_
      refine step (T60.setTop (mkF m 64 #[.val (.long p0), .second, .val (.int p1), .val (.int (0 : Int32)), .val (.int z23_2), .val (.int z36_5), .val (.ref aV1), .unset, .unset, .unset, .unset, .unset, .unset] [(.int (((p1.toUInt32 >>> ((8 : Int32) &&& 31).toUInt32).toInt32) &&& (255 : Int32)))])) (fun t k => XS.iand X60.here hx rfl (hb hby at_63) rfl k) ?_
      refine step (T60.setTop (mkF m 65 #[.val (.long p0), .second, .val (.int p1), .val (.int (0 : Int32)), .val (.int z23_2), .val (.int z36_5), .val (.ref aV1), .unset, .unset, .unset, .unset, .unset, .unset] [(.int ((((p1.toUInt32 >>> ((8 : Int32) &&& 31).toUInt32).toInt32) &&& (255 : Int32)).toUInt32.toUInt16.toUInt32.toInt32))])) (fun t k => XS.i2c X60.here hx rfl (hb hby at_64) rfl k) ?_
      generalize hch : ((((p1.toUInt32 >>> ((8 : Int32) &&& 31).toUInt32).toInt32) &&& (255 : Int32)).toUInt32.toUInt16.toUInt32.toInt32) = ch
      have le_ch := own_255 _ _ hch
      obtain ⟨_, _, ⟨T61, L61, k61, n61⟩, -, X61, ⟨Lc61, hQ61, l61, y61, z61⟩, st61⟩ := Jvm.LawKit.callS X60 hx (y := (⟨"java/lang/String", "valueOf", "(C)Ljava/lang/String;"⟩ : MethodName)) hown (mvT hZ (hw _ (List.mem_of_getElem? (i := 3) rfl))) (mvT hZ (hw _ (List.mem_of_getElem? (i := 4) rfl))) (mvT hZ (hw _ (List.mem_of_getElem? (i := 5) rfl))) (mvT hZ (hw _ (List.mem_of_getElem? (i := 6) rfl))) (by decide) (backOf (W := 0) (rm1_1 l Z a0 hw [] ch cs aNONE h0 n0 Z0 S_cs S_aNONE le_ch c_cs) hZ (hw _ (List.mem_of_getElem? (i := 6) rfl)) (hw _ (List.mem_of_getElem? (i := 5) rfl)) (by decide) (by decide)) (g := (mkF m 65 #[.val (.long p0), .second, .val (.int p1), .val (.int (0 : Int32)), .val (.int z23_2), .val (.int z36_5), .val (.ref aV1), .unset, .unset, .unset, .unset, .unset, .unset] [(.int ch)])) rfl (by rw [hml]; rfl) (argsL := [(.int ch)]) (rest := []) (lenOf pd_0 rfl) rfl (by show 2 * 0 + _ ≤ _; exact Nat.le_of_eq rfl) (hb hby at_65) (fun _ _ => ⟨rfl, e60, (by decide : 0 + 2 ≤ _), (by decide : 0 + 5 ≤ _)⟩)
      dsimp only [Pt.U, Pt.locs, Pt.cells, Pt.slots] at X61 l61 y61 z61 st61 hQ61
      subst l61 y61 z61
      obtain ⟨h61, e61⟩ : ∃ z, T61.heap = z := ⟨_, rfl⟩
      rw [e61] at hQ61
      obtain ⟨b4_61, b1_5_61, k1_5_61, rfl, N61q, K61q, sz_b4_61, sz_b1_5_61, ne_b1_5_b4_61, q0_61, q1_61, q2_61, q3_61⟩ := hQ61
      have N61 := Fr.app N0 N61q
      have lt61_aV0 := E_aV0.lt
      have lt61_aV1 := E_aV1.lt
      have ne_aV0_b4_61 : aV0 ≠ b4_61 := Nat.ne_of_lt (Nat.lt_of_lt_of_le lt61_aV0 sz_b4_61)
      have ne_aV1_b4_61 : aV1 ≠ b4_61 := Nat.ne_of_lt (Nat.lt_of_lt_of_le lt61_aV1 sz_b4_61)
      have gn_b4_61 : n0 ≤ b4_61 := Nat.le_trans Z0 sz_b4_61
      have ne_aV0_b1_5_61 : aV0 ≠ b1_5_61 := Nat.ne_of_lt (Nat.lt_of_lt_of_le lt61_aV0 sz_b1_5_61)
      have ne_aV1_b1_5_61 : aV1 ≠ b1_5_61 := Nat.ne_of_lt (Nat.lt_of_lt_of_le lt61_aV1 sz_b1_5_61)
      have gn_b1_5_61 : n0 ≤ b1_5_61 := Nat.le_trans Z0 sz_b1_5_61
      have K61 : Keep h0 h61 [] := (Keep.refl h0 []).trans K61q all0
      have f62 := own_staK S_cs K61q all0
      have f63 := own_staK S_aV0 K61q all0
      have f64 := own_staK S_aV1 K61q all0
      have f65 := own_staK S_aNONE K61q all0
      refine step (T61.setTop (mkF m 68 #[.val (.long p0), .second, .val (.int p1), .val (.int (0 : Int32)), .val (.int z23_2), .val (.int z36_5), .val (.ref aV1), .unset, .unset, .unset, .unset, .unset, .unset] [(.ref b4_61)])) (fun t k => st61 t k) ?_
      refine step (T61.setTop (mkF m 70 #[.val (.long p0), .second, .val (.int p1), .val (.int (0 : Int32)), .val (.int z23_2), .val (.int z36_5), .val (.ref aV1), .val (.ref b4_61), .unset, .unset, .unset, .unset, .unset] [])) (fun t k => XS.astore X61.here hx rfl (hb hby at_68) rfl rfl (l' := #[.val (.long p0), .second, .val (.int p1), .val (.int (0 : Int32)), .val (.int z23_2), .val (.int z36_5), .val (.ref aV1), .val (.ref b4_61), .unset, .unset, .unset, .unset, .unset]) rfl k) ?_
      refine step (T61.setTop (mkF m 71 #[.val (.long p0), .second, .val (.int p1), .val (.int (0 : Int32)), .val (.int z23_2), .val (.int z36_5), .val (.ref aV1), .val (.ref b4_61), .unset, .unset, .unset, .unset, .unset] [(.int p1)])) (fun t k => XS.iloadN X61.here hx rfl (hb hby at_70) rfl k) ?_
      refine step (T61.setTop (mkF m 73 #[.val (.long p0), .second, .val (.int p1), .val (.int (0 : Int32)), .val (.int z23_2), .val (.int z36_5), .val (.ref aV1), .val (.ref b4_61), .unset, .unset, .unset, .unset, .unset] [(.int (16 : Int32)), (.int p1)])) (fun t k => XS.bipush X61.here hx rfl (hb hby at_71) k) ?_
      refine step (T61.setTop (mkF m 74 #[.val (.long p0), .second, .val (.int p1), .val (.int (0 : Int32)), .val (.int z23_2), .val (.int z36_5), .val (.ref aV1), .val (.ref b4_61), .unset, .unset, .unset, .unset, .unset] [(.int (p1 &&& (16 : Int32)))])) (fun t k => XS.iand X61.here hx rfl (hb hby at_73) rfl k) ?_
      suffices J83_67 : ∀ (z83_66 : Value), z83_66 = (if (p1 &&& (16 : Int32)) = (0 : Int32) then (Value.ref b4_61) else Value.null) → G (T61.setTop (mkF m 83 #[.val (.long p0), .second, .val (.int p1), .val (.int (0 : Int32)), .val (.int z23_2), .val (.int z36_5), .val (.ref aV1), .val (.ref b4_61), .unset, .unset, .unset, .unset, .unset] [z83_66])) by
        by_cases hc74_68 : (p1 &&& (16 : Int32)) = (0 : Int32)
        · -- 74 True
          refine step (T61.setTop (mkF m 81 #[.val (.long p0), .second, .val (.int p1), .val (.int (0 : Int32)), .val (.int z23_2), .val (.int z36_5), .val (.ref aV1), .val (.ref b4_61), .unset, .unset, .unset, .unset, .unset] [])) (fun t k => XS.ifYes X61.here hx rfl (pc0 := 74) (pc' := 81) rfl (hb hby at_74) rfl ((if0 _ _).trans (teq hc74_68).1) (by decide) (by decide) k) ?_
          refine step (T61.setTop (mkF m 83 #[.val (.long p0), .second, .val (.int p1), .val (.int (0 : Int32)), .val (.int z23_2), .val (.int z36_5), .val (.ref aV1), .val (.ref b4_61), .unset, .unset, .unset, .unset, .unset] [(.ref b4_61)])) (fun t k => XS.aload X61.here hx rfl (hb hby at_81) rfl rfl k) ?_
          exact J83_67 _ (by simp only [if_pos hc74_68, if_true, if_false] <;> rfl)
        · -- 74 False
          refine step (T61.setTop (mkF m 77 #[.val (.long p0), .second, .val (.int p1), .val (.int (0 : Int32)), .val (.int z23_2), .val (.int z36_5), .val (.ref aV1), .val (.ref b4_61), .unset, .unset, .unset, .unset, .unset] [])) (fun t k => XS.ifNo X61.here hx rfl (hb hby at_74) rfl ((if0 _ _).trans (feq hc74_68).1) k) ?_
          refine step (T61.setTop (mkF m 78 #[.val (.long p0), .second, .val (.int p1), .val (.int (0 : Int32)), .val (.int z23_2), .val (.int z36_5), .val (.ref aV1), .val (.ref b4_61), .unset, .unset, .unset, .unset, .unset] [.null])) (fun t k => XS.aconstNull X61.here hx rfl (hb hby at_77) k) ?_
          refine step (T61.setTop (mkF m 83 #[.val (.long p0), .second, .val (.int p1), .val (.int (0 : Int32)), .val (.int z23_2), .val (.int z36_5), .val (.ref aV1), .val (.ref b4_61), .unset, .unset, .unset, .unset, .unset] [.null])) (fun t k => XS.goto X61.here hx rfl (pc0 := 78) (pc' := 83) rfl (hb hby at_78) (by decide) (by decide) k) ?_
          exact J83_67 _ (by simp only [if_neg hc74_68, if_true, if_false] <;> rfl)
      intro z83_66 hz83_66
      have rz83_66 : Value.isRef z83_66 = true := by rw [hz83_66]; (repeat' split) <;> rfl
      refine step (T61.setTop (mkF m 85 #[.val (.long p0), .second, .val (.int p1), .val (.int (0 : Int32)), .val (.int z23_2), .val (.int z36_5), .val (.ref aV1), .val (.ref b4_61), .val z83_66, .unset, .unset, .unset, .unset] [])) (fun t k => XS.astore X61.here hx rfl (hb hby at_83) rfl rz83_66 (l' := #[.val (.long p0), .second, .val (.int p1), .val (.int (0 : Int32)), .val (.int z23_2), .val (.int z36_5), .val (.ref aV1), .val (.ref b4_61), .val z83_66, .unset, .unset, .unset, .unset]) (by rcases ref_cases rz83_66 with q | ⟨_, q⟩ <;> rw [q] <;> rfl) k) ?_
      refine step (T61.setTop (mkF m 86 #[.val (.long p0), .second, .val (.int p1), .val (.int (0 : Int32)), .val (.int z23_2), .val (.int z36_5), .val (.ref aV1), .val (.ref b4_61), .val z83_66, .unset, .unset, .unset, .unset] [(.int p1)])) (fun t k => XS.iloadN X61.here hx rfl (hb hby at_85) rfl k) ?_
      refine step (T61.setTop (mkF m 88 #[.val (.long p0), .second, .val (.int p1), .val (.int (0 : Int32)), .val (.int z23_2), .val (.int z36_5), .val (.ref aV1), .val (.ref b4_61), .val z83_66, .unset, .unset, .unset, .unset] [(.int (32 : Int32)), (.int p1)])) (fun t k => XS.bipush X61.here hx rfl (hb hby at_86) k) ?_
      refine step (T61.setTop (mkF m 89 #[.val (.long p0), .second, .val (.int p1), .val (.int (0 : Int32)), .val (.int z23_2), .val (.int z36_5), .val (.ref aV1), .val (.ref b4_61), .val z83_66, .unset, .unset, .unset, .unset] [(.int (p1 &&& (32 : Int32)))])) (fun t k => XS.iand X61.here hx rfl (hb hby at_88) rfl k) ?_
      suffices J98_70 : ∀ (z98_69 : Value), z98_69 = (if (p1 &&& (32 : Int32)) = (0 : Int32) then (Value.ref b4_61) else Value.null) → G (T61.setTop (mkF m 98 #[.val (.long p0), .second, .val (.int p1), .val (.int (0 : Int32)), .val (.int z23_2), .val (.int z36_5), .val (.ref aV1), .val (.ref b4_61), .val z83_66, .unset, .unset, .unset, .unset] [z98_69])) by
        by_cases hc89_71 : (p1 &&& (32 : Int32)) = (0 : Int32)
        · -- 89 True
          refine step (T61.setTop (mkF m 96 #[.val (.long p0), .second, .val (.int p1), .val (.int (0 : Int32)), .val (.int z23_2), .val (.int z36_5), .val (.ref aV1), .val (.ref b4_61), .val z83_66, .unset, .unset, .unset, .unset] [])) (fun t k => XS.ifYes X61.here hx rfl (pc0 := 89) (pc' := 96) rfl (hb hby at_89) rfl ((if0 _ _).trans (teq hc89_71).1) (by decide) (by decide) k) ?_
          refine step (T61.setTop (mkF m 98 #[.val (.long p0), .second, .val (.int p1), .val (.int (0 : Int32)), .val (.int z23_2), .val (.int z36_5), .val (.ref aV1), .val (.ref b4_61), .val z83_66, .unset, .unset, .unset, .unset] [(.ref b4_61)])) (fun t k => XS.aload X61.here hx rfl (hb hby at_96) rfl rfl k) ?_
          exact J98_70 _ (by simp only [if_pos hc89_71, if_true, if_false] <;> rfl)
        · -- 89 False
          refine step (T61.setTop (mkF m 92 #[.val (.long p0), .second, .val (.int p1), .val (.int (0 : Int32)), .val (.int z23_2), .val (.int z36_5), .val (.ref aV1), .val (.ref b4_61), .val z83_66, .unset, .unset, .unset, .unset] [])) (fun t k => XS.ifNo X61.here hx rfl (hb hby at_89) rfl ((if0 _ _).trans (feq hc89_71).1) k) ?_
          refine step (T61.setTop (mkF m 93 #[.val (.long p0), .second, .val (.int p1), .val (.int (0 : Int32)), .val (.int z23_2), .val (.int z36_5), .val (.ref aV1), .val (.ref b4_61), .val z83_66, .unset, .unset, .unset, .unset] [.null])) (fun t k => XS.aconstNull X61.here hx rfl (hb hby at_92) k) ?_
          refine step (T61.setTop (mkF m 98 #[.val (.long p0), .second, .val (.int p1), .val (.int (0 : Int32)), .val (.int z23_2), .val (.int z36_5), .val (.ref aV1), .val (.ref b4_61), .val z83_66, .unset, .unset, .unset, .unset] [.null])) (fun t k => XS.goto X61.here hx rfl (pc0 := 93) (pc' := 98) rfl (hb hby at_93) (by decide) (by decide) k) ?_
          exact J98_70 _ (by simp only [if_neg hc89_71, if_true, if_false] <;> rfl)
      intro z98_69 hz98_69
      have rz98_69 : Value.isRef z98_69 = true := by rw [hz98_69]; (repeat' split) <;> rfl
      refine step (T61.setTop (mkF m 100 #[.val (.long p0), .second, .val (.int p1), .val (.int (0 : Int32)), .val (.int z23_2), .val (.int z36_5), .val (.ref aV1), .val (.ref b4_61), .val z83_66, .val z98_69, .unset, .unset, .unset] [])) (fun t k => XS.astore X61.here hx rfl (hb hby at_98) rfl rz98_69 (l' := #[.val (.long p0), .second, .val (.int p1), .val (.int (0 : Int32)), .val (.int z23_2), .val (.int z36_5), .val (.ref aV1), .val (.ref b4_61), .val z83_66, .val z98_69, .unset, .unset, .unset]) (by rcases ref_cases rz98_69 with q | ⟨_, q⟩ <;> rw [q] <;> rfl) k) ?_
      obtain ⟨T72, h72, X72, e72, E72, A72, D72, -, st72⟩ := newO X61 hx hZ hown (hw _ (List.mem_of_getElem? (i := 29) rfl)) (hw _ (List.mem_of_getElem? (i := 30) rfl)) (hw _ (List.mem_of_getElem? (i := 31) rfl)) e61 (g := (mkF m 100 #[.val (.long p0), .second, .val (.int p1), .val (.int (0 : Int32)), .val (.int z23_2), .val (.int z36_5), .val (.ref aV1), .val (.ref b4_61), .val z83_66, .val z98_69, .unset, .unset, .unset] [])) rfl (hb hby at_100) (by decide) (by decide)
      obtain ⟨b72, g72⟩ : ∃ z, z = h61.size := ⟨_, rfl⟩
      rw [← g72] at A72 D72 st72
      have f73 := (E_aV0.keep K61q)
      have ne_aV0_b72 : aV0 ≠ b72 := Nat.ne_of_lt (Nat.lt_of_lt_of_le f73.lt (Nat.le_of_eq g72.symm))
      have f74 := (E_aV1.keep K61q)
      have ne_aV1_b72 : aV1 ≠ b72 := Nat.ne_of_lt (Nat.lt_of_lt_of_le f74.lt (Nat.le_of_eq g72.symm))
      have ne_b4_61_b72 : b4_61 ≠ b72 := Nat.ne_of_lt (Nat.lt_of_lt_of_le q0_61.lt (Nat.le_of_eq g72.symm))
      have ne_b1_5_61_b72 : b1_5_61 ≠ b72 := Nat.ne_of_lt (Nat.lt_of_lt_of_le q3_61.lt (Nat.le_of_eq g72.symm))
      have gn_b72 : n0 ≤ b72 := Nat.le_trans (Nat.le_trans Z0 K61.1) (Nat.le_of_eq g72.symm)
      have sz_b72 : h0.size ≤ b72 := Nat.le_trans K61.1 (Nat.le_of_eq g72.symm)
      have K72 : Keep h0 h72 [] := K61.ext E72
      have F_entries_b72 : Fld Z h72 b72 "com/example/whisman/whisman/connector/HttpFields" "entries" "[Ljava/lang/String;" .null := D72 (Or.inl (hw _ (List.mem_of_getElem? (i := 39) rfl))) (ty := (.array (.object "java/lang/String"))) (by decide)
      refine step (T72.setTop (mkF m 103 #[.val (.long p0), .second, .val (.int p1), .val (.int (0 : Int32)), .val (.int z23_2), .val (.int z36_5), .val (.ref aV1), .val (.ref b4_61), .val z83_66, .val z98_69, .unset, .unset, .unset] [(.ref b72)])) (fun t k => st72 t k) ?_
      refine step (T72.setTop (mkF m 104 #[.val (.long p0), .second, .val (.int p1), .val (.int (0 : Int32)), .val (.int z23_2), .val (.int z36_5), .val (.ref aV1), .val (.ref b4_61), .val z83_66, .val z98_69, .unset, .unset, .unset] [(.ref b72), (.ref b72)])) (fun t k => XS.dup X72.here hx rfl (hb hby at_103) rfl rfl k) ?_
      have f75 := (f65.ext E72)
      obtain ⟨_, _, ⟨T76, L76, k76, n76⟩, -, X76, ⟨Lc76, hQ76, l76, y76, z76⟩, st76⟩ := X72.specialBack hx (y := (⟨"com/example/whisman/whisman/connector/HttpFields", "<init>", "()V"⟩ : MethodName)) rfl hown (mvT hZ (hw _ (List.mem_of_getElem? (i := 32) rfl))) (mvT hZ (hw _ (List.mem_of_getElem? (i := 33) rfl))) (mvT hZ (hw _ (List.mem_of_getElem? (i := 34) rfl))) (by decide) (backOf (W := 1) (rm6_5 l Z a0 hw [] b72 aNONE h72 n0 (Nat.le_trans Z0 K72.1) f75 A72 F_entries_b72 gn_b72) hZ (hw _ (List.mem_of_getElem? (i := 34) rfl)) (hw _ (List.mem_of_getElem? (i := 31) rfl)) (by decide) (by decide)) (g := (mkF m 104 #[.val (.long p0), .second, .val (.int p1), .val (.int (0 : Int32)), .val (.int z23_2), .val (.int z36_5), .val (.ref aV1), .val (.ref b4_61), .val z83_66, .val z98_69, .unset, .unset, .unset] [(.ref b72), (.ref b72)])) rfl (by rw [hml]; rfl) (Steps.refl _) (a := b72) (argsL := []) (rest := [(.ref b72)]) (lenOf pd_1 rfl) rfl (by show 2 * 0 + _ ≤ _; exact Nat.le_of_eq rfl) (hb hby at_104) (fun _ _ => ⟨rfl, e72, (by decide : 3 + 0 ≤ _), (by decide : 7 + 0 ≤ _)⟩)
      dsimp only [Pt.U, Pt.locs, Pt.cells, Pt.slots] at X76 l76 y76 z76 st76 hQ76
      subst l76 y76 z76
      obtain ⟨h76, e76⟩ : ∃ z, T76.heap = z := ⟨_, rfl⟩
      rw [e76] at hQ76
      obtain ⟨rfl, N76q, K76q, q0_76⟩ := hQ76
      have N76 := Fr.app N61 N76q
      have f77 := (f62.ext E72)
      have f78 := (f63.ext E72)
      have f79 := (f64.ext E72)
      have K76 : Keep h0 h76 [] := K72.trans K76q (allS (Or.inr sz_b72) all0)
      have f80 := own_staK f77 K76q (allS (own_exaP A72) all0)
      have f81 := own_staK f78 K76q (allS (own_exaP A72) all0)
      have f82 := own_staK f79 K76q (allS (own_exaP A72) all0)
      have f83 := own_staK f75 K76q (allS (own_exaP A72) all0)
      refine step (T76.setTop (mkF m 107 #[.val (.long p0), .second, .val (.int p1), .val (.int (0 : Int32)), .val (.int z23_2), .val (.int z36_5), .val (.ref aV1), .val (.ref b4_61), .val z83_66, .val z98_69, .unset, .unset, .unset] [(.ref b72)])) (fun t k => st76.trans k) ?_
      refine step (T76.setTop (mkF m 109 #[.val (.long p0), .second, .val (.int p1), .val (.int (0 : Int32)), .val (.int z23_2), .val (.int z36_5), .val (.ref aV1), .val (.ref b4_61), .val z83_66, .val z98_69, .val (.ref b72), .unset, .unset] [])) (fun t k => XS.astore X76.here hx rfl (hb hby at_107) rfl rfl (l' := #[.val (.long p0), .second, .val (.int p1), .val (.int (0 : Int32)), .val (.int z23_2), .val (.int z36_5), .val (.ref aV1), .val (.ref b4_61), .val z83_66, .val z98_69, .val (.ref b72), .unset, .unset]) rfl k) ?_
      obtain ⟨T84, h84, X84, e84, E84, A84, D84, -, st84⟩ := newO X76 hx hZ hown (hw _ (List.mem_of_getElem? (i := 40) rfl)) (hw _ (List.mem_of_getElem? (i := 41) rfl)) (hw _ (List.mem_of_getElem? (i := 42) rfl)) e76 (g := (mkF m 109 #[.val (.long p0), .second, .val (.int p1), .val (.int (0 : Int32)), .val (.int z23_2), .val (.int z36_5), .val (.ref aV1), .val (.ref b4_61), .val z83_66, .val z98_69, .val (.ref b72), .unset, .unset] [])) rfl (hb hby at_109) (by decide) (by decide)
      obtain ⟨b84, g84⟩ : ∃ z, z = h76.size := ⟨_, rfl⟩
      rw [← g84] at A84 D84 st84
      have f85 := ((f73.ext E72).keep K76q)
      have ne_aV0_b84 : aV0 ≠ b84 := Nat.ne_of_lt (Nat.lt_of_lt_of_le f85.lt (Nat.le_of_eq g84.symm))
      have f86 := ((f74.ext E72).keep K76q)
      have ne_aV1_b84 : aV1 ≠ b84 := Nat.ne_of_lt (Nat.lt_of_lt_of_le f86.lt (Nat.le_of_eq g84.symm))
      have f87 := ((q0_61.ext E72).keep K76q)
      have ne_b4_61_b84 : b4_61 ≠ b84 := Nat.ne_of_lt (Nat.lt_of_lt_of_le f87.lt (Nat.le_of_eq g84.symm))
      have f88 := ((q3_61.ext E72).keep K76q (ninS ne_b1_5_61_b72 nin0))
      have ne_b1_5_61_b84 : b1_5_61 ≠ b84 := Nat.ne_of_lt (Nat.lt_of_lt_of_le f88.lt (Nat.le_of_eq g84.symm))
      have f89 := (A72.keep K76q)
      have ne_b72_b84 : b72 ≠ b84 := Nat.ne_of_lt (Nat.lt_of_lt_of_le f89.lt (Nat.le_of_eq g84.symm))
      have gn_b84 : n0 ≤ b84 := Nat.le_trans (Nat.le_trans Z0 K76.1) (Nat.le_of_eq g84.symm)
      have sz_b84 : h0.size ≤ b84 := Nat.le_trans K76.1 (Nat.le_of_eq g84.symm)
      have K84 : Keep h0 h84 [] := K76.ext E84
      have F_method_b84 : Fld Z h84 b84 "com/example/whisman/whisman/connector/RequestHead" "method" "Ljava/lang/String;" .null := D84 (Or.inr (hw _ (List.mem_of_getElem? (i := 53) rfl))) (ty := (.object "java/lang/String")) (by decide)
      have F_target_b84 : Fld Z h84 b84 "com/example/whisman/whisman/connector/RequestHead" "target" "Ljava/lang/String;" .null := D84 (Or.inr (hw _ (List.mem_of_getElem? (i := 55) rfl))) (ty := (.object "java/lang/String")) (by decide)
      have F_versionText_b84 : Fld Z h84 b84 "com/example/whisman/whisman/connector/RequestHead" "versionText" "Ljava/lang/String;" .null := D84 (Or.inr (hw _ (List.mem_of_getElem? (i := 57) rfl))) (ty := (.object "java/lang/String")) (by decide)
      have F_version_b84 : Fld Z h84 b84 "com/example/whisman/whisman/connector/RequestHead" "version" "Lcom/example/whisman/whisman/connector/HttpVersion;" .null := D84 (Or.inr (hw _ (List.mem_of_getElem? (i := 59) rfl))) (ty := (.object "com/example/whisman/whisman/connector/HttpVersion")) (by decide)
      have F_fields_b84 : Fld Z h84 b84 "com/example/whisman/whisman/connector/RequestHead" "fields" "Lcom/example/whisman/whisman/connector/HttpFields;" .null := D84 (Or.inr (hw _ (List.mem_of_getElem? (i := 61) rfl))) (ty := (.object "com/example/whisman/whisman/connector/HttpFields")) (by decide)
      have F_path_b84 : Fld Z h84 b84 "com/example/whisman/whisman/connector/RequestHead" "path" "Ljava/lang/String;" .null := D84 (Or.inr (hw _ (List.mem_of_getElem? (i := 63) rfl))) (ty := (.object "java/lang/String")) (by decide)
      have F_query_b84 : Fld Z h84 b84 "com/example/whisman/whisman/connector/RequestHead" "query" "Ljava/lang/String;" .null := D84 (Or.inr (hw _ (List.mem_of_getElem? (i := 65) rfl))) (ty := (.object "java/lang/String")) (by decide)
      have F_authority_b84 : Fld Z h84 b84 "com/example/whisman/whisman/connector/RequestHead" "authority" "Ljava/lang/String;" .null := D84 (Or.inr (hw _ (List.mem_of_getElem? (i := 67) rfl))) (ty := (.object "java/lang/String")) (by decide)
      have F_contentLength_b84 : Fld Z h84 b84 "com/example/whisman/whisman/connector/RequestHead" "contentLength" "J" (.long (0 : Int64)) := D84 (Or.inr (hw _ (List.mem_of_getElem? (i := 69) rfl))) (ty := .long) (by decide)
      have F_chunked_b84 : Fld Z h84 b84 "com/example/whisman/whisman/connector/RequestHead" "chunked" "Z" (.int (0 : Int32)) := D84 (Or.inr (hw _ (List.mem_of_getElem? (i := 71) rfl))) (ty := .boolean) (by decide)
      have F_persistent_b84 : Fld Z h84 b84 "com/example/whisman/whisman/connector/RequestHead" "persistent" "Z" (.int (0 : Int32)) := D84 (Or.inr (hw _ (List.mem_of_getElem? (i := 73) rfl))) (ty := .boolean) (by decide)
      have F_expectsContinue_b84 : Fld Z h84 b84 "com/example/whisman/whisman/connector/RequestHead" "expectsContinue" "Z" (.int (0 : Int32)) := D84 (Or.inr (hw _ (List.mem_of_getElem? (i := 75) rfl))) (ty := .boolean) (by decide)
      refine step (T84.setTop (mkF m 112 #[.val (.long p0), .second, .val (.int p1), .val (.int (0 : Int32)), .val (.int z23_2), .val (.int z36_5), .val (.ref aV1), .val (.ref b4_61), .val z83_66, .val z98_69, .val (.ref b72), .unset, .unset] [(.ref b84)])) (fun t k => st84 t k) ?_
      refine step (T84.setTop (mkF m 113 #[.val (.long p0), .second, .val (.int p1), .val (.int (0 : Int32)), .val (.int z23_2), .val (.int z36_5), .val (.ref aV1), .val (.ref b4_61), .val z83_66, .val z98_69, .val (.ref b72), .unset, .unset] [(.ref b84), (.ref b84)])) (fun t k => XS.dup X84.here hx rfl (hb hby at_112) rfl rfl k) ?_
      refine step (T84.setTop (mkF m 115 #[.val (.long p0), .second, .val (.int p1), .val (.int (0 : Int32)), .val (.int z23_2), .val (.int z36_5), .val (.ref aV1), .val (.ref b4_61), .val z83_66, .val z98_69, .val (.ref b72), .unset, .unset] [(.ref b4_61), (.ref b84), (.ref b84)])) (fun t k => XS.aload X84.here hx rfl (hb hby at_113) rfl rfl k) ?_
      refine step (T84.setTop (mkF m 117 #[.val (.long p0), .second, .val (.int p1), .val (.int (0 : Int32)), .val (.int z23_2), .val (.int z36_5), .val (.ref aV1), .val (.ref b4_61), .val z83_66, .val z98_69, .val (.ref b72), .unset, .unset] [(.ref b4_61), (.ref b4_61), (.ref b84), (.ref b84)])) (fun t k => XS.aload X84.here hx rfl (hb hby at_115) rfl rfl k) ?_
      refine step (T84.setTop (mkF m 119 #[.val (.long p0), .second, .val (.int p1), .val (.int (0 : Int32)), .val (.int z23_2), .val (.int z36_5), .val (.ref aV1), .val (.ref b4_61), .val z83_66, .val z98_69, .val (.ref b72), .unset, .unset] [(.ref b4_61), (.ref b4_61), (.ref b4_61), (.ref b84), (.ref b84)])) (fun t k => XS.aload X84.here hx rfl (hb hby at_117) rfl rfl k) ?_
      refine step (T84.setTop (mkF m 121 #[.val (.long p0), .second, .val (.int p1), .val (.int (0 : Int32)), .val (.int z23_2), .val (.int z36_5), .val (.ref aV1), .val (.ref b4_61), .val z83_66, .val z98_69, .val (.ref b72), .unset, .unset] [(.ref aV1), (.ref b4_61), (.ref b4_61), (.ref b4_61), (.ref b84), (.ref b84)])) (fun t k => XS.aload X84.here hx rfl (hb hby at_119) rfl rfl k) ?_
      refine step (T84.setTop (mkF m 123 #[.val (.long p0), .second, .val (.int p1), .val (.int (0 : Int32)), .val (.int z23_2), .val (.int z36_5), .val (.ref aV1), .val (.ref b4_61), .val z83_66, .val z98_69, .val (.ref b72), .unset, .unset] [(.ref b72), (.ref aV1), (.ref b4_61), (.ref b4_61), (.ref b4_61), (.ref b84), (.ref b84)])) (fun t k => XS.aload X84.here hx rfl (hb hby at_121) rfl rfl k) ?_
      refine step (T84.setTop (mkF m 125 #[.val (.long p0), .second, .val (.int p1), .val (.int (0 : Int32)), .val (.int z23_2), .val (.int z36_5), .val (.ref aV1), .val (.ref b4_61), .val z83_66, .val z98_69, .val (.ref b72), .unset, .unset] [(.ref b4_61), (.ref b72), (.ref aV1), (.ref b4_61), (.ref b4_61), (.ref b4_61), (.ref b84), (.ref b84)])) (fun t k => XS.aload X84.here hx rfl (hb hby at_123) rfl rfl k) ?_
      refine step (T84.setTop (mkF m 127 #[.val (.long p0), .second, .val (.int p1), .val (.int (0 : Int32)), .val (.int z23_2), .val (.int z36_5), .val (.ref aV1), .val (.ref b4_61), .val z83_66, .val z98_69, .val (.ref b72), .unset, .unset] [z83_66, (.ref b4_61), (.ref b72), (.ref aV1), (.ref b4_61), (.ref b4_61), (.ref b4_61), (.ref b84), (.ref b84)])) (fun t k => XS.aload X84.here hx rfl (hb hby at_125) rfl rz83_66 k) ?_
      refine step (T84.setTop (mkF m 129 #[.val (.long p0), .second, .val (.int p1), .val (.int (0 : Int32)), .val (.int z23_2), .val (.int z36_5), .val (.ref aV1), .val (.ref b4_61), .val z83_66, .val z98_69, .val (.ref b72), .unset, .unset] [z98_69, z83_66, (.ref b4_61), (.ref b72), (.ref aV1), (.ref b4_61), (.ref b4_61), (.ref b4_61), (.ref b84), (.ref b84)])) (fun t k => XS.aload X84.here hx rfl (hb hby at_127) rfl rz98_69 k) ?_
      refine step (T84.setTop (mkF m 130 #[.val (.long p0), .second, .val (.int p1), .val (.int (0 : Int32)), .val (.int z23_2), .val (.int z36_5), .val (.ref aV1), .val (.ref b4_61), .val z83_66, .val z98_69, .val (.ref b72), .unset, .unset] [(.long p0), z98_69, z83_66, (.ref b4_61), (.ref b72), (.ref aV1), (.ref b4_61), (.ref b4_61), (.ref b4_61), (.ref b84), (.ref b84)])) (fun t k => XS.lloadN X84.here hx rfl (hb hby at_129) rfl k) ?_
      refine step (T84.setTop (mkF m 131 #[.val (.long p0), .second, .val (.int p1), .val (.int (0 : Int32)), .val (.int z23_2), .val (.int z36_5), .val (.ref aV1), .val (.ref b4_61), .val z83_66, .val z98_69, .val (.ref b72), .unset, .unset] [(.int (0 : Int32)), (.long p0), z98_69, z83_66, (.ref b4_61), (.ref b72), (.ref aV1), (.ref b4_61), (.ref b4_61), (.ref b4_61), (.ref b84), (.ref b84)])) (fun t k => XS.iloadN X84.here hx rfl (hb hby at_130) rfl k) ?_
      refine step (T84.setTop (mkF m 133 #[.val (.long p0), .second, .val (.int p1), .val (.int (0 : Int32)), .val (.int z23_2), .val (.int z36_5), .val (.ref aV1), .val (.ref b4_61), .val z83_66, .val z98_69, .val (.ref b72), .unset, .unset] [(.int z23_2), (.int (0 : Int32)), (.long p0), z98_69, z83_66, (.ref b4_61), (.ref b72), (.ref aV1), (.ref b4_61), (.ref b4_61), (.ref b4_61), (.ref b84), (.ref b84)])) (fun t k => XS.iload X84.here hx rfl (hb hby at_131) rfl k) ?_
      refine step (T84.setTop (mkF m 135 #[.val (.long p0), .second, .val (.int p1), .val (.int (0 : Int32)), .val (.int z23_2), .val (.int z36_5), .val (.ref aV1), .val (.ref b4_61), .val z83_66, .val z98_69, .val (.ref b72), .unset, .unset] [(.int z36_5), (.int z23_2), (.int (0 : Int32)), (.long p0), z98_69, z83_66, (.ref b4_61), (.ref b72), (.ref aV1), (.ref b4_61), (.ref b4_61), (.ref b4_61), (.ref b84), (.ref b84)])) (fun t k => XS.iload X84.here hx rfl (hb hby at_133) rfl k) ?_
      have f90 := (f83.ext E84)
      have f91 := (f87.ext E84)
      have f92 := (f86.ext E84)
      have f93 := (f89.ext E84)
      have f94 := (q0_76.ext E84)
      obtain ⟨_, _, ⟨T95, L95, k95, n95⟩, -, X95, ⟨Lc95, hQ95, l95, y95, z95⟩, st95⟩ := X84.specialBack hx (y := (⟨"com/example/whisman/whisman/connector/RequestHead", "<init>", "(Ljava/lang/String;Ljava/lang/String;Ljava/lang/String;Lcom/example/whisman/whisman/connector/HttpVersion;Lcom/example/whisman/whisman/connector/HttpFields;Ljava/lang/String;Ljava/lang/String;Ljava/lang/String;JZZZ)V"⟩ : MethodName)) rfl hown (mvT hZ (hw _ (List.mem_of_getElem? (i := 43) rfl))) (mvT hZ (hw _ (List.mem_of_getElem? (i := 44) rfl))) (mvT hZ (hw _ (List.mem_of_getElem? (i := 45) rfl))) (by decide) (backOf (W := 1) (rm7_6 l Z a0 hw [] b84 b4_61 aV1 b72 z83_66 z98_69 p0 z23_2 z36_5 aNONE h84 n0 (Nat.le_trans Z0 K84.1) rz83_66 rz98_69 f90 A84 F_authority_b84 F_chunked_b84 F_contentLength_b84 F_expectsContinue_b84 F_fields_b84 F_method_b84 F_path_b84 F_persistent_b84 F_query_b84 F_target_b84 F_version_b84 F_versionText_b84 f91 f92 f93 f94 gn_b84 (Ne.symm ne_b4_61_b84) (Ne.symm ne_aV1_b84) (Ne.symm ne_b72_b84) gn_b4_61 (Ne.symm ne_aV1_b4_61) ne_b4_61_b72 ne_aV1_b72 gn_b72) hZ (hw _ (List.mem_of_getElem? (i := 45) rfl)) (hw _ (List.mem_of_getElem? (i := 42) rfl)) (by decide) (by decide)) (g := (mkF m 135 #[.val (.long p0), .second, .val (.int p1), .val (.int (0 : Int32)), .val (.int z23_2), .val (.int z36_5), .val (.ref aV1), .val (.ref b4_61), .val z83_66, .val z98_69, .val (.ref b72), .unset, .unset] [(.int z36_5), (.int z23_2), (.int (0 : Int32)), (.long p0), z98_69, z83_66, (.ref b4_61), (.ref b72), (.ref aV1), (.ref b4_61), (.ref b4_61), (.ref b4_61), (.ref b84), (.ref b84)])) rfl (by rw [hml]; rfl) (Steps.refl _) (a := b84) (argsL := [(.ref b4_61), (.ref b4_61), (.ref b4_61), (.ref aV1), (.ref b72), (.ref b4_61), z83_66, z98_69, (.long p0), (.int (0 : Int32)), (.int z23_2), (.int z36_5)]) (rest := [(.ref b84)]) (lenOf pd_2 rfl) rfl (by show 2 * 0 + _ ≤ _; exact Nat.le_of_eq rfl) (hb hby at_135) (fun _ _ => ⟨rfl, e84, (by decide : 4 + 0 ≤ _), (by decide : 19 + 0 ≤ _)⟩)
      dsimp only [Pt.U, Pt.locs, Pt.cells, Pt.slots] at X95 l95 y95 z95 st95 hQ95
      subst l95 y95 z95
      obtain ⟨h95, e95⟩ : ∃ z, T95.heap = z := ⟨_, rfl⟩
      rw [e95] at hQ95
      obtain ⟨rfl, N95q, K95q, q0_95, q1_95, q2_95, q3_95, q4_95, q5_95, q6_95, q7_95, q8_95, q9_95, q10_95, q11_95⟩ := hQ95
      have N95 := Fr.app N76 N95q
      have f96 := (f80.ext E84)
      have f97 := (f81.ext E84)
      have f98 := (f82.ext E84)
      have K95 : Keep h0 h95 [] := K84.trans K95q (allS (Or.inr sz_b84) all0)
      have f99 := own_staK f96 K95q (allS (own_exaP A84) all0)
      have f100 := own_staK f97 K95q (allS (own_exaP A84) all0)
      have f101 := own_staK f98 K95q (allS (own_exaP A84) all0)
      have f102 := own_staK f90 K95q (allS (own_exaP A84) all0)
      refine step (T95.setTop (mkF m 138 #[.val (.long p0), .second, .val (.int p1), .val (.int (0 : Int32)), .val (.int z23_2), .val (.int z36_5), .val (.ref aV1), .val (.ref b4_61), .val z83_66, .val z98_69, .val (.ref b72), .unset, .unset] [(.ref b84)])) (fun t k => st95.trans k) ?_
      refine step (T95.setTop (mkF m 140 #[.val (.long p0), .second, .val (.int p1), .val (.int (0 : Int32)), .val (.int z23_2), .val (.int z36_5), .val (.ref aV1), .val (.ref b4_61), .val z83_66, .val z98_69, .val (.ref b72), .val (.ref b84), .unset] [])) (fun t k => XS.astore X95.here hx rfl (hb hby at_138) rfl rfl (l' := #[.val (.long p0), .second, .val (.int p1), .val (.int (0 : Int32)), .val (.int z23_2), .val (.int z36_5), .val (.ref aV1), .val (.ref b4_61), .val z83_66, .val z98_69, .val (.ref b72), .val (.ref b84), .unset]) rfl k) ?_
      refine step (T95.setTop (mkF m 141 #[.val (.long p0), .second, .val (.int p1), .val (.int (0 : Int32)), .val (.int z23_2), .val (.int z36_5), .val (.ref aV1), .val (.ref b4_61), .val z83_66, .val z98_69, .val (.ref b72), .val (.ref b84), .unset] [(.int (0 : Int32))])) (fun t k => XS.iloadN X95.here hx rfl (hb hby at_140) rfl k) ?_
      refine step (T95.setTop (mkF m 150 #[.val (.long p0), .second, .val (.int p1), .val (.int (0 : Int32)), .val (.int z23_2), .val (.int z36_5), .val (.ref aV1), .val (.ref b4_61), .val z83_66, .val z98_69, .val (.ref b72), .val (.ref b84), .unset] [])) (fun t k => XS.ifYes X95.here hx rfl (pc0 := 141) (pc' := 150) rfl (hb hby at_141) rfl ((if0 _ _).trans (teq (by decide : (0 : Int32) = (0 : Int32))).1) (by decide) (by decide) k) ?_
      refine step (T95.setTop (mkF m 151 #[.val (.long p0), .second, .val (.int p1), .val (.int (0 : Int32)), .val (.int z23_2), .val (.int z36_5), .val (.ref aV1), .val (.ref b4_61), .val z83_66, .val z98_69, .val (.ref b72), .val (.ref b84), .unset] [(.long p0)])) (fun t k => XS.lloadN X95.here hx rfl (hb hby at_150) rfl k) ?_
      refine step (T95.setTop (mkF m 152 #[.val (.long p0), .second, .val (.int p1), .val (.int (0 : Int32)), .val (.int z23_2), .val (.int z36_5), .val (.ref aV1), .val (.ref b4_61), .val z83_66, .val z98_69, .val (.ref b72), .val (.ref b84), .unset] [(.long (1 : Int64)), (.long p0)])) (fun t k => XS.lconst X95.here hx rfl (hb hby at_151) k) ?_
      refine step (T95.setTop (mkF m 153 #[.val (.long p0), .second, .val (.int p1), .val (.int (0 : Int32)), .val (.int z23_2), .val (.int z36_5), .val (.ref aV1), .val (.ref b4_61), .val z83_66, .val z98_69, .val (.ref b72), .val (.ref b84), .unset] [(.int (lcmpW p0 (1 : Int64)))])) (fun t k => XS.lcmp X95.here hx rfl (hb hby at_152) rfl k) ?_
      suffices J165_104 : ∀ (z165_103 : Int32), z165_103 = (if p0 < (1 : Int64) then (0 : Int32) else (1 : Int32)) → G (T95.setTop (mkF m 165 #[.val (.long p0), .second, .val (.int p1), .val (.int (0 : Int32)), .val (.int z23_2), .val (.int z36_5), .val (.ref aV1), .val (.ref b4_61), .val z83_66, .val z98_69, .val (.ref b72), .val (.ref b84), .val (.int z165_103)] [])) by
        by_cases hc153_105 : p0 < (1 : Int64)
        · -- 153 True
          refine step (T95.setTop (mkF m 162 #[.val (.long p0), .second, .val (.int p1), .val (.int (0 : Int32)), .val (.int z23_2), .val (.int z36_5), .val (.ref aV1), .val (.ref b4_61), .val z83_66, .val z98_69, .val (.ref b72), .val (.ref b84), .unset] [])) (fun t k => XS.ifYes X95.here hx rfl (pc0 := 153) (pc' := 162) rfl (hb hby at_153) rfl ((if0 _ _).trans (tlt ((lw_lt _ _).mpr hc153_105)).1) (by decide) (by decide) k) ?_
          refine step (T95.setTop (mkF m 163 #[.val (.long p0), .second, .val (.int p1), .val (.int (0 : Int32)), .val (.int z23_2), .val (.int z36_5), .val (.ref aV1), .val (.ref b4_61), .val z83_66, .val z98_69, .val (.ref b72), .val (.ref b84), .unset] [(.int (0 : Int32))])) (fun t k => XS.iconst X95.here hx rfl (hb hby at_162) k) ?_
          refine step (T95.setTop (mkF m 165 #[.val (.long p0), .second, .val (.int p1), .val (.int (0 : Int32)), .val (.int z23_2), .val (.int z36_5), .val (.ref aV1), .val (.ref b4_61), .val z83_66, .val z98_69, .val (.ref b72), .val (.ref b84), .val (.int (0 : Int32))] [])) (fun t k => XS.istore X95.here hx rfl (hb hby at_163) rfl (l' := #[.val (.long p0), .second, .val (.int p1), .val (.int (0 : Int32)), .val (.int z23_2), .val (.int z36_5), .val (.ref aV1), .val (.ref b4_61), .val z83_66, .val z98_69, .val (.ref b72), .val (.ref b84), .val (.int (0 : Int32))]) rfl k) ?_
          exact J165_104 _ (by simp only [if_pos hc153_105, if_true, if_false] <;> rfl)
        · -- 153 False
          refine step (T95.setTop (mkF m 156 #[.val (.long p0), .second, .val (.int p1), .val (.int (0 : Int32)), .val (.int z23_2), .val (.int z36_5), .val (.ref aV1), .val (.ref b4_61), .val z83_66, .val z98_69, .val (.ref b72), .val (.ref b84), .unset] [])) (fun t k => XS.ifNo X95.here hx rfl (hb hby at_153) rfl ((if0 _ _).trans (flt (fun q => hc153_105 ((lw_lt _ _).mp q))).1) k) ?_
          refine step (T95.setTop (mkF m 157 #[.val (.long p0), .second, .val (.int p1), .val (.int (0 : Int32)), .val (.int z23_2), .val (.int z36_5), .val (.ref aV1), .val (.ref b4_61), .val z83_66, .val z98_69, .val (.ref b72), .val (.ref b84), .unset] [(.int (1 : Int32))])) (fun t k => XS.iconst X95.here hx rfl (hb hby at_156) k) ?_
          refine step (T95.setTop (mkF m 159 #[.val (.long p0), .second, .val (.int p1), .val (.int (0 : Int32)), .val (.int z23_2), .val (.int z36_5), .val (.ref aV1), .val (.ref b4_61), .val z83_66, .val z98_69, .val (.ref b72), .val (.ref b84), .val (.int (1 : Int32))] [])) (fun t k => XS.istore X95.here hx rfl (hb hby at_157) rfl (l' := #[.val (.long p0), .second, .val (.int p1), .val (.int (0 : Int32)), .val (.int z23_2), .val (.int z36_5), .val (.ref aV1), .val (.ref b4_61), .val z83_66, .val z98_69, .val (.ref b72), .val (.ref b84), .val (.int (1 : Int32))]) rfl k) ?_
          refine step (T95.setTop (mkF m 165 #[.val (.long p0), .second, .val (.int p1), .val (.int (0 : Int32)), .val (.int z23_2), .val (.int z36_5), .val (.ref aV1), .val (.ref b4_61), .val z83_66, .val z98_69, .val (.ref b72), .val (.ref b84), .val (.int (1 : Int32))] [])) (fun t k => XS.goto X95.here hx rfl (pc0 := 159) (pc' := 165) rfl (hb hby at_159) (by decide) (by decide) k) ?_
          exact J165_104 _ (by simp only [if_neg hc153_105, if_true, if_false] <;> rfl)
      intro z165_103 hz165_103
      refine step (T95.setTop (mkF m 167 #[.val (.long p0), .second, .val (.int p1), .val (.int (0 : Int32)), .val (.int z23_2), .val (.int z36_5), .val (.ref aV1), .val (.ref b4_61), .val z83_66, .val z98_69, .val (.ref b72), .val (.ref b84), .val (.int z165_103)] [(.ref b84)])) (fun t k => XS.aload X95.here hx rfl (hb hby at_165) rfl rfl k) ?_
      have f106 := (A84.keep K95q)
      obtain ⟨cq107, kq107, q107a, q107b, q107c⟩ := isOf hZ e95 f106
      obtain ⟨_, _, ⟨T107, L107, k107, n107⟩, -, X107, ⟨Lc107, hQ107, l107, y107, z107⟩, st107⟩ := X95.virtualBack hx (y := (⟨"com/example/whisman/whisman/connector/RequestHead", "hasBody", "()Z"⟩ : MethodName)) (z := (⟨"com/example/whisman/whisman/connector/RequestHead", "hasBody", "()Z"⟩ : MethodName)) hown (mvT hZ (hw _ (List.mem_of_getElem? (i := 76) rfl))) (mvT hZ (hw _ (List.mem_of_getElem? (i := 77) rfl))) (notFace_of_selects (args := #[]) (mvT hZ (hw _ (List.mem_of_getElem? (i := 79) rfl)))) (mvT hZ (hw _ (List.mem_of_getElem? (i := 79) rfl))) (mvT hZ (hw _ (List.mem_of_getElem? (i := 78) rfl))) (by decide) (backOf (W := 0) (rm9_8 l Z a0 hw [] b84 p0 h95 n0 (Nat.le_trans Z0 K95.1) f106 q1_95 q2_95 gn_b84) hZ (hw _ (List.mem_of_getElem? (i := 80) rfl)) (hw _ (List.mem_of_getElem? (i := 42) rfl)) (by decide) (by decide)) q107a q107c (g := (mkF m 167 #[.val (.long p0), .second, .val (.int p1), .val (.int (0 : Int32)), .val (.int z23_2), .val (.int z36_5), .val (.ref aV1), .val (.ref b4_61), .val z83_66, .val z98_69, .val (.ref b72), .val (.ref b84), .val (.int z165_103)] [(.ref b84)])) rfl (by rw [hml]; rfl) (Steps.refl _) (argsL := []) (rest := []) (lenOf pd_3 rfl) rfl (by show 2 * 0 + _ ≤ _; exact Nat.le_of_eq rfl) (hb hby at_167) (fun _ _ => ⟨rfl, e95, (by decide : 4 + 0 ≤ _), (by decide : 19 + 0 ≤ _)⟩)
      dsimp only [Pt.U, Pt.locs, Pt.cells, Pt.slots] at X107 l107 y107 z107 st107 hQ107
      subst l107 y107 z107
      obtain ⟨z21_3_107, rfl, N107q, e107q, hz21_3_107⟩ := hQ107
      have N107 := Fr.app N95 N107q
      refine step (T107.setTop (mkF m 170 #[.val (.long p0), .second, .val (.int p1), .val (.int (0 : Int32)), .val (.int z23_2), .val (.int z36_5), .val (.ref aV1), .val (.ref b4_61), .val z83_66, .val z98_69, .val (.ref b72), .val (.ref b84), .val (.int z165_103)] [(.int z21_3_107)])) (fun t k => st107.trans k) ?_
      refine step (T107.setTop (mkF m 172 #[.val (.long p0), .second, .val (.int p1), .val (.int (0 : Int32)), .val (.int z23_2), .val (.int z36_5), .val (.ref aV1), .val (.ref b4_61), .val z83_66, .val z98_69, .val (.ref b72), .val (.ref b84), .val (.int z165_103)] [(.int z165_103), (.int z21_3_107)])) (fun t k => XS.iload X107.here hx rfl (hb hby at_170) rfl k) ?_
      suffices J180_109 : ∀ (z180_108 : Int32), z180_108 = (if z21_3_107 = z165_103 then (1 : Int32) else (0 : Int32)) → G (T107.setTop (mkF m 180 #[.val (.long p0), .second, .val (.int p1), .val (.int (0 : Int32)), .val (.int z23_2), .val (.int z36_5), .val (.ref aV1), .val (.ref b4_61), .val z83_66, .val z98_69, .val (.ref b72), .val (.ref b84), .val (.int z165_103)] [(.int z180_108)])) by
        by_cases hc172_110 : z21_3_107 = z165_103
        · -- 172 True
          refine step (T107.setTop (mkF m 175 #[.val (.long p0), .second, .val (.int p1), .val (.int (0 : Int32)), .val (.int z23_2), .val (.int z36_5), .val (.ref aV1), .val (.ref b4_61), .val z83_66, .val z98_69, .val (.ref b72), .val (.ref b84), .val (.int z165_103)] [])) (fun t k => XS.icmpNo X107.here hx rfl (hb hby at_172) rfl (teq hc172_110).2 k) ?_
          refine step (T107.setTop (mkF m 176 #[.val (.long p0), .second, .val (.int p1), .val (.int (0 : Int32)), .val (.int z23_2), .val (.int z36_5), .val (.ref aV1), .val (.ref b4_61), .val z83_66, .val z98_69, .val (.ref b72), .val (.ref b84), .val (.int z165_103)] [(.int (1 : Int32))])) (fun t k => XS.iconst X107.here hx rfl (hb hby at_175) k) ?_
          refine step (T107.setTop (mkF m 180 #[.val (.long p0), .second, .val (.int p1), .val (.int (0 : Int32)), .val (.int z23_2), .val (.int z36_5), .val (.ref aV1), .val (.ref b4_61), .val z83_66, .val z98_69, .val (.ref b72), .val (.ref b84), .val (.int z165_103)] [(.int (1 : Int32))])) (fun t k => XS.goto X107.here hx rfl (pc0 := 176) (pc' := 180) rfl (hb hby at_176) (by decide) (by decide) k) ?_
          exact J180_109 _ (by simp only [if_pos hc172_110, if_true, if_false] <;> rfl)
        · -- 172 False
          refine step (T107.setTop (mkF m 179 #[.val (.long p0), .second, .val (.int p1), .val (.int (0 : Int32)), .val (.int z23_2), .val (.int z36_5), .val (.ref aV1), .val (.ref b4_61), .val z83_66, .val z98_69, .val (.ref b72), .val (.ref b84), .val (.int z165_103)] [])) (fun t k => XS.icmpYes X107.here hx rfl (pc0 := 172) (pc' := 179) rfl (hb hby at_172) rfl (feq hc172_110).2 (by decide) (by decide) k) ?_
          refine step (T107.setTop (mkF m 180 #[.val (.long p0), .second, .val (.int p1), .val (.int (0 : Int32)), .val (.int z23_2), .val (.int z36_5), .val (.ref aV1), .val (.ref b4_61), .val z83_66, .val z98_69, .val (.ref b72), .val (.ref b84), .val (.int z165_103)] [(.int (0 : Int32))])) (fun t k => XS.iconst X107.here hx rfl (hb hby at_179) k) ?_
          exact J180_109 _ (by simp only [if_neg hc172_110, if_true, if_false] <;> rfl)
      intro z180_108 hz180_108
      refine fin (v := some (.int (nar .boolean z180_108))) X107 (fun h => by cases h) ?_ (by decide) (by decide) (fun fs hr => retN X107 hx (t := .boolean) hret (by simp) (hb hby at_180) hr)
      show Q0 Z p0 p1 cs aV0 aV1 aNONE h0 n0 (some (.int (nar .boolean z180_108))) T107.heap _
      rw [e107q]
      exact ⟨own_fin (own_plain9 p0 p1 cs aV0 aV1 aNONE z165_103 z21_3_107 z180_108 hz165_103 hz21_3_107 hz180_108), N107⟩
  · -- pc 3: (p1 &&& (1 : Int32)) = (0 : Int32) False
    refine step (s₁.setTop (mkF m 6 #[.val (.long p0), .second, .val (.int p1), .unset, .unset, .unset, .unset, .unset, .unset, .unset, .unset, .unset, .unset] [])) (fun t k => XS.ifNo X0.here hx rfl (hb hby at_3) rfl ((if0 _ _).trans (feq hc3_1).1) k) ?_
    refine step (s₁.setTop (mkF m 7 #[.val (.long p0), .second, .val (.int p1), .unset, .unset, .unset, .unset, .unset, .unset, .unset, .unset, .unset, .unset] [(.int (1 : Int32))])) (fun t k => XS.iconst X0.here hx rfl (hb hby at_6) k) ?_
    refine step (s₁.setTop (mkF m 11 #[.val (.long p0), .second, .val (.int p1), .unset, .unset, .unset, .unset, .unset, .unset, .unset, .unset, .unset, .unset] [(.int (1 : Int32))])) (fun t k => XS.goto X0.here hx rfl (pc0 := 7) (pc' := 11) rfl (hb hby at_7) (by decide) (by decide) k) ?_
    refine step (s₁.setTop (mkF m 12 #[.val (.long p0), .second, .val (.int p1), .val (.int (1 : Int32)), .unset, .unset, .unset, .unset, .unset, .unset, .unset, .unset, .unset] [])) (fun t k => XS.istoreN X0.here hx rfl (hb hby at_11) rfl (l' := #[.val (.long p0), .second, .val (.int p1), .val (.int (1 : Int32)), .unset, .unset, .unset, .unset, .unset, .unset, .unset, .unset, .unset]) rfl k) ?_
    refine step (s₁.setTop (mkF m 13 #[.val (.long p0), .second, .val (.int p1), .val (.int (1 : Int32)), .unset, .unset, .unset, .unset, .unset, .unset, .unset, .unset, .unset] [(.int p1)])) (fun t k => XS.iloadN X0.here hx rfl (hb hby at_12) rfl k) ?_
    refine step (s₁.setTop (mkF m 14 #[.val (.long p0), .second, .val (.int p1), .val (.int (1 : Int32)), .unset, .unset, .unset, .unset, .unset, .unset, .unset, .unset, .unset] [(.int (2 : Int32)), (.int p1)])) (fun t k => XS.iconst X0.here hx rfl (hb hby at_13) k) ?_
    refine step (s₁.setTop (mkF m 15 #[.val (.long p0), .second, .val (.int p1), .val (.int (1 : Int32)), .unset, .unset, .unset, .unset, .unset, .unset, .unset, .unset, .unset] [(.int (p1 &&& (2 : Int32)))])) (fun t k => XS.iand X0.here hx rfl (hb hby at_14) rfl k) ?_
    suffices J23_112 : ∀ (z23_111 : Int32), z23_111 = (if (p1 &&& (2 : Int32)) = (0 : Int32) then (0 : Int32) else (1 : Int32)) → G (s₁.setTop (mkF m 23 #[.val (.long p0), .second, .val (.int p1), .val (.int (1 : Int32)), .unset, .unset, .unset, .unset, .unset, .unset, .unset, .unset, .unset] [(.int z23_111)])) by
      by_cases hc15_113 : (p1 &&& (2 : Int32)) = (0 : Int32)
      · -- 15 True
        refine step (s₁.setTop (mkF m 22 #[.val (.long p0), .second, .val (.int p1), .val (.int (1 : Int32)), .unset, .unset, .unset, .unset, .unset, .unset, .unset, .unset, .unset] [])) (fun t k => XS.ifYes X0.here hx rfl (pc0 := 15) (pc' := 22) rfl (hb hby at_15) rfl ((if0 _ _).trans (teq hc15_113).1) (by decide) (by decide) k) ?_
        refine step (s₁.setTop (mkF m 23 #[.val (.long p0), .second, .val (.int p1), .val (.int (1 : Int32)), .unset, .unset, .unset, .unset, .unset, .unset, .unset, .unset, .unset] [(.int (0 : Int32))])) (fun t k => XS.iconst X0.here hx rfl (hb hby at_22) k) ?_
        exact J23_112 _ (by simp only [if_pos hc15_113, if_true, if_false] <;> rfl)
      · -- 15 False
        refine step (s₁.setTop (mkF m 18 #[.val (.long p0), .second, .val (.int p1), .val (.int (1 : Int32)), .unset, .unset, .unset, .unset, .unset, .unset, .unset, .unset, .unset] [])) (fun t k => XS.ifNo X0.here hx rfl (hb hby at_15) rfl ((if0 _ _).trans (feq hc15_113).1) k) ?_
        refine step (s₁.setTop (mkF m 19 #[.val (.long p0), .second, .val (.int p1), .val (.int (1 : Int32)), .unset, .unset, .unset, .unset, .unset, .unset, .unset, .unset, .unset] [(.int (1 : Int32))])) (fun t k => XS.iconst X0.here hx rfl (hb hby at_18) k) ?_
        refine step (s₁.setTop (mkF m 23 #[.val (.long p0), .second, .val (.int p1), .val (.int (1 : Int32)), .unset, .unset, .unset, .unset, .unset, .unset, .unset, .unset, .unset] [(.int (1 : Int32))])) (fun t k => XS.goto X0.here hx rfl (pc0 := 19) (pc' := 23) rfl (hb hby at_19) (by decide) (by decide) k) ?_
        exact J23_112 _ (by simp only [if_neg hc15_113, if_true, if_false] <;> rfl)
    intro z23_111 hz23_111
    refine step (s₁.setTop (mkF m 25 #[.val (.long p0), .second, .val (.int p1), .val (.int (1 : Int32)), .val (.int z23_111), .unset, .unset, .unset, .unset, .unset, .unset, .unset, .unset] [])) (fun t k => XS.istore X0.here hx rfl (hb hby at_23) rfl (l' := #[.val (.long p0), .second, .val (.int p1), .val (.int (1 : Int32)), .val (.int z23_111), .unset, .unset, .unset, .unset, .unset, .unset, .unset, .unset]) rfl k) ?_
    refine step (s₁.setTop (mkF m 26 #[.val (.long p0), .second, .val (.int p1), .val (.int (1 : Int32)), .val (.int z23_111), .unset, .unset, .unset, .unset, .unset, .unset, .unset, .unset] [(.int p1)])) (fun t k => XS.iloadN X0.here hx rfl (hb hby at_25) rfl k) ?_
    refine step (s₁.setTop (mkF m 27 #[.val (.long p0), .second, .val (.int p1), .val (.int (1 : Int32)), .val (.int z23_111), .unset, .unset, .unset, .unset, .unset, .unset, .unset, .unset] [(.int (4 : Int32)), (.int p1)])) (fun t k => XS.iconst X0.here hx rfl (hb hby at_26) k) ?_
    refine step (s₁.setTop (mkF m 28 #[.val (.long p0), .second, .val (.int p1), .val (.int (1 : Int32)), .val (.int z23_111), .unset, .unset, .unset, .unset, .unset, .unset, .unset, .unset] [(.int (p1 &&& (4 : Int32)))])) (fun t k => XS.iand X0.here hx rfl (hb hby at_27) rfl k) ?_
    suffices J36_115 : ∀ (z36_114 : Int32), z36_114 = (if (p1 &&& (4 : Int32)) = (0 : Int32) then (0 : Int32) else (1 : Int32)) → G (s₁.setTop (mkF m 36 #[.val (.long p0), .second, .val (.int p1), .val (.int (1 : Int32)), .val (.int z23_111), .unset, .unset, .unset, .unset, .unset, .unset, .unset, .unset] [(.int z36_114)])) by
      by_cases hc28_116 : (p1 &&& (4 : Int32)) = (0 : Int32)
      · -- 28 True
        refine step (s₁.setTop (mkF m 35 #[.val (.long p0), .second, .val (.int p1), .val (.int (1 : Int32)), .val (.int z23_111), .unset, .unset, .unset, .unset, .unset, .unset, .unset, .unset] [])) (fun t k => XS.ifYes X0.here hx rfl (pc0 := 28) (pc' := 35) rfl (hb hby at_28) rfl ((if0 _ _).trans (teq hc28_116).1) (by decide) (by decide) k) ?_
        refine step (s₁.setTop (mkF m 36 #[.val (.long p0), .second, .val (.int p1), .val (.int (1 : Int32)), .val (.int z23_111), .unset, .unset, .unset, .unset, .unset, .unset, .unset, .unset] [(.int (0 : Int32))])) (fun t k => XS.iconst X0.here hx rfl (hb hby at_35) k) ?_
        exact J36_115 _ (by simp only [if_pos hc28_116, if_true, if_false] <;> rfl)
      · -- 28 False
        refine step (s₁.setTop (mkF m 31 #[.val (.long p0), .second, .val (.int p1), .val (.int (1 : Int32)), .val (.int z23_111), .unset, .unset, .unset, .unset, .unset, .unset, .unset, .unset] [])) (fun t k => XS.ifNo X0.here hx rfl (hb hby at_28) rfl ((if0 _ _).trans (feq hc28_116).1) k) ?_
        refine step (s₁.setTop (mkF m 32 #[.val (.long p0), .second, .val (.int p1), .val (.int (1 : Int32)), .val (.int z23_111), .unset, .unset, .unset, .unset, .unset, .unset, .unset, .unset] [(.int (1 : Int32))])) (fun t k => XS.iconst X0.here hx rfl (hb hby at_31) k) ?_
        refine step (s₁.setTop (mkF m 36 #[.val (.long p0), .second, .val (.int p1), .val (.int (1 : Int32)), .val (.int z23_111), .unset, .unset, .unset, .unset, .unset, .unset, .unset, .unset] [(.int (1 : Int32))])) (fun t k => XS.goto X0.here hx rfl (pc0 := 32) (pc' := 36) rfl (hb hby at_32) (by decide) (by decide) k) ?_
        exact J36_115 _ (by simp only [if_neg hc28_116, if_true, if_false] <;> rfl)
    intro z36_114 hz36_114
    refine step (s₁.setTop (mkF m 38 #[.val (.long p0), .second, .val (.int p1), .val (.int (1 : Int32)), .val (.int z23_111), .val (.int z36_114), .unset, .unset, .unset, .unset, .unset, .unset, .unset] [])) (fun t k => XS.istore X0.here hx rfl (hb hby at_36) rfl (l' := #[.val (.long p0), .second, .val (.int p1), .val (.int (1 : Int32)), .val (.int z23_111), .val (.int z36_114), .unset, .unset, .unset, .unset, .unset, .unset, .unset]) rfl k) ?_
    refine step (s₁.setTop (mkF m 39 #[.val (.long p0), .second, .val (.int p1), .val (.int (1 : Int32)), .val (.int z23_111), .val (.int z36_114), .unset, .unset, .unset, .unset, .unset, .unset, .unset] [(.int p1)])) (fun t k => XS.iloadN X0.here hx rfl (hb hby at_38) rfl k) ?_
    refine step (s₁.setTop (mkF m 41 #[.val (.long p0), .second, .val (.int p1), .val (.int (1 : Int32)), .val (.int z23_111), .val (.int z36_114), .unset, .unset, .unset, .unset, .unset, .unset, .unset] [(.int (8 : Int32)), (.int p1)])) (fun t k => XS.bipush X0.here hx rfl (hb hby at_39) k) ?_
    refine step (s₁.setTop (mkF m 42 #[.val (.long p0), .second, .val (.int p1), .val (.int (1 : Int32)), .val (.int z23_111), .val (.int z36_114), .unset, .unset, .unset, .unset, .unset, .unset, .unset] [(.int (p1 &&& (8 : Int32)))])) (fun t k => XS.iand X0.here hx rfl (hb hby at_41) rfl k) ?_
    by_cases hc42_117 : (p1 &&& (8 : Int32)) = (0 : Int32)
    · -- pc 42: (p1 &&& (8 : Int32)) = (0 : Int32) True
      refine step (s₁.setTop (mkF m 51 #[.val (.long p0), .second, .val (.int p1), .val (.int (1 : Int32)), .val (.int z23_111), .val (.int z36_114), .unset, .unset, .unset, .unset, .unset, .unset, .unset] [])) (fun t k => XS.ifYes X0.here hx rfl (pc0 := 42) (pc' := 51) rfl (hb hby at_42) rfl ((if0 _ _).trans (teq hc42_117).1) (by decide) (by decide) k) ?_
      obtain ⟨T118, X118, e118, st118⟩ := getS2 X0 hx hZ hown (host := "") (Or.inl (hw _ (List.mem_of_getElem? (i := 0) rfl))) Via.refl e0 S_aV0 (g := (mkF m 51 #[.val (.long p0), .second, .val (.int p1), .val (.int (1 : Int32)), .val (.int z23_111), .val (.int z36_114), .unset, .unset, .unset, .unset, .unset, .unset, .unset] [])) rfl (hb hby at_51)
      refine step (T118.setTop (mkF m 54 #[.val (.long p0), .second, .val (.int p1), .val (.int (1 : Int32)), .val (.int z23_111), .val (.int z36_114), .unset, .unset, .unset, .unset, .unset, .unset, .unset] [(.ref aV0)])) (fun t k => st118 t k) ?_
      refine step (T118.setTop (mkF m 56 #[.val (.long p0), .second, .val (.int p1), .val (.int (1 : Int32)), .val (.int z23_111), .val (.int z36_114), .val (.ref aV0), .unset, .unset, .unset, .unset, .unset, .unset] [])) (fun t k => XS.astore X118.here hx rfl (hb hby at_54) rfl rfl (l' := #[.val (.long p0), .second, .val (.int p1), .val (.int (1 : Int32)), .val (.int z23_111), .val (.int z36_114), .val (.ref aV0), .unset, .unset, .unset, .unset, .unset, .unset]) rfl k) ?_
      refine step (T118.setTop (mkF m 57 #[.val (.long p0), .second, .val (.int p1), .val (.int (1 : Int32)), .val (.int z23_111), .val (.int z36_114), .val (.ref aV0), .unset, .unset, .unset, .unset, .unset, .unset] [(.int p1)])) (fun t k => XS.iloadN X118.here hx rfl (hb hby at_56) rfl k) ?_
      refine step (T118.setTop (mkF m 59 #[.val (.long p0), .second, .val (.int p1), .val (.int (1 : Int32)), .val (.int z23_111), .val (.int z36_114), .val (.ref aV0), .unset, .unset, .unset, .unset, .unset, .unset] [(.int (8 : Int32)), (.int p1)])) (fun t k => XS.bipush X118.here hx rfl (hb hby at_57) k) ?_
      refine step (T118.setTop (mkF m 60 #[.val (.long p0), .second, .val (.int p1), .val (.int (1 : Int32)), .val (.int z23_111), .val (.int z36_114), .val (.ref aV0), .unset, .unset, .unset, .unset, .unset, .unset] [(.int ((p1.toUInt32 >>> ((8 : Int32) &&& 31).toUInt32).toInt32))])) (fun t k => XS.iushr X118.here hx rfl (hb hby at_59) rfl k) ?_
      refine step (T118.setTop (mkF m 63 #[.val (.long p0), .second, .val (.int p1), .val (.int (1 : Int32)), .val (.int z23_111), .val (.int z36_114), .val (.ref aV0), .unset, .unset, .unset, .unset, .unset, .unset] [(.int (255 : Int32)), (.int ((p1.toUInt32 >>> ((8 : Int32) &&& 31).toUInt32).toInt32))])) (fun t k => XS.sipush X118.here hx rfl (hb hby at_60) k) ?_
      refine step (T118.setTop (mkF m 64 #[.val (.long p0), .second, .val (.int p1), .val (.int (1 : Int32)), .val (.int z23_111), .val (.int z36_114), .val (.ref aV0), .unset, .unset, .unset, .unset, .unset, .unset] [(.int (((p1.toUInt32 >>> ((8 : Int32) &&& 31).toUInt32).toInt32) &&& (255 : Int32)))])) (fun t k => XS.iand X118.here hx rfl (hb hby at_63) rfl k) ?_
      refine step (T118.setTop (mkF m 65 #[.val (.long p0), .second, .val (.int p1), .val (.int (1 : Int32)), .val (.int z23_111), .val (.int z36_114), .val (.ref aV0), .unset, .unset, .unset, .unset, .unset, .unset] [(.int ((((p1.toUInt32 >>> ((8 : Int32) &&& 31).toUInt32).toInt32) &&& (255 : Int32)).toUInt32.toUInt16.toUInt32.toInt32))])) (fun t k => XS.i2c X118.here hx rfl (hb hby at_64) rfl k) ?_
      generalize hch : ((((p1.toUInt32 >>> ((8 : Int32) &&& 31).toUInt32).toInt32) &&& (255 : Int32)).toUInt32.toUInt16.toUInt32.toInt32) = ch
      have le_ch := own_255 _ _ hch
      obtain ⟨_, _, ⟨T119, L119, k119, n119⟩, -, X119, ⟨Lc119, hQ119, l119, y119, z119⟩, st119⟩ := Jvm.LawKit.callS X118 hx (y := (⟨"java/lang/String", "valueOf", "(C)Ljava/lang/String;"⟩ : MethodName)) hown (mvT hZ (hw _ (List.mem_of_getElem? (i := 3) rfl))) (mvT hZ (hw _ (List.mem_of_getElem? (i := 4) rfl))) (mvT hZ (hw _ (List.mem_of_getElem? (i := 5) rfl))) (mvT hZ (hw _ (List.mem_of_getElem? (i := 6) rfl))) (by decide) (backOf (W := 0) (rm1_1 l Z a0 hw [] ch cs aNONE h0 n0 Z0 S_cs S_aNONE le_ch c_cs) hZ (hw _ (List.mem_of_getElem? (i := 6) rfl)) (hw _ (List.mem_of_getElem? (i := 5) rfl)) (by decide) (by decide)) (g := (mkF m 65 #[.val (.long p0), .second, .val (.int p1), .val (.int (1 : Int32)), .val (.int z23_111), .val (.int z36_114), .val (.ref aV0), .unset, .unset, .unset, .unset, .unset, .unset] [(.int ch)])) rfl (by rw [hml]; rfl) (argsL := [(.int ch)]) (rest := []) (lenOf pd_0 rfl) rfl (by show 2 * 0 + _ ≤ _; exact Nat.le_of_eq rfl) (hb hby at_65) (fun _ _ => ⟨rfl, e118, (by decide : 0 + 2 ≤ _), (by decide : 0 + 5 ≤ _)⟩)
      dsimp only [Pt.U, Pt.locs, Pt.cells, Pt.slots] at X119 l119 y119 z119 st119 hQ119
      subst l119 y119 z119
      obtain ⟨h119, e119⟩ : ∃ z, T119.heap = z := ⟨_, rfl⟩
      rw [e119] at hQ119
      obtain ⟨b4_119, b1_5_119, k1_5_119, rfl, N119q, K119q, sz_b4_119, sz_b1_5_119, ne_b1_5_b4_119, q0_119, q1_119, q2_119, q3_119⟩ := hQ119
      have N119 := Fr.app N0 N119q
      have lt119_aV0 := E_aV0.lt
      have lt119_aV1 := E_aV1.lt
      have ne_aV0_b4_119 : aV0 ≠ b4_119 := Nat.ne_of_lt (Nat.lt_of_lt_of_le lt119_aV0 sz_b4_119)
      have ne_aV1_b4_119 : aV1 ≠ b4_119 := Nat.ne_of_lt (Nat.lt_of_lt_of_le lt119_aV1 sz_b4_119)
      have gn_b4_119 : n0 ≤ b4_119 := Nat.le_trans Z0 sz_b4_119
      have ne_aV0_b1_5_119 : aV0 ≠ b1_5_119 := Nat.ne_of_lt (Nat.lt_of_lt_of_le lt119_aV0 sz_b1_5_119)
      have ne_aV1_b1_5_119 : aV1 ≠ b1_5_119 := Nat.ne_of_lt (Nat.lt_of_lt_of_le lt119_aV1 sz_b1_5_119)
      have gn_b1_5_119 : n0 ≤ b1_5_119 := Nat.le_trans Z0 sz_b1_5_119
      have K119 : Keep h0 h119 [] := (Keep.refl h0 []).trans K119q all0
      have f120 := own_staK S_cs K119q all0
      have f121 := own_staK S_aV0 K119q all0
      have f122 := own_staK S_aV1 K119q all0
      have f123 := own_staK S_aNONE K119q all0
      refine step (T119.setTop (mkF m 68 #[.val (.long p0), .second, .val (.int p1), .val (.int (1 : Int32)), .val (.int z23_111), .val (.int z36_114), .val (.ref aV0), .unset, .unset, .unset, .unset, .unset, .unset] [(.ref b4_119)])) (fun t k => st119 t k) ?_
      refine step (T119.setTop (mkF m 70 #[.val (.long p0), .second, .val (.int p1), .val (.int (1 : Int32)), .val (.int z23_111), .val (.int z36_114), .val (.ref aV0), .val (.ref b4_119), .unset, .unset, .unset, .unset, .unset] [])) (fun t k => XS.astore X119.here hx rfl (hb hby at_68) rfl rfl (l' := #[.val (.long p0), .second, .val (.int p1), .val (.int (1 : Int32)), .val (.int z23_111), .val (.int z36_114), .val (.ref aV0), .val (.ref b4_119), .unset, .unset, .unset, .unset, .unset]) rfl k) ?_
      refine step (T119.setTop (mkF m 71 #[.val (.long p0), .second, .val (.int p1), .val (.int (1 : Int32)), .val (.int z23_111), .val (.int z36_114), .val (.ref aV0), .val (.ref b4_119), .unset, .unset, .unset, .unset, .unset] [(.int p1)])) (fun t k => XS.iloadN X119.here hx rfl (hb hby at_70) rfl k) ?_
      refine step (T119.setTop (mkF m 73 #[.val (.long p0), .second, .val (.int p1), .val (.int (1 : Int32)), .val (.int z23_111), .val (.int z36_114), .val (.ref aV0), .val (.ref b4_119), .unset, .unset, .unset, .unset, .unset] [(.int (16 : Int32)), (.int p1)])) (fun t k => XS.bipush X119.here hx rfl (hb hby at_71) k) ?_
      refine step (T119.setTop (mkF m 74 #[.val (.long p0), .second, .val (.int p1), .val (.int (1 : Int32)), .val (.int z23_111), .val (.int z36_114), .val (.ref aV0), .val (.ref b4_119), .unset, .unset, .unset, .unset, .unset] [(.int (p1 &&& (16 : Int32)))])) (fun t k => XS.iand X119.here hx rfl (hb hby at_73) rfl k) ?_
      suffices J83_125 : ∀ (z83_124 : Value), z83_124 = (if (p1 &&& (16 : Int32)) = (0 : Int32) then (Value.ref b4_119) else Value.null) → G (T119.setTop (mkF m 83 #[.val (.long p0), .second, .val (.int p1), .val (.int (1 : Int32)), .val (.int z23_111), .val (.int z36_114), .val (.ref aV0), .val (.ref b4_119), .unset, .unset, .unset, .unset, .unset] [z83_124])) by
        by_cases hc74_126 : (p1 &&& (16 : Int32)) = (0 : Int32)
        · -- 74 True
          refine step (T119.setTop (mkF m 81 #[.val (.long p0), .second, .val (.int p1), .val (.int (1 : Int32)), .val (.int z23_111), .val (.int z36_114), .val (.ref aV0), .val (.ref b4_119), .unset, .unset, .unset, .unset, .unset] [])) (fun t k => XS.ifYes X119.here hx rfl (pc0 := 74) (pc' := 81) rfl (hb hby at_74) rfl ((if0 _ _).trans (teq hc74_126).1) (by decide) (by decide) k) ?_
          refine step (T119.setTop (mkF m 83 #[.val (.long p0), .second, .val (.int p1), .val (.int (1 : Int32)), .val (.int z23_111), .val (.int z36_114), .val (.ref aV0), .val (.ref b4_119), .unset, .unset, .unset, .unset, .unset] [(.ref b4_119)])) (fun t k => XS.aload X119.here hx rfl (hb hby at_81) rfl rfl k) ?_
          exact J83_125 _ (by simp only [if_pos hc74_126, if_true, if_false] <;> rfl)
        · -- 74 False
          refine step (T119.setTop (mkF m 77 #[.val (.long p0), .second, .val (.int p1), .val (.int (1 : Int32)), .val (.int z23_111), .val (.int z36_114), .val (.ref aV0), .val (.ref b4_119), .unset, .unset, .unset, .unset, .unset] [])) (fun t k => XS.ifNo X119.here hx rfl (hb hby at_74) rfl ((if0 _ _).trans (feq hc74_126).1) k) ?_
          refine step (T119.setTop (mkF m 78 #[.val (.long p0), .second, .val (.int p1), .val (.int (1 : Int32)), .val (.int z23_111), .val (.int z36_114), .val (.ref aV0), .val (.ref b4_119), .unset, .unset, .unset, .unset, .unset] [.null])) (fun t k => XS.aconstNull X119.here hx rfl (hb hby at_77) k) ?_
          refine step (T119.setTop (mkF m 83 #[.val (.long p0), .second, .val (.int p1), .val (.int (1 : Int32)), .val (.int z23_111), .val (.int z36_114), .val (.ref aV0), .val (.ref b4_119), .unset, .unset, .unset, .unset, .unset] [.null])) (fun t k => XS.goto X119.here hx rfl (pc0 := 78) (pc' := 83) rfl (hb hby at_78) (by decide) (by decide) k) ?_
          exact J83_125 _ (by simp only [if_neg hc74_126, if_true, if_false] <;> rfl)
      intro z83_124 hz83_124
      have rz83_124 : Value.isRef z83_124 = true := by rw [hz83_124]; (repeat' split) <;> rfl
      refine step (T119.setTop (mkF m 85 #[.val (.long p0), .second, .val (.int p1), .val (.int (1 : Int32)), .val (.int z23_111), .val (.int z36_114), .val (.ref aV0), .val (.ref b4_119), .val z83_124, .unset, .unset, .unset, .unset] [])) (fun t k => XS.astore X119.here hx rfl (hb hby at_83) rfl rz83_124 (l' := #[.val (.long p0), .second, .val (.int p1), .val (.int (1 : Int32)), .val (.int z23_111), .val (.int z36_114), .val (.ref aV0), .val (.ref b4_119), .val z83_124, .unset, .unset, .unset, .unset]) (by rcases ref_cases rz83_124 with q | ⟨_, q⟩ <;> rw [q] <;> rfl) k) ?_
      refine step (T119.setTop (mkF m 86 #[.val (.long p0), .second, .val (.int p1), .val (.int (1 : Int32)), .val (.int z23_111), .val (.int z36_114), .val (.ref aV0), .val (.ref b4_119), .val z83_124, .unset, .unset, .unset, .unset] [(.int p1)])) (fun t k => XS.iloadN X119.here hx rfl (hb hby at_85) rfl k) ?_
      refine step (T119.setTop (mkF m 88 #[.val (.long p0), .second, .val (.int p1), .val (.int (1 : Int32)), .val (.int z23_111), .val (.int z36_114), .val (.ref aV0), .val (.ref b4_119), .val z83_124, .unset, .unset, .unset, .unset] [(.int (32 : Int32)), (.int p1)])) (fun t k => XS.bipush X119.here hx rfl (hb hby at_86) k) ?_
      refine step (T119.setTop (mkF m 89 #[.val (.long p0), .second, .val (.int p1), .val (.int (1 : Int32)), .val (.int z23_111), .val (.int z36_114), .val (.ref aV0), .val (.ref b4_119), .val z83_124, .unset, .unset, .unset, .unset] [(.int (p1 &&& (32 : Int32)))])) (fun t k => XS.iand X119.here hx rfl (hb hby at_88) rfl k) ?_
      suffices J98_128 : ∀ (z98_127 : Value), z98_127 = (if (p1 &&& (32 : Int32)) = (0 : Int32) then (Value.ref b4_119) else Value.null) → G (T119.setTop (mkF m 98 #[.val (.long p0), .second, .val (.int p1), .val (.int (1 : Int32)), .val (.int z23_111), .val (.int z36_114), .val (.ref aV0), .val (.ref b4_119), .val z83_124, .unset, .unset, .unset, .unset] [z98_127])) by
        by_cases hc89_129 : (p1 &&& (32 : Int32)) = (0 : Int32)
        · -- 89 True
          refine step (T119.setTop (mkF m 96 #[.val (.long p0), .second, .val (.int p1), .val (.int (1 : Int32)), .val (.int z23_111), .val (.int z36_114), .val (.ref aV0), .val (.ref b4_119), .val z83_124, .unset, .unset, .unset, .unset] [])) (fun t k => XS.ifYes X119.here hx rfl (pc0 := 89) (pc' := 96) rfl (hb hby at_89) rfl ((if0 _ _).trans (teq hc89_129).1) (by decide) (by decide) k) ?_
          refine step (T119.setTop (mkF m 98 #[.val (.long p0), .second, .val (.int p1), .val (.int (1 : Int32)), .val (.int z23_111), .val (.int z36_114), .val (.ref aV0), .val (.ref b4_119), .val z83_124, .unset, .unset, .unset, .unset] [(.ref b4_119)])) (fun t k => XS.aload X119.here hx rfl (hb hby at_96) rfl rfl k) ?_
          exact J98_128 _ (by simp only [if_pos hc89_129, if_true, if_false] <;> rfl)
        · -- 89 False
          refine step (T119.setTop (mkF m 92 #[.val (.long p0), .second, .val (.int p1), .val (.int (1 : Int32)), .val (.int z23_111), .val (.int z36_114), .val (.ref aV0), .val (.ref b4_119), .val z83_124, .unset, .unset, .unset, .unset] [])) (fun t k => XS.ifNo X119.here hx rfl (hb hby at_89) rfl ((if0 _ _).trans (feq hc89_129).1) k) ?_
          refine step (T119.setTop (mkF m 93 #[.val (.long p0), .second, .val (.int p1), .val (.int (1 : Int32)), .val (.int z23_111), .val (.int z36_114), .val (.ref aV0), .val (.ref b4_119), .val z83_124, .unset, .unset, .unset, .unset] [.null])) (fun t k => XS.aconstNull X119.here hx rfl (hb hby at_92) k) ?_
          refine step (T119.setTop (mkF m 98 #[.val (.long p0), .second, .val (.int p1), .val (.int (1 : Int32)), .val (.int z23_111), .val (.int z36_114), .val (.ref aV0), .val (.ref b4_119), .val z83_124, .unset, .unset, .unset, .unset] [.null])) (fun t k => XS.goto X119.here hx rfl (pc0 := 93) (pc' := 98) rfl (hb hby at_93) (by decide) (by decide) k) ?_
          exact J98_128 _ (by simp only [if_neg hc89_129, if_true, if_false] <;> rfl)
      intro z98_127 hz98_127
      have rz98_127 : Value.isRef z98_127 = true := by rw [hz98_127]; (repeat' split) <;> rfl
      refine step (T119.setTop (mkF m 100 #[.val (.long p0), .second, .val (.int p1), .val (.int (1 : Int32)), .val (.int z23_111), .val (.int z36_114), .val (.ref aV0), .val (.ref b4_119), .val z83_124, .val z98_127, .unset, .unset, .unset] [])) (fun t k => XS.astore X119.here hx rfl (hb hby at_98) rfl rz98_127 (l' := #[.val (.long p0), .second, .val (.int p1), .val (.int (1 : Int32)), .val (.int z23_111), .val (.int z36_114), .val (.ref aV0), .val (.ref b4_119), .val z83_124, .val z98_127, .unset, .unset, .unset]) (by rcases ref_cases rz98_127 with q | ⟨_, q⟩ <;> rw [q] <;> rfl) k) ?_
      obtain ⟨T130, h130, X130, e130, E130, A130, D130, -, st130⟩ := newO X119 hx hZ hown (hw _ (List.mem_of_getElem? (i := 29) rfl)) (hw _ (List.mem_of_getElem? (i := 30) rfl)) (hw _ (List.mem_of_getElem? (i := 31) rfl)) e119 (g := (mkF m 100 #[.val (.long p0), .second, .val (.int p1), .val (.int (1 : Int32)), .val (.int z23_111), .val (.int z36_114), .val (.ref aV0), .val (.ref b4_119), .val z83_124, .val z98_127, .unset, .unset, .unset] [])) rfl (hb hby at_100) (by decide) (by decide)
      obtain ⟨b130, g130⟩ : ∃ z, z = h119.size := ⟨_, rfl⟩
      rw [← g130] at A130 D130 st130
      have f131 := (E_aV0.keep K119q)
      have ne_aV0_b130 : aV0 ≠ b130 := Nat.ne_of_lt (Nat.lt_of_lt_of_le f131.lt (Nat.le_of_eq g130.symm))
      have f132 := (E_aV1.keep K119q)
      have ne_aV1_b130 : aV1 ≠ b130 := Nat.ne_of_lt (Nat.lt_of_lt_of_le f132.lt (Nat.le_of_eq g130.symm))
      have ne_b4_119_b130 : b4_119 ≠ b130 := Nat.ne_of_lt (Nat.lt_of_lt_of_le q0_119.lt (Nat.le_of_eq g130.symm))
      have ne_b1_5_119_b130 : b1_5_119 ≠ b130 := Nat.ne_of_lt (Nat.lt_of_lt_of_le q3_119.lt (Nat.le_of_eq g130.symm))
      have gn_b130 : n0 ≤ b130 := Nat.le_trans (Nat.le_trans Z0 K119.1) (Nat.le_of_eq g130.symm)
      have sz_b130 : h0.size ≤ b130 := Nat.le_trans K119.1 (Nat.le_of_eq g130.symm)
      have K130 : Keep h0 h130 [] := K119.ext E130
      have F_entries_b130 : Fld Z h130 b130 "com/example/whisman/whisman/connector/HttpFields" "entries" "[Ljava/lang/String;" .null := D130 (Or.inl (hw _ (List.mem_of_getElem? (i := 39) rfl))) (ty := (.array (.object "java/lang/String"))) (by decide)
      refine step (T130.setTop (mkF m 103 #[.val (.long p0), .second, .val (.int p1), .val (.int (1 : Int32)), .val (.int z23_111), .val (.int z36_114), .val (.ref aV0), .val (.ref b4_119), .val z83_124, .val z98_127, .unset, .unset, .unset] [(.ref b130)])) (fun t k => st130 t k) ?_
      refine step (T130.setTop (mkF m 104 #[.val (.long p0), .second, .val (.int p1), .val (.int (1 : Int32)), .val (.int z23_111), .val (.int z36_114), .val (.ref aV0), .val (.ref b4_119), .val z83_124, .val z98_127, .unset, .unset, .unset] [(.ref b130), (.ref b130)])) (fun t k => XS.dup X130.here hx rfl (hb hby at_103) rfl rfl k) ?_
      have f133 := (f123.ext E130)
      obtain ⟨_, _, ⟨T134, L134, k134, n134⟩, -, X134, ⟨Lc134, hQ134, l134, y134, z134⟩, st134⟩ := X130.specialBack hx (y := (⟨"com/example/whisman/whisman/connector/HttpFields", "<init>", "()V"⟩ : MethodName)) rfl hown (mvT hZ (hw _ (List.mem_of_getElem? (i := 32) rfl))) (mvT hZ (hw _ (List.mem_of_getElem? (i := 33) rfl))) (mvT hZ (hw _ (List.mem_of_getElem? (i := 34) rfl))) (by decide) (backOf (W := 1) (rm6_5 l Z a0 hw [] b130 aNONE h130 n0 (Nat.le_trans Z0 K130.1) f133 A130 F_entries_b130 gn_b130) hZ (hw _ (List.mem_of_getElem? (i := 34) rfl)) (hw _ (List.mem_of_getElem? (i := 31) rfl)) (by decide) (by decide)) (g := (mkF m 104 #[.val (.long p0), .second, .val (.int p1), .val (.int (1 : Int32)), .val (.int z23_111), .val (.int z36_114), .val (.ref aV0), .val (.ref b4_119), .val z83_124, .val z98_127, .unset, .unset, .unset] [(.ref b130), (.ref b130)])) rfl (by rw [hml]; rfl) (Steps.refl _) (a := b130) (argsL := []) (rest := [(.ref b130)]) (lenOf pd_1 rfl) rfl (by show 2 * 0 + _ ≤ _; exact Nat.le_of_eq rfl) (hb hby at_104) (fun _ _ => ⟨rfl, e130, (by decide : 3 + 0 ≤ _), (by decide : 7 + 0 ≤ _)⟩)
      dsimp only [Pt.U, Pt.locs, Pt.cells, Pt.slots] at X134 l134 y134 z134 st134 hQ134
      subst l134 y134 z134
      obtain ⟨h134, e134⟩ : ∃ z, T134.heap = z := ⟨_, rfl⟩
      rw [e134] at hQ134
      obtain ⟨rfl, N134q, K134q, q0_134⟩ := hQ134
      have N134 := Fr.app N119 N134q
      have f135 := (f120.ext E130)
      have f136 := (f121.ext E130)
      have f137 := (f122.ext E130)
      have K134 : Keep h0 h134 [] := K130.trans K134q (allS (Or.inr sz_b130) all0)
      have f138 := own_staK f135 K134q (allS (own_exaP A130) all0)
      have f139 := own_staK f136 K134q (allS (own_exaP A130) all0)
      have f140 := own_staK f137 K134q (allS (own_exaP A130) all0)
      have f141 := own_staK f133 K134q (allS (own_exaP A130) all0)
      refine step (T134.setTop (mkF m 107 #[.val (.long p0), .second, .val (.int p1), .val (.int (1 : Int32)), .val (.int z23_111), .val (.int z36_114), .val (.ref aV0), .val (.ref b4_119), .val z83_124, .val z98_127, .unset, .unset, .unset] [(.ref b130)])) (fun t k => st134.trans k) ?_
      refine step (T134.setTop (mkF m 109 #[.val (.long p0), .second, .val (.int p1), .val (.int (1 : Int32)), .val (.int z23_111), .val (.int z36_114), .val (.ref aV0), .val (.ref b4_119), .val z83_124, .val z98_127, .val (.ref b130), .unset, .unset] [])) (fun t k => XS.astore X134.here hx rfl (hb hby at_107) rfl rfl (l' := #[.val (.long p0), .second, .val (.int p1), .val (.int (1 : Int32)), .val (.int z23_111), .val (.int z36_114), .val (.ref aV0), .val (.ref b4_119), .val z83_124, .val z98_127, .val (.ref b130), .unset, .unset]) rfl k) ?_
      obtain ⟨T142, h142, X142, e142, E142, A142, D142, -, st142⟩ := newO X134 hx hZ hown (hw _ (List.mem_of_getElem? (i := 40) rfl)) (hw _ (List.mem_of_getElem? (i := 41) rfl)) (hw _ (List.mem_of_getElem? (i := 42) rfl)) e134 (g := (mkF m 109 #[.val (.long p0), .second, .val (.int p1), .val (.int (1 : Int32)), .val (.int z23_111), .val (.int z36_114), .val (.ref aV0), .val (.ref b4_119), .val z83_124, .val z98_127, .val (.ref b130), .unset, .unset] [])) rfl (hb hby at_109) (by decide) (by decide)
      obtain ⟨b142, g142⟩ : ∃ z, z = h134.size := ⟨_, rfl⟩
      rw [← g142] at A142 D142 st142
      have f143 := ((f131.ext E130).keep K134q)
      have ne_aV0_b142 : aV0 ≠ b142 := Nat.ne_of_lt (Nat.lt_of_lt_of_le f143.lt (Nat.le_of_eq g142.symm))
      have f144 := ((f132.ext E130).keep K134q)
      have ne_aV1_b142 : aV1 ≠ b142 := Nat.ne_of_lt (Nat.lt_of_lt_of_le f144.lt (Nat.le_of_eq g142.symm))
      have f145 := ((q0_119.ext E130).keep K134q)
      have ne_b4_119_b142 : b4_119 ≠ b142 := Nat.ne_of_lt (Nat.lt_of_lt_of_le f145.lt (Nat.le_of_eq g142.symm))
      have f146 := ((q3_119.ext E130).keep K134q (ninS ne_b1_5_119_b130 nin0))
      have ne_b1_5_119_b142 : b1_5_119 ≠ b142 := Nat.ne_of_lt (Nat.lt_of_lt_of_le f146.lt (Nat.le_of_eq g142.symm))
      have f147 := (A130.keep K134q)
      have ne_b130_b142 : b130 ≠ b142 := Nat.ne_of_lt (Nat.lt_of_lt_of_le f147.lt (Nat.le_of_eq g142.symm))
      have gn_b142 : n0 ≤ b142 := Nat.le_trans (Nat.le_trans Z0 K134.1) (Nat.le_of_eq g142.symm)
      have sz_b142 : h0.size ≤ b142 := Nat.le_trans K134.1 (Nat.le_of_eq g142.symm)
      have K142 : Keep h0 h142 [] := K134.ext E142
      have F_method_b142 : Fld Z h142 b142 "com/example/whisman/whisman/connector/RequestHead" "method" "Ljava/lang/String;" .null := D142 (Or.inr (hw _ (List.mem_of_getElem? (i := 53) rfl))) (ty := (.object "java/lang/String")) (by decide)
      have F_target_b142 : Fld Z h142 b142 "com/example/whisman/whisman/connector/RequestHead" "target" "Ljava/lang/String;" .null := D142 (Or.inr (hw _ (List.mem_of_getElem? (i := 55) rfl))) (ty := (.object "java/lang/String")) (by decide)
      have F_versionText_b142 : Fld Z h142 b142 "com/example/whisman/whisman/connector/RequestHead" "versionText" "Ljava/lang/String;" .null := D142 (Or.inr (hw _ (List.mem_of_getElem? (i := 57) rfl))) (ty := (.object "java/lang/String")) (by decide)
      have F_version_b142 : Fld Z h142 b142 "com/example/whisman/whisman/connector/RequestHead" "version" "Lcom/example/whisman/whisman/connector/HttpVersion;" .null := D142 (Or.inr (hw _ (List.mem_of_getElem? (i := 59) rfl))) (ty := (.object "com/example/whisman/whisman/connector/HttpVersion")) (by decide)
      have F_fields_b142 : Fld Z h142 b142 "com/example/whisman/whisman/connector/RequestHead" "fields" "Lcom/example/whisman/whisman/connector/HttpFields;" .null := D142 (Or.inr (hw _ (List.mem_of_getElem? (i := 61) rfl))) (ty := (.object "com/example/whisman/whisman/connector/HttpFields")) (by decide)
      have F_path_b142 : Fld Z h142 b142 "com/example/whisman/whisman/connector/RequestHead" "path" "Ljava/lang/String;" .null := D142 (Or.inr (hw _ (List.mem_of_getElem? (i := 63) rfl))) (ty := (.object "java/lang/String")) (by decide)
      have F_query_b142 : Fld Z h142 b142 "com/example/whisman/whisman/connector/RequestHead" "query" "Ljava/lang/String;" .null := D142 (Or.inr (hw _ (List.mem_of_getElem? (i := 65) rfl))) (ty := (.object "java/lang/String")) (by decide)
      have F_authority_b142 : Fld Z h142 b142 "com/example/whisman/whisman/connector/RequestHead" "authority" "Ljava/lang/String;" .null := D142 (Or.inr (hw _ (List.mem_of_getElem? (i := 67) rfl))) (ty := (.object "java/lang/String")) (by decide)
      have F_contentLength_b142 : Fld Z h142 b142 "com/example/whisman/whisman/connector/RequestHead" "contentLength" "J" (.long (0 : Int64)) := D142 (Or.inr (hw _ (List.mem_of_getElem? (i := 69) rfl))) (ty := .long) (by decide)
      have F_chunked_b142 : Fld Z h142 b142 "com/example/whisman/whisman/connector/RequestHead" "chunked" "Z" (.int (0 : Int32)) := D142 (Or.inr (hw _ (List.mem_of_getElem? (i := 71) rfl))) (ty := .boolean) (by decide)
      have F_persistent_b142 : Fld Z h142 b142 "com/example/whisman/whisman/connector/RequestHead" "persistent" "Z" (.int (0 : Int32)) := D142 (Or.inr (hw _ (List.mem_of_getElem? (i := 73) rfl))) (ty := .boolean) (by decide)
      have F_expectsContinue_b142 : Fld Z h142 b142 "com/example/whisman/whisman/connector/RequestHead" "expectsContinue" "Z" (.int (0 : Int32)) := D142 (Or.inr (hw _ (List.mem_of_getElem? (i := 75) rfl))) (ty := .boolean) (by decide)
      refine step (T142.setTop (mkF m 112 #[.val (.long p0), .second, .val (.int p1), .val (.int (1 : Int32)), .val (.int z23_111), .val (.int z36_114), .val (.ref aV0), .val (.ref b4_119), .val z83_124, .val z98_127, .val (.ref b130), .unset, .unset] [(.ref b142)])) (fun t k => st142 t k) ?_
      refine step (T142.setTop (mkF m 113 #[.val (.long p0), .second, .val (.int p1), .val (.int (1 : Int32)), .val (.int z23_111), .val (.int z36_114), .val (.ref aV0), .val (.ref b4_119), .val z83_124, .val z98_127, .val (.ref b130), .unset, .unset] [(.ref b142), (.ref b142)])) (fun t k => XS.dup X142.here hx rfl (hb hby at_112) rfl rfl k) ?_
      refine step (T142.setTop (mkF m 115 #[.val (.long p0), .second, .val (.int p1), .val (.int (1 : Int32)), .val (.int z23_111), .val (.int z36_114), .val (.ref aV0), .val (.ref b4_119), .val z83_124, .val z98_127, .val (.ref b130), .unset, .unset] [(.ref b4_119), (.ref b142), (.ref b142)])) (fun t k => XS.aload X142.here hx rfl (hb hby at_113) rfl rfl k) ?_
      refine step (T142.setTop (mkF m 117 #[.val (.long p0), .second, .val (.int p1), .val (.int (1 : Int32)), .val (.int z23_111), .val (.int z36_114), .val (.ref aV0), .val (.ref b4_119), .val z83_124, .val z98_127, .val (.ref b130), .unset, .unset] [(.ref b4_119), (.ref b4_119), (.ref b142), (.ref b142)])) (fun t k => XS.aload X142.here hx rfl (hb hby at_115) rfl rfl k) ?_
      refine step (T142.setTop (mkF m 119 #[.val (.long p0), .second, .val (.int p1), .val (.int (1 : Int32)), .val (.int z23_111), .val (.int z36_114), .val (.ref aV0), .val (.ref b4_119), .val z83_124, .val z98_127, .val (.ref b130), .unset, .unset] [(.ref b4_119), (.ref b4_119), (.ref b4_119), (.ref b142), (.ref b142)])) (fun t k => XS.aload X142.here hx rfl (hb hby at_117) rfl rfl k) ?_
      refine step (T142.setTop (mkF m 121 #[.val (.long p0), .second, .val (.int p1), .val (.int (1 : Int32)), .val (.int z23_111), .val (.int z36_114), .val (.ref aV0), .val (.ref b4_119), .val z83_124, .val z98_127, .val (.ref b130), .unset, .unset] [(.ref aV0), (.ref b4_119), (.ref b4_119), (.ref b4_119), (.ref b142), (.ref b142)])) (fun t k => XS.aload X142.here hx rfl (hb hby at_119) rfl rfl k) ?_
      refine step (T142.setTop (mkF m 123 #[.val (.long p0), .second, .val (.int p1), .val (.int (1 : Int32)), .val (.int z23_111), .val (.int z36_114), .val (.ref aV0), .val (.ref b4_119), .val z83_124, .val z98_127, .val (.ref b130), .unset, .unset] [(.ref b130), (.ref aV0), (.ref b4_119), (.ref b4_119), (.ref b4_119), (.ref b142), (.ref b142)])) (fun t k => XS.aload X142.here hx rfl (hb hby at_121) rfl rfl k) ?_
      refine step (T142.setTop (mkF m 125 #[.val (.long p0), .second, .val (.int p1), .val (.int (1 : Int32)), .val (.int z23_111), .val (.int z36_114), .val (.ref aV0), .val (.ref b4_119), .val z83_124, .val z98_127, .val (.ref b130), .unset, .unset] [(.ref b4_119), (.ref b130), (.ref aV0), (.ref b4_119), (.ref b4_119), (.ref b4_119), (.ref b142), (.ref b142)])) (fun t k => XS.aload X142.here hx rfl (hb hby at_123) rfl rfl k) ?_
      refine step (T142.setTop (mkF m 127 #[.val (.long p0), .second, .val (.int p1), .val (.int (1 : Int32)), .val (.int z23_111), .val (.int z36_114), .val (.ref aV0), .val (.ref b4_119), .val z83_124, .val z98_127, .val (.ref b130), .unset, .unset] [z83_124, (.ref b4_119), (.ref b130), (.ref aV0), (.ref b4_119), (.ref b4_119), (.ref b4_119), (.ref b142), (.ref b142)])) (fun t k => XS.aload X142.here hx rfl (hb hby at_125) rfl rz83_124 k) ?_
      refine step (T142.setTop (mkF m 129 #[.val (.long p0), .second, .val (.int p1), .val (.int (1 : Int32)), .val (.int z23_111), .val (.int z36_114), .val (.ref aV0), .val (.ref b4_119), .val z83_124, .val z98_127, .val (.ref b130), .unset, .unset] [z98_127, z83_124, (.ref b4_119), (.ref b130), (.ref aV0), (.ref b4_119), (.ref b4_119), (.ref b4_119), (.ref b142), (.ref b142)])) (fun t k => XS.aload X142.here hx rfl (hb hby at_127) rfl rz98_127 k) ?_
      refine step (T142.setTop (mkF m 130 #[.val (.long p0), .second, .val (.int p1), .val (.int (1 : Int32)), .val (.int z23_111), .val (.int z36_114), .val (.ref aV0), .val (.ref b4_119), .val z83_124, .val z98_127, .val (.ref b130), .unset, .unset] [(.long p0), z98_127, z83_124, (.ref b4_119), (.ref b130), (.ref aV0), (.ref b4_119), (.ref b4_119), (.ref b4_119), (.ref b142), (.ref b142)])) (fun t k => XS.lloadN X142.here hx rfl (hb hby at_129) rfl k) ?_
      refine step (T142.setTop (mkF m 131 #[.val (.long p0), .second, .val (.int p1), .val (.int (1 : Int32)), .val (.int z23_111), .val (.int z36_114), .val (.ref aV0), .val (.ref b4_119), .val z83_124, .val z98_127, .val (.ref b130), .unset, .unset] [(.int (1 : Int32)), (.long p0), z98_127, z83_124, (.ref b4_119), (.ref b130), (.ref aV0), (.ref b4_119), (.ref b4_119), (.ref b4_119), (.ref b142), (.ref b142)])) (fun t k => XS.iloadN X142.here hx rfl (hb hby at_130) rfl k) ?_
      refine step (T142.setTop (mkF m 133 #[.val (.long p0), .second, .val (.int p1), .val (.int (1 : Int32)), .val (.int z23_111), .val (.int z36_114), .val (.ref aV0), .val (.ref b4_119), .val z83_124, .val z98_127, .val (.ref b130), .unset, .unset] [(.int z23_111), (.int (1 : Int32)), (.long p0), z98_127, z83_124, (.ref b4_119), (.ref b130), (.ref aV0), (.ref b4_119), (.ref b4_119), (.ref b4_119), (.ref b142), (.ref b142)])) (fun t k => XS.iload X142.here hx rfl (hb hby at_131) rfl k) ?_
      refine step (T142.setTop (mkF m 135 #[.val (.long p0), .second, .val (.int p1), .val (.int (1 : Int32)), .val (.int z23_111), .val (.int z36_114), .val (.ref aV0), .val (.ref b4_119), .val z83_124, .val z98_127, .val (.ref b130), .unset, .unset] [(.int z36_114), (.int z23_111), (.int (1 : Int32)), (.long p0), z98_127, z83_124, (.ref b4_119), (.ref b130), (.ref aV0), (.ref b4_119), (.ref b4_119), (.ref b4_119), (.ref b142), (.ref b142)])) (fun t k => XS.iload X142.here hx rfl (hb hby at_133) rfl k) ?_
      have f148 := (f141.ext E142)
      have f149 := (f145.ext E142)
      have f150 := (f143.ext E142)
      have f151 := (f147.ext E142)
      have f152 := (q0_134.ext E142)
      obtain ⟨_, _, ⟨T153, L153, k153, n153⟩, -, X153, ⟨Lc153, hQ153, l153, y153, z153⟩, st153⟩ := X142.specialBack hx (y := (⟨"com/example/whisman/whisman/connector/RequestHead", "<init>", "(Ljava/lang/String;Ljava/lang/String;Ljava/lang/String;Lcom/example/whisman/whisman/connector/HttpVersion;Lcom/example/whisman/whisman/connector/HttpFields;Ljava/lang/String;Ljava/lang/String;Ljava/lang/String;JZZZ)V"⟩ : MethodName)) rfl hown (mvT hZ (hw _ (List.mem_of_getElem? (i := 43) rfl))) (mvT hZ (hw _ (List.mem_of_getElem? (i := 44) rfl))) (mvT hZ (hw _ (List.mem_of_getElem? (i := 45) rfl))) (by decide) (backOf (W := 1) (rm7_11 l Z a0 hw [] b142 b4_119 aV0 b130 z83_124 z98_127 p0 z23_111 z36_114 aNONE h142 n0 (Nat.le_trans Z0 K142.1) rz83_124 rz98_127 f148 A142 F_authority_b142 F_chunked_b142 F_contentLength_b142 F_expectsContinue_b142 F_fields_b142 F_method_b142 F_path_b142 F_persistent_b142 F_query_b142 F_target_b142 F_version_b142 F_versionText_b142 f149 f150 f151 f152 gn_b142 (Ne.symm ne_b4_119_b142) (Ne.symm ne_aV0_b142) (Ne.symm ne_b130_b142) gn_b4_119 (Ne.symm ne_aV0_b4_119) ne_b4_119_b130 ne_aV0_b130 gn_b130) hZ (hw _ (List.mem_of_getElem? (i := 45) rfl)) (hw _ (List.mem_of_getElem? (i := 42) rfl)) (by decide) (by decide)) (g := (mkF m 135 #[.val (.long p0), .second, .val (.int p1), .val (.int (1 : Int32)), .val (.int z23_111), .val (.int z36_114), .val (.ref aV0), .val (.ref b4_119), .val z83_124, .val z98_127, .val (.ref b130), .unset, .unset] [(.int z36_114), (.int z23_111), (.int (1 : Int32)), (.long p0), z98_127, z83_124, (.ref b4_119), (.ref b130), (.ref aV0), (.ref b4_119), (.ref b4_119), (.ref b4_119), (.ref b142), (.ref b142)])) rfl (by rw [hml]; rfl) (Steps.refl _) (a := b142) (argsL := [(.ref b4_119), (.ref b4_119), (.ref b4_119), (.ref aV0), (.ref b130), (.ref b4_119), z83_124, z98_127, (.long p0), (.int (1 : Int32)), (.int z23_111), (.int z36_114)]) (rest := [(.ref b142)]) (lenOf pd_2 rfl) rfl (by show 2 * 0 + _ ≤ _; exact Nat.le_of_eq rfl) (hb hby at_135) (fun _ _ => ⟨rfl, e142, (by decide : 4 + 0 ≤ _), (by decide : 19 + 0 ≤ _)⟩)
      dsimp only [Pt.U, Pt.locs, Pt.cells, Pt.slots] at X153 l153 y153 z153 st153 hQ153
      subst l153 y153 z153
      obtain ⟨h153, e153⟩ : ∃ z, T153.heap = z := ⟨_, rfl⟩
      rw [e153] at hQ153
      obtain ⟨rfl, N153q, K153q, q0_153, q1_153, q2_153, q3_153, q4_153, q5_153, q6_153, q7_153, q8_153, q9_153, q10_153, q11_153⟩ := hQ153
      have N153 := Fr.app N134 N153q
      have f154 := (f138.ext E142)
      have f155 := (f139.ext E142)
      have f156 := (f140.ext E142)
      have K153 : Keep h0 h153 [] := K142.trans K153q (allS (Or.inr sz_b142) all0)
      have f157 := own_staK f154 K153q (allS (own_exaP A142) all0)
      have f158 := own_staK f155 K153q (allS (own_exaP A142) all0)
      have f159 := own_staK f156 K153q (allS (own_exaP A142) all0)
      have f160 := own_staK f148 K153q (allS (own_exaP A142) all0)
      refine step (T153.setTop (mkF m 138 #[.val (.long p0), .second, .val (.int p1), .val (.int (1 : Int32)), .val (.int z23_111), .val (.int z36_114), .val (.ref aV0), .val (.ref b4_119), .val z83_124, .val z98_127, .val (.ref b130), .unset, .unset] [(.ref b142)])) (fun t k => st153.trans k) ?_
      refine step (T153.setTop (mkF m 140 #[.val (.long p0), .second, .val (.int p1), .val (.int (1 : Int32)), .val (.int z23_111), .val (.int z36_114), .val (.ref aV0), .val (.ref b4_119), .val z83_124, .val z98_127, .val (.ref b130), .val (.ref b142), .unset] [])) (fun t k => XS.astore X153.here hx rfl (hb hby at_138) rfl rfl (l' := #[.val (.long p0), .second, .val (.int p1), .val (.int (1 : Int32)), .val (.int z23_111), .val (.int z36_114), .val (.ref aV0), .val (.ref b4_119), .val z83_124, .val z98_127, .val (.ref b130), .val (.ref b142), .unset]) rfl k) ?_
      refine step (T153.setTop (mkF m 141 #[.val (.long p0), .second, .val (.int p1), .val (.int (1 : Int32)), .val (.int z23_111), .val (.int z36_114), .val (.ref aV0), .val (.ref b4_119), .val z83_124, .val z98_127, .val (.ref b130), .val (.ref b142), .unset] [(.int (1 : Int32))])) (fun t k => XS.iloadN X153.here hx rfl (hb hby at_140) rfl k) ?_
      refine step (T153.setTop (mkF m 144 #[.val (.long p0), .second, .val (.int p1), .val (.int (1 : Int32)), .val (.int z23_111), .val (.int z36_114), .val (.ref aV0), .val (.ref b4_119), .val z83_124, .val z98_127, .val (.ref b130), .val (.ref b142), .unset] [])) (fun t k => XS.ifNo X153.here hx rfl (hb hby at_141) rfl ((if0 _ _).trans (feq (by decide : ¬ ((1 : Int32) = (0 : Int32)))).1) k) ?_
      refine step (T153.setTop (mkF m 145 #[.val (.long p0), .second, .val (.int p1), .val (.int (1 : Int32)), .val (.int z23_111), .val (.int z36_114), .val (.ref aV0), .val (.ref b4_119), .val z83_124, .val z98_127, .val (.ref b130), .val (.ref b142), .unset] [(.int (1 : Int32))])) (fun t k => XS.iconst X153.here hx rfl (hb hby at_144) k) ?_
      refine step (T153.setTop (mkF m 147 #[.val (.long p0), .second, .val (.int p1), .val (.int (1 : Int32)), .val (.int z23_111), .val (.int z36_114), .val (.ref aV0), .val (.ref b4_119), .val z83_124, .val z98_127, .val (.ref b130), .val (.ref b142), .val (.int (1 : Int32))] [])) (fun t k => XS.istore X153.here hx rfl (hb hby at_145) rfl (l' := #[.val (.long p0), .second, .val (.int p1), .val (.int (1 : Int32)), .val (.int z23_111), .val (.int z36_114), .val (.ref aV0), .val (.ref b4_119), .val z83_124, .val z98_127, .val (.ref b130), .val (.ref b142), .val (.int (1 : Int32))]) rfl k) ?_
      refine step (T153.setTop (mkF m 165 #[.val (.long p0), .second, .val (.int p1), .val (.int (1 : Int32)), .val (.int z23_111), .val (.int z36_114), .val (.ref aV0), .val (.ref b4_119), .val z83_124, .val z98_127, .val (.ref b130), .val (.ref b142), .val (.int (1 : Int32))] [])) (fun t k => XS.goto X153.here hx rfl (pc0 := 147) (pc' := 165) rfl (hb hby at_147) (by decide) (by decide) k) ?_
      refine step (T153.setTop (mkF m 167 #[.val (.long p0), .second, .val (.int p1), .val (.int (1 : Int32)), .val (.int z23_111), .val (.int z36_114), .val (.ref aV0), .val (.ref b4_119), .val z83_124, .val z98_127, .val (.ref b130), .val (.ref b142), .val (.int (1 : Int32))] [(.ref b142)])) (fun t k => XS.aload X153.here hx rfl (hb hby at_165) rfl rfl k) ?_
      have f161 := (A142.keep K153q)
      obtain ⟨cq162, kq162, q162a, q162b, q162c⟩ := isOf hZ e153 f161
      obtain ⟨_, _, ⟨T162, L162, k162, n162⟩, -, X162, ⟨Lc162, hQ162, l162, y162, z162⟩, st162⟩ := X153.virtualBack hx (y := (⟨"com/example/whisman/whisman/connector/RequestHead", "hasBody", "()Z"⟩ : MethodName)) (z := (⟨"com/example/whisman/whisman/connector/RequestHead", "hasBody", "()Z"⟩ : MethodName)) hown (mvT hZ (hw _ (List.mem_of_getElem? (i := 76) rfl))) (mvT hZ (hw _ (List.mem_of_getElem? (i := 77) rfl))) (notFace_of_selects (args := #[]) (mvT hZ (hw _ (List.mem_of_getElem? (i := 79) rfl)))) (mvT hZ (hw _ (List.mem_of_getElem? (i := 79) rfl))) (mvT hZ (hw _ (List.mem_of_getElem? (i := 78) rfl))) (by decide) (backOf (W := 0) (rm9_12 l Z a0 hw [] b142 p0 h153 n0 (Nat.le_trans Z0 K153.1) f161 q1_153 q2_153 gn_b142) hZ (hw _ (List.mem_of_getElem? (i := 80) rfl)) (hw _ (List.mem_of_getElem? (i := 42) rfl)) (by decide) (by decide)) q162a q162c (g := (mkF m 167 #[.val (.long p0), .second, .val (.int p1), .val (.int (1 : Int32)), .val (.int z23_111), .val (.int z36_114), .val (.ref aV0), .val (.ref b4_119), .val z83_124, .val z98_127, .val (.ref b130), .val (.ref b142), .val (.int (1 : Int32))] [(.ref b142)])) rfl (by rw [hml]; rfl) (Steps.refl _) (argsL := []) (rest := []) (lenOf pd_3 rfl) rfl (by show 2 * 0 + _ ≤ _; exact Nat.le_of_eq rfl) (hb hby at_167) (fun _ _ => ⟨rfl, e153, (by decide : 4 + 0 ≤ _), (by decide : 19 + 0 ≤ _)⟩)
      dsimp only [Pt.U, Pt.locs, Pt.cells, Pt.slots] at X162 l162 y162 z162 st162 hQ162
      subst l162 y162 z162
      obtain ⟨rfl, N162q, e162q⟩ := hQ162
      have N162 := Fr.app N153 N162q
      refine step (T162.setTop (mkF m 170 #[.val (.long p0), .second, .val (.int p1), .val (.int (1 : Int32)), .val (.int z23_111), .val (.int z36_114), .val (.ref aV0), .val (.ref b4_119), .val z83_124, .val z98_127, .val (.ref b130), .val (.ref b142), .val (.int (1 : Int32))] [(.int (1 : Int32))])) (fun t k => st162.trans k) ?_
      refine step (T162.setTop (mkF m 172 #[.val (.long p0), .second, .val (.int p1), .val (.int (1 : Int32)), .val (.int z23_111), .val (.int z36_114), .val (.ref aV0), .val (.ref b4_119), .val z83_124, .val z98_127, .val (.ref b130), .val (.ref b142), .val (.int (1 : Int32))] [(.int (1 : Int32)), (.int (1 : Int32))])) (fun t k => XS.iload X162.here hx rfl (hb hby at_170) rfl k) ?_
      refine step (T162.setTop (mkF m 175 #[.val (.long p0), .second, .val (.int p1), .val (.int (1 : Int32)), .val (.int z23_111), .val (.int z36_114), .val (.ref aV0), .val (.ref b4_119), .val z83_124, .val z98_127, .val (.ref b130), .val (.ref b142), .val (.int (1 : Int32))] [])) (fun t k => XS.icmpNo X162.here hx rfl (hb hby at_172) rfl (teq (by decide : (1 : Int32) = (1 : Int32))).2 k) ?_
      refine step (T162.setTop (mkF m 176 #[.val (.long p0), .second, .val (.int p1), .val (.int (1 : Int32)), .val (.int z23_111), .val (.int z36_114), .val (.ref aV0), .val (.ref b4_119), .val z83_124, .val z98_127, .val (.ref b130), .val (.ref b142), .val (.int (1 : Int32))] [(.int (1 : Int32))])) (fun t k => XS.iconst X162.here hx rfl (hb hby at_175) k) ?_
      refine step (T162.setTop (mkF m 180 #[.val (.long p0), .second, .val (.int p1), .val (.int (1 : Int32)), .val (.int z23_111), .val (.int z36_114), .val (.ref aV0), .val (.ref b4_119), .val z83_124, .val z98_127, .val (.ref b130), .val (.ref b142), .val (.int (1 : Int32))] [(.int (1 : Int32))])) (fun t k => XS.goto X162.here hx rfl (pc0 := 176) (pc' := 180) rfl (hb hby at_176) (by decide) (by decide) k) ?_
      refine fin (v := some (.int (nar .boolean (1 : Int32)))) X162 (fun h => by cases h) ?_ (by decide) (by decide) (fun fs hr => retN X162 hx (t := .boolean) hret (by simp) (hb hby at_180) hr)
      show Q0 Z p0 p1 cs aV0 aV1 aNONE h0 n0 (some (.int (nar .boolean (1 : Int32)))) T162.heap _
      rw [e162q]
      exact ⟨own_fin rfl, N162⟩
    · -- pc 42: (p1 &&& (8 : Int32)) = (0 : Int32) False
      refine step (s₁.setTop (mkF m 45 #[.val (.long p0), .second, .val (.int p1), .val (.int (1 : Int32)), .val (.int z23_111), .val (.int z36_114), .unset, .unset, .unset, .unset, .unset, .unset, .unset] [])) (fun t k => XS.ifNo X0.here hx rfl (hb hby at_42) rfl ((if0 _ _).trans (feq hc42_117).1) k) ?_
      obtain ⟨T163, X163, e163, st163⟩ := getS2 X0 hx hZ hown (host := "") (Or.inl (hw _ (List.mem_of_getElem? (i := 81) rfl))) Via.refl e0 S_aV1 (g := (mkF m 45 #[.val (.long p0), .second, .val (.int p1), .val (.int (1 : Int32)), .val (.int z23_111), .val (.int z36_114), .unset, .unset, .unset, .unset, .unset, .unset, .unset] [])) rfl (hb hby at_45)
      refine step (T163.setTop (mkF m 48 #[.val (.long p0), .second, .val (.int p1), .val (.int (1 : Int32)), .val (.int z23_111), .val (.int z36_114), .unset, .unset, .unset, .unset, .unset, .unset, .unset] [(.ref aV1)])) (fun t k => st163 t k) ?_
      refine step (T163.setTop (mkF m 54 #[.val (.long p0), .second, .val (.int p1), .val (.int (1 : Int32)), .val (.int z23_111), .val (.int z36_114), .unset, .unset, .unset, .unset, .unset, .unset, .unset] [(.ref aV1)])) (fun t k => XS.goto X163.here hx rfl (pc0 := 48) (pc' := 54) rfl (hb hby at_48) (by decide) (by decide) k) ?_
      refine step (T163.setTop (mkF m 56 #[.val (.long p0), .second, .val (.int p1), .val (.int (1 : Int32)), .val (.int z23_111), .val (.int z36_114), .val (.ref aV1), .unset, .unset, .unset, .unset, .unset, .unset] [])) (fun t k => XS.astore X163.here hx rfl (hb hby at_54) rfl rfl (l' := #[.val (.long p0), .second, .val (.int p1), .val (.int (1 : Int32)), .val (.int z23_111), .val (.int z36_114), .val (.ref aV1), .unset, .unset, .unset, .unset, .unset, .unset]) rfl k) ?_
      refine step (T163.setTop (mkF m 57 #[.val (.long p0), .second, .val (.int p1), .val (.int (1 : Int32)), .val (.int z23_111), .val (.int z36_114), .val (.ref aV1), .unset, .unset, .unset, .unset, .unset, .unset] [(.int p1)])) (fun t k => XS.iloadN X163.here hx rfl (hb hby at_56) rfl k) ?_
      refine step (T163.setTop (mkF m 59 #[.val (.long p0), .second, .val (.int p1), .val (.int (1 : Int32)), .val (.int z23_111), .val (.int z36_114), .val (.ref aV1), .unset, .unset, .unset, .unset, .unset, .unset] [(.int (8 : Int32)), (.int p1)])) (fun t k => XS.bipush X163.here hx rfl (hb hby at_57) k) ?_
      refine step (T163.setTop (mkF m 60 #[.val (.long p0), .second, .val (.int p1), .val (.int (1 : Int32)), .val (.int z23_111), .val (.int z36_114), .val (.ref aV1), .unset, .unset, .unset, .unset, .unset, .unset] [(.int ((p1.toUInt32 >>> ((8 : Int32) &&& 31).toUInt32).toInt32))])) (fun t k => XS.iushr X163.here hx rfl (hb hby at_59) rfl k) ?_
      refine step (T163.setTop (mkF m 63 #[.val (.long p0), .second, .val (.int p1), .val (.int (1 : Int32)), .val (.int z23_111), .val (.int z36_114), .val (.ref aV1), .unset, .unset, .unset, .unset, .unset, .unset] [(.int (255 : Int32)), (.int ((p1.toUInt32 >>> ((8 : Int32) &&& 31).toUInt32).toInt32))])) (fun t k => XS.sipush X163.here hx rfl (hb hby at_60) k) ?_
      refine step (T163.setTop (mkF m 64 #[.val (.long p0), .second, .val (.int p1), .val (.int (1 : Int32)), .val (.int z23_111), .val (.int z36_114), .val (.ref aV1), .unset, .unset, .unset, .unset, .unset, .unset] [(.int (((p1.toUInt32 >>> ((8 : Int32) &&& 31).toUInt32).toInt32) &&& (255 : Int32)))])) (fun t k => XS.iand X163.here hx rfl (hb hby at_63) rfl k) ?_
      refine step (T163.setTop (mkF m 65 #[.val (.long p0), .second, .val (.int p1), .val (.int (1 : Int32)), .val (.int z23_111), .val (.int z36_114), .val (.ref aV1), .unset, .unset, .unset, .unset, .unset, .unset] [(.int ((((p1.toUInt32 >>> ((8 : Int32) &&& 31).toUInt32).toInt32) &&& (255 : Int32)).toUInt32.toUInt16.toUInt32.toInt32))])) (fun t k => XS.i2c X163.here hx rfl (hb hby at_64) rfl k) ?_
      generalize hch : ((((p1.toUInt32 >>> ((8 : Int32) &&& 31).toUInt32).toInt32) &&& (255 : Int32)).toUInt32.toUInt16.toUInt32.toInt32) = ch
      have le_ch := own_255 _ _ hch
      obtain ⟨_, _, ⟨T164, L164, k164, n164⟩, -, X164, ⟨Lc164, hQ164, l164, y164, z164⟩, st164⟩ := Jvm.LawKit.callS X163 hx (y := (⟨"java/lang/String", "valueOf", "(C)Ljava/lang/String;"⟩ : MethodName)) hown (mvT hZ (hw _ (List.mem_of_getElem? (i := 3) rfl))) (mvT hZ (hw _ (List.mem_of_getElem? (i := 4) rfl))) (mvT hZ (hw _ (List.mem_of_getElem? (i := 5) rfl))) (mvT hZ (hw _ (List.mem_of_getElem? (i := 6) rfl))) (by decide) (backOf (W := 0) (rm1_1 l Z a0 hw [] ch cs aNONE h0 n0 Z0 S_cs S_aNONE le_ch c_cs) hZ (hw _ (List.mem_of_getElem? (i := 6) rfl)) (hw _ (List.mem_of_getElem? (i := 5) rfl)) (by decide) (by decide)) (g := (mkF m 65 #[.val (.long p0), .second, .val (.int p1), .val (.int (1 : Int32)), .val (.int z23_111), .val (.int z36_114), .val (.ref aV1), .unset, .unset, .unset, .unset, .unset, .unset] [(.int ch)])) rfl (by rw [hml]; rfl) (argsL := [(.int ch)]) (rest := []) (lenOf pd_0 rfl) rfl (by show 2 * 0 + _ ≤ _; exact Nat.le_of_eq rfl) (hb hby at_65) (fun _ _ => ⟨rfl, e163, (by decide : 0 + 2 ≤ _), (by decide : 0 + 5 ≤ _)⟩)
      dsimp only [Pt.U, Pt.locs, Pt.cells, Pt.slots] at X164 l164 y164 z164 st164 hQ164
      subst l164 y164 z164
      obtain ⟨h164, e164⟩ : ∃ z, T164.heap = z := ⟨_, rfl⟩
      rw [e164] at hQ164
      obtain ⟨b4_164, b1_5_164, k1_5_164, rfl, N164q, K164q, sz_b4_164, sz_b1_5_164, ne_b1_5_b4_164, q0_164, q1_164, q2_164, q3_164⟩ := hQ164
      have N164 := Fr.app N0 N164q
      have lt164_aV0 := E_aV0.lt
      have lt164_aV1 := E_aV1.lt
      have ne_aV0_b4_164 : aV0 ≠ b4_164 := Nat.ne_of_lt (Nat.lt_of_lt_of_le lt164_aV0 sz_b4_164)
      have ne_aV1_b4_164 : aV1 ≠ b4_164 := Nat.ne_of_lt (Nat.lt_of_lt_of_le lt164_aV1 sz_b4_164)
      have gn_b4_164 : n0 ≤ b4_164 := Nat.le_trans Z0 sz_b4_164
      have ne_aV0_b1_5_164 : aV0 ≠ b1_5_164 := Nat.ne_of_lt (Nat.lt_of_lt_of_le lt164_aV0 sz_b1_5_164)
      have ne_aV1_b1_5_164 : aV1 ≠ b1_5_164 := Nat.ne_of_lt (Nat.lt_of_lt_of_le lt164_aV1 sz_b1_5_164)
      have gn_b1_5_164 : n0 ≤ b1_5_164 := Nat.le_trans Z0 sz_b1_5_164
      have K164 : Keep h0 h164 [] := (Keep.refl h0 []).trans K164q all0
      have f165 := own_staK S_cs K164q all0
      have f166 := own_staK S_aV0 K164q all0
      have f167 := own_staK S_aV1 K164q all0
      have f168 := own_staK S_aNONE K164q all0
      refine step (T164.setTop (mkF m 68 #[.val (.long p0), .second, .val (.int p1), .val (.int (1 : Int32)), .val (.int z23_111), .val (.int z36_114), .val (.ref aV1), .unset, .unset, .unset, .unset, .unset, .unset] [(.ref b4_164)])) (fun t k => st164 t k) ?_
      refine step (T164.setTop (mkF m 70 #[.val (.long p0), .second, .val (.int p1), .val (.int (1 : Int32)), .val (.int z23_111), .val (.int z36_114), .val (.ref aV1), .val (.ref b4_164), .unset, .unset, .unset, .unset, .unset] [])) (fun t k => XS.astore X164.here hx rfl (hb hby at_68) rfl rfl (l' := #[.val (.long p0), .second, .val (.int p1), .val (.int (1 : Int32)), .val (.int z23_111), .val (.int z36_114), .val (.ref aV1), .val (.ref b4_164), .unset, .unset, .unset, .unset, .unset]) rfl k) ?_
      refine step (T164.setTop (mkF m 71 #[.val (.long p0), .second, .val (.int p1), .val (.int (1 : Int32)), .val (.int z23_111), .val (.int z36_114), .val (.ref aV1), .val (.ref b4_164), .unset, .unset, .unset, .unset, .unset] [(.int p1)])) (fun t k => XS.iloadN X164.here hx rfl (hb hby at_70) rfl k) ?_
      refine step (T164.setTop (mkF m 73 #[.val (.long p0), .second, .val (.int p1), .val (.int (1 : Int32)), .val (.int z23_111), .val (.int z36_114), .val (.ref aV1), .val (.ref b4_164), .unset, .unset, .unset, .unset, .unset] [(.int (16 : Int32)), (.int p1)])) (fun t k => XS.bipush X164.here hx rfl (hb hby at_71) k) ?_
      refine step (T164.setTop (mkF m 74 #[.val (.long p0), .second, .val (.int p1), .val (.int (1 : Int32)), .val (.int z23_111), .val (.int z36_114), .val (.ref aV1), .val (.ref b4_164), .unset, .unset, .unset, .unset, .unset] [(.int (p1 &&& (16 : Int32)))])) (fun t k => XS.iand X164.here hx rfl (hb hby at_73) rfl k) ?_
      suffices J83_170 : ∀ (z83_169 : Value), z83_169 = (if (p1 &&& (16 : Int32)) = (0 : Int32) then (Value.ref b4_164) else Value.null) → G (T164.setTop (mkF m 83 #[.val (.long p0), .second, .val (.int p1), .val (.int (1 : Int32)), .val (.int z23_111), .val (.int z36_114), .val (.ref aV1), .val (.ref b4_164), .unset, .unset, .unset, .unset, .unset] [z83_169])) by
        by_cases hc74_171 : (p1 &&& (16 : Int32)) = (0 : Int32)
        · -- 74 True
          refine step (T164.setTop (mkF m 81 #[.val (.long p0), .second, .val (.int p1), .val (.int (1 : Int32)), .val (.int z23_111), .val (.int z36_114), .val (.ref aV1), .val (.ref b4_164), .unset, .unset, .unset, .unset, .unset] [])) (fun t k => XS.ifYes X164.here hx rfl (pc0 := 74) (pc' := 81) rfl (hb hby at_74) rfl ((if0 _ _).trans (teq hc74_171).1) (by decide) (by decide) k) ?_
          refine step (T164.setTop (mkF m 83 #[.val (.long p0), .second, .val (.int p1), .val (.int (1 : Int32)), .val (.int z23_111), .val (.int z36_114), .val (.ref aV1), .val (.ref b4_164), .unset, .unset, .unset, .unset, .unset] [(.ref b4_164)])) (fun t k => XS.aload X164.here hx rfl (hb hby at_81) rfl rfl k) ?_
          exact J83_170 _ (by simp only [if_pos hc74_171, if_true, if_false] <;> rfl)
        · -- 74 False
          refine step (T164.setTop (mkF m 77 #[.val (.long p0), .second, .val (.int p1), .val (.int (1 : Int32)), .val (.int z23_111), .val (.int z36_114), .val (.ref aV1), .val (.ref b4_164), .unset, .unset, .unset, .unset, .unset] [])) (fun t k => XS.ifNo X164.here hx rfl (hb hby at_74) rfl ((if0 _ _).trans (feq hc74_171).1) k) ?_
          refine step (T164.setTop (mkF m 78 #[.val (.long p0), .second, .val (.int p1), .val (.int (1 : Int32)), .val (.int z23_111), .val (.int z36_114), .val (.ref aV1), .val (.ref b4_164), .unset, .unset, .unset, .unset, .unset] [.null])) (fun t k => XS.aconstNull X164.here hx rfl (hb hby at_77) k) ?_
          refine step (T164.setTop (mkF m 83 #[.val (.long p0), .second, .val (.int p1), .val (.int (1 : Int32)), .val (.int z23_111), .val (.int z36_114), .val (.ref aV1), .val (.ref b4_164), .unset, .unset, .unset, .unset, .unset] [.null])) (fun t k => XS.goto X164.here hx rfl (pc0 := 78) (pc' := 83) rfl (hb hby at_78) (by decide) (by decide) k) ?_
          exact J83_170 _ (by simp only [if_neg hc74_171, if_true, if_false] <;> rfl)
      intro z83_169 hz83_169
      have rz83_169 : Value.isRef z83_169 = true := by rw [hz83_169]; (repeat' split) <;> rfl
      refine step (T164.setTop (mkF m 85 #[.val (.long p0), .second, .val (.int p1), .val (.int (1 : Int32)), .val (.int z23_111), .val (.int z36_114), .val (.ref aV1), .val (.ref b4_164), .val z83_169, .unset, .unset, .unset, .unset] [])) (fun t k => XS.astore X164.here hx rfl (hb hby at_83) rfl rz83_169 (l' := #[.val (.long p0), .second, .val (.int p1), .val (.int (1 : Int32)), .val (.int z23_111), .val (.int z36_114), .val (.ref aV1), .val (.ref b4_164), .val z83_169, .unset, .unset, .unset, .unset]) (by rcases ref_cases rz83_169 with q | ⟨_, q⟩ <;> rw [q] <;> rfl) k) ?_
      refine step (T164.setTop (mkF m 86 #[.val (.long p0), .second, .val (.int p1), .val (.int (1 : Int32)), .val (.int z23_111), .val (.int z36_114), .val (.ref aV1), .val (.ref b4_164), .val z83_169, .unset, .unset, .unset, .unset] [(.int p1)])) (fun t k => XS.iloadN X164.here hx rfl (hb hby at_85) rfl k) ?_
      refine step (T164.setTop (mkF m 88 #[.val (.long p0), .second, .val (.int p1), .val (.int (1 : Int32)), .val (.int z23_111), .val (.int z36_114), .val (.ref aV1), .val (.ref b4_164), .val z83_169, .unset, .unset, .unset, .unset] [(.int (32 : Int32)), (.int p1)])) (fun t k => XS.bipush X164.here hx rfl (hb hby at_86) k) ?_
      refine step (T164.setTop (mkF m 89 #[.val (.long p0), .second, .val (.int p1), .val (.int (1 : Int32)), .val (.int z23_111), .val (.int z36_114), .val (.ref aV1), .val (.ref b4_164), .val z83_169, .unset, .unset, .unset, .unset] [(.int (p1 &&& (32 : Int32)))])) (fun t k => XS.iand X164.here hx rfl (hb hby at_88) rfl k) ?_
      suffices J98_173 : ∀ (z98_172 : Value), z98_172 = (if (p1 &&& (32 : Int32)) = (0 : Int32) then (Value.ref b4_164) else Value.null) → G (T164.setTop (mkF m 98 #[.val (.long p0), .second, .val (.int p1), .val (.int (1 : Int32)), .val (.int z23_111), .val (.int z36_114), .val (.ref aV1), .val (.ref b4_164), .val z83_169, .unset, .unset, .unset, .unset] [z98_172])) by
        by_cases hc89_174 : (p1 &&& (32 : Int32)) = (0 : Int32)
        · -- 89 True
          refine step (T164.setTop (mkF m 96 #[.val (.long p0), .second, .val (.int p1), .val (.int (1 : Int32)), .val (.int z23_111), .val (.int z36_114), .val (.ref aV1), .val (.ref b4_164), .val z83_169, .unset, .unset, .unset, .unset] [])) (fun t k => XS.ifYes X164.here hx rfl (pc0 := 89) (pc' := 96) rfl (hb hby at_89) rfl ((if0 _ _).trans (teq hc89_174).1) (by decide) (by decide) k) ?_
          refine step (T164.setTop (mkF m 98 #[.val (.long p0), .second, .val (.int p1), .val (.int (1 : Int32)), .val (.int z23_111), .val (.int z36_114), .val (.ref aV1), .val (.ref b4_164), .val z83_169, .unset, .unset, .unset, .unset] [(.ref b4_164)])) (fun t k => XS.aload X164.here hx rfl (hb hby at_96) rfl rfl k) ?_
          exact J98_173 _ (by simp only [if_pos hc89_174, if_true, if_false] <;> rfl)
        · -- 89 False
          refine step (T164.setTop (mkF m 92 #[.val (.long p0), .second, .val (.int p1), .val (.int (1 : Int32)), .val (.int z23_111), .val (.int z36_114), .val (.ref aV1), .val (.ref b4_164), .val z83_169, .unset, .unset, .unset, .unset] [])) (fun t k => XS.ifNo X164.here hx rfl (hb hby at_89) rfl ((if0 _ _).trans (feq hc89_174).1) k) ?_
          refine step (T164.setTop (mkF m 93 #[.val (.long p0), .second, .val (.int p1), .val (.int (1 : Int32)), .val (.int z23_111), .val (.int z36_114), .val (.ref aV1), .val (.ref b4_164), .val z83_169, .unset, .unset, .unset, .unset] [.null])) (fun t k => XS.aconstNull X164.here hx rfl (hb hby at_92) k) ?_
          refine step (T164.setTop (mkF m 98 #[.val (.long p0), .second, .val (.int p1), .val (.int (1 : Int32)), .val (.int z23_111), .val (.int z36_114), .val (.ref aV1), .val (.ref b4_164), .val z83_169, .unset, .unset, .unset, .unset] [.null])) (fun t k => XS.goto X164.here hx rfl (pc0 := 93) (pc' := 98) rfl (hb hby at_93) (by decide) (by decide) k) ?_
          exact J98_173 _ (by simp only [if_neg hc89_174, if_true, if_false] <;> rfl)
      intro z98_172 hz98_172
      have rz98_172 : Value.isRef z98_172 = true := by rw [hz98_172]; (repeat' split) <;> rfl
      refine step (T164.setTop (mkF m 100 #[.val (.long p0), .second, .val (.int p1), .val (.int (1 : Int32)), .val (.int z23_111), .val (.int z36_114), .val (.ref aV1), .val (.ref b4_164), .val z83_169, .val z98_172, .unset, .unset, .unset] [])) (fun t k => XS.astore X164.here hx rfl (hb hby at_98) rfl rz98_172 (l' := #[.val (.long p0), .second, .val (.int p1), .val (.int (1 : Int32)), .val (.int z23_111), .val (.int z36_114), .val (.ref aV1), .val (.ref b4_164), .val z83_169, .val z98_172, .unset, .unset, .unset]) (by rcases ref_cases rz98_172 with q | ⟨_, q⟩ <;> rw [q] <;> rfl) k) ?_
      obtain ⟨T175, h175, X175, e175, E175, A175, D175, -, st175⟩ := newO X164 hx hZ hown (hw _ (List.mem_of_getElem? (i := 29) rfl)) (hw _ (List.mem_of_getElem? (i := 30) rfl)) (hw _ (List.mem_of_getElem? (i := 31) rfl)) e164 (g := (mkF m 100 #[.val (.long p0), .second, .val (.int p1), .val (.int (1 : Int32)), .val (.int z23_111), .val (.int z36_114), .val (.ref aV1), .val (.ref b4_164), .val z83_169, .val z98_172, .unset, .unset, .unset] [])) rfl (hb hby at_100) (by decide) (by decide)
      obtain ⟨b175, g175⟩ : ∃ z, z = h164.size := ⟨_, rfl⟩
      rw [← g175] at A175 D175 st175
      have f176 := (E_aV0.keep K164q)
      have ne_aV0_b175 : aV0 ≠ b175 := Nat.ne_of_lt (Nat.lt_of_lt_of_le f176.lt (Nat.le_of_eq g175.symm))
      have f177 := (E_aV1.keep K164q)
      have ne_aV1_b175 : aV1 ≠ b175 := Nat.ne_of_lt (Nat.lt_of_lt_of_le f177.lt (Nat.le_of_eq g175.symm))
      have ne_b4_164_b175 : b4_164 ≠ b175 := Nat.ne_of_lt (Nat.lt_of_lt_of_le q0_164.lt (Nat.le_of_eq g175.symm))
      have ne_b1_5_164_b175 : b1_5_164 ≠ b175 := Nat.ne_of_lt (Nat.lt_of_lt_of_le q3_164.lt (Nat.le_of_eq g175.symm))
      have gn_b175 : n0 ≤ b175 := Nat.le_trans (Nat.le_trans Z0 K164.1) (Nat.le_of_eq g175.symm)
      have sz_b175 : h0.size ≤ b175 := Nat.le_trans K164.1 (Nat.le_of_eq g175.symm)
      have K175 : Keep h0 h175 [] := K164.ext E175
      have F_entries_b175 : Fld Z h175 b175 "com/example/whisman/whisman/connector/HttpFields" "entries" "[Ljava/lang/String;" .null := D175 (Or.inl (hw _ (List.mem_of_getElem? (i := 39) rfl))) (ty := (.array (.object "java/lang/String"))) (by decide)
      refine step (T175.setTop (mkF m 103 #[.val (.long p0), .second, .val (.int p1), .val (.int (1 : Int32)), .val (.int z23_111), .val (.int z36_114), .val (.ref aV1), .val (.ref b4_164), .val z83_169, .val z98_172, .unset, .unset, .unset] [(.ref b175)])) (fun t k => st175 t k) ?_
      refine step (T175.setTop (mkF m 104 #[.val (.long p0), .second, .val (.int p1), .val (.int (1 : Int32)), .val (.int z23_111), .val (.int z36_114), .val (.ref aV1), .val (.ref b4_164), .val z83_169, .val z98_172, .unset, .unset, .unset] [(.ref b175), (.ref b175)])) (fun t k => XS.dup X175.here hx rfl (hb hby at_103) rfl rfl k) ?_
      have f178 := (f168.ext E175)
      obtain ⟨_, _, ⟨T179, L179, k179, n179⟩, -, X179, ⟨Lc179, hQ179, l179, y179, z179⟩, st179⟩ := X175.specialBack hx (y := (⟨"com/example/whisman/whisman/connector/HttpFields", "<init>", "()V"⟩ : MethodName)) rfl hown (mvT hZ (hw _ (List.mem_of_getElem? (i := 32) rfl))) (mvT hZ (hw _ (List.mem_of_getElem? (i := 33) rfl))) (mvT hZ (hw _ (List.mem_of_getElem? (i := 34) rfl))) (by decide) (backOf (W := 1) (rm6_5 l Z a0 hw [] b175 aNONE h175 n0 (Nat.le_trans Z0 K175.1) f178 A175 F_entries_b175 gn_b175) hZ (hw _ (List.mem_of_getElem? (i := 34) rfl)) (hw _ (List.mem_of_getElem? (i := 31) rfl)) (by decide) (by decide)) (g := (mkF m 104 #[.val (.long p0), .second, .val (.int p1), .val (.int (1 : Int32)), .val (.int z23_111), .val (.int z36_114), .val (.ref aV1), .val (.ref b4_164), .val z83_169, .val z98_172, .unset, .unset, .unset] [(.ref b175), (.ref b175)])) rfl (by rw [hml]; rfl) (Steps.refl _) (a := b175) (argsL := []) (rest := [(.ref b175)]) (lenOf pd_1 rfl) rfl (by show 2 * 0 + _ ≤ _; exact Nat.le_of_eq rfl) (hb hby at_104) (fun _ _ => ⟨rfl, e175, (by decide : 3 + 0 ≤ _), (by decide : 7 + 0 ≤ _)⟩)
      dsimp only [Pt.U, Pt.locs, Pt.cells, Pt.slots] at X179 l179 y179 z179 st179 hQ179
      subst l179 y179 z179
      obtain ⟨h179, e179⟩ : ∃ z, T179.heap = z := ⟨_, rfl⟩
      rw [e179] at hQ179
      obtain ⟨rfl, N179q, K179q, q0_179⟩ := hQ179
      have N179 := Fr.app N164 N179q
      have f180 := (f165.ext E175)
      have f181 := (f166.ext E175)
      have f182 := (f167.ext E175)
      have K179 : Keep h0 h179 [] := K175.trans K179q (allS (Or.inr sz_b175) all0)
      have f183 := own_staK f180 K179q (allS (own_exaP A175) all0)
      have f184 := own_staK f181 K179q (allS (own_exaP A175) all0)
      have f185 := own_staK f182 K179q (allS (own_exaP A175) all0)
      have f186 := own_staK f178 K179q (allS (own_exaP A175) all0)
      refine step (T179.setTop (mkF m 107 #[.val (.long p0), .second, .val (.int p1), .val (.int (1 : Int32)), .val (.int z23_111), .val (.int z36_114), .val (.ref aV1), .val (.ref b4_164), .val z83_169, .val z98_172, .unset, .unset, .unset] [(.ref b175)])) (fun t k => st179.trans k) ?_
      refine step (T179.setTop (mkF m 109 #[.val (.long p0), .second, .val (.int p1), .val (.int (1 : Int32)), .val (.int z23_111), .val (.int z36_114), .val (.ref aV1), .val (.ref b4_164), .val z83_169, .val z98_172, .val (.ref b175), .unset, .unset] [])) (fun t k => XS.astore X179.here hx rfl (hb hby at_107) rfl rfl (l' := #[.val (.long p0), .second, .val (.int p1), .val (.int (1 : Int32)), .val (.int z23_111), .val (.int z36_114), .val (.ref aV1), .val (.ref b4_164), .val z83_169, .val z98_172, .val (.ref b175), .unset, .unset]) rfl k) ?_
      obtain ⟨T187, h187, X187, e187, E187, A187, D187, -, st187⟩ := newO X179 hx hZ hown (hw _ (List.mem_of_getElem? (i := 40) rfl)) (hw _ (List.mem_of_getElem? (i := 41) rfl)) (hw _ (List.mem_of_getElem? (i := 42) rfl)) e179 (g := (mkF m 109 #[.val (.long p0), .second, .val (.int p1), .val (.int (1 : Int32)), .val (.int z23_111), .val (.int z36_114), .val (.ref aV1), .val (.ref b4_164), .val z83_169, .val z98_172, .val (.ref b175), .unset, .unset] [])) rfl (hb hby at_109) (by decide) (by decide)
      obtain ⟨b187, g187⟩ : ∃ z, z = h179.size := ⟨_, rfl⟩
      rw [← g187] at A187 D187 st187
      have f188 := ((f176.ext E175).keep K179q)
      have ne_aV0_b187 : aV0 ≠ b187 := Nat.ne_of_lt (Nat.lt_of_lt_of_le f188.lt (Nat.le_of_eq g187.symm))
      have f189 := ((f177.ext E175).keep K179q)
      have ne_aV1_b187 : aV1 ≠ b187 := Nat.ne_of_lt (Nat.lt_of_lt_of_le f189.lt (Nat.le_of_eq g187.symm))
      have f190 := ((q0_164.ext E175).keep K179q)
      have ne_b4_164_b187 : b4_164 ≠ b187 := Nat.ne_of_lt (Nat.lt_of_lt_of_le f190.lt (Nat.le_of_eq g187.symm))
      have f191 := ((q3_164.ext E175).keep K179q (ninS ne_b1_5_164_b175 nin0))
      have ne_b1_5_164_b187 : b1_5_164 ≠ b187 := Nat.ne_of_lt (Nat.lt_of_lt_of_le f191.lt (Nat.le_of_eq g187.symm))
      have f192 := (A175.keep K179q)
      have ne_b175_b187 : b175 ≠ b187 := Nat.ne_of_lt (Nat.lt_of_lt_of_le f192.lt (Nat.le_of_eq g187.symm))
      have gn_b187 : n0 ≤ b187 := Nat.le_trans (Nat.le_trans Z0 K179.1) (Nat.le_of_eq g187.symm)
      have sz_b187 : h0.size ≤ b187 := Nat.le_trans K179.1 (Nat.le_of_eq g187.symm)
      have K187 : Keep h0 h187 [] := K179.ext E187
      have F_method_b187 : Fld Z h187 b187 "com/example/whisman/whisman/connector/RequestHead" "method" "Ljava/lang/String;" .null := D187 (Or.inr (hw _ (List.mem_of_getElem? (i := 53) rfl))) (ty := (.object "java/lang/String")) (by decide)
      have F_target_b187 : Fld Z h187 b187 "com/example/whisman/whisman/connector/RequestHead" "target" "Ljava/lang/String;" .null := D187 (Or.inr (hw _ (List.mem_of_getElem? (i := 55) rfl))) (ty := (.object "java/lang/String")) (by decide)
      have F_versionText_b187 : Fld Z h187 b187 "com/example/whisman/whisman/connector/RequestHead" "versionText" "Ljava/lang/String;" .null := D187 (Or.inr (hw _ (List.mem_of_getElem? (i := 57) rfl))) (ty := (.object "java/lang/String")) (by decide)
      have F_version_b187 : Fld Z h187 b187 "com/example/whisman/whisman/connector/RequestHead" "version" "Lcom/example/whisman/whisman/connector/HttpVersion;" .null := D187 (Or.inr (hw _ (List.mem_of_getElem? (i := 59) rfl))) (ty := (.object "com/example/whisman/whisman/connector/HttpVersion")) (by decide)
      have F_fields_b187 : Fld Z h187 b187 "com/example/whisman/whisman/connector/RequestHead" "fields" "Lcom/example/whisman/whisman/connector/HttpFields;" .null := D187 (Or.inr (hw _ (List.mem_of_getElem? (i := 61) rfl))) (ty := (.object "com/example/whisman/whisman/connector/HttpFields")) (by decide)
      have F_path_b187 : Fld Z h187 b187 "com/example/whisman/whisman/connector/RequestHead" "path" "Ljava/lang/String;" .null := D187 (Or.inr (hw _ (List.mem_of_getElem? (i := 63) rfl))) (ty := (.object "java/lang/String")) (by decide)
      have F_query_b187 : Fld Z h187 b187 "com/example/whisman/whisman/connector/RequestHead" "query" "Ljava/lang/String;" .null := D187 (Or.inr (hw _ (List.mem_of_getElem? (i := 65) rfl))) (ty := (.object "java/lang/String")) (by decide)
      have F_authority_b187 : Fld Z h187 b187 "com/example/whisman/whisman/connector/RequestHead" "authority" "Ljava/lang/String;" .null := D187 (Or.inr (hw _ (List.mem_of_getElem? (i := 67) rfl))) (ty := (.object "java/lang/String")) (by decide)
      have F_contentLength_b187 : Fld Z h187 b187 "com/example/whisman/whisman/connector/RequestHead" "contentLength" "J" (.long (0 : Int64)) := D187 (Or.inr (hw _ (List.mem_of_getElem? (i := 69) rfl))) (ty := .long) (by decide)
      have F_chunked_b187 : Fld Z h187 b187 "com/example/whisman/whisman/connector/RequestHead" "chunked" "Z" (.int (0 : Int32)) := D187 (Or.inr (hw _ (List.mem_of_getElem? (i := 71) rfl))) (ty := .boolean) (by decide)
      have F_persistent_b187 : Fld Z h187 b187 "com/example/whisman/whisman/connector/RequestHead" "persistent" "Z" (.int (0 : Int32)) := D187 (Or.inr (hw _ (List.mem_of_getElem? (i := 73) rfl))) (ty := .boolean) (by decide)
      have F_expectsContinue_b187 : Fld Z h187 b187 "com/example/whisman/whisman/connector/RequestHead" "expectsContinue" "Z" (.int (0 : Int32)) := D187 (Or.inr (hw _ (List.mem_of_getElem? (i := 75) rfl))) (ty := .boolean) (by decide)
      refine step (T187.setTop (mkF m 112 #[.val (.long p0), .second, .val (.int p1), .val (.int (1 : Int32)), .val (.int z23_111), .val (.int z36_114), .val (.ref aV1), .val (.ref b4_164), .val z83_169, .val z98_172, .val (.ref b175), .unset, .unset] [(.ref b187)])) (fun t k => st187 t k) ?_
      refine step (T187.setTop (mkF m 113 #[.val (.long p0), .second, .val (.int p1), .val (.int (1 : Int32)), .val (.int z23_111), .val (.int z36_114), .val (.ref aV1), .val (.ref b4_164), .val z83_169, .val z98_172, .val (.ref b175), .unset, .unset] [(.ref b187), (.ref b187)])) (fun t k => XS.dup X187.here hx rfl (hb hby at_112) rfl rfl k) ?_
      refine step (T187.setTop (mkF m 115 #[.val (.long p0), .second, .val (.int p1), .val (.int (1 : Int32)), .val (.int z23_111), .val (.int z36_114), .val (.ref aV1), .val (.ref b4_164), .val z83_169, .val z98_172, .val (.ref b175), .unset, .unset] [(.ref b4_164), (.ref b187), (.ref b187)])) (fun t k => XS.aload X187.here hx rfl (hb hby at_113) rfl rfl k) ?_
      refine step (T187.setTop (mkF m 117 #[.val (.long p0), .second, .val (.int p1), .val (.int (1 : Int32)), .val (.int z23_111), .val (.int z36_114), .val (.ref aV1), .val (.ref b4_164), .val z83_169, .val z98_172, .val (.ref b175), .unset, .unset] [(.ref b4_164), (.ref b4_164), (.ref b187), (.ref b187)])) (fun t k => XS.aload X187.here hx rfl (hb hby at_115) rfl rfl k) ?_
      refine step (T187.setTop (mkF m 119 #[.val (.long p0), .second, .val (.int p1), .val (.int (1 : Int32)), .val (.int z23_111), .val (.int z36_114), .val (.ref aV1), .val (.ref b4_164), .val z83_169, .val z98_172, .val (.ref b175), .unset, .unset] [(.ref b4_164), (.ref b4_164), (.ref b4_164), (.ref b187), (.ref b187)])) (fun t k => XS.aload X187.here hx rfl (hb hby at_117) rfl rfl k) ?_
      refine step (T187.setTop (mkF m 121 #[.val (.long p0), .second, .val (.int p1), .val (.int (1 : Int32)), .val (.int z23_111), .val (.int z36_114), .val (.ref aV1), .val (.ref b4_164), .val z83_169, .val z98_172, .val (.ref b175), .unset, .unset] [(.ref aV1), (.ref b4_164), (.ref b4_164), (.ref b4_164), (.ref b187), (.ref b187)])) (fun t k => XS.aload X187.here hx rfl (hb hby at_119) rfl rfl k) ?_
      refine step (T187.setTop (mkF m 123 #[.val (.long p0), .second, .val (.int p1), .val (.int (1 : Int32)), .val (.int z23_111), .val (.int z36_114), .val (.ref aV1), .val (.ref b4_164), .val z83_169, .val z98_172, .val (.ref b175), .unset, .unset] [(.ref b175), (.ref aV1), (.ref b4_164), (.ref b4_164), (.ref b4_164), (.ref b187), (.ref b187)])) (fun t k => XS.aload X187.here hx rfl (hb hby at_121) rfl rfl k) ?_
      refine step (T187.setTop (mkF m 125 #[.val (.long p0), .second, .val (.int p1), .val (.int (1 : Int32)), .val (.int z23_111), .val (.int z36_114), .val (.ref aV1), .val (.ref b4_164), .val z83_169, .val z98_172, .val (.ref b175), .unset, .unset] [(.ref b4_164), (.ref b175), (.ref aV1), (.ref b4_164), (.ref b4_164), (.ref b4_164), (.ref b187), (.ref b187)])) (fun t k => XS.aload X187.here hx rfl (hb hby at_123) rfl rfl k) ?_
      refine step (T187.setTop (mkF m 127 #[.val (.long p0), .second, .val (.int p1), .val (.int (1 : Int32)), .val (.int z23_111), .val (.int z36_114), .val (.ref aV1), .val (.ref b4_164), .val z83_169, .val z98_172, .val (.ref b175), .unset, .unset] [z83_169, (.ref b4_164), (.ref b175), (.ref aV1), (.ref b4_164), (.ref b4_164), (.ref b4_164), (.ref b187), (.ref b187)])) (fun t k => XS.aload X187.here hx rfl (hb hby at_125) rfl rz83_169 k) ?_
      refine step (T187.setTop (mkF m 129 #[.val (.long p0), .second, .val (.int p1), .val (.int (1 : Int32)), .val (.int z23_111), .val (.int z36_114), .val (.ref aV1), .val (.ref b4_164), .val z83_169, .val z98_172, .val (.ref b175), .unset, .unset] [z98_172, z83_169, (.ref b4_164), (.ref b175), (.ref aV1), (.ref b4_164), (.ref b4_164), (.ref b4_164), (.ref b187), (.ref b187)])) (fun t k => XS.aload X187.here hx rfl (hb hby at_127) rfl rz98_172 k) ?_
      refine step (T187.setTop (mkF m 130 #[.val (.long p0), .second, .val (.int p1), .val (.int (1 : Int32)), .val (.int z23_111), .val (.int z36_114), .val (.ref aV1), .val (.ref b4_164), .val z83_169, .val z98_172, .val (.ref b175), .unset, .unset] [(.long p0), z98_172, z83_169, (.ref b4_164), (.ref b175), (.ref aV1), (.ref b4_164), (.ref b4_164), (.ref b4_164), (.ref b187), (.ref b187)])) (fun t k => XS.lloadN X187.here hx rfl (hb hby at_129) rfl k) ?_
      refine step (T187.setTop (mkF m 131 #[.val (.long p0), .second, .val (.int p1), .val (.int (1 : Int32)), .val (.int z23_111), .val (.int z36_114), .val (.ref aV1), .val (.ref b4_164), .val z83_169, .val z98_172, .val (.ref b175), .unset, .unset] [(.int (1 : Int32)), (.long p0), z98_172, z83_169, (.ref b4_164), (.ref b175), (.ref aV1), (.ref b4_164), (.ref b4_164), (.ref b4_164), (.ref b187), (.ref b187)])) (fun t k => XS.iloadN X187.here hx rfl (hb hby at_130) rfl k) ?_
      refine step (T187.setTop (mkF m 133 #[.val (.long p0), .second, .val (.int p1), .val (.int (1 : Int32)), .val (.int z23_111), .val (.int z36_114), .val (.ref aV1), .val (.ref b4_164), .val z83_169, .val z98_172, .val (.ref b175), .unset, .unset] [(.int z23_111), (.int (1 : Int32)), (.long p0), z98_172, z83_169, (.ref b4_164), (.ref b175), (.ref aV1), (.ref b4_164), (.ref b4_164), (.ref b4_164), (.ref b187), (.ref b187)])) (fun t k => XS.iload X187.here hx rfl (hb hby at_131) rfl k) ?_
      refine step (T187.setTop (mkF m 135 #[.val (.long p0), .second, .val (.int p1), .val (.int (1 : Int32)), .val (.int z23_111), .val (.int z36_114), .val (.ref aV1), .val (.ref b4_164), .val z83_169, .val z98_172, .val (.ref b175), .unset, .unset] [(.int z36_114), (.int z23_111), (.int (1 : Int32)), (.long p0), z98_172, z83_169, (.ref b4_164), (.ref b175), (.ref aV1), (.ref b4_164), (.ref b4_164), (.ref b4_164), (.ref b187), (.ref b187)])) (fun t k => XS.iload X187.here hx rfl (hb hby at_133) rfl k) ?_
      have f193 := (f186.ext E187)
      have f194 := (f190.ext E187)
      have f195 := (f189.ext E187)
      have f196 := (f192.ext E187)
      have f197 := (q0_179.ext E187)
      obtain ⟨_, _, ⟨T198, L198, k198, n198⟩, -, X198, ⟨Lc198, hQ198, l198, y198, z198⟩, st198⟩ := X187.specialBack hx (y := (⟨"com/example/whisman/whisman/connector/RequestHead", "<init>", "(Ljava/lang/String;Ljava/lang/String;Ljava/lang/String;Lcom/example/whisman/whisman/connector/HttpVersion;Lcom/example/whisman/whisman/connector/HttpFields;Ljava/lang/String;Ljava/lang/String;Ljava/lang/String;JZZZ)V"⟩ : MethodName)) rfl hown (mvT hZ (hw _ (List.mem_of_getElem? (i := 43) rfl))) (mvT hZ (hw _ (List.mem_of_getElem? (i := 44) rfl))) (mvT hZ (hw _ (List.mem_of_getElem? (i := 45) rfl))) (by decide) (backOf (W := 1) (rm7_11 l Z a0 hw [] b187 b4_164 aV1 b175 z83_169 z98_172 p0 z23_111 z36_114 aNONE h187 n0 (Nat.le_trans Z0 K187.1) rz83_169 rz98_172 f193 A187 F_authority_b187 F_chunked_b187 F_contentLength_b187 F_expectsContinue_b187 F_fields_b187 F_method_b187 F_path_b187 F_persistent_b187 F_query_b187 F_target_b187 F_version_b187 F_versionText_b187 f194 f195 f196 f197 gn_b187 (Ne.symm ne_b4_164_b187) (Ne.symm ne_aV1_b187) (Ne.symm ne_b175_b187) gn_b4_164 (Ne.symm ne_aV1_b4_164) ne_b4_164_b175 ne_aV1_b175 gn_b175) hZ (hw _ (List.mem_of_getElem? (i := 45) rfl)) (hw _ (List.mem_of_getElem? (i := 42) rfl)) (by decide) (by decide)) (g := (mkF m 135 #[.val (.long p0), .second, .val (.int p1), .val (.int (1 : Int32)), .val (.int z23_111), .val (.int z36_114), .val (.ref aV1), .val (.ref b4_164), .val z83_169, .val z98_172, .val (.ref b175), .unset, .unset] [(.int z36_114), (.int z23_111), (.int (1 : Int32)), (.long p0), z98_172, z83_169, (.ref b4_164), (.ref b175), (.ref aV1), (.ref b4_164), (.ref b4_164), (.ref b4_164), (.ref b187), (.ref b187)])) rfl (by rw [hml]; rfl) (Steps.refl _) (a := b187) (argsL := [(.ref b4_164), (.ref b4_164), (.ref b4_164), (.ref aV1), (.ref b175), (.ref b4_164), z83_169, z98_172, (.long p0), (.int (1 : Int32)), (.int z23_111), (.int z36_114)]) (rest := [(.ref b187)]) (lenOf pd_2 rfl) rfl (by show 2 * 0 + _ ≤ _; exact Nat.le_of_eq rfl) (hb hby at_135) (fun _ _ => ⟨rfl, e187, (by decide : 4 + 0 ≤ _), (by decide : 19 + 0 ≤ _)⟩)
      dsimp only [Pt.U, Pt.locs, Pt.cells, Pt.slots] at X198 l198 y198 z198 st198 hQ198
      subst l198 y198 z198
      obtain ⟨h198, e198⟩ : ∃ z, T198.heap = z := ⟨_, rfl⟩
      rw [e198] at hQ198
      obtain ⟨rfl, N198q, K198q, q0_198, q1_198, q2_198, q3_198, q4_198, q5_198, q6_198, q7_198, q8_198, q9_198, q10_198, q11_198⟩ := hQ198
      have N198 := Fr.app N179 N198q
      have f199 := (f183.ext E187)
      have f200 := (f184.ext E187)
      have f201 := (f185.ext E187)
      have K198 : Keep h0 h198 [] := K187.trans K198q (allS (Or.inr sz_b187) all0)
      have f202 := own_staK f199 K198q (allS (own_exaP A187) all0)
      have f203 := own_staK f200 K198q (allS (own_exaP A187) all0)
      have f204 := own_staK f201 K198q (allS (own_exaP A187) all0)
      have f205 := own_staK f193 K198q (allS (own_exaP A187) all0)
      refine step (T198.setTop (mkF m 138 #[.val (.long p0), .second, .val (.int p1), .val (.int (1 : Int32)), .val (.int z23_111), .val (.int z36_114), .val (.ref aV1), .val (.ref b4_164), .val z83_169, .val z98_172, .val (.ref b175), .unset, .unset] [(.ref b187)])) (fun t k => st198.trans k) ?_
      refine step (T198.setTop (mkF m 140 #[.val (.long p0), .second, .val (.int p1), .val (.int (1 : Int32)), .val (.int z23_111), .val (.int z36_114), .val (.ref aV1), .val (.ref b4_164), .val z83_169, .val z98_172, .val (.ref b175), .val (.ref b187), .unset] [])) (fun t k => XS.astore X198.here hx rfl (hb hby at_138) rfl rfl (l' := #[.val (.long p0), .second, .val (.int p1), .val (.int (1 : Int32)), .val (.int z23_111), .val (.int z36_114), .val (.ref aV1), .val (.ref b4_164), .val z83_169, .val z98_172, .val (.ref b175), .val (.ref b187), .unset]) rfl k) ?_
      refine step (T198.setTop (mkF m 141 #[.val (.long p0), .second, .val (.int p1), .val (.int (1 : Int32)), .val (.int z23_111), .val (.int z36_114), .val (.ref aV1), .val (.ref b4_164), .val z83_169, .val z98_172, .val (.ref b175), .val (.ref b187), .unset] [(.int (1 : Int32))])) (fun t k => XS.iloadN X198.here hx rfl (hb hby at_140) rfl k) ?_
      refine step (T198.setTop (mkF m 144 #[.val (.long p0), .second, .val (.int p1), .val (.int (1 : Int32)), .val (.int z23_111), .val (.int z36_114), .val (.ref aV1), .val (.ref b4_164), .val z83_169, .val z98_172, .val (.ref b175), .val (.ref b187), .unset] [])) (fun t k => XS.ifNo X198.here hx rfl (hb hby at_141) rfl ((if0 _ _).trans (feq (by decide : ¬ ((1 : Int32) = (0 : Int32)))).1) k) ?_
      refine step (T198.setTop (mkF m 145 #[.val (.long p0), .second, .val (.int p1), .val (.int (1 : Int32)), .val (.int z23_111), .val (.int z36_114), .val (.ref aV1), .val (.ref b4_164), .val z83_169, .val z98_172, .val (.ref b175), .val (.ref b187), .unset] [(.int (1 : Int32))])) (fun t k => XS.iconst X198.here hx rfl (hb hby at_144) k) ?_
      refine step (T198.setTop (mkF m 147 #[.val (.long p0), .second, .val (.int p1), .val (.int (1 : Int32)), .val (.int z23_111), .val (.int z36_114), .val (.ref aV1), .val (.ref b4_164), .val z83_169, .val z98_172, .val (.ref b175), .val (.ref b187), .val (.int (1 : Int32))] [])) (fun t k => XS.istore X198.here hx rfl (hb hby at_145) rfl (l' := #[.val (.long p0), .second, .val (.int p1), .val (.int (1 : Int32)), .val (.int z23_111), .val (.int z36_114), .val (.ref aV1), .val (.ref b4_164), .val z83_169, .val z98_172, .val (.ref b175), .val (.ref b187), .val (.int (1 : Int32))]) rfl k) ?_
      refine step (T198.setTop (mkF m 165 #[.val (.long p0), .second, .val (.int p1), .val (.int (1 : Int32)), .val (.int z23_111), .val (.int z36_114), .val (.ref aV1), .val (.ref b4_164), .val z83_169, .val z98_172, .val (.ref b175), .val (.ref b187), .val (.int (1 : Int32))] [])) (fun t k => XS.goto X198.here hx rfl (pc0 := 147) (pc' := 165) rfl (hb hby at_147) (by decide) (by decide) k) ?_
      refine step (T198.setTop (mkF m 167 #[.val (.long p0), .second, .val (.int p1), .val (.int (1 : Int32)), .val (.int z23_111), .val (.int z36_114), .val (.ref aV1), .val (.ref b4_164), .val z83_169, .val z98_172, .val (.ref b175), .val (.ref b187), .val (.int (1 : Int32))] [(.ref b187)])) (fun t k => XS.aload X198.here hx rfl (hb hby at_165) rfl rfl k) ?_
      have f206 := (A187.keep K198q)
      obtain ⟨cq207, kq207, q207a, q207b, q207c⟩ := isOf hZ e198 f206
      obtain ⟨_, _, ⟨T207, L207, k207, n207⟩, -, X207, ⟨Lc207, hQ207, l207, y207, z207⟩, st207⟩ := X198.virtualBack hx (y := (⟨"com/example/whisman/whisman/connector/RequestHead", "hasBody", "()Z"⟩ : MethodName)) (z := (⟨"com/example/whisman/whisman/connector/RequestHead", "hasBody", "()Z"⟩ : MethodName)) hown (mvT hZ (hw _ (List.mem_of_getElem? (i := 76) rfl))) (mvT hZ (hw _ (List.mem_of_getElem? (i := 77) rfl))) (notFace_of_selects (args := #[]) (mvT hZ (hw _ (List.mem_of_getElem? (i := 79) rfl)))) (mvT hZ (hw _ (List.mem_of_getElem? (i := 79) rfl))) (mvT hZ (hw _ (List.mem_of_getElem? (i := 78) rfl))) (by decide) (backOf (W := 0) (rm9_12 l Z a0 hw [] b187 p0 h198 n0 (Nat.le_trans Z0 K198.1) f206 q1_198 q2_198 gn_b187) hZ (hw _ (List.mem_of_getElem? (i := 80) rfl)) (hw _ (List.mem_of_getElem? (i := 42) rfl)) (by decide) (by decide)) q207a q207c (g := (mkF m 167 #[.val (.long p0), .second, .val (.int p1), .val (.int (1 : Int32)), .val (.int z23_111), .val (.int z36_114), .val (.ref aV1), .val (.ref b4_164), .val z83_169, .val z98_172, .val (.ref b175), .val (.ref b187), .val (.int (1 : Int32))] [(.ref b187)])) rfl (by rw [hml]; rfl) (Steps.refl _) (argsL := []) (rest := []) (lenOf pd_3 rfl) rfl (by show 2 * 0 + _ ≤ _; exact Nat.le_of_eq rfl) (hb hby at_167) (fun _ _ => ⟨rfl, e198, (by decide : 4 + 0 ≤ _), (by decide : 19 + 0 ≤ _)⟩)
      dsimp only [Pt.U, Pt.locs, Pt.cells, Pt.slots] at X207 l207 y207 z207 st207 hQ207
      subst l207 y207 z207
      obtain ⟨rfl, N207q, e207q⟩ := hQ207
      have N207 := Fr.app N198 N207q
      refine step (T207.setTop (mkF m 170 #[.val (.long p0), .second, .val (.int p1), .val (.int (1 : Int32)), .val (.int z23_111), .val (.int z36_114), .val (.ref aV1), .val (.ref b4_164), .val z83_169, .val z98_172, .val (.ref b175), .val (.ref b187), .val (.int (1 : Int32))] [(.int (1 : Int32))])) (fun t k => st207.trans k) ?_
      refine step (T207.setTop (mkF m 172 #[.val (.long p0), .second, .val (.int p1), .val (.int (1 : Int32)), .val (.int z23_111), .val (.int z36_114), .val (.ref aV1), .val (.ref b4_164), .val z83_169, .val z98_172, .val (.ref b175), .val (.ref b187), .val (.int (1 : Int32))] [(.int (1 : Int32)), (.int (1 : Int32))])) (fun t k => XS.iload X207.here hx rfl (hb hby at_170) rfl k) ?_
      refine step (T207.setTop (mkF m 175 #[.val (.long p0), .second, .val (.int p1), .val (.int (1 : Int32)), .val (.int z23_111), .val (.int z36_114), .val (.ref aV1), .val (.ref b4_164), .val z83_169, .val z98_172, .val (.ref b175), .val (.ref b187), .val (.int (1 : Int32))] [])) (fun t k => XS.icmpNo X207.here hx rfl (hb hby at_172) rfl (teq (by decide : (1 : Int32) = (1 : Int32))).2 k) ?_
      refine step (T207.setTop (mkF m 176 #[.val (.long p0), .second, .val (.int p1), .val (.int (1 : Int32)), .val (.int z23_111), .val (.int z36_114), .val (.ref aV1), .val (.ref b4_164), .val z83_169, .val z98_172, .val (.ref b175), .val (.ref b187), .val (.int (1 : Int32))] [(.int (1 : Int32))])) (fun t k => XS.iconst X207.here hx rfl (hb hby at_175) k) ?_
      refine step (T207.setTop (mkF m 180 #[.val (.long p0), .second, .val (.int p1), .val (.int (1 : Int32)), .val (.int z23_111), .val (.int z36_114), .val (.ref aV1), .val (.ref b4_164), .val z83_169, .val z98_172, .val (.ref b175), .val (.ref b187), .val (.int (1 : Int32))] [(.int (1 : Int32))])) (fun t k => XS.goto X207.here hx rfl (pc0 := 176) (pc' := 180) rfl (hb hby at_176) (by decide) (by decide) k) ?_
      refine fin (v := some (.int (nar .boolean (1 : Int32)))) X207 (fun h => by cases h) ?_ (by decide) (by decide) (fun fs hr => retN X207 hx (t := .boolean) hret (by simp) (hb hby at_180) hr)
      show Q0 Z p0 p1 cs aV0 aV1 aNONE h0 n0 (some (.int (nar .boolean (1 : Int32)))) T207.heap _
      rw [e207q]
      exact ⟨own_fin rfl, N207⟩
set_option maxRecDepth 65536 in
set_option maxHeartbeats 40000000 in
theorem comes_1 {Post : Tables → Env → Array Value → State → Outcome → State → Prop} (hpost : ∀ tb e args s v u, (limb_1_1.after args s (.returned v) u = true ∧ limb_1_2.after args s (.returned v) u = true ∧ True) → FrameEnd s (.returned v) u (Jvm.fieldLocs frame_1_writes args s ++ Jvm.arrayLocs frame_1_arrays args s ++ Jvm.staticLocs frame_1_statics s) 16 128 → Post tb e args s (.returned v) u) :
    ArmFor flags0 classFile x code maxLocals ret World_1 tables_1 room_1 Calls_1 rest_1 Pre_1 Post := by
  intro l hfl _ _ p e ha hc hk s m args below hf hA hF happ hP
  obtain ⟨hcalls, hrest, hpre⟩ := hP
  obtain ⟨-, -, -, hnamed, -, -, -, hat⟩ := (Spec.applies_iff hf).mp happ
  obtain ⟨hg, hn⟩ := and_e (Cond.before_iff.mp (show (Jvm.Cond.and given_1 narrow_1).before args s = true from hpre))
  obtain ⟨hcount, hr0⟩ := and_e hg
  obtain ⟨ha0, hr1⟩ := and_e hr0
  have ha1 := hr1
  obtain ⟨w0, w1, rfl⟩ : ∃ w0 w1 : Value, args = #[w0, w1] := by
    have hs : args.size = 2 := by simpa [Cond.value, given_1] using hcount
    obtain ⟨L⟩ := args
    match L, hs with
    | [w0, w1], _ => exact ⟨w0, w1, rfl⟩
  have hw := fun d (hd : d ∈ tables_1) => atoms_spec (ws := Jvm.Cond.code x code maxLocals ret :: tables_1) hat d (List.mem_cons_of_mem _ hd)
  have hfit : Fit s := fun {y c} hc i hi => by
    obtain ⟨ha, rfl⟩ := Array.getElem?_eq_some_iff.mp hc
    have q := List.all_eq_true.mp ((Array.all_eq_true_iff_forall_mem.mp hF) _ (Array.getElem_mem ha)) i (List.mem_range.mpr hi)
    simpa [Array.getElem?_eq_getElem hi] using q
  obtain ⟨hsets, hown0⟩ := atoms_of _ (rest_1_c_eq ▸ (show rest_1_c.before _ s = true from hrest))
  have hr00 := Cond.before_iff.mp hown0
  obtain ⟨i0, ei0⟩ := isL_v ha0
  obtain rfl : w0 = (.long i0) := Option.some.inj ei0
  obtain ⟨i1, ei1⟩ := is_v ha1
  obtain rfl : w1 = (.int i1) := Option.some.inj ei1
  have n3 := not_v (Cond.before_iff.mp (hsets _ (List.mem_of_getElem? (i := 2) rfl)))
  obtain ⟨cs, e6⟩ := is_v (Cond.before_iff.mp (hsets _ (List.mem_of_getElem? (i := 1) rfl)))
  have S_cs : Sta s s.heap "java/lang/String" "COMPACT_STRINGS" "Z" (.int cs) := Sta.start e6 (Or.inl (hsets _ (List.mem_of_getElem? (i := 0) rfl)))
  have c_cs : ¬ (cs = (0 : Int32)) := gotF (Cond.eq_ints e6 (Term.int_eval (0))) n3
  obtain ⟨m0a, m0b⟩ := and_e hn
  obtain ⟨m1a, m1b⟩ := and_e m0b
  obtain ⟨m2a, m2b⟩ := and_e m1b
  obtain ⟨aV0, ev_aV0⟩ := exa_v m0a
  have E_aV0 := Exa.start ev_aV0 m0a
  have S_aV0 := Sta.start ev_aV0 (Or.inr ⟨(hw _ (List.mem_of_getElem? (i := 1) rfl)), (hw _ (List.mem_of_getElem? (i := 2) rfl))⟩)
  obtain ⟨aV1, ev_aV1⟩ := exa_v m2b
  have E_aV1 := Exa.start ev_aV1 m2b
  have S_aV1 := Sta.start ev_aV1 (Or.inr ⟨(hw _ (List.mem_of_getElem? (i := 1) rfl)), (hw _ (List.mem_of_getElem? (i := 82) rfl))⟩)
  obtain ⟨aNONE, ev_aNONE⟩ := arr_v m1a
  have S_aNONE := Sta.start ev_aNONE (Or.inr ⟨(hw _ (List.mem_of_getElem? (i := 31) rfl)), (hw _ (List.mem_of_getElem? (i := 37) rfl))⟩)
  obtain ⟨n, o, h1, h2, h3, _, L, rfl, ⟨rfl, N⟩, hq⟩ := rm0 l s _ hw tables_1 i0 i1 cs aV0 aV1 aNONE s.heap s.heap.size (Nat.le_refl _) S_cs c_cs S_aV0 S_aV1 S_aNONE E_aV0 E_aV1 p e ha hc hk s m _ below hf ((Spec.applies_iff_loose hf).mp happ).1 ⟨rfl, State.Warmed39.refl s, rfl⟩ trivial
  refine ⟨n, _, h1, h2, h3, hpost _ _ _ _ _ _ ⟨Cond.after_iff.mpr rfl, Cond.after_iff.mpr (eq_i res_at (Term.int_eval (1)) rfl), trivial⟩ ⟨hq.1, hq.2.1, (hq.2.2.sift fun y hy => Or.inr (N y hy)).mono (by decide) (by decide)⟩⟩
theorem main_1_1 : Claimed_1_1 := comes_1 fun _ _ _ _ _ _ h hF => ⟨h.1, hF⟩
theorem main_1_2 : Claimed_1_2 := comes_1 fun _ _ _ _ _ _ h hF => ⟨h.2.1, hF⟩
end Jvm.Pilot.@@N@@
namespace Jvm.Pilot.@@N@@
open Jvm Jvm.ClassFile Sem Op Lib Jvm.Free Jvm.Stand Jvm.Pilot.@@N@@.Jvm.D
/-! MADE BY PROGRAM (witnessworld.py) out of the Statement's table words and the real class files: 22 classes; the members and pool entries that the words name. The judged class is class 1, her method 1. -/
namespace start1
open Jvm.ClassFile
def u (s : String) : CpInfo := .utf8 (stringToUtf16 s)
/-- a pool by its gaps: so many unusable entries, then the entry; so many at the end -/
def gap : Nat → List CpInfo → List CpInfo
  | 0, r => r
  | n + 1, r => .unusable :: gap n r
def poolList (es : List (Nat × CpInfo)) (last : Nat) : List CpInfo := es.foldr (fun e r => gap e.1 (e.2 :: r)) (gap last [])
def pool (es : List (Nat × CpInfo)) (last : Nat) : Array CpInfo := ⟨poolList es last⟩
def fileOf (pool : Array CpInfo) (this : Nat) (attrs : Array Attribute := #[]) (ms : Array MethodInfo := #[]) (fl : Nat := 33) (sup : Nat := 0) (ifs : Array Nat := #[]) (fds : Array FieldInfo := #[]) : ClassFile where
  minorVersion := 0
  majorVersion := 65
  constantPool := pool
  accessFlags := fl
  thisClass := this
  superClass := sup
  interfaces := ifs
  fields := fds
  methods := ms
  attributes := attrs
def plain (name : String) (sup : Option ClassId) : Class where
  name := name
  kind := .ordinary
  loader := none
  accessFlags := 33
  super := sup
  interfaces := #[]
  cf := none
  fields := #[]
  methods := #[]
  instanceTypes := #[]
  staticTypes := #[]
  resolved := #[]
  callSites := []
  init := .initialized
  statics := none
  mirror := none

def pool0 : Array CpInfo := pool [(5, u "<init>"), (0, u "()V"), (1, .class_ 10), (1, u "java/lang/Object")] 113

def k0c0 : Code := { maxStack := 0, maxLocals := 1, code := object_method_1_code, exceptionTable := #[], attributes := #[] }
def k0m0 : Method := { name := "<init>", desc := "()V", sig := { parameters := [], returnType := none }, accessFlags := 1, code := some k0c0 }
/-- java/lang/Object -/
def k0 : Class := { plain "java/lang/Object" none with
  accessFlags := 33
  interfaces := #[]
  cf := some (fileOf pool0 8 #[] #[{ accessFlags := 1, nameIndex := 5, descriptorIndex := 6, attributes := #[] }] 33 0 #[] #[])
  fields := #[]
  methods := #[k0m0]
  instanceTypes := #[]
  staticTypes := #[]
  resolved := Array.replicate 124 none
  statics := none }

def pool1 : Array CpInfo := pool [(2, .class_ 4), (0, .nameAndType 5 6), (0, u "java/lang/Object"), (0, u "<init>"), (0, u "()V"), (0, .fieldref 8 9), (0, .class_ 10), (0, .nameAndType 11 12), (0, u "com/example/whisman/whisman/connector/HttpVersion"), (0, u "HTTP_1_1"), (0, u "Lcom/example/whisman/whisman/connector/HttpVersion;"), (0, .fieldref 8 14), (0, .nameAndType 15 12), (0, u "HTTP_1_0"), (0, .methodref 17 18), (0, .class_ 19), (0, .nameAndType 20 21), (0, u "java/lang/String"), (0, u "valueOf"), (0, u "(C)Ljava/lang/String;"), (0, .class_ 23), (0, u "com/example/whisman/whisman/connector/HttpFields"), (0, .methodref 22 3), (0, .class_ 26), (0, u "com/example/whisman/whisman/connector/RequestHead"), (0, .methodref 25 28), (0, .nameAndType 5 29), (0, u "(Ljava/lang/String;Ljava/lang/String;Ljava/lang/String;Lcom/example/whisman/whisman/connector/HttpVersion;Lcom/example/whisman/whisman/connector/HttpFields;Ljava/lang/String;Ljava/lang/String;Ljava/lang/String;JZZZ)V"), (0, .methodref 25 31), (0, .nameAndType 32 33), (0, u "hasBody"), (0, u "()Z"), (0, .class_ 35), (0, u "com/example/whisman/whisman/connector/RequestHeadHasBodyPinLaw"), (2, u "law"), (0, u "(JI)Z")] 3

def k1m0 : Method := { name := "<init>", desc := "()V", sig := { parameters := [], returnType := none }, accessFlags := 2, code := none }
def k1c1 : Code := { maxStack := 15, maxLocals := 13, code := code, exceptionTable := #[], attributes := #[] }
def k1m1 : Method := { name := "law", desc := "(JI)Z", sig := { parameters := [.long, .int], returnType := some .boolean }, accessFlags := 9, code := some k1c1 }
/-- com/example/whisman/whisman/connector/RequestHeadHasBodyPinLaw -/
def k1 : Class := { plain "com/example/whisman/whisman/connector/RequestHeadHasBodyPinLaw" (some 0) with
  accessFlags := 49
  interfaces := #[]
  cf := some (fileOf pool1 34 #[] #[{ accessFlags := 2, nameIndex := 5, descriptorIndex := 6, attributes := #[] }, { accessFlags := 9, nameIndex := 38, descriptorIndex := 39, attributes := #[] }] 49 2 #[] #[])
  fields := #[]
  methods := #[k1m0, k1m1]
  instanceTypes := #[]
  staticTypes := #[]
  resolved := Array.replicate 43 none
  statics := none }

def pool2 : Array CpInfo := pool [(1, .class_ 2), (0, u "java/lang/constant/Constable"), (0, .class_ 4), (0, u "java/lang/Object")] 6

/-- java/lang/constant/Constable -/
def k2 : Class := { plain "java/lang/constant/Constable" (some 0) with
  accessFlags := 1537
  interfaces := #[]
  cf := some (fileOf pool2 1 #[] #[] 1537 3 #[] #[])
  fields := #[]
  methods := #[]
  instanceTypes := #[]
  staticTypes := #[]
  resolved := Array.replicate 11 none
  statics := none }

def pool3 : Array CpInfo := pool [(1, .class_ 2), (0, u "java/lang/Comparable"), (0, .class_ 4), (0, u "java/lang/Object")] 7

/-- java/lang/Comparable -/
def k3 : Class := { plain "java/lang/Comparable" (some 0) with
  accessFlags := 1537
  interfaces := #[]
  cf := some (fileOf pool3 1 #[] #[] 1537 3 #[] #[])
  fields := #[]
  methods := #[]
  instanceTypes := #[]
  staticTypes := #[]
  resolved := Array.replicate 12 none
  statics := none }

def pool4 : Array CpInfo := pool [(1, .class_ 2), (0, u "java/io/Serializable"), (0, .class_ 4), (0, u "java/lang/Object")] 2

/-- java/io/Serializable -/
def k4 : Class := { plain "java/io/Serializable" (some 0) with
  accessFlags := 1537
  interfaces := #[]
  cf := some (fileOf pool4 1 #[] #[] 1537 3 #[] #[])
  fields := #[]
  methods := #[]
  instanceTypes := #[]
  staticTypes := #[]
  resolved := Array.replicate 7 none
  statics := none }

def pool5 : Array CpInfo := pool [(2, .class_ 4), (1, u "java/lang/Enum"), (0, u "name"), (0, u "Ljava/lang/String;"), (2, u "ordinal"), (0, u "I"), (1, .class_ 14), (1, u "java/lang/Object"), (4, u "hash"), (86, .class_ 108), (1, u "java/lang/Enum$EnumDesc"), (2, .class_ 112), (0, u "java/lang/constant/Constable"), (0, .class_ 114), (0, u "java/lang/Comparable"), (0, .class_ 116), (0, u "java/io/Serializable")] 87

/-- java/lang/Enum -/
def k5 : Class := { plain "java/lang/Enum" (some 0) with
  accessFlags := 1057
  interfaces := #[2, 3, 4]
  cf := some (fileOf pool5 2 #[.nestMembers #[106]] #[] 1057 12 #[111, 113, 115] #[{ accessFlags := 18, nameIndex := 5, descriptorIndex := 6, attributes := #[] }, { accessFlags := 18, nameIndex := 9, descriptorIndex := 10, attributes := #[] }, { accessFlags := 2, nameIndex := 19, descriptorIndex := 10, attributes := #[] }])
  fields := #[{ name := "name", type := (.object "java/lang/String"), accessFlags := 18, slot := 0, constantValue := 0 }, { name := "ordinal", type := .int, accessFlags := 18, slot := 1, constantValue := 0 }, { name := "hash", type := .int, accessFlags := 2, slot := 2, constantValue := 0 }]
  methods := #[]
  instanceTypes := #[(.object "java/lang/String"), .int, .int]
  staticTypes := #[]
  resolved := Array.replicate 204 none
  statics := none }

def pool6 : Array CpInfo := pool [(1, .class_ 2), (0, u "com/example/whisman/whisman/connector/HttpVersion"), (2, u "HTTP_1_0"), (0, u "Lcom/example/whisman/whisman/connector/HttpVersion;"), (2, u "HTTP_1_1"), (2, u "$VALUES"), (0, u "[Lcom/example/whisman/whisman/connector/HttpVersion;"), (6, .class_ 22), (1, u "java/lang/Enum"), (8, u "text"), (0, u "Ljava/lang/String;")] 26

/-- com/example/whisman/whisman/connector/HttpVersion -/
def k6 : Class := { plain "com/example/whisman/whisman/connector/HttpVersion" (some 5) with
  accessFlags := 16433
  interfaces := #[]
  cf := some (fileOf pool6 1 #[] #[] 16433 20 #[] #[{ accessFlags := 16409, nameIndex := 5, descriptorIndex := 6, attributes := #[] }, { accessFlags := 16409, nameIndex := 9, descriptorIndex := 6, attributes := #[] }, { accessFlags := 18, nameIndex := 31, descriptorIndex := 32, attributes := #[] }, { accessFlags := 4122, nameIndex := 12, descriptorIndex := 13, attributes := #[] }])
  fields := #[{ name := "HTTP_1_0", type := (.object "com/example/whisman/whisman/connector/HttpVersion"), accessFlags := 16409, slot := 0, constantValue := 0 }, { name := "HTTP_1_1", type := (.object "com/example/whisman/whisman/connector/HttpVersion"), accessFlags := 16409, slot := 1, constantValue := 0 }, { name := "text", type := (.object "java/lang/String"), accessFlags := 18, slot := 3, constantValue := 0 }, { name := "$VALUES", type := (.array (.object "com/example/whisman/whisman/connector/HttpVersion")), accessFlags := 4122, slot := 2, constantValue := 0 }]
  methods := #[]
  instanceTypes := #[(.object "java/lang/String"), .int, .int, (.object "java/lang/String")]
  staticTypes := #[(.object "com/example/whisman/whisman/connector/HttpVersion"), (.object "com/example/whisman/whisman/connector/HttpVersion"), (.array (.object "com/example/whisman/whisman/connector/HttpVersion"))]
  resolved := Array.replicate 59 none
  statics := some 0 }

def pool7 : Array CpInfo := pool [(2, .class_ 4), (1, u "java/lang/CharSequence"), (42, .class_ 48), (0, u "java/lang/CharSequence$1CodePointIterator"), (10, .class_ 60), (0, u "java/lang/CharSequence$1CharIterator"), (5, .class_ 67), (0, u "java/lang/Object")] 63

/-- java/lang/CharSequence -/
def k7 : Class := { plain "java/lang/CharSequence" (some 0) with
  accessFlags := 1537
  interfaces := #[]
  cf := some (fileOf pool7 2 #[.nestMembers #[47, 59]] #[] 1537 66 #[] #[])
  fields := #[]
  methods := #[]
  instanceTypes := #[]
  staticTypes := #[]
  resolved := Array.replicate 131 none
  statics := none }

def pool8 : Array CpInfo := pool [(1, .class_ 2), (0, u "java/lang/constant/ConstantDesc"), (0, .class_ 4), (0, u "java/lang/Object")] 32

/-- java/lang/constant/ConstantDesc -/
def k8 : Class := { plain "java/lang/constant/ConstantDesc" (some 0) with
  accessFlags := 1537
  interfaces := #[]
  cf := some (fileOf pool8 1 #[] #[] 1537 3 #[] #[])
  fields := #[]
  methods := #[]
  instanceTypes := #[]
  staticTypes := #[]
  resolved := Array.replicate 37 none
  statics := none }

def pool9 : Array CpInfo := pool [(1, .methodref 2 3), (0, .class_ 4), (0, .nameAndType 5 6), (0, u "java/lang/Object"), (0, u "<init>"), (0, u "()V"), (2, .fieldref 10 11), (0, .class_ 12), (0, .nameAndType 13 14), (0, u "java/lang/String"), (0, u "value"), (0, u "[B"), (0, .fieldref 10 16), (0, .nameAndType 17 18), (0, u "coder"), (0, u "B"), (2, u "hash"), (0, u "I"), (2, u "hashIsZero"), (0, u "Z"), (11, .fieldref 10 39), (0, .nameAndType 40 26), (0, u "COMPACT_STRINGS"), (12, u "toBytes"), (53, .class_ 109), (1, u "java/lang/StringLatin1"), (99, .methodref 10 210), (0, .nameAndType 5 211), (0, u "([BB)V"), (157, u "(C)Z"), (205, .class_ 576), (0, u "java/lang/CharSequence"), (22, u "CASE_INSENSITIVE_ORDER"), (0, u "Ljava/util/Comparator;"), (181, u "valueOf"), (0, u "(C)Ljava/lang/String;"), (231, .methodref 107 1016), (0, .nameAndType 1017 369), (0, u "canEncode"), (0, .methodref 107 1019), (0, .nameAndType 53 1020), (0, u "(C)[B"), (80, u "serialPersistentFields"), (0, u "[Ljava/io/ObjectStreamField;"), (0, .class_ 1104), (0, u "java/lang/String$CaseInsensitiveComparator"), (1, .class_ 1107), (0, u "java/io/Serializable"), (0, .class_ 1109), (0, u "java/lang/Comparable"), (0, .class_ 1111), (0, u "java/lang/constant/Constable"), (0, .class_ 1113), (0, u "java/lang/constant/ConstantDesc"), (2, u "serialVersionUID"), (0, u "J"), (3, u "REPL"), (0, u "C"), (2, u "LATIN1"), (1, u "UTF16")] 323

def k9m0 : Method := { name := "<init>", desc := "()V", sig := { parameters := [], returnType := none }, accessFlags := 1, code := none }
def k9c1 : Code := { maxStack := 4, maxLocals := 1, code := jdk_42_method_139_code, exceptionTable := #[], attributes := #[] }
def k9m1 : Method := { name := "valueOf", desc := "(C)Ljava/lang/String;", sig := { parameters := [.char], returnType := some (.object "java/lang/String") }, accessFlags := 9, code := some k9c1 }
def k9c2 : Code := { maxStack := 2, maxLocals := 3, code := jdk_42_method_151_code, exceptionTable := #[], attributes := #[] }
def k9m2 : Method := { name := "<init>", desc := "([BB)V", sig := { parameters := [(.array .byte), .byte], returnType := none }, accessFlags := 0, code := some k9c2 }
/-- java/lang/String -/
def k9 : Class := { plain "java/lang/String" (some 0) with
  accessFlags := 49
  interfaces := #[4, 3, 7, 2, 8]
  cf := some (fileOf pool9 10 #[.nestMembers #[1103]] #[{ accessFlags := 1, nameIndex := 5, descriptorIndex := 6, attributes := #[] }, { accessFlags := 9, nameIndex := 782, descriptorIndex := 783, attributes := #[] }, { accessFlags := 0, nameIndex := 5, descriptorIndex := 211, attributes := #[] }] 49 2 #[1106, 1108, 575, 1110, 1112] #[{ accessFlags := 18, nameIndex := 13, descriptorIndex := 14, attributes := #[] }, { accessFlags := 18, nameIndex := 17, descriptorIndex := 18, attributes := #[] }, { accessFlags := 2, nameIndex := 21, descriptorIndex := 22, attributes := #[] }, { accessFlags := 2, nameIndex := 25, descriptorIndex := 26, attributes := #[] }, { accessFlags := 26, nameIndex := 1116, descriptorIndex := 1117, attributes := #[] }, { accessFlags := 24, nameIndex := 40, descriptorIndex := 26, attributes := #[] }, { accessFlags := 26, nameIndex := 1101, descriptorIndex := 1102, attributes := #[] }, { accessFlags := 26, nameIndex := 1121, descriptorIndex := 1122, attributes := #[] }, { accessFlags := 25, nameIndex := 599, descriptorIndex := 600, attributes := #[] }, { accessFlags := 24, nameIndex := 1125, descriptorIndex := 18, attributes := #[] }, { accessFlags := 24, nameIndex := 1127, descriptorIndex := 18, attributes := #[] }])
  fields := #[{ name := "value", type := (.array .byte), accessFlags := 18, slot := 0, constantValue := 0 }, { name := "coder", type := .byte, accessFlags := 18, slot := 1, constantValue := 0 }, { name := "hash", type := .int, accessFlags := 2, slot := 2, constantValue := 0 }, { name := "hashIsZero", type := .boolean, accessFlags := 2, slot := 3, constantValue := 0 }, { name := "serialVersionUID", type := .long, accessFlags := 26, slot := 0, constantValue := 0 }, { name := "COMPACT_STRINGS", type := .boolean, accessFlags := 24, slot := 1, constantValue := 0 }, { name := "serialPersistentFields", type := (.array (.object "java/io/ObjectStreamField")), accessFlags := 26, slot := 2, constantValue := 0 }, { name := "REPL", type := .char, accessFlags := 26, slot := 3, constantValue := 0 }, { name := "CASE_INSENSITIVE_ORDER", type := (.object "java/util/Comparator"), accessFlags := 25, slot := 4, constantValue := 0 }, { name := "LATIN1", type := .byte, accessFlags := 24, slot := 5, constantValue := 0 }, { name := "UTF16", type := .byte, accessFlags := 24, slot := 6, constantValue := 0 }]
  methods := #[k9m0, k9m1, k9m2]
  instanceTypes := #[(.array .byte), .byte, .int, .boolean]
  staticTypes := #[.long, .boolean, (.array (.object "java/io/ObjectStreamField")), .char, (.object "java/util/Comparator"), .byte, .byte]
  resolved := Array.replicate 1451 none
  statics := some 1 }

def pool10 : Array CpInfo := pool [(4, .class_ 6), (1, u "java/lang/Object"), (0, u "<init>"), (0, u "()V"), (5, .class_ 16), (1, u "java/lang/StringLatin1"), (73, u "canEncode"), (14, u "(C)Z"), (15, u "$assertionsDisabled"), (0, u "Z"), (98, .class_ 223), (1, u "java/lang/StringLatin1$LinesSpliterator"), (156, u "toBytes"), (1, u "(C)[B"), (7, .class_ 391), (0, u "java/lang/StringLatin1$CharsSpliterator")] 3

def k10m0 : Method := { name := "<init>", desc := "()V", sig := { parameters := [], returnType := none }, accessFlags := 0, code := none }
def k10c1 : Code := { maxStack := 2, maxLocals := 1, code := jdk_43_method_3_code, exceptionTable := #[], attributes := #[] }
def k10m1 : Method := { name := "canEncode", desc := "(C)Z", sig := { parameters := [.char], returnType := some .boolean }, accessFlags := 9, code := some k10c1 }
def k10c2 : Code := { maxStack := 4, maxLocals := 1, code := jdk_43_method_46_code, exceptionTable := #[], attributes := #[] }
def k10m2 : Method := { name := "toBytes", desc := "(C)[B", sig := { parameters := [.char], returnType := some (.array .byte) }, accessFlags := 9, code := some k10c2 }
/-- java/lang/StringLatin1 -/
def k10 : Class := { plain "java/lang/StringLatin1" (some 0) with
  accessFlags := 48
  interfaces := #[]
  cf := some (fileOf pool10 14 #[.nestMembers #[390, 221]] #[{ accessFlags := 0, nameIndex := 7, descriptorIndex := 8, attributes := #[] }, { accessFlags := 9, nameIndex := 90, descriptorIndex := 105, attributes := #[] }, { accessFlags := 9, nameIndex := 380, descriptorIndex := 382, attributes := #[] }] 48 4 #[] #[{ accessFlags := 4120, nameIndex := 121, descriptorIndex := 122, attributes := #[] }])
  fields := #[{ name := "$assertionsDisabled", type := .boolean, accessFlags := 4120, slot := 0, constantValue := 0 }]
  methods := #[k10m0, k10m1, k10m2]
  instanceTypes := #[]
  staticTypes := #[.boolean]
  resolved := Array.replicate 395 none
  statics := none }

def pool11 : Array CpInfo := pool [(1, .methodref 2 3), (0, .class_ 4), (0, .nameAndType 5 6), (0, u "java/lang/Object"), (0, u "<init>"), (0, u "()V"), (0, .fieldref 8 9), (0, .class_ 10), (0, .nameAndType 11 12), (0, u "com/example/whisman/whisman/connector/HttpFields"), (0, u "NONE"), (0, u "[Ljava/lang/String;"), (0, .fieldref 8 14), (0, .nameAndType 15 12), (0, u "entries"), (2, u "size"), (0, u "I"), (69, u "COMMON_NAMES"), (0, u "Ljava/util/List;"), (71, u "FIRST_CAPACITY")] 23

def k11c0 : Code := { maxStack := 2, maxLocals := 1, code := prog_9_method_1_code, exceptionTable := #[], attributes := #[] }
def k11m0 : Method := { name := "<init>", desc := "()V", sig := { parameters := [], returnType := none }, accessFlags := 1, code := some k11c0 }
/-- com/example/whisman/whisman/connector/HttpFields -/
def k11 : Class := { plain "com/example/whisman/whisman/connector/HttpFields" (some 0) with
  accessFlags := 49
  interfaces := #[]
  cf := some (fileOf pool11 8 #[] #[{ accessFlags := 1, nameIndex := 5, descriptorIndex := 6, attributes := #[] }] 49 2 #[] #[{ accessFlags := 26, nameIndex := 11, descriptorIndex := 12, attributes := #[] }, { accessFlags := 26, nameIndex := 89, descriptorIndex := 90, attributes := #[] }, { accessFlags := 26, nameIndex := 162, descriptorIndex := 19, attributes := #[] }, { accessFlags := 2, nameIndex := 15, descriptorIndex := 12, attributes := #[] }, { accessFlags := 2, nameIndex := 18, descriptorIndex := 19, attributes := #[] }])
  fields := #[{ name := "NONE", type := (.array (.object "java/lang/String")), accessFlags := 26, slot := 0, constantValue := 0 }, { name := "COMMON_NAMES", type := (.object "java/util/List"), accessFlags := 26, slot := 1, constantValue := 0 }, { name := "FIRST_CAPACITY", type := .int, accessFlags := 26, slot := 2, constantValue := 0 }, { name := "entries", type := (.array (.object "java/lang/String")), accessFlags := 2, slot := 0, constantValue := 0 }, { name := "size", type := .int, accessFlags := 2, slot := 1, constantValue := 0 }]
  methods := #[k11m0]
  instanceTypes := #[(.array (.object "java/lang/String")), .int]
  staticTypes := #[(.array (.object "java/lang/String")), (.object "java/util/List"), .int]
  resolved := Array.replicate 186 none
  statics := some 2 }

def pool12 : Array CpInfo := pool [(1, .methodref 2 3), (0, .class_ 4), (0, .nameAndType 5 6), (0, u "java/lang/Object"), (0, u "<init>"), (0, u "()V"), (0, .class_ 8), (0, u "java/lang/Record")] 13

def k12c0 : Code := { maxStack := 1, maxLocals := 1, code := jdk_30_method_1_code, exceptionTable := #[], attributes := #[] }
def k12m0 : Method := { name := "<init>", desc := "()V", sig := { parameters := [], returnType := none }, accessFlags := 4, code := some k12c0 }
/-- java/lang/Record -/
def k12 : Class := { plain "java/lang/Record" (some 0) with
  accessFlags := 1057
  interfaces := #[]
  cf := some (fileOf pool12 7 #[] #[{ accessFlags := 4, nameIndex := 5, descriptorIndex := 6, attributes := #[] }] 1057 2 #[] #[])
  fields := #[]
  methods := #[k12m0]
  instanceTypes := #[]
  staticTypes := #[]
  resolved := Array.replicate 22 none
  statics := none }

def pool13 : Array CpInfo := pool [(1, .methodref 2 3), (0, .class_ 4), (0, .nameAndType 5 6), (0, u "java/lang/Record"), (0, u "<init>"), (0, u "()V"), (0, .fieldref 8 9), (0, .class_ 10), (0, .nameAndType 11 12), (0, u "com/example/whisman/whisman/connector/RequestHead"), (0, u "method"), (0, u "Ljava/lang/String;"), (0, .fieldref 8 14), (0, .nameAndType 15 12), (0, u "target"), (0, .fieldref 8 17), (0, .nameAndType 18 12), (0, u "versionText"), (0, .fieldref 8 20), (0, .nameAndType 21 22), (0, u "version"), (0, u "Lcom/example/whisman/whisman/connector/HttpVersion;"), (0, .fieldref 8 24), (0, .nameAndType 25 26), (0, u "fields"), (0, u "Lcom/example/whisman/whisman/connector/HttpFields;"), (0, .fieldref 8 28), (0, .nameAndType 29 12), (0, u "path"), (0, .fieldref 8 31), (0, .nameAndType 32 12), (0, u "query"), (0, .fieldref 8 34), (0, .nameAndType 35 12), (0, u "authority"), (0, .fieldref 8 37), (0, .nameAndType 38 39), (0, u "contentLength"), (0, u "J"), (0, .fieldref 8 41), (0, .nameAndType 42 43), (0, u "chunked"), (0, u "Z"), (0, .fieldref 8 45), (0, .nameAndType 46 43), (0, u "persistent"), (0, .fieldref 8 48), (0, .nameAndType 49 43), (0, u "expectsContinue"), (16, u "(Ljava/lang/String;Ljava/lang/String;Ljava/lang/String;Lcom/example/whisman/whisman/connector/HttpVersion;Lcom/example/whisman/whisman/connector/HttpFields;Ljava/lang/String;Ljava/lang/String;Ljava/lang/String;JZZZ)V"), (5, u "hasBody"), (0, u "()Z")] 45

def k13c0 : Code := { maxStack := 3, maxLocals := 14, code := prog_16_method_1_code, exceptionTable := #[], attributes := #[] }
def k13m0 : Method := { name := "<init>", desc := "(Ljava/lang/String;Ljava/lang/String;Ljava/lang/String;Lcom/example/whisman/whisman/connector/HttpVersion;Lcom/example/whisman/whisman/connector/HttpFields;Ljava/lang/String;Ljava/lang/String;Ljava/lang/String;JZZZ)V", sig := { parameters := [(.object "java/lang/String"), (.object "java/lang/String"), (.object "java/lang/String"), (.object "com/example/whisman/whisman/connector/HttpVersion"), (.object "com/example/whisman/whisman/connector/HttpFields"), (.object "java/lang/String"), (.object "java/lang/String"), (.object "java/lang/String"), .long, .boolean, .boolean, .boolean], returnType := none }, accessFlags := 0, code := some k13c0 }
def k13c1 : Code := { maxStack := 4, maxLocals := 1, code := prog_16_method_3_code, exceptionTable := #[], attributes := #[] }
def k13m1 : Method := { name := "hasBody", desc := "()Z", sig := { parameters := [], returnType := some .boolean }, accessFlags := 0, code := some k13c1 }
/-- com/example/whisman/whisman/connector/RequestHead -/
def k13 : Class := { plain "com/example/whisman/whisman/connector/RequestHead" (some 12) with
  accessFlags := 48
  interfaces := #[]
  cf := some (fileOf pool13 8 #[] #[{ accessFlags := 0, nameIndex := 5, descriptorIndex := 66, attributes := #[] }, { accessFlags := 0, nameIndex := 72, descriptorIndex := 73, attributes := #[] }] 48 2 #[] #[{ accessFlags := 18, nameIndex := 11, descriptorIndex := 12, attributes := #[] }, { accessFlags := 18, nameIndex := 15, descriptorIndex := 12, attributes := #[] }, { accessFlags := 18, nameIndex := 18, descriptorIndex := 12, attributes := #[] }, { accessFlags := 18, nameIndex := 21, descriptorIndex := 22, attributes := #[] }, { accessFlags := 18, nameIndex := 25, descriptorIndex := 26, attributes := #[] }, { accessFlags := 18, nameIndex := 29, descriptorIndex := 12, attributes := #[] }, { accessFlags := 18, nameIndex := 32, descriptorIndex := 12, attributes := #[] }, { accessFlags := 18, nameIndex := 35, descriptorIndex := 12, attributes := #[] }, { accessFlags := 18, nameIndex := 38, descriptorIndex := 39, attributes := #[] }, { accessFlags := 18, nameIndex := 42, descriptorIndex := 43, attributes := #[] }, { accessFlags := 18, nameIndex := 46, descriptorIndex := 43, attributes := #[] }, { accessFlags := 18, nameIndex := 49, descriptorIndex := 43, attributes := #[] }])
  fields := #[{ name := "method", type := (.object "java/lang/String"), accessFlags := 18, slot := 0, constantValue := 0 }, { name := "target", type := (.object "java/lang/String"), accessFlags := 18, slot := 1, constantValue := 0 }, { name := "versionText", type := (.object "java/lang/String"), accessFlags := 18, slot := 2, constantValue := 0 }, { name := "version", type := (.object "com/example/whisman/whisman/connector/HttpVersion"), accessFlags := 18, slot := 3, constantValue := 0 }, { name := "fields", type := (.object "com/example/whisman/whisman/connector/HttpFields"), accessFlags := 18, slot := 4, constantValue := 0 }, { name := "path", type := (.object "java/lang/String"), accessFlags := 18, slot := 5, constantValue := 0 }, { name := "query", type := (.object "java/lang/String"), accessFlags := 18, slot := 6, constantValue := 0 }, { name := "authority", type := (.object "java/lang/String"), accessFlags := 18, slot := 7, constantValue := 0 }, { name := "contentLength", type := .long, accessFlags := 18, slot := 8, constantValue := 0 }, { name := "chunked", type := .boolean, accessFlags := 18, slot := 9, constantValue := 0 }, { name := "persistent", type := .boolean, accessFlags := 18, slot := 10, constantValue := 0 }, { name := "expectsContinue", type := .boolean, accessFlags := 18, slot := 11, constantValue := 0 }]
  methods := #[k13m0, k13m1]
  instanceTypes := #[(.object "java/lang/String"), (.object "java/lang/String"), (.object "java/lang/String"), (.object "com/example/whisman/whisman/connector/HttpVersion"), (.object "com/example/whisman/whisman/connector/HttpFields"), (.object "java/lang/String"), (.object "java/lang/String"), (.object "java/lang/String"), .long, .boolean, .boolean, .boolean]
  staticTypes := #[]
  resolved := Array.replicate 119 none
  statics := none }

def pool14 : Array CpInfo := pool [(2, .class_ 4), (1, u "java/lang/Object"), (0, u "<init>"), (0, u "()V"), (17, .class_ 26), (1, u "jdk/internal/util/Preconditions"), (28, .class_ 56), (0, u "jdk/internal/util/Preconditions$4"), (57, .class_ 115), (0, u "jdk/internal/util/Preconditions$1"), (7, u "SIOOBE_FORMATTER"), (0, u "Ljava/util/function/BiFunction;"), (0, .class_ 126), (0, u "jdk/internal/util/Preconditions$2"), (3, u "AIOOBE_FORMATTER"), (0, .class_ 132), (0, u "jdk/internal/util/Preconditions$3"), (3, u "IOOBE_FORMATTER")] 57

def k14m0 : Method := { name := "<init>", desc := "()V", sig := { parameters := [], returnType := none }, accessFlags := 1, code := none }
/-- jdk/internal/util/Preconditions -/
def k14 : Class := { plain "jdk/internal/util/Preconditions" (some 0) with
  accessFlags := 33
  interfaces := #[]
  cf := some (fileOf pool14 24 #[.nestMembers #[55, 131, 125, 114]] #[{ accessFlags := 1, nameIndex := 5, descriptorIndex := 6, attributes := #[] }] 33 2 #[] #[{ accessFlags := 25, nameIndex := 123, descriptorIndex := 124, attributes := #[] }, { accessFlags := 25, nameIndex := 130, descriptorIndex := 124, attributes := #[] }, { accessFlags := 25, nameIndex := 136, descriptorIndex := 124, attributes := #[] }])
  fields := #[{ name := "SIOOBE_FORMATTER", type := (.object "java/util/function/BiFunction"), accessFlags := 25, slot := 0, constantValue := 0 }, { name := "AIOOBE_FORMATTER", type := (.object "java/util/function/BiFunction"), accessFlags := 25, slot := 1, constantValue := 0 }, { name := "IOOBE_FORMATTER", type := (.object "java/util/function/BiFunction"), accessFlags := 25, slot := 2, constantValue := 0 }]
  methods := #[k14m0]
  instanceTypes := #[]
  staticTypes := #[(.object "java/util/function/BiFunction"), (.object "java/util/function/BiFunction"), (.object "java/util/function/BiFunction")]
  resolved := Array.replicate 194 none
  statics := some 3 }

def pool15 : Array CpInfo := pool [(9, u "<init>"), (6, .class_ 18), (1, u "java/lang/Object"), (0, u "()V"), (1, .class_ 23), (1, u "jdk/internal/util/ArraysSupport"), (0, u "LOG2_ARRAY_LONG_INDEX_SCALE"), (0, u "I"), (2, u "U"), (0, u "Ljdk/internal/misc/Unsafe;"), (8, u "BIG_ENDIAN"), (0, u "Z"), (8, u "LOG2_BYTE_BIT_SIZE"), (4, u "LOG2_ARRAY_INT_INDEX_SCALE"), (54, u "JLA"), (0, u "Ljdk/internal/access/JavaLangAccess;"), (11, u "LOG2_ARRAY_BOOLEAN_INDEX_SCALE"), (9, u "LOG2_ARRAY_BYTE_INDEX_SCALE"), (5, u "LOG2_ARRAY_CHAR_INDEX_SCALE"), (5, u "LOG2_ARRAY_SHORT_INDEX_SCALE"), (18, u "LOG2_ARRAY_FLOAT_INDEX_SCALE"), (24, u "LOG2_ARRAY_DOUBLE_INDEX_SCALE"), (89, u "T_BOOLEAN"), (2, u "T_CHAR"), (1, u "T_FLOAT"), (1, u "T_DOUBLE"), (1, u "T_BYTE"), (1, u "T_SHORT"), (1, u "T_INT"), (1, u "T_LONG"), (1, u "SOFT_MAX_ARRAY_LENGTH")] 83

def k15m0 : Method := { name := "<init>", desc := "()V", sig := { parameters := [], returnType := none }, accessFlags := 2, code := none }
/-- jdk/internal/util/ArraysSupport -/
def k15 : Class := { plain "jdk/internal/util/ArraysSupport" (some 0) with
  accessFlags := 33
  interfaces := #[]
  cf := some (fileOf pool15 21 #[] #[{ accessFlags := 2, nameIndex := 9, descriptorIndex := 19, attributes := #[] }] 33 16 #[] #[{ accessFlags := 24, nameIndex := 28, descriptorIndex := 29, attributes := #[] }, { accessFlags := 26, nameIndex := 38, descriptorIndex := 39, attributes := #[] }, { accessFlags := 25, nameIndex := 121, descriptorIndex := 25, attributes := #[] }, { accessFlags := 25, nameIndex := 131, descriptorIndex := 25, attributes := #[] }, { accessFlags := 25, nameIndex := 137, descriptorIndex := 25, attributes := #[] }, { accessFlags := 25, nameIndex := 143, descriptorIndex := 25, attributes := #[] }, { accessFlags := 25, nameIndex := 53, descriptorIndex := 25, attributes := #[] }, { accessFlags := 25, nameIndex := 24, descriptorIndex := 25, attributes := #[] }, { accessFlags := 25, nameIndex := 162, descriptorIndex := 25, attributes := #[] }, { accessFlags := 25, nameIndex := 187, descriptorIndex := 25, attributes := #[] }, { accessFlags := 26, nameIndex := 48, descriptorIndex := 25, attributes := #[] }, { accessFlags := 25, nameIndex := 277, descriptorIndex := 25, attributes := #[] }, { accessFlags := 25, nameIndex := 280, descriptorIndex := 25, attributes := #[] }, { accessFlags := 25, nameIndex := 282, descriptorIndex := 25, attributes := #[] }, { accessFlags := 25, nameIndex := 284, descriptorIndex := 25, attributes := #[] }, { accessFlags := 25, nameIndex := 286, descriptorIndex := 25, attributes := #[] }, { accessFlags := 25, nameIndex := 288, descriptorIndex := 25, attributes := #[] }, { accessFlags := 25, nameIndex := 290, descriptorIndex := 25, attributes := #[] }, { accessFlags := 25, nameIndex := 292, descriptorIndex := 25, attributes := #[] }, { accessFlags := 26, nameIndex := 108, descriptorIndex := 109, attributes := #[] }, { accessFlags := 25, nameIndex := 294, descriptorIndex := 25, attributes := #[] }])
  fields := #[{ name := "U", type := (.object "jdk/internal/misc/Unsafe"), accessFlags := 24, slot := 0, constantValue := 0 }, { name := "BIG_ENDIAN", type := .boolean, accessFlags := 26, slot := 1, constantValue := 0 }, { name := "LOG2_ARRAY_BOOLEAN_INDEX_SCALE", type := .int, accessFlags := 25, slot := 2, constantValue := 0 }, { name := "LOG2_ARRAY_BYTE_INDEX_SCALE", type := .int, accessFlags := 25, slot := 3, constantValue := 0 }, { name := "LOG2_ARRAY_CHAR_INDEX_SCALE", type := .int, accessFlags := 25, slot := 4, constantValue := 0 }, { name := "LOG2_ARRAY_SHORT_INDEX_SCALE", type := .int, accessFlags := 25, slot := 5, constantValue := 0 }, { name := "LOG2_ARRAY_INT_INDEX_SCALE", type := .int, accessFlags := 25, slot := 6, constantValue := 0 }, { name := "LOG2_ARRAY_LONG_INDEX_SCALE", type := .int, accessFlags := 25, slot := 7, constantValue := 0 }, { name := "LOG2_ARRAY_FLOAT_INDEX_SCALE", type := .int, accessFlags := 25, slot := 8, constantValue := 0 }, { name := "LOG2_ARRAY_DOUBLE_INDEX_SCALE", type := .int, accessFlags := 25, slot := 9, constantValue := 0 }, { name := "LOG2_BYTE_BIT_SIZE", type := .int, accessFlags := 26, slot := 10, constantValue := 0 }, { name := "T_BOOLEAN", type := .int, accessFlags := 25, slot := 11, constantValue := 0 }, { name := "T_CHAR", type := .int, accessFlags := 25, slot := 12, constantValue := 0 }, { name := "T_FLOAT", type := .int, accessFlags := 25, slot := 13, constantValue := 0 }, { name := "T_DOUBLE", type := .int, accessFlags := 25, slot := 14, constantValue := 0 }, { name := "T_BYTE", type := .int, accessFlags := 25, slot := 15, constantValue := 0 }, { name := "T_SHORT", type := .int, accessFlags := 25, slot := 16, constantValue := 0 }, { name := "T_INT", type := .int, accessFlags := 25, slot := 17, constantValue := 0 }, { name := "T_LONG", type := .int, accessFlags := 25, slot := 18, constantValue := 0 }, { name := "JLA", type := (.object "jdk/internal/access/JavaLangAccess"), accessFlags := 26, slot := 19, constantValue := 0 }, { name := "SOFT_MAX_ARRAY_LENGTH", type := .int, accessFlags := 25, slot := 20, constantValue := 0 }]
  methods := #[k15m0]
  instanceTypes := #[]
  staticTypes := #[(.object "jdk/internal/misc/Unsafe"), .boolean, .int, .int, .int, .int, .int, .int, .int, .int, .int, .int, .int, .int, .int, .int, .int, .int, .int, (.object "jdk/internal/access/JavaLangAccess"), .int]
  resolved := Array.replicate 378 none
  statics := none }

def pool16 : Array CpInfo := pool [(1, u "java/lang/Cloneable"), (0, .class_ 1), (0, u "java/lang/Object"), (0, .class_ 3)] 3

/-- java/lang/Cloneable -/
def k16 : Class := { plain "java/lang/Cloneable" (some 0) with
  accessFlags := 1537
  interfaces := #[]
  cf := some (fileOf pool16 2 #[] #[] 1537 4 #[] #[])
  fields := #[]
  methods := #[]
  instanceTypes := #[]
  staticTypes := #[]
  resolved := Array.replicate 8 none
  statics := none }

/-- the primitive byte -/
def k17 : Class := { plain "byte" none with kind := .primitive 'B', accessFlags := 0x411 }
/-- [B -/
def k18 : Class := { plain "[B" (some 0) with kind := .array 17 .byte, interfaces := #[16, 4], accessFlags := 1041 }

/-- the primitive int -/
def k19 : Class := { plain "int" none with kind := .primitive 'I', accessFlags := 0x411 }
/-- [I -/
def k20 : Class := { plain "[I" (some 0) with kind := .array 19 .int, interfaces := #[16, 4], accessFlags := 1041 }

/-- [Ljava/lang/String; -/
def k21 : Class := { plain "[Ljava/lang/String;" (some 0) with kind := .array 9 (.object "java/lang/String"), interfaces := #[16, 4], accessFlags := 1041 }

def heap : Heap := #[{ cls := 6, slots := #[.ref 5, .ref 6, .null], vm := .statics 6 },
  { cls := 9, slots := #[.long 0, .int 1, .null, .int 0, .null, .int 0, .int 0], vm := .statics 9 },
  { cls := 11, slots := #[.ref 4, .null, .int 0], vm := .statics 11 },
  { cls := 14, slots := #[.null, .null, .null], vm := .statics 14 },
  { cls := 21, slots := #[], vm := .none },
  { cls := 6, slots := #[.null, .int 0, .int 0, .null], vm := .none },
  { cls := 6, slots := #[.null, .int 1, .int 0, .null], vm := .none }]
def classes : Array Class := #[k0, k1, k2, k3, k4, k5, k6, k7, k8, k9, k10, k11, k12, k13, k14, k15, k16, k17, k18, k19, k20, k21]
def interned : List (Array UInt16 × Addr) := []
def slotsUsed : Nat := 24
def theMethod : MethodId := ⟨1, 1⟩
def args0 : Array Value := #[.long 5, .int 1]
def aboutOver (below : List Frame) : State where
  vm := { classes := classes, interned := interned.toArray }
  heap := heap
  slotsUsed := slotsUsed
  threads := #[{ frames := .invoking theMethod args0 :: below }]
def below0 : List Frame := [.native { method := ⟨0, 0⟩, args := #[] }]
def about1 : State := aboutOver below0
def p0 : Program := .bare "" "" ""
def e0 : Env := launch0.env 0 0 0
theorem w_frames : about1.frames = Frame.invoking theMethod args0 :: below0 := rfl
set_option maxRecDepth 65536 in
theorem w_args : argsFit about1.vm theMethod args0 = true := by decide +kernel
set_option maxRecDepth 65536 in
theorem w_heap : heapFits about1 = true := by decide +kernel
set_option maxRecDepth 65536 in
theorem w_runnable : about1.curStatus? = some .runnable := by decide +kernel
set_option maxRecDepth 65536 in
theorem w_alone : about1.alone = true := by decide +kernel
set_option maxRecDepth 65536 in
theorem w_named : about1.methodNamed? x = some theMethod := by decide +kernel
set_option maxRecDepth 65536 in
theorem w_hears : about1.hears theMethod below0 = true := by decide +kernel
set_option maxRecDepth 65536 in
theorem w_ripe : about1.ripe theMethod args0 below0 = true := by decide +kernel
theorem w_running : about1.status = .running := rfl
set_option maxRecDepth 65536 in
theorem w_room : about1.hasRoom e0.platform room_1 = true :=
  launch0.hasRoom_least _ room_1 (by decide +kernel) (by decide +kernel) (by decide +kernel) (by decide +kernel) (by decide +kernel) (by decide +kernel)
theorem allAtoms_all (ts : List Jvm.Cond) (a : Array Jvm.Value) (st : Jvm.State) : (allAtoms ts).before a st = ts.all (fun c => c.before a st) := by
  induction ts with
  | nil => rfl
  | cons c t ih =>
    show (Jvm.Cond.and c (allAtoms t)).before a st = _
    rw [Jvm.Cond.before_and, ih, List.all_cons]
def words1 : List Jvm.Cond := Jvm.Cond.code x code maxLocals ret :: tables_1
/-- a 'code' word, met by the world's own term for the bytes: nothing is compared byte by byte -/
theorem code_word {y : MethodName} {bytes : ByteArray} {mx : Nat} {rt : Option FieldType} {a : Array Value} {s : State} {m : MethodId} {meth : Method} {c : Code} (h1 : s.methodNamed? y = some m) (h2 : s.vm.method? m = some meth) (h3 : meth.code = some c) (h4 : c.code = bytes)
    (h5 : (c.maxLocals == mx && c.exceptionTable.isEmpty && decide (c.maxStack ≤ mostOperands) && decide (meth.sig.returnType = rt) && !meth.locks && decide (parseMethodDescriptor y.desc = some meth.sig)) = true) : (Jvm.Cond.code y bytes mx rt).before a s = true := by
  simp only [Bool.and_eq_true, beq_iff_eq, Bool.not_eq_true', decide_eq_true_eq] at h5
  obtain ⟨⟨⟨⟨⟨g1, g2⟩, g3⟩, g4⟩, g5⟩, g6⟩ := h5
  simp [Cond.before, Cond.holds, Cond.value, h1, h2, h3, h4, g1, g2, g3, g4, g5, g6]
def isCode : Jvm.Cond → Bool
  | .code _ _ _ _ => true
  | _ => false
theorem all_split {L : List Jvm.Cond} {P : Jvm.Cond → Bool} (h1 : L.all (fun c => isCode c || P c) = true) (h2 : ∀ c ∈ L.filter isCode, P c = true) : L.all P = true := by
  refine List.all_eq_true.mpr fun c hc => ?_
  have h := List.all_eq_true.mp h1 c hc
  rcases Bool.eq_false_or_eq_true (isCode c) with hi | hi
  · exact h2 c (List.mem_filter.mpr ⟨hc, hi⟩)
  · simpa [hi] using h
set_option maxRecDepth 65536 in
theorem w_c0 : (Jvm.Cond.code x code maxLocals ret).before args0 about1 = true := code_word (m := ⟨1, 1⟩) (meth := k1m1) (c := k1c1) (by decide +kernel) rfl rfl rfl (by decide +kernel)
set_option maxRecDepth 65536 in
theorem w_c1 : (Jvm.Cond.code ({ cls := "java/lang/String", name := "valueOf", desc := "(C)Ljava/lang/String;" } : Jvm.MethodName) jdk_42_method_139_code (1 : Nat) (Option.some (Jvm.ClassFile.FieldType.object "java/lang/String"))).before args0 about1 = true := code_word (m := ⟨9, 1⟩) (meth := k9m1) (c := k9c1) (by decide +kernel) rfl rfl rfl (by decide +kernel)
set_option maxRecDepth 65536 in
theorem w_c2 : (Jvm.Cond.code ({ cls := "java/lang/StringLatin1", name := "canEncode", desc := "(C)Z" } : Jvm.MethodName) jdk_43_method_3_code (1 : Nat) (Option.some Jvm.ClassFile.FieldType.boolean)).before args0 about1 = true := code_word (m := ⟨10, 1⟩) (meth := k10m1) (c := k10c1) (by decide +kernel) rfl rfl rfl (by decide +kernel)
set_option maxRecDepth 65536 in
theorem w_c3 : (Jvm.Cond.code ({ cls := "java/lang/StringLatin1", name := "toBytes", desc := "(C)[B" } : Jvm.MethodName) jdk_43_method_46_code (1 : Nat) (Option.some (Jvm.ClassFile.FieldType.array Jvm.ClassFile.FieldType.byte))).before args0 about1 = true := code_word (m := ⟨10, 2⟩) (meth := k10m2) (c := k10c2) (by decide +kernel) rfl rfl rfl (by decide +kernel)
set_option maxRecDepth 65536 in
theorem w_c4 : (Jvm.Cond.code ({ cls := "java/lang/String", name := "<init>", desc := "([BB)V" } : Jvm.MethodName) jdk_42_method_151_code (3 : Nat) (Option.none : Option Jvm.ClassFile.FieldType)).before args0 about1 = true := code_word (m := ⟨9, 2⟩) (meth := k9m2) (c := k9c2) (by decide +kernel) rfl rfl rfl (by decide +kernel)
set_option maxRecDepth 65536 in
theorem w_c5 : (Jvm.Cond.code ({ cls := "java/lang/Object", name := "<init>", desc := "()V" } : Jvm.MethodName) object_method_1_code (1 : Nat) (Option.none : Option Jvm.ClassFile.FieldType)).before args0 about1 = true := code_word (m := ⟨0, 0⟩) (meth := k0m0) (c := k0c0) (by decide +kernel) rfl rfl rfl (by decide +kernel)
set_option maxRecDepth 65536 in
theorem w_c6 : (Jvm.Cond.code ({ cls := "com/example/whisman/whisman/connector/HttpFields", name := "<init>", desc := "()V" } : Jvm.MethodName) prog_9_method_1_code (1 : Nat) (Option.none : Option Jvm.ClassFile.FieldType)).before args0 about1 = true := code_word (m := ⟨11, 0⟩) (meth := k11m0) (c := k11c0) (by decide +kernel) rfl rfl rfl (by decide +kernel)
set_option maxRecDepth 65536 in
theorem w_c7 : (Jvm.Cond.code ({ cls := "com/example/whisman/whisman/connector/RequestHead", name := "<init>", desc := "(Ljava/lang/String;Ljava/lang/String;Ljava/lang/String;Lcom/example/whisman/whisman/connector/HttpVersion;Lcom/example/whisman/whisman/connector/HttpFields;Ljava/lang/String;Ljava/lang/String;Ljava/lang/String;JZZZ)V" } : Jvm.MethodName) prog_16_method_1_code (14 : Nat) (Option.none : Option Jvm.ClassFile.FieldType)).before args0 about1 = true := code_word (m := ⟨13, 0⟩) (meth := k13m0) (c := k13c0) (by decide +kernel) rfl rfl rfl (by decide +kernel)
set_option maxRecDepth 65536 in
theorem w_c8 : (Jvm.Cond.code ({ cls := "java/lang/Record", name := "<init>", desc := "()V" } : Jvm.MethodName) jdk_30_method_1_code (1 : Nat) (Option.none : Option Jvm.ClassFile.FieldType)).before args0 about1 = true := code_word (m := ⟨12, 0⟩) (meth := k12m0) (c := k12c0) (by decide +kernel) rfl rfl rfl (by decide +kernel)
set_option maxRecDepth 65536 in
theorem w_c9 : (Jvm.Cond.code ({ cls := "com/example/whisman/whisman/connector/RequestHead", name := "hasBody", desc := "()Z" } : Jvm.MethodName) prog_16_method_3_code (1 : Nat) (Option.some Jvm.ClassFile.FieldType.boolean)).before args0 about1 = true := code_word (m := ⟨13, 1⟩) (meth := k13m1) (c := k13c1) (by decide +kernel) rfl rfl rfl (by decide +kernel)
def codes1 : List Jvm.Cond := [Jvm.Cond.code x code maxLocals ret, Jvm.Cond.code ({ cls := "java/lang/String", name := "valueOf", desc := "(C)Ljava/lang/String;" } : Jvm.MethodName) jdk_42_method_139_code (1 : Nat) (Option.some (Jvm.ClassFile.FieldType.object "java/lang/String")), Jvm.Cond.code ({ cls := "java/lang/StringLatin1", name := "canEncode", desc := "(C)Z" } : Jvm.MethodName) jdk_43_method_3_code (1 : Nat) (Option.some Jvm.ClassFile.FieldType.boolean), Jvm.Cond.code ({ cls := "java/lang/StringLatin1", name := "toBytes", desc := "(C)[B" } : Jvm.MethodName) jdk_43_method_46_code (1 : Nat) (Option.some (Jvm.ClassFile.FieldType.array Jvm.ClassFile.FieldType.byte)), Jvm.Cond.code ({ cls := "java/lang/String", name := "<init>", desc := "([BB)V" } : Jvm.MethodName) jdk_42_method_151_code (3 : Nat) (Option.none : Option Jvm.ClassFile.FieldType), Jvm.Cond.code ({ cls := "java/lang/Object", name := "<init>", desc := "()V" } : Jvm.MethodName) object_method_1_code (1 : Nat) (Option.none : Option Jvm.ClassFile.FieldType), Jvm.Cond.code ({ cls := "com/example/whisman/whisman/connector/HttpFields", name := "<init>", desc := "()V" } : Jvm.MethodName) prog_9_method_1_code (1 : Nat) (Option.none : Option Jvm.ClassFile.FieldType), Jvm.Cond.code ({ cls := "com/example/whisman/whisman/connector/RequestHead", name := "<init>", desc := "(Ljava/lang/String;Ljava/lang/String;Ljava/lang/String;Lcom/example/whisman/whisman/connector/HttpVersion;Lcom/example/whisman/whisman/connector/HttpFields;Ljava/lang/String;Ljava/lang/String;Ljava/lang/String;JZZZ)V" } : Jvm.MethodName) prog_16_method_1_code (14 : Nat) (Option.none : Option Jvm.ClassFile.FieldType), Jvm.Cond.code ({ cls := "java/lang/Record", name := "<init>", desc := "()V" } : Jvm.MethodName) jdk_30_method_1_code (1 : Nat) (Option.none : Option Jvm.ClassFile.FieldType), Jvm.Cond.code ({ cls := "com/example/whisman/whisman/connector/RequestHead", name := "hasBody", desc := "()Z" } : Jvm.MethodName) prog_16_method_3_code (1 : Nat) (Option.some Jvm.ClassFile.FieldType.boolean)]
set_option maxRecDepth 65536 in
theorem codes_eq : words1.filter isCode = codes1 := rfl
theorem w_codes : ∀ c ∈ words1.filter isCode, c.before args0 about1 = true := by
  rw [codes_eq]
  intro c hc
  simp only [codes1, List.mem_cons, List.not_mem_nil, or_false] at hc
  rcases hc with rfl | rfl | rfl | rfl | rfl | rfl | rfl | rfl | rfl | rfl
  · exact w_c0
  · exact w_c1
  · exact w_c2
  · exact w_c3
  · exact w_c4
  · exact w_c5
  · exact w_c6
  · exact w_c7
  · exact w_c8
  · exact w_c9
set_option maxRecDepth 65536 in
theorem w_t1 : (words1.take 24).all (fun c => isCode c || c.before args0 about1) = true := by decide +kernel
set_option maxRecDepth 65536 in
theorem w_t2 : ((words1.drop 24).take 24).all (fun c => isCode c || c.before args0 about1) = true := by decide +kernel
set_option maxRecDepth 65536 in
theorem w_t3 : (((words1.drop 24).drop 24).take 24).all (fun c => isCode c || c.before args0 about1) = true := by decide +kernel
set_option maxRecDepth 65536 in
theorem w_t4 : (((words1.drop 24).drop 24).drop 24).all (fun c => isCode c || c.before args0 about1) = true := by decide +kernel
theorem w_tables : (allAtoms (Jvm.Cond.code x code maxLocals ret :: tables_1)).before args0 about1 = true := by
  rw [allAtoms_all]
  show words1.all (fun c => c.before args0 about1) = true
  refine all_split ?_ w_codes
  rw [← List.take_append_drop 24 words1, List.all_append, w_t1, ← List.take_append_drop 24 (words1.drop 24), List.all_append, w_t2, ← List.take_append_drop 24 ((words1.drop 24).drop 24), List.all_append, w_t3, w_t4]
  rfl
set_option maxRecDepth 65536 in
theorem w_rest : rest_1_c.before args0 about1 = true := by decide +kernel
set_option maxRecDepth 65536 in
theorem w_case : (Jvm.Cond.and given_1 narrow_1).before args0 about1 = true := by decide +kernel
theorem w_applies : (headSpec (Jvm.Cond.code x code maxLocals ret :: tables_1) room_1).applies x e0.platform about1 = true :=
  (Spec.applies_iff w_frames).mpr ⟨w_running, w_runnable, w_alone, w_named, w_hears, w_ripe, w_room, w_tables⟩
theorem atStart : AtStart classFile x code maxLocals ret World_1 tables_1 room_1 Calls_1 rest_1 Pre_1 launch0 p0 e0 about1 theMethod args0 below0 :=
  ⟨lists_1, trivial, launch0.admits_env _ _ _, launch0.least_env, fairChoices_fair.cas, fairChoices_fair.clock, w_frames, w_args, w_heap, w_applies, trivial, w_rest, w_case⟩
end start1
theorem witness_1 : WitnessClaimed_1 := ⟨start1.p0, start1.e0, start1.about1, start1.theMethod, start1.args0, start1.below0, start1.atStart⟩
end Jvm.Pilot.@@N@@
