import JvmDerived
import JvmDerived.Pilot.@@N@@Statement
import JvmDerived.Pilot.@@N@@Code
set_option linter.unusedVariables false
set_option linter.unusedSimpArgs false
namespace Jvm.RoadKit
open Sem ClassFile Op Lib Jvm.Stand Jvm.Free Jvm.LawKit
section New
variable {p : Program} {l : Launch} {e : Env} {R : Room} {s : State} {m : MethodId} {args : Array Value} {below : List Frame} {meth : Method} {c : Code} {T : State} {locs : List Loc} {cells slots : Nat}
theorem retI (X : Stand p l e R s m args below meth c T locs cells slots) (hx : p.tables.exec = Jvm.exec) {pc : Nat} {Ls : Array Slot} {z : Int32} {rest : List Value} (hret : meth.sig.returnType = some .int) (hd : decode c.code pc = .ok (.ireturn, 1)) {fs : List Frame}
    (hl : ∀ (f : JFrame) (acts : List Action), f.method = m → f.locked = none → f.entered = [] → (doReturn e (T.setTop f) acts (some (.int z))).1 = T.setFrames fs) : Steps p.tables e below (T.setTop (mkF m pc Ls (.int z :: rest))) (T.setFrames fs) := by
  have hm' : T.vm.method? m = some meth := X.method'
  have hn : narrow .int (.int z) = .int z := rfl
  show Steps p.tables e below (T.setTop { method := m, pc := pc, locals := Ls, stack := _ :: rest, locked := none }) _
  jvm_step X.here [X.here.top, hx, hd, hm', hret, hn]
  first | (intro acts; rw [hl _ acts rfl rfl rfl]) | rw [hl _ _ rfl rfl rfl]
  exact Steps.refl _
end New
end Jvm.RoadKit
namespace Jvm.Pilot.@@N@@
open Jvm Jvm.ClassFile Sem Op Lib Jvm.Free Jvm.Stand Jvm.LawKit Jvm.RoadKit Bundle Jvm.Pilot.@@N@@.Jvm.D
/-- a body's contract, by a walk forwards: G U says that the run from U comes to an end that the contract allows -/
theorem own_body {l : Launch} {Z : State} {y : MethodName} {bytes : ByteArray} {maxL : Nat} {ret : Option FieldType} {ws : List Jvm.Cond} {rm : Room} {as' : Array Value} {h0 : Heap} {Q : Option Value → Heap → List Loc → Prop} (hpl : plainFor y = true)
    (body : ∀ (p : Program) (e : Env) (s : State) (m : MethodId) (below : List Frame) (meth : Method) (c : Code) (s₁ : State) (G : State → Prop),
      p.tables.exec = Jvm.exec → c.code = bytes → c.maxLocals = maxL → Z.Warmed39 s.vm → s.vm.findClass y.cls = some m.cls → meth.name = y.name → meth.sig.returnType = ret →
      Stand p l e rm s m as' below meth c s₁ [] 0 0 → s₁.heap = h0 →
      (∀ (U' : State) {U : State}, (∀ t, Steps p.tables e below U' t → Steps p.tables e below U t) → G U' → G U) →
      (∀ {U T : State} {locs : List Loc} {cells slots : Nat} {v : Option Value}, Stand p l e rm s m as' below meth c T locs cells slots → (ret = none → v = none) → Q v T.heap locs → cells ≤ rm.cells → slots ≤ rm.slots →
        (∀ fs, (∀ (f : JFrame) (acts : List Action), f.method = m → f.locked = none → f.entered = [] → (doReturn e (T.setTop f) acts v).1 = T.setFrames fs) → Steps p.tables e below U (T.setFrames fs)) → G U) →
      G (s₁.setTop (entryFrame m as' maxL))) :
    MetFree l y (head1 (Jvm.Cond.code y bytes maxL ret :: ws) rm) (fun a U => a = as' ∧ Z.Warmed39 U.vm ∧ U.heap = h0) (fun _ _ _ _ _ => True) (fun _ U o U' => ∃ v L, o = .returned v ∧ Q v U'.heap L ∧ FrameEnd U o U' L rm.cells rm.slots) := by
  refine MetFree.of_bodySF hpl hisR ?_
  intro p e s m args below meth c s₁ Bd hml0 hP hK
  obtain ⟨rfl, hZ, hh⟩ := hP
  have hnm := (name_of_methodNamed Bd.named Bd.method).1
  exact body p e s m below meth c s₁ (fun U => ∃ s₂ o, Steps p.tables e below U s₂ ∧ s₂.status = .running ∧ Ended s₂ below o ∧ ∃ v L, o = .returned v ∧ Q v s₂.heap L ∧ FrameEnd s o s₂ L rm.cells rm.slots)
    Bd.exec Bd.bytes hml0 hZ (findClass_of_methodNamed Bd.named) hnm Bd.returns (Stand.of_body Bd) (by rw [← hh, Bd.state]; rfl)
    (fun U' U h k => by obtain ⟨s₂, o, h1, h2⟩ := k; exact ⟨s₂, o, h _ h1, h2⟩)
    (fun {U T locs cells slots v} X hv hQ hc hs hst => by
      obtain ⟨fs, hr, hrun, hended, hW, hsame⟩ := X.leave (v := v) (fun h => hv (by rw [← Bd.returns]; exact h))
      exact ⟨_, _, hst fs hr, hrun, hended, v, locs, rfl, hQ, ⟨_, rfl⟩, hW, hsame.mono hc hs⟩)
/-- the same, of a body that may intern String constants on its way -/
theorem own_bodyW {l : Launch} {Z : State} {y : MethodName} {bytes : ByteArray} {maxL : Nat} {ret : Option FieldType} {ws : List Jvm.Cond} {rm : Room} {as' : Array Value} {h0 : Heap} {Q : Option Value → Heap → List Loc → Prop} (hpl : plainFor y = true)
    (body : ∀ (p : Program) (e : Env) (s : State) (m : MethodId) (below : List Frame) (meth : Method) (c : Code) (s₁ : State) (G : State → Prop) (vm0 : Vm) (k0 : Nat),
      p.tables.exec = Jvm.exec → c.code = bytes → c.maxLocals = maxL → Z.Warmed39 vm0 → vm0.findClass y.cls = some m.cls → meth.name = y.name → meth.sig.returnType = ret → s.Since vm0 k0 → k0 ≤ h0.size →
      Stand p l e rm (s.setVm vm0) m as' below meth c s₁ [] 0 0 → s₁.heap = h0 →
      (∀ (U' : State) {U : State}, (∀ t, Steps p.tables e below U' t → Steps p.tables e below U t) → G U' → G U) →
      (∀ {U T : State} {locs : List Loc} {cells slots : Nat} {v : Option Value} {vm1 : Vm} {k1 : Nat}, Stand p l e rm (s.setVm vm1) m as' below meth c T locs cells slots → s.Since vm1 k1 → k1 ≤ T.heap.size → (ret = none → v = none) → Q v T.heap locs → cells ≤ rm.cells → slots ≤ rm.slots →
        (∀ fs, (∀ (f : JFrame) (acts : List Action), f.method = m → f.locked = none → f.entered = [] → (doReturn e (T.setTop f) acts v).1 = T.setFrames fs) → Steps p.tables e below U (T.setFrames fs)) → G U) →
      G (s₁.setTop (entryFrame m as' maxL))) :
    MetFree l y (head1 (Jvm.Cond.code y bytes maxL ret :: ws) rm) (fun a U => a = as' ∧ Z.Warmed39 U.vm ∧ U.heap = h0) (fun _ _ _ _ _ => True) (fun _ U o U' => ∃ v L, o = .returned v ∧ Q v U'.heap L ∧ ReturnedEndW U o U' L rm.cells rm.slots) := by
  refine MetFree.of_bodySF hpl hisR ?_
  intro p e s m args below meth c s₁ Bd hml0 hP hK
  obtain ⟨rfl, hZ, hh⟩ := hP
  have hnm := (name_of_methodNamed Bd.named Bd.method).1
  have X0 := Stand.of_body Bd
  exact body p e s m below meth c s₁ (fun U => ∃ s₂ o, Steps p.tables e below U s₂ ∧ s₂.status = .running ∧ Ended s₂ below o ∧ ∃ v L, o = .returned v ∧ Q v s₂.heap L ∧ ReturnedEndW s o s₂ L rm.cells rm.slots)
    s.vm h0.size Bd.exec Bd.bytes hml0 hZ (findClass_of_methodNamed Bd.named) hnm Bd.returns ((State.WarmedH.refl s).since _) (Nat.le_refl _) X0 (by rw [← hh, Bd.state]; rfl)
    (fun U' U h k => by obtain ⟨s₂, o, h1, h2⟩ := k; exact ⟨s₂, o, h _ h1, h2⟩)
    (fun {U T locs cells slots v vm1 k1} X hS hk hv hQ hc hs hst => by
      obtain ⟨fs, hr, hrun, hended, hE⟩ := X.leaveW hS hk (v := v) (fun h => hv (by rw [← Bd.returns]; exact h))
      exact ⟨_, _, hst fs hr, hrun, hended, v, locs, rfl, hQ, hE.1, hE.2.1, hE.2.2.1, hE.2.2.2.mono hc hs⟩)
theorem own_fin {z : Int32} (h : z = 1) : some (Value.int (nar .boolean z)) = some (.int 1) := by subst h; rfl
theorem own_and3 (p : Int32) : p &&& 3 = 0 ∨ p &&& 3 = 1 ∨ p &&& 3 = 2 ∨ p &&& 3 = 3 := by
  have h := c_mask p 3 2 (by decide) (by decide)
  have h4 : (p &&& 3).toInt = 0 ∨ (p &&& 3).toInt = 1 ∨ (p &&& 3).toInt = 2 ∨ (p &&& 3).toInt = 3 := by omega
  rcases h4 with h | h | h | h
  · exact Or.inl (Int32.toInt_inj.mp h)
  · exact Or.inr (Or.inl (Int32.toInt_inj.mp h))
  · exact Or.inr (Or.inr (Or.inl (Int32.toInt_inj.mp h)))
  · exact Or.inr (Or.inr (Or.inr (Int32.toInt_inj.mp h)))
theorem own_eqi {args : Array Value} {s : State} {t : Term} {n : Int32} (h : (Jvm.Cond.eq t (.int n)).value args s none s [] = some true) : t.eval args s none [] s = some (.int n) := by
  simp only [Cond.value, Term.eval] at h
  cases ht : t.eval args s none [] s with
  | none => simp [ht] at h
  | some x => cases x <;> simp [ht] at h ⊢; exact h
theorem own_irr {x : Int32} : ¬ (x < x) := by rw [Int32.lt_iff_toInt_lt]; omega
theorem own_selP {args : Array Value} {s : State} {y : MethodName} {k : Nat} (hinst : (Jvm.Cond.instanceMethod y).before args s = true) (hi : (Jvm.Cond.instantiable y.cls k).before args s = true) (hp : s.PrivateAt y) (hy : y.cls ≠ "java/lang/invoke/MethodHandle" ∧ y.cls ≠ "java/lang/invoke/VarHandle") : (Jvm.Cond.selects y.cls y y).before args s = true := by
  obtain ⟨m, meth, hn, hm, -, -⟩ := Cond.instanceMethod_spec hinst
  obtain ⟨c, kk, h1, h2, -, h4, -⟩ := Cond.instantiable_spec hi
  have hf := State.methodFound?_of_named hn hy
  have hc := findClass_of_methodNamed hn
  cases h1.symm.trans hc
  have hs := selectMethod_private (p := {}) (c := m.cls) hm (hp m meth hn hm)
  have h5 : kk.isInterface = false := by simp only [Bool.or_eq_false_iff] at h4; exact h4.1
  simp [Cond.before, Cond.holds, Cond.value, hc, hf, hn, hs, h2, h5]
theorem own_add0 (x : Int32) : x = (x + (0 : Int32)) := (Int32.add_zero x).symm
theorem own_nn (x y : Int32) (h : (x &&& (2147483647 : Int32)) = y) : ¬ (y < (0 : Int32)) := by
  subst h
  have h := c_mask x 2147483647 31 (by decide) (by decide)
  rw [Int32.lt_iff_toInt_lt]
  have e : (0 : Int32).toInt = 0 := by decide
  omega
theorem own_255 (x y : Int32) (h : ((x &&& (255 : Int32)).toUInt32.toUInt16.toUInt32.toInt32) = y) : ¬ ((255 : Int32) < y) := by
  subst h
  have h := c_mask x 255 8 (by decide) (by decide)
  have h2 := c_i2c (x &&& 255)
  rw [Int32.lt_iff_toInt_lt]
  have e : (255 : Int32).toInt = 255 := by decide
  omega
theorem own_exaP {Z : State} {h : Heap} {a : Addr} {C : String} (F : Exa Z h a C) : ∀ cell : Cell, h[a]? = some cell → cell.vm.isStatics = false := fun cell q => by
  obtain ⟨c', _, h1, -, -, h4, -⟩ := F
  cases h1.symm.trans q
  exact h4
theorem own_arvP {Z : State} {h : Heap} {a : Addr} {k : ClassId} {ty : FieldType} {z : Int32} {vs : List Value} {dv : Value} (F : Arv Z h a k ty z vs dv) : ∀ cell : Cell, h[a]? = some cell → cell.vm.isStatics = false := fun cell q => by
  obtain ⟨c', A, -⟩ := F
  cases A.1.symm.trans q
  exact A.plain
theorem own_staK {Z : State} {h h' : Heap} {ws : List Addr} {C n d : String} {v : Value} (F : Sta Z h C n d v) (K : Keep h h' ws) (q : ∀ x ∈ ws, ∀ cell : Cell, h[x]? = some cell → cell.vm.isStatics = false) : Sta Z h' C n d v := by
  obtain ⟨cf, i, k, f, st, cell, h1, h2, h3, h4, h5, h6, h7⟩ := F
  exact ⟨cf, i, k, f, st, cell, h1, h2, h3, h4, K.2.1 st cell h5 (fun hm => by rw [q st hm cell h5] at h6; cases h6), h6, h7⟩
theorem own_arr0 {args : Array Value} {s : State} {t : Term} {a : Addr} {ty : FieldType} {dv : Value} (hf : Fit s) (ev : t.eval args s none [] s = some (.ref a)) (hA : (Jvm.Cond.arrayOf t ty).value args s none s [] = some true) (hl : (Jvm.Cond.eq (.length t) (.int 0)).value args s none s [] = some true) : ∃ k, Arv s s.heap a k ty 0 [] dv := by
  obtain ⟨c, A⟩ := Arr.start ev hA
  have h0 := own_eqi hl
  obtain ⟨a', cell, e1, e2, e3⟩ := Term.length_spec h0
  cases ev.symm.trans e1
  have e4 : s.arrayAt? a = some c := Arr.fin (U := s) (Vm.Alike.refl _) A
  cases e4.symm.trans e2
  have hq : c.slots.size < 2 ^ 31 := by
    by_cases q : c.slots.size < 2 ^ 31
    · exact q
    · simp [Term.eval, ev, e4, q] at h0
  have e5 : c.slots.size.toInt32 = 0 := by injection e3 with e; exact e.symm
  exact ⟨_, Arv.start hf A hq e5 (by decide) rfl trivial⟩
theorem own_255n (x y : Int32) (h : ((x &&& (255 : Int32)).toUInt32.toUInt16.toUInt32.toInt32) = y) : ¬ ((255 : Int32) < (nar .char y)) := by
  have h1 := own_255 x y h
  have h0 := (c_i2c (x &&& 255)).2.1
  rw [h] at h0
  have h2 : (nar .char y).toInt = (y.toUInt32.toUInt16.toUInt32.toInt32).toInt := rfl
  have h3 := c_i2c y
  rw [Int32.lt_iff_toInt_lt] at *
  have e : (255 : Int32).toInt = 255 := by decide
  omega
theorem own_tri (a b : Int64) : (a < b ∧ ¬ a = b ∧ ¬ b = a ∧ ¬ b < a) ∨ (¬ a < b ∧ a = b ∧ b = a ∧ ¬ b < a) ∨ (¬ a < b ∧ ¬ a = b ∧ ¬ b = a ∧ b < a) := by
  simp only [Int64.lt_iff_toInt_lt, ← Int64.toInt_inj]
  omega
def own_ap {α β : Type} (e : α) (F : α → β) : β := F e
theorem own_let {α β : Type} {z e : α} {F : α → β} {g : β} (h : z = e) (k : g = F z) : g = own_ap e F := by subst h; exact k
theorem pn_0 : plainName "com/example/vertex_to_service/vertextoservice/core/ChoicesOfPinLaw" = true := by first | (simp [plainName, overriddenIn]; done) | decide +kernel
theorem pd_0 : parseMethodDescriptor "(II)Lcom/example/vertex_to_service/vertextoservice/core/Choices;" = some ⟨[.int, .int], some (.object "com/example/vertex_to_service/vertextoservice/core/Choices")⟩ := by decide +kernel
theorem pd_1 : parseMethodDescriptor "([I)V" = some ⟨[(.array .int)], none⟩ := by decide +kernel
theorem pd_2 : parseMethodDescriptor "(IIII)I" = some ⟨[.int, .int, .int, .int], some .int⟩ := by decide +kernel
theorem pd_3 : parseMethodDescriptor "(Lcom/example/vertex_to_service/vertextoservice/core/Choices;)Z" = some ⟨[(.object "com/example/vertex_to_service/vertextoservice/core/Choices")], some .boolean⟩ := by decide +kernel
theorem d1_0 : decode prog_10_method_2_code 0 = .ok (.new 8, 3) := by decide +kernel
theorem d1_3 : decode prog_10_method_2_code 3 = .ok (.dup, 1) := by decide +kernel
theorem d1_4 : decode prog_10_method_2_code 4 = .ok (.iload_n 0, 1) := by decide +kernel
theorem d1_5 : decode prog_10_method_2_code 5 = .ok (.iload_n 1, 1) := by decide +kernel
theorem d1_6 : decode prog_10_method_2_code 6 = .ok (.aconst_null, 1) := by decide +kernel
theorem d1_7 : decode prog_10_method_2_code 7 = .ok (.aconst_null, 1) := by decide +kernel
theorem d1_8 : decode prog_10_method_2_code 8 = .ok (.iload_n 0, 1) := by decide +kernel
theorem d1_9 : decode prog_10_method_2_code 9 = .ok (.iload_n 0, 1) := by decide +kernel
theorem d1_10 : decode prog_10_method_2_code 10 = .ok (.invokespecial 29, 3) := by decide +kernel
theorem d1_13 : decode prog_10_method_2_code 13 = .ok (.areturn, 1) := by decide +kernel
theorem pn_1 : plainName "com/example/vertex_to_service/vertextoservice/core/Choices" = true := by first | (simp [plainName, overriddenIn]; done) | decide +kernel
theorem pd_4 : parseMethodDescriptor "(IILcom/example/vertex_to_service/vertextoservice/core/Choices;Lcom/example/vertex_to_service/vertextoservice/core/Choices;II)V" = some ⟨[.int, .int, (.object "com/example/vertex_to_service/vertextoservice/core/Choices"), (.object "com/example/vertex_to_service/vertextoservice/core/Choices"), .int, .int], none⟩ := by decide +kernel
theorem d2_0 : decode prog_10_method_1_code 0 = .ok (.aload_n 0, 1) := by decide +kernel
theorem d2_1 : decode prog_10_method_1_code 1 = .ok (.invokespecial 1, 3) := by decide +kernel
theorem d2_4 : decode prog_10_method_1_code 4 = .ok (.aload_n 0, 1) := by decide +kernel
theorem d2_5 : decode prog_10_method_1_code 5 = .ok (.iload_n 1, 1) := by decide +kernel
theorem d2_6 : decode prog_10_method_1_code 6 = .ok (.putfield 7, 3) := by decide +kernel
theorem d2_9 : decode prog_10_method_1_code 9 = .ok (.aload_n 0, 1) := by decide +kernel
theorem d2_10 : decode prog_10_method_1_code 10 = .ok (.iload_n 2, 1) := by decide +kernel
theorem d2_11 : decode prog_10_method_1_code 11 = .ok (.putfield 13, 3) := by decide +kernel
theorem d2_14 : decode prog_10_method_1_code 14 = .ok (.aload_n 0, 1) := by decide +kernel
theorem d2_15 : decode prog_10_method_1_code 15 = .ok (.aload_n 3, 1) := by decide +kernel
theorem d2_16 : decode prog_10_method_1_code 16 = .ok (.putfield 16, 3) := by decide +kernel
theorem d2_19 : decode prog_10_method_1_code 19 = .ok (.aload_n 0, 1) := by decide +kernel
theorem d2_20 : decode prog_10_method_1_code 20 = .ok (.aload 4, 2) := by decide +kernel
theorem d2_22 : decode prog_10_method_1_code 22 = .ok (.putfield 20, 3) := by decide +kernel
theorem d2_25 : decode prog_10_method_1_code 25 = .ok (.aload_n 0, 1) := by decide +kernel
theorem d2_26 : decode prog_10_method_1_code 26 = .ok (.iload 5, 2) := by decide +kernel
theorem d2_28 : decode prog_10_method_1_code 28 = .ok (.putfield 23, 3) := by decide +kernel
theorem d2_31 : decode prog_10_method_1_code 31 = .ok (.aload_n 0, 1) := by decide +kernel
theorem d2_32 : decode prog_10_method_1_code 32 = .ok (.iload 6, 2) := by decide +kernel
theorem d2_34 : decode prog_10_method_1_code 34 = .ok (.putfield 26, 3) := by decide +kernel
theorem d2_37 : decode prog_10_method_1_code 37 = .ok (.return_, 1) := by decide +kernel
theorem pd_5 : parseMethodDescriptor "()V" = some ⟨[], none⟩ := by decide +kernel
theorem ef_2_2 (m : MethodId) (x0 : Addr) (x2 : Int32) : entryFrame m #[(.ref x0), (.int (0 : Int32)), (.int x2), .null, .null, (.int (0 : Int32)), (.int (0 : Int32))] 7 = mkF m 0 #[.val (.ref x0), .val (.int (0 : Int32)), .val (.int x2), .val .null, .val .null, .val (.int (0 : Int32)), .val (.int (0 : Int32))] [] := by first | (simp [entryFrame, mkF, argsToLocals, Value.category]; done) | rfl
def Q2_2 (Z : State) (o1 : Addr) (i1 : Int32) (h0 : Heap) (n0 : Nat) (v : Option Value) (h : Heap) (L : List Loc) : Prop := v = none ∧ Fr n0 L ∧ Keep h0 h [o1] ∧ Fld Z h o1 "com/example/vertex_to_service/vertextoservice/core/Choices" "candidate" "I" (.int i1) ∧ Fld Z h o1 "com/example/vertex_to_service/vertextoservice/core/Choices" "first" "Lcom/example/vertex_to_service/vertextoservice/core/Choices;" .null ∧ Fld Z h o1 "com/example/vertex_to_service/vertextoservice/core/Choices" "high" "I" (.int (0 : Int32)) ∧ Fld Z h o1 "com/example/vertex_to_service/vertextoservice/core/Choices" "low" "I" (.int (0 : Int32)) ∧ Fld Z h o1 "com/example/vertex_to_service/vertextoservice/core/Choices" "second" "Lcom/example/vertex_to_service/vertextoservice/core/Choices;" .null ∧ Fld Z h o1 "com/example/vertex_to_service/vertextoservice/core/Choices" "vertex" "I" (.int (0 : Int32))
set_option maxRecDepth 65536 in
set_option maxHeartbeats 40000000 in
theorem rm2_2 (l : Launch) (Z : State) (a0 : Array Value) (hw : ∀ d ∈ tables_1, d.before a0 Z = true) (ws : List Jvm.Cond) (o1 : Addr) (i1 : Int32) (h0 : Heap) (n0 : Nat) (Z0 : n0 ≤ h0.size) (Pm0 : Exa Z h0 o1 "com/example/vertex_to_service/vertextoservice/core/Choices") (Pm1 : Fld Z h0 o1 "com/example/vertex_to_service/vertextoservice/core/Choices" "candidate" "I" (.int (0 : Int32))) (Pm2 : Fld Z h0 o1 "com/example/vertex_to_service/vertextoservice/core/Choices" "first" "Lcom/example/vertex_to_service/vertextoservice/core/Choices;" .null) (Pm3 : Fld Z h0 o1 "com/example/vertex_to_service/vertextoservice/core/Choices" "high" "I" (.int (0 : Int32))) (Pm4 : Fld Z h0 o1 "com/example/vertex_to_service/vertextoservice/core/Choices" "low" "I" (.int (0 : Int32))) (Pm5 : Fld Z h0 o1 "com/example/vertex_to_service/vertextoservice/core/Choices" "second" "Lcom/example/vertex_to_service/vertextoservice/core/Choices;" .null) (Pm6 : Fld Z h0 o1 "com/example/vertex_to_service/vertextoservice/core/Choices" "vertex" "I" (.int (0 : Int32))) (gn_o1 : n0 ≤ o1)  :
    MetFree l (⟨"com/example/vertex_to_service/vertextoservice/core/Choices", "<init>", "(IILcom/example/vertex_to_service/vertextoservice/core/Choices;Lcom/example/vertex_to_service/vertextoservice/core/Choices;II)V"⟩ : MethodName) (head1 (Jvm.Cond.code (⟨"com/example/vertex_to_service/vertextoservice/core/Choices", "<init>", "(IILcom/example/vertex_to_service/vertextoservice/core/Choices;Lcom/example/vertex_to_service/vertextoservice/core/Choices;II)V"⟩ : MethodName) prog_10_method_1_code 7 none :: ws) ({ frames := 1, cells := 0, slots := 0, locals := 12 } : Room)) (fun a U => a = #[(.ref o1), (.int (0 : Int32)), (.int i1), .null, .null, (.int (0 : Int32)), (.int (0 : Int32))] ∧ Z.Warmed39 U.vm ∧ U.heap = h0) (fun _ _ _ _ _ => True) (fun _ U o U' => ∃ v L, o = .returned v ∧ Q2_2 Z o1 i1 h0 n0 v U'.heap L ∧ FrameEnd U o U' L ({ frames := 1, cells := 0, slots := 0, locals := 12 } : Room).cells ({ frames := 1, cells := 0, slots := 0, locals := 12 } : Room).slots) := by
  refine own_body (plainFor_of_name pn_1) ?_
  intro p e s m below meth c s₁ G hx hby hml hZ hown hnm hret X0 e0 step fin
  replace hown : s.vm.findClass "com/example/vertex_to_service/vertextoservice/core/Choices" = some m.cls := hown
  replace hnm : meth.name = "<init>" := hnm
  replace hret : meth.sig.returnType = none := hret
  replace hml : c.maxLocals = 7 := hml
  have N0 := Fr.nil n0
  refine step (s₁.setTop (mkF m 0 #[.val (.ref o1), .val (.int (0 : Int32)), .val (.int i1), .val .null, .val .null, .val (.int (0 : Int32)), .val (.int (0 : Int32))] [])) (fun t k => castTop (ef_2_2 m o1 i1) k) ?_
  refine step (s₁.setTop (mkF m 1 #[.val (.ref o1), .val (.int (0 : Int32)), .val (.int i1), .val .null, .val .null, .val (.int (0 : Int32)), .val (.int (0 : Int32))] [(.ref o1)])) (fun t k => XS.aloadN X0.here hx rfl (hb hby d2_0) rfl rfl k) ?_
  obtain ⟨T1, X1, e1, st1⟩ := initO X0 hx hZ hown (hw _ (List.mem_of_getElem? (i := 9) rfl)) (hw _ (List.mem_of_getElem? (i := 10) rfl)) (hw _ (List.mem_of_getElem? (i := 11) rfl)) e0 (g := (mkF m 1 #[.val (.ref o1), .val (.int (0 : Int32)), .val (.int i1), .val .null, .val .null, .val (.int (0 : Int32)), .val (.int (0 : Int32))] [(.ref o1)])) rfl (by rw [hml]; rfl) rfl (hb hby d2_1) (by decide) (W := 0) (by show 2 * 0 + _ ≤ _; exact Nat.le_of_eq rfl) (by decide)
  refine step (T1.setTop (mkF m 4 #[.val (.ref o1), .val (.int (0 : Int32)), .val (.int i1), .val .null, .val .null, .val (.int (0 : Int32)), .val (.int (0 : Int32))] [])) (fun t k => st1 t k) ?_
  refine step (T1.setTop (mkF m 5 #[.val (.ref o1), .val (.int (0 : Int32)), .val (.int i1), .val .null, .val .null, .val (.int (0 : Int32)), .val (.int (0 : Int32))] [(.ref o1)])) (fun t k => XS.aloadN X1.here hx rfl (hb hby d2_4) rfl rfl k) ?_
  refine step (T1.setTop (mkF m 6 #[.val (.ref o1), .val (.int (0 : Int32)), .val (.int i1), .val .null, .val .null, .val (.int (0 : Int32)), .val (.int (0 : Int32))] [(.int (0 : Int32)), (.ref o1)])) (fun t k => XS.iloadN X1.here hx rfl (hb hby d2_5) rfl k) ?_
  obtain ⟨T2, h2, X2, e2, W2, st2⟩ := putF X1 hx hZ hown (host := "") (Or.inl (hw _ (List.mem_of_getElem? (i := 12) rfl))) Via.refl e1 Pm6 Pm0 (Or.inr ⟨(hw _ (List.mem_of_getElem? (i := 13) rfl)), rfl, hnm⟩) (hw _ (List.mem_of_getElem? (i := 5) rfl)) (ty := .int) (by decide) rfl rfl (g := (mkF m 6 #[.val (.ref o1), .val (.int (0 : Int32)), .val (.int i1), .val .null, .val .null, .val (.int (0 : Int32)), .val (.int (0 : Int32))] [(.int (0 : Int32)), (.ref o1)])) rfl rfl (hb hby d2_6)
  have N2 := Fr.snoc X2 N0 gn_o1
  have K2 : Keep h0 h2 [o1] := (Keep.refl h0 [o1]).wr W2 (Or.inl (List.mem_of_getElem? (i := 0) rfl))
  have F2 := Pm6.same W2
  refine step (T2.setTop (mkF m 9 #[.val (.ref o1), .val (.int (0 : Int32)), .val (.int i1), .val .null, .val .null, .val (.int (0 : Int32)), .val (.int (0 : Int32))] [])) (fun t k => st2 t k) ?_
  refine step (T2.setTop (mkF m 10 #[.val (.ref o1), .val (.int (0 : Int32)), .val (.int i1), .val .null, .val .null, .val (.int (0 : Int32)), .val (.int (0 : Int32))] [(.ref o1)])) (fun t k => XS.aloadN X2.here hx rfl (hb hby d2_9) rfl rfl k) ?_
  refine step (T2.setTop (mkF m 11 #[.val (.ref o1), .val (.int (0 : Int32)), .val (.int i1), .val .null, .val .null, .val (.int (0 : Int32)), .val (.int (0 : Int32))] [(.int i1), (.ref o1)])) (fun t k => XS.iloadN X2.here hx rfl (hb hby d2_10) rfl k) ?_
  have f3 := (Pm0.wr W2)
  have f4 := (Pm1.other W2 (Or.inr (slot_ne (Or.inr (hw _ (List.mem_of_getElem? (i := 15) rfl))) (Or.inr (hw _ (List.mem_of_getElem? (i := 13) rfl))) (by decide) (t := .int) (t' := .int) (by decide) (by decide))))
  obtain ⟨T5, h5, X5, e5, W5, st5⟩ := putF X2 hx hZ hown (host := "") (Or.inl (hw _ (List.mem_of_getElem? (i := 14) rfl))) Via.refl e2 f4 f3 (Or.inr ⟨(hw _ (List.mem_of_getElem? (i := 15) rfl)), rfl, hnm⟩) (hw _ (List.mem_of_getElem? (i := 5) rfl)) (ty := .int) (by decide) rfl rfl (g := (mkF m 11 #[.val (.ref o1), .val (.int (0 : Int32)), .val (.int i1), .val .null, .val .null, .val (.int (0 : Int32)), .val (.int (0 : Int32))] [(.int i1), (.ref o1)])) rfl rfl (hb hby d2_11)
  have N5 := Fr.snoc X5 N2 gn_o1
  have K5 : Keep h0 h5 [o1] := K2.wr W5 (Or.inl (List.mem_of_getElem? (i := 0) rfl))
  have F5 := f4.same W5
  refine step (T5.setTop (mkF m 14 #[.val (.ref o1), .val (.int (0 : Int32)), .val (.int i1), .val .null, .val .null, .val (.int (0 : Int32)), .val (.int (0 : Int32))] [])) (fun t k => st5 t k) ?_
  refine step (T5.setTop (mkF m 15 #[.val (.ref o1), .val (.int (0 : Int32)), .val (.int i1), .val .null, .val .null, .val (.int (0 : Int32)), .val (.int (0 : Int32))] [(.ref o1)])) (fun t k => XS.aloadN X5.here hx rfl (hb hby d2_14) rfl rfl k) ?_
  refine step (T5.setTop (mkF m 16 #[.val (.ref o1), .val (.int (0 : Int32)), .val (.int i1), .val .null, .val .null, .val (.int (0 : Int32)), .val (.int (0 : Int32))] [.null, (.ref o1)])) (fun t k => XS.aloadN X5.here hx rfl (hb hby d2_15) rfl rfl k) ?_
  have f6 := (f3.wr W5)
  have f7 := ((Pm2.other W2 (Or.inr (slot_ne (Or.inr (hw _ (List.mem_of_getElem? (i := 17) rfl))) (Or.inr (hw _ (List.mem_of_getElem? (i := 13) rfl))) (by decide) (t := (.object "com/example/vertex_to_service/vertextoservice/core/Choices")) (t' := .int) (by decide) (by decide)))).other W5 (Or.inr (slot_ne (Or.inr (hw _ (List.mem_of_getElem? (i := 17) rfl))) (Or.inr (hw _ (List.mem_of_getElem? (i := 15) rfl))) (by decide) (t := (.object "com/example/vertex_to_service/vertextoservice/core/Choices")) (t' := .int) (by decide) (by decide))))
  obtain ⟨T8, h8, X8, e8, W8, st8⟩ := putF X5 hx hZ hown (host := "") (Or.inl (hw _ (List.mem_of_getElem? (i := 16) rfl))) Via.refl e5 f7 f6 (Or.inr ⟨(hw _ (List.mem_of_getElem? (i := 17) rfl)), rfl, hnm⟩) (hw _ (List.mem_of_getElem? (i := 5) rfl)) (ty := (.object "com/example/vertex_to_service/vertextoservice/core/Choices")) (by decide) rfl rfl (g := (mkF m 16 #[.val (.ref o1), .val (.int (0 : Int32)), .val (.int i1), .val .null, .val .null, .val (.int (0 : Int32)), .val (.int (0 : Int32))] [.null, (.ref o1)])) rfl rfl (hb hby d2_16)
  have N8 := Fr.snoc X8 N5 gn_o1
  have K8 : Keep h0 h8 [o1] := K5.wr W8 (Or.inl (List.mem_of_getElem? (i := 0) rfl))
  have F8 := f7.same W8
  refine step (T8.setTop (mkF m 19 #[.val (.ref o1), .val (.int (0 : Int32)), .val (.int i1), .val .null, .val .null, .val (.int (0 : Int32)), .val (.int (0 : Int32))] [])) (fun t k => st8 t k) ?_
  refine step (T8.setTop (mkF m 20 #[.val (.ref o1), .val (.int (0 : Int32)), .val (.int i1), .val .null, .val .null, .val (.int (0 : Int32)), .val (.int (0 : Int32))] [(.ref o1)])) (fun t k => XS.aloadN X8.here hx rfl (hb hby d2_19) rfl rfl k) ?_
  refine step (T8.setTop (mkF m 22 #[.val (.ref o1), .val (.int (0 : Int32)), .val (.int i1), .val .null, .val .null, .val (.int (0 : Int32)), .val (.int (0 : Int32))] [.null, (.ref o1)])) (fun t k => XS.aload X8.here hx rfl (hb hby d2_20) rfl rfl k) ?_
  have f9 := (f6.wr W8)
  have f10 := (((Pm5.other W2 (Or.inr (slot_ne (Or.inr (hw _ (List.mem_of_getElem? (i := 19) rfl))) (Or.inr (hw _ (List.mem_of_getElem? (i := 13) rfl))) (by decide) (t := (.object "com/example/vertex_to_service/vertextoservice/core/Choices")) (t' := .int) (by decide) (by decide)))).other W5 (Or.inr (slot_ne (Or.inr (hw _ (List.mem_of_getElem? (i := 19) rfl))) (Or.inr (hw _ (List.mem_of_getElem? (i := 15) rfl))) (by decide) (t := (.object "com/example/vertex_to_service/vertextoservice/core/Choices")) (t' := .int) (by decide) (by decide)))).other W8 (Or.inr (slot_ne (Or.inr (hw _ (List.mem_of_getElem? (i := 19) rfl))) (Or.inr (hw _ (List.mem_of_getElem? (i := 17) rfl))) (by decide) (t := (.object "com/example/vertex_to_service/vertextoservice/core/Choices")) (t' := (.object "com/example/vertex_to_service/vertextoservice/core/Choices")) (by decide) (by decide))))
  obtain ⟨T11, h11, X11, e11, W11, st11⟩ := putF X8 hx hZ hown (host := "") (Or.inl (hw _ (List.mem_of_getElem? (i := 18) rfl))) Via.refl e8 f10 f9 (Or.inr ⟨(hw _ (List.mem_of_getElem? (i := 19) rfl)), rfl, hnm⟩) (hw _ (List.mem_of_getElem? (i := 5) rfl)) (ty := (.object "com/example/vertex_to_service/vertextoservice/core/Choices")) (by decide) rfl rfl (g := (mkF m 22 #[.val (.ref o1), .val (.int (0 : Int32)), .val (.int i1), .val .null, .val .null, .val (.int (0 : Int32)), .val (.int (0 : Int32))] [.null, (.ref o1)])) rfl rfl (hb hby d2_22)
  have N11 := Fr.snoc X11 N8 gn_o1
  have K11 : Keep h0 h11 [o1] := K8.wr W11 (Or.inl (List.mem_of_getElem? (i := 0) rfl))
  have F11 := f10.same W11
  refine step (T11.setTop (mkF m 25 #[.val (.ref o1), .val (.int (0 : Int32)), .val (.int i1), .val .null, .val .null, .val (.int (0 : Int32)), .val (.int (0 : Int32))] [])) (fun t k => st11 t k) ?_
  refine step (T11.setTop (mkF m 26 #[.val (.ref o1), .val (.int (0 : Int32)), .val (.int i1), .val .null, .val .null, .val (.int (0 : Int32)), .val (.int (0 : Int32))] [(.ref o1)])) (fun t k => XS.aloadN X11.here hx rfl (hb hby d2_25) rfl rfl k) ?_
  refine step (T11.setTop (mkF m 28 #[.val (.ref o1), .val (.int (0 : Int32)), .val (.int i1), .val .null, .val .null, .val (.int (0 : Int32)), .val (.int (0 : Int32))] [(.int (0 : Int32)), (.ref o1)])) (fun t k => XS.iload X11.here hx rfl (hb hby d2_26) rfl k) ?_
  have f12 := (f9.wr W11)
  have f13 := ((((Pm4.other W2 (Or.inr (slot_ne (Or.inr (hw _ (List.mem_of_getElem? (i := 21) rfl))) (Or.inr (hw _ (List.mem_of_getElem? (i := 13) rfl))) (by decide) (t := .int) (t' := .int) (by decide) (by decide)))).other W5 (Or.inr (slot_ne (Or.inr (hw _ (List.mem_of_getElem? (i := 21) rfl))) (Or.inr (hw _ (List.mem_of_getElem? (i := 15) rfl))) (by decide) (t := .int) (t' := .int) (by decide) (by decide)))).other W8 (Or.inr (slot_ne (Or.inr (hw _ (List.mem_of_getElem? (i := 21) rfl))) (Or.inr (hw _ (List.mem_of_getElem? (i := 17) rfl))) (by decide) (t := .int) (t' := (.object "com/example/vertex_to_service/vertextoservice/core/Choices")) (by decide) (by decide)))).other W11 (Or.inr (slot_ne (Or.inr (hw _ (List.mem_of_getElem? (i := 21) rfl))) (Or.inr (hw _ (List.mem_of_getElem? (i := 19) rfl))) (by decide) (t := .int) (t' := (.object "com/example/vertex_to_service/vertextoservice/core/Choices")) (by decide) (by decide))))
  obtain ⟨T14, h14, X14, e14, W14, st14⟩ := putF X11 hx hZ hown (host := "") (Or.inl (hw _ (List.mem_of_getElem? (i := 20) rfl))) Via.refl e11 f13 f12 (Or.inr ⟨(hw _ (List.mem_of_getElem? (i := 21) rfl)), rfl, hnm⟩) (hw _ (List.mem_of_getElem? (i := 5) rfl)) (ty := .int) (by decide) rfl rfl (g := (mkF m 28 #[.val (.ref o1), .val (.int (0 : Int32)), .val (.int i1), .val .null, .val .null, .val (.int (0 : Int32)), .val (.int (0 : Int32))] [(.int (0 : Int32)), (.ref o1)])) rfl rfl (hb hby d2_28)
  have N14 := Fr.snoc X14 N11 gn_o1
  have K14 : Keep h0 h14 [o1] := K11.wr W14 (Or.inl (List.mem_of_getElem? (i := 0) rfl))
  have F14 := f13.same W14
  refine step (T14.setTop (mkF m 31 #[.val (.ref o1), .val (.int (0 : Int32)), .val (.int i1), .val .null, .val .null, .val (.int (0 : Int32)), .val (.int (0 : Int32))] [])) (fun t k => st14 t k) ?_
  refine step (T14.setTop (mkF m 32 #[.val (.ref o1), .val (.int (0 : Int32)), .val (.int i1), .val .null, .val .null, .val (.int (0 : Int32)), .val (.int (0 : Int32))] [(.ref o1)])) (fun t k => XS.aloadN X14.here hx rfl (hb hby d2_31) rfl rfl k) ?_
  refine step (T14.setTop (mkF m 34 #[.val (.ref o1), .val (.int (0 : Int32)), .val (.int i1), .val .null, .val .null, .val (.int (0 : Int32)), .val (.int (0 : Int32))] [(.int (0 : Int32)), (.ref o1)])) (fun t k => XS.iload X14.here hx rfl (hb hby d2_32) rfl k) ?_
  have f15 := (f12.wr W14)
  have f16 := (((((Pm3.other W2 (Or.inr (slot_ne (Or.inr (hw _ (List.mem_of_getElem? (i := 23) rfl))) (Or.inr (hw _ (List.mem_of_getElem? (i := 13) rfl))) (by decide) (t := .int) (t' := .int) (by decide) (by decide)))).other W5 (Or.inr (slot_ne (Or.inr (hw _ (List.mem_of_getElem? (i := 23) rfl))) (Or.inr (hw _ (List.mem_of_getElem? (i := 15) rfl))) (by decide) (t := .int) (t' := .int) (by decide) (by decide)))).other W8 (Or.inr (slot_ne (Or.inr (hw _ (List.mem_of_getElem? (i := 23) rfl))) (Or.inr (hw _ (List.mem_of_getElem? (i := 17) rfl))) (by decide) (t := .int) (t' := (.object "com/example/vertex_to_service/vertextoservice/core/Choices")) (by decide) (by decide)))).other W11 (Or.inr (slot_ne (Or.inr (hw _ (List.mem_of_getElem? (i := 23) rfl))) (Or.inr (hw _ (List.mem_of_getElem? (i := 19) rfl))) (by decide) (t := .int) (t' := (.object "com/example/vertex_to_service/vertextoservice/core/Choices")) (by decide) (by decide)))).other W14 (Or.inr (slot_ne (Or.inr (hw _ (List.mem_of_getElem? (i := 23) rfl))) (Or.inr (hw _ (List.mem_of_getElem? (i := 21) rfl))) (by decide) (t := .int) (t' := .int) (by decide) (by decide))))
  obtain ⟨T17, h17, X17, e17, W17, st17⟩ := putF X14 hx hZ hown (host := "") (Or.inl (hw _ (List.mem_of_getElem? (i := 22) rfl))) Via.refl e14 f16 f15 (Or.inr ⟨(hw _ (List.mem_of_getElem? (i := 23) rfl)), rfl, hnm⟩) (hw _ (List.mem_of_getElem? (i := 5) rfl)) (ty := .int) (by decide) rfl rfl (g := (mkF m 34 #[.val (.ref o1), .val (.int (0 : Int32)), .val (.int i1), .val .null, .val .null, .val (.int (0 : Int32)), .val (.int (0 : Int32))] [(.int (0 : Int32)), (.ref o1)])) rfl rfl (hb hby d2_34)
  have N17 := Fr.snoc X17 N14 gn_o1
  have K17 : Keep h0 h17 [o1] := K14.wr W17 (Or.inl (List.mem_of_getElem? (i := 0) rfl))
  have F17 := f16.same W17
  refine step (T17.setTop (mkF m 37 #[.val (.ref o1), .val (.int (0 : Int32)), .val (.int i1), .val .null, .val .null, .val (.int (0 : Int32)), .val (.int (0 : Int32))] [])) (fun t k => st17 t k) ?_
  have f18 := ((((F5.other W8 (Or.inr (slot_ne (Or.inr (hw _ (List.mem_of_getElem? (i := 15) rfl))) (Or.inr (hw _ (List.mem_of_getElem? (i := 17) rfl))) (by decide) (t := .int) (t' := (.object "com/example/vertex_to_service/vertextoservice/core/Choices")) (by decide) (by decide)))).other W11 (Or.inr (slot_ne (Or.inr (hw _ (List.mem_of_getElem? (i := 15) rfl))) (Or.inr (hw _ (List.mem_of_getElem? (i := 19) rfl))) (by decide) (t := .int) (t' := (.object "com/example/vertex_to_service/vertextoservice/core/Choices")) (by decide) (by decide)))).other W14 (Or.inr (slot_ne (Or.inr (hw _ (List.mem_of_getElem? (i := 15) rfl))) (Or.inr (hw _ (List.mem_of_getElem? (i := 21) rfl))) (by decide) (t := .int) (t' := .int) (by decide) (by decide)))).other W17 (Or.inr (slot_ne (Or.inr (hw _ (List.mem_of_getElem? (i := 15) rfl))) (Or.inr (hw _ (List.mem_of_getElem? (i := 23) rfl))) (by decide) (t := .int) (t' := .int) (by decide) (by decide))))
  have f19 := (((F8.other W11 (Or.inr (slot_ne (Or.inr (hw _ (List.mem_of_getElem? (i := 17) rfl))) (Or.inr (hw _ (List.mem_of_getElem? (i := 19) rfl))) (by decide) (t := (.object "com/example/vertex_to_service/vertextoservice/core/Choices")) (t' := (.object "com/example/vertex_to_service/vertextoservice/core/Choices")) (by decide) (by decide)))).other W14 (Or.inr (slot_ne (Or.inr (hw _ (List.mem_of_getElem? (i := 17) rfl))) (Or.inr (hw _ (List.mem_of_getElem? (i := 21) rfl))) (by decide) (t := (.object "com/example/vertex_to_service/vertextoservice/core/Choices")) (t' := .int) (by decide) (by decide)))).other W17 (Or.inr (slot_ne (Or.inr (hw _ (List.mem_of_getElem? (i := 17) rfl))) (Or.inr (hw _ (List.mem_of_getElem? (i := 23) rfl))) (by decide) (t := (.object "com/example/vertex_to_service/vertextoservice/core/Choices")) (t' := .int) (by decide) (by decide))))
  have f20 := (F14.other W17 (Or.inr (slot_ne (Or.inr (hw _ (List.mem_of_getElem? (i := 21) rfl))) (Or.inr (hw _ (List.mem_of_getElem? (i := 23) rfl))) (by decide) (t := .int) (t' := .int) (by decide) (by decide))))
  have f21 := ((F11.other W14 (Or.inr (slot_ne (Or.inr (hw _ (List.mem_of_getElem? (i := 19) rfl))) (Or.inr (hw _ (List.mem_of_getElem? (i := 21) rfl))) (by decide) (t := (.object "com/example/vertex_to_service/vertextoservice/core/Choices")) (t' := .int) (by decide) (by decide)))).other W17 (Or.inr (slot_ne (Or.inr (hw _ (List.mem_of_getElem? (i := 19) rfl))) (Or.inr (hw _ (List.mem_of_getElem? (i := 23) rfl))) (by decide) (t := (.object "com/example/vertex_to_service/vertextoservice/core/Choices")) (t' := .int) (by decide) (by decide))))
  have f22 := (((((F2.other W5 (Or.inr (slot_ne (Or.inr (hw _ (List.mem_of_getElem? (i := 13) rfl))) (Or.inr (hw _ (List.mem_of_getElem? (i := 15) rfl))) (by decide) (t := .int) (t' := .int) (by decide) (by decide)))).other W8 (Or.inr (slot_ne (Or.inr (hw _ (List.mem_of_getElem? (i := 13) rfl))) (Or.inr (hw _ (List.mem_of_getElem? (i := 17) rfl))) (by decide) (t := .int) (t' := (.object "com/example/vertex_to_service/vertextoservice/core/Choices")) (by decide) (by decide)))).other W11 (Or.inr (slot_ne (Or.inr (hw _ (List.mem_of_getElem? (i := 13) rfl))) (Or.inr (hw _ (List.mem_of_getElem? (i := 19) rfl))) (by decide) (t := .int) (t' := (.object "com/example/vertex_to_service/vertextoservice/core/Choices")) (by decide) (by decide)))).other W14 (Or.inr (slot_ne (Or.inr (hw _ (List.mem_of_getElem? (i := 13) rfl))) (Or.inr (hw _ (List.mem_of_getElem? (i := 21) rfl))) (by decide) (t := .int) (t' := .int) (by decide) (by decide)))).other W17 (Or.inr (slot_ne (Or.inr (hw _ (List.mem_of_getElem? (i := 13) rfl))) (Or.inr (hw _ (List.mem_of_getElem? (i := 23) rfl))) (by decide) (t := .int) (t' := .int) (by decide) (by decide))))
  refine fin (v := none) X17 (fun _ => rfl) ?_ (by decide) (by decide) (fun fs hr => X17.returnOut hx hret (hb hby d2_37) hr)
  show Q2_2 Z o1 i1 h0 n0 (none) T17.heap _
  rw [e17]
  exact ⟨rfl, N17, K17, f18, f19, F17, f20, f21, f22⟩
theorem ef_1_1 (m : MethodId) (x1 : Int32) : entryFrame m #[(.int (0 : Int32)), (.int x1)] 2 = mkF m 0 #[.val (.int (0 : Int32)), .val (.int x1)] [] := by first | (simp [entryFrame, mkF, argsToLocals, Value.category]; done) | rfl
def Q1_1 (Z : State) (i1 : Int32) (h0 : Heap) (n0 : Nat) (v : Option Value) (h : Heap) (L : List Loc) : Prop := ∃ (b1 : Addr), v = some (.ref b1) ∧ Fr n0 L ∧ Keep h0 h [] ∧ h0.size ≤ b1 ∧ Exa Z h b1 "com/example/vertex_to_service/vertextoservice/core/Choices" ∧ Fld Z h b1 "com/example/vertex_to_service/vertextoservice/core/Choices" "candidate" "I" (.int i1) ∧ Fld Z h b1 "com/example/vertex_to_service/vertextoservice/core/Choices" "first" "Lcom/example/vertex_to_service/vertextoservice/core/Choices;" .null ∧ Fld Z h b1 "com/example/vertex_to_service/vertextoservice/core/Choices" "high" "I" (.int (0 : Int32)) ∧ Fld Z h b1 "com/example/vertex_to_service/vertextoservice/core/Choices" "low" "I" (.int (0 : Int32)) ∧ Fld Z h b1 "com/example/vertex_to_service/vertextoservice/core/Choices" "second" "Lcom/example/vertex_to_service/vertextoservice/core/Choices;" .null ∧ Fld Z h b1 "com/example/vertex_to_service/vertextoservice/core/Choices" "vertex" "I" (.int (0 : Int32))
set_option maxRecDepth 65536 in
set_option maxHeartbeats 40000000 in
theorem rm1_1 (l : Launch) (Z : State) (a0 : Array Value) (hw : ∀ d ∈ tables_1, d.before a0 Z = true) (ws : List Jvm.Cond) (i1 : Int32) (h0 : Heap) (n0 : Nat) (Z0 : n0 ≤ h0.size)  :
    MetFree l (⟨"com/example/vertex_to_service/vertextoservice/core/Choices", "of", "(II)Lcom/example/vertex_to_service/vertextoservice/core/Choices;"⟩ : MethodName) (head1 (Jvm.Cond.code (⟨"com/example/vertex_to_service/vertextoservice/core/Choices", "of", "(II)Lcom/example/vertex_to_service/vertextoservice/core/Choices;"⟩ : MethodName) prog_10_method_2_code 2 (some (.object "com/example/vertex_to_service/vertextoservice/core/Choices")) :: ws) ({ frames := 2, cells := 1, slots := 6, locals := 31 } : Room)) (fun a U => a = #[(.int (0 : Int32)), (.int i1)] ∧ Z.Warmed39 U.vm ∧ U.heap = h0) (fun _ _ _ _ _ => True) (fun _ U o U' => ∃ v L, o = .returned v ∧ Q1_1 Z i1 h0 n0 v U'.heap L ∧ FrameEnd U o U' L ({ frames := 2, cells := 1, slots := 6, locals := 31 } : Room).cells ({ frames := 2, cells := 1, slots := 6, locals := 31 } : Room).slots) := by
  refine own_body (plainFor_of_name pn_1) ?_
  intro p e s m below meth c s₁ G hx hby hml hZ hown hnm hret X0 e0 step fin
  replace hown : s.vm.findClass "com/example/vertex_to_service/vertextoservice/core/Choices" = some m.cls := hown
  replace hnm : meth.name = "of" := hnm
  replace hret : meth.sig.returnType = some (.object "com/example/vertex_to_service/vertextoservice/core/Choices") := hret
  replace hml : c.maxLocals = 2 := hml
  have N0 := Fr.nil n0
  refine step (s₁.setTop (mkF m 0 #[.val (.int (0 : Int32)), .val (.int i1)] [])) (fun t k => castTop (ef_1_1 m i1) k) ?_
  obtain ⟨T1, h1, X1, e1, E1, A1, D1, -, st1⟩ := newO X0 hx hZ hown (hw _ (List.mem_of_getElem? (i := 4) rfl)) (hw _ (List.mem_of_getElem? (i := 5) rfl)) (hw _ (List.mem_of_getElem? (i := 2) rfl)) e0 (g := (mkF m 0 #[.val (.int (0 : Int32)), .val (.int i1)] [])) rfl (hb hby d1_0) (by decide) (by decide)
  obtain ⟨b1, g1⟩ : ∃ z, z = h0.size := ⟨_, rfl⟩
  rw [← g1] at A1 D1 st1
  have gn_b1 : n0 ≤ b1 := Nat.le_trans Z0 (Nat.le_of_eq g1.symm)
  have sz_b1 : h0.size ≤ b1 := Nat.le_of_eq g1.symm
  have K1 : Keep h0 h1 [] := (Keep.refl h0 []).ext E1
  have F_vertex_b1 : Fld Z h1 b1 "com/example/vertex_to_service/vertextoservice/core/Choices" "vertex" "I" (.int (0 : Int32)) := D1 (Or.inr (hw _ (List.mem_of_getElem? (i := 13) rfl))) (ty := .int) (by decide)
  have F_candidate_b1 : Fld Z h1 b1 "com/example/vertex_to_service/vertextoservice/core/Choices" "candidate" "I" (.int (0 : Int32)) := D1 (Or.inr (hw _ (List.mem_of_getElem? (i := 15) rfl))) (ty := .int) (by decide)
  have F_first_b1 : Fld Z h1 b1 "com/example/vertex_to_service/vertextoservice/core/Choices" "first" "Lcom/example/vertex_to_service/vertextoservice/core/Choices;" .null := D1 (Or.inr (hw _ (List.mem_of_getElem? (i := 17) rfl))) (ty := (.object "com/example/vertex_to_service/vertextoservice/core/Choices")) (by decide)
  have F_second_b1 : Fld Z h1 b1 "com/example/vertex_to_service/vertextoservice/core/Choices" "second" "Lcom/example/vertex_to_service/vertextoservice/core/Choices;" .null := D1 (Or.inr (hw _ (List.mem_of_getElem? (i := 19) rfl))) (ty := (.object "com/example/vertex_to_service/vertextoservice/core/Choices")) (by decide)
  have F_low_b1 : Fld Z h1 b1 "com/example/vertex_to_service/vertextoservice/core/Choices" "low" "I" (.int (0 : Int32)) := D1 (Or.inr (hw _ (List.mem_of_getElem? (i := 21) rfl))) (ty := .int) (by decide)
  have F_high_b1 : Fld Z h1 b1 "com/example/vertex_to_service/vertextoservice/core/Choices" "high" "I" (.int (0 : Int32)) := D1 (Or.inr (hw _ (List.mem_of_getElem? (i := 23) rfl))) (ty := .int) (by decide)
  refine step (T1.setTop (mkF m 3 #[.val (.int (0 : Int32)), .val (.int i1)] [(.ref b1)])) (fun t k => st1 t k) ?_
  refine step (T1.setTop (mkF m 4 #[.val (.int (0 : Int32)), .val (.int i1)] [(.ref b1), (.ref b1)])) (fun t k => XS.dup X1.here hx rfl (hb hby d1_3) rfl rfl k) ?_
  refine step (T1.setTop (mkF m 5 #[.val (.int (0 : Int32)), .val (.int i1)] [(.int (0 : Int32)), (.ref b1), (.ref b1)])) (fun t k => XS.iloadN X1.here hx rfl (hb hby d1_4) rfl k) ?_
  refine step (T1.setTop (mkF m 6 #[.val (.int (0 : Int32)), .val (.int i1)] [(.int i1), (.int (0 : Int32)), (.ref b1), (.ref b1)])) (fun t k => XS.iloadN X1.here hx rfl (hb hby d1_5) rfl k) ?_
  refine step (T1.setTop (mkF m 7 #[.val (.int (0 : Int32)), .val (.int i1)] [.null, (.int i1), (.int (0 : Int32)), (.ref b1), (.ref b1)])) (fun t k => XS.aconstNull X1.here hx rfl (hb hby d1_6) k) ?_
  refine step (T1.setTop (mkF m 8 #[.val (.int (0 : Int32)), .val (.int i1)] [.null, .null, (.int i1), (.int (0 : Int32)), (.ref b1), (.ref b1)])) (fun t k => XS.aconstNull X1.here hx rfl (hb hby d1_7) k) ?_
  refine step (T1.setTop (mkF m 9 #[.val (.int (0 : Int32)), .val (.int i1)] [(.int (0 : Int32)), .null, .null, (.int i1), (.int (0 : Int32)), (.ref b1), (.ref b1)])) (fun t k => XS.iloadN X1.here hx rfl (hb hby d1_8) rfl k) ?_
  refine step (T1.setTop (mkF m 10 #[.val (.int (0 : Int32)), .val (.int i1)] [(.int (0 : Int32)), (.int (0 : Int32)), .null, .null, (.int i1), (.int (0 : Int32)), (.ref b1), (.ref b1)])) (fun t k => XS.iloadN X1.here hx rfl (hb hby d1_9) rfl k) ?_
  obtain ⟨_, _, ⟨T2, L2, k2, n2⟩, -, X2, ⟨Lc2, hQ2, l2, y2, z2⟩, st2⟩ := X1.specialBack hx (y := (⟨"com/example/vertex_to_service/vertextoservice/core/Choices", "<init>", "(IILcom/example/vertex_to_service/vertextoservice/core/Choices;Lcom/example/vertex_to_service/vertextoservice/core/Choices;II)V"⟩ : MethodName)) rfl hown (mvT hZ (hw _ (List.mem_of_getElem? (i := 6) rfl))) (mvT hZ (hw _ (List.mem_of_getElem? (i := 7) rfl))) (mvT hZ (hw _ (List.mem_of_getElem? (i := 8) rfl))) (by decide) (backOf (W := 1) (rm2_2 l Z a0 hw [] b1 i1 h1 n0 (Nat.le_trans Z0 K1.1) A1 F_candidate_b1 F_first_b1 F_high_b1 F_low_b1 F_second_b1 F_vertex_b1 gn_b1) hZ (hw _ (List.mem_of_getElem? (i := 8) rfl)) (hw _ (List.mem_of_getElem? (i := 2) rfl)) (by decide) (by decide)) (g := (mkF m 10 #[.val (.int (0 : Int32)), .val (.int i1)] [(.int (0 : Int32)), (.int (0 : Int32)), .null, .null, (.int i1), (.int (0 : Int32)), (.ref b1), (.ref b1)])) rfl (by rw [hml]; rfl) (Steps.refl _) (a := b1) (argsL := [(.int (0 : Int32)), (.int i1), .null, .null, (.int (0 : Int32)), (.int (0 : Int32))]) (rest := [(.ref b1)]) (lenOf pd_4 rfl) rfl (by show 2 * 0 + _ ≤ _; exact Nat.le_of_eq rfl) (hb hby d1_10) (fun _ _ => ⟨rfl, e1, (by decide : 1 + 0 ≤ _), (by decide : 6 + 0 ≤ _)⟩)
  dsimp only [Pt.U, Pt.locs, Pt.cells, Pt.slots] at X2 l2 y2 z2 st2 hQ2
  subst l2 y2 z2
  obtain ⟨h2, e2⟩ : ∃ z, T2.heap = z := ⟨_, rfl⟩
  rw [e2] at hQ2
  obtain ⟨rfl, N2q, K2q, q0_2, q1_2, q2_2, q3_2, q4_2, q5_2⟩ := hQ2
  have N2 := Fr.app N0 N2q
  have K2 : Keep h0 h2 [] := K1.trans K2q (allS (Or.inr sz_b1) all0)
  refine step (T2.setTop (mkF m 13 #[.val (.int (0 : Int32)), .val (.int i1)] [(.ref b1)])) (fun t k => st2.trans k) ?_
  have f3 := (A1.keep K2q)
  refine fin (v := some (.ref b1)) X2 (fun h => by cases h) ?_ (by decide) (by decide) (fun fs hr => X2.areturnOut hx rfl hret rfl (hb hby d1_13) hr)
  show Q1_1 Z i1 h0 n0 (some (.ref b1)) T2.heap _
  rw [e2]
  exact ⟨b1, rfl, N2, K2, sz_b1, f3, q0_2, q1_2, q2_2, q3_2, q4_2, q5_2⟩
theorem d4_0 : decode prog_10_method_6_code 0 = .ok (.aload_n 0, 1) := by decide +kernel
theorem d4_1 : decode prog_10_method_6_code 1 = .ok (.aload_n 1, 1) := by decide +kernel
theorem d4_2 : decode prog_10_method_6_code 2 = .ok (.aconst_null, 1) := by decide +kernel
theorem d4_3 : decode prog_10_method_6_code 3 = .ok (.new 49, 3) := by decide +kernel
theorem d4_6 : decode prog_10_method_6_code 6 = .ok (.dup, 1) := by decide +kernel
theorem d4_7 : decode prog_10_method_6_code 7 = .ok (.invokespecial 51, 3) := by decide +kernel
theorem d4_10 : decode prog_10_method_6_code 10 = .ok (.invokevirtual 52, 3) := by decide +kernel
theorem d4_13 : decode prog_10_method_6_code 13 = .ok (.pop, 1) := by decide +kernel
theorem d4_14 : decode prog_10_method_6_code 14 = .ok (.return_, 1) := by decide +kernel
theorem pd_6 : parseMethodDescriptor "([I[ILjava/util/ArrayDeque;)I" = some ⟨[(.array .int), (.array .int), (.object "java/util/ArrayDeque")], some .int⟩ := by decide +kernel
theorem d5_0 : decode jdk_21_method_3_code 0 = .ok (.aload_n 0, 1) := by decide +kernel
theorem d5_1 : decode jdk_21_method_3_code 1 = .ok (.invokespecial 42, 3) := by decide +kernel
theorem d5_4 : decode jdk_21_method_3_code 4 = .ok (.aload_n 0, 1) := by decide +kernel
theorem d5_5 : decode jdk_21_method_3_code 5 = .ok (.bipush 17, 2) := by decide +kernel
theorem d5_7 : decode jdk_21_method_3_code 7 = .ok (.anewarray 47, 3) := by decide +kernel
theorem d5_10 : decode jdk_21_method_3_code 10 = .ok (.putfield 3, 3) := by decide +kernel
theorem d5_13 : decode jdk_21_method_3_code 13 = .ok (.return_, 1) := by decide +kernel
theorem pn_2 : plainName "java/util/ArrayDeque" = true := by first | (simp [plainName, overriddenIn]; done) | decide +kernel
theorem d6_0 : decode jdk_22_method_1_code 0 = .ok (.aload_n 0, 1) := by decide +kernel
theorem d6_1 : decode jdk_22_method_1_code 1 = .ok (.invokespecial 1, 3) := by decide +kernel
theorem d6_4 : decode jdk_22_method_1_code 4 = .ok (.return_, 1) := by decide +kernel
theorem pn_3 : plainName "java/util/AbstractCollection" = true := by first | (simp [plainName, overriddenIn]; done) | decide +kernel
theorem ef_6_5 (m : MethodId) (x0 : Addr) : entryFrame m #[(.ref x0)] 1 = mkF m 0 #[.val (.ref x0)] [] := by first | (simp [entryFrame, mkF, argsToLocals, Value.category]; done) | rfl
def Q6_5 (Z : State) (o1 : Addr) (h0 : Heap) (n0 : Nat) (v : Option Value) (h : Heap) (L : List Loc) : Prop := v = none ∧ Fr n0 L ∧ h = h0
set_option maxRecDepth 65536 in
set_option maxHeartbeats 40000000 in
theorem rm6_5 (l : Launch) (Z : State) (a0 : Array Value) (hw : ∀ d ∈ tables_1, d.before a0 Z = true) (ws : List Jvm.Cond) (o1 : Addr) (h0 : Heap) (n0 : Nat) (Z0 : n0 ≤ h0.size) (Pm0 : Exa Z h0 o1 "java/util/ArrayDeque") (Pm1 : Fld Z h0 o1 "java/util/ArrayDeque" "elements" "[Ljava/lang/Object;" .null) (Pm2 : Fld Z h0 o1 "java/util/ArrayDeque" "head" "I" (.int (0 : Int32))) (Pm3 : Fld Z h0 o1 "java/util/ArrayDeque" "tail" "I" (.int (0 : Int32))) (gn_o1 : n0 ≤ o1)  :
    MetFree l (⟨"java/util/AbstractCollection", "<init>", "()V"⟩ : MethodName) (head1 (Jvm.Cond.code (⟨"java/util/AbstractCollection", "<init>", "()V"⟩ : MethodName) jdk_22_method_1_code 1 none :: ws) ({ frames := 1, cells := 0, slots := 0, locals := 12 } : Room)) (fun a U => a = #[(.ref o1)] ∧ Z.Warmed39 U.vm ∧ U.heap = h0) (fun _ _ _ _ _ => True) (fun _ U o U' => ∃ v L, o = .returned v ∧ Q6_5 Z o1 h0 n0 v U'.heap L ∧ FrameEnd U o U' L ({ frames := 1, cells := 0, slots := 0, locals := 12 } : Room).cells ({ frames := 1, cells := 0, slots := 0, locals := 12 } : Room).slots) := by
  refine own_body (plainFor_of_name pn_3) ?_
  intro p e s m below meth c s₁ G hx hby hml hZ hown hnm hret X0 e0 step fin
  replace hown : s.vm.findClass "java/util/AbstractCollection" = some m.cls := hown
  replace hnm : meth.name = "<init>" := hnm
  replace hret : meth.sig.returnType = none := hret
  replace hml : c.maxLocals = 1 := hml
  have N0 := Fr.nil n0
  refine step (s₁.setTop (mkF m 0 #[.val (.ref o1)] [])) (fun t k => castTop (ef_6_5 m o1) k) ?_
  refine step (s₁.setTop (mkF m 1 #[.val (.ref o1)] [(.ref o1)])) (fun t k => XS.aloadN X0.here hx rfl (hb hby d6_0) rfl rfl k) ?_
  obtain ⟨T1, X1, e1, st1⟩ := initO X0 hx hZ hown (hw _ (List.mem_of_getElem? (i := 42) rfl)) (hw _ (List.mem_of_getElem? (i := 10) rfl)) (hw _ (List.mem_of_getElem? (i := 11) rfl)) e0 (g := (mkF m 1 #[.val (.ref o1)] [(.ref o1)])) rfl (by rw [hml]; rfl) rfl (hb hby d6_1) (by decide) (W := 0) (by show 2 * 0 + _ ≤ _; exact Nat.le_of_eq rfl) (by decide)
  refine step (T1.setTop (mkF m 4 #[.val (.ref o1)] [])) (fun t k => st1 t k) ?_
  refine fin (v := none) X1 (fun _ => rfl) ?_ (by decide) (by decide) (fun fs hr => X1.returnOut hx hret (hb hby d6_4) hr)
  show Q6_5 Z o1 h0 n0 (none) T1.heap _
  rw [e1]
  exact ⟨rfl, N0, rfl⟩
theorem ef_5_4 (m : MethodId) (x0 : Addr) : entryFrame m #[(.ref x0)] 1 = mkF m 0 #[.val (.ref x0)] [] := by first | (simp [entryFrame, mkF, argsToLocals, Value.category]; done) | rfl
def Q5_4 (Z : State) (o1 : Addr) (h0 : Heap) (n0 : Nat) (v : Option Value) (h : Heap) (L : List Loc) : Prop := ∃ (b2 : Addr) (k2 : ClassId), v = none ∧ Fr n0 L ∧ Keep h0 h [o1] ∧ h0.size ≤ b2 ∧ Fld Z h o1 "java/util/ArrayDeque" "elements" "[Ljava/lang/Object;" (.ref b2) ∧ Fld Z h o1 "java/util/ArrayDeque" "head" "I" (.int (0 : Int32)) ∧ Fld Z h o1 "java/util/ArrayDeque" "tail" "I" (.int (0 : Int32)) ∧ Arv Z h b2 k2 (.object "java/lang/Object") (17 : Int32) [.null, .null, .null, .null, .null, .null, .null, .null, .null, .null, .null, .null, .null, .null, .null, .null, .null] .null ∧ Ovr Z k2 "java/lang/Object"
set_option maxRecDepth 65536 in
set_option maxHeartbeats 40000000 in
theorem rm5_4 (l : Launch) (Z : State) (a0 : Array Value) (hw : ∀ d ∈ tables_1, d.before a0 Z = true) (ws : List Jvm.Cond) (o1 : Addr) (h0 : Heap) (n0 : Nat) (Z0 : n0 ≤ h0.size) (Pm0 : Exa Z h0 o1 "java/util/ArrayDeque") (Pm1 : Fld Z h0 o1 "java/util/ArrayDeque" "elements" "[Ljava/lang/Object;" .null) (Pm2 : Fld Z h0 o1 "java/util/ArrayDeque" "head" "I" (.int (0 : Int32))) (Pm3 : Fld Z h0 o1 "java/util/ArrayDeque" "tail" "I" (.int (0 : Int32))) (gn_o1 : n0 ≤ o1)  :
    MetFree l (⟨"java/util/ArrayDeque", "<init>", "()V"⟩ : MethodName) (head1 (Jvm.Cond.code (⟨"java/util/ArrayDeque", "<init>", "()V"⟩ : MethodName) jdk_21_method_3_code 1 none :: ws) ({ frames := 2, cells := 1, slots := 17, locals := 24 } : Room)) (fun a U => a = #[(.ref o1)] ∧ Z.Warmed39 U.vm ∧ U.heap = h0) (fun _ _ _ _ _ => True) (fun _ U o U' => ∃ v L, o = .returned v ∧ Q5_4 Z o1 h0 n0 v U'.heap L ∧ FrameEnd U o U' L ({ frames := 2, cells := 1, slots := 17, locals := 24 } : Room).cells ({ frames := 2, cells := 1, slots := 17, locals := 24 } : Room).slots) := by
  refine own_body (plainFor_of_name pn_2) ?_
  intro p e s m below meth c s₁ G hx hby hml hZ hown hnm hret X0 e0 step fin
  replace hown : s.vm.findClass "java/util/ArrayDeque" = some m.cls := hown
  replace hnm : meth.name = "<init>" := hnm
  replace hret : meth.sig.returnType = none := hret
  replace hml : c.maxLocals = 1 := hml
  have N0 := Fr.nil n0
  refine step (s₁.setTop (mkF m 0 #[.val (.ref o1)] [])) (fun t k => castTop (ef_5_4 m o1) k) ?_
  refine step (s₁.setTop (mkF m 1 #[.val (.ref o1)] [(.ref o1)])) (fun t k => XS.aloadN X0.here hx rfl (hb hby d5_0) rfl rfl k) ?_
  obtain ⟨_, _, ⟨T1, L1, k1, n1⟩, -, X1, ⟨Lc1, hQ1, l1, y1, z1⟩, st1⟩ := X0.specialBack hx (y := (⟨"java/util/AbstractCollection", "<init>", "()V"⟩ : MethodName)) rfl hown (mvT hZ (hw _ (List.mem_of_getElem? (i := 36) rfl))) (mvT hZ (hw _ (List.mem_of_getElem? (i := 37) rfl))) (mvT hZ (hw _ (List.mem_of_getElem? (i := 41) rfl))) (by decide) (backOf (W := 0) (rm6_5 l Z a0 hw [] o1 h0 n0 Z0 Pm0 Pm1 Pm2 Pm3 gn_o1) hZ (hw _ (List.mem_of_getElem? (i := 41) rfl)) (hw _ (List.mem_of_getElem? (i := 40) rfl)) (by decide) (by decide)) (g := (mkF m 1 #[.val (.ref o1)] [(.ref o1)])) rfl (by rw [hml]; rfl) (Steps.refl _) (a := o1) (argsL := []) (rest := []) (lenOf pd_5 rfl) rfl (by show 2 * 0 + _ ≤ _; exact Nat.le_of_eq rfl) (hb hby d5_1) (fun _ _ => ⟨rfl, e0, (by decide : 0 + 0 ≤ _), (by decide : 0 + 0 ≤ _)⟩)
  dsimp only [Pt.U, Pt.locs, Pt.cells, Pt.slots] at X1 l1 y1 z1 st1 hQ1
  subst l1 y1 z1
  obtain ⟨rfl, N1q, e1q⟩ := hQ1
  have N1 := Fr.app N0 N1q
  refine step (T1.setTop (mkF m 4 #[.val (.ref o1)] [])) (fun t k => st1.trans k) ?_
  refine step (T1.setTop (mkF m 5 #[.val (.ref o1)] [(.ref o1)])) (fun t k => XS.aloadN X1.here hx rfl (hb hby d5_4) rfl rfl k) ?_
  refine step (T1.setTop (mkF m 7 #[.val (.ref o1)] [(.int (17 : Int32)), (.ref o1)])) (fun t k => XS.bipush X1.here hx rfl (hb hby d5_5) k) ?_
  obtain ⟨T2, h2, k2, X2, e2, E2, A2, O2, st2⟩ := newR X1 hx hZ hown (hw _ (List.mem_of_getElem? (i := 43) rfl)) (hw _ (List.mem_of_getElem? (i := 44) rfl)) e1q (g := (mkF m 7 #[.val (.ref o1)] [(.int (17 : Int32)), (.ref o1)])) rfl (hb hby d5_7) rfl (by decide) (cap := 17) (by decide) (by decide) (by decide) (by decide)
  obtain ⟨b2, g2⟩ : ∃ z, z = h0.size := ⟨_, rfl⟩
  rw [← g2] at A2 st2
  have ne_o1_b2 : o1 ≠ b2 := Nat.ne_of_lt (Nat.lt_of_lt_of_le Pm0.lt (Nat.le_of_eq g2.symm))
  have gn_b2 : n0 ≤ b2 := Nat.le_trans Z0 (Nat.le_of_eq g2.symm)
  have sz_b2 : h0.size ≤ b2 := Nat.le_of_eq g2.symm
  have K2 : Keep h0 h2 [o1] := (Keep.refl h0 [o1]).ext E2
  have V2 : Arv Z h2 b2 k2 (.object "java/lang/Object") (17 : Int32) [.null, .null, .null, .null, .null, .null, .null, .null, .null, .null, .null, .null, .null, .null, .null, .null, .null] .null := (Arv.new A2 (by decide)).pad (pad_rep [] .null 17)
  refine step (T2.setTop (mkF m 10 #[.val (.ref o1)] [(.ref b2), (.ref o1)])) (fun t k => st2 t k) ?_
  have f3 := (Pm0.ext E2)
  have f4 := (Pm1.ext E2)
  obtain ⟨T5, h5, X5, e5, W5, st5⟩ := putF X2 hx hZ hown (host := "") (Or.inl (hw _ (List.mem_of_getElem? (i := 45) rfl))) Via.refl e2 f4 f3 (Or.inl (hw _ (List.mem_of_getElem? (i := 46) rfl))) (hw _ (List.mem_of_getElem? (i := 31) rfl)) (ty := (.array (.object "java/lang/Object"))) (by decide) rfl rfl (g := (mkF m 10 #[.val (.ref o1)] [(.ref b2), (.ref o1)])) rfl rfl (hb hby d5_10)
  have N5 := Fr.snoc X5 N1 gn_o1
  have K5 : Keep h0 h5 [o1] := K2.wr W5 (Or.inl (List.mem_of_getElem? (i := 0) rfl))
  have F5 := f4.same W5
  refine step (T5.setTop (mkF m 13 #[.val (.ref o1)] [])) (fun t k => st5 t k) ?_
  have f6 := ((Pm2.ext E2).other W5 (Or.inr (slot_ne (Or.inl (hw _ (List.mem_of_getElem? (i := 62) rfl))) (Or.inl (hw _ (List.mem_of_getElem? (i := 46) rfl))) (by decide) (t := .int) (t' := (.array (.object "java/lang/Object"))) (by decide) (by decide))))
  have f7 := ((Pm3.ext E2).other W5 (Or.inr (slot_ne (Or.inl (hw _ (List.mem_of_getElem? (i := 68) rfl))) (Or.inl (hw _ (List.mem_of_getElem? (i := 46) rfl))) (by decide) (t := .int) (t' := (.array (.object "java/lang/Object"))) (by decide) (by decide))))
  have f8 := (V2.other W5 (Ne.symm ne_o1_b2))
  refine fin (v := none) X5 (fun _ => rfl) ?_ (by decide) (by decide) (fun fs hr => X5.returnOut hx hret (hb hby d5_13) hr)
  show Q5_4 Z o1 h0 n0 (none) T5.heap _
  rw [e5]
  exact ⟨b2, k2, rfl, N5, K5, sz_b2, F5, f6, f7, f8, O2⟩
theorem d7_0 : decode prog_10_method_7_code 0 = .ok (.iconst 0, 1) := by decide +kernel
theorem d7_1 : decode prog_10_method_7_code 1 = .ok (.istore 4, 2) := by decide +kernel
theorem d7_3 : decode prog_10_method_7_code 3 = .ok (.aload_n 3, 1) := by decide +kernel
theorem d7_4 : decode prog_10_method_7_code 4 = .ok (.aload_n 0, 1) := by decide +kernel
theorem d7_5 : decode prog_10_method_7_code 5 = .ok (.invokevirtual 56, 3) := by decide +kernel
theorem d7_8 : decode prog_10_method_7_code 8 = .ok (.aload_n 3, 1) := by decide +kernel
theorem d7_9 : decode prog_10_method_7_code 9 = .ok (.invokevirtual 60, 3) := by decide +kernel
theorem d7_12 : decode prog_10_method_7_code 12 = .ok (.ifCond .ne 80, 3) := by decide +kernel
theorem d7_15 : decode prog_10_method_7_code 15 = .ok (.aload_n 3, 1) := by decide +kernel
theorem d7_16 : decode prog_10_method_7_code 16 = .ok (.invokevirtual 64, 3) := by decide +kernel
theorem d7_19 : decode prog_10_method_7_code 19 = .ok (.checkcast 8, 3) := by decide +kernel
theorem d7_22 : decode prog_10_method_7_code 22 = .ok (.astore 5, 2) := by decide +kernel
theorem d7_24 : decode prog_10_method_7_code 24 = .ok (.aload 5, 2) := by decide +kernel
theorem d7_26 : decode prog_10_method_7_code 26 = .ok (.getfield 16, 3) := by decide +kernel
theorem d7_29 : decode prog_10_method_7_code 29 = .ok (.ifnull 24, 3) := by decide +kernel
theorem d7_32 : decode prog_10_method_7_code 32 = .ok (.aload_n 3, 1) := by decide +kernel
theorem d7_33 : decode prog_10_method_7_code 33 = .ok (.aload 5, 2) := by decide +kernel
theorem d7_35 : decode prog_10_method_7_code 35 = .ok (.getfield 20, 3) := by decide +kernel
theorem d7_38 : decode prog_10_method_7_code 38 = .ok (.invokevirtual 56, 3) := by decide +kernel
theorem d7_41 : decode prog_10_method_7_code 41 = .ok (.aload_n 3, 1) := by decide +kernel
theorem d7_42 : decode prog_10_method_7_code 42 = .ok (.aload 5, 2) := by decide +kernel
theorem d7_44 : decode prog_10_method_7_code 44 = .ok (.getfield 16, 3) := by decide +kernel
theorem d7_47 : decode prog_10_method_7_code 47 = .ok (.invokevirtual 56, 3) := by decide +kernel
theorem d7_50 : decode prog_10_method_7_code 50 = .ok (.goto 39, 3) := by decide +kernel
theorem d7_53 : decode prog_10_method_7_code 53 = .ok (.aload 5, 2) := by decide +kernel
theorem d7_55 : decode prog_10_method_7_code 55 = .ok (.getfield 7, 3) := by decide +kernel
theorem d7_58 : decode prog_10_method_7_code 58 = .ok (.ifCond .lt 31, 3) := by decide +kernel
theorem d7_61 : decode prog_10_method_7_code 61 = .ok (.aload_n 1, 1) := by decide +kernel
theorem d7_62 : decode prog_10_method_7_code 62 = .ok (.aload 5, 2) := by decide +kernel
theorem d7_64 : decode prog_10_method_7_code 64 = .ok (.getfield 7, 3) := by decide +kernel
theorem d7_67 : decode prog_10_method_7_code 67 = .ok (.aload 5, 2) := by decide +kernel
theorem d7_69 : decode prog_10_method_7_code 69 = .ok (.getfield 13, 3) := by decide +kernel
theorem d7_72 : decode prog_10_method_7_code 72 = .ok (.iastore, 1) := by decide +kernel
theorem d7_73 : decode prog_10_method_7_code 73 = .ok (.aload_n 2, 1) := by decide +kernel
theorem d7_74 : decode prog_10_method_7_code 74 = .ok (.ifnull 12, 3) := by decide +kernel
theorem d7_77 : decode prog_10_method_7_code 77 = .ok (.aload_n 2, 1) := by decide +kernel
theorem d7_78 : decode prog_10_method_7_code 78 = .ok (.iload 4, 2) := by decide +kernel
theorem d7_80 : decode prog_10_method_7_code 80 = .ok (.aload 5, 2) := by decide +kernel
theorem d7_82 : decode prog_10_method_7_code 82 = .ok (.getfield 7, 3) := by decide +kernel
theorem d7_85 : decode prog_10_method_7_code 85 = .ok (.iastore, 1) := by decide +kernel
theorem d7_86 : decode prog_10_method_7_code 86 = .ok (.iinc 4 1, 3) := by decide +kernel
theorem d7_89 : decode prog_10_method_7_code 89 = .ok (.goto (-81), 3) := by decide +kernel
theorem d7_92 : decode prog_10_method_7_code 92 = .ok (.iload 4, 2) := by decide +kernel
theorem d7_94 : decode prog_10_method_7_code 94 = .ok (.ireturn, 1) := by decide +kernel
theorem pd_7 : parseMethodDescriptor "(Ljava/lang/Object;)V" = some ⟨[(.object "java/lang/Object")], none⟩ := by decide +kernel
theorem pd_8 : parseMethodDescriptor "()Z" = some ⟨[], some .boolean⟩ := by decide +kernel
theorem pd_9 : parseMethodDescriptor "()Ljava/lang/Object;" = some ⟨[], some (.object "java/lang/Object")⟩ := by decide +kernel
theorem d8_0 : decode jdk_21_method_34_code 0 = .ok (.aload_n 0, 1) := by decide +kernel
theorem d8_1 : decode jdk_21_method_34_code 1 = .ok (.aload_n 1, 1) := by decide +kernel
theorem d8_2 : decode jdk_21_method_34_code 2 = .ok (.invokevirtual 86, 3) := by decide +kernel
theorem d8_5 : decode jdk_21_method_34_code 5 = .ok (.return_, 1) := by decide +kernel
theorem d9_0 : decode jdk_21_method_12_code 0 = .ok (.aload_n 1, 1) := by decide +kernel
theorem d9_1 : decode jdk_21_method_12_code 1 = .ok (.ifnonnull 11, 3) := by decide +kernel
theorem d9_4 : decode jdk_21_method_12_code 4 = .ok (.new 65, 3) := by decide +kernel
theorem d9_7 : decode jdk_21_method_12_code 7 = .ok (.dup, 1) := by decide +kernel
theorem d9_8 : decode jdk_21_method_12_code 8 = .ok (.invokespecial 67, 3) := by decide +kernel
theorem d9_11 : decode jdk_21_method_12_code 11 = .ok (.athrow, 1) := by decide +kernel
theorem d9_12 : decode jdk_21_method_12_code 12 = .ok (.aload_n 0, 1) := by decide +kernel
theorem d9_13 : decode jdk_21_method_12_code 13 = .ok (.getfield 3, 3) := by decide +kernel
theorem d9_16 : decode jdk_21_method_12_code 16 = .ok (.astore_n 2, 1) := by decide +kernel
theorem d9_17 : decode jdk_21_method_12_code 17 = .ok (.aload_n 2, 1) := by decide +kernel
theorem d9_18 : decode jdk_21_method_12_code 18 = .ok (.aload_n 0, 1) := by decide +kernel
theorem d9_19 : decode jdk_21_method_12_code 19 = .ok (.aload_n 0, 1) := by decide +kernel
theorem d9_20 : decode jdk_21_method_12_code 20 = .ok (.getfield 24, 3) := by decide +kernel
theorem d9_23 : decode jdk_21_method_12_code 23 = .ok (.aload_n 2, 1) := by decide +kernel
theorem d9_24 : decode jdk_21_method_12_code 24 = .ok (.arraylength, 1) := by decide +kernel
theorem d9_25 : decode jdk_21_method_12_code 25 = .ok (.invokestatic 68, 3) := by decide +kernel
theorem d9_28 : decode jdk_21_method_12_code 28 = .ok (.dup_x1, 1) := by decide +kernel
theorem d9_29 : decode jdk_21_method_12_code 29 = .ok (.putfield 24, 3) := by decide +kernel
theorem d9_32 : decode jdk_21_method_12_code 32 = .ok (.aload_n 1, 1) := by decide +kernel
theorem d9_33 : decode jdk_21_method_12_code 33 = .ok (.aastore, 1) := by decide +kernel
theorem d9_34 : decode jdk_21_method_12_code 34 = .ok (.aload_n 0, 1) := by decide +kernel
theorem d9_35 : decode jdk_21_method_12_code 35 = .ok (.getfield 24, 3) := by decide +kernel
theorem d9_38 : decode jdk_21_method_12_code 38 = .ok (.aload_n 0, 1) := by decide +kernel
theorem d9_39 : decode jdk_21_method_12_code 39 = .ok (.getfield 20, 3) := by decide +kernel
theorem d9_42 : decode jdk_21_method_12_code 42 = .ok (.if_icmp .ne 8, 3) := by decide +kernel
theorem d9_45 : decode jdk_21_method_12_code 45 = .ok (.aload_n 0, 1) := by decide +kernel
theorem d9_46 : decode jdk_21_method_12_code 46 = .ok (.iconst 1, 1) := by decide +kernel
theorem d9_47 : decode jdk_21_method_12_code 47 = .ok (.invokevirtual 71, 3) := by decide +kernel
theorem d9_50 : decode jdk_21_method_12_code 50 = .ok (.return_, 1) := by decide +kernel
theorem pd_10 : parseMethodDescriptor "(II)I" = some ⟨[.int, .int], some .int⟩ := by decide +kernel
theorem d10_0 : decode jdk_21_method_7_code 0 = .ok (.iinc 0 (-1), 3) := by decide +kernel
theorem d10_3 : decode jdk_21_method_7_code 3 = .ok (.iload_n 0, 1) := by decide +kernel
theorem d10_4 : decode jdk_21_method_7_code 4 = .ok (.ifCond .ge 7, 3) := by decide +kernel
theorem d10_7 : decode jdk_21_method_7_code 7 = .ok (.iload_n 1, 1) := by decide +kernel
theorem d10_8 : decode jdk_21_method_7_code 8 = .ok (.iconst 1, 1) := by decide +kernel
theorem d10_9 : decode jdk_21_method_7_code 9 = .ok (.isub, 1) := by decide +kernel
theorem d10_10 : decode jdk_21_method_7_code 10 = .ok (.istore_n 0, 1) := by decide +kernel
theorem d10_11 : decode jdk_21_method_7_code 11 = .ok (.iload_n 0, 1) := by decide +kernel
theorem d10_12 : decode jdk_21_method_7_code 12 = .ok (.ireturn, 1) := by decide +kernel
theorem ef_10_9 (m : MethodId)  : entryFrame m #[(.int (0 : Int32)), (.int (17 : Int32))] 2 = mkF m 0 #[.val (.int (0 : Int32)), .val (.int (17 : Int32))] [] := by first | (simp [entryFrame, mkF, argsToLocals, Value.category]; done) | rfl
def Q10_9 (Z : State)  (h0 : Heap) (n0 : Nat) (v : Option Value) (h : Heap) (L : List Loc) : Prop := v = some (.int (16 : Int32)) ∧ Fr n0 L ∧ h = h0
set_option maxRecDepth 65536 in
set_option maxHeartbeats 40000000 in
theorem rm10_9 (l : Launch) (Z : State) (a0 : Array Value) (hw : ∀ d ∈ tables_1, d.before a0 Z = true) (ws : List Jvm.Cond)  (h0 : Heap) (n0 : Nat) (Z0 : n0 ≤ h0.size)  :
    MetFree l (⟨"java/util/ArrayDeque", "dec", "(II)I"⟩ : MethodName) (head1 (Jvm.Cond.code (⟨"java/util/ArrayDeque", "dec", "(II)I"⟩ : MethodName) jdk_21_method_7_code 2 (some .int) :: ws) ({ frames := 0, cells := 0, slots := 0, locals := 0 } : Room)) (fun a U => a = #[(.int (0 : Int32)), (.int (17 : Int32))] ∧ Z.Warmed39 U.vm ∧ U.heap = h0) (fun _ _ _ _ _ => True) (fun _ U o U' => ∃ v L, o = .returned v ∧ Q10_9 Z  h0 n0 v U'.heap L ∧ FrameEnd U o U' L ({ frames := 0, cells := 0, slots := 0, locals := 0 } : Room).cells ({ frames := 0, cells := 0, slots := 0, locals := 0 } : Room).slots) := by
  refine own_body (plainFor_of_name pn_2) ?_
  intro p e s m below meth c s₁ G hx hby hml hZ hown hnm hret X0 e0 step fin
  replace hown : s.vm.findClass "java/util/ArrayDeque" = some m.cls := hown
  replace hnm : meth.name = "dec" := hnm
  replace hret : meth.sig.returnType = some .int := hret
  replace hml : c.maxLocals = 2 := hml
  have N0 := Fr.nil n0
  refine step (s₁.setTop (mkF m 0 #[.val (.int (0 : Int32)), .val (.int (17 : Int32))] [])) (fun t k => castTop (ef_10_9 m ) k) ?_
  refine step (s₁.setTop (mkF m 3 #[.val (.int (-1 : Int32)), .val (.int (17 : Int32))] [])) (fun t k => XS.iinc X0.here hx rfl (hb hby d10_0) rfl (l' := #[.val (.int (-1 : Int32)), .val (.int (17 : Int32))]) rfl k) ?_
  refine step (s₁.setTop (mkF m 4 #[.val (.int (-1 : Int32)), .val (.int (17 : Int32))] [(.int (-1 : Int32))])) (fun t k => XS.iloadN X0.here hx rfl (hb hby d10_3) rfl k) ?_
  refine step (s₁.setTop (mkF m 7 #[.val (.int (-1 : Int32)), .val (.int (17 : Int32))] [])) (fun t k => XS.ifNo X0.here hx rfl (hb hby d10_4) rfl ((if0 _ _).trans (tlt (by decide : (-1 : Int32) < (0 : Int32))).2.1) k) ?_
  refine step (s₁.setTop (mkF m 8 #[.val (.int (-1 : Int32)), .val (.int (17 : Int32))] [(.int (17 : Int32))])) (fun t k => XS.iloadN X0.here hx rfl (hb hby d10_7) rfl k) ?_
  refine step (s₁.setTop (mkF m 9 #[.val (.int (-1 : Int32)), .val (.int (17 : Int32))] [(.int (1 : Int32)), (.int (17 : Int32))])) (fun t k => XS.iconst X0.here hx rfl (hb hby d10_8) k) ?_
  refine step (s₁.setTop (mkF m 10 #[.val (.int (-1 : Int32)), .val (.int (17 : Int32))] [(.int (16 : Int32))])) (fun t k => XS.isub X0.here hx rfl (hb hby d10_9) rfl k) ?_
  refine step (s₁.setTop (mkF m 11 #[.val (.int (16 : Int32)), .val (.int (17 : Int32))] [])) (fun t k => XS.istoreN X0.here hx rfl (hb hby d10_10) rfl (l' := #[.val (.int (16 : Int32)), .val (.int (17 : Int32))]) rfl k) ?_
  refine step (s₁.setTop (mkF m 12 #[.val (.int (16 : Int32)), .val (.int (17 : Int32))] [(.int (16 : Int32))])) (fun t k => XS.iloadN X0.here hx rfl (hb hby d10_11) rfl k) ?_
  refine fin (v := some (.int (16 : Int32))) X0 (fun h => by cases h) ?_ (by decide) (by decide) (fun fs hr => retI X0 hx hret (hb hby d10_12) hr)
  show Q10_9 Z  h0 n0 (some (.int (16 : Int32))) s₁.heap _
  rw [e0]
  exact ⟨rfl, N0, rfl⟩
theorem ef_9_8 (m : MethodId) (x0 : Addr) (x1 : Addr) : entryFrame m #[(.ref x0), (.ref x1)] 3 = mkF m 0 #[.val (.ref x0), .val (.ref x1), .unset] [] := by first | (simp [entryFrame, mkF, argsToLocals, Value.category]; done) | rfl
def Q9_8 (Z : State) (o1 : Addr) (o2 : Addr) (o3 : Addr) (kc1 : ClassId) (h0 : Heap) (n0 : Nat) (v : Option Value) (h : Heap) (L : List Loc) : Prop := v = none ∧ Fr n0 L ∧ Keep h0 h [o1, o3] ∧ Fld Z h o1 "java/util/ArrayDeque" "elements" "[Ljava/lang/Object;" (.ref o3) ∧ Fld Z h o1 "java/util/ArrayDeque" "head" "I" (.int (16 : Int32)) ∧ Fld Z h o1 "java/util/ArrayDeque" "tail" "I" (.int (0 : Int32)) ∧ Arv Z h o3 kc1 (.object "java/lang/Object") (17 : Int32) [.null, .null, .null, .null, .null, .null, .null, .null, .null, .null, .null, .null, .null, .null, .null, .null, (.ref o2)] .null
set_option maxRecDepth 65536 in
set_option maxHeartbeats 40000000 in
theorem rm9_8 (l : Launch) (Z : State) (a0 : Array Value) (hw : ∀ d ∈ tables_1, d.before a0 Z = true) (ws : List Jvm.Cond) (o1 : Addr) (o2 : Addr) (o3 : Addr) (kc1 : ClassId) (h0 : Heap) (n0 : Nat) (Z0 : n0 ≤ h0.size) (Pm0 : Exa Z h0 o1 "java/util/ArrayDeque") (Pm1 : Fld Z h0 o1 "java/util/ArrayDeque" "elements" "[Ljava/lang/Object;" (.ref o3)) (Pm2 : Fld Z h0 o1 "java/util/ArrayDeque" "head" "I" (.int (0 : Int32))) (Pm3 : Fld Z h0 o1 "java/util/ArrayDeque" "tail" "I" (.int (0 : Int32))) (Pm4 : Exa Z h0 o2 "com/example/vertex_to_service/vertextoservice/core/Choices") (Pm5 : Arv Z h0 o3 kc1 (.object "java/lang/Object") (17 : Int32) [.null, .null, .null, .null, .null, .null, .null, .null, .null, .null, .null, .null, .null, .null, .null, .null, .null] .null) (O6 : Ovr Z kc1 "java/lang/Object") (gn_o1 : n0 ≤ o1) (ne_o1_o2 : o1 ≠ o2) (ne_o1_o3 : o1 ≠ o3) (gn_o2 : n0 ≤ o2) (ne_o2_o3 : o2 ≠ o3) (gn_o3 : n0 ≤ o3)  :
    MetFree l (⟨"java/util/ArrayDeque", "addFirst", "(Ljava/lang/Object;)V"⟩ : MethodName) (head1 (Jvm.Cond.code (⟨"java/util/ArrayDeque", "addFirst", "(Ljava/lang/Object;)V"⟩ : MethodName) jdk_21_method_12_code 3 none :: ws) ({ frames := 1, cells := 0, slots := 0, locals := 15 } : Room)) (fun a U => a = #[(.ref o1), (.ref o2)] ∧ Z.Warmed39 U.vm ∧ U.heap = h0) (fun _ _ _ _ _ => True) (fun _ U o U' => ∃ v L, o = .returned v ∧ Q9_8 Z o1 o2 o3 kc1 h0 n0 v U'.heap L ∧ FrameEnd U o U' L ({ frames := 1, cells := 0, slots := 0, locals := 15 } : Room).cells ({ frames := 1, cells := 0, slots := 0, locals := 15 } : Room).slots) := by
  refine own_body (plainFor_of_name pn_2) ?_
  intro p e s m below meth c s₁ G hx hby hml hZ hown hnm hret X0 e0 step fin
  replace hown : s.vm.findClass "java/util/ArrayDeque" = some m.cls := hown
  replace hnm : meth.name = "addFirst" := hnm
  replace hret : meth.sig.returnType = none := hret
  replace hml : c.maxLocals = 3 := hml
  have N0 := Fr.nil n0
  refine step (s₁.setTop (mkF m 0 #[.val (.ref o1), .val (.ref o2), .unset] [])) (fun t k => castTop (ef_9_8 m o1 o2) k) ?_
  refine step (s₁.setTop (mkF m 1 #[.val (.ref o1), .val (.ref o2), .unset] [(.ref o2)])) (fun t k => XS.aloadN X0.here hx rfl (hb hby d9_0) rfl rfl k) ?_
  refine step (s₁.setTop (mkF m 12 #[.val (.ref o1), .val (.ref o2), .unset] [])) (fun t k => XS.ifnonnullYes X0.here hx rfl (pc0 := 1) (pc' := 12) rfl (hb hby d9_1) rfl (by decide) (by decide) k) ?_
  refine step (s₁.setTop (mkF m 13 #[.val (.ref o1), .val (.ref o2), .unset] [(.ref o1)])) (fun t k => XS.aloadN X0.here hx rfl (hb hby d9_12) rfl rfl k) ?_
  obtain ⟨T1, X1, e1, st1⟩ := getF X0 hx hZ hown (host := "") (Or.inl (hw _ (List.mem_of_getElem? (i := 45) rfl))) Via.refl e0 Pm1 (g := (mkF m 13 #[.val (.ref o1), .val (.ref o2), .unset] [(.ref o1)])) rfl rfl (hb hby d9_13)
  refine step (T1.setTop (mkF m 16 #[.val (.ref o1), .val (.ref o2), .unset] [(.ref o3)])) (fun t k => st1 t k) ?_
  refine step (T1.setTop (mkF m 17 #[.val (.ref o1), .val (.ref o2), .val (.ref o3)] [])) (fun t k => XS.astoreN X1.here hx rfl (hb hby d9_16) rfl rfl (l' := #[.val (.ref o1), .val (.ref o2), .val (.ref o3)]) rfl k) ?_
  refine step (T1.setTop (mkF m 18 #[.val (.ref o1), .val (.ref o2), .val (.ref o3)] [(.ref o3)])) (fun t k => XS.aloadN X1.here hx rfl (hb hby d9_17) rfl rfl k) ?_
  refine step (T1.setTop (mkF m 19 #[.val (.ref o1), .val (.ref o2), .val (.ref o3)] [(.ref o1), (.ref o3)])) (fun t k => XS.aloadN X1.here hx rfl (hb hby d9_18) rfl rfl k) ?_
  refine step (T1.setTop (mkF m 20 #[.val (.ref o1), .val (.ref o2), .val (.ref o3)] [(.ref o1), (.ref o1), (.ref o3)])) (fun t k => XS.aloadN X1.here hx rfl (hb hby d9_19) rfl rfl k) ?_
  obtain ⟨T2, X2, e2, st2⟩ := getF X1 hx hZ hown (host := "") (Or.inl (hw _ (List.mem_of_getElem? (i := 61) rfl))) Via.refl e1 Pm2 (g := (mkF m 20 #[.val (.ref o1), .val (.ref o2), .val (.ref o3)] [(.ref o1), (.ref o1), (.ref o3)])) rfl rfl (hb hby d9_20)
  refine step (T2.setTop (mkF m 23 #[.val (.ref o1), .val (.ref o2), .val (.ref o3)] [(.int (0 : Int32)), (.ref o1), (.ref o3)])) (fun t k => st2 t k) ?_
  refine step (T2.setTop (mkF m 24 #[.val (.ref o1), .val (.ref o2), .val (.ref o3)] [(.ref o3), (.int (0 : Int32)), (.ref o1), (.ref o3)])) (fun t k => XS.aloadN X2.here hx rfl (hb hby d9_23) rfl rfl k) ?_
  obtain ⟨cl3, Ar3, q3, S3, N3n, H3, G3⟩ := id Pm5
  refine step (T2.setTop (mkF m 25 #[.val (.ref o1), .val (.ref o2), .val (.ref o3)] [(.int (17 : Int32)), (.int (0 : Int32)), (.ref o1), (.ref o3)])) (fun t k => X2.arraylength hx (by rw [e2]; exact Ar3.1) (State.isArrayOf_alike hZ.alike Ar3.2.1) (g := (mkF m 24 #[.val (.ref o1), .val (.ref o2), .val (.ref o3)] [(.ref o3), (.int (0 : Int32)), (.ref o1), (.ref o3)])) rfl rfl (hb hby d9_24) t (by rw [len_of S3 N3n]; exact k)) ?_
  obtain ⟨_, _, ⟨T4, L4, k4, n4⟩, -, X4, ⟨Lc4, hQ4, l4, y4, z4⟩, st4⟩ := Jvm.LawKit.callS X2 hx (y := (⟨"java/util/ArrayDeque", "dec", "(II)I"⟩ : MethodName)) hown (mvT hZ (hw _ (List.mem_of_getElem? (i := 63) rfl))) (mvT hZ (hw _ (List.mem_of_getElem? (i := 64) rfl))) (mvT hZ (hw _ (List.mem_of_getElem? (i := 32) rfl))) (mvT hZ (hw _ (List.mem_of_getElem? (i := 65) rfl))) (by decide) (backOf (W := 2) (rm10_9 l Z a0 hw []  h0 n0 Z0 ) hZ (hw _ (List.mem_of_getElem? (i := 65) rfl)) (hw _ (List.mem_of_getElem? (i := 32) rfl)) (by decide) (by decide)) (g := (mkF m 25 #[.val (.ref o1), .val (.ref o2), .val (.ref o3)] [(.int (17 : Int32)), (.int (0 : Int32)), (.ref o1), (.ref o3)])) rfl (by rw [hml]; rfl) (argsL := [(.int (0 : Int32)), (.int (17 : Int32))]) (rest := [(.ref o1), (.ref o3)]) (lenOf pd_10 rfl) rfl (by show 2 * 0 + _ ≤ _; exact Nat.le_of_eq rfl) (hb hby d9_25) (fun _ _ => ⟨rfl, e2, (by decide : 0 + 0 ≤ _), (by decide : 0 + 0 ≤ _)⟩)
  dsimp only [Pt.U, Pt.locs, Pt.cells, Pt.slots] at X4 l4 y4 z4 st4 hQ4
  subst l4 y4 z4
  obtain ⟨rfl, N4q, e4q⟩ := hQ4
  have N4 := Fr.app N0 N4q
  refine step (T4.setTop (mkF m 28 #[.val (.ref o1), .val (.ref o2), .val (.ref o3)] [(.int (16 : Int32)), (.ref o1), (.ref o3)])) (fun t k => st4 t k) ?_
  refine step (T4.setTop (mkF m 29 #[.val (.ref o1), .val (.ref o2), .val (.ref o3)] [(.int (16 : Int32)), (.ref o1), (.int (16 : Int32)), (.ref o3)])) (fun t k => XS.dupX1 X4.here hx rfl (hb hby d9_28) rfl rfl rfl k) ?_
  obtain ⟨T5, h5, X5, e5, W5, st5⟩ := putF X4 hx hZ hown (host := "") (Or.inl (hw _ (List.mem_of_getElem? (i := 61) rfl))) Via.refl e4q Pm2 Pm0 (Or.inl (hw _ (List.mem_of_getElem? (i := 62) rfl))) (hw _ (List.mem_of_getElem? (i := 31) rfl)) (ty := .int) (by decide) rfl rfl (g := (mkF m 29 #[.val (.ref o1), .val (.ref o2), .val (.ref o3)] [(.int (16 : Int32)), (.ref o1), (.int (16 : Int32)), (.ref o3)])) rfl rfl (hb hby d9_29)
  have N5 := Fr.snoc X5 N4 gn_o1
  have K5 : Keep h0 h5 [o1, o3] := (Keep.refl h0 [o1, o3]).wr W5 (Or.inl (List.mem_of_getElem? (i := 0) rfl))
  have F5 := Pm2.same W5
  refine step (T5.setTop (mkF m 32 #[.val (.ref o1), .val (.ref o2), .val (.ref o3)] [(.int (16 : Int32)), (.ref o3)])) (fun t k => st5 t k) ?_
  refine step (T5.setTop (mkF m 33 #[.val (.ref o1), .val (.ref o2), .val (.ref o3)] [(.ref o2), (.int (16 : Int32)), (.ref o3)])) (fun t k => XS.aloadN X5.here hx rfl (hb hby d9_32) rfl rfl k) ?_
  have f6 := (Pm5.other W5 (Ne.symm ne_o1_o3))
  have f7 := (Pm4.wr W5)
  obtain ⟨cl8, Ar8, q8, S8, N8n, H8, G8⟩ := id f6
  have hin8 : ¬ ((16 : Int32) < 0 ∨ cl8.slots.size ≤ ((16 : Int32)).toNatClampNeg) := inb_of S8 ⟨by decide, by decide⟩
  obtain ⟨T8, h8, X8, e8, W8, st8⟩ := stR X5 hx hZ e5 Ar8 (j := (16 : Int32)) (v := (.ref o2)) hin8 rfl (Sto.ofV Ar8 q8 O6 (Ins.of_exa f7 (hw _ (List.mem_of_getElem? (i := 66) rfl)))) (g := (mkF m 33 #[.val (.ref o1), .val (.ref o2), .val (.ref o3)] [(.ref o2), (.int (16 : Int32)), (.ref o3)])) rfl rfl (hb hby d9_33)
  have N8 := Fr.snoc X8 N5 gn_o3
  have K8 : Keep h0 h8 [o1, o3] := K5.wr W8 (Or.inl (List.mem_of_getElem? (i := 1) rfl))
  have V8 : Arv Z h8 o3 kc1 (.object "java/lang/Object") (17 : Int32) [.null, .null, .null, .null, .null, .null, .null, .null, .null, .null, .null, .null, .null, .null, .null, .null, (.ref o2)] .null := Arv.set Ar8 q8 S8 N8n H8 G8 rfl W8 16 rfl (Nat.le_of_ble_eq_true rfl)
  refine step (T8.setTop (mkF m 34 #[.val (.ref o1), .val (.ref o2), .val (.ref o3)] [])) (fun t k => st8 t k) ?_
  refine step (T8.setTop (mkF m 35 #[.val (.ref o1), .val (.ref o2), .val (.ref o3)] [(.ref o1)])) (fun t k => XS.aloadN X8.here hx rfl (hb hby d9_34) rfl rfl k) ?_
  have f9 := (F5.other W8 (Or.inl ne_o1_o3))
  obtain ⟨T10, X10, e10, st10⟩ := getF X8 hx hZ hown (host := "") (Or.inl (hw _ (List.mem_of_getElem? (i := 61) rfl))) Via.refl e8 f9 (g := (mkF m 35 #[.val (.ref o1), .val (.ref o2), .val (.ref o3)] [(.ref o1)])) rfl rfl (hb hby d9_35)
  refine step (T10.setTop (mkF m 38 #[.val (.ref o1), .val (.ref o2), .val (.ref o3)] [(.int (16 : Int32))])) (fun t k => st10 t k) ?_
  refine step (T10.setTop (mkF m 39 #[.val (.ref o1), .val (.ref o2), .val (.ref o3)] [(.ref o1), (.int (16 : Int32))])) (fun t k => XS.aloadN X10.here hx rfl (hb hby d9_38) rfl rfl k) ?_
  have f11 := ((Pm3.other W5 (Or.inr (slot_ne (Or.inl (hw _ (List.mem_of_getElem? (i := 68) rfl))) (Or.inl (hw _ (List.mem_of_getElem? (i := 62) rfl))) (by decide) (t := .int) (t' := .int) (by decide) (by decide)))).other W8 (Or.inl ne_o1_o3))
  obtain ⟨T12, X12, e12, st12⟩ := getF X10 hx hZ hown (host := "") (Or.inl (hw _ (List.mem_of_getElem? (i := 67) rfl))) Via.refl e10 f11 (g := (mkF m 39 #[.val (.ref o1), .val (.ref o2), .val (.ref o3)] [(.ref o1), (.int (16 : Int32))])) rfl rfl (hb hby d9_39)
  refine step (T12.setTop (mkF m 42 #[.val (.ref o1), .val (.ref o2), .val (.ref o3)] [(.int (0 : Int32)), (.int (16 : Int32))])) (fun t k => st12 t k) ?_
  refine step (T12.setTop (mkF m 50 #[.val (.ref o1), .val (.ref o2), .val (.ref o3)] [])) (fun t k => XS.icmpYes X12.here hx rfl (pc0 := 42) (pc' := 50) rfl (hb hby d9_42) rfl (feq (by decide : ¬ ((16 : Int32) = (0 : Int32)))).2 (by decide) (by decide) k) ?_
  have f13 := ((Pm1.other W5 (Or.inr (slot_ne (Or.inl (hw _ (List.mem_of_getElem? (i := 46) rfl))) (Or.inl (hw _ (List.mem_of_getElem? (i := 62) rfl))) (by decide) (t := (.array (.object "java/lang/Object"))) (t' := .int) (by decide) (by decide)))).other W8 (Or.inl ne_o1_o3))
  refine fin (v := none) X12 (fun _ => rfl) ?_ (by decide) (by decide) (fun fs hr => X12.returnOut hx hret (hb hby d9_50) hr)
  show Q9_8 Z o1 o2 o3 kc1 h0 n0 (none) T12.heap _
  rw [e12]
  exact ⟨rfl, N8, K8, f13, f9, f11, V8⟩
theorem ef_8_7 (m : MethodId) (x0 : Addr) (x1 : Addr) : entryFrame m #[(.ref x0), (.ref x1)] 2 = mkF m 0 #[.val (.ref x0), .val (.ref x1)] [] := by first | (simp [entryFrame, mkF, argsToLocals, Value.category]; done) | rfl
def Q8_7 (Z : State) (o1 : Addr) (o2 : Addr) (o3 : Addr) (kc1 : ClassId) (h0 : Heap) (n0 : Nat) (v : Option Value) (h : Heap) (L : List Loc) : Prop := v = none ∧ Fr n0 L ∧ Keep h0 h [o1, o3] ∧ Fld Z h o1 "java/util/ArrayDeque" "elements" "[Ljava/lang/Object;" (.ref o3) ∧ Fld Z h o1 "java/util/ArrayDeque" "head" "I" (.int (16 : Int32)) ∧ Fld Z h o1 "java/util/ArrayDeque" "tail" "I" (.int (0 : Int32)) ∧ Arv Z h o3 kc1 (.object "java/lang/Object") (17 : Int32) [.null, .null, .null, .null, .null, .null, .null, .null, .null, .null, .null, .null, .null, .null, .null, .null, (.ref o2)] .null
set_option maxRecDepth 65536 in
set_option maxHeartbeats 40000000 in
theorem rm8_7 (l : Launch) (Z : State) (a0 : Array Value) (hw : ∀ d ∈ tables_1, d.before a0 Z = true) (ws : List Jvm.Cond) (o1 : Addr) (o2 : Addr) (o3 : Addr) (kc1 : ClassId) (h0 : Heap) (n0 : Nat) (Z0 : n0 ≤ h0.size) (Pm0 : Exa Z h0 o1 "java/util/ArrayDeque") (Pm1 : Fld Z h0 o1 "java/util/ArrayDeque" "elements" "[Ljava/lang/Object;" (.ref o3)) (Pm2 : Fld Z h0 o1 "java/util/ArrayDeque" "head" "I" (.int (0 : Int32))) (Pm3 : Fld Z h0 o1 "java/util/ArrayDeque" "tail" "I" (.int (0 : Int32))) (Pm4 : Exa Z h0 o2 "com/example/vertex_to_service/vertextoservice/core/Choices") (Pm5 : Arv Z h0 o3 kc1 (.object "java/lang/Object") (17 : Int32) [.null, .null, .null, .null, .null, .null, .null, .null, .null, .null, .null, .null, .null, .null, .null, .null, .null] .null) (O6 : Ovr Z kc1 "java/lang/Object") (gn_o1 : n0 ≤ o1) (ne_o1_o2 : o1 ≠ o2) (ne_o1_o3 : o1 ≠ o3) (gn_o2 : n0 ≤ o2) (ne_o2_o3 : o2 ≠ o3) (gn_o3 : n0 ≤ o3)  :
    MetFree l (⟨"java/util/ArrayDeque", "push", "(Ljava/lang/Object;)V"⟩ : MethodName) (head1 (Jvm.Cond.code (⟨"java/util/ArrayDeque", "push", "(Ljava/lang/Object;)V"⟩ : MethodName) jdk_21_method_34_code 2 none :: ws) ({ frames := 2, cells := 0, slots := 0, locals := 29 } : Room)) (fun a U => a = #[(.ref o1), (.ref o2)] ∧ Z.Warmed39 U.vm ∧ U.heap = h0) (fun _ _ _ _ _ => True) (fun _ U o U' => ∃ v L, o = .returned v ∧ Q8_7 Z o1 o2 o3 kc1 h0 n0 v U'.heap L ∧ FrameEnd U o U' L ({ frames := 2, cells := 0, slots := 0, locals := 29 } : Room).cells ({ frames := 2, cells := 0, slots := 0, locals := 29 } : Room).slots) := by
  refine own_body (plainFor_of_name pn_2) ?_
  intro p e s m below meth c s₁ G hx hby hml hZ hown hnm hret X0 e0 step fin
  replace hown : s.vm.findClass "java/util/ArrayDeque" = some m.cls := hown
  replace hnm : meth.name = "push" := hnm
  replace hret : meth.sig.returnType = none := hret
  replace hml : c.maxLocals = 2 := hml
  have N0 := Fr.nil n0
  refine step (s₁.setTop (mkF m 0 #[.val (.ref o1), .val (.ref o2)] [])) (fun t k => castTop (ef_8_7 m o1 o2) k) ?_
  refine step (s₁.setTop (mkF m 1 #[.val (.ref o1), .val (.ref o2)] [(.ref o1)])) (fun t k => XS.aloadN X0.here hx rfl (hb hby d8_0) rfl rfl k) ?_
  refine step (s₁.setTop (mkF m 2 #[.val (.ref o1), .val (.ref o2)] [(.ref o2), (.ref o1)])) (fun t k => XS.aloadN X0.here hx rfl (hb hby d8_1) rfl rfl k) ?_
  obtain ⟨cq1, kq1, q1a, q1b, q1c⟩ := isOf hZ e0 Pm0
  obtain ⟨_, _, ⟨T1, L1, k1, n1⟩, -, X1, ⟨Lc1, hQ1, l1, y1, z1⟩, st1⟩ := X0.virtualBack hx (y := (⟨"java/util/ArrayDeque", "addFirst", "(Ljava/lang/Object;)V"⟩ : MethodName)) (z := (⟨"java/util/ArrayDeque", "addFirst", "(Ljava/lang/Object;)V"⟩ : MethodName)) hown (mvT hZ (hw _ (List.mem_of_getElem? (i := 56) rfl))) (mvT hZ (hw _ (List.mem_of_getElem? (i := 57) rfl))) (notFace_of_selects (args := #[]) (mvT hZ (hw _ (List.mem_of_getElem? (i := 59) rfl)))) (mvT hZ (hw _ (List.mem_of_getElem? (i := 59) rfl))) (mvT hZ (hw _ (List.mem_of_getElem? (i := 58) rfl))) (by decide) (backOf (W := 0) (rm9_8 l Z a0 hw [] o1 o2 o3 kc1 h0 n0 Z0 Pm0 Pm1 Pm2 Pm3 Pm4 Pm5 O6 gn_o1 ne_o1_o2 ne_o1_o3 gn_o2 ne_o2_o3 gn_o3) hZ (hw _ (List.mem_of_getElem? (i := 60) rfl)) (hw _ (List.mem_of_getElem? (i := 32) rfl)) (by decide) (by decide)) q1a q1c (g := (mkF m 2 #[.val (.ref o1), .val (.ref o2)] [(.ref o2), (.ref o1)])) rfl (by rw [hml]; rfl) (Steps.refl _) (argsL := [(.ref o2)]) (rest := []) (lenOf pd_7 rfl) rfl (by show 2 * 0 + _ ≤ _; exact Nat.le_of_eq rfl) (hb hby d8_2) (fun _ _ => ⟨rfl, e0, (by decide : 0 + 0 ≤ _), (by decide : 0 + 0 ≤ _)⟩)
  dsimp only [Pt.U, Pt.locs, Pt.cells, Pt.slots] at X1 l1 y1 z1 st1 hQ1
  subst l1 y1 z1
  obtain ⟨h1, e1⟩ : ∃ z, T1.heap = z := ⟨_, rfl⟩
  rw [e1] at hQ1
  obtain ⟨rfl, N1q, K1q, q0_1, q1_1, q2_1, q3_1⟩ := hQ1
  have N1 := Fr.app N0 N1q
  have K1 : Keep h0 h1 [o1, o3] := (Keep.refl h0 [o1, o3]).trans K1q (allS (Or.inl (List.mem_of_getElem? (i := 0) rfl)) (allS (Or.inl (List.mem_of_getElem? (i := 1) rfl)) all0))
  refine step (T1.setTop (mkF m 5 #[.val (.ref o1), .val (.ref o2)] [])) (fun t k => st1.trans k) ?_
  refine fin (v := none) X1 (fun _ => rfl) ?_ (by decide) (by decide) (fun fs hr => X1.returnOut hx hret (hb hby d8_5) hr)
  show Q8_7 Z o1 o2 o3 kc1 h0 n0 (none) T1.heap _
  rw [e1]
  exact ⟨rfl, N1, K1, q0_1, q1_1, q2_1, q3_1⟩
theorem d11_0 : decode jdk_21_method_38_code 0 = .ok (.aload_n 0, 1) := by decide +kernel
theorem d11_1 : decode jdk_21_method_38_code 1 = .ok (.getfield 24, 3) := by decide +kernel
theorem d11_4 : decode jdk_21_method_38_code 4 = .ok (.aload_n 0, 1) := by decide +kernel
theorem d11_5 : decode jdk_21_method_38_code 5 = .ok (.getfield 20, 3) := by decide +kernel
theorem d11_8 : decode jdk_21_method_38_code 8 = .ok (.if_icmp .ne 7, 3) := by decide +kernel
theorem d11_11 : decode jdk_21_method_38_code 11 = .ok (.iconst 1, 1) := by decide +kernel
theorem d11_12 : decode jdk_21_method_38_code 12 = .ok (.goto 4, 3) := by decide +kernel
theorem d11_15 : decode jdk_21_method_38_code 15 = .ok (.iconst 0, 1) := by decide +kernel
theorem d11_16 : decode jdk_21_method_38_code 16 = .ok (.ireturn, 1) := by decide +kernel
theorem ef_11_10 (m : MethodId) (x0 : Addr) : entryFrame m #[(.ref x0)] 1 = mkF m 0 #[.val (.ref x0)] [] := by first | (simp [entryFrame, mkF, argsToLocals, Value.category]; done) | rfl
def Q11_10 (Z : State) (o1 : Addr) (h0 : Heap) (n0 : Nat) (v : Option Value) (h : Heap) (L : List Loc) : Prop := v = some (.int (0 : Int32)) ∧ Fr n0 L ∧ h = h0
set_option maxRecDepth 65536 in
set_option maxHeartbeats 40000000 in
theorem rm11_10 (l : Launch) (Z : State) (a0 : Array Value) (hw : ∀ d ∈ tables_1, d.before a0 Z = true) (ws : List Jvm.Cond) (o1 : Addr) (h0 : Heap) (n0 : Nat) (Z0 : n0 ≤ h0.size) (Pm0 : Exa Z h0 o1 "java/util/ArrayDeque") (Pm1 : Fld Z h0 o1 "java/util/ArrayDeque" "head" "I" (.int (16 : Int32))) (Pm2 : Fld Z h0 o1 "java/util/ArrayDeque" "tail" "I" (.int (0 : Int32))) (gn_o1 : n0 ≤ o1)  :
    MetFree l (⟨"java/util/ArrayDeque", "isEmpty", "()Z"⟩ : MethodName) (head1 (Jvm.Cond.code (⟨"java/util/ArrayDeque", "isEmpty", "()Z"⟩ : MethodName) jdk_21_method_38_code 1 (some .boolean) :: ws) ({ frames := 0, cells := 0, slots := 0, locals := 0 } : Room)) (fun a U => a = #[(.ref o1)] ∧ Z.Warmed39 U.vm ∧ U.heap = h0) (fun _ _ _ _ _ => True) (fun _ U o U' => ∃ v L, o = .returned v ∧ Q11_10 Z o1 h0 n0 v U'.heap L ∧ FrameEnd U o U' L ({ frames := 0, cells := 0, slots := 0, locals := 0 } : Room).cells ({ frames := 0, cells := 0, slots := 0, locals := 0 } : Room).slots) := by
  refine own_body (plainFor_of_name pn_2) ?_
  intro p e s m below meth c s₁ G hx hby hml hZ hown hnm hret X0 e0 step fin
  replace hown : s.vm.findClass "java/util/ArrayDeque" = some m.cls := hown
  replace hnm : meth.name = "isEmpty" := hnm
  replace hret : meth.sig.returnType = some .boolean := hret
  replace hml : c.maxLocals = 1 := hml
  have N0 := Fr.nil n0
  refine step (s₁.setTop (mkF m 0 #[.val (.ref o1)] [])) (fun t k => castTop (ef_11_10 m o1) k) ?_
  refine step (s₁.setTop (mkF m 1 #[.val (.ref o1)] [(.ref o1)])) (fun t k => XS.aloadN X0.here hx rfl (hb hby d11_0) rfl rfl k) ?_
  obtain ⟨T1, X1, e1, st1⟩ := getF X0 hx hZ hown (host := "") (Or.inl (hw _ (List.mem_of_getElem? (i := 61) rfl))) Via.refl e0 Pm1 (g := (mkF m 1 #[.val (.ref o1)] [(.ref o1)])) rfl rfl (hb hby d11_1)
  refine step (T1.setTop (mkF m 4 #[.val (.ref o1)] [(.int (16 : Int32))])) (fun t k => st1 t k) ?_
  refine step (T1.setTop (mkF m 5 #[.val (.ref o1)] [(.ref o1), (.int (16 : Int32))])) (fun t k => XS.aloadN X1.here hx rfl (hb hby d11_4) rfl rfl k) ?_
  obtain ⟨T2, X2, e2, st2⟩ := getF X1 hx hZ hown (host := "") (Or.inl (hw _ (List.mem_of_getElem? (i := 67) rfl))) Via.refl e1 Pm2 (g := (mkF m 5 #[.val (.ref o1)] [(.ref o1), (.int (16 : Int32))])) rfl rfl (hb hby d11_5)
  refine step (T2.setTop (mkF m 8 #[.val (.ref o1)] [(.int (0 : Int32)), (.int (16 : Int32))])) (fun t k => st2 t k) ?_
  refine step (T2.setTop (mkF m 15 #[.val (.ref o1)] [])) (fun t k => XS.icmpYes X2.here hx rfl (pc0 := 8) (pc' := 15) rfl (hb hby d11_8) rfl (feq (by decide : ¬ ((16 : Int32) = (0 : Int32)))).2 (by decide) (by decide) k) ?_
  refine step (T2.setTop (mkF m 16 #[.val (.ref o1)] [(.int (0 : Int32))])) (fun t k => XS.iconst X2.here hx rfl (hb hby d11_15) k) ?_
  refine fin (v := some (.int (nar .boolean (0 : Int32)))) X2 (fun h => by cases h) ?_ (by decide) (by decide) (fun fs hr => retN X2 hx (t := .boolean) hret (by simp) (hb hby d11_16) hr)
  show Q11_10 Z o1 h0 n0 (some (.int (nar .boolean (0 : Int32)))) T2.heap _
  rw [e2]
  exact ⟨rfl, N0, rfl⟩
theorem d12_0 : decode jdk_21_method_35_code 0 = .ok (.aload_n 0, 1) := by decide +kernel
theorem d12_1 : decode jdk_21_method_35_code 1 = .ok (.invokevirtual 118, 3) := by decide +kernel
theorem d12_4 : decode jdk_21_method_35_code 4 = .ok (.areturn, 1) := by decide +kernel
theorem d13_0 : decode jdk_21_method_18_code 0 = .ok (.aload_n 0, 1) := by decide +kernel
theorem d13_1 : decode jdk_21_method_18_code 1 = .ok (.invokevirtual 93, 3) := by decide +kernel
theorem d13_4 : decode jdk_21_method_18_code 4 = .ok (.astore_n 1, 1) := by decide +kernel
theorem d13_5 : decode jdk_21_method_18_code 5 = .ok (.aload_n 1, 1) := by decide +kernel
theorem d13_6 : decode jdk_21_method_18_code 6 = .ok (.ifnonnull 11, 3) := by decide +kernel
theorem d13_9 : decode jdk_21_method_18_code 9 = .ok (.new 97, 3) := by decide +kernel
theorem d13_12 : decode jdk_21_method_18_code 12 = .ok (.dup, 1) := by decide +kernel
theorem d13_13 : decode jdk_21_method_18_code 13 = .ok (.invokespecial 99, 3) := by decide +kernel
theorem d13_16 : decode jdk_21_method_18_code 16 = .ok (.athrow, 1) := by decide +kernel
theorem d13_17 : decode jdk_21_method_18_code 17 = .ok (.aload_n 1, 1) := by decide +kernel
theorem d13_18 : decode jdk_21_method_18_code 18 = .ok (.areturn, 1) := by decide +kernel
theorem d14_0 : decode jdk_21_method_20_code 0 = .ok (.aload_n 0, 1) := by decide +kernel
theorem d14_1 : decode jdk_21_method_20_code 1 = .ok (.getfield 3, 3) := by decide +kernel
theorem d14_4 : decode jdk_21_method_20_code 4 = .ok (.dup, 1) := by decide +kernel
theorem d14_5 : decode jdk_21_method_20_code 5 = .ok (.astore_n 1, 1) := by decide +kernel
theorem d14_6 : decode jdk_21_method_20_code 6 = .ok (.aload_n 0, 1) := by decide +kernel
theorem d14_7 : decode jdk_21_method_20_code 7 = .ok (.getfield 24, 3) := by decide +kernel
theorem d14_10 : decode jdk_21_method_20_code 10 = .ok (.dup, 1) := by decide +kernel
theorem d14_11 : decode jdk_21_method_20_code 11 = .ok (.istore_n 2, 1) := by decide +kernel
theorem d14_12 : decode jdk_21_method_20_code 12 = .ok (.invokestatic 103, 3) := by decide +kernel
theorem d14_15 : decode jdk_21_method_20_code 15 = .ok (.astore_n 3, 1) := by decide +kernel
theorem d14_16 : decode jdk_21_method_20_code 16 = .ok (.aload_n 3, 1) := by decide +kernel
theorem d14_17 : decode jdk_21_method_20_code 17 = .ok (.ifnull 17, 3) := by decide +kernel
theorem d14_20 : decode jdk_21_method_20_code 20 = .ok (.aload_n 1, 1) := by decide +kernel
theorem d14_21 : decode jdk_21_method_20_code 21 = .ok (.iload_n 2, 1) := by decide +kernel
theorem d14_22 : decode jdk_21_method_20_code 22 = .ok (.aconst_null, 1) := by decide +kernel
theorem d14_23 : decode jdk_21_method_20_code 23 = .ok (.aastore, 1) := by decide +kernel
theorem d14_24 : decode jdk_21_method_20_code 24 = .ok (.aload_n 0, 1) := by decide +kernel
theorem d14_25 : decode jdk_21_method_20_code 25 = .ok (.iload_n 2, 1) := by decide +kernel
theorem d14_26 : decode jdk_21_method_20_code 26 = .ok (.aload_n 1, 1) := by decide +kernel
theorem d14_27 : decode jdk_21_method_20_code 27 = .ok (.arraylength, 1) := by decide +kernel
theorem d14_28 : decode jdk_21_method_20_code 28 = .ok (.invokestatic 74, 3) := by decide +kernel
theorem d14_31 : decode jdk_21_method_20_code 31 = .ok (.putfield 24, 3) := by decide +kernel
theorem d14_34 : decode jdk_21_method_20_code 34 = .ok (.aload_n 3, 1) := by decide +kernel
theorem d14_35 : decode jdk_21_method_20_code 35 = .ok (.areturn, 1) := by decide +kernel
theorem pd_11 : parseMethodDescriptor "([Ljava/lang/Object;I)Ljava/lang/Object;" = some ⟨[(.array (.object "java/lang/Object")), .int], some (.object "java/lang/Object")⟩ := by decide +kernel
theorem d15_0 : decode jdk_21_method_10_code 0 = .ok (.aload_n 0, 1) := by decide +kernel
theorem d15_1 : decode jdk_21_method_10_code 1 = .ok (.iload_n 1, 1) := by decide +kernel
theorem d15_2 : decode jdk_21_method_10_code 2 = .ok (.aaload, 1) := by decide +kernel
theorem d15_3 : decode jdk_21_method_10_code 3 = .ok (.areturn, 1) := by decide +kernel
theorem ef_15_14 (m : MethodId) (x0 : Addr) : entryFrame m #[(.ref x0), (.int (16 : Int32))] 2 = mkF m 0 #[.val (.ref x0), .val (.int (16 : Int32))] [] := by first | (simp [entryFrame, mkF, argsToLocals, Value.category]; done) | rfl
def Q15_14 (Z : State) (o1 : Addr) (kc1 : ClassId) (o2 : Addr) (h0 : Heap) (n0 : Nat) (v : Option Value) (h : Heap) (L : List Loc) : Prop := v = some (.ref o2) ∧ Fr n0 L ∧ h = h0
set_option maxRecDepth 65536 in
set_option maxHeartbeats 40000000 in
theorem rm15_14 (l : Launch) (Z : State) (a0 : Array Value) (hw : ∀ d ∈ tables_1, d.before a0 Z = true) (ws : List Jvm.Cond) (o1 : Addr) (kc1 : ClassId) (o2 : Addr) (h0 : Heap) (n0 : Nat) (Z0 : n0 ≤ h0.size) (Pm0 : Arv Z h0 o1 kc1 (.object "java/lang/Object") (17 : Int32) [.null, .null, .null, .null, .null, .null, .null, .null, .null, .null, .null, .null, .null, .null, .null, .null, (.ref o2)] .null) (O1 : Ovr Z kc1 "java/lang/Object") (Pm2 : Exa Z h0 o2 "com/example/vertex_to_service/vertextoservice/core/Choices") (gn_o1 : n0 ≤ o1) (ne_o1_o2 : o1 ≠ o2) (gn_o2 : n0 ≤ o2)  :
    MetFree l (⟨"java/util/ArrayDeque", "elementAt", "([Ljava/lang/Object;I)Ljava/lang/Object;"⟩ : MethodName) (head1 (Jvm.Cond.code (⟨"java/util/ArrayDeque", "elementAt", "([Ljava/lang/Object;I)Ljava/lang/Object;"⟩ : MethodName) jdk_21_method_10_code 2 (some (.object "java/lang/Object")) :: ws) ({ frames := 0, cells := 0, slots := 0, locals := 0 } : Room)) (fun a U => a = #[(.ref o1), (.int (16 : Int32))] ∧ Z.Warmed39 U.vm ∧ U.heap = h0) (fun _ _ _ _ _ => True) (fun _ U o U' => ∃ v L, o = .returned v ∧ Q15_14 Z o1 kc1 o2 h0 n0 v U'.heap L ∧ FrameEnd U o U' L ({ frames := 0, cells := 0, slots := 0, locals := 0 } : Room).cells ({ frames := 0, cells := 0, slots := 0, locals := 0 } : Room).slots) := by
  refine own_body (plainFor_of_name pn_2) ?_
  intro p e s m below meth c s₁ G hx hby hml hZ hown hnm hret X0 e0 step fin
  replace hown : s.vm.findClass "java/util/ArrayDeque" = some m.cls := hown
  replace hnm : meth.name = "elementAt" := hnm
  replace hret : meth.sig.returnType = some (.object "java/lang/Object") := hret
  replace hml : c.maxLocals = 2 := hml
  have N0 := Fr.nil n0
  refine step (s₁.setTop (mkF m 0 #[.val (.ref o1), .val (.int (16 : Int32))] [])) (fun t k => castTop (ef_15_14 m o1) k) ?_
  refine step (s₁.setTop (mkF m 1 #[.val (.ref o1), .val (.int (16 : Int32))] [(.ref o1)])) (fun t k => XS.aloadN X0.here hx rfl (hb hby d15_0) rfl rfl k) ?_
  refine step (s₁.setTop (mkF m 2 #[.val (.ref o1), .val (.int (16 : Int32))] [(.int (16 : Int32)), (.ref o1)])) (fun t k => XS.iloadN X0.here hx rfl (hb hby d15_1) rfl k) ?_
  obtain ⟨cl1, Ar1, q1, S1, N1n, H1, G1⟩ := id Pm0
  have hin1 : ¬ ((16 : Int32) < 0 ∨ cl1.slots.size ≤ ((16 : Int32)).toNatClampNeg) := inb_of S1 ⟨by decide, by decide⟩
  have hat1 : cl1.slots[((16 : Int32)).toNatClampNeg]? = some (.ref o2) := H1.at hin1 rfl
  refine step (s₁.setTop (mkF m 3 #[.val (.ref o1), .val (.int (16 : Int32))] [(.ref o2)])) (fun t k => X0.aaload hx (j := (16 : Int32)) (v := (.ref o2)) (by rw [e0]; exact Ar1.1) (State.isArrayOf_alike hZ.alike Ar1.2.1) rfl Ar1.2.2 hin1 hat1 (g := (mkF m 2 #[.val (.ref o1), .val (.int (16 : Int32))] [(.int (16 : Int32)), (.ref o1)])) rfl rfl (hb hby d15_2) t k) ?_
  refine fin (v := some (.ref o2)) X0 (fun h => by cases h) ?_ (by decide) (by decide) (fun fs hr => X0.areturnOut hx rfl hret rfl (hb hby d15_3) hr)
  show Q15_14 Z o1 kc1 o2 h0 n0 (some (.ref o2)) s₁.heap _
  rw [e0]
  exact ⟨rfl, N0, rfl⟩
theorem d16_0 : decode jdk_21_method_6_code 0 = .ok (.iinc 0 1, 3) := by decide +kernel
theorem d16_3 : decode jdk_21_method_6_code 3 = .ok (.iload_n 0, 1) := by decide +kernel
theorem d16_4 : decode jdk_21_method_6_code 4 = .ok (.iload_n 1, 1) := by decide +kernel
theorem d16_5 : decode jdk_21_method_6_code 5 = .ok (.if_icmp .lt 5, 3) := by decide +kernel
theorem d16_8 : decode jdk_21_method_6_code 8 = .ok (.iconst 0, 1) := by decide +kernel
theorem d16_9 : decode jdk_21_method_6_code 9 = .ok (.istore_n 0, 1) := by decide +kernel
theorem d16_10 : decode jdk_21_method_6_code 10 = .ok (.iload_n 0, 1) := by decide +kernel
theorem d16_11 : decode jdk_21_method_6_code 11 = .ok (.ireturn, 1) := by decide +kernel
theorem ef_16_15 (m : MethodId)  : entryFrame m #[(.int (16 : Int32)), (.int (17 : Int32))] 2 = mkF m 0 #[.val (.int (16 : Int32)), .val (.int (17 : Int32))] [] := by first | (simp [entryFrame, mkF, argsToLocals, Value.category]; done) | rfl
def Q16_15 (Z : State)  (h0 : Heap) (n0 : Nat) (v : Option Value) (h : Heap) (L : List Loc) : Prop := v = some (.int (0 : Int32)) ∧ Fr n0 L ∧ h = h0
set_option maxRecDepth 65536 in
set_option maxHeartbeats 40000000 in
theorem rm16_15 (l : Launch) (Z : State) (a0 : Array Value) (hw : ∀ d ∈ tables_1, d.before a0 Z = true) (ws : List Jvm.Cond)  (h0 : Heap) (n0 : Nat) (Z0 : n0 ≤ h0.size)  :
    MetFree l (⟨"java/util/ArrayDeque", "inc", "(II)I"⟩ : MethodName) (head1 (Jvm.Cond.code (⟨"java/util/ArrayDeque", "inc", "(II)I"⟩ : MethodName) jdk_21_method_6_code 2 (some .int) :: ws) ({ frames := 0, cells := 0, slots := 0, locals := 0 } : Room)) (fun a U => a = #[(.int (16 : Int32)), (.int (17 : Int32))] ∧ Z.Warmed39 U.vm ∧ U.heap = h0) (fun _ _ _ _ _ => True) (fun _ U o U' => ∃ v L, o = .returned v ∧ Q16_15 Z  h0 n0 v U'.heap L ∧ FrameEnd U o U' L ({ frames := 0, cells := 0, slots := 0, locals := 0 } : Room).cells ({ frames := 0, cells := 0, slots := 0, locals := 0 } : Room).slots) := by
  refine own_body (plainFor_of_name pn_2) ?_
  intro p e s m below meth c s₁ G hx hby hml hZ hown hnm hret X0 e0 step fin
  replace hown : s.vm.findClass "java/util/ArrayDeque" = some m.cls := hown
  replace hnm : meth.name = "inc" := hnm
  replace hret : meth.sig.returnType = some .int := hret
  replace hml : c.maxLocals = 2 := hml
  have N0 := Fr.nil n0
  refine step (s₁.setTop (mkF m 0 #[.val (.int (16 : Int32)), .val (.int (17 : Int32))] [])) (fun t k => castTop (ef_16_15 m ) k) ?_
  refine step (s₁.setTop (mkF m 3 #[.val (.int (17 : Int32)), .val (.int (17 : Int32))] [])) (fun t k => XS.iinc X0.here hx rfl (hb hby d16_0) rfl (l' := #[.val (.int (17 : Int32)), .val (.int (17 : Int32))]) rfl k) ?_
  refine step (s₁.setTop (mkF m 4 #[.val (.int (17 : Int32)), .val (.int (17 : Int32))] [(.int (17 : Int32))])) (fun t k => XS.iloadN X0.here hx rfl (hb hby d16_3) rfl k) ?_
  refine step (s₁.setTop (mkF m 5 #[.val (.int (17 : Int32)), .val (.int (17 : Int32))] [(.int (17 : Int32)), (.int (17 : Int32))])) (fun t k => XS.iloadN X0.here hx rfl (hb hby d16_4) rfl k) ?_
  refine step (s₁.setTop (mkF m 8 #[.val (.int (17 : Int32)), .val (.int (17 : Int32))] [])) (fun t k => XS.icmpNo X0.here hx rfl (hb hby d16_5) rfl (flt (by decide : ¬ ((17 : Int32) < (17 : Int32)))).1 k) ?_
  refine step (s₁.setTop (mkF m 9 #[.val (.int (17 : Int32)), .val (.int (17 : Int32))] [(.int (0 : Int32))])) (fun t k => XS.iconst X0.here hx rfl (hb hby d16_8) k) ?_
  refine step (s₁.setTop (mkF m 10 #[.val (.int (0 : Int32)), .val (.int (17 : Int32))] [])) (fun t k => XS.istoreN X0.here hx rfl (hb hby d16_9) rfl (l' := #[.val (.int (0 : Int32)), .val (.int (17 : Int32))]) rfl k) ?_
  refine step (s₁.setTop (mkF m 11 #[.val (.int (0 : Int32)), .val (.int (17 : Int32))] [(.int (0 : Int32))])) (fun t k => XS.iloadN X0.here hx rfl (hb hby d16_10) rfl k) ?_
  refine fin (v := some (.int (0 : Int32))) X0 (fun h => by cases h) ?_ (by decide) (by decide) (fun fs hr => retI X0 hx hret (hb hby d16_11) hr)
  show Q16_15 Z  h0 n0 (some (.int (0 : Int32))) s₁.heap _
  rw [e0]
  exact ⟨rfl, N0, rfl⟩
theorem ef_14_13 (m : MethodId) (x0 : Addr) : entryFrame m #[(.ref x0)] 4 = mkF m 0 #[.val (.ref x0), .unset, .unset, .unset] [] := by first | (simp [entryFrame, mkF, argsToLocals, Value.category]; done) | rfl
def Q14_13 (Z : State) (o1 : Addr) (o2 : Addr) (kc1 : ClassId) (o3 : Addr) (h0 : Heap) (n0 : Nat) (v : Option Value) (h : Heap) (L : List Loc) : Prop := v = some (.ref o3) ∧ Fr n0 L ∧ Keep h0 h [o2, o1] ∧ Arv Z h o2 kc1 (.object "java/lang/Object") (17 : Int32) [.null, .null, .null, .null, .null, .null, .null, .null, .null, .null, .null, .null, .null, .null, .null, .null, .null] .null ∧ Fld Z h o1 "java/util/ArrayDeque" "elements" "[Ljava/lang/Object;" (.ref o2) ∧ Fld Z h o1 "java/util/ArrayDeque" "head" "I" (.int (0 : Int32)) ∧ Fld Z h o1 "java/util/ArrayDeque" "tail" "I" (.int (0 : Int32))
set_option maxRecDepth 65536 in
set_option maxHeartbeats 40000000 in
theorem rm14_13 (l : Launch) (Z : State) (a0 : Array Value) (hw : ∀ d ∈ tables_1, d.before a0 Z = true) (ws : List Jvm.Cond) (o1 : Addr) (o2 : Addr) (kc1 : ClassId) (o3 : Addr) (h0 : Heap) (n0 : Nat) (Z0 : n0 ≤ h0.size) (Pm0 : Exa Z h0 o1 "java/util/ArrayDeque") (Pm1 : Fld Z h0 o1 "java/util/ArrayDeque" "elements" "[Ljava/lang/Object;" (.ref o2)) (Pm2 : Fld Z h0 o1 "java/util/ArrayDeque" "head" "I" (.int (16 : Int32))) (Pm3 : Fld Z h0 o1 "java/util/ArrayDeque" "tail" "I" (.int (0 : Int32))) (Pm4 : Arv Z h0 o2 kc1 (.object "java/lang/Object") (17 : Int32) [.null, .null, .null, .null, .null, .null, .null, .null, .null, .null, .null, .null, .null, .null, .null, .null, (.ref o3)] .null) (O5 : Ovr Z kc1 "java/lang/Object") (Pm6 : Exa Z h0 o3 "com/example/vertex_to_service/vertextoservice/core/Choices") (gn_o1 : n0 ≤ o1) (ne_o1_o2 : o1 ≠ o2) (ne_o1_o3 : o1 ≠ o3) (gn_o2 : n0 ≤ o2) (ne_o2_o3 : o2 ≠ o3) (gn_o3 : n0 ≤ o3)  :
    MetFree l (⟨"java/util/ArrayDeque", "pollFirst", "()Ljava/lang/Object;"⟩ : MethodName) (head1 (Jvm.Cond.code (⟨"java/util/ArrayDeque", "pollFirst", "()Ljava/lang/Object;"⟩ : MethodName) jdk_21_method_20_code 4 (some (.object "java/lang/Object")) :: ws) ({ frames := 1, cells := 0, slots := 0, locals := 14 } : Room)) (fun a U => a = #[(.ref o1)] ∧ Z.Warmed39 U.vm ∧ U.heap = h0) (fun _ _ _ _ _ => True) (fun _ U o U' => ∃ v L, o = .returned v ∧ Q14_13 Z o1 o2 kc1 o3 h0 n0 v U'.heap L ∧ FrameEnd U o U' L ({ frames := 1, cells := 0, slots := 0, locals := 14 } : Room).cells ({ frames := 1, cells := 0, slots := 0, locals := 14 } : Room).slots) := by
  refine own_body (plainFor_of_name pn_2) ?_
  intro p e s m below meth c s₁ G hx hby hml hZ hown hnm hret X0 e0 step fin
  replace hown : s.vm.findClass "java/util/ArrayDeque" = some m.cls := hown
  replace hnm : meth.name = "pollFirst" := hnm
  replace hret : meth.sig.returnType = some (.object "java/lang/Object") := hret
  replace hml : c.maxLocals = 4 := hml
  have N0 := Fr.nil n0
  refine step (s₁.setTop (mkF m 0 #[.val (.ref o1), .unset, .unset, .unset] [])) (fun t k => castTop (ef_14_13 m o1) k) ?_
  refine step (s₁.setTop (mkF m 1 #[.val (.ref o1), .unset, .unset, .unset] [(.ref o1)])) (fun t k => XS.aloadN X0.here hx rfl (hb hby d14_0) rfl rfl k) ?_
  obtain ⟨T1, X1, e1, st1⟩ := getF X0 hx hZ hown (host := "") (Or.inl (hw _ (List.mem_of_getElem? (i := 45) rfl))) Via.refl e0 Pm1 (g := (mkF m 1 #[.val (.ref o1), .unset, .unset, .unset] [(.ref o1)])) rfl rfl (hb hby d14_1)
  refine step (T1.setTop (mkF m 4 #[.val (.ref o1), .unset, .unset, .unset] [(.ref o2)])) (fun t k => st1 t k) ?_
  refine step (T1.setTop (mkF m 5 #[.val (.ref o1), .unset, .unset, .unset] [(.ref o2), (.ref o2)])) (fun t k => XS.dup X1.here hx rfl (hb hby d14_4) rfl rfl k) ?_
  refine step (T1.setTop (mkF m 6 #[.val (.ref o1), .val (.ref o2), .unset, .unset] [(.ref o2)])) (fun t k => XS.astoreN X1.here hx rfl (hb hby d14_5) rfl rfl (l' := #[.val (.ref o1), .val (.ref o2), .unset, .unset]) rfl k) ?_
  refine step (T1.setTop (mkF m 7 #[.val (.ref o1), .val (.ref o2), .unset, .unset] [(.ref o1), (.ref o2)])) (fun t k => XS.aloadN X1.here hx rfl (hb hby d14_6) rfl rfl k) ?_
  obtain ⟨T2, X2, e2, st2⟩ := getF X1 hx hZ hown (host := "") (Or.inl (hw _ (List.mem_of_getElem? (i := 61) rfl))) Via.refl e1 Pm2 (g := (mkF m 7 #[.val (.ref o1), .val (.ref o2), .unset, .unset] [(.ref o1), (.ref o2)])) rfl rfl (hb hby d14_7)
  refine step (T2.setTop (mkF m 10 #[.val (.ref o1), .val (.ref o2), .unset, .unset] [(.int (16 : Int32)), (.ref o2)])) (fun t k => st2 t k) ?_
  refine step (T2.setTop (mkF m 11 #[.val (.ref o1), .val (.ref o2), .unset, .unset] [(.int (16 : Int32)), (.int (16 : Int32)), (.ref o2)])) (fun t k => XS.dup X2.here hx rfl (hb hby d14_10) rfl rfl k) ?_
  refine step (T2.setTop (mkF m 12 #[.val (.ref o1), .val (.ref o2), .val (.int (16 : Int32)), .unset] [(.int (16 : Int32)), (.ref o2)])) (fun t k => XS.istoreN X2.here hx rfl (hb hby d14_11) rfl (l' := #[.val (.ref o1), .val (.ref o2), .val (.int (16 : Int32)), .unset]) rfl k) ?_
  obtain ⟨_, _, ⟨T3, L3, k3, n3⟩, -, X3, ⟨Lc3, hQ3, l3, y3, z3⟩, st3⟩ := Jvm.LawKit.callS X2 hx (y := (⟨"java/util/ArrayDeque", "elementAt", "([Ljava/lang/Object;I)Ljava/lang/Object;"⟩ : MethodName)) hown (mvT hZ (hw _ (List.mem_of_getElem? (i := 89) rfl))) (mvT hZ (hw _ (List.mem_of_getElem? (i := 90) rfl))) (mvT hZ (hw _ (List.mem_of_getElem? (i := 32) rfl))) (mvT hZ (hw _ (List.mem_of_getElem? (i := 91) rfl))) (by decide) (backOf (W := 0) (rm15_14 l Z a0 hw [] o2 kc1 o3 h0 n0 Z0 Pm4 O5 Pm6 gn_o2 ne_o2_o3 gn_o3) hZ (hw _ (List.mem_of_getElem? (i := 91) rfl)) (hw _ (List.mem_of_getElem? (i := 32) rfl)) (by decide) (by decide)) (g := (mkF m 12 #[.val (.ref o1), .val (.ref o2), .val (.int (16 : Int32)), .unset] [(.int (16 : Int32)), (.ref o2)])) rfl (by rw [hml]; rfl) (argsL := [(.ref o2), (.int (16 : Int32))]) (rest := []) (lenOf pd_11 rfl) rfl (by show 2 * 0 + _ ≤ _; exact Nat.le_of_eq rfl) (hb hby d14_12) (fun _ _ => ⟨rfl, e2, (by decide : 0 + 0 ≤ _), (by decide : 0 + 0 ≤ _)⟩)
  dsimp only [Pt.U, Pt.locs, Pt.cells, Pt.slots] at X3 l3 y3 z3 st3 hQ3
  subst l3 y3 z3
  obtain ⟨rfl, N3q, e3q⟩ := hQ3
  have N3 := Fr.app N0 N3q
  refine step (T3.setTop (mkF m 15 #[.val (.ref o1), .val (.ref o2), .val (.int (16 : Int32)), .unset] [(.ref o3)])) (fun t k => st3 t k) ?_
  refine step (T3.setTop (mkF m 16 #[.val (.ref o1), .val (.ref o2), .val (.int (16 : Int32)), .val (.ref o3)] [])) (fun t k => XS.astoreN X3.here hx rfl (hb hby d14_15) rfl rfl (l' := #[.val (.ref o1), .val (.ref o2), .val (.int (16 : Int32)), .val (.ref o3)]) rfl k) ?_
  refine step (T3.setTop (mkF m 17 #[.val (.ref o1), .val (.ref o2), .val (.int (16 : Int32)), .val (.ref o3)] [(.ref o3)])) (fun t k => XS.aloadN X3.here hx rfl (hb hby d14_16) rfl rfl k) ?_
  refine step (T3.setTop (mkF m 20 #[.val (.ref o1), .val (.ref o2), .val (.int (16 : Int32)), .val (.ref o3)] [])) (fun t k => XS.ifnullNo X3.here hx rfl (hb hby d14_17) rfl k) ?_
  refine step (T3.setTop (mkF m 21 #[.val (.ref o1), .val (.ref o2), .val (.int (16 : Int32)), .val (.ref o3)] [(.ref o2)])) (fun t k => XS.aloadN X3.here hx rfl (hb hby d14_20) rfl rfl k) ?_
  refine step (T3.setTop (mkF m 22 #[.val (.ref o1), .val (.ref o2), .val (.int (16 : Int32)), .val (.ref o3)] [(.int (16 : Int32)), (.ref o2)])) (fun t k => XS.iloadN X3.here hx rfl (hb hby d14_21) rfl k) ?_
  refine step (T3.setTop (mkF m 23 #[.val (.ref o1), .val (.ref o2), .val (.int (16 : Int32)), .val (.ref o3)] [.null, (.int (16 : Int32)), (.ref o2)])) (fun t k => XS.aconstNull X3.here hx rfl (hb hby d14_22) k) ?_
  obtain ⟨cl4, Ar4, q4, S4, N4n, H4, G4⟩ := id Pm4
  have hin4 : ¬ ((16 : Int32) < 0 ∨ cl4.slots.size ≤ ((16 : Int32)).toNatClampNeg) := inb_of S4 ⟨by decide, by decide⟩
  obtain ⟨T4, h4, X4, e4, W4, st4⟩ := stR X3 hx hZ e3q Ar4 (j := (16 : Int32)) (v := .null) hin4 rfl (Or.inl rfl) (g := (mkF m 23 #[.val (.ref o1), .val (.ref o2), .val (.int (16 : Int32)), .val (.ref o3)] [.null, (.int (16 : Int32)), (.ref o2)])) rfl rfl (hb hby d14_23)
  have N4 := Fr.snoc X4 N3 gn_o2
  have K4 : Keep h0 h4 [o2, o1] := (Keep.refl h0 [o2, o1]).wr W4 (Or.inl (List.mem_of_getElem? (i := 0) rfl))
  have V4 : Arv Z h4 o2 kc1 (.object "java/lang/Object") (17 : Int32) [.null, .null, .null, .null, .null, .null, .null, .null, .null, .null, .null, .null, .null, .null, .null, .null, .null] .null := Arv.set Ar4 q4 S4 N4n H4 G4 rfl W4 16 rfl (Nat.le_of_ble_eq_true rfl)
  refine step (T4.setTop (mkF m 24 #[.val (.ref o1), .val (.ref o2), .val (.int (16 : Int32)), .val (.ref o3)] [])) (fun t k => st4 t k) ?_
  refine step (T4.setTop (mkF m 25 #[.val (.ref o1), .val (.ref o2), .val (.int (16 : Int32)), .val (.ref o3)] [(.ref o1)])) (fun t k => XS.aloadN X4.here hx rfl (hb hby d14_24) rfl rfl k) ?_
  refine step (T4.setTop (mkF m 26 #[.val (.ref o1), .val (.ref o2), .val (.int (16 : Int32)), .val (.ref o3)] [(.int (16 : Int32)), (.ref o1)])) (fun t k => XS.iloadN X4.here hx rfl (hb hby d14_25) rfl k) ?_
  refine step (T4.setTop (mkF m 27 #[.val (.ref o1), .val (.ref o2), .val (.int (16 : Int32)), .val (.ref o3)] [(.ref o2), (.int (16 : Int32)), (.ref o1)])) (fun t k => XS.aloadN X4.here hx rfl (hb hby d14_26) rfl rfl k) ?_
  obtain ⟨cl5, Ar5, q5, S5, N5n, H5, G5⟩ := id V4
  refine step (T4.setTop (mkF m 28 #[.val (.ref o1), .val (.ref o2), .val (.int (16 : Int32)), .val (.ref o3)] [(.int (17 : Int32)), (.int (16 : Int32)), (.ref o1)])) (fun t k => X4.arraylength hx (by rw [e4]; exact Ar5.1) (State.isArrayOf_alike hZ.alike Ar5.2.1) (g := (mkF m 27 #[.val (.ref o1), .val (.ref o2), .val (.int (16 : Int32)), .val (.ref o3)] [(.ref o2), (.int (16 : Int32)), (.ref o1)])) rfl rfl (hb hby d14_27) t (by rw [len_of S5 N5n]; exact k)) ?_
  obtain ⟨_, _, ⟨T6, L6, k6, n6⟩, -, X6, ⟨Lc6, hQ6, l6, y6, z6⟩, st6⟩ := Jvm.LawKit.callS X4 hx (y := (⟨"java/util/ArrayDeque", "inc", "(II)I"⟩ : MethodName)) hown (mvT hZ (hw _ (List.mem_of_getElem? (i := 92) rfl))) (mvT hZ (hw _ (List.mem_of_getElem? (i := 93) rfl))) (mvT hZ (hw _ (List.mem_of_getElem? (i := 32) rfl))) (mvT hZ (hw _ (List.mem_of_getElem? (i := 94) rfl))) (by decide) (backOf (W := 1) (rm16_15 l Z a0 hw []  h4 n0 (Nat.le_trans Z0 K4.1) ) hZ (hw _ (List.mem_of_getElem? (i := 94) rfl)) (hw _ (List.mem_of_getElem? (i := 32) rfl)) (by decide) (by decide)) (g := (mkF m 28 #[.val (.ref o1), .val (.ref o2), .val (.int (16 : Int32)), .val (.ref o3)] [(.int (17 : Int32)), (.int (16 : Int32)), (.ref o1)])) rfl (by rw [hml]; rfl) (argsL := [(.int (16 : Int32)), (.int (17 : Int32))]) (rest := [(.ref o1)]) (lenOf pd_10 rfl) rfl (by show 2 * 0 + _ ≤ _; exact Nat.le_of_eq rfl) (hb hby d14_28) (fun _ _ => ⟨rfl, e4, (by decide : 0 + 0 ≤ _), (by decide : 0 + 0 ≤ _)⟩)
  dsimp only [Pt.U, Pt.locs, Pt.cells, Pt.slots] at X6 l6 y6 z6 st6 hQ6
  subst l6 y6 z6
  obtain ⟨rfl, N6q, e6q⟩ := hQ6
  have N6 := Fr.app N4 N6q
  refine step (T6.setTop (mkF m 31 #[.val (.ref o1), .val (.ref o2), .val (.int (16 : Int32)), .val (.ref o3)] [(.int (0 : Int32)), (.ref o1)])) (fun t k => st6 t k) ?_
  have f7 := (Pm0.wr W4)
  have f8 := (Pm2.other W4 (Or.inl ne_o1_o2))
  obtain ⟨T9, h9, X9, e9, W9, st9⟩ := putF X6 hx hZ hown (host := "") (Or.inl (hw _ (List.mem_of_getElem? (i := 61) rfl))) Via.refl e6q f8 f7 (Or.inl (hw _ (List.mem_of_getElem? (i := 62) rfl))) (hw _ (List.mem_of_getElem? (i := 31) rfl)) (ty := .int) (by decide) rfl rfl (g := (mkF m 31 #[.val (.ref o1), .val (.ref o2), .val (.int (16 : Int32)), .val (.ref o3)] [(.int (0 : Int32)), (.ref o1)])) rfl rfl (hb hby d14_31)
  have N9 := Fr.snoc X9 N6 gn_o1
  have K9 : Keep h0 h9 [o2, o1] := K4.wr W9 (Or.inl (List.mem_of_getElem? (i := 1) rfl))
  have F9 := f8.same W9
  refine step (T9.setTop (mkF m 34 #[.val (.ref o1), .val (.ref o2), .val (.int (16 : Int32)), .val (.ref o3)] [])) (fun t k => st9 t k) ?_
  refine step (T9.setTop (mkF m 35 #[.val (.ref o1), .val (.ref o2), .val (.int (16 : Int32)), .val (.ref o3)] [(.ref o3)])) (fun t k => XS.aloadN X9.here hx rfl (hb hby d14_34) rfl rfl k) ?_
  have f10 := (V4.other W9 (Ne.symm ne_o1_o2))
  have f11 := ((Pm1.other W4 (Or.inl ne_o1_o2)).other W9 (Or.inr (slot_ne (Or.inl (hw _ (List.mem_of_getElem? (i := 46) rfl))) (Or.inl (hw _ (List.mem_of_getElem? (i := 62) rfl))) (by decide) (t := (.array (.object "java/lang/Object"))) (t' := .int) (by decide) (by decide))))
  have f12 := ((Pm3.other W4 (Or.inl ne_o1_o2)).other W9 (Or.inr (slot_ne (Or.inl (hw _ (List.mem_of_getElem? (i := 68) rfl))) (Or.inl (hw _ (List.mem_of_getElem? (i := 62) rfl))) (by decide) (t := .int) (t' := .int) (by decide) (by decide))))
  refine fin (v := some (.ref o3)) X9 (fun h => by cases h) ?_ (by decide) (by decide) (fun fs hr => X9.areturnOut hx rfl hret rfl (hb hby d14_35) hr)
  show Q14_13 Z o1 o2 kc1 o3 h0 n0 (some (.ref o3)) T9.heap _
  rw [e9]
  exact ⟨rfl, N9, K9, f10, f11, F9, f12⟩
theorem ef_13_12 (m : MethodId) (x0 : Addr) : entryFrame m #[(.ref x0)] 2 = mkF m 0 #[.val (.ref x0), .unset] [] := by first | (simp [entryFrame, mkF, argsToLocals, Value.category]; done) | rfl
def Q13_12 (Z : State) (o1 : Addr) (o2 : Addr) (kc1 : ClassId) (o3 : Addr) (h0 : Heap) (n0 : Nat) (v : Option Value) (h : Heap) (L : List Loc) : Prop := v = some (.ref o3) ∧ Fr n0 L ∧ Keep h0 h [o2, o1] ∧ Arv Z h o2 kc1 (.object "java/lang/Object") (17 : Int32) [.null, .null, .null, .null, .null, .null, .null, .null, .null, .null, .null, .null, .null, .null, .null, .null, .null] .null ∧ Fld Z h o1 "java/util/ArrayDeque" "elements" "[Ljava/lang/Object;" (.ref o2) ∧ Fld Z h o1 "java/util/ArrayDeque" "head" "I" (.int (0 : Int32)) ∧ Fld Z h o1 "java/util/ArrayDeque" "tail" "I" (.int (0 : Int32))
set_option maxRecDepth 65536 in
set_option maxHeartbeats 40000000 in
theorem rm13_12 (l : Launch) (Z : State) (a0 : Array Value) (hw : ∀ d ∈ tables_1, d.before a0 Z = true) (ws : List Jvm.Cond) (o1 : Addr) (o2 : Addr) (kc1 : ClassId) (o3 : Addr) (h0 : Heap) (n0 : Nat) (Z0 : n0 ≤ h0.size) (Pm0 : Exa Z h0 o1 "java/util/ArrayDeque") (Pm1 : Fld Z h0 o1 "java/util/ArrayDeque" "elements" "[Ljava/lang/Object;" (.ref o2)) (Pm2 : Fld Z h0 o1 "java/util/ArrayDeque" "head" "I" (.int (16 : Int32))) (Pm3 : Fld Z h0 o1 "java/util/ArrayDeque" "tail" "I" (.int (0 : Int32))) (Pm4 : Arv Z h0 o2 kc1 (.object "java/lang/Object") (17 : Int32) [.null, .null, .null, .null, .null, .null, .null, .null, .null, .null, .null, .null, .null, .null, .null, .null, (.ref o3)] .null) (O5 : Ovr Z kc1 "java/lang/Object") (Pm6 : Exa Z h0 o3 "com/example/vertex_to_service/vertextoservice/core/Choices") (gn_o1 : n0 ≤ o1) (ne_o1_o2 : o1 ≠ o2) (ne_o1_o3 : o1 ≠ o3) (gn_o2 : n0 ≤ o2) (ne_o2_o3 : o2 ≠ o3) (gn_o3 : n0 ≤ o3)  :
    MetFree l (⟨"java/util/ArrayDeque", "removeFirst", "()Ljava/lang/Object;"⟩ : MethodName) (head1 (Jvm.Cond.code (⟨"java/util/ArrayDeque", "removeFirst", "()Ljava/lang/Object;"⟩ : MethodName) jdk_21_method_18_code 2 (some (.object "java/lang/Object")) :: ws) ({ frames := 2, cells := 0, slots := 0, locals := 29 } : Room)) (fun a U => a = #[(.ref o1)] ∧ Z.Warmed39 U.vm ∧ U.heap = h0) (fun _ _ _ _ _ => True) (fun _ U o U' => ∃ v L, o = .returned v ∧ Q13_12 Z o1 o2 kc1 o3 h0 n0 v U'.heap L ∧ FrameEnd U o U' L ({ frames := 2, cells := 0, slots := 0, locals := 29 } : Room).cells ({ frames := 2, cells := 0, slots := 0, locals := 29 } : Room).slots) := by
  refine own_body (plainFor_of_name pn_2) ?_
  intro p e s m below meth c s₁ G hx hby hml hZ hown hnm hret X0 e0 step fin
  replace hown : s.vm.findClass "java/util/ArrayDeque" = some m.cls := hown
  replace hnm : meth.name = "removeFirst" := hnm
  replace hret : meth.sig.returnType = some (.object "java/lang/Object") := hret
  replace hml : c.maxLocals = 2 := hml
  have N0 := Fr.nil n0
  refine step (s₁.setTop (mkF m 0 #[.val (.ref o1), .unset] [])) (fun t k => castTop (ef_13_12 m o1) k) ?_
  refine step (s₁.setTop (mkF m 1 #[.val (.ref o1), .unset] [(.ref o1)])) (fun t k => XS.aloadN X0.here hx rfl (hb hby d13_0) rfl rfl k) ?_
  obtain ⟨cq1, kq1, q1a, q1b, q1c⟩ := isOf hZ e0 Pm0
  obtain ⟨_, _, ⟨T1, L1, k1, n1⟩, -, X1, ⟨Lc1, hQ1, l1, y1, z1⟩, st1⟩ := X0.virtualBack hx (y := (⟨"java/util/ArrayDeque", "pollFirst", "()Ljava/lang/Object;"⟩ : MethodName)) (z := (⟨"java/util/ArrayDeque", "pollFirst", "()Ljava/lang/Object;"⟩ : MethodName)) hown (mvT hZ (hw _ (List.mem_of_getElem? (i := 84) rfl))) (mvT hZ (hw _ (List.mem_of_getElem? (i := 85) rfl))) (notFace_of_selects (args := #[]) (mvT hZ (hw _ (List.mem_of_getElem? (i := 87) rfl)))) (mvT hZ (hw _ (List.mem_of_getElem? (i := 87) rfl))) (mvT hZ (hw _ (List.mem_of_getElem? (i := 86) rfl))) (by decide) (backOf (W := 0) (rm14_13 l Z a0 hw [] o1 o2 kc1 o3 h0 n0 Z0 Pm0 Pm1 Pm2 Pm3 Pm4 O5 Pm6 gn_o1 ne_o1_o2 ne_o1_o3 gn_o2 ne_o2_o3 gn_o3) hZ (hw _ (List.mem_of_getElem? (i := 88) rfl)) (hw _ (List.mem_of_getElem? (i := 32) rfl)) (by decide) (by decide)) q1a q1c (g := (mkF m 1 #[.val (.ref o1), .unset] [(.ref o1)])) rfl (by rw [hml]; rfl) (Steps.refl _) (argsL := []) (rest := []) (lenOf pd_9 rfl) rfl (by show 2 * 0 + _ ≤ _; exact Nat.le_of_eq rfl) (hb hby d13_1) (fun _ _ => ⟨rfl, e0, (by decide : 0 + 0 ≤ _), (by decide : 0 + 0 ≤ _)⟩)
  dsimp only [Pt.U, Pt.locs, Pt.cells, Pt.slots] at X1 l1 y1 z1 st1 hQ1
  subst l1 y1 z1
  obtain ⟨h1, e1⟩ : ∃ z, T1.heap = z := ⟨_, rfl⟩
  rw [e1] at hQ1
  obtain ⟨rfl, N1q, K1q, q0_1, q1_1, q2_1, q3_1⟩ := hQ1
  have N1 := Fr.app N0 N1q
  have K1 : Keep h0 h1 [o2, o1] := (Keep.refl h0 [o2, o1]).trans K1q (allS (Or.inl (List.mem_of_getElem? (i := 0) rfl)) (allS (Or.inl (List.mem_of_getElem? (i := 1) rfl)) all0))
  refine step (T1.setTop (mkF m 4 #[.val (.ref o1), .unset] [(.ref o3)])) (fun t k => st1.trans k) ?_
  refine step (T1.setTop (mkF m 5 #[.val (.ref o1), .val (.ref o3)] [])) (fun t k => XS.astoreN X1.here hx rfl (hb hby d13_4) rfl rfl (l' := #[.val (.ref o1), .val (.ref o3)]) rfl k) ?_
  refine step (T1.setTop (mkF m 6 #[.val (.ref o1), .val (.ref o3)] [(.ref o3)])) (fun t k => XS.aloadN X1.here hx rfl (hb hby d13_5) rfl rfl k) ?_
  refine step (T1.setTop (mkF m 17 #[.val (.ref o1), .val (.ref o3)] [])) (fun t k => XS.ifnonnullYes X1.here hx rfl (pc0 := 6) (pc' := 17) rfl (hb hby d13_6) rfl (by decide) (by decide) k) ?_
  refine step (T1.setTop (mkF m 18 #[.val (.ref o1), .val (.ref o3)] [(.ref o3)])) (fun t k => XS.aloadN X1.here hx rfl (hb hby d13_17) rfl rfl k) ?_
  refine fin (v := some (.ref o3)) X1 (fun h => by cases h) ?_ (by decide) (by decide) (fun fs hr => X1.areturnOut hx rfl hret rfl (hb hby d13_18) hr)
  show Q13_12 Z o1 o2 kc1 o3 h0 n0 (some (.ref o3)) T1.heap _
  rw [e1]
  exact ⟨rfl, N1, K1, q0_1, q1_1, q2_1, q3_1⟩
theorem ef_12_11 (m : MethodId) (x0 : Addr) : entryFrame m #[(.ref x0)] 1 = mkF m 0 #[.val (.ref x0)] [] := by first | (simp [entryFrame, mkF, argsToLocals, Value.category]; done) | rfl
def Q12_11 (Z : State) (o1 : Addr) (o2 : Addr) (kc1 : ClassId) (o3 : Addr) (h0 : Heap) (n0 : Nat) (v : Option Value) (h : Heap) (L : List Loc) : Prop := v = some (.ref o3) ∧ Fr n0 L ∧ Keep h0 h [o2, o1] ∧ Arv Z h o2 kc1 (.object "java/lang/Object") (17 : Int32) [.null, .null, .null, .null, .null, .null, .null, .null, .null, .null, .null, .null, .null, .null, .null, .null, .null] .null ∧ Fld Z h o1 "java/util/ArrayDeque" "elements" "[Ljava/lang/Object;" (.ref o2) ∧ Fld Z h o1 "java/util/ArrayDeque" "head" "I" (.int (0 : Int32)) ∧ Fld Z h o1 "java/util/ArrayDeque" "tail" "I" (.int (0 : Int32))
set_option maxRecDepth 65536 in
set_option maxHeartbeats 40000000 in
theorem rm12_11 (l : Launch) (Z : State) (a0 : Array Value) (hw : ∀ d ∈ tables_1, d.before a0 Z = true) (ws : List Jvm.Cond) (o1 : Addr) (o2 : Addr) (kc1 : ClassId) (o3 : Addr) (h0 : Heap) (n0 : Nat) (Z0 : n0 ≤ h0.size) (Pm0 : Exa Z h0 o1 "java/util/ArrayDeque") (Pm1 : Fld Z h0 o1 "java/util/ArrayDeque" "elements" "[Ljava/lang/Object;" (.ref o2)) (Pm2 : Fld Z h0 o1 "java/util/ArrayDeque" "head" "I" (.int (16 : Int32))) (Pm3 : Fld Z h0 o1 "java/util/ArrayDeque" "tail" "I" (.int (0 : Int32))) (Pm4 : Arv Z h0 o2 kc1 (.object "java/lang/Object") (17 : Int32) [.null, .null, .null, .null, .null, .null, .null, .null, .null, .null, .null, .null, .null, .null, .null, .null, (.ref o3)] .null) (O5 : Ovr Z kc1 "java/lang/Object") (Pm6 : Exa Z h0 o3 "com/example/vertex_to_service/vertextoservice/core/Choices") (gn_o1 : n0 ≤ o1) (ne_o1_o2 : o1 ≠ o2) (ne_o1_o3 : o1 ≠ o3) (gn_o2 : n0 ≤ o2) (ne_o2_o3 : o2 ≠ o3) (gn_o3 : n0 ≤ o3)  :
    MetFree l (⟨"java/util/ArrayDeque", "pop", "()Ljava/lang/Object;"⟩ : MethodName) (head1 (Jvm.Cond.code (⟨"java/util/ArrayDeque", "pop", "()Ljava/lang/Object;"⟩ : MethodName) jdk_21_method_35_code 1 (some (.object "java/lang/Object")) :: ws) ({ frames := 3, cells := 0, slots := 0, locals := 42 } : Room)) (fun a U => a = #[(.ref o1)] ∧ Z.Warmed39 U.vm ∧ U.heap = h0) (fun _ _ _ _ _ => True) (fun _ U o U' => ∃ v L, o = .returned v ∧ Q12_11 Z o1 o2 kc1 o3 h0 n0 v U'.heap L ∧ FrameEnd U o U' L ({ frames := 3, cells := 0, slots := 0, locals := 42 } : Room).cells ({ frames := 3, cells := 0, slots := 0, locals := 42 } : Room).slots) := by
  refine own_body (plainFor_of_name pn_2) ?_
  intro p e s m below meth c s₁ G hx hby hml hZ hown hnm hret X0 e0 step fin
  replace hown : s.vm.findClass "java/util/ArrayDeque" = some m.cls := hown
  replace hnm : meth.name = "pop" := hnm
  replace hret : meth.sig.returnType = some (.object "java/lang/Object") := hret
  replace hml : c.maxLocals = 1 := hml
  have N0 := Fr.nil n0
  refine step (s₁.setTop (mkF m 0 #[.val (.ref o1)] [])) (fun t k => castTop (ef_12_11 m o1) k) ?_
  refine step (s₁.setTop (mkF m 1 #[.val (.ref o1)] [(.ref o1)])) (fun t k => XS.aloadN X0.here hx rfl (hb hby d12_0) rfl rfl k) ?_
  obtain ⟨cq1, kq1, q1a, q1b, q1c⟩ := isOf hZ e0 Pm0
  obtain ⟨_, _, ⟨T1, L1, k1, n1⟩, -, X1, ⟨Lc1, hQ1, l1, y1, z1⟩, st1⟩ := X0.virtualBack hx (y := (⟨"java/util/ArrayDeque", "removeFirst", "()Ljava/lang/Object;"⟩ : MethodName)) (z := (⟨"java/util/ArrayDeque", "removeFirst", "()Ljava/lang/Object;"⟩ : MethodName)) hown (mvT hZ (hw _ (List.mem_of_getElem? (i := 79) rfl))) (mvT hZ (hw _ (List.mem_of_getElem? (i := 80) rfl))) (notFace_of_selects (args := #[]) (mvT hZ (hw _ (List.mem_of_getElem? (i := 82) rfl)))) (mvT hZ (hw _ (List.mem_of_getElem? (i := 82) rfl))) (mvT hZ (hw _ (List.mem_of_getElem? (i := 81) rfl))) (by decide) (backOf (W := 0) (rm13_12 l Z a0 hw [] o1 o2 kc1 o3 h0 n0 Z0 Pm0 Pm1 Pm2 Pm3 Pm4 O5 Pm6 gn_o1 ne_o1_o2 ne_o1_o3 gn_o2 ne_o2_o3 gn_o3) hZ (hw _ (List.mem_of_getElem? (i := 83) rfl)) (hw _ (List.mem_of_getElem? (i := 32) rfl)) (by decide) (by decide)) q1a q1c (g := (mkF m 1 #[.val (.ref o1)] [(.ref o1)])) rfl (by rw [hml]; rfl) (Steps.refl _) (argsL := []) (rest := []) (lenOf pd_9 rfl) rfl (by show 2 * 0 + _ ≤ _; exact Nat.le_of_eq rfl) (hb hby d12_1) (fun _ _ => ⟨rfl, e0, (by decide : 0 + 0 ≤ _), (by decide : 0 + 0 ≤ _)⟩)
  dsimp only [Pt.U, Pt.locs, Pt.cells, Pt.slots] at X1 l1 y1 z1 st1 hQ1
  subst l1 y1 z1
  obtain ⟨h1, e1⟩ : ∃ z, T1.heap = z := ⟨_, rfl⟩
  rw [e1] at hQ1
  obtain ⟨rfl, N1q, K1q, q0_1, q1_1, q2_1, q3_1⟩ := hQ1
  have N1 := Fr.app N0 N1q
  have K1 : Keep h0 h1 [o2, o1] := (Keep.refl h0 [o2, o1]).trans K1q (allS (Or.inl (List.mem_of_getElem? (i := 0) rfl)) (allS (Or.inl (List.mem_of_getElem? (i := 1) rfl)) all0))
  refine step (T1.setTop (mkF m 4 #[.val (.ref o1)] [(.ref o3)])) (fun t k => st1.trans k) ?_
  refine fin (v := some (.ref o3)) X1 (fun h => by cases h) ?_ (by decide) (by decide) (fun fs hr => X1.areturnOut hx rfl hret rfl (hb hby d12_4) hr)
  show Q12_11 Z o1 o2 kc1 o3 h0 n0 (some (.ref o3)) T1.heap _
  rw [e1]
  exact ⟨rfl, N1, K1, q0_1, q1_1, q2_1, q3_1⟩
theorem ef_11_16 (m : MethodId) (x0 : Addr) : entryFrame m #[(.ref x0)] 1 = mkF m 0 #[.val (.ref x0)] [] := by first | (simp [entryFrame, mkF, argsToLocals, Value.category]; done) | rfl
def Q11_16 (Z : State) (o1 : Addr) (h0 : Heap) (n0 : Nat) (v : Option Value) (h : Heap) (L : List Loc) : Prop := v = some (.int (1 : Int32)) ∧ Fr n0 L ∧ h = h0
set_option maxRecDepth 65536 in
set_option maxHeartbeats 40000000 in
theorem rm11_16 (l : Launch) (Z : State) (a0 : Array Value) (hw : ∀ d ∈ tables_1, d.before a0 Z = true) (ws : List Jvm.Cond) (o1 : Addr) (h0 : Heap) (n0 : Nat) (Z0 : n0 ≤ h0.size) (Pm0 : Exa Z h0 o1 "java/util/ArrayDeque") (Pm1 : Fld Z h0 o1 "java/util/ArrayDeque" "head" "I" (.int (0 : Int32))) (Pm2 : Fld Z h0 o1 "java/util/ArrayDeque" "tail" "I" (.int (0 : Int32))) (gn_o1 : n0 ≤ o1)  :
    MetFree l (⟨"java/util/ArrayDeque", "isEmpty", "()Z"⟩ : MethodName) (head1 (Jvm.Cond.code (⟨"java/util/ArrayDeque", "isEmpty", "()Z"⟩ : MethodName) jdk_21_method_38_code 1 (some .boolean) :: ws) ({ frames := 0, cells := 0, slots := 0, locals := 0 } : Room)) (fun a U => a = #[(.ref o1)] ∧ Z.Warmed39 U.vm ∧ U.heap = h0) (fun _ _ _ _ _ => True) (fun _ U o U' => ∃ v L, o = .returned v ∧ Q11_16 Z o1 h0 n0 v U'.heap L ∧ FrameEnd U o U' L ({ frames := 0, cells := 0, slots := 0, locals := 0 } : Room).cells ({ frames := 0, cells := 0, slots := 0, locals := 0 } : Room).slots) := by
  refine own_body (plainFor_of_name pn_2) ?_
  intro p e s m below meth c s₁ G hx hby hml hZ hown hnm hret X0 e0 step fin
  replace hown : s.vm.findClass "java/util/ArrayDeque" = some m.cls := hown
  replace hnm : meth.name = "isEmpty" := hnm
  replace hret : meth.sig.returnType = some .boolean := hret
  replace hml : c.maxLocals = 1 := hml
  have N0 := Fr.nil n0
  refine step (s₁.setTop (mkF m 0 #[.val (.ref o1)] [])) (fun t k => castTop (ef_11_16 m o1) k) ?_
  refine step (s₁.setTop (mkF m 1 #[.val (.ref o1)] [(.ref o1)])) (fun t k => XS.aloadN X0.here hx rfl (hb hby d11_0) rfl rfl k) ?_
  obtain ⟨T1, X1, e1, st1⟩ := getF X0 hx hZ hown (host := "") (Or.inl (hw _ (List.mem_of_getElem? (i := 61) rfl))) Via.refl e0 Pm1 (g := (mkF m 1 #[.val (.ref o1)] [(.ref o1)])) rfl rfl (hb hby d11_1)
  refine step (T1.setTop (mkF m 4 #[.val (.ref o1)] [(.int (0 : Int32))])) (fun t k => st1 t k) ?_
  refine step (T1.setTop (mkF m 5 #[.val (.ref o1)] [(.ref o1), (.int (0 : Int32))])) (fun t k => XS.aloadN X1.here hx rfl (hb hby d11_4) rfl rfl k) ?_
  obtain ⟨T2, X2, e2, st2⟩ := getF X1 hx hZ hown (host := "") (Or.inl (hw _ (List.mem_of_getElem? (i := 67) rfl))) Via.refl e1 Pm2 (g := (mkF m 5 #[.val (.ref o1)] [(.ref o1), (.int (0 : Int32))])) rfl rfl (hb hby d11_5)
  refine step (T2.setTop (mkF m 8 #[.val (.ref o1)] [(.int (0 : Int32)), (.int (0 : Int32))])) (fun t k => st2 t k) ?_
  refine step (T2.setTop (mkF m 11 #[.val (.ref o1)] [])) (fun t k => XS.icmpNo X2.here hx rfl (hb hby d11_8) rfl (teq (by decide : (0 : Int32) = (0 : Int32))).2 k) ?_
  refine step (T2.setTop (mkF m 12 #[.val (.ref o1)] [(.int (1 : Int32))])) (fun t k => XS.iconst X2.here hx rfl (hb hby d11_11) k) ?_
  refine step (T2.setTop (mkF m 16 #[.val (.ref o1)] [(.int (1 : Int32))])) (fun t k => XS.goto X2.here hx rfl (pc0 := 12) (pc' := 16) rfl (hb hby d11_12) (by decide) (by decide) k) ?_
  refine fin (v := some (.int (nar .boolean (1 : Int32)))) X2 (fun h => by cases h) ?_ (by decide) (by decide) (fun fs hr => retN X2 hx (t := .boolean) hret (by simp) (hb hby d11_16) hr)
  show Q11_16 Z o1 h0 n0 (some (.int (nar .boolean (1 : Int32)))) T2.heap _
  rw [e2]
  exact ⟨rfl, N0, rfl⟩
theorem ef_7_6 (m : MethodId) (x0 : Addr) (x1 : Addr) (x3 : Addr) : entryFrame m #[(.ref x0), (.ref x1), .null, (.ref x3)] 6 = mkF m 0 #[.val (.ref x0), .val (.ref x1), .val .null, .val (.ref x3), .unset, .unset] [] := by first | (simp [entryFrame, mkF, argsToLocals, Value.category]; done) | rfl
def Q7_6 (Z : State) (o1 : Addr) (o2 : Addr) (o3 : Addr) (i1 : Int32) (kc2 : ClassId) (i3 : Int32) (i4 : Int32) (i5 : Int32) (i6 : Int32) (o4 : Addr) (kc7 : ClassId) (h0 : Heap) (n0 : Nat) (v : Option Value) (h : Heap) (L : List Loc) : Prop := v = some (.int (1 : Int32)) ∧ Fr n0 L ∧ Keep h0 h [o3, o4, o2] ∧ Fld Z h o3 "java/util/ArrayDeque" "elements" "[Ljava/lang/Object;" (.ref o4) ∧ Fld Z h o3 "java/util/ArrayDeque" "head" "I" (.int (0 : Int32)) ∧ Fld Z h o3 "java/util/ArrayDeque" "tail" "I" (.int (0 : Int32)) ∧ Arv Z h o4 kc7 (.object "java/lang/Object") (17 : Int32) [.null, .null, .null, .null, .null, .null, .null, .null, .null, .null, .null, .null, .null, .null, .null, .null, .null] .null ∧ Arv Z h o2 kc2 .int (4 : Int32) [(.int i1), (.int i4), (.int i5), (.int i6)] (.int (0 : Int32))
set_option maxRecDepth 65536 in
set_option maxHeartbeats 40000000 in
theorem rm7_6 (l : Launch) (Z : State) (a0 : Array Value) (hw : ∀ d ∈ tables_1, d.before a0 Z = true) (ws : List Jvm.Cond) (o1 : Addr) (o2 : Addr) (o3 : Addr) (i1 : Int32) (kc2 : ClassId) (i3 : Int32) (i4 : Int32) (i5 : Int32) (i6 : Int32) (o4 : Addr) (kc7 : ClassId) (h0 : Heap) (n0 : Nat) (Z0 : n0 ≤ h0.size) (Pm0 : Exa Z h0 o1 "com/example/vertex_to_service/vertextoservice/core/Choices") (Pm1 : Fld Z h0 o1 "com/example/vertex_to_service/vertextoservice/core/Choices" "candidate" "I" (.int i1)) (Pm2 : Fld Z h0 o1 "com/example/vertex_to_service/vertextoservice/core/Choices" "first" "Lcom/example/vertex_to_service/vertextoservice/core/Choices;" .null) (Pm3 : Fld Z h0 o1 "com/example/vertex_to_service/vertextoservice/core/Choices" "second" "Lcom/example/vertex_to_service/vertextoservice/core/Choices;" .null) (Pm4 : Fld Z h0 o1 "com/example/vertex_to_service/vertextoservice/core/Choices" "vertex" "I" (.int (0 : Int32))) (Pm5 : Arv Z h0 o2 kc2 .int (4 : Int32) [(.int i3), (.int i4), (.int i5), (.int i6)] (.int (0 : Int32))) (Pm6 : Exa Z h0 o3 "java/util/ArrayDeque") (Pm7 : Fld Z h0 o3 "java/util/ArrayDeque" "elements" "[Ljava/lang/Object;" (.ref o4)) (Pm8 : Fld Z h0 o3 "java/util/ArrayDeque" "head" "I" (.int (0 : Int32))) (Pm9 : Fld Z h0 o3 "java/util/ArrayDeque" "tail" "I" (.int (0 : Int32))) (Pm10 : Arv Z h0 o4 kc7 (.object "java/lang/Object") (17 : Int32) [.null, .null, .null, .null, .null, .null, .null, .null, .null, .null, .null, .null, .null, .null, .null, .null, .null] .null) (O11 : Ovr Z kc7 "java/lang/Object") (gn_o1 : n0 ≤ o1) (ne_o1_o2 : o1 ≠ o2) (ne_o1_o3 : o1 ≠ o3) (ne_o1_o4 : o1 ≠ o4) (gn_o2 : n0 ≤ o2) (ne_o2_o3 : o2 ≠ o3) (ne_o2_o4 : o2 ≠ o4) (gn_o3 : n0 ≤ o3) (ne_o3_o4 : o3 ≠ o4) (gn_o4 : n0 ≤ o4) (hy22 : i3 = (i3 + (0 : Int32)))  :
    MetFree l (⟨"com/example/vertex_to_service/vertextoservice/core/Choices", "writeTo", "([I[ILjava/util/ArrayDeque;)I"⟩ : MethodName) (head1 (Jvm.Cond.code (⟨"com/example/vertex_to_service/vertextoservice/core/Choices", "writeTo", "([I[ILjava/util/ArrayDeque;)I"⟩ : MethodName) prog_10_method_7_code 6 (some .int) :: ws) ({ frames := 4, cells := 0, slots := 0, locals := 54 } : Room)) (fun a U => a = #[(.ref o1), (.ref o2), .null, (.ref o3)] ∧ Z.Warmed39 U.vm ∧ U.heap = h0) (fun _ _ _ _ _ => True) (fun _ U o U' => ∃ v L, o = .returned v ∧ Q7_6 Z o1 o2 o3 i1 kc2 i3 i4 i5 i6 o4 kc7 h0 n0 v U'.heap L ∧ FrameEnd U o U' L ({ frames := 4, cells := 0, slots := 0, locals := 54 } : Room).cells ({ frames := 4, cells := 0, slots := 0, locals := 54 } : Room).slots) := by
  refine own_body (plainFor_of_name pn_1) ?_
  intro p e s m below meth c s₁ G hx hby hml hZ hown hnm hret X0 e0 step fin
  replace hown : s.vm.findClass "com/example/vertex_to_service/vertextoservice/core/Choices" = some m.cls := hown
  replace hnm : meth.name = "writeTo" := hnm
  replace hret : meth.sig.returnType = some .int := hret
  replace hml : c.maxLocals = 6 := hml
  have N0 := Fr.nil n0
  refine step (s₁.setTop (mkF m 0 #[.val (.ref o1), .val (.ref o2), .val .null, .val (.ref o3), .unset, .unset] [])) (fun t k => castTop (ef_7_6 m o1 o2 o3) k) ?_
  refine step (s₁.setTop (mkF m 1 #[.val (.ref o1), .val (.ref o2), .val .null, .val (.ref o3), .unset, .unset] [(.int (0 : Int32))])) (fun t k => XS.iconst X0.here hx rfl (hb hby d7_0) k) ?_
  refine step (s₁.setTop (mkF m 3 #[.val (.ref o1), .val (.ref o2), .val .null, .val (.ref o3), .val (.int (0 : Int32)), .unset] [])) (fun t k => XS.istore X0.here hx rfl (hb hby d7_1) rfl (l' := #[.val (.ref o1), .val (.ref o2), .val .null, .val (.ref o3), .val (.int (0 : Int32)), .unset]) rfl k) ?_
  refine step (s₁.setTop (mkF m 4 #[.val (.ref o1), .val (.ref o2), .val .null, .val (.ref o3), .val (.int (0 : Int32)), .unset] [(.ref o3)])) (fun t k => XS.aloadN X0.here hx rfl (hb hby d7_3) rfl rfl k) ?_
  refine step (s₁.setTop (mkF m 5 #[.val (.ref o1), .val (.ref o2), .val .null, .val (.ref o3), .val (.int (0 : Int32)), .unset] [(.ref o1), (.ref o3)])) (fun t k => XS.aloadN X0.here hx rfl (hb hby d7_4) rfl rfl k) ?_
  obtain ⟨cq1, kq1, q1a, q1b, q1c⟩ := isOf hZ e0 Pm6
  obtain ⟨_, _, ⟨T1, L1, k1, n1⟩, -, X1, ⟨Lc1, hQ1, l1, y1, z1⟩, st1⟩ := X0.virtualBack hx (y := (⟨"java/util/ArrayDeque", "push", "(Ljava/lang/Object;)V"⟩ : MethodName)) (z := (⟨"java/util/ArrayDeque", "push", "(Ljava/lang/Object;)V"⟩ : MethodName)) hown (mvT hZ (hw _ (List.mem_of_getElem? (i := 51) rfl))) (mvT hZ (hw _ (List.mem_of_getElem? (i := 52) rfl))) (notFace_of_selects (args := #[]) (mvT hZ (hw _ (List.mem_of_getElem? (i := 54) rfl)))) (mvT hZ (hw _ (List.mem_of_getElem? (i := 54) rfl))) (mvT hZ (hw _ (List.mem_of_getElem? (i := 53) rfl))) (by decide) (backOf (W := 0) (rm8_7 l Z a0 hw [] o3 o1 o4 kc7 h0 n0 Z0 Pm6 Pm7 Pm8 Pm9 Pm0 Pm10 O11 gn_o3 (Ne.symm ne_o1_o3) ne_o3_o4 gn_o1 ne_o1_o4 gn_o4) hZ (hw _ (List.mem_of_getElem? (i := 55) rfl)) (hw _ (List.mem_of_getElem? (i := 32) rfl)) (by decide) (by decide)) q1a q1c (g := (mkF m 5 #[.val (.ref o1), .val (.ref o2), .val .null, .val (.ref o3), .val (.int (0 : Int32)), .unset] [(.ref o1), (.ref o3)])) rfl (by rw [hml]; rfl) (Steps.refl _) (argsL := [(.ref o1)]) (rest := []) (lenOf pd_7 rfl) rfl (by show 2 * 0 + _ ≤ _; exact Nat.le_of_eq rfl) (hb hby d7_5) (fun _ _ => ⟨rfl, e0, (by decide : 0 + 0 ≤ _), (by decide : 0 + 0 ≤ _)⟩)
  dsimp only [Pt.U, Pt.locs, Pt.cells, Pt.slots] at X1 l1 y1 z1 st1 hQ1
  subst l1 y1 z1
  obtain ⟨h1, e1⟩ : ∃ z, T1.heap = z := ⟨_, rfl⟩
  rw [e1] at hQ1
  obtain ⟨rfl, N1q, K1q, q0_1, q1_1, q2_1, q3_1⟩ := hQ1
  have N1 := Fr.app N0 N1q
  have K1 : Keep h0 h1 [o3, o4, o2] := (Keep.refl h0 [o3, o4, o2]).trans K1q (allS (Or.inl (List.mem_of_getElem? (i := 0) rfl)) (allS (Or.inl (List.mem_of_getElem? (i := 1) rfl)) all0))
  refine step (T1.setTop (mkF m 8 #[.val (.ref o1), .val (.ref o2), .val .null, .val (.ref o3), .val (.int (0 : Int32)), .unset] [])) (fun t k => st1.trans k) ?_
  refine step (T1.setTop (mkF m 9 #[.val (.ref o1), .val (.ref o2), .val .null, .val (.ref o3), .val (.int (0 : Int32)), .unset] [(.ref o3)])) (fun t k => XS.aloadN X1.here hx rfl (hb hby d7_8) rfl rfl k) ?_
  have f2 := (Pm6.keep K1q)
  obtain ⟨cq3, kq3, q3a, q3b, q3c⟩ := isOf hZ e1 f2
  obtain ⟨_, _, ⟨T3, L3, k3, n3⟩, -, X3, ⟨Lc3, hQ3, l3, y3, z3⟩, st3⟩ := X1.virtualBack hx (y := (⟨"java/util/ArrayDeque", "isEmpty", "()Z"⟩ : MethodName)) (z := (⟨"java/util/ArrayDeque", "isEmpty", "()Z"⟩ : MethodName)) hown (mvT hZ (hw _ (List.mem_of_getElem? (i := 69) rfl))) (mvT hZ (hw _ (List.mem_of_getElem? (i := 70) rfl))) (notFace_of_selects (args := #[]) (mvT hZ (hw _ (List.mem_of_getElem? (i := 72) rfl)))) (mvT hZ (hw _ (List.mem_of_getElem? (i := 72) rfl))) (mvT hZ (hw _ (List.mem_of_getElem? (i := 71) rfl))) (by decide) (backOf (W := 0) (rm11_10 l Z a0 hw [] o3 h1 n0 (Nat.le_trans Z0 K1.1) f2 q1_1 q2_1 gn_o3) hZ (hw _ (List.mem_of_getElem? (i := 73) rfl)) (hw _ (List.mem_of_getElem? (i := 32) rfl)) (by decide) (by decide)) q3a q3c (g := (mkF m 9 #[.val (.ref o1), .val (.ref o2), .val .null, .val (.ref o3), .val (.int (0 : Int32)), .unset] [(.ref o3)])) rfl (by rw [hml]; rfl) (Steps.refl _) (argsL := []) (rest := []) (lenOf pd_8 rfl) rfl (by show 2 * 0 + _ ≤ _; exact Nat.le_of_eq rfl) (hb hby d7_9) (fun _ _ => ⟨rfl, e1, (by decide : 0 + 0 ≤ _), (by decide : 0 + 0 ≤ _)⟩)
  dsimp only [Pt.U, Pt.locs, Pt.cells, Pt.slots] at X3 l3 y3 z3 st3 hQ3
  subst l3 y3 z3
  obtain ⟨rfl, N3q, e3q⟩ := hQ3
  have N3 := Fr.app N1 N3q
  refine step (T3.setTop (mkF m 12 #[.val (.ref o1), .val (.ref o2), .val .null, .val (.ref o3), .val (.int (0 : Int32)), .unset] [(.int (0 : Int32))])) (fun t k => st3.trans k) ?_
  refine step (T3.setTop (mkF m 15 #[.val (.ref o1), .val (.ref o2), .val .null, .val (.ref o3), .val (.int (0 : Int32)), .unset] [])) (fun t k => XS.ifNo X3.here hx rfl (hb hby d7_12) rfl ((if0 _ _).trans (teq (by decide : (0 : Int32) = (0 : Int32))).2) k) ?_
  refine step (T3.setTop (mkF m 16 #[.val (.ref o1), .val (.ref o2), .val .null, .val (.ref o3), .val (.int (0 : Int32)), .unset] [(.ref o3)])) (fun t k => XS.aloadN X3.here hx rfl (hb hby d7_15) rfl rfl k) ?_
  have f4 := (Pm0.keep K1q)
  obtain ⟨cq5, kq5, q5a, q5b, q5c⟩ := isOf hZ e3q f2
  obtain ⟨_, _, ⟨T5, L5, k5, n5⟩, -, X5, ⟨Lc5, hQ5, l5, y5, z5⟩, st5⟩ := X3.virtualBack hx (y := (⟨"java/util/ArrayDeque", "pop", "()Ljava/lang/Object;"⟩ : MethodName)) (z := (⟨"java/util/ArrayDeque", "pop", "()Ljava/lang/Object;"⟩ : MethodName)) hown (mvT hZ (hw _ (List.mem_of_getElem? (i := 74) rfl))) (mvT hZ (hw _ (List.mem_of_getElem? (i := 75) rfl))) (notFace_of_selects (args := #[]) (mvT hZ (hw _ (List.mem_of_getElem? (i := 77) rfl)))) (mvT hZ (hw _ (List.mem_of_getElem? (i := 77) rfl))) (mvT hZ (hw _ (List.mem_of_getElem? (i := 76) rfl))) (by decide) (backOf (W := 0) (rm12_11 l Z a0 hw [] o3 o4 kc7 o1 h1 n0 (Nat.le_trans Z0 K1.1) f2 q0_1 q1_1 q2_1 q3_1 O11 f4 gn_o3 ne_o3_o4 (Ne.symm ne_o1_o3) gn_o4 (Ne.symm ne_o1_o4) gn_o1) hZ (hw _ (List.mem_of_getElem? (i := 78) rfl)) (hw _ (List.mem_of_getElem? (i := 32) rfl)) (by decide) (by decide)) q5a q5c (g := (mkF m 16 #[.val (.ref o1), .val (.ref o2), .val .null, .val (.ref o3), .val (.int (0 : Int32)), .unset] [(.ref o3)])) rfl (by rw [hml]; rfl) (Steps.refl _) (argsL := []) (rest := []) (lenOf pd_9 rfl) rfl (by show 2 * 0 + _ ≤ _; exact Nat.le_of_eq rfl) (hb hby d7_16) (fun _ _ => ⟨rfl, e3q, (by decide : 0 + 0 ≤ _), (by decide : 0 + 0 ≤ _)⟩)
  dsimp only [Pt.U, Pt.locs, Pt.cells, Pt.slots] at X5 l5 y5 z5 st5 hQ5
  subst l5 y5 z5
  obtain ⟨h5, e5⟩ : ∃ z, T5.heap = z := ⟨_, rfl⟩
  rw [e5] at hQ5
  obtain ⟨rfl, N5q, K5q, q0_5, q1_5, q2_5, q3_5⟩ := hQ5
  have N5 := Fr.app N3 N5q
  have K5 : Keep h0 h5 [o3, o4, o2] := K1.trans K5q (allS (Or.inl (List.mem_of_getElem? (i := 1) rfl)) (allS (Or.inl (List.mem_of_getElem? (i := 0) rfl)) all0))
  refine step (T5.setTop (mkF m 19 #[.val (.ref o1), .val (.ref o2), .val .null, .val (.ref o3), .val (.int (0 : Int32)), .unset] [(.ref o1)])) (fun t k => st5.trans k) ?_
  have f6 := (f4.keep K5q)
  obtain ⟨T7, X7, e7, st7⟩ := castY X5 hx hZ hown (hw _ (List.mem_of_getElem? (i := 4) rfl)) e5 (Ins.self f6) (g := (mkF m 19 #[.val (.ref o1), .val (.ref o2), .val .null, .val (.ref o3), .val (.int (0 : Int32)), .unset] [(.ref o1)])) rfl rfl (hb hby d7_19)
  refine step (T7.setTop (mkF m 22 #[.val (.ref o1), .val (.ref o2), .val .null, .val (.ref o3), .val (.int (0 : Int32)), .unset] [(.ref o1)])) (fun t k => st7 t k) ?_
  refine step (T7.setTop (mkF m 24 #[.val (.ref o1), .val (.ref o2), .val .null, .val (.ref o3), .val (.int (0 : Int32)), .val (.ref o1)] [])) (fun t k => XS.astore X7.here hx rfl (hb hby d7_22) rfl rfl (l' := #[.val (.ref o1), .val (.ref o2), .val .null, .val (.ref o3), .val (.int (0 : Int32)), .val (.ref o1)]) rfl k) ?_
  refine step (T7.setTop (mkF m 26 #[.val (.ref o1), .val (.ref o2), .val .null, .val (.ref o3), .val (.int (0 : Int32)), .val (.ref o1)] [(.ref o1)])) (fun t k => XS.aload X7.here hx rfl (hb hby d7_24) rfl rfl k) ?_
  have f8 := ((Pm2.keep K1q (ninS ne_o1_o3 (ninS ne_o1_o4 nin0))).keep K5q (ninS ne_o1_o4 (ninS ne_o1_o3 nin0)))
  obtain ⟨T9, X9, e9, st9⟩ := getF X7 hx hZ hown (host := "") (Or.inl (hw _ (List.mem_of_getElem? (i := 16) rfl))) Via.refl e7 f8 (g := (mkF m 26 #[.val (.ref o1), .val (.ref o2), .val .null, .val (.ref o3), .val (.int (0 : Int32)), .val (.ref o1)] [(.ref o1)])) rfl rfl (hb hby d7_26)
  refine step (T9.setTop (mkF m 29 #[.val (.ref o1), .val (.ref o2), .val .null, .val (.ref o3), .val (.int (0 : Int32)), .val (.ref o1)] [.null])) (fun t k => st9 t k) ?_
  refine step (T9.setTop (mkF m 53 #[.val (.ref o1), .val (.ref o2), .val .null, .val (.ref o3), .val (.int (0 : Int32)), .val (.ref o1)] [])) (fun t k => XS.ifnullYes X9.here hx rfl (pc0 := 29) (pc' := 53) rfl (hb hby d7_29) rfl (by decide) (by decide) k) ?_
  refine step (T9.setTop (mkF m 55 #[.val (.ref o1), .val (.ref o2), .val .null, .val (.ref o3), .val (.int (0 : Int32)), .val (.ref o1)] [(.ref o1)])) (fun t k => XS.aload X9.here hx rfl (hb hby d7_53) rfl rfl k) ?_
  have f10 := ((Pm4.keep K1q (ninS ne_o1_o3 (ninS ne_o1_o4 nin0))).keep K5q (ninS ne_o1_o4 (ninS ne_o1_o3 nin0)))
  obtain ⟨T11, X11, e11, st11⟩ := getF X9 hx hZ hown (host := "") (Or.inl (hw _ (List.mem_of_getElem? (i := 12) rfl))) Via.refl e9 f10 (g := (mkF m 55 #[.val (.ref o1), .val (.ref o2), .val .null, .val (.ref o3), .val (.int (0 : Int32)), .val (.ref o1)] [(.ref o1)])) rfl rfl (hb hby d7_55)
  refine step (T11.setTop (mkF m 58 #[.val (.ref o1), .val (.ref o2), .val .null, .val (.ref o3), .val (.int (0 : Int32)), .val (.ref o1)] [(.int (0 : Int32))])) (fun t k => st11 t k) ?_
  refine step (T11.setTop (mkF m 61 #[.val (.ref o1), .val (.ref o2), .val .null, .val (.ref o3), .val (.int (0 : Int32)), .val (.ref o1)] [])) (fun t k => XS.ifNo X11.here hx rfl (hb hby d7_58) rfl ((if0 _ _).trans (flt (by decide : ¬ ((0 : Int32) < (0 : Int32)))).1) k) ?_
  refine step (T11.setTop (mkF m 62 #[.val (.ref o1), .val (.ref o2), .val .null, .val (.ref o3), .val (.int (0 : Int32)), .val (.ref o1)] [(.ref o2)])) (fun t k => XS.aloadN X11.here hx rfl (hb hby d7_61) rfl rfl k) ?_
  refine step (T11.setTop (mkF m 64 #[.val (.ref o1), .val (.ref o2), .val .null, .val (.ref o3), .val (.int (0 : Int32)), .val (.ref o1)] [(.ref o1), (.ref o2)])) (fun t k => XS.aload X11.here hx rfl (hb hby d7_62) rfl rfl k) ?_
  obtain ⟨T12, X12, e12, st12⟩ := getF X11 hx hZ hown (host := "") (Or.inl (hw _ (List.mem_of_getElem? (i := 12) rfl))) Via.refl e11 f10 (g := (mkF m 64 #[.val (.ref o1), .val (.ref o2), .val .null, .val (.ref o3), .val (.int (0 : Int32)), .val (.ref o1)] [(.ref o1), (.ref o2)])) rfl rfl (hb hby d7_64)
  refine step (T12.setTop (mkF m 67 #[.val (.ref o1), .val (.ref o2), .val .null, .val (.ref o3), .val (.int (0 : Int32)), .val (.ref o1)] [(.int (0 : Int32)), (.ref o2)])) (fun t k => st12 t k) ?_
  refine step (T12.setTop (mkF m 69 #[.val (.ref o1), .val (.ref o2), .val .null, .val (.ref o3), .val (.int (0 : Int32)), .val (.ref o1)] [(.ref o1), (.int (0 : Int32)), (.ref o2)])) (fun t k => XS.aload X12.here hx rfl (hb hby d7_67) rfl rfl k) ?_
  have f13 := ((Pm1.keep K1q (ninS ne_o1_o3 (ninS ne_o1_o4 nin0))).keep K5q (ninS ne_o1_o4 (ninS ne_o1_o3 nin0)))
  obtain ⟨T14, X14, e14, st14⟩ := getF X12 hx hZ hown (host := "") (Or.inl (hw _ (List.mem_of_getElem? (i := 14) rfl))) Via.refl e12 f13 (g := (mkF m 69 #[.val (.ref o1), .val (.ref o2), .val .null, .val (.ref o3), .val (.int (0 : Int32)), .val (.ref o1)] [(.ref o1), (.int (0 : Int32)), (.ref o2)])) rfl rfl (hb hby d7_69)
  refine step (T14.setTop (mkF m 72 #[.val (.ref o1), .val (.ref o2), .val .null, .val (.ref o3), .val (.int (0 : Int32)), .val (.ref o1)] [(.int i1), (.int (0 : Int32)), (.ref o2)])) (fun t k => st14 t k) ?_
  have f15 := ((Pm5.keep K1q (ninS ne_o2_o3 (ninS ne_o2_o4 nin0))).keep K5q (ninS ne_o2_o4 (ninS ne_o2_o3 nin0)))
  obtain ⟨cl16, Ar16, q16, S16, N16n, H16, G16⟩ := id f15
  have hin16 : ¬ ((0 : Int32) < 0 ∨ cl16.slots.size ≤ ((0 : Int32)).toNatClampNeg) := inb_of S16 ⟨by decide, by decide⟩
  obtain ⟨T16, h16, X16, e16, W16, st16⟩ := stI X14 hx hZ e14 Ar16 (j := (0 : Int32)) hin16 (g := (mkF m 72 #[.val (.ref o1), .val (.ref o2), .val .null, .val (.ref o3), .val (.int (0 : Int32)), .val (.ref o1)] [(.int i1), (.int (0 : Int32)), (.ref o2)])) rfl rfl (hb hby d7_72)
  have N16 := Fr.snoc X16 N5 gn_o2
  have K16 : Keep h0 h16 [o3, o4, o2] := K5.wr W16 (Or.inl (List.mem_of_getElem? (i := 2) rfl))
  have V16 : Arv Z h16 o2 kc2 .int (4 : Int32) [(.int i1), (.int i4), (.int i5), (.int i6)] (.int (0 : Int32)) := Arv.set Ar16 q16 S16 N16n H16 G16 rfl W16 0 rfl (Nat.le_of_ble_eq_true rfl)
  refine step (T16.setTop (mkF m 73 #[.val (.ref o1), .val (.ref o2), .val .null, .val (.ref o3), .val (.int (0 : Int32)), .val (.ref o1)] [])) (fun t k => st16 t k) ?_
  refine step (T16.setTop (mkF m 74 #[.val (.ref o1), .val (.ref o2), .val .null, .val (.ref o3), .val (.int (0 : Int32)), .val (.ref o1)] [.null])) (fun t k => XS.aloadN X16.here hx rfl (hb hby d7_73) rfl rfl k) ?_
  refine step (T16.setTop (mkF m 86 #[.val (.ref o1), .val (.ref o2), .val .null, .val (.ref o3), .val (.int (0 : Int32)), .val (.ref o1)] [])) (fun t k => XS.ifnullYes X16.here hx rfl (pc0 := 74) (pc' := 86) rfl (hb hby d7_74) rfl (by decide) (by decide) k) ?_
  refine step (T16.setTop (mkF m 89 #[.val (.ref o1), .val (.ref o2), .val .null, .val (.ref o3), .val (.int (1 : Int32)), .val (.ref o1)] [])) (fun t k => XS.iinc X16.here hx rfl (hb hby d7_86) rfl (l' := #[.val (.ref o1), .val (.ref o2), .val .null, .val (.ref o3), .val (.int (1 : Int32)), .val (.ref o1)]) rfl k) ?_
  refine step (T16.setTop (mkF m 8 #[.val (.ref o1), .val (.ref o2), .val .null, .val (.ref o3), .val (.int (1 : Int32)), .val (.ref o1)] [])) (fun t k => XS.goto X16.here hx rfl (pc0 := 89) (pc' := 8) rfl (hb hby d7_89) (by decide) (by decide) k) ?_
  refine step (T16.setTop (mkF m 9 #[.val (.ref o1), .val (.ref o2), .val .null, .val (.ref o3), .val (.int (1 : Int32)), .val (.ref o1)] [(.ref o3)])) (fun t k => XS.aloadN X16.here hx rfl (hb hby d7_8) rfl rfl k) ?_
  have f17 := ((f2.keep K5q).wr W16)
  have f18 := (q2_5.other W16 (Or.inl (Ne.symm ne_o2_o3)))
  have f19 := (q3_5.other W16 (Or.inl (Ne.symm ne_o2_o3)))
  obtain ⟨cq20, kq20, q20a, q20b, q20c⟩ := isOf hZ e16 f17
  obtain ⟨_, _, ⟨T20, L20, k20, n20⟩, -, X20, ⟨Lc20, hQ20, l20, y20, z20⟩, st20⟩ := X16.virtualBack hx (y := (⟨"java/util/ArrayDeque", "isEmpty", "()Z"⟩ : MethodName)) (z := (⟨"java/util/ArrayDeque", "isEmpty", "()Z"⟩ : MethodName)) hown (mvT hZ (hw _ (List.mem_of_getElem? (i := 69) rfl))) (mvT hZ (hw _ (List.mem_of_getElem? (i := 70) rfl))) (notFace_of_selects (args := #[]) (mvT hZ (hw _ (List.mem_of_getElem? (i := 72) rfl)))) (mvT hZ (hw _ (List.mem_of_getElem? (i := 72) rfl))) (mvT hZ (hw _ (List.mem_of_getElem? (i := 71) rfl))) (by decide) (backOf (W := 0) (rm11_16 l Z a0 hw [] o3 h16 n0 (Nat.le_trans Z0 K16.1) f17 f18 f19 gn_o3) hZ (hw _ (List.mem_of_getElem? (i := 73) rfl)) (hw _ (List.mem_of_getElem? (i := 32) rfl)) (by decide) (by decide)) q20a q20c (g := (mkF m 9 #[.val (.ref o1), .val (.ref o2), .val .null, .val (.ref o3), .val (.int (1 : Int32)), .val (.ref o1)] [(.ref o3)])) rfl (by rw [hml]; rfl) (Steps.refl _) (argsL := []) (rest := []) (lenOf pd_8 rfl) rfl (by show 2 * 0 + _ ≤ _; exact Nat.le_of_eq rfl) (hb hby d7_9) (fun _ _ => ⟨rfl, e16, (by decide : 0 + 0 ≤ _), (by decide : 0 + 0 ≤ _)⟩)
  dsimp only [Pt.U, Pt.locs, Pt.cells, Pt.slots] at X20 l20 y20 z20 st20 hQ20
  subst l20 y20 z20
  obtain ⟨rfl, N20q, e20q⟩ := hQ20
  have N20 := Fr.app N16 N20q
  refine step (T20.setTop (mkF m 12 #[.val (.ref o1), .val (.ref o2), .val .null, .val (.ref o3), .val (.int (1 : Int32)), .val (.ref o1)] [(.int (1 : Int32))])) (fun t k => st20.trans k) ?_
  refine step (T20.setTop (mkF m 92 #[.val (.ref o1), .val (.ref o2), .val .null, .val (.ref o3), .val (.int (1 : Int32)), .val (.ref o1)] [])) (fun t k => XS.ifYes X20.here hx rfl (pc0 := 12) (pc' := 92) rfl (hb hby d7_12) rfl ((if0 _ _).trans (feq (by decide : ¬ ((1 : Int32) = (0 : Int32)))).2) (by decide) (by decide) k) ?_
  refine step (T20.setTop (mkF m 94 #[.val (.ref o1), .val (.ref o2), .val .null, .val (.ref o3), .val (.int (1 : Int32)), .val (.ref o1)] [(.int (1 : Int32))])) (fun t k => XS.iload X20.here hx rfl (hb hby d7_92) rfl k) ?_
  have f21 := (q1_5.other W16 (Or.inl (Ne.symm ne_o2_o3)))
  have f22 := (q0_5.other W16 (Ne.symm ne_o2_o4))
  refine fin (v := some (.int (1 : Int32))) X20 (fun h => by cases h) ?_ (by decide) (by decide) (fun fs hr => retI X20 hx hret (hb hby d7_94) hr)
  show Q7_6 Z o1 o2 o3 i1 kc2 i3 i4 i5 i6 o4 kc7 h0 n0 (some (.int (1 : Int32))) T20.heap _
  rw [e20q]
  exact ⟨rfl, N20, K16, f21, f18, f19, f22, V16⟩
theorem ef_4_3 (m : MethodId) (x0 : Addr) (x1 : Addr) : entryFrame m #[(.ref x0), (.ref x1)] 2 = mkF m 0 #[.val (.ref x0), .val (.ref x1)] [] := by first | (simp [entryFrame, mkF, argsToLocals, Value.category]; done) | rfl
def Q4_3 (Z : State) (o1 : Addr) (o2 : Addr) (i1 : Int32) (kc2 : ClassId) (i3 : Int32) (i4 : Int32) (i5 : Int32) (i6 : Int32) (h0 : Heap) (n0 : Nat) (v : Option Value) (h : Heap) (L : List Loc) : Prop := v = none ∧ Fr n0 L ∧ Keep h0 h [o2] ∧ Arv Z h o2 kc2 .int (4 : Int32) [(.int i1), (.int i4), (.int i5), (.int i6)] (.int (0 : Int32))
set_option maxRecDepth 65536 in
set_option maxHeartbeats 40000000 in
theorem rm4_3 (l : Launch) (Z : State) (a0 : Array Value) (hw : ∀ d ∈ tables_1, d.before a0 Z = true) (ws : List Jvm.Cond) (o1 : Addr) (o2 : Addr) (i1 : Int32) (kc2 : ClassId) (i3 : Int32) (i4 : Int32) (i5 : Int32) (i6 : Int32) (h0 : Heap) (n0 : Nat) (Z0 : n0 ≤ h0.size) (Pm0 : Exa Z h0 o1 "com/example/vertex_to_service/vertextoservice/core/Choices") (Pm1 : Fld Z h0 o1 "com/example/vertex_to_service/vertextoservice/core/Choices" "candidate" "I" (.int i1)) (Pm2 : Fld Z h0 o1 "com/example/vertex_to_service/vertextoservice/core/Choices" "first" "Lcom/example/vertex_to_service/vertextoservice/core/Choices;" .null) (Pm3 : Fld Z h0 o1 "com/example/vertex_to_service/vertextoservice/core/Choices" "second" "Lcom/example/vertex_to_service/vertextoservice/core/Choices;" .null) (Pm4 : Fld Z h0 o1 "com/example/vertex_to_service/vertextoservice/core/Choices" "vertex" "I" (.int (0 : Int32))) (Pm5 : Arv Z h0 o2 kc2 .int (4 : Int32) [(.int i3), (.int i4), (.int i5), (.int i6)] (.int (0 : Int32))) (gn_o1 : n0 ≤ o1) (ne_o1_o2 : o1 ≠ o2) (gn_o2 : n0 ≤ o2) (hy9 : i3 = (i3 + (0 : Int32)))  :
    MetFree l (⟨"com/example/vertex_to_service/vertextoservice/core/Choices", "writeTo", "([I)V"⟩ : MethodName) (head1 (Jvm.Cond.code (⟨"com/example/vertex_to_service/vertextoservice/core/Choices", "writeTo", "([I)V"⟩ : MethodName) prog_10_method_6_code 2 none :: ws) ({ frames := 5, cells := 2, slots := 20, locals := 71 } : Room)) (fun a U => a = #[(.ref o1), (.ref o2)] ∧ Z.Warmed39 U.vm ∧ U.heap = h0) (fun _ _ _ _ _ => True) (fun _ U o U' => ∃ v L, o = .returned v ∧ Q4_3 Z o1 o2 i1 kc2 i3 i4 i5 i6 h0 n0 v U'.heap L ∧ FrameEnd U o U' L ({ frames := 5, cells := 2, slots := 20, locals := 71 } : Room).cells ({ frames := 5, cells := 2, slots := 20, locals := 71 } : Room).slots) := by
  refine own_body (plainFor_of_name pn_1) ?_
  intro p e s m below meth c s₁ G hx hby hml hZ hown hnm hret X0 e0 step fin
  replace hown : s.vm.findClass "com/example/vertex_to_service/vertextoservice/core/Choices" = some m.cls := hown
  replace hnm : meth.name = "writeTo" := hnm
  replace hret : meth.sig.returnType = none := hret
  replace hml : c.maxLocals = 2 := hml
  have N0 := Fr.nil n0
  refine step (s₁.setTop (mkF m 0 #[.val (.ref o1), .val (.ref o2)] [])) (fun t k => castTop (ef_4_3 m o1 o2) k) ?_
  refine step (s₁.setTop (mkF m 1 #[.val (.ref o1), .val (.ref o2)] [(.ref o1)])) (fun t k => XS.aloadN X0.here hx rfl (hb hby d4_0) rfl rfl k) ?_
  refine step (s₁.setTop (mkF m 2 #[.val (.ref o1), .val (.ref o2)] [(.ref o2), (.ref o1)])) (fun t k => XS.aloadN X0.here hx rfl (hb hby d4_1) rfl rfl k) ?_
  refine step (s₁.setTop (mkF m 3 #[.val (.ref o1), .val (.ref o2)] [.null, (.ref o2), (.ref o1)])) (fun t k => XS.aconstNull X0.here hx rfl (hb hby d4_2) k) ?_
  obtain ⟨T1, h1, X1, e1, E1, A1, D1, -, st1⟩ := newO X0 hx hZ hown (hw _ (List.mem_of_getElem? (i := 30) rfl)) (hw _ (List.mem_of_getElem? (i := 31) rfl)) (hw _ (List.mem_of_getElem? (i := 32) rfl)) e0 (g := (mkF m 3 #[.val (.ref o1), .val (.ref o2)] [.null, (.ref o2), (.ref o1)])) rfl (hb hby d4_3) (by decide) (by decide)
  obtain ⟨b1, g1⟩ : ∃ z, z = h0.size := ⟨_, rfl⟩
  rw [← g1] at A1 D1 st1
  have ne_o1_b1 : o1 ≠ b1 := Nat.ne_of_lt (Nat.lt_of_lt_of_le Pm0.lt (Nat.le_of_eq g1.symm))
  have ne_o2_b1 : o2 ≠ b1 := Nat.ne_of_lt (Nat.lt_of_lt_of_le Pm5.lt (Nat.le_of_eq g1.symm))
  have gn_b1 : n0 ≤ b1 := Nat.le_trans Z0 (Nat.le_of_eq g1.symm)
  have sz_b1 : h0.size ≤ b1 := Nat.le_of_eq g1.symm
  have K1 : Keep h0 h1 [o2] := (Keep.refl h0 [o2]).ext E1
  have F_elements_b1 : Fld Z h1 b1 "java/util/ArrayDeque" "elements" "[Ljava/lang/Object;" .null := D1 (Or.inl (hw _ (List.mem_of_getElem? (i := 46) rfl))) (ty := (.array (.object "java/lang/Object"))) (by decide)
  have F_head_b1 : Fld Z h1 b1 "java/util/ArrayDeque" "head" "I" (.int (0 : Int32)) := D1 (Or.inl (hw _ (List.mem_of_getElem? (i := 62) rfl))) (ty := .int) (by decide)
  have F_tail_b1 : Fld Z h1 b1 "java/util/ArrayDeque" "tail" "I" (.int (0 : Int32)) := D1 (Or.inl (hw _ (List.mem_of_getElem? (i := 68) rfl))) (ty := .int) (by decide)
  refine step (T1.setTop (mkF m 6 #[.val (.ref o1), .val (.ref o2)] [(.ref b1), .null, (.ref o2), (.ref o1)])) (fun t k => st1 t k) ?_
  refine step (T1.setTop (mkF m 7 #[.val (.ref o1), .val (.ref o2)] [(.ref b1), (.ref b1), .null, (.ref o2), (.ref o1)])) (fun t k => XS.dup X1.here hx rfl (hb hby d4_6) rfl rfl k) ?_
  obtain ⟨_, _, ⟨T2, L2, k2, n2⟩, -, X2, ⟨Lc2, hQ2, l2, y2, z2⟩, st2⟩ := X1.specialBack hx (y := (⟨"java/util/ArrayDeque", "<init>", "()V"⟩ : MethodName)) rfl hown (mvT hZ (hw _ (List.mem_of_getElem? (i := 33) rfl))) (mvT hZ (hw _ (List.mem_of_getElem? (i := 34) rfl))) (mvT hZ (hw _ (List.mem_of_getElem? (i := 35) rfl))) (by decide) (backOf (W := 4) (rm5_4 l Z a0 hw [] b1 h1 n0 (Nat.le_trans Z0 K1.1) A1 F_elements_b1 F_head_b1 F_tail_b1 gn_b1) hZ (hw _ (List.mem_of_getElem? (i := 35) rfl)) (hw _ (List.mem_of_getElem? (i := 32) rfl)) (by decide) (by decide)) (g := (mkF m 7 #[.val (.ref o1), .val (.ref o2)] [(.ref b1), (.ref b1), .null, (.ref o2), (.ref o1)])) rfl (by rw [hml]; rfl) (Steps.refl _) (a := b1) (argsL := []) (rest := [(.ref b1), .null, (.ref o2), (.ref o1)]) (lenOf pd_5 rfl) rfl (by show 2 * 0 + _ ≤ _; exact Nat.le_of_eq rfl) (hb hby d4_7) (fun _ _ => ⟨rfl, e1, (by decide : 1 + 1 ≤ _), (by decide : 3 + 17 ≤ _)⟩)
  dsimp only [Pt.U, Pt.locs, Pt.cells, Pt.slots] at X2 l2 y2 z2 st2 hQ2
  subst l2 y2 z2
  obtain ⟨h2, e2⟩ : ∃ z, T2.heap = z := ⟨_, rfl⟩
  rw [e2] at hQ2
  obtain ⟨b2_2, k2_2, rfl, N2q, K2q, sz_b2_2, q0_2, q1_2, q2_2, q3_2, ov0_2⟩ := hQ2
  have N2 := Fr.app N0 N2q
  have f3 := (Pm0.ext E1)
  have lt2_o1 := f3.lt
  have f4 := (Pm5.ext E1)
  have lt2_o2 := f4.lt
  have lt2_b1 := A1.lt
  have ne_o1_b2_2 : o1 ≠ b2_2 := Nat.ne_of_lt (Nat.lt_of_lt_of_le lt2_o1 sz_b2_2)
  have ne_o2_b2_2 : o2 ≠ b2_2 := Nat.ne_of_lt (Nat.lt_of_lt_of_le lt2_o2 sz_b2_2)
  have ne_b1_b2_2 : b1 ≠ b2_2 := Nat.ne_of_lt (Nat.lt_of_lt_of_le lt2_b1 sz_b2_2)
  have gn_b2_2 : n0 ≤ b2_2 := Nat.le_trans (Nat.le_trans Z0 K1.1) sz_b2_2
  have sz_b2_2' := Nat.le_trans K1.1 sz_b2_2
  replace sz_b2_2 := sz_b2_2'
  have K2 : Keep h0 h2 [o2] := K1.trans K2q (allS (Or.inr sz_b1) all0)
  refine step (T2.setTop (mkF m 10 #[.val (.ref o1), .val (.ref o2)] [(.ref b1), .null, (.ref o2), (.ref o1)])) (fun t k => st2.trans k) ?_
  have f5 := (f3.keep K2q)
  have f6 := ((Pm1.ext E1).keep K2q (ninS ne_o1_b1 nin0))
  have f7 := ((Pm2.ext E1).keep K2q (ninS ne_o1_b1 nin0))
  have f8 := ((Pm3.ext E1).keep K2q (ninS ne_o1_b1 nin0))
  have f9 := ((Pm4.ext E1).keep K2q (ninS ne_o1_b1 nin0))
  have f10 := (f4.keep K2q (ninS ne_o2_b1 nin0))
  have f11 := (A1.keep K2q)
  obtain ⟨cq12, q12, q12'⟩ := f5.cell
  obtain ⟨_, _, ⟨T12, L12, k12, n12⟩, -, X12, ⟨Lc12, hQ12, l12, y12, z12⟩, st12⟩ := X2.privateBack hx (y := (⟨"com/example/vertex_to_service/vertextoservice/core/Choices", "writeTo", "([I[ILjava/util/ArrayDeque;)I"⟩ : MethodName)) hown (mvT hZ (hw _ (List.mem_of_getElem? (i := 47) rfl))) (mvT hZ (hw _ (List.mem_of_getElem? (i := 48) rfl))) (own_selP (mvT hZ (hw _ (List.mem_of_getElem? (i := 48) rfl))) (mvT hZ (hw _ (List.mem_of_getElem? (i := 5) rfl))) (Cond.privateMethod_at (mvP hZ (hw _ (List.mem_of_getElem? (i := 49) rfl)) (args := #[]))) (by decide)) (Cond.privateMethod_at (mvP hZ (hw _ (List.mem_of_getElem? (i := 49) rfl)) (args := #[]))) (mvT hZ (hw _ (List.mem_of_getElem? (i := 50) rfl))) (by decide) (backOf (W := 0) (rm7_6 l Z a0 hw [] o1 o2 b1 i1 kc2 i3 i4 i5 i6 b2_2 k2_2 h2 n0 (Nat.le_trans Z0 K2.1) f5 f6 f7 f8 f9 f10 f11 q0_2 q1_2 q2_2 q3_2 ov0_2 gn_o1 ne_o1_o2 ne_o1_b1 ne_o1_b2_2 gn_o2 ne_o2_b1 ne_o2_b2_2 gn_b1 ne_b1_b2_2 gn_b2_2 hy9) hZ (hw _ (List.mem_of_getElem? (i := 50) rfl)) (hw _ (List.mem_of_getElem? (i := 2) rfl)) (by decide) (by decide)) (g := (mkF m 10 #[.val (.ref o1), .val (.ref o2)] [(.ref b1), .null, (.ref o2), (.ref o1)])) rfl (by rw [hml]; rfl) (Steps.refl _) (a := o1) (by rw [e2]; exact q12) q12' (argsL := [(.ref o2), .null, (.ref b1)]) (rest := []) (lenOf pd_6 rfl) rfl (by show 2 * 0 + _ ≤ _; exact Nat.le_of_eq rfl) (hb hby d4_10) (fun _ _ => ⟨rfl, e2, (by decide : 2 + 0 ≤ _), (by decide : 20 + 0 ≤ _)⟩)
  dsimp only [Pt.U, Pt.locs, Pt.cells, Pt.slots] at X12 l12 y12 z12 st12 hQ12
  subst l12 y12 z12
  obtain ⟨h12, e12⟩ : ∃ z, T12.heap = z := ⟨_, rfl⟩
  rw [e12] at hQ12
  obtain ⟨rfl, N12q, K12q, q0_12, q1_12, q2_12, q3_12, q4_12⟩ := hQ12
  have N12 := Fr.app N2 N12q
  have K12 : Keep h0 h12 [o2] := K2.trans K12q (allS (Or.inr sz_b1) (allS (Or.inr sz_b2_2) (allS (Or.inl (List.mem_of_getElem? (i := 0) rfl)) all0)))
  refine step (T12.setTop (mkF m 13 #[.val (.ref o1), .val (.ref o2)] [(.int (1 : Int32))])) (fun t k => st12.trans k) ?_
  refine step (T12.setTop (mkF m 14 #[.val (.ref o1), .val (.ref o2)] [])) (fun t k => XS.pop X12.here hx rfl (hb hby d4_13) rfl rfl k) ?_
  refine fin (v := none) X12 (fun _ => rfl) ?_ (by decide) (by decide) (fun fs hr => X12.returnOut hx hret (hb hby d4_14) hr)
  show Q4_3 Z o1 o2 i1 kc2 i3 i4 i5 i6 h0 n0 (none) T12.heap _
  rw [e12]
  exact ⟨rfl, N12, K12, q4_12⟩
theorem d17_0 : decode method_2_code 0 = .ok (.iload_n 0, 1) := by decide +kernel
theorem d17_1 : decode method_2_code 1 = .ok (.iload_n 1, 1) := by decide +kernel
theorem d17_2 : decode method_2_code 2 = .ok (.if_icmp .ne 5, 3) := by decide +kernel
theorem d17_5 : decode method_2_code 5 = .ok (.iload_n 2, 1) := by decide +kernel
theorem d17_6 : decode method_2_code 6 = .ok (.ireturn, 1) := by decide +kernel
theorem d17_7 : decode method_2_code 7 = .ok (.iload_n 3, 1) := by decide +kernel
theorem d17_8 : decode method_2_code 8 = .ok (.iload_n 0, 1) := by decide +kernel
theorem d17_9 : decode method_2_code 9 = .ok (.iadd, 1) := by decide +kernel
theorem d17_10 : decode method_2_code 10 = .ok (.ireturn, 1) := by decide +kernel
theorem ef_17_17 (m : MethodId) (x2 : Int32) (x3 : Int32) : entryFrame m #[(.int (0 : Int32)), (.int (0 : Int32)), (.int x2), (.int x3)] 4 = mkF m 0 #[.val (.int (0 : Int32)), .val (.int (0 : Int32)), .val (.int x2), .val (.int x3)] [] := by first | (simp [entryFrame, mkF, argsToLocals, Value.category]; done) | rfl
def Q17_17 (Z : State) (i1 : Int32) (i2 : Int32) (h0 : Heap) (n0 : Nat) (v : Option Value) (h : Heap) (L : List Loc) : Prop := v = some (.int i1) ∧ Fr n0 L ∧ h = h0
set_option maxRecDepth 65536 in
set_option maxHeartbeats 40000000 in
theorem rm17_17 (l : Launch) (Z : State) (a0 : Array Value) (hw : ∀ d ∈ tables_1, d.before a0 Z = true) (ws : List Jvm.Cond) (i1 : Int32) (i2 : Int32) (h0 : Heap) (n0 : Nat) (Z0 : n0 ≤ h0.size) (hy0 : i2 = (i2 + (0 : Int32)))  :
    MetFree l (⟨"com/example/vertex_to_service/vertextoservice/core/ChoicesOfPinLaw", "expected", "(IIII)I"⟩ : MethodName) (head1 (Jvm.Cond.code (⟨"com/example/vertex_to_service/vertextoservice/core/ChoicesOfPinLaw", "expected", "(IIII)I"⟩ : MethodName) method_2_code 4 (some .int) :: ws) ({ frames := 0, cells := 0, slots := 0, locals := 0 } : Room)) (fun a U => a = #[(.int (0 : Int32)), (.int (0 : Int32)), (.int i1), (.int i2)] ∧ Z.Warmed39 U.vm ∧ U.heap = h0) (fun _ _ _ _ _ => True) (fun _ U o U' => ∃ v L, o = .returned v ∧ Q17_17 Z i1 i2 h0 n0 v U'.heap L ∧ FrameEnd U o U' L ({ frames := 0, cells := 0, slots := 0, locals := 0 } : Room).cells ({ frames := 0, cells := 0, slots := 0, locals := 0 } : Room).slots) := by
  refine own_body (plainFor_of_name pn_0) ?_
  intro p e s m below meth c s₁ G hx hby hml hZ hown hnm hret X0 e0 step fin
  replace hown : s.vm.findClass "com/example/vertex_to_service/vertextoservice/core/ChoicesOfPinLaw" = some m.cls := hown
  replace hnm : meth.name = "expected" := hnm
  replace hret : meth.sig.returnType = some .int := hret
  replace hml : c.maxLocals = 4 := hml
  have N0 := Fr.nil n0
  refine step (s₁.setTop (mkF m 0 #[.val (.int (0 : Int32)), .val (.int (0 : Int32)), .val (.int i1), .val (.int i2)] [])) (fun t k => castTop (ef_17_17 m i1 i2) k) ?_
  refine step (s₁.setTop (mkF m 1 #[.val (.int (0 : Int32)), .val (.int (0 : Int32)), .val (.int i1), .val (.int i2)] [(.int (0 : Int32))])) (fun t k => XS.iloadN X0.here hx rfl (hb hby d17_0) rfl k) ?_
  refine step (s₁.setTop (mkF m 2 #[.val (.int (0 : Int32)), .val (.int (0 : Int32)), .val (.int i1), .val (.int i2)] [(.int (0 : Int32)), (.int (0 : Int32))])) (fun t k => XS.iloadN X0.here hx rfl (hb hby d17_1) rfl k) ?_
  refine step (s₁.setTop (mkF m 5 #[.val (.int (0 : Int32)), .val (.int (0 : Int32)), .val (.int i1), .val (.int i2)] [])) (fun t k => XS.icmpNo X0.here hx rfl (hb hby d17_2) rfl (teq (by decide : (0 : Int32) = (0 : Int32))).2 k) ?_
  refine step (s₁.setTop (mkF m 6 #[.val (.int (0 : Int32)), .val (.int (0 : Int32)), .val (.int i1), .val (.int i2)] [(.int i1)])) (fun t k => XS.iloadN X0.here hx rfl (hb hby d17_5) rfl k) ?_
  refine fin (v := some (.int i1)) X0 (fun h => by cases h) ?_ (by decide) (by decide) (fun fs hr => retI X0 hx hret (hb hby d17_6) hr)
  show Q17_17 Z i1 i2 h0 n0 (some (.int i1)) s₁.heap _
  rw [e0]
  exact ⟨rfl, N0, rfl⟩
theorem ef_17_18 (m : MethodId) (x2 : Int32) (x3 : Int32) : entryFrame m #[(.int (1 : Int32)), (.int (0 : Int32)), (.int x2), (.int x3)] 4 = mkF m 0 #[.val (.int (1 : Int32)), .val (.int (0 : Int32)), .val (.int x2), .val (.int x3)] [] := by first | (simp [entryFrame, mkF, argsToLocals, Value.category]; done) | rfl
def Q17_18 (Z : State) (i1 : Int32) (i2 : Int32) (h0 : Heap) (n0 : Nat) (v : Option Value) (h : Heap) (L : List Loc) : Prop := v = some (.int (i2 + (1 : Int32))) ∧ Fr n0 L ∧ h = h0
set_option maxRecDepth 65536 in
set_option maxHeartbeats 40000000 in
theorem rm17_18 (l : Launch) (Z : State) (a0 : Array Value) (hw : ∀ d ∈ tables_1, d.before a0 Z = true) (ws : List Jvm.Cond) (i1 : Int32) (i2 : Int32) (h0 : Heap) (n0 : Nat) (Z0 : n0 ≤ h0.size) (hy0 : i2 = (i2 + (0 : Int32)))  :
    MetFree l (⟨"com/example/vertex_to_service/vertextoservice/core/ChoicesOfPinLaw", "expected", "(IIII)I"⟩ : MethodName) (head1 (Jvm.Cond.code (⟨"com/example/vertex_to_service/vertextoservice/core/ChoicesOfPinLaw", "expected", "(IIII)I"⟩ : MethodName) method_2_code 4 (some .int) :: ws) ({ frames := 0, cells := 0, slots := 0, locals := 0 } : Room)) (fun a U => a = #[(.int (1 : Int32)), (.int (0 : Int32)), (.int i1), (.int i2)] ∧ Z.Warmed39 U.vm ∧ U.heap = h0) (fun _ _ _ _ _ => True) (fun _ U o U' => ∃ v L, o = .returned v ∧ Q17_18 Z i1 i2 h0 n0 v U'.heap L ∧ FrameEnd U o U' L ({ frames := 0, cells := 0, slots := 0, locals := 0 } : Room).cells ({ frames := 0, cells := 0, slots := 0, locals := 0 } : Room).slots) := by
  refine own_body (plainFor_of_name pn_0) ?_
  intro p e s m below meth c s₁ G hx hby hml hZ hown hnm hret X0 e0 step fin
  replace hown : s.vm.findClass "com/example/vertex_to_service/vertextoservice/core/ChoicesOfPinLaw" = some m.cls := hown
  replace hnm : meth.name = "expected" := hnm
  replace hret : meth.sig.returnType = some .int := hret
  replace hml : c.maxLocals = 4 := hml
  have N0 := Fr.nil n0
  refine step (s₁.setTop (mkF m 0 #[.val (.int (1 : Int32)), .val (.int (0 : Int32)), .val (.int i1), .val (.int i2)] [])) (fun t k => castTop (ef_17_18 m i1 i2) k) ?_
  refine step (s₁.setTop (mkF m 1 #[.val (.int (1 : Int32)), .val (.int (0 : Int32)), .val (.int i1), .val (.int i2)] [(.int (1 : Int32))])) (fun t k => XS.iloadN X0.here hx rfl (hb hby d17_0) rfl k) ?_
  refine step (s₁.setTop (mkF m 2 #[.val (.int (1 : Int32)), .val (.int (0 : Int32)), .val (.int i1), .val (.int i2)] [(.int (0 : Int32)), (.int (1 : Int32))])) (fun t k => XS.iloadN X0.here hx rfl (hb hby d17_1) rfl k) ?_
  refine step (s₁.setTop (mkF m 7 #[.val (.int (1 : Int32)), .val (.int (0 : Int32)), .val (.int i1), .val (.int i2)] [])) (fun t k => XS.icmpYes X0.here hx rfl (pc0 := 2) (pc' := 7) rfl (hb hby d17_2) rfl (feq (by decide : ¬ ((1 : Int32) = (0 : Int32)))).2 (by decide) (by decide) k) ?_
  refine step (s₁.setTop (mkF m 8 #[.val (.int (1 : Int32)), .val (.int (0 : Int32)), .val (.int i1), .val (.int i2)] [(.int i2)])) (fun t k => XS.iloadN X0.here hx rfl (hb hby d17_7) rfl k) ?_
  refine step (s₁.setTop (mkF m 9 #[.val (.int (1 : Int32)), .val (.int (0 : Int32)), .val (.int i1), .val (.int i2)] [(.int (1 : Int32)), (.int i2)])) (fun t k => XS.iloadN X0.here hx rfl (hb hby d17_8) rfl k) ?_
  refine step (s₁.setTop (mkF m 10 #[.val (.int (1 : Int32)), .val (.int (0 : Int32)), .val (.int i1), .val (.int i2)] [(.int (i2 + (1 : Int32)))])) (fun t k => XS.iadd X0.here hx rfl (hb hby d17_9) rfl k) ?_
  refine fin (v := some (.int (i2 + (1 : Int32)))) X0 (fun h => by cases h) ?_ (by decide) (by decide) (fun fs hr => retI X0 hx hret (hb hby d17_10) hr)
  show Q17_18 Z i1 i2 h0 n0 (some (.int (i2 + (1 : Int32)))) s₁.heap _
  rw [e0]
  exact ⟨rfl, N0, rfl⟩
theorem ef_17_19 (m : MethodId) (x2 : Int32) (x3 : Int32) : entryFrame m #[(.int (2 : Int32)), (.int (0 : Int32)), (.int x2), (.int x3)] 4 = mkF m 0 #[.val (.int (2 : Int32)), .val (.int (0 : Int32)), .val (.int x2), .val (.int x3)] [] := by first | (simp [entryFrame, mkF, argsToLocals, Value.category]; done) | rfl
def Q17_19 (Z : State) (i1 : Int32) (i2 : Int32) (h0 : Heap) (n0 : Nat) (v : Option Value) (h : Heap) (L : List Loc) : Prop := v = some (.int (i2 + (2 : Int32))) ∧ Fr n0 L ∧ h = h0
set_option maxRecDepth 65536 in
set_option maxHeartbeats 40000000 in
theorem rm17_19 (l : Launch) (Z : State) (a0 : Array Value) (hw : ∀ d ∈ tables_1, d.before a0 Z = true) (ws : List Jvm.Cond) (i1 : Int32) (i2 : Int32) (h0 : Heap) (n0 : Nat) (Z0 : n0 ≤ h0.size) (hy0 : i2 = (i2 + (0 : Int32)))  :
    MetFree l (⟨"com/example/vertex_to_service/vertextoservice/core/ChoicesOfPinLaw", "expected", "(IIII)I"⟩ : MethodName) (head1 (Jvm.Cond.code (⟨"com/example/vertex_to_service/vertextoservice/core/ChoicesOfPinLaw", "expected", "(IIII)I"⟩ : MethodName) method_2_code 4 (some .int) :: ws) ({ frames := 0, cells := 0, slots := 0, locals := 0 } : Room)) (fun a U => a = #[(.int (2 : Int32)), (.int (0 : Int32)), (.int i1), (.int i2)] ∧ Z.Warmed39 U.vm ∧ U.heap = h0) (fun _ _ _ _ _ => True) (fun _ U o U' => ∃ v L, o = .returned v ∧ Q17_19 Z i1 i2 h0 n0 v U'.heap L ∧ FrameEnd U o U' L ({ frames := 0, cells := 0, slots := 0, locals := 0 } : Room).cells ({ frames := 0, cells := 0, slots := 0, locals := 0 } : Room).slots) := by
  refine own_body (plainFor_of_name pn_0) ?_
  intro p e s m below meth c s₁ G hx hby hml hZ hown hnm hret X0 e0 step fin
  replace hown : s.vm.findClass "com/example/vertex_to_service/vertextoservice/core/ChoicesOfPinLaw" = some m.cls := hown
  replace hnm : meth.name = "expected" := hnm
  replace hret : meth.sig.returnType = some .int := hret
  replace hml : c.maxLocals = 4 := hml
  have N0 := Fr.nil n0
  refine step (s₁.setTop (mkF m 0 #[.val (.int (2 : Int32)), .val (.int (0 : Int32)), .val (.int i1), .val (.int i2)] [])) (fun t k => castTop (ef_17_19 m i1 i2) k) ?_
  refine step (s₁.setTop (mkF m 1 #[.val (.int (2 : Int32)), .val (.int (0 : Int32)), .val (.int i1), .val (.int i2)] [(.int (2 : Int32))])) (fun t k => XS.iloadN X0.here hx rfl (hb hby d17_0) rfl k) ?_
  refine step (s₁.setTop (mkF m 2 #[.val (.int (2 : Int32)), .val (.int (0 : Int32)), .val (.int i1), .val (.int i2)] [(.int (0 : Int32)), (.int (2 : Int32))])) (fun t k => XS.iloadN X0.here hx rfl (hb hby d17_1) rfl k) ?_
  refine step (s₁.setTop (mkF m 7 #[.val (.int (2 : Int32)), .val (.int (0 : Int32)), .val (.int i1), .val (.int i2)] [])) (fun t k => XS.icmpYes X0.here hx rfl (pc0 := 2) (pc' := 7) rfl (hb hby d17_2) rfl (feq (by decide : ¬ ((2 : Int32) = (0 : Int32)))).2 (by decide) (by decide) k) ?_
  refine step (s₁.setTop (mkF m 8 #[.val (.int (2 : Int32)), .val (.int (0 : Int32)), .val (.int i1), .val (.int i2)] [(.int i2)])) (fun t k => XS.iloadN X0.here hx rfl (hb hby d17_7) rfl k) ?_
  refine step (s₁.setTop (mkF m 9 #[.val (.int (2 : Int32)), .val (.int (0 : Int32)), .val (.int i1), .val (.int i2)] [(.int (2 : Int32)), (.int i2)])) (fun t k => XS.iloadN X0.here hx rfl (hb hby d17_8) rfl k) ?_
  refine step (s₁.setTop (mkF m 10 #[.val (.int (2 : Int32)), .val (.int (0 : Int32)), .val (.int i1), .val (.int i2)] [(.int (i2 + (2 : Int32)))])) (fun t k => XS.iadd X0.here hx rfl (hb hby d17_9) rfl k) ?_
  refine fin (v := some (.int (i2 + (2 : Int32)))) X0 (fun h => by cases h) ?_ (by decide) (by decide) (fun fs hr => retI X0 hx hret (hb hby d17_10) hr)
  show Q17_19 Z i1 i2 h0 n0 (some (.int (i2 + (2 : Int32)))) s₁.heap _
  rw [e0]
  exact ⟨rfl, N0, rfl⟩
theorem ef_17_20 (m : MethodId) (x2 : Int32) (x3 : Int32) : entryFrame m #[(.int (3 : Int32)), (.int (0 : Int32)), (.int x2), (.int x3)] 4 = mkF m 0 #[.val (.int (3 : Int32)), .val (.int (0 : Int32)), .val (.int x2), .val (.int x3)] [] := by first | (simp [entryFrame, mkF, argsToLocals, Value.category]; done) | rfl
def Q17_20 (Z : State) (i1 : Int32) (i2 : Int32) (h0 : Heap) (n0 : Nat) (v : Option Value) (h : Heap) (L : List Loc) : Prop := v = some (.int (i2 + (3 : Int32))) ∧ Fr n0 L ∧ h = h0
set_option maxRecDepth 65536 in
set_option maxHeartbeats 40000000 in
theorem rm17_20 (l : Launch) (Z : State) (a0 : Array Value) (hw : ∀ d ∈ tables_1, d.before a0 Z = true) (ws : List Jvm.Cond) (i1 : Int32) (i2 : Int32) (h0 : Heap) (n0 : Nat) (Z0 : n0 ≤ h0.size) (hy0 : i2 = (i2 + (0 : Int32)))  :
    MetFree l (⟨"com/example/vertex_to_service/vertextoservice/core/ChoicesOfPinLaw", "expected", "(IIII)I"⟩ : MethodName) (head1 (Jvm.Cond.code (⟨"com/example/vertex_to_service/vertextoservice/core/ChoicesOfPinLaw", "expected", "(IIII)I"⟩ : MethodName) method_2_code 4 (some .int) :: ws) ({ frames := 0, cells := 0, slots := 0, locals := 0 } : Room)) (fun a U => a = #[(.int (3 : Int32)), (.int (0 : Int32)), (.int i1), (.int i2)] ∧ Z.Warmed39 U.vm ∧ U.heap = h0) (fun _ _ _ _ _ => True) (fun _ U o U' => ∃ v L, o = .returned v ∧ Q17_20 Z i1 i2 h0 n0 v U'.heap L ∧ FrameEnd U o U' L ({ frames := 0, cells := 0, slots := 0, locals := 0 } : Room).cells ({ frames := 0, cells := 0, slots := 0, locals := 0 } : Room).slots) := by
  refine own_body (plainFor_of_name pn_0) ?_
  intro p e s m below meth c s₁ G hx hby hml hZ hown hnm hret X0 e0 step fin
  replace hown : s.vm.findClass "com/example/vertex_to_service/vertextoservice/core/ChoicesOfPinLaw" = some m.cls := hown
  replace hnm : meth.name = "expected" := hnm
  replace hret : meth.sig.returnType = some .int := hret
  replace hml : c.maxLocals = 4 := hml
  have N0 := Fr.nil n0
  refine step (s₁.setTop (mkF m 0 #[.val (.int (3 : Int32)), .val (.int (0 : Int32)), .val (.int i1), .val (.int i2)] [])) (fun t k => castTop (ef_17_20 m i1 i2) k) ?_
  refine step (s₁.setTop (mkF m 1 #[.val (.int (3 : Int32)), .val (.int (0 : Int32)), .val (.int i1), .val (.int i2)] [(.int (3 : Int32))])) (fun t k => XS.iloadN X0.here hx rfl (hb hby d17_0) rfl k) ?_
  refine step (s₁.setTop (mkF m 2 #[.val (.int (3 : Int32)), .val (.int (0 : Int32)), .val (.int i1), .val (.int i2)] [(.int (0 : Int32)), (.int (3 : Int32))])) (fun t k => XS.iloadN X0.here hx rfl (hb hby d17_1) rfl k) ?_
  refine step (s₁.setTop (mkF m 7 #[.val (.int (3 : Int32)), .val (.int (0 : Int32)), .val (.int i1), .val (.int i2)] [])) (fun t k => XS.icmpYes X0.here hx rfl (pc0 := 2) (pc' := 7) rfl (hb hby d17_2) rfl (feq (by decide : ¬ ((3 : Int32) = (0 : Int32)))).2 (by decide) (by decide) k) ?_
  refine step (s₁.setTop (mkF m 8 #[.val (.int (3 : Int32)), .val (.int (0 : Int32)), .val (.int i1), .val (.int i2)] [(.int i2)])) (fun t k => XS.iloadN X0.here hx rfl (hb hby d17_7) rfl k) ?_
  refine step (s₁.setTop (mkF m 9 #[.val (.int (3 : Int32)), .val (.int (0 : Int32)), .val (.int i1), .val (.int i2)] [(.int (3 : Int32)), (.int i2)])) (fun t k => XS.iloadN X0.here hx rfl (hb hby d17_8) rfl k) ?_
  refine step (s₁.setTop (mkF m 10 #[.val (.int (3 : Int32)), .val (.int (0 : Int32)), .val (.int i1), .val (.int i2)] [(.int (i2 + (3 : Int32)))])) (fun t k => XS.iadd X0.here hx rfl (hb hby d17_9) rfl k) ?_
  refine fin (v := some (.int (i2 + (3 : Int32)))) X0 (fun h => by cases h) ?_ (by decide) (by decide) (fun fs hr => retI X0 hx hret (hb hby d17_10) hr)
  show Q17_20 Z i1 i2 h0 n0 (some (.int (i2 + (3 : Int32)))) s₁.heap _
  rw [e0]
  exact ⟨rfl, N0, rfl⟩
theorem ef_2_22 (m : MethodId) (x0 : Addr) (x1 : Int32) (x2 : Int32) (x5 : Int32) (x6 : Int32) : entryFrame m #[(.ref x0), (.int x1), (.int x2), .null, .null, (.int x5), (.int x6)] 7 = mkF m 0 #[.val (.ref x0), .val (.int x1), .val (.int x2), .val .null, .val .null, .val (.int x5), .val (.int x6)] [] := by first | (simp [entryFrame, mkF, argsToLocals, Value.category]; done) | rfl
def Q2_22 (Z : State) (o1 : Addr) (i1 : Int32) (i2 : Int32) (h0 : Heap) (n0 : Nat) (v : Option Value) (h : Heap) (L : List Loc) : Prop := v = none ∧ Fr n0 L ∧ Keep h0 h [o1] ∧ Fld Z h o1 "com/example/vertex_to_service/vertextoservice/core/Choices" "candidate" "I" (.int i2) ∧ Fld Z h o1 "com/example/vertex_to_service/vertextoservice/core/Choices" "first" "Lcom/example/vertex_to_service/vertextoservice/core/Choices;" .null ∧ Fld Z h o1 "com/example/vertex_to_service/vertextoservice/core/Choices" "high" "I" (.int i1) ∧ Fld Z h o1 "com/example/vertex_to_service/vertextoservice/core/Choices" "low" "I" (.int i1) ∧ Fld Z h o1 "com/example/vertex_to_service/vertextoservice/core/Choices" "second" "Lcom/example/vertex_to_service/vertextoservice/core/Choices;" .null ∧ Fld Z h o1 "com/example/vertex_to_service/vertextoservice/core/Choices" "vertex" "I" (.int i1)
set_option maxRecDepth 65536 in
set_option maxHeartbeats 40000000 in
theorem rm2_22 (l : Launch) (Z : State) (a0 : Array Value) (hw : ∀ d ∈ tables_1, d.before a0 Z = true) (ws : List Jvm.Cond) (o1 : Addr) (i1 : Int32) (i2 : Int32) (h0 : Heap) (n0 : Nat) (Z0 : n0 ≤ h0.size) (Pm0 : Exa Z h0 o1 "com/example/vertex_to_service/vertextoservice/core/Choices") (Pm1 : Fld Z h0 o1 "com/example/vertex_to_service/vertextoservice/core/Choices" "candidate" "I" (.int (0 : Int32))) (Pm2 : Fld Z h0 o1 "com/example/vertex_to_service/vertextoservice/core/Choices" "first" "Lcom/example/vertex_to_service/vertextoservice/core/Choices;" .null) (Pm3 : Fld Z h0 o1 "com/example/vertex_to_service/vertextoservice/core/Choices" "high" "I" (.int (0 : Int32))) (Pm4 : Fld Z h0 o1 "com/example/vertex_to_service/vertextoservice/core/Choices" "low" "I" (.int (0 : Int32))) (Pm5 : Fld Z h0 o1 "com/example/vertex_to_service/vertextoservice/core/Choices" "second" "Lcom/example/vertex_to_service/vertextoservice/core/Choices;" .null) (Pm6 : Fld Z h0 o1 "com/example/vertex_to_service/vertextoservice/core/Choices" "vertex" "I" (.int (0 : Int32))) (gn_o1 : n0 ≤ o1) (hy8 : ¬ (i1 < (0 : Int32)))  :
    MetFree l (⟨"com/example/vertex_to_service/vertextoservice/core/Choices", "<init>", "(IILcom/example/vertex_to_service/vertextoservice/core/Choices;Lcom/example/vertex_to_service/vertextoservice/core/Choices;II)V"⟩ : MethodName) (head1 (Jvm.Cond.code (⟨"com/example/vertex_to_service/vertextoservice/core/Choices", "<init>", "(IILcom/example/vertex_to_service/vertextoservice/core/Choices;Lcom/example/vertex_to_service/vertextoservice/core/Choices;II)V"⟩ : MethodName) prog_10_method_1_code 7 none :: ws) ({ frames := 1, cells := 0, slots := 0, locals := 12 } : Room)) (fun a U => a = #[(.ref o1), (.int i1), (.int i2), .null, .null, (.int i1), (.int i1)] ∧ Z.Warmed39 U.vm ∧ U.heap = h0) (fun _ _ _ _ _ => True) (fun _ U o U' => ∃ v L, o = .returned v ∧ Q2_22 Z o1 i1 i2 h0 n0 v U'.heap L ∧ FrameEnd U o U' L ({ frames := 1, cells := 0, slots := 0, locals := 12 } : Room).cells ({ frames := 1, cells := 0, slots := 0, locals := 12 } : Room).slots) := by
  refine own_body (plainFor_of_name pn_1) ?_
  intro p e s m below meth c s₁ G hx hby hml hZ hown hnm hret X0 e0 step fin
  replace hown : s.vm.findClass "com/example/vertex_to_service/vertextoservice/core/Choices" = some m.cls := hown
  replace hnm : meth.name = "<init>" := hnm
  replace hret : meth.sig.returnType = none := hret
  replace hml : c.maxLocals = 7 := hml
  have N0 := Fr.nil n0
  refine step (s₁.setTop (mkF m 0 #[.val (.ref o1), .val (.int i1), .val (.int i2), .val .null, .val .null, .val (.int i1), .val (.int i1)] [])) (fun t k => castTop (ef_2_22 m o1 i1 i2 i1 i1) k) ?_
  refine step (s₁.setTop (mkF m 1 #[.val (.ref o1), .val (.int i1), .val (.int i2), .val .null, .val .null, .val (.int i1), .val (.int i1)] [(.ref o1)])) (fun t k => XS.aloadN X0.here hx rfl (hb hby d2_0) rfl rfl k) ?_
  obtain ⟨T1, X1, e1, st1⟩ := initO X0 hx hZ hown (hw _ (List.mem_of_getElem? (i := 9) rfl)) (hw _ (List.mem_of_getElem? (i := 10) rfl)) (hw _ (List.mem_of_getElem? (i := 11) rfl)) e0 (g := (mkF m 1 #[.val (.ref o1), .val (.int i1), .val (.int i2), .val .null, .val .null, .val (.int i1), .val (.int i1)] [(.ref o1)])) rfl (by rw [hml]; rfl) rfl (hb hby d2_1) (by decide) (W := 0) (by show 2 * 0 + _ ≤ _; exact Nat.le_of_eq rfl) (by decide)
  refine step (T1.setTop (mkF m 4 #[.val (.ref o1), .val (.int i1), .val (.int i2), .val .null, .val .null, .val (.int i1), .val (.int i1)] [])) (fun t k => st1 t k) ?_
  refine step (T1.setTop (mkF m 5 #[.val (.ref o1), .val (.int i1), .val (.int i2), .val .null, .val .null, .val (.int i1), .val (.int i1)] [(.ref o1)])) (fun t k => XS.aloadN X1.here hx rfl (hb hby d2_4) rfl rfl k) ?_
  refine step (T1.setTop (mkF m 6 #[.val (.ref o1), .val (.int i1), .val (.int i2), .val .null, .val .null, .val (.int i1), .val (.int i1)] [(.int i1), (.ref o1)])) (fun t k => XS.iloadN X1.here hx rfl (hb hby d2_5) rfl k) ?_
  obtain ⟨T2, h2, X2, e2, W2, st2⟩ := putF X1 hx hZ hown (host := "") (Or.inl (hw _ (List.mem_of_getElem? (i := 12) rfl))) Via.refl e1 Pm6 Pm0 (Or.inr ⟨(hw _ (List.mem_of_getElem? (i := 13) rfl)), rfl, hnm⟩) (hw _ (List.mem_of_getElem? (i := 5) rfl)) (ty := .int) (by decide) rfl rfl (g := (mkF m 6 #[.val (.ref o1), .val (.int i1), .val (.int i2), .val .null, .val .null, .val (.int i1), .val (.int i1)] [(.int i1), (.ref o1)])) rfl rfl (hb hby d2_6)
  have N2 := Fr.snoc X2 N0 gn_o1
  have K2 : Keep h0 h2 [o1] := (Keep.refl h0 [o1]).wr W2 (Or.inl (List.mem_of_getElem? (i := 0) rfl))
  have F2 := Pm6.same W2
  refine step (T2.setTop (mkF m 9 #[.val (.ref o1), .val (.int i1), .val (.int i2), .val .null, .val .null, .val (.int i1), .val (.int i1)] [])) (fun t k => st2 t k) ?_
  refine step (T2.setTop (mkF m 10 #[.val (.ref o1), .val (.int i1), .val (.int i2), .val .null, .val .null, .val (.int i1), .val (.int i1)] [(.ref o1)])) (fun t k => XS.aloadN X2.here hx rfl (hb hby d2_9) rfl rfl k) ?_
  refine step (T2.setTop (mkF m 11 #[.val (.ref o1), .val (.int i1), .val (.int i2), .val .null, .val .null, .val (.int i1), .val (.int i1)] [(.int i2), (.ref o1)])) (fun t k => XS.iloadN X2.here hx rfl (hb hby d2_10) rfl k) ?_
  have f3 := (Pm0.wr W2)
  have f4 := (Pm1.other W2 (Or.inr (slot_ne (Or.inr (hw _ (List.mem_of_getElem? (i := 15) rfl))) (Or.inr (hw _ (List.mem_of_getElem? (i := 13) rfl))) (by decide) (t := .int) (t' := .int) (by decide) (by decide))))
  obtain ⟨T5, h5, X5, e5, W5, st5⟩ := putF X2 hx hZ hown (host := "") (Or.inl (hw _ (List.mem_of_getElem? (i := 14) rfl))) Via.refl e2 f4 f3 (Or.inr ⟨(hw _ (List.mem_of_getElem? (i := 15) rfl)), rfl, hnm⟩) (hw _ (List.mem_of_getElem? (i := 5) rfl)) (ty := .int) (by decide) rfl rfl (g := (mkF m 11 #[.val (.ref o1), .val (.int i1), .val (.int i2), .val .null, .val .null, .val (.int i1), .val (.int i1)] [(.int i2), (.ref o1)])) rfl rfl (hb hby d2_11)
  have N5 := Fr.snoc X5 N2 gn_o1
  have K5 : Keep h0 h5 [o1] := K2.wr W5 (Or.inl (List.mem_of_getElem? (i := 0) rfl))
  have F5 := f4.same W5
  refine step (T5.setTop (mkF m 14 #[.val (.ref o1), .val (.int i1), .val (.int i2), .val .null, .val .null, .val (.int i1), .val (.int i1)] [])) (fun t k => st5 t k) ?_
  refine step (T5.setTop (mkF m 15 #[.val (.ref o1), .val (.int i1), .val (.int i2), .val .null, .val .null, .val (.int i1), .val (.int i1)] [(.ref o1)])) (fun t k => XS.aloadN X5.here hx rfl (hb hby d2_14) rfl rfl k) ?_
  refine step (T5.setTop (mkF m 16 #[.val (.ref o1), .val (.int i1), .val (.int i2), .val .null, .val .null, .val (.int i1), .val (.int i1)] [.null, (.ref o1)])) (fun t k => XS.aloadN X5.here hx rfl (hb hby d2_15) rfl rfl k) ?_
  have f6 := (f3.wr W5)
  have f7 := ((Pm2.other W2 (Or.inr (slot_ne (Or.inr (hw _ (List.mem_of_getElem? (i := 17) rfl))) (Or.inr (hw _ (List.mem_of_getElem? (i := 13) rfl))) (by decide) (t := (.object "com/example/vertex_to_service/vertextoservice/core/Choices")) (t' := .int) (by decide) (by decide)))).other W5 (Or.inr (slot_ne (Or.inr (hw _ (List.mem_of_getElem? (i := 17) rfl))) (Or.inr (hw _ (List.mem_of_getElem? (i := 15) rfl))) (by decide) (t := (.object "com/example/vertex_to_service/vertextoservice/core/Choices")) (t' := .int) (by decide) (by decide))))
  obtain ⟨T8, h8, X8, e8, W8, st8⟩ := putF X5 hx hZ hown (host := "") (Or.inl (hw _ (List.mem_of_getElem? (i := 16) rfl))) Via.refl e5 f7 f6 (Or.inr ⟨(hw _ (List.mem_of_getElem? (i := 17) rfl)), rfl, hnm⟩) (hw _ (List.mem_of_getElem? (i := 5) rfl)) (ty := (.object "com/example/vertex_to_service/vertextoservice/core/Choices")) (by decide) rfl rfl (g := (mkF m 16 #[.val (.ref o1), .val (.int i1), .val (.int i2), .val .null, .val .null, .val (.int i1), .val (.int i1)] [.null, (.ref o1)])) rfl rfl (hb hby d2_16)
  have N8 := Fr.snoc X8 N5 gn_o1
  have K8 : Keep h0 h8 [o1] := K5.wr W8 (Or.inl (List.mem_of_getElem? (i := 0) rfl))
  have F8 := f7.same W8
  refine step (T8.setTop (mkF m 19 #[.val (.ref o1), .val (.int i1), .val (.int i2), .val .null, .val .null, .val (.int i1), .val (.int i1)] [])) (fun t k => st8 t k) ?_
  refine step (T8.setTop (mkF m 20 #[.val (.ref o1), .val (.int i1), .val (.int i2), .val .null, .val .null, .val (.int i1), .val (.int i1)] [(.ref o1)])) (fun t k => XS.aloadN X8.here hx rfl (hb hby d2_19) rfl rfl k) ?_
  refine step (T8.setTop (mkF m 22 #[.val (.ref o1), .val (.int i1), .val (.int i2), .val .null, .val .null, .val (.int i1), .val (.int i1)] [.null, (.ref o1)])) (fun t k => XS.aload X8.here hx rfl (hb hby d2_20) rfl rfl k) ?_
  have f9 := (f6.wr W8)
  have f10 := (((Pm5.other W2 (Or.inr (slot_ne (Or.inr (hw _ (List.mem_of_getElem? (i := 19) rfl))) (Or.inr (hw _ (List.mem_of_getElem? (i := 13) rfl))) (by decide) (t := (.object "com/example/vertex_to_service/vertextoservice/core/Choices")) (t' := .int) (by decide) (by decide)))).other W5 (Or.inr (slot_ne (Or.inr (hw _ (List.mem_of_getElem? (i := 19) rfl))) (Or.inr (hw _ (List.mem_of_getElem? (i := 15) rfl))) (by decide) (t := (.object "com/example/vertex_to_service/vertextoservice/core/Choices")) (t' := .int) (by decide) (by decide)))).other W8 (Or.inr (slot_ne (Or.inr (hw _ (List.mem_of_getElem? (i := 19) rfl))) (Or.inr (hw _ (List.mem_of_getElem? (i := 17) rfl))) (by decide) (t := (.object "com/example/vertex_to_service/vertextoservice/core/Choices")) (t' := (.object "com/example/vertex_to_service/vertextoservice/core/Choices")) (by decide) (by decide))))
  obtain ⟨T11, h11, X11, e11, W11, st11⟩ := putF X8 hx hZ hown (host := "") (Or.inl (hw _ (List.mem_of_getElem? (i := 18) rfl))) Via.refl e8 f10 f9 (Or.inr ⟨(hw _ (List.mem_of_getElem? (i := 19) rfl)), rfl, hnm⟩) (hw _ (List.mem_of_getElem? (i := 5) rfl)) (ty := (.object "com/example/vertex_to_service/vertextoservice/core/Choices")) (by decide) rfl rfl (g := (mkF m 22 #[.val (.ref o1), .val (.int i1), .val (.int i2), .val .null, .val .null, .val (.int i1), .val (.int i1)] [.null, (.ref o1)])) rfl rfl (hb hby d2_22)
  have N11 := Fr.snoc X11 N8 gn_o1
  have K11 : Keep h0 h11 [o1] := K8.wr W11 (Or.inl (List.mem_of_getElem? (i := 0) rfl))
  have F11 := f10.same W11
  refine step (T11.setTop (mkF m 25 #[.val (.ref o1), .val (.int i1), .val (.int i2), .val .null, .val .null, .val (.int i1), .val (.int i1)] [])) (fun t k => st11 t k) ?_
  refine step (T11.setTop (mkF m 26 #[.val (.ref o1), .val (.int i1), .val (.int i2), .val .null, .val .null, .val (.int i1), .val (.int i1)] [(.ref o1)])) (fun t k => XS.aloadN X11.here hx rfl (hb hby d2_25) rfl rfl k) ?_
  refine step (T11.setTop (mkF m 28 #[.val (.ref o1), .val (.int i1), .val (.int i2), .val .null, .val .null, .val (.int i1), .val (.int i1)] [(.int i1), (.ref o1)])) (fun t k => XS.iload X11.here hx rfl (hb hby d2_26) rfl k) ?_
  have f12 := (f9.wr W11)
  have f13 := ((((Pm4.other W2 (Or.inr (slot_ne (Or.inr (hw _ (List.mem_of_getElem? (i := 21) rfl))) (Or.inr (hw _ (List.mem_of_getElem? (i := 13) rfl))) (by decide) (t := .int) (t' := .int) (by decide) (by decide)))).other W5 (Or.inr (slot_ne (Or.inr (hw _ (List.mem_of_getElem? (i := 21) rfl))) (Or.inr (hw _ (List.mem_of_getElem? (i := 15) rfl))) (by decide) (t := .int) (t' := .int) (by decide) (by decide)))).other W8 (Or.inr (slot_ne (Or.inr (hw _ (List.mem_of_getElem? (i := 21) rfl))) (Or.inr (hw _ (List.mem_of_getElem? (i := 17) rfl))) (by decide) (t := .int) (t' := (.object "com/example/vertex_to_service/vertextoservice/core/Choices")) (by decide) (by decide)))).other W11 (Or.inr (slot_ne (Or.inr (hw _ (List.mem_of_getElem? (i := 21) rfl))) (Or.inr (hw _ (List.mem_of_getElem? (i := 19) rfl))) (by decide) (t := .int) (t' := (.object "com/example/vertex_to_service/vertextoservice/core/Choices")) (by decide) (by decide))))
  obtain ⟨T14, h14, X14, e14, W14, st14⟩ := putF X11 hx hZ hown (host := "") (Or.inl (hw _ (List.mem_of_getElem? (i := 20) rfl))) Via.refl e11 f13 f12 (Or.inr ⟨(hw _ (List.mem_of_getElem? (i := 21) rfl)), rfl, hnm⟩) (hw _ (List.mem_of_getElem? (i := 5) rfl)) (ty := .int) (by decide) rfl rfl (g := (mkF m 28 #[.val (.ref o1), .val (.int i1), .val (.int i2), .val .null, .val .null, .val (.int i1), .val (.int i1)] [(.int i1), (.ref o1)])) rfl rfl (hb hby d2_28)
  have N14 := Fr.snoc X14 N11 gn_o1
  have K14 : Keep h0 h14 [o1] := K11.wr W14 (Or.inl (List.mem_of_getElem? (i := 0) rfl))
  have F14 := f13.same W14
  refine step (T14.setTop (mkF m 31 #[.val (.ref o1), .val (.int i1), .val (.int i2), .val .null, .val .null, .val (.int i1), .val (.int i1)] [])) (fun t k => st14 t k) ?_
  refine step (T14.setTop (mkF m 32 #[.val (.ref o1), .val (.int i1), .val (.int i2), .val .null, .val .null, .val (.int i1), .val (.int i1)] [(.ref o1)])) (fun t k => XS.aloadN X14.here hx rfl (hb hby d2_31) rfl rfl k) ?_
  refine step (T14.setTop (mkF m 34 #[.val (.ref o1), .val (.int i1), .val (.int i2), .val .null, .val .null, .val (.int i1), .val (.int i1)] [(.int i1), (.ref o1)])) (fun t k => XS.iload X14.here hx rfl (hb hby d2_32) rfl k) ?_
  have f15 := (f12.wr W14)
  have f16 := (((((Pm3.other W2 (Or.inr (slot_ne (Or.inr (hw _ (List.mem_of_getElem? (i := 23) rfl))) (Or.inr (hw _ (List.mem_of_getElem? (i := 13) rfl))) (by decide) (t := .int) (t' := .int) (by decide) (by decide)))).other W5 (Or.inr (slot_ne (Or.inr (hw _ (List.mem_of_getElem? (i := 23) rfl))) (Or.inr (hw _ (List.mem_of_getElem? (i := 15) rfl))) (by decide) (t := .int) (t' := .int) (by decide) (by decide)))).other W8 (Or.inr (slot_ne (Or.inr (hw _ (List.mem_of_getElem? (i := 23) rfl))) (Or.inr (hw _ (List.mem_of_getElem? (i := 17) rfl))) (by decide) (t := .int) (t' := (.object "com/example/vertex_to_service/vertextoservice/core/Choices")) (by decide) (by decide)))).other W11 (Or.inr (slot_ne (Or.inr (hw _ (List.mem_of_getElem? (i := 23) rfl))) (Or.inr (hw _ (List.mem_of_getElem? (i := 19) rfl))) (by decide) (t := .int) (t' := (.object "com/example/vertex_to_service/vertextoservice/core/Choices")) (by decide) (by decide)))).other W14 (Or.inr (slot_ne (Or.inr (hw _ (List.mem_of_getElem? (i := 23) rfl))) (Or.inr (hw _ (List.mem_of_getElem? (i := 21) rfl))) (by decide) (t := .int) (t' := .int) (by decide) (by decide))))
  obtain ⟨T17, h17, X17, e17, W17, st17⟩ := putF X14 hx hZ hown (host := "") (Or.inl (hw _ (List.mem_of_getElem? (i := 22) rfl))) Via.refl e14 f16 f15 (Or.inr ⟨(hw _ (List.mem_of_getElem? (i := 23) rfl)), rfl, hnm⟩) (hw _ (List.mem_of_getElem? (i := 5) rfl)) (ty := .int) (by decide) rfl rfl (g := (mkF m 34 #[.val (.ref o1), .val (.int i1), .val (.int i2), .val .null, .val .null, .val (.int i1), .val (.int i1)] [(.int i1), (.ref o1)])) rfl rfl (hb hby d2_34)
  have N17 := Fr.snoc X17 N14 gn_o1
  have K17 : Keep h0 h17 [o1] := K14.wr W17 (Or.inl (List.mem_of_getElem? (i := 0) rfl))
  have F17 := f16.same W17
  refine step (T17.setTop (mkF m 37 #[.val (.ref o1), .val (.int i1), .val (.int i2), .val .null, .val .null, .val (.int i1), .val (.int i1)] [])) (fun t k => st17 t k) ?_
  have f18 := ((((F5.other W8 (Or.inr (slot_ne (Or.inr (hw _ (List.mem_of_getElem? (i := 15) rfl))) (Or.inr (hw _ (List.mem_of_getElem? (i := 17) rfl))) (by decide) (t := .int) (t' := (.object "com/example/vertex_to_service/vertextoservice/core/Choices")) (by decide) (by decide)))).other W11 (Or.inr (slot_ne (Or.inr (hw _ (List.mem_of_getElem? (i := 15) rfl))) (Or.inr (hw _ (List.mem_of_getElem? (i := 19) rfl))) (by decide) (t := .int) (t' := (.object "com/example/vertex_to_service/vertextoservice/core/Choices")) (by decide) (by decide)))).other W14 (Or.inr (slot_ne (Or.inr (hw _ (List.mem_of_getElem? (i := 15) rfl))) (Or.inr (hw _ (List.mem_of_getElem? (i := 21) rfl))) (by decide) (t := .int) (t' := .int) (by decide) (by decide)))).other W17 (Or.inr (slot_ne (Or.inr (hw _ (List.mem_of_getElem? (i := 15) rfl))) (Or.inr (hw _ (List.mem_of_getElem? (i := 23) rfl))) (by decide) (t := .int) (t' := .int) (by decide) (by decide))))
  have f19 := (((F8.other W11 (Or.inr (slot_ne (Or.inr (hw _ (List.mem_of_getElem? (i := 17) rfl))) (Or.inr (hw _ (List.mem_of_getElem? (i := 19) rfl))) (by decide) (t := (.object "com/example/vertex_to_service/vertextoservice/core/Choices")) (t' := (.object "com/example/vertex_to_service/vertextoservice/core/Choices")) (by decide) (by decide)))).other W14 (Or.inr (slot_ne (Or.inr (hw _ (List.mem_of_getElem? (i := 17) rfl))) (Or.inr (hw _ (List.mem_of_getElem? (i := 21) rfl))) (by decide) (t := (.object "com/example/vertex_to_service/vertextoservice/core/Choices")) (t' := .int) (by decide) (by decide)))).other W17 (Or.inr (slot_ne (Or.inr (hw _ (List.mem_of_getElem? (i := 17) rfl))) (Or.inr (hw _ (List.mem_of_getElem? (i := 23) rfl))) (by decide) (t := (.object "com/example/vertex_to_service/vertextoservice/core/Choices")) (t' := .int) (by decide) (by decide))))
  have f20 := (F14.other W17 (Or.inr (slot_ne (Or.inr (hw _ (List.mem_of_getElem? (i := 21) rfl))) (Or.inr (hw _ (List.mem_of_getElem? (i := 23) rfl))) (by decide) (t := .int) (t' := .int) (by decide) (by decide))))
  have f21 := ((F11.other W14 (Or.inr (slot_ne (Or.inr (hw _ (List.mem_of_getElem? (i := 19) rfl))) (Or.inr (hw _ (List.mem_of_getElem? (i := 21) rfl))) (by decide) (t := (.object "com/example/vertex_to_service/vertextoservice/core/Choices")) (t' := .int) (by decide) (by decide)))).other W17 (Or.inr (slot_ne (Or.inr (hw _ (List.mem_of_getElem? (i := 19) rfl))) (Or.inr (hw _ (List.mem_of_getElem? (i := 23) rfl))) (by decide) (t := (.object "com/example/vertex_to_service/vertextoservice/core/Choices")) (t' := .int) (by decide) (by decide))))
  have f22 := (((((F2.other W5 (Or.inr (slot_ne (Or.inr (hw _ (List.mem_of_getElem? (i := 13) rfl))) (Or.inr (hw _ (List.mem_of_getElem? (i := 15) rfl))) (by decide) (t := .int) (t' := .int) (by decide) (by decide)))).other W8 (Or.inr (slot_ne (Or.inr (hw _ (List.mem_of_getElem? (i := 13) rfl))) (Or.inr (hw _ (List.mem_of_getElem? (i := 17) rfl))) (by decide) (t := .int) (t' := (.object "com/example/vertex_to_service/vertextoservice/core/Choices")) (by decide) (by decide)))).other W11 (Or.inr (slot_ne (Or.inr (hw _ (List.mem_of_getElem? (i := 13) rfl))) (Or.inr (hw _ (List.mem_of_getElem? (i := 19) rfl))) (by decide) (t := .int) (t' := (.object "com/example/vertex_to_service/vertextoservice/core/Choices")) (by decide) (by decide)))).other W14 (Or.inr (slot_ne (Or.inr (hw _ (List.mem_of_getElem? (i := 13) rfl))) (Or.inr (hw _ (List.mem_of_getElem? (i := 21) rfl))) (by decide) (t := .int) (t' := .int) (by decide) (by decide)))).other W17 (Or.inr (slot_ne (Or.inr (hw _ (List.mem_of_getElem? (i := 13) rfl))) (Or.inr (hw _ (List.mem_of_getElem? (i := 23) rfl))) (by decide) (t := .int) (t' := .int) (by decide) (by decide))))
  refine fin (v := none) X17 (fun _ => rfl) ?_ (by decide) (by decide) (fun fs hr => X17.returnOut hx hret (hb hby d2_37) hr)
  show Q2_22 Z o1 i1 i2 h0 n0 (none) T17.heap _
  rw [e17]
  exact ⟨rfl, N17, K17, f18, f19, F17, f20, f21, f22⟩
theorem ef_1_21 (m : MethodId) (x0 : Int32) (x1 : Int32) : entryFrame m #[(.int x0), (.int x1)] 2 = mkF m 0 #[.val (.int x0), .val (.int x1)] [] := by first | (simp [entryFrame, mkF, argsToLocals, Value.category]; done) | rfl
def Q1_21 (Z : State) (i1 : Int32) (i2 : Int32) (h0 : Heap) (n0 : Nat) (v : Option Value) (h : Heap) (L : List Loc) : Prop := ∃ (b1 : Addr), v = some (.ref b1) ∧ Fr n0 L ∧ Keep h0 h [] ∧ h0.size ≤ b1 ∧ Exa Z h b1 "com/example/vertex_to_service/vertextoservice/core/Choices" ∧ Fld Z h b1 "com/example/vertex_to_service/vertextoservice/core/Choices" "candidate" "I" (.int i2) ∧ Fld Z h b1 "com/example/vertex_to_service/vertextoservice/core/Choices" "first" "Lcom/example/vertex_to_service/vertextoservice/core/Choices;" .null ∧ Fld Z h b1 "com/example/vertex_to_service/vertextoservice/core/Choices" "high" "I" (.int i1) ∧ Fld Z h b1 "com/example/vertex_to_service/vertextoservice/core/Choices" "low" "I" (.int i1) ∧ Fld Z h b1 "com/example/vertex_to_service/vertextoservice/core/Choices" "second" "Lcom/example/vertex_to_service/vertextoservice/core/Choices;" .null ∧ Fld Z h b1 "com/example/vertex_to_service/vertextoservice/core/Choices" "vertex" "I" (.int i1)
set_option maxRecDepth 65536 in
set_option maxHeartbeats 40000000 in
theorem rm1_21 (l : Launch) (Z : State) (a0 : Array Value) (hw : ∀ d ∈ tables_1, d.before a0 Z = true) (ws : List Jvm.Cond) (i1 : Int32) (i2 : Int32) (h0 : Heap) (n0 : Nat) (Z0 : n0 ≤ h0.size) (hy0 : ¬ (i1 < (0 : Int32)))  :
    MetFree l (⟨"com/example/vertex_to_service/vertextoservice/core/Choices", "of", "(II)Lcom/example/vertex_to_service/vertextoservice/core/Choices;"⟩ : MethodName) (head1 (Jvm.Cond.code (⟨"com/example/vertex_to_service/vertextoservice/core/Choices", "of", "(II)Lcom/example/vertex_to_service/vertextoservice/core/Choices;"⟩ : MethodName) prog_10_method_2_code 2 (some (.object "com/example/vertex_to_service/vertextoservice/core/Choices")) :: ws) ({ frames := 2, cells := 1, slots := 6, locals := 31 } : Room)) (fun a U => a = #[(.int i1), (.int i2)] ∧ Z.Warmed39 U.vm ∧ U.heap = h0) (fun _ _ _ _ _ => True) (fun _ U o U' => ∃ v L, o = .returned v ∧ Q1_21 Z i1 i2 h0 n0 v U'.heap L ∧ FrameEnd U o U' L ({ frames := 2, cells := 1, slots := 6, locals := 31 } : Room).cells ({ frames := 2, cells := 1, slots := 6, locals := 31 } : Room).slots) := by
  refine own_body (plainFor_of_name pn_1) ?_
  intro p e s m below meth c s₁ G hx hby hml hZ hown hnm hret X0 e0 step fin
  replace hown : s.vm.findClass "com/example/vertex_to_service/vertextoservice/core/Choices" = some m.cls := hown
  replace hnm : meth.name = "of" := hnm
  replace hret : meth.sig.returnType = some (.object "com/example/vertex_to_service/vertextoservice/core/Choices") := hret
  replace hml : c.maxLocals = 2 := hml
  have N0 := Fr.nil n0
  refine step (s₁.setTop (mkF m 0 #[.val (.int i1), .val (.int i2)] [])) (fun t k => castTop (ef_1_21 m i1 i2) k) ?_
  obtain ⟨T1, h1, X1, e1, E1, A1, D1, -, st1⟩ := newO X0 hx hZ hown (hw _ (List.mem_of_getElem? (i := 4) rfl)) (hw _ (List.mem_of_getElem? (i := 5) rfl)) (hw _ (List.mem_of_getElem? (i := 2) rfl)) e0 (g := (mkF m 0 #[.val (.int i1), .val (.int i2)] [])) rfl (hb hby d1_0) (by decide) (by decide)
  obtain ⟨b1, g1⟩ : ∃ z, z = h0.size := ⟨_, rfl⟩
  rw [← g1] at A1 D1 st1
  have gn_b1 : n0 ≤ b1 := Nat.le_trans Z0 (Nat.le_of_eq g1.symm)
  have sz_b1 : h0.size ≤ b1 := Nat.le_of_eq g1.symm
  have K1 : Keep h0 h1 [] := (Keep.refl h0 []).ext E1
  have F_vertex_b1 : Fld Z h1 b1 "com/example/vertex_to_service/vertextoservice/core/Choices" "vertex" "I" (.int (0 : Int32)) := D1 (Or.inr (hw _ (List.mem_of_getElem? (i := 13) rfl))) (ty := .int) (by decide)
  have F_candidate_b1 : Fld Z h1 b1 "com/example/vertex_to_service/vertextoservice/core/Choices" "candidate" "I" (.int (0 : Int32)) := D1 (Or.inr (hw _ (List.mem_of_getElem? (i := 15) rfl))) (ty := .int) (by decide)
  have F_first_b1 : Fld Z h1 b1 "com/example/vertex_to_service/vertextoservice/core/Choices" "first" "Lcom/example/vertex_to_service/vertextoservice/core/Choices;" .null := D1 (Or.inr (hw _ (List.mem_of_getElem? (i := 17) rfl))) (ty := (.object "com/example/vertex_to_service/vertextoservice/core/Choices")) (by decide)
  have F_second_b1 : Fld Z h1 b1 "com/example/vertex_to_service/vertextoservice/core/Choices" "second" "Lcom/example/vertex_to_service/vertextoservice/core/Choices;" .null := D1 (Or.inr (hw _ (List.mem_of_getElem? (i := 19) rfl))) (ty := (.object "com/example/vertex_to_service/vertextoservice/core/Choices")) (by decide)
  have F_low_b1 : Fld Z h1 b1 "com/example/vertex_to_service/vertextoservice/core/Choices" "low" "I" (.int (0 : Int32)) := D1 (Or.inr (hw _ (List.mem_of_getElem? (i := 21) rfl))) (ty := .int) (by decide)
  have F_high_b1 : Fld Z h1 b1 "com/example/vertex_to_service/vertextoservice/core/Choices" "high" "I" (.int (0 : Int32)) := D1 (Or.inr (hw _ (List.mem_of_getElem? (i := 23) rfl))) (ty := .int) (by decide)
  refine step (T1.setTop (mkF m 3 #[.val (.int i1), .val (.int i2)] [(.ref b1)])) (fun t k => st1 t k) ?_
  refine step (T1.setTop (mkF m 4 #[.val (.int i1), .val (.int i2)] [(.ref b1), (.ref b1)])) (fun t k => XS.dup X1.here hx rfl (hb hby d1_3) rfl rfl k) ?_
  refine step (T1.setTop (mkF m 5 #[.val (.int i1), .val (.int i2)] [(.int i1), (.ref b1), (.ref b1)])) (fun t k => XS.iloadN X1.here hx rfl (hb hby d1_4) rfl k) ?_
  refine step (T1.setTop (mkF m 6 #[.val (.int i1), .val (.int i2)] [(.int i2), (.int i1), (.ref b1), (.ref b1)])) (fun t k => XS.iloadN X1.here hx rfl (hb hby d1_5) rfl k) ?_
  refine step (T1.setTop (mkF m 7 #[.val (.int i1), .val (.int i2)] [.null, (.int i2), (.int i1), (.ref b1), (.ref b1)])) (fun t k => XS.aconstNull X1.here hx rfl (hb hby d1_6) k) ?_
  refine step (T1.setTop (mkF m 8 #[.val (.int i1), .val (.int i2)] [.null, .null, (.int i2), (.int i1), (.ref b1), (.ref b1)])) (fun t k => XS.aconstNull X1.here hx rfl (hb hby d1_7) k) ?_
  refine step (T1.setTop (mkF m 9 #[.val (.int i1), .val (.int i2)] [(.int i1), .null, .null, (.int i2), (.int i1), (.ref b1), (.ref b1)])) (fun t k => XS.iloadN X1.here hx rfl (hb hby d1_8) rfl k) ?_
  refine step (T1.setTop (mkF m 10 #[.val (.int i1), .val (.int i2)] [(.int i1), (.int i1), .null, .null, (.int i2), (.int i1), (.ref b1), (.ref b1)])) (fun t k => XS.iloadN X1.here hx rfl (hb hby d1_9) rfl k) ?_
  obtain ⟨_, _, ⟨T2, L2, k2, n2⟩, -, X2, ⟨Lc2, hQ2, l2, y2, z2⟩, st2⟩ := X1.specialBack hx (y := (⟨"com/example/vertex_to_service/vertextoservice/core/Choices", "<init>", "(IILcom/example/vertex_to_service/vertextoservice/core/Choices;Lcom/example/vertex_to_service/vertextoservice/core/Choices;II)V"⟩ : MethodName)) rfl hown (mvT hZ (hw _ (List.mem_of_getElem? (i := 6) rfl))) (mvT hZ (hw _ (List.mem_of_getElem? (i := 7) rfl))) (mvT hZ (hw _ (List.mem_of_getElem? (i := 8) rfl))) (by decide) (backOf (W := 1) (rm2_22 l Z a0 hw [] b1 i1 i2 h1 n0 (Nat.le_trans Z0 K1.1) A1 F_candidate_b1 F_first_b1 F_high_b1 F_low_b1 F_second_b1 F_vertex_b1 gn_b1 hy0) hZ (hw _ (List.mem_of_getElem? (i := 8) rfl)) (hw _ (List.mem_of_getElem? (i := 2) rfl)) (by decide) (by decide)) (g := (mkF m 10 #[.val (.int i1), .val (.int i2)] [(.int i1), (.int i1), .null, .null, (.int i2), (.int i1), (.ref b1), (.ref b1)])) rfl (by rw [hml]; rfl) (Steps.refl _) (a := b1) (argsL := [(.int i1), (.int i2), .null, .null, (.int i1), (.int i1)]) (rest := [(.ref b1)]) (lenOf pd_4 rfl) rfl (by show 2 * 0 + _ ≤ _; exact Nat.le_of_eq rfl) (hb hby d1_10) (fun _ _ => ⟨rfl, e1, (by decide : 1 + 0 ≤ _), (by decide : 6 + 0 ≤ _)⟩)
  dsimp only [Pt.U, Pt.locs, Pt.cells, Pt.slots] at X2 l2 y2 z2 st2 hQ2
  subst l2 y2 z2
  obtain ⟨h2, e2⟩ : ∃ z, T2.heap = z := ⟨_, rfl⟩
  rw [e2] at hQ2
  obtain ⟨rfl, N2q, K2q, q0_2, q1_2, q2_2, q3_2, q4_2, q5_2⟩ := hQ2
  have N2 := Fr.app N0 N2q
  have K2 : Keep h0 h2 [] := K1.trans K2q (allS (Or.inr sz_b1) all0)
  refine step (T2.setTop (mkF m 13 #[.val (.int i1), .val (.int i2)] [(.ref b1)])) (fun t k => st2.trans k) ?_
  have f3 := (A1.keep K2q)
  refine fin (v := some (.ref b1)) X2 (fun h => by cases h) ?_ (by decide) (by decide) (fun fs hr => X2.areturnOut hx rfl hret rfl (hb hby d1_13) hr)
  show Q1_21 Z i1 i2 h0 n0 (some (.ref b1)) T2.heap _
  rw [e2]
  exact ⟨b1, rfl, N2, K2, sz_b1, f3, q0_2, q1_2, q2_2, q3_2, q4_2, q5_2⟩
theorem d18_0 : decode prog_10_method_5_code 0 = .ok (.aload_n 0, 1) := by decide +kernel
theorem d18_1 : decode prog_10_method_5_code 1 = .ok (.getfield 26, 3) := by decide +kernel
theorem d18_4 : decode prog_10_method_5_code 4 = .ok (.ifCond .lt 25, 3) := by decide +kernel
theorem d18_7 : decode prog_10_method_5_code 7 = .ok (.aload_n 1, 1) := by decide +kernel
theorem d18_8 : decode prog_10_method_5_code 8 = .ok (.getfield 26, 3) := by decide +kernel
theorem d18_11 : decode prog_10_method_5_code 11 = .ok (.ifCond .lt 18, 3) := by decide +kernel
theorem d18_14 : decode prog_10_method_5_code 14 = .ok (.aload_n 0, 1) := by decide +kernel
theorem d18_15 : decode prog_10_method_5_code 15 = .ok (.getfield 26, 3) := by decide +kernel
theorem d18_18 : decode prog_10_method_5_code 18 = .ok (.aload_n 1, 1) := by decide +kernel
theorem d18_19 : decode prog_10_method_5_code 19 = .ok (.getfield 23, 3) := by decide +kernel
theorem d18_22 : decode prog_10_method_5_code 22 = .ok (.if_icmp .ge 7, 3) := by decide +kernel
theorem d18_25 : decode prog_10_method_5_code 25 = .ok (.iconst 1, 1) := by decide +kernel
theorem d18_26 : decode prog_10_method_5_code 26 = .ok (.goto 4, 3) := by decide +kernel
theorem d18_29 : decode prog_10_method_5_code 29 = .ok (.iconst 0, 1) := by decide +kernel
theorem d18_30 : decode prog_10_method_5_code 30 = .ok (.ireturn, 1) := by decide +kernel
theorem ef_18_23 (m : MethodId) (x0 : Addr) (x1 : Addr) : entryFrame m #[(.ref x0), (.ref x1)] 2 = mkF m 0 #[.val (.ref x0), .val (.ref x1)] [] := by first | (simp [entryFrame, mkF, argsToLocals, Value.category]; done) | rfl
def Q18_23 (Z : State) (o1 : Addr) (o2 : Addr) (i1 : Int32) (i2 : Int32) (h0 : Heap) (n0 : Nat) (v : Option Value) (h : Heap) (L : List Loc) : Prop := ∃ (z30_7 : Int32), v = some (.int z30_7) ∧ Fr n0 L ∧ h = h0 ∧ z30_7 = (if i1 < i2 then (1 : Int32) else (0 : Int32))
set_option maxRecDepth 65536 in
set_option maxHeartbeats 40000000 in
theorem rm18_23 (l : Launch) (Z : State) (a0 : Array Value) (hw : ∀ d ∈ tables_1, d.before a0 Z = true) (ws : List Jvm.Cond) (o1 : Addr) (o2 : Addr) (i1 : Int32) (i2 : Int32) (h0 : Heap) (n0 : Nat) (Z0 : n0 ≤ h0.size) (Pm0 : Exa Z h0 o1 "com/example/vertex_to_service/vertextoservice/core/Choices") (Pm1 : Fld Z h0 o1 "com/example/vertex_to_service/vertextoservice/core/Choices" "high" "I" (.int i1)) (Pm2 : Fld Z h0 o1 "com/example/vertex_to_service/vertextoservice/core/Choices" "low" "I" (.int i1)) (Pm3 : Exa Z h0 o2 "com/example/vertex_to_service/vertextoservice/core/Choices") (Pm4 : Fld Z h0 o2 "com/example/vertex_to_service/vertextoservice/core/Choices" "high" "I" (.int i2)) (Pm5 : Fld Z h0 o2 "com/example/vertex_to_service/vertextoservice/core/Choices" "low" "I" (.int i2)) (gn_o1 : n0 ≤ o1) (ne_o1_o2 : o1 ≠ o2) (gn_o2 : n0 ≤ o2) (hy9 : ¬ (i1 < (0 : Int32))) (hy10 : ¬ (i2 < (0 : Int32)))  :
    MetFree l (⟨"com/example/vertex_to_service/vertextoservice/core/Choices", "before", "(Lcom/example/vertex_to_service/vertextoservice/core/Choices;)Z"⟩ : MethodName) (head1 (Jvm.Cond.code (⟨"com/example/vertex_to_service/vertextoservice/core/Choices", "before", "(Lcom/example/vertex_to_service/vertextoservice/core/Choices;)Z"⟩ : MethodName) prog_10_method_5_code 2 (some .boolean) :: ws) ({ frames := 0, cells := 0, slots := 0, locals := 0 } : Room)) (fun a U => a = #[(.ref o1), (.ref o2)] ∧ Z.Warmed39 U.vm ∧ U.heap = h0) (fun _ _ _ _ _ => True) (fun _ U o U' => ∃ v L, o = .returned v ∧ Q18_23 Z o1 o2 i1 i2 h0 n0 v U'.heap L ∧ FrameEnd U o U' L ({ frames := 0, cells := 0, slots := 0, locals := 0 } : Room).cells ({ frames := 0, cells := 0, slots := 0, locals := 0 } : Room).slots) := by
  refine own_body (plainFor_of_name pn_1) ?_
  intro p e s m below meth c s₁ G hx hby hml hZ hown hnm hret X0 e0 step fin
  replace hown : s.vm.findClass "com/example/vertex_to_service/vertextoservice/core/Choices" = some m.cls := hown
  replace hnm : meth.name = "before" := hnm
  replace hret : meth.sig.returnType = some .boolean := hret
  replace hml : c.maxLocals = 2 := hml
  have N0 := Fr.nil n0
  refine step (s₁.setTop (mkF m 0 #[.val (.ref o1), .val (.ref o2)] [])) (fun t k => castTop (ef_18_23 m o1 o2) k) ?_
  refine step (s₁.setTop (mkF m 1 #[.val (.ref o1), .val (.ref o2)] [(.ref o1)])) (fun t k => XS.aloadN X0.here hx rfl (hb hby d18_0) rfl rfl k) ?_
  obtain ⟨T1, X1, e1, st1⟩ := getF X0 hx hZ hown (host := "") (Or.inl (hw _ (List.mem_of_getElem? (i := 22) rfl))) Via.refl e0 Pm1 (g := (mkF m 1 #[.val (.ref o1), .val (.ref o2)] [(.ref o1)])) rfl rfl (hb hby d18_1)
  refine step (T1.setTop (mkF m 4 #[.val (.ref o1), .val (.ref o2)] [(.int i1)])) (fun t k => st1 t k) ?_
  have hc4_2 : ¬ (i1 < (0 : Int32)) := hy9
  refine step (T1.setTop (mkF m 7 #[.val (.ref o1), .val (.ref o2)] [])) (fun t k => XS.ifNo X1.here hx rfl (hb hby d18_4) rfl ((if0 _ _).trans (flt hc4_2).1) k) ?_
  refine step (T1.setTop (mkF m 8 #[.val (.ref o1), .val (.ref o2)] [(.ref o2)])) (fun t k => XS.aloadN X1.here hx rfl (hb hby d18_7) rfl rfl k) ?_
  obtain ⟨T3, X3, e3, st3⟩ := getF X1 hx hZ hown (host := "") (Or.inl (hw _ (List.mem_of_getElem? (i := 22) rfl))) Via.refl e1 Pm4 (g := (mkF m 8 #[.val (.ref o1), .val (.ref o2)] [(.ref o2)])) rfl rfl (hb hby d18_8)
  refine step (T3.setTop (mkF m 11 #[.val (.ref o1), .val (.ref o2)] [(.int i2)])) (fun t k => st3 t k) ?_
  have hc11_4 : ¬ (i2 < (0 : Int32)) := hy10
  refine step (T3.setTop (mkF m 14 #[.val (.ref o1), .val (.ref o2)] [])) (fun t k => XS.ifNo X3.here hx rfl (hb hby d18_11) rfl ((if0 _ _).trans (flt hc11_4).1) k) ?_
  refine step (T3.setTop (mkF m 15 #[.val (.ref o1), .val (.ref o2)] [(.ref o1)])) (fun t k => XS.aloadN X3.here hx rfl (hb hby d18_14) rfl rfl k) ?_
  obtain ⟨T5, X5, e5, st5⟩ := getF X3 hx hZ hown (host := "") (Or.inl (hw _ (List.mem_of_getElem? (i := 22) rfl))) Via.refl e3 Pm1 (g := (mkF m 15 #[.val (.ref o1), .val (.ref o2)] [(.ref o1)])) rfl rfl (hb hby d18_15)
  refine step (T5.setTop (mkF m 18 #[.val (.ref o1), .val (.ref o2)] [(.int i1)])) (fun t k => st5 t k) ?_
  refine step (T5.setTop (mkF m 19 #[.val (.ref o1), .val (.ref o2)] [(.ref o2), (.int i1)])) (fun t k => XS.aloadN X5.here hx rfl (hb hby d18_18) rfl rfl k) ?_
  obtain ⟨T6, X6, e6, st6⟩ := getF X5 hx hZ hown (host := "") (Or.inl (hw _ (List.mem_of_getElem? (i := 20) rfl))) Via.refl e5 Pm5 (g := (mkF m 19 #[.val (.ref o1), .val (.ref o2)] [(.ref o2), (.int i1)])) rfl rfl (hb hby d18_19)
  refine step (T6.setTop (mkF m 22 #[.val (.ref o1), .val (.ref o2)] [(.int i2), (.int i1)])) (fun t k => st6 t k) ?_
  suffices J30_8 : ∀ (z30_7 : Int32), z30_7 = (if i1 < i2 then (1 : Int32) else (0 : Int32)) → G (T6.setTop (mkF m 30 #[.val (.ref o1), .val (.ref o2)] [(.int z30_7)])) by
    by_cases hc22_9 : i1 < i2
    · -- 22 True
      refine step (T6.setTop (mkF m 25 #[.val (.ref o1), .val (.ref o2)] [])) (fun t k => XS.icmpNo X6.here hx rfl (hb hby d18_22) rfl (tlt hc22_9).2.1 k) ?_
      refine step (T6.setTop (mkF m 26 #[.val (.ref o1), .val (.ref o2)] [(.int (1 : Int32))])) (fun t k => XS.iconst X6.here hx rfl (hb hby d18_25) k) ?_
      refine step (T6.setTop (mkF m 30 #[.val (.ref o1), .val (.ref o2)] [(.int (1 : Int32))])) (fun t k => XS.goto X6.here hx rfl (pc0 := 26) (pc' := 30) rfl (hb hby d18_26) (by decide) (by decide) k) ?_
      exact J30_8 _ (by simp only [if_pos hc22_9, if_true, if_false] <;> rfl)
    · -- 22 False
      refine step (T6.setTop (mkF m 29 #[.val (.ref o1), .val (.ref o2)] [])) (fun t k => XS.icmpYes X6.here hx rfl (pc0 := 22) (pc' := 29) rfl (hb hby d18_22) rfl (flt hc22_9).2.1 (by decide) (by decide) k) ?_
      refine step (T6.setTop (mkF m 30 #[.val (.ref o1), .val (.ref o2)] [(.int (0 : Int32))])) (fun t k => XS.iconst X6.here hx rfl (hb hby d18_29) k) ?_
      exact J30_8 _ (by simp only [if_neg hc22_9, if_true, if_false] <;> rfl)
  intro z30_7 hz30_7
  refine fin (v := some (.int (nar .boolean z30_7))) X6 (fun h => by cases h) ?_ (by decide) (by decide) (fun fs hr => retN X6 hx (t := .boolean) hret (by simp) (hb hby d18_30) hr)
  show Q18_23 Z o1 o2 i1 i2 h0 n0 (some (.int (nar .boolean z30_7))) T6.heap _
  rw [e6]
  exact ⟨z30_7, (congrArg (fun z => some (Value.int z)) (by rw [hz30_7]; (repeat' split) <;> rfl)), N0, rfl, hz30_7⟩
theorem own_plain23 (p0 : Int32) (p1 : Int32) (p2 : Int32) (p3 : Int32) (p4 : Int32) (pv : Int32) (qv : Int32) (z30_7_29 : Int32) (z178_30 : Int32) (z186_33 : Int32) (hpv : (p0 &&& (2147483647 : Int32)) = pv) (hqv : (p2 &&& (2147483647 : Int32)) = qv) (hz30_7_29 : z30_7_29 = (if pv < qv then (1 : Int32) else (0 : Int32))) (hz178_30 : z178_30 = (if pv < qv then (1 : Int32) else (0 : Int32))) (hz186_33 : z186_33 = (if z30_7_29 = z178_30 then (1 : Int32) else (0 : Int32))) : ¬ (z186_33 = (0 : Int32)) := by
  subst hz30_7_29 hz178_30 hz186_33
  split <;> decide
theorem ef_18_25 (m : MethodId) (x0 : Addr) (x1 : Addr) : entryFrame m #[(.ref x0), (.ref x1)] 2 = mkF m 0 #[.val (.ref x0), .val (.ref x1)] [] := by first | (simp [entryFrame, mkF, argsToLocals, Value.category]; done) | rfl
def Q18_25 (Z : State) (o1 : Addr) (o2 : Addr) (i1 : Int32) (i2 : Int32) (h0 : Heap) (n0 : Nat) (v : Option Value) (h : Heap) (L : List Loc) : Prop := ∃ (z30_7 : Int32), v = some (.int z30_7) ∧ Fr n0 L ∧ h = h0 ∧ z30_7 = (if i1 < i2 then (1 : Int32) else (0 : Int32))
set_option maxRecDepth 65536 in
set_option maxHeartbeats 40000000 in
theorem rm18_25 (l : Launch) (Z : State) (a0 : Array Value) (hw : ∀ d ∈ tables_1, d.before a0 Z = true) (ws : List Jvm.Cond) (o1 : Addr) (o2 : Addr) (i1 : Int32) (i2 : Int32) (h0 : Heap) (n0 : Nat) (Z0 : n0 ≤ h0.size) (Pm0 : Exa Z h0 o1 "com/example/vertex_to_service/vertextoservice/core/Choices") (Pm1 : Fld Z h0 o1 "com/example/vertex_to_service/vertextoservice/core/Choices" "high" "I" (.int i1)) (Pm2 : Fld Z h0 o1 "com/example/vertex_to_service/vertextoservice/core/Choices" "low" "I" (.int i1)) (Pm3 : Exa Z h0 o2 "com/example/vertex_to_service/vertextoservice/core/Choices") (Pm4 : Fld Z h0 o2 "com/example/vertex_to_service/vertextoservice/core/Choices" "high" "I" (.int i2)) (Pm5 : Fld Z h0 o2 "com/example/vertex_to_service/vertextoservice/core/Choices" "low" "I" (.int i2)) (gn_o1 : n0 ≤ o1) (ne_o1_o2 : o1 ≠ o2) (gn_o2 : n0 ≤ o2) (hy9 : ¬ (i2 < (0 : Int32))) (hy10 : ¬ (i1 < (0 : Int32)))  :
    MetFree l (⟨"com/example/vertex_to_service/vertextoservice/core/Choices", "before", "(Lcom/example/vertex_to_service/vertextoservice/core/Choices;)Z"⟩ : MethodName) (head1 (Jvm.Cond.code (⟨"com/example/vertex_to_service/vertextoservice/core/Choices", "before", "(Lcom/example/vertex_to_service/vertextoservice/core/Choices;)Z"⟩ : MethodName) prog_10_method_5_code 2 (some .boolean) :: ws) ({ frames := 0, cells := 0, slots := 0, locals := 0 } : Room)) (fun a U => a = #[(.ref o1), (.ref o2)] ∧ Z.Warmed39 U.vm ∧ U.heap = h0) (fun _ _ _ _ _ => True) (fun _ U o U' => ∃ v L, o = .returned v ∧ Q18_25 Z o1 o2 i1 i2 h0 n0 v U'.heap L ∧ FrameEnd U o U' L ({ frames := 0, cells := 0, slots := 0, locals := 0 } : Room).cells ({ frames := 0, cells := 0, slots := 0, locals := 0 } : Room).slots) := by
  refine own_body (plainFor_of_name pn_1) ?_
  intro p e s m below meth c s₁ G hx hby hml hZ hown hnm hret X0 e0 step fin
  replace hown : s.vm.findClass "com/example/vertex_to_service/vertextoservice/core/Choices" = some m.cls := hown
  replace hnm : meth.name = "before" := hnm
  replace hret : meth.sig.returnType = some .boolean := hret
  replace hml : c.maxLocals = 2 := hml
  have N0 := Fr.nil n0
  refine step (s₁.setTop (mkF m 0 #[.val (.ref o1), .val (.ref o2)] [])) (fun t k => castTop (ef_18_25 m o1 o2) k) ?_
  refine step (s₁.setTop (mkF m 1 #[.val (.ref o1), .val (.ref o2)] [(.ref o1)])) (fun t k => XS.aloadN X0.here hx rfl (hb hby d18_0) rfl rfl k) ?_
  obtain ⟨T1, X1, e1, st1⟩ := getF X0 hx hZ hown (host := "") (Or.inl (hw _ (List.mem_of_getElem? (i := 22) rfl))) Via.refl e0 Pm1 (g := (mkF m 1 #[.val (.ref o1), .val (.ref o2)] [(.ref o1)])) rfl rfl (hb hby d18_1)
  refine step (T1.setTop (mkF m 4 #[.val (.ref o1), .val (.ref o2)] [(.int i1)])) (fun t k => st1 t k) ?_
  have hc4_2 : ¬ (i1 < (0 : Int32)) := hy10
  refine step (T1.setTop (mkF m 7 #[.val (.ref o1), .val (.ref o2)] [])) (fun t k => XS.ifNo X1.here hx rfl (hb hby d18_4) rfl ((if0 _ _).trans (flt hc4_2).1) k) ?_
  refine step (T1.setTop (mkF m 8 #[.val (.ref o1), .val (.ref o2)] [(.ref o2)])) (fun t k => XS.aloadN X1.here hx rfl (hb hby d18_7) rfl rfl k) ?_
  obtain ⟨T3, X3, e3, st3⟩ := getF X1 hx hZ hown (host := "") (Or.inl (hw _ (List.mem_of_getElem? (i := 22) rfl))) Via.refl e1 Pm4 (g := (mkF m 8 #[.val (.ref o1), .val (.ref o2)] [(.ref o2)])) rfl rfl (hb hby d18_8)
  refine step (T3.setTop (mkF m 11 #[.val (.ref o1), .val (.ref o2)] [(.int i2)])) (fun t k => st3 t k) ?_
  have hc11_4 : ¬ (i2 < (0 : Int32)) := hy9
  refine step (T3.setTop (mkF m 14 #[.val (.ref o1), .val (.ref o2)] [])) (fun t k => XS.ifNo X3.here hx rfl (hb hby d18_11) rfl ((if0 _ _).trans (flt hc11_4).1) k) ?_
  refine step (T3.setTop (mkF m 15 #[.val (.ref o1), .val (.ref o2)] [(.ref o1)])) (fun t k => XS.aloadN X3.here hx rfl (hb hby d18_14) rfl rfl k) ?_
  obtain ⟨T5, X5, e5, st5⟩ := getF X3 hx hZ hown (host := "") (Or.inl (hw _ (List.mem_of_getElem? (i := 22) rfl))) Via.refl e3 Pm1 (g := (mkF m 15 #[.val (.ref o1), .val (.ref o2)] [(.ref o1)])) rfl rfl (hb hby d18_15)
  refine step (T5.setTop (mkF m 18 #[.val (.ref o1), .val (.ref o2)] [(.int i1)])) (fun t k => st5 t k) ?_
  refine step (T5.setTop (mkF m 19 #[.val (.ref o1), .val (.ref o2)] [(.ref o2), (.int i1)])) (fun t k => XS.aloadN X5.here hx rfl (hb hby d18_18) rfl rfl k) ?_
  obtain ⟨T6, X6, e6, st6⟩ := getF X5 hx hZ hown (host := "") (Or.inl (hw _ (List.mem_of_getElem? (i := 20) rfl))) Via.refl e5 Pm5 (g := (mkF m 19 #[.val (.ref o1), .val (.ref o2)] [(.ref o2), (.int i1)])) rfl rfl (hb hby d18_19)
  refine step (T6.setTop (mkF m 22 #[.val (.ref o1), .val (.ref o2)] [(.int i2), (.int i1)])) (fun t k => st6 t k) ?_
  suffices J30_8 : ∀ (z30_7 : Int32), z30_7 = (if i1 < i2 then (1 : Int32) else (0 : Int32)) → G (T6.setTop (mkF m 30 #[.val (.ref o1), .val (.ref o2)] [(.int z30_7)])) by
    by_cases hc22_9 : i1 < i2
    · -- 22 True
      refine step (T6.setTop (mkF m 25 #[.val (.ref o1), .val (.ref o2)] [])) (fun t k => XS.icmpNo X6.here hx rfl (hb hby d18_22) rfl (tlt hc22_9).2.1 k) ?_
      refine step (T6.setTop (mkF m 26 #[.val (.ref o1), .val (.ref o2)] [(.int (1 : Int32))])) (fun t k => XS.iconst X6.here hx rfl (hb hby d18_25) k) ?_
      refine step (T6.setTop (mkF m 30 #[.val (.ref o1), .val (.ref o2)] [(.int (1 : Int32))])) (fun t k => XS.goto X6.here hx rfl (pc0 := 26) (pc' := 30) rfl (hb hby d18_26) (by decide) (by decide) k) ?_
      exact J30_8 _ (by simp only [if_pos hc22_9, if_true, if_false] <;> rfl)
    · -- 22 False
      refine step (T6.setTop (mkF m 29 #[.val (.ref o1), .val (.ref o2)] [])) (fun t k => XS.icmpYes X6.here hx rfl (pc0 := 22) (pc' := 29) rfl (hb hby d18_22) rfl (flt hc22_9).2.1 (by decide) (by decide) k) ?_
      refine step (T6.setTop (mkF m 30 #[.val (.ref o1), .val (.ref o2)] [(.int (0 : Int32))])) (fun t k => XS.iconst X6.here hx rfl (hb hby d18_29) k) ?_
      exact J30_8 _ (by simp only [if_neg hc22_9, if_true, if_false] <;> rfl)
  intro z30_7 hz30_7
  refine fin (v := some (.int (nar .boolean z30_7))) X6 (fun h => by cases h) ?_ (by decide) (by decide) (fun fs hr => retN X6 hx (t := .boolean) hret (by simp) (hb hby d18_30) hr)
  show Q18_25 Z o1 o2 i1 i2 h0 n0 (some (.int (nar .boolean z30_7))) T6.heap _
  rw [e6]
  exact ⟨z30_7, (congrArg (fun z => some (Value.int z)) (by rw [hz30_7]; (repeat' split) <;> rfl)), N0, rfl, hz30_7⟩
theorem own_plain25 (p0 : Int32) (p1 : Int32) (p2 : Int32) (p3 : Int32) (p4 : Int32) (pv : Int32) (qv : Int32) (z30_7_37 : Int32) (z212_38 : Int32) (z220_41 : Int32) (hpv : (p0 &&& (2147483647 : Int32)) = pv) (hqv : (p2 &&& (2147483647 : Int32)) = qv) (hz30_7_37 : z30_7_37 = (if qv < pv then (1 : Int32) else (0 : Int32))) (hz212_38 : z212_38 = (if qv < pv then (1 : Int32) else (0 : Int32))) (hz220_41 : z220_41 = (if z30_7_37 = z212_38 then (1 : Int32) else (0 : Int32))) : ¬ (z220_41 = (0 : Int32)) := by
  subst hz30_7_37 hz212_38 hz220_41
  split <;> decide
theorem ef_18_27 (m : MethodId) (x0 : Addr) (x1 : Addr) : entryFrame m #[(.ref x0), (.ref x1)] 2 = mkF m 0 #[.val (.ref x0), .val (.ref x1)] [] := by first | (simp [entryFrame, mkF, argsToLocals, Value.category]; done) | rfl
def Q18_27 (Z : State) (o1 : Addr) (i1 : Int32) (h0 : Heap) (n0 : Nat) (v : Option Value) (h : Heap) (L : List Loc) : Prop := v = some (.int (0 : Int32)) ∧ Fr n0 L ∧ h = h0
set_option maxRecDepth 65536 in
set_option maxHeartbeats 40000000 in
theorem rm18_27 (l : Launch) (Z : State) (a0 : Array Value) (hw : ∀ d ∈ tables_1, d.before a0 Z = true) (ws : List Jvm.Cond) (o1 : Addr) (i1 : Int32) (h0 : Heap) (n0 : Nat) (Z0 : n0 ≤ h0.size) (Pm0 : Exa Z h0 o1 "com/example/vertex_to_service/vertextoservice/core/Choices") (Pm1 : Fld Z h0 o1 "com/example/vertex_to_service/vertextoservice/core/Choices" "high" "I" (.int i1)) (Pm2 : Fld Z h0 o1 "com/example/vertex_to_service/vertextoservice/core/Choices" "low" "I" (.int i1)) (gn_o1 : n0 ≤ o1) (hy4 : ¬ (i1 < (0 : Int32)))  :
    MetFree l (⟨"com/example/vertex_to_service/vertextoservice/core/Choices", "before", "(Lcom/example/vertex_to_service/vertextoservice/core/Choices;)Z"⟩ : MethodName) (head1 (Jvm.Cond.code (⟨"com/example/vertex_to_service/vertextoservice/core/Choices", "before", "(Lcom/example/vertex_to_service/vertextoservice/core/Choices;)Z"⟩ : MethodName) prog_10_method_5_code 2 (some .boolean) :: ws) ({ frames := 0, cells := 0, slots := 0, locals := 0 } : Room)) (fun a U => a = #[(.ref o1), (.ref o1)] ∧ Z.Warmed39 U.vm ∧ U.heap = h0) (fun _ _ _ _ _ => True) (fun _ U o U' => ∃ v L, o = .returned v ∧ Q18_27 Z o1 i1 h0 n0 v U'.heap L ∧ FrameEnd U o U' L ({ frames := 0, cells := 0, slots := 0, locals := 0 } : Room).cells ({ frames := 0, cells := 0, slots := 0, locals := 0 } : Room).slots) := by
  refine own_body (plainFor_of_name pn_1) ?_
  intro p e s m below meth c s₁ G hx hby hml hZ hown hnm hret X0 e0 step fin
  replace hown : s.vm.findClass "com/example/vertex_to_service/vertextoservice/core/Choices" = some m.cls := hown
  replace hnm : meth.name = "before" := hnm
  replace hret : meth.sig.returnType = some .boolean := hret
  replace hml : c.maxLocals = 2 := hml
  have N0 := Fr.nil n0
  refine step (s₁.setTop (mkF m 0 #[.val (.ref o1), .val (.ref o1)] [])) (fun t k => castTop (ef_18_27 m o1 o1) k) ?_
  refine step (s₁.setTop (mkF m 1 #[.val (.ref o1), .val (.ref o1)] [(.ref o1)])) (fun t k => XS.aloadN X0.here hx rfl (hb hby d18_0) rfl rfl k) ?_
  obtain ⟨T1, X1, e1, st1⟩ := getF X0 hx hZ hown (host := "") (Or.inl (hw _ (List.mem_of_getElem? (i := 22) rfl))) Via.refl e0 Pm1 (g := (mkF m 1 #[.val (.ref o1), .val (.ref o1)] [(.ref o1)])) rfl rfl (hb hby d18_1)
  refine step (T1.setTop (mkF m 4 #[.val (.ref o1), .val (.ref o1)] [(.int i1)])) (fun t k => st1 t k) ?_
  have hc4_2 : ¬ (i1 < (0 : Int32)) := hy4
  refine step (T1.setTop (mkF m 7 #[.val (.ref o1), .val (.ref o1)] [])) (fun t k => XS.ifNo X1.here hx rfl (hb hby d18_4) rfl ((if0 _ _).trans (flt hc4_2).1) k) ?_
  refine step (T1.setTop (mkF m 8 #[.val (.ref o1), .val (.ref o1)] [(.ref o1)])) (fun t k => XS.aloadN X1.here hx rfl (hb hby d18_7) rfl rfl k) ?_
  obtain ⟨T3, X3, e3, st3⟩ := getF X1 hx hZ hown (host := "") (Or.inl (hw _ (List.mem_of_getElem? (i := 22) rfl))) Via.refl e1 Pm1 (g := (mkF m 8 #[.val (.ref o1), .val (.ref o1)] [(.ref o1)])) rfl rfl (hb hby d18_8)
  refine step (T3.setTop (mkF m 11 #[.val (.ref o1), .val (.ref o1)] [(.int i1)])) (fun t k => st3 t k) ?_
  have hc11_4 : ¬ (i1 < (0 : Int32)) := hy4
  refine step (T3.setTop (mkF m 14 #[.val (.ref o1), .val (.ref o1)] [])) (fun t k => XS.ifNo X3.here hx rfl (hb hby d18_11) rfl ((if0 _ _).trans (flt hc11_4).1) k) ?_
  refine step (T3.setTop (mkF m 15 #[.val (.ref o1), .val (.ref o1)] [(.ref o1)])) (fun t k => XS.aloadN X3.here hx rfl (hb hby d18_14) rfl rfl k) ?_
  obtain ⟨T5, X5, e5, st5⟩ := getF X3 hx hZ hown (host := "") (Or.inl (hw _ (List.mem_of_getElem? (i := 22) rfl))) Via.refl e3 Pm1 (g := (mkF m 15 #[.val (.ref o1), .val (.ref o1)] [(.ref o1)])) rfl rfl (hb hby d18_15)
  refine step (T5.setTop (mkF m 18 #[.val (.ref o1), .val (.ref o1)] [(.int i1)])) (fun t k => st5 t k) ?_
  refine step (T5.setTop (mkF m 19 #[.val (.ref o1), .val (.ref o1)] [(.ref o1), (.int i1)])) (fun t k => XS.aloadN X5.here hx rfl (hb hby d18_18) rfl rfl k) ?_
  obtain ⟨T6, X6, e6, st6⟩ := getF X5 hx hZ hown (host := "") (Or.inl (hw _ (List.mem_of_getElem? (i := 20) rfl))) Via.refl e5 Pm2 (g := (mkF m 19 #[.val (.ref o1), .val (.ref o1)] [(.ref o1), (.int i1)])) rfl rfl (hb hby d18_19)
  refine step (T6.setTop (mkF m 22 #[.val (.ref o1), .val (.ref o1)] [(.int i1), (.int i1)])) (fun t k => st6 t k) ?_
  refine step (T6.setTop (mkF m 29 #[.val (.ref o1), .val (.ref o1)] [])) (fun t k => XS.icmpYes X6.here hx rfl (pc0 := 22) (pc' := 29) rfl (hb hby d18_22) rfl (flt (own_irr : ¬ (i1 < i1))).2.1 (by decide) (by decide) k) ?_
  refine step (T6.setTop (mkF m 30 #[.val (.ref o1), .val (.ref o1)] [(.int (0 : Int32))])) (fun t k => XS.iconst X6.here hx rfl (hb hby d18_29) k) ?_
  refine fin (v := some (.int (nar .boolean (0 : Int32)))) X6 (fun h => by cases h) ?_ (by decide) (by decide) (fun fs hr => retN X6 hx (t := .boolean) hret (by simp) (hb hby d18_30) hr)
  show Q18_27 Z o1 i1 h0 n0 (some (.int (nar .boolean (0 : Int32)))) T6.heap _
  rw [e6]
  exact ⟨rfl, N0, rfl⟩
theorem ef_2_29 (m : MethodId) (x0 : Addr) (x2 : Int32) : entryFrame m #[(.ref x0), (.int (1 : Int32)), (.int x2), .null, .null, (.int (1 : Int32)), (.int (1 : Int32))] 7 = mkF m 0 #[.val (.ref x0), .val (.int (1 : Int32)), .val (.int x2), .val .null, .val .null, .val (.int (1 : Int32)), .val (.int (1 : Int32))] [] := by first | (simp [entryFrame, mkF, argsToLocals, Value.category]; done) | rfl
def Q2_29 (Z : State) (o1 : Addr) (i1 : Int32) (h0 : Heap) (n0 : Nat) (v : Option Value) (h : Heap) (L : List Loc) : Prop := v = none ∧ Fr n0 L ∧ Keep h0 h [o1] ∧ Fld Z h o1 "com/example/vertex_to_service/vertextoservice/core/Choices" "candidate" "I" (.int i1) ∧ Fld Z h o1 "com/example/vertex_to_service/vertextoservice/core/Choices" "first" "Lcom/example/vertex_to_service/vertextoservice/core/Choices;" .null ∧ Fld Z h o1 "com/example/vertex_to_service/vertextoservice/core/Choices" "high" "I" (.int (1 : Int32)) ∧ Fld Z h o1 "com/example/vertex_to_service/vertextoservice/core/Choices" "low" "I" (.int (1 : Int32)) ∧ Fld Z h o1 "com/example/vertex_to_service/vertextoservice/core/Choices" "second" "Lcom/example/vertex_to_service/vertextoservice/core/Choices;" .null ∧ Fld Z h o1 "com/example/vertex_to_service/vertextoservice/core/Choices" "vertex" "I" (.int (1 : Int32))
set_option maxRecDepth 65536 in
set_option maxHeartbeats 40000000 in
theorem rm2_29 (l : Launch) (Z : State) (a0 : Array Value) (hw : ∀ d ∈ tables_1, d.before a0 Z = true) (ws : List Jvm.Cond) (o1 : Addr) (i1 : Int32) (h0 : Heap) (n0 : Nat) (Z0 : n0 ≤ h0.size) (Pm0 : Exa Z h0 o1 "com/example/vertex_to_service/vertextoservice/core/Choices") (Pm1 : Fld Z h0 o1 "com/example/vertex_to_service/vertextoservice/core/Choices" "candidate" "I" (.int (0 : Int32))) (Pm2 : Fld Z h0 o1 "com/example/vertex_to_service/vertextoservice/core/Choices" "first" "Lcom/example/vertex_to_service/vertextoservice/core/Choices;" .null) (Pm3 : Fld Z h0 o1 "com/example/vertex_to_service/vertextoservice/core/Choices" "high" "I" (.int (0 : Int32))) (Pm4 : Fld Z h0 o1 "com/example/vertex_to_service/vertextoservice/core/Choices" "low" "I" (.int (0 : Int32))) (Pm5 : Fld Z h0 o1 "com/example/vertex_to_service/vertextoservice/core/Choices" "second" "Lcom/example/vertex_to_service/vertextoservice/core/Choices;" .null) (Pm6 : Fld Z h0 o1 "com/example/vertex_to_service/vertextoservice/core/Choices" "vertex" "I" (.int (0 : Int32))) (gn_o1 : n0 ≤ o1)  :
    MetFree l (⟨"com/example/vertex_to_service/vertextoservice/core/Choices", "<init>", "(IILcom/example/vertex_to_service/vertextoservice/core/Choices;Lcom/example/vertex_to_service/vertextoservice/core/Choices;II)V"⟩ : MethodName) (head1 (Jvm.Cond.code (⟨"com/example/vertex_to_service/vertextoservice/core/Choices", "<init>", "(IILcom/example/vertex_to_service/vertextoservice/core/Choices;Lcom/example/vertex_to_service/vertextoservice/core/Choices;II)V"⟩ : MethodName) prog_10_method_1_code 7 none :: ws) ({ frames := 1, cells := 0, slots := 0, locals := 12 } : Room)) (fun a U => a = #[(.ref o1), (.int (1 : Int32)), (.int i1), .null, .null, (.int (1 : Int32)), (.int (1 : Int32))] ∧ Z.Warmed39 U.vm ∧ U.heap = h0) (fun _ _ _ _ _ => True) (fun _ U o U' => ∃ v L, o = .returned v ∧ Q2_29 Z o1 i1 h0 n0 v U'.heap L ∧ FrameEnd U o U' L ({ frames := 1, cells := 0, slots := 0, locals := 12 } : Room).cells ({ frames := 1, cells := 0, slots := 0, locals := 12 } : Room).slots) := by
  refine own_body (plainFor_of_name pn_1) ?_
  intro p e s m below meth c s₁ G hx hby hml hZ hown hnm hret X0 e0 step fin
  replace hown : s.vm.findClass "com/example/vertex_to_service/vertextoservice/core/Choices" = some m.cls := hown
  replace hnm : meth.name = "<init>" := hnm
  replace hret : meth.sig.returnType = none := hret
  replace hml : c.maxLocals = 7 := hml
  have N0 := Fr.nil n0
  refine step (s₁.setTop (mkF m 0 #[.val (.ref o1), .val (.int (1 : Int32)), .val (.int i1), .val .null, .val .null, .val (.int (1 : Int32)), .val (.int (1 : Int32))] [])) (fun t k => castTop (ef_2_29 m o1 i1) k) ?_
  refine step (s₁.setTop (mkF m 1 #[.val (.ref o1), .val (.int (1 : Int32)), .val (.int i1), .val .null, .val .null, .val (.int (1 : Int32)), .val (.int (1 : Int32))] [(.ref o1)])) (fun t k => XS.aloadN X0.here hx rfl (hb hby d2_0) rfl rfl k) ?_
  obtain ⟨T1, X1, e1, st1⟩ := initO X0 hx hZ hown (hw _ (List.mem_of_getElem? (i := 9) rfl)) (hw _ (List.mem_of_getElem? (i := 10) rfl)) (hw _ (List.mem_of_getElem? (i := 11) rfl)) e0 (g := (mkF m 1 #[.val (.ref o1), .val (.int (1 : Int32)), .val (.int i1), .val .null, .val .null, .val (.int (1 : Int32)), .val (.int (1 : Int32))] [(.ref o1)])) rfl (by rw [hml]; rfl) rfl (hb hby d2_1) (by decide) (W := 0) (by show 2 * 0 + _ ≤ _; exact Nat.le_of_eq rfl) (by decide)
  refine step (T1.setTop (mkF m 4 #[.val (.ref o1), .val (.int (1 : Int32)), .val (.int i1), .val .null, .val .null, .val (.int (1 : Int32)), .val (.int (1 : Int32))] [])) (fun t k => st1 t k) ?_
  refine step (T1.setTop (mkF m 5 #[.val (.ref o1), .val (.int (1 : Int32)), .val (.int i1), .val .null, .val .null, .val (.int (1 : Int32)), .val (.int (1 : Int32))] [(.ref o1)])) (fun t k => XS.aloadN X1.here hx rfl (hb hby d2_4) rfl rfl k) ?_
  refine step (T1.setTop (mkF m 6 #[.val (.ref o1), .val (.int (1 : Int32)), .val (.int i1), .val .null, .val .null, .val (.int (1 : Int32)), .val (.int (1 : Int32))] [(.int (1 : Int32)), (.ref o1)])) (fun t k => XS.iloadN X1.here hx rfl (hb hby d2_5) rfl k) ?_
  obtain ⟨T2, h2, X2, e2, W2, st2⟩ := putF X1 hx hZ hown (host := "") (Or.inl (hw _ (List.mem_of_getElem? (i := 12) rfl))) Via.refl e1 Pm6 Pm0 (Or.inr ⟨(hw _ (List.mem_of_getElem? (i := 13) rfl)), rfl, hnm⟩) (hw _ (List.mem_of_getElem? (i := 5) rfl)) (ty := .int) (by decide) rfl rfl (g := (mkF m 6 #[.val (.ref o1), .val (.int (1 : Int32)), .val (.int i1), .val .null, .val .null, .val (.int (1 : Int32)), .val (.int (1 : Int32))] [(.int (1 : Int32)), (.ref o1)])) rfl rfl (hb hby d2_6)
  have N2 := Fr.snoc X2 N0 gn_o1
  have K2 : Keep h0 h2 [o1] := (Keep.refl h0 [o1]).wr W2 (Or.inl (List.mem_of_getElem? (i := 0) rfl))
  have F2 := Pm6.same W2
  refine step (T2.setTop (mkF m 9 #[.val (.ref o1), .val (.int (1 : Int32)), .val (.int i1), .val .null, .val .null, .val (.int (1 : Int32)), .val (.int (1 : Int32))] [])) (fun t k => st2 t k) ?_
  refine step (T2.setTop (mkF m 10 #[.val (.ref o1), .val (.int (1 : Int32)), .val (.int i1), .val .null, .val .null, .val (.int (1 : Int32)), .val (.int (1 : Int32))] [(.ref o1)])) (fun t k => XS.aloadN X2.here hx rfl (hb hby d2_9) rfl rfl k) ?_
  refine step (T2.setTop (mkF m 11 #[.val (.ref o1), .val (.int (1 : Int32)), .val (.int i1), .val .null, .val .null, .val (.int (1 : Int32)), .val (.int (1 : Int32))] [(.int i1), (.ref o1)])) (fun t k => XS.iloadN X2.here hx rfl (hb hby d2_10) rfl k) ?_
  have f3 := (Pm0.wr W2)
  have f4 := (Pm1.other W2 (Or.inr (slot_ne (Or.inr (hw _ (List.mem_of_getElem? (i := 15) rfl))) (Or.inr (hw _ (List.mem_of_getElem? (i := 13) rfl))) (by decide) (t := .int) (t' := .int) (by decide) (by decide))))
  obtain ⟨T5, h5, X5, e5, W5, st5⟩ := putF X2 hx hZ hown (host := "") (Or.inl (hw _ (List.mem_of_getElem? (i := 14) rfl))) Via.refl e2 f4 f3 (Or.inr ⟨(hw _ (List.mem_of_getElem? (i := 15) rfl)), rfl, hnm⟩) (hw _ (List.mem_of_getElem? (i := 5) rfl)) (ty := .int) (by decide) rfl rfl (g := (mkF m 11 #[.val (.ref o1), .val (.int (1 : Int32)), .val (.int i1), .val .null, .val .null, .val (.int (1 : Int32)), .val (.int (1 : Int32))] [(.int i1), (.ref o1)])) rfl rfl (hb hby d2_11)
  have N5 := Fr.snoc X5 N2 gn_o1
  have K5 : Keep h0 h5 [o1] := K2.wr W5 (Or.inl (List.mem_of_getElem? (i := 0) rfl))
  have F5 := f4.same W5
  refine step (T5.setTop (mkF m 14 #[.val (.ref o1), .val (.int (1 : Int32)), .val (.int i1), .val .null, .val .null, .val (.int (1 : Int32)), .val (.int (1 : Int32))] [])) (fun t k => st5 t k) ?_
  refine step (T5.setTop (mkF m 15 #[.val (.ref o1), .val (.int (1 : Int32)), .val (.int i1), .val .null, .val .null, .val (.int (1 : Int32)), .val (.int (1 : Int32))] [(.ref o1)])) (fun t k => XS.aloadN X5.here hx rfl (hb hby d2_14) rfl rfl k) ?_
  refine step (T5.setTop (mkF m 16 #[.val (.ref o1), .val (.int (1 : Int32)), .val (.int i1), .val .null, .val .null, .val (.int (1 : Int32)), .val (.int (1 : Int32))] [.null, (.ref o1)])) (fun t k => XS.aloadN X5.here hx rfl (hb hby d2_15) rfl rfl k) ?_
  have f6 := (f3.wr W5)
  have f7 := ((Pm2.other W2 (Or.inr (slot_ne (Or.inr (hw _ (List.mem_of_getElem? (i := 17) rfl))) (Or.inr (hw _ (List.mem_of_getElem? (i := 13) rfl))) (by decide) (t := (.object "com/example/vertex_to_service/vertextoservice/core/Choices")) (t' := .int) (by decide) (by decide)))).other W5 (Or.inr (slot_ne (Or.inr (hw _ (List.mem_of_getElem? (i := 17) rfl))) (Or.inr (hw _ (List.mem_of_getElem? (i := 15) rfl))) (by decide) (t := (.object "com/example/vertex_to_service/vertextoservice/core/Choices")) (t' := .int) (by decide) (by decide))))
  obtain ⟨T8, h8, X8, e8, W8, st8⟩ := putF X5 hx hZ hown (host := "") (Or.inl (hw _ (List.mem_of_getElem? (i := 16) rfl))) Via.refl e5 f7 f6 (Or.inr ⟨(hw _ (List.mem_of_getElem? (i := 17) rfl)), rfl, hnm⟩) (hw _ (List.mem_of_getElem? (i := 5) rfl)) (ty := (.object "com/example/vertex_to_service/vertextoservice/core/Choices")) (by decide) rfl rfl (g := (mkF m 16 #[.val (.ref o1), .val (.int (1 : Int32)), .val (.int i1), .val .null, .val .null, .val (.int (1 : Int32)), .val (.int (1 : Int32))] [.null, (.ref o1)])) rfl rfl (hb hby d2_16)
  have N8 := Fr.snoc X8 N5 gn_o1
  have K8 : Keep h0 h8 [o1] := K5.wr W8 (Or.inl (List.mem_of_getElem? (i := 0) rfl))
  have F8 := f7.same W8
  refine step (T8.setTop (mkF m 19 #[.val (.ref o1), .val (.int (1 : Int32)), .val (.int i1), .val .null, .val .null, .val (.int (1 : Int32)), .val (.int (1 : Int32))] [])) (fun t k => st8 t k) ?_
  refine step (T8.setTop (mkF m 20 #[.val (.ref o1), .val (.int (1 : Int32)), .val (.int i1), .val .null, .val .null, .val (.int (1 : Int32)), .val (.int (1 : Int32))] [(.ref o1)])) (fun t k => XS.aloadN X8.here hx rfl (hb hby d2_19) rfl rfl k) ?_
  refine step (T8.setTop (mkF m 22 #[.val (.ref o1), .val (.int (1 : Int32)), .val (.int i1), .val .null, .val .null, .val (.int (1 : Int32)), .val (.int (1 : Int32))] [.null, (.ref o1)])) (fun t k => XS.aload X8.here hx rfl (hb hby d2_20) rfl rfl k) ?_
  have f9 := (f6.wr W8)
  have f10 := (((Pm5.other W2 (Or.inr (slot_ne (Or.inr (hw _ (List.mem_of_getElem? (i := 19) rfl))) (Or.inr (hw _ (List.mem_of_getElem? (i := 13) rfl))) (by decide) (t := (.object "com/example/vertex_to_service/vertextoservice/core/Choices")) (t' := .int) (by decide) (by decide)))).other W5 (Or.inr (slot_ne (Or.inr (hw _ (List.mem_of_getElem? (i := 19) rfl))) (Or.inr (hw _ (List.mem_of_getElem? (i := 15) rfl))) (by decide) (t := (.object "com/example/vertex_to_service/vertextoservice/core/Choices")) (t' := .int) (by decide) (by decide)))).other W8 (Or.inr (slot_ne (Or.inr (hw _ (List.mem_of_getElem? (i := 19) rfl))) (Or.inr (hw _ (List.mem_of_getElem? (i := 17) rfl))) (by decide) (t := (.object "com/example/vertex_to_service/vertextoservice/core/Choices")) (t' := (.object "com/example/vertex_to_service/vertextoservice/core/Choices")) (by decide) (by decide))))
  obtain ⟨T11, h11, X11, e11, W11, st11⟩ := putF X8 hx hZ hown (host := "") (Or.inl (hw _ (List.mem_of_getElem? (i := 18) rfl))) Via.refl e8 f10 f9 (Or.inr ⟨(hw _ (List.mem_of_getElem? (i := 19) rfl)), rfl, hnm⟩) (hw _ (List.mem_of_getElem? (i := 5) rfl)) (ty := (.object "com/example/vertex_to_service/vertextoservice/core/Choices")) (by decide) rfl rfl (g := (mkF m 22 #[.val (.ref o1), .val (.int (1 : Int32)), .val (.int i1), .val .null, .val .null, .val (.int (1 : Int32)), .val (.int (1 : Int32))] [.null, (.ref o1)])) rfl rfl (hb hby d2_22)
  have N11 := Fr.snoc X11 N8 gn_o1
  have K11 : Keep h0 h11 [o1] := K8.wr W11 (Or.inl (List.mem_of_getElem? (i := 0) rfl))
  have F11 := f10.same W11
  refine step (T11.setTop (mkF m 25 #[.val (.ref o1), .val (.int (1 : Int32)), .val (.int i1), .val .null, .val .null, .val (.int (1 : Int32)), .val (.int (1 : Int32))] [])) (fun t k => st11 t k) ?_
  refine step (T11.setTop (mkF m 26 #[.val (.ref o1), .val (.int (1 : Int32)), .val (.int i1), .val .null, .val .null, .val (.int (1 : Int32)), .val (.int (1 : Int32))] [(.ref o1)])) (fun t k => XS.aloadN X11.here hx rfl (hb hby d2_25) rfl rfl k) ?_
  refine step (T11.setTop (mkF m 28 #[.val (.ref o1), .val (.int (1 : Int32)), .val (.int i1), .val .null, .val .null, .val (.int (1 : Int32)), .val (.int (1 : Int32))] [(.int (1 : Int32)), (.ref o1)])) (fun t k => XS.iload X11.here hx rfl (hb hby d2_26) rfl k) ?_
  have f12 := (f9.wr W11)
  have f13 := ((((Pm4.other W2 (Or.inr (slot_ne (Or.inr (hw _ (List.mem_of_getElem? (i := 21) rfl))) (Or.inr (hw _ (List.mem_of_getElem? (i := 13) rfl))) (by decide) (t := .int) (t' := .int) (by decide) (by decide)))).other W5 (Or.inr (slot_ne (Or.inr (hw _ (List.mem_of_getElem? (i := 21) rfl))) (Or.inr (hw _ (List.mem_of_getElem? (i := 15) rfl))) (by decide) (t := .int) (t' := .int) (by decide) (by decide)))).other W8 (Or.inr (slot_ne (Or.inr (hw _ (List.mem_of_getElem? (i := 21) rfl))) (Or.inr (hw _ (List.mem_of_getElem? (i := 17) rfl))) (by decide) (t := .int) (t' := (.object "com/example/vertex_to_service/vertextoservice/core/Choices")) (by decide) (by decide)))).other W11 (Or.inr (slot_ne (Or.inr (hw _ (List.mem_of_getElem? (i := 21) rfl))) (Or.inr (hw _ (List.mem_of_getElem? (i := 19) rfl))) (by decide) (t := .int) (t' := (.object "com/example/vertex_to_service/vertextoservice/core/Choices")) (by decide) (by decide))))
  obtain ⟨T14, h14, X14, e14, W14, st14⟩ := putF X11 hx hZ hown (host := "") (Or.inl (hw _ (List.mem_of_getElem? (i := 20) rfl))) Via.refl e11 f13 f12 (Or.inr ⟨(hw _ (List.mem_of_getElem? (i := 21) rfl)), rfl, hnm⟩) (hw _ (List.mem_of_getElem? (i := 5) rfl)) (ty := .int) (by decide) rfl rfl (g := (mkF m 28 #[.val (.ref o1), .val (.int (1 : Int32)), .val (.int i1), .val .null, .val .null, .val (.int (1 : Int32)), .val (.int (1 : Int32))] [(.int (1 : Int32)), (.ref o1)])) rfl rfl (hb hby d2_28)
  have N14 := Fr.snoc X14 N11 gn_o1
  have K14 : Keep h0 h14 [o1] := K11.wr W14 (Or.inl (List.mem_of_getElem? (i := 0) rfl))
  have F14 := f13.same W14
  refine step (T14.setTop (mkF m 31 #[.val (.ref o1), .val (.int (1 : Int32)), .val (.int i1), .val .null, .val .null, .val (.int (1 : Int32)), .val (.int (1 : Int32))] [])) (fun t k => st14 t k) ?_
  refine step (T14.setTop (mkF m 32 #[.val (.ref o1), .val (.int (1 : Int32)), .val (.int i1), .val .null, .val .null, .val (.int (1 : Int32)), .val (.int (1 : Int32))] [(.ref o1)])) (fun t k => XS.aloadN X14.here hx rfl (hb hby d2_31) rfl rfl k) ?_
  refine step (T14.setTop (mkF m 34 #[.val (.ref o1), .val (.int (1 : Int32)), .val (.int i1), .val .null, .val .null, .val (.int (1 : Int32)), .val (.int (1 : Int32))] [(.int (1 : Int32)), (.ref o1)])) (fun t k => XS.iload X14.here hx rfl (hb hby d2_32) rfl k) ?_
  have f15 := (f12.wr W14)
  have f16 := (((((Pm3.other W2 (Or.inr (slot_ne (Or.inr (hw _ (List.mem_of_getElem? (i := 23) rfl))) (Or.inr (hw _ (List.mem_of_getElem? (i := 13) rfl))) (by decide) (t := .int) (t' := .int) (by decide) (by decide)))).other W5 (Or.inr (slot_ne (Or.inr (hw _ (List.mem_of_getElem? (i := 23) rfl))) (Or.inr (hw _ (List.mem_of_getElem? (i := 15) rfl))) (by decide) (t := .int) (t' := .int) (by decide) (by decide)))).other W8 (Or.inr (slot_ne (Or.inr (hw _ (List.mem_of_getElem? (i := 23) rfl))) (Or.inr (hw _ (List.mem_of_getElem? (i := 17) rfl))) (by decide) (t := .int) (t' := (.object "com/example/vertex_to_service/vertextoservice/core/Choices")) (by decide) (by decide)))).other W11 (Or.inr (slot_ne (Or.inr (hw _ (List.mem_of_getElem? (i := 23) rfl))) (Or.inr (hw _ (List.mem_of_getElem? (i := 19) rfl))) (by decide) (t := .int) (t' := (.object "com/example/vertex_to_service/vertextoservice/core/Choices")) (by decide) (by decide)))).other W14 (Or.inr (slot_ne (Or.inr (hw _ (List.mem_of_getElem? (i := 23) rfl))) (Or.inr (hw _ (List.mem_of_getElem? (i := 21) rfl))) (by decide) (t := .int) (t' := .int) (by decide) (by decide))))
  obtain ⟨T17, h17, X17, e17, W17, st17⟩ := putF X14 hx hZ hown (host := "") (Or.inl (hw _ (List.mem_of_getElem? (i := 22) rfl))) Via.refl e14 f16 f15 (Or.inr ⟨(hw _ (List.mem_of_getElem? (i := 23) rfl)), rfl, hnm⟩) (hw _ (List.mem_of_getElem? (i := 5) rfl)) (ty := .int) (by decide) rfl rfl (g := (mkF m 34 #[.val (.ref o1), .val (.int (1 : Int32)), .val (.int i1), .val .null, .val .null, .val (.int (1 : Int32)), .val (.int (1 : Int32))] [(.int (1 : Int32)), (.ref o1)])) rfl rfl (hb hby d2_34)
  have N17 := Fr.snoc X17 N14 gn_o1
  have K17 : Keep h0 h17 [o1] := K14.wr W17 (Or.inl (List.mem_of_getElem? (i := 0) rfl))
  have F17 := f16.same W17
  refine step (T17.setTop (mkF m 37 #[.val (.ref o1), .val (.int (1 : Int32)), .val (.int i1), .val .null, .val .null, .val (.int (1 : Int32)), .val (.int (1 : Int32))] [])) (fun t k => st17 t k) ?_
  have f18 := ((((F5.other W8 (Or.inr (slot_ne (Or.inr (hw _ (List.mem_of_getElem? (i := 15) rfl))) (Or.inr (hw _ (List.mem_of_getElem? (i := 17) rfl))) (by decide) (t := .int) (t' := (.object "com/example/vertex_to_service/vertextoservice/core/Choices")) (by decide) (by decide)))).other W11 (Or.inr (slot_ne (Or.inr (hw _ (List.mem_of_getElem? (i := 15) rfl))) (Or.inr (hw _ (List.mem_of_getElem? (i := 19) rfl))) (by decide) (t := .int) (t' := (.object "com/example/vertex_to_service/vertextoservice/core/Choices")) (by decide) (by decide)))).other W14 (Or.inr (slot_ne (Or.inr (hw _ (List.mem_of_getElem? (i := 15) rfl))) (Or.inr (hw _ (List.mem_of_getElem? (i := 21) rfl))) (by decide) (t := .int) (t' := .int) (by decide) (by decide)))).other W17 (Or.inr (slot_ne (Or.inr (hw _ (List.mem_of_getElem? (i := 15) rfl))) (Or.inr (hw _ (List.mem_of_getElem? (i := 23) rfl))) (by decide) (t := .int) (t' := .int) (by decide) (by decide))))
  have f19 := (((F8.other W11 (Or.inr (slot_ne (Or.inr (hw _ (List.mem_of_getElem? (i := 17) rfl))) (Or.inr (hw _ (List.mem_of_getElem? (i := 19) rfl))) (by decide) (t := (.object "com/example/vertex_to_service/vertextoservice/core/Choices")) (t' := (.object "com/example/vertex_to_service/vertextoservice/core/Choices")) (by decide) (by decide)))).other W14 (Or.inr (slot_ne (Or.inr (hw _ (List.mem_of_getElem? (i := 17) rfl))) (Or.inr (hw _ (List.mem_of_getElem? (i := 21) rfl))) (by decide) (t := (.object "com/example/vertex_to_service/vertextoservice/core/Choices")) (t' := .int) (by decide) (by decide)))).other W17 (Or.inr (slot_ne (Or.inr (hw _ (List.mem_of_getElem? (i := 17) rfl))) (Or.inr (hw _ (List.mem_of_getElem? (i := 23) rfl))) (by decide) (t := (.object "com/example/vertex_to_service/vertextoservice/core/Choices")) (t' := .int) (by decide) (by decide))))
  have f20 := (F14.other W17 (Or.inr (slot_ne (Or.inr (hw _ (List.mem_of_getElem? (i := 21) rfl))) (Or.inr (hw _ (List.mem_of_getElem? (i := 23) rfl))) (by decide) (t := .int) (t' := .int) (by decide) (by decide))))
  have f21 := ((F11.other W14 (Or.inr (slot_ne (Or.inr (hw _ (List.mem_of_getElem? (i := 19) rfl))) (Or.inr (hw _ (List.mem_of_getElem? (i := 21) rfl))) (by decide) (t := (.object "com/example/vertex_to_service/vertextoservice/core/Choices")) (t' := .int) (by decide) (by decide)))).other W17 (Or.inr (slot_ne (Or.inr (hw _ (List.mem_of_getElem? (i := 19) rfl))) (Or.inr (hw _ (List.mem_of_getElem? (i := 23) rfl))) (by decide) (t := (.object "com/example/vertex_to_service/vertextoservice/core/Choices")) (t' := .int) (by decide) (by decide))))
  have f22 := (((((F2.other W5 (Or.inr (slot_ne (Or.inr (hw _ (List.mem_of_getElem? (i := 13) rfl))) (Or.inr (hw _ (List.mem_of_getElem? (i := 15) rfl))) (by decide) (t := .int) (t' := .int) (by decide) (by decide)))).other W8 (Or.inr (slot_ne (Or.inr (hw _ (List.mem_of_getElem? (i := 13) rfl))) (Or.inr (hw _ (List.mem_of_getElem? (i := 17) rfl))) (by decide) (t := .int) (t' := (.object "com/example/vertex_to_service/vertextoservice/core/Choices")) (by decide) (by decide)))).other W11 (Or.inr (slot_ne (Or.inr (hw _ (List.mem_of_getElem? (i := 13) rfl))) (Or.inr (hw _ (List.mem_of_getElem? (i := 19) rfl))) (by decide) (t := .int) (t' := (.object "com/example/vertex_to_service/vertextoservice/core/Choices")) (by decide) (by decide)))).other W14 (Or.inr (slot_ne (Or.inr (hw _ (List.mem_of_getElem? (i := 13) rfl))) (Or.inr (hw _ (List.mem_of_getElem? (i := 21) rfl))) (by decide) (t := .int) (t' := .int) (by decide) (by decide)))).other W17 (Or.inr (slot_ne (Or.inr (hw _ (List.mem_of_getElem? (i := 13) rfl))) (Or.inr (hw _ (List.mem_of_getElem? (i := 23) rfl))) (by decide) (t := .int) (t' := .int) (by decide) (by decide))))
  refine fin (v := none) X17 (fun _ => rfl) ?_ (by decide) (by decide) (fun fs hr => X17.returnOut hx hret (hb hby d2_37) hr)
  show Q2_29 Z o1 i1 h0 n0 (none) T17.heap _
  rw [e17]
  exact ⟨rfl, N17, K17, f18, f19, F17, f20, f21, f22⟩
theorem ef_1_28 (m : MethodId) (x1 : Int32) : entryFrame m #[(.int (1 : Int32)), (.int x1)] 2 = mkF m 0 #[.val (.int (1 : Int32)), .val (.int x1)] [] := by first | (simp [entryFrame, mkF, argsToLocals, Value.category]; done) | rfl
def Q1_28 (Z : State) (i1 : Int32) (h0 : Heap) (n0 : Nat) (v : Option Value) (h : Heap) (L : List Loc) : Prop := ∃ (b1 : Addr), v = some (.ref b1) ∧ Fr n0 L ∧ Keep h0 h [] ∧ h0.size ≤ b1 ∧ Exa Z h b1 "com/example/vertex_to_service/vertextoservice/core/Choices" ∧ Fld Z h b1 "com/example/vertex_to_service/vertextoservice/core/Choices" "candidate" "I" (.int i1) ∧ Fld Z h b1 "com/example/vertex_to_service/vertextoservice/core/Choices" "first" "Lcom/example/vertex_to_service/vertextoservice/core/Choices;" .null ∧ Fld Z h b1 "com/example/vertex_to_service/vertextoservice/core/Choices" "high" "I" (.int (1 : Int32)) ∧ Fld Z h b1 "com/example/vertex_to_service/vertextoservice/core/Choices" "low" "I" (.int (1 : Int32)) ∧ Fld Z h b1 "com/example/vertex_to_service/vertextoservice/core/Choices" "second" "Lcom/example/vertex_to_service/vertextoservice/core/Choices;" .null ∧ Fld Z h b1 "com/example/vertex_to_service/vertextoservice/core/Choices" "vertex" "I" (.int (1 : Int32))
set_option maxRecDepth 65536 in
set_option maxHeartbeats 40000000 in
theorem rm1_28 (l : Launch) (Z : State) (a0 : Array Value) (hw : ∀ d ∈ tables_1, d.before a0 Z = true) (ws : List Jvm.Cond) (i1 : Int32) (h0 : Heap) (n0 : Nat) (Z0 : n0 ≤ h0.size)  :
    MetFree l (⟨"com/example/vertex_to_service/vertextoservice/core/Choices", "of", "(II)Lcom/example/vertex_to_service/vertextoservice/core/Choices;"⟩ : MethodName) (head1 (Jvm.Cond.code (⟨"com/example/vertex_to_service/vertextoservice/core/Choices", "of", "(II)Lcom/example/vertex_to_service/vertextoservice/core/Choices;"⟩ : MethodName) prog_10_method_2_code 2 (some (.object "com/example/vertex_to_service/vertextoservice/core/Choices")) :: ws) ({ frames := 2, cells := 1, slots := 6, locals := 31 } : Room)) (fun a U => a = #[(.int (1 : Int32)), (.int i1)] ∧ Z.Warmed39 U.vm ∧ U.heap = h0) (fun _ _ _ _ _ => True) (fun _ U o U' => ∃ v L, o = .returned v ∧ Q1_28 Z i1 h0 n0 v U'.heap L ∧ FrameEnd U o U' L ({ frames := 2, cells := 1, slots := 6, locals := 31 } : Room).cells ({ frames := 2, cells := 1, slots := 6, locals := 31 } : Room).slots) := by
  refine own_body (plainFor_of_name pn_1) ?_
  intro p e s m below meth c s₁ G hx hby hml hZ hown hnm hret X0 e0 step fin
  replace hown : s.vm.findClass "com/example/vertex_to_service/vertextoservice/core/Choices" = some m.cls := hown
  replace hnm : meth.name = "of" := hnm
  replace hret : meth.sig.returnType = some (.object "com/example/vertex_to_service/vertextoservice/core/Choices") := hret
  replace hml : c.maxLocals = 2 := hml
  have N0 := Fr.nil n0
  refine step (s₁.setTop (mkF m 0 #[.val (.int (1 : Int32)), .val (.int i1)] [])) (fun t k => castTop (ef_1_28 m i1) k) ?_
  obtain ⟨T1, h1, X1, e1, E1, A1, D1, -, st1⟩ := newO X0 hx hZ hown (hw _ (List.mem_of_getElem? (i := 4) rfl)) (hw _ (List.mem_of_getElem? (i := 5) rfl)) (hw _ (List.mem_of_getElem? (i := 2) rfl)) e0 (g := (mkF m 0 #[.val (.int (1 : Int32)), .val (.int i1)] [])) rfl (hb hby d1_0) (by decide) (by decide)
  obtain ⟨b1, g1⟩ : ∃ z, z = h0.size := ⟨_, rfl⟩
  rw [← g1] at A1 D1 st1
  have gn_b1 : n0 ≤ b1 := Nat.le_trans Z0 (Nat.le_of_eq g1.symm)
  have sz_b1 : h0.size ≤ b1 := Nat.le_of_eq g1.symm
  have K1 : Keep h0 h1 [] := (Keep.refl h0 []).ext E1
  have F_vertex_b1 : Fld Z h1 b1 "com/example/vertex_to_service/vertextoservice/core/Choices" "vertex" "I" (.int (0 : Int32)) := D1 (Or.inr (hw _ (List.mem_of_getElem? (i := 13) rfl))) (ty := .int) (by decide)
  have F_candidate_b1 : Fld Z h1 b1 "com/example/vertex_to_service/vertextoservice/core/Choices" "candidate" "I" (.int (0 : Int32)) := D1 (Or.inr (hw _ (List.mem_of_getElem? (i := 15) rfl))) (ty := .int) (by decide)
  have F_first_b1 : Fld Z h1 b1 "com/example/vertex_to_service/vertextoservice/core/Choices" "first" "Lcom/example/vertex_to_service/vertextoservice/core/Choices;" .null := D1 (Or.inr (hw _ (List.mem_of_getElem? (i := 17) rfl))) (ty := (.object "com/example/vertex_to_service/vertextoservice/core/Choices")) (by decide)
  have F_second_b1 : Fld Z h1 b1 "com/example/vertex_to_service/vertextoservice/core/Choices" "second" "Lcom/example/vertex_to_service/vertextoservice/core/Choices;" .null := D1 (Or.inr (hw _ (List.mem_of_getElem? (i := 19) rfl))) (ty := (.object "com/example/vertex_to_service/vertextoservice/core/Choices")) (by decide)
  have F_low_b1 : Fld Z h1 b1 "com/example/vertex_to_service/vertextoservice/core/Choices" "low" "I" (.int (0 : Int32)) := D1 (Or.inr (hw _ (List.mem_of_getElem? (i := 21) rfl))) (ty := .int) (by decide)
  have F_high_b1 : Fld Z h1 b1 "com/example/vertex_to_service/vertextoservice/core/Choices" "high" "I" (.int (0 : Int32)) := D1 (Or.inr (hw _ (List.mem_of_getElem? (i := 23) rfl))) (ty := .int) (by decide)
  refine step (T1.setTop (mkF m 3 #[.val (.int (1 : Int32)), .val (.int i1)] [(.ref b1)])) (fun t k => st1 t k) ?_
  refine step (T1.setTop (mkF m 4 #[.val (.int (1 : Int32)), .val (.int i1)] [(.ref b1), (.ref b1)])) (fun t k => XS.dup X1.here hx rfl (hb hby d1_3) rfl rfl k) ?_
  refine step (T1.setTop (mkF m 5 #[.val (.int (1 : Int32)), .val (.int i1)] [(.int (1 : Int32)), (.ref b1), (.ref b1)])) (fun t k => XS.iloadN X1.here hx rfl (hb hby d1_4) rfl k) ?_
  refine step (T1.setTop (mkF m 6 #[.val (.int (1 : Int32)), .val (.int i1)] [(.int i1), (.int (1 : Int32)), (.ref b1), (.ref b1)])) (fun t k => XS.iloadN X1.here hx rfl (hb hby d1_5) rfl k) ?_
  refine step (T1.setTop (mkF m 7 #[.val (.int (1 : Int32)), .val (.int i1)] [.null, (.int i1), (.int (1 : Int32)), (.ref b1), (.ref b1)])) (fun t k => XS.aconstNull X1.here hx rfl (hb hby d1_6) k) ?_
  refine step (T1.setTop (mkF m 8 #[.val (.int (1 : Int32)), .val (.int i1)] [.null, .null, (.int i1), (.int (1 : Int32)), (.ref b1), (.ref b1)])) (fun t k => XS.aconstNull X1.here hx rfl (hb hby d1_7) k) ?_
  refine step (T1.setTop (mkF m 9 #[.val (.int (1 : Int32)), .val (.int i1)] [(.int (1 : Int32)), .null, .null, (.int i1), (.int (1 : Int32)), (.ref b1), (.ref b1)])) (fun t k => XS.iloadN X1.here hx rfl (hb hby d1_8) rfl k) ?_
  refine step (T1.setTop (mkF m 10 #[.val (.int (1 : Int32)), .val (.int i1)] [(.int (1 : Int32)), (.int (1 : Int32)), .null, .null, (.int i1), (.int (1 : Int32)), (.ref b1), (.ref b1)])) (fun t k => XS.iloadN X1.here hx rfl (hb hby d1_9) rfl k) ?_
  obtain ⟨_, _, ⟨T2, L2, k2, n2⟩, -, X2, ⟨Lc2, hQ2, l2, y2, z2⟩, st2⟩ := X1.specialBack hx (y := (⟨"com/example/vertex_to_service/vertextoservice/core/Choices", "<init>", "(IILcom/example/vertex_to_service/vertextoservice/core/Choices;Lcom/example/vertex_to_service/vertextoservice/core/Choices;II)V"⟩ : MethodName)) rfl hown (mvT hZ (hw _ (List.mem_of_getElem? (i := 6) rfl))) (mvT hZ (hw _ (List.mem_of_getElem? (i := 7) rfl))) (mvT hZ (hw _ (List.mem_of_getElem? (i := 8) rfl))) (by decide) (backOf (W := 1) (rm2_29 l Z a0 hw [] b1 i1 h1 n0 (Nat.le_trans Z0 K1.1) A1 F_candidate_b1 F_first_b1 F_high_b1 F_low_b1 F_second_b1 F_vertex_b1 gn_b1) hZ (hw _ (List.mem_of_getElem? (i := 8) rfl)) (hw _ (List.mem_of_getElem? (i := 2) rfl)) (by decide) (by decide)) (g := (mkF m 10 #[.val (.int (1 : Int32)), .val (.int i1)] [(.int (1 : Int32)), (.int (1 : Int32)), .null, .null, (.int i1), (.int (1 : Int32)), (.ref b1), (.ref b1)])) rfl (by rw [hml]; rfl) (Steps.refl _) (a := b1) (argsL := [(.int (1 : Int32)), (.int i1), .null, .null, (.int (1 : Int32)), (.int (1 : Int32))]) (rest := [(.ref b1)]) (lenOf pd_4 rfl) rfl (by show 2 * 0 + _ ≤ _; exact Nat.le_of_eq rfl) (hb hby d1_10) (fun _ _ => ⟨rfl, e1, (by decide : 1 + 0 ≤ _), (by decide : 6 + 0 ≤ _)⟩)
  dsimp only [Pt.U, Pt.locs, Pt.cells, Pt.slots] at X2 l2 y2 z2 st2 hQ2
  subst l2 y2 z2
  obtain ⟨h2, e2⟩ : ∃ z, T2.heap = z := ⟨_, rfl⟩
  rw [e2] at hQ2
  obtain ⟨rfl, N2q, K2q, q0_2, q1_2, q2_2, q3_2, q4_2, q5_2⟩ := hQ2
  have N2 := Fr.app N0 N2q
  have K2 : Keep h0 h2 [] := K1.trans K2q (allS (Or.inr sz_b1) all0)
  refine step (T2.setTop (mkF m 13 #[.val (.int (1 : Int32)), .val (.int i1)] [(.ref b1)])) (fun t k => st2.trans k) ?_
  have f3 := (A1.keep K2q)
  refine fin (v := some (.ref b1)) X2 (fun h => by cases h) ?_ (by decide) (by decide) (fun fs hr => X2.areturnOut hx rfl hret rfl (hb hby d1_13) hr)
  show Q1_28 Z i1 h0 n0 (some (.ref b1)) T2.heap _
  rw [e2]
  exact ⟨b1, rfl, N2, K2, sz_b1, f3, q0_2, q1_2, q2_2, q3_2, q4_2, q5_2⟩
theorem ef_7_31 (m : MethodId) (x0 : Addr) (x1 : Addr) (x3 : Addr) : entryFrame m #[(.ref x0), (.ref x1), .null, (.ref x3)] 6 = mkF m 0 #[.val (.ref x0), .val (.ref x1), .val .null, .val (.ref x3), .unset, .unset] [] := by first | (simp [entryFrame, mkF, argsToLocals, Value.category]; done) | rfl
def Q7_31 (Z : State) (o1 : Addr) (o2 : Addr) (o3 : Addr) (i1 : Int32) (kc2 : ClassId) (i3 : Int32) (i4 : Int32) (i5 : Int32) (i6 : Int32) (o4 : Addr) (kc7 : ClassId) (h0 : Heap) (n0 : Nat) (v : Option Value) (h : Heap) (L : List Loc) : Prop := v = some (.int (1 : Int32)) ∧ Fr n0 L ∧ Keep h0 h [o3, o4, o2] ∧ Fld Z h o3 "java/util/ArrayDeque" "elements" "[Ljava/lang/Object;" (.ref o4) ∧ Fld Z h o3 "java/util/ArrayDeque" "head" "I" (.int (0 : Int32)) ∧ Fld Z h o3 "java/util/ArrayDeque" "tail" "I" (.int (0 : Int32)) ∧ Arv Z h o4 kc7 (.object "java/lang/Object") (17 : Int32) [.null, .null, .null, .null, .null, .null, .null, .null, .null, .null, .null, .null, .null, .null, .null, .null, .null] .null ∧ Arv Z h o2 kc2 .int (4 : Int32) [(.int i3), (.int i1), (.int i5), (.int i6)] (.int (0 : Int32))
set_option maxRecDepth 65536 in
set_option maxHeartbeats 40000000 in
theorem rm7_31 (l : Launch) (Z : State) (a0 : Array Value) (hw : ∀ d ∈ tables_1, d.before a0 Z = true) (ws : List Jvm.Cond) (o1 : Addr) (o2 : Addr) (o3 : Addr) (i1 : Int32) (kc2 : ClassId) (i3 : Int32) (i4 : Int32) (i5 : Int32) (i6 : Int32) (o4 : Addr) (kc7 : ClassId) (h0 : Heap) (n0 : Nat) (Z0 : n0 ≤ h0.size) (Pm0 : Exa Z h0 o1 "com/example/vertex_to_service/vertextoservice/core/Choices") (Pm1 : Fld Z h0 o1 "com/example/vertex_to_service/vertextoservice/core/Choices" "candidate" "I" (.int i1)) (Pm2 : Fld Z h0 o1 "com/example/vertex_to_service/vertextoservice/core/Choices" "first" "Lcom/example/vertex_to_service/vertextoservice/core/Choices;" .null) (Pm3 : Fld Z h0 o1 "com/example/vertex_to_service/vertextoservice/core/Choices" "second" "Lcom/example/vertex_to_service/vertextoservice/core/Choices;" .null) (Pm4 : Fld Z h0 o1 "com/example/vertex_to_service/vertextoservice/core/Choices" "vertex" "I" (.int (1 : Int32))) (Pm5 : Arv Z h0 o2 kc2 .int (4 : Int32) [(.int i3), (.int i4), (.int i5), (.int i6)] (.int (0 : Int32))) (Pm6 : Exa Z h0 o3 "java/util/ArrayDeque") (Pm7 : Fld Z h0 o3 "java/util/ArrayDeque" "elements" "[Ljava/lang/Object;" (.ref o4)) (Pm8 : Fld Z h0 o3 "java/util/ArrayDeque" "head" "I" (.int (0 : Int32))) (Pm9 : Fld Z h0 o3 "java/util/ArrayDeque" "tail" "I" (.int (0 : Int32))) (Pm10 : Arv Z h0 o4 kc7 (.object "java/lang/Object") (17 : Int32) [.null, .null, .null, .null, .null, .null, .null, .null, .null, .null, .null, .null, .null, .null, .null, .null, .null] .null) (O11 : Ovr Z kc7 "java/lang/Object") (gn_o1 : n0 ≤ o1) (ne_o1_o2 : o1 ≠ o2) (ne_o1_o3 : o1 ≠ o3) (ne_o1_o4 : o1 ≠ o4) (gn_o2 : n0 ≤ o2) (ne_o2_o3 : o2 ≠ o3) (ne_o2_o4 : o2 ≠ o4) (gn_o3 : n0 ≤ o3) (ne_o3_o4 : o3 ≠ o4) (gn_o4 : n0 ≤ o4) (hy22 : i3 = (i3 + (0 : Int32)))  :
    MetFree l (⟨"com/example/vertex_to_service/vertextoservice/core/Choices", "writeTo", "([I[ILjava/util/ArrayDeque;)I"⟩ : MethodName) (head1 (Jvm.Cond.code (⟨"com/example/vertex_to_service/vertextoservice/core/Choices", "writeTo", "([I[ILjava/util/ArrayDeque;)I"⟩ : MethodName) prog_10_method_7_code 6 (some .int) :: ws) ({ frames := 4, cells := 0, slots := 0, locals := 54 } : Room)) (fun a U => a = #[(.ref o1), (.ref o2), .null, (.ref o3)] ∧ Z.Warmed39 U.vm ∧ U.heap = h0) (fun _ _ _ _ _ => True) (fun _ U o U' => ∃ v L, o = .returned v ∧ Q7_31 Z o1 o2 o3 i1 kc2 i3 i4 i5 i6 o4 kc7 h0 n0 v U'.heap L ∧ FrameEnd U o U' L ({ frames := 4, cells := 0, slots := 0, locals := 54 } : Room).cells ({ frames := 4, cells := 0, slots := 0, locals := 54 } : Room).slots) := by
  refine own_body (plainFor_of_name pn_1) ?_
  intro p e s m below meth c s₁ G hx hby hml hZ hown hnm hret X0 e0 step fin
  replace hown : s.vm.findClass "com/example/vertex_to_service/vertextoservice/core/Choices" = some m.cls := hown
  replace hnm : meth.name = "writeTo" := hnm
  replace hret : meth.sig.returnType = some .int := hret
  replace hml : c.maxLocals = 6 := hml
  have N0 := Fr.nil n0
  refine step (s₁.setTop (mkF m 0 #[.val (.ref o1), .val (.ref o2), .val .null, .val (.ref o3), .unset, .unset] [])) (fun t k => castTop (ef_7_31 m o1 o2 o3) k) ?_
  refine step (s₁.setTop (mkF m 1 #[.val (.ref o1), .val (.ref o2), .val .null, .val (.ref o3), .unset, .unset] [(.int (0 : Int32))])) (fun t k => XS.iconst X0.here hx rfl (hb hby d7_0) k) ?_
  refine step (s₁.setTop (mkF m 3 #[.val (.ref o1), .val (.ref o2), .val .null, .val (.ref o3), .val (.int (0 : Int32)), .unset] [])) (fun t k => XS.istore X0.here hx rfl (hb hby d7_1) rfl (l' := #[.val (.ref o1), .val (.ref o2), .val .null, .val (.ref o3), .val (.int (0 : Int32)), .unset]) rfl k) ?_
  refine step (s₁.setTop (mkF m 4 #[.val (.ref o1), .val (.ref o2), .val .null, .val (.ref o3), .val (.int (0 : Int32)), .unset] [(.ref o3)])) (fun t k => XS.aloadN X0.here hx rfl (hb hby d7_3) rfl rfl k) ?_
  refine step (s₁.setTop (mkF m 5 #[.val (.ref o1), .val (.ref o2), .val .null, .val (.ref o3), .val (.int (0 : Int32)), .unset] [(.ref o1), (.ref o3)])) (fun t k => XS.aloadN X0.here hx rfl (hb hby d7_4) rfl rfl k) ?_
  obtain ⟨cq1, kq1, q1a, q1b, q1c⟩ := isOf hZ e0 Pm6
  obtain ⟨_, _, ⟨T1, L1, k1, n1⟩, -, X1, ⟨Lc1, hQ1, l1, y1, z1⟩, st1⟩ := X0.virtualBack hx (y := (⟨"java/util/ArrayDeque", "push", "(Ljava/lang/Object;)V"⟩ : MethodName)) (z := (⟨"java/util/ArrayDeque", "push", "(Ljava/lang/Object;)V"⟩ : MethodName)) hown (mvT hZ (hw _ (List.mem_of_getElem? (i := 51) rfl))) (mvT hZ (hw _ (List.mem_of_getElem? (i := 52) rfl))) (notFace_of_selects (args := #[]) (mvT hZ (hw _ (List.mem_of_getElem? (i := 54) rfl)))) (mvT hZ (hw _ (List.mem_of_getElem? (i := 54) rfl))) (mvT hZ (hw _ (List.mem_of_getElem? (i := 53) rfl))) (by decide) (backOf (W := 0) (rm8_7 l Z a0 hw [] o3 o1 o4 kc7 h0 n0 Z0 Pm6 Pm7 Pm8 Pm9 Pm0 Pm10 O11 gn_o3 (Ne.symm ne_o1_o3) ne_o3_o4 gn_o1 ne_o1_o4 gn_o4) hZ (hw _ (List.mem_of_getElem? (i := 55) rfl)) (hw _ (List.mem_of_getElem? (i := 32) rfl)) (by decide) (by decide)) q1a q1c (g := (mkF m 5 #[.val (.ref o1), .val (.ref o2), .val .null, .val (.ref o3), .val (.int (0 : Int32)), .unset] [(.ref o1), (.ref o3)])) rfl (by rw [hml]; rfl) (Steps.refl _) (argsL := [(.ref o1)]) (rest := []) (lenOf pd_7 rfl) rfl (by show 2 * 0 + _ ≤ _; exact Nat.le_of_eq rfl) (hb hby d7_5) (fun _ _ => ⟨rfl, e0, (by decide : 0 + 0 ≤ _), (by decide : 0 + 0 ≤ _)⟩)
  dsimp only [Pt.U, Pt.locs, Pt.cells, Pt.slots] at X1 l1 y1 z1 st1 hQ1
  subst l1 y1 z1
  obtain ⟨h1, e1⟩ : ∃ z, T1.heap = z := ⟨_, rfl⟩
  rw [e1] at hQ1
  obtain ⟨rfl, N1q, K1q, q0_1, q1_1, q2_1, q3_1⟩ := hQ1
  have N1 := Fr.app N0 N1q
  have K1 : Keep h0 h1 [o3, o4, o2] := (Keep.refl h0 [o3, o4, o2]).trans K1q (allS (Or.inl (List.mem_of_getElem? (i := 0) rfl)) (allS (Or.inl (List.mem_of_getElem? (i := 1) rfl)) all0))
  refine step (T1.setTop (mkF m 8 #[.val (.ref o1), .val (.ref o2), .val .null, .val (.ref o3), .val (.int (0 : Int32)), .unset] [])) (fun t k => st1.trans k) ?_
  refine step (T1.setTop (mkF m 9 #[.val (.ref o1), .val (.ref o2), .val .null, .val (.ref o3), .val (.int (0 : Int32)), .unset] [(.ref o3)])) (fun t k => XS.aloadN X1.here hx rfl (hb hby d7_8) rfl rfl k) ?_
  have f2 := (Pm6.keep K1q)
  obtain ⟨cq3, kq3, q3a, q3b, q3c⟩ := isOf hZ e1 f2
  obtain ⟨_, _, ⟨T3, L3, k3, n3⟩, -, X3, ⟨Lc3, hQ3, l3, y3, z3⟩, st3⟩ := X1.virtualBack hx (y := (⟨"java/util/ArrayDeque", "isEmpty", "()Z"⟩ : MethodName)) (z := (⟨"java/util/ArrayDeque", "isEmpty", "()Z"⟩ : MethodName)) hown (mvT hZ (hw _ (List.mem_of_getElem? (i := 69) rfl))) (mvT hZ (hw _ (List.mem_of_getElem? (i := 70) rfl))) (notFace_of_selects (args := #[]) (mvT hZ (hw _ (List.mem_of_getElem? (i := 72) rfl)))) (mvT hZ (hw _ (List.mem_of_getElem? (i := 72) rfl))) (mvT hZ (hw _ (List.mem_of_getElem? (i := 71) rfl))) (by decide) (backOf (W := 0) (rm11_10 l Z a0 hw [] o3 h1 n0 (Nat.le_trans Z0 K1.1) f2 q1_1 q2_1 gn_o3) hZ (hw _ (List.mem_of_getElem? (i := 73) rfl)) (hw _ (List.mem_of_getElem? (i := 32) rfl)) (by decide) (by decide)) q3a q3c (g := (mkF m 9 #[.val (.ref o1), .val (.ref o2), .val .null, .val (.ref o3), .val (.int (0 : Int32)), .unset] [(.ref o3)])) rfl (by rw [hml]; rfl) (Steps.refl _) (argsL := []) (rest := []) (lenOf pd_8 rfl) rfl (by show 2 * 0 + _ ≤ _; exact Nat.le_of_eq rfl) (hb hby d7_9) (fun _ _ => ⟨rfl, e1, (by decide : 0 + 0 ≤ _), (by decide : 0 + 0 ≤ _)⟩)
  dsimp only [Pt.U, Pt.locs, Pt.cells, Pt.slots] at X3 l3 y3 z3 st3 hQ3
  subst l3 y3 z3
  obtain ⟨rfl, N3q, e3q⟩ := hQ3
  have N3 := Fr.app N1 N3q
  refine step (T3.setTop (mkF m 12 #[.val (.ref o1), .val (.ref o2), .val .null, .val (.ref o3), .val (.int (0 : Int32)), .unset] [(.int (0 : Int32))])) (fun t k => st3.trans k) ?_
  refine step (T3.setTop (mkF m 15 #[.val (.ref o1), .val (.ref o2), .val .null, .val (.ref o3), .val (.int (0 : Int32)), .unset] [])) (fun t k => XS.ifNo X3.here hx rfl (hb hby d7_12) rfl ((if0 _ _).trans (teq (by decide : (0 : Int32) = (0 : Int32))).2) k) ?_
  refine step (T3.setTop (mkF m 16 #[.val (.ref o1), .val (.ref o2), .val .null, .val (.ref o3), .val (.int (0 : Int32)), .unset] [(.ref o3)])) (fun t k => XS.aloadN X3.here hx rfl (hb hby d7_15) rfl rfl k) ?_
  have f4 := (Pm0.keep K1q)
  obtain ⟨cq5, kq5, q5a, q5b, q5c⟩ := isOf hZ e3q f2
  obtain ⟨_, _, ⟨T5, L5, k5, n5⟩, -, X5, ⟨Lc5, hQ5, l5, y5, z5⟩, st5⟩ := X3.virtualBack hx (y := (⟨"java/util/ArrayDeque", "pop", "()Ljava/lang/Object;"⟩ : MethodName)) (z := (⟨"java/util/ArrayDeque", "pop", "()Ljava/lang/Object;"⟩ : MethodName)) hown (mvT hZ (hw _ (List.mem_of_getElem? (i := 74) rfl))) (mvT hZ (hw _ (List.mem_of_getElem? (i := 75) rfl))) (notFace_of_selects (args := #[]) (mvT hZ (hw _ (List.mem_of_getElem? (i := 77) rfl)))) (mvT hZ (hw _ (List.mem_of_getElem? (i := 77) rfl))) (mvT hZ (hw _ (List.mem_of_getElem? (i := 76) rfl))) (by decide) (backOf (W := 0) (rm12_11 l Z a0 hw [] o3 o4 kc7 o1 h1 n0 (Nat.le_trans Z0 K1.1) f2 q0_1 q1_1 q2_1 q3_1 O11 f4 gn_o3 ne_o3_o4 (Ne.symm ne_o1_o3) gn_o4 (Ne.symm ne_o1_o4) gn_o1) hZ (hw _ (List.mem_of_getElem? (i := 78) rfl)) (hw _ (List.mem_of_getElem? (i := 32) rfl)) (by decide) (by decide)) q5a q5c (g := (mkF m 16 #[.val (.ref o1), .val (.ref o2), .val .null, .val (.ref o3), .val (.int (0 : Int32)), .unset] [(.ref o3)])) rfl (by rw [hml]; rfl) (Steps.refl _) (argsL := []) (rest := []) (lenOf pd_9 rfl) rfl (by show 2 * 0 + _ ≤ _; exact Nat.le_of_eq rfl) (hb hby d7_16) (fun _ _ => ⟨rfl, e3q, (by decide : 0 + 0 ≤ _), (by decide : 0 + 0 ≤ _)⟩)
  dsimp only [Pt.U, Pt.locs, Pt.cells, Pt.slots] at X5 l5 y5 z5 st5 hQ5
  subst l5 y5 z5
  obtain ⟨h5, e5⟩ : ∃ z, T5.heap = z := ⟨_, rfl⟩
  rw [e5] at hQ5
  obtain ⟨rfl, N5q, K5q, q0_5, q1_5, q2_5, q3_5⟩ := hQ5
  have N5 := Fr.app N3 N5q
  have K5 : Keep h0 h5 [o3, o4, o2] := K1.trans K5q (allS (Or.inl (List.mem_of_getElem? (i := 1) rfl)) (allS (Or.inl (List.mem_of_getElem? (i := 0) rfl)) all0))
  refine step (T5.setTop (mkF m 19 #[.val (.ref o1), .val (.ref o2), .val .null, .val (.ref o3), .val (.int (0 : Int32)), .unset] [(.ref o1)])) (fun t k => st5.trans k) ?_
  have f6 := (f4.keep K5q)
  obtain ⟨T7, X7, e7, st7⟩ := castY X5 hx hZ hown (hw _ (List.mem_of_getElem? (i := 4) rfl)) e5 (Ins.self f6) (g := (mkF m 19 #[.val (.ref o1), .val (.ref o2), .val .null, .val (.ref o3), .val (.int (0 : Int32)), .unset] [(.ref o1)])) rfl rfl (hb hby d7_19)
  refine step (T7.setTop (mkF m 22 #[.val (.ref o1), .val (.ref o2), .val .null, .val (.ref o3), .val (.int (0 : Int32)), .unset] [(.ref o1)])) (fun t k => st7 t k) ?_
  refine step (T7.setTop (mkF m 24 #[.val (.ref o1), .val (.ref o2), .val .null, .val (.ref o3), .val (.int (0 : Int32)), .val (.ref o1)] [])) (fun t k => XS.astore X7.here hx rfl (hb hby d7_22) rfl rfl (l' := #[.val (.ref o1), .val (.ref o2), .val .null, .val (.ref o3), .val (.int (0 : Int32)), .val (.ref o1)]) rfl k) ?_
  refine step (T7.setTop (mkF m 26 #[.val (.ref o1), .val (.ref o2), .val .null, .val (.ref o3), .val (.int (0 : Int32)), .val (.ref o1)] [(.ref o1)])) (fun t k => XS.aload X7.here hx rfl (hb hby d7_24) rfl rfl k) ?_
  have f8 := ((Pm2.keep K1q (ninS ne_o1_o3 (ninS ne_o1_o4 nin0))).keep K5q (ninS ne_o1_o4 (ninS ne_o1_o3 nin0)))
  obtain ⟨T9, X9, e9, st9⟩ := getF X7 hx hZ hown (host := "") (Or.inl (hw _ (List.mem_of_getElem? (i := 16) rfl))) Via.refl e7 f8 (g := (mkF m 26 #[.val (.ref o1), .val (.ref o2), .val .null, .val (.ref o3), .val (.int (0 : Int32)), .val (.ref o1)] [(.ref o1)])) rfl rfl (hb hby d7_26)
  refine step (T9.setTop (mkF m 29 #[.val (.ref o1), .val (.ref o2), .val .null, .val (.ref o3), .val (.int (0 : Int32)), .val (.ref o1)] [.null])) (fun t k => st9 t k) ?_
  refine step (T9.setTop (mkF m 53 #[.val (.ref o1), .val (.ref o2), .val .null, .val (.ref o3), .val (.int (0 : Int32)), .val (.ref o1)] [])) (fun t k => XS.ifnullYes X9.here hx rfl (pc0 := 29) (pc' := 53) rfl (hb hby d7_29) rfl (by decide) (by decide) k) ?_
  refine step (T9.setTop (mkF m 55 #[.val (.ref o1), .val (.ref o2), .val .null, .val (.ref o3), .val (.int (0 : Int32)), .val (.ref o1)] [(.ref o1)])) (fun t k => XS.aload X9.here hx rfl (hb hby d7_53) rfl rfl k) ?_
  have f10 := ((Pm4.keep K1q (ninS ne_o1_o3 (ninS ne_o1_o4 nin0))).keep K5q (ninS ne_o1_o4 (ninS ne_o1_o3 nin0)))
  obtain ⟨T11, X11, e11, st11⟩ := getF X9 hx hZ hown (host := "") (Or.inl (hw _ (List.mem_of_getElem? (i := 12) rfl))) Via.refl e9 f10 (g := (mkF m 55 #[.val (.ref o1), .val (.ref o2), .val .null, .val (.ref o3), .val (.int (0 : Int32)), .val (.ref o1)] [(.ref o1)])) rfl rfl (hb hby d7_55)
  refine step (T11.setTop (mkF m 58 #[.val (.ref o1), .val (.ref o2), .val .null, .val (.ref o3), .val (.int (0 : Int32)), .val (.ref o1)] [(.int (1 : Int32))])) (fun t k => st11 t k) ?_
  refine step (T11.setTop (mkF m 61 #[.val (.ref o1), .val (.ref o2), .val .null, .val (.ref o3), .val (.int (0 : Int32)), .val (.ref o1)] [])) (fun t k => XS.ifNo X11.here hx rfl (hb hby d7_58) rfl ((if0 _ _).trans (flt (by decide : ¬ ((1 : Int32) < (0 : Int32)))).1) k) ?_
  refine step (T11.setTop (mkF m 62 #[.val (.ref o1), .val (.ref o2), .val .null, .val (.ref o3), .val (.int (0 : Int32)), .val (.ref o1)] [(.ref o2)])) (fun t k => XS.aloadN X11.here hx rfl (hb hby d7_61) rfl rfl k) ?_
  refine step (T11.setTop (mkF m 64 #[.val (.ref o1), .val (.ref o2), .val .null, .val (.ref o3), .val (.int (0 : Int32)), .val (.ref o1)] [(.ref o1), (.ref o2)])) (fun t k => XS.aload X11.here hx rfl (hb hby d7_62) rfl rfl k) ?_
  obtain ⟨T12, X12, e12, st12⟩ := getF X11 hx hZ hown (host := "") (Or.inl (hw _ (List.mem_of_getElem? (i := 12) rfl))) Via.refl e11 f10 (g := (mkF m 64 #[.val (.ref o1), .val (.ref o2), .val .null, .val (.ref o3), .val (.int (0 : Int32)), .val (.ref o1)] [(.ref o1), (.ref o2)])) rfl rfl (hb hby d7_64)
  refine step (T12.setTop (mkF m 67 #[.val (.ref o1), .val (.ref o2), .val .null, .val (.ref o3), .val (.int (0 : Int32)), .val (.ref o1)] [(.int (1 : Int32)), (.ref o2)])) (fun t k => st12 t k) ?_
  refine step (T12.setTop (mkF m 69 #[.val (.ref o1), .val (.ref o2), .val .null, .val (.ref o3), .val (.int (0 : Int32)), .val (.ref o1)] [(.ref o1), (.int (1 : Int32)), (.ref o2)])) (fun t k => XS.aload X12.here hx rfl (hb hby d7_67) rfl rfl k) ?_
  have f13 := ((Pm1.keep K1q (ninS ne_o1_o3 (ninS ne_o1_o4 nin0))).keep K5q (ninS ne_o1_o4 (ninS ne_o1_o3 nin0)))
  obtain ⟨T14, X14, e14, st14⟩ := getF X12 hx hZ hown (host := "") (Or.inl (hw _ (List.mem_of_getElem? (i := 14) rfl))) Via.refl e12 f13 (g := (mkF m 69 #[.val (.ref o1), .val (.ref o2), .val .null, .val (.ref o3), .val (.int (0 : Int32)), .val (.ref o1)] [(.ref o1), (.int (1 : Int32)), (.ref o2)])) rfl rfl (hb hby d7_69)
  refine step (T14.setTop (mkF m 72 #[.val (.ref o1), .val (.ref o2), .val .null, .val (.ref o3), .val (.int (0 : Int32)), .val (.ref o1)] [(.int i1), (.int (1 : Int32)), (.ref o2)])) (fun t k => st14 t k) ?_
  have f15 := ((Pm5.keep K1q (ninS ne_o2_o3 (ninS ne_o2_o4 nin0))).keep K5q (ninS ne_o2_o4 (ninS ne_o2_o3 nin0)))
  obtain ⟨cl16, Ar16, q16, S16, N16n, H16, G16⟩ := id f15
  have hin16 : ¬ ((1 : Int32) < 0 ∨ cl16.slots.size ≤ ((1 : Int32)).toNatClampNeg) := inb_of S16 ⟨by decide, by decide⟩
  obtain ⟨T16, h16, X16, e16, W16, st16⟩ := stI X14 hx hZ e14 Ar16 (j := (1 : Int32)) hin16 (g := (mkF m 72 #[.val (.ref o1), .val (.ref o2), .val .null, .val (.ref o3), .val (.int (0 : Int32)), .val (.ref o1)] [(.int i1), (.int (1 : Int32)), (.ref o2)])) rfl rfl (hb hby d7_72)
  have N16 := Fr.snoc X16 N5 gn_o2
  have K16 : Keep h0 h16 [o3, o4, o2] := K5.wr W16 (Or.inl (List.mem_of_getElem? (i := 2) rfl))
  have V16 : Arv Z h16 o2 kc2 .int (4 : Int32) [(.int i3), (.int i1), (.int i5), (.int i6)] (.int (0 : Int32)) := Arv.set Ar16 q16 S16 N16n H16 G16 rfl W16 1 rfl (Nat.le_of_ble_eq_true rfl)
  refine step (T16.setTop (mkF m 73 #[.val (.ref o1), .val (.ref o2), .val .null, .val (.ref o3), .val (.int (0 : Int32)), .val (.ref o1)] [])) (fun t k => st16 t k) ?_
  refine step (T16.setTop (mkF m 74 #[.val (.ref o1), .val (.ref o2), .val .null, .val (.ref o3), .val (.int (0 : Int32)), .val (.ref o1)] [.null])) (fun t k => XS.aloadN X16.here hx rfl (hb hby d7_73) rfl rfl k) ?_
  refine step (T16.setTop (mkF m 86 #[.val (.ref o1), .val (.ref o2), .val .null, .val (.ref o3), .val (.int (0 : Int32)), .val (.ref o1)] [])) (fun t k => XS.ifnullYes X16.here hx rfl (pc0 := 74) (pc' := 86) rfl (hb hby d7_74) rfl (by decide) (by decide) k) ?_
  refine step (T16.setTop (mkF m 89 #[.val (.ref o1), .val (.ref o2), .val .null, .val (.ref o3), .val (.int (1 : Int32)), .val (.ref o1)] [])) (fun t k => XS.iinc X16.here hx rfl (hb hby d7_86) rfl (l' := #[.val (.ref o1), .val (.ref o2), .val .null, .val (.ref o3), .val (.int (1 : Int32)), .val (.ref o1)]) rfl k) ?_
  refine step (T16.setTop (mkF m 8 #[.val (.ref o1), .val (.ref o2), .val .null, .val (.ref o3), .val (.int (1 : Int32)), .val (.ref o1)] [])) (fun t k => XS.goto X16.here hx rfl (pc0 := 89) (pc' := 8) rfl (hb hby d7_89) (by decide) (by decide) k) ?_
  refine step (T16.setTop (mkF m 9 #[.val (.ref o1), .val (.ref o2), .val .null, .val (.ref o3), .val (.int (1 : Int32)), .val (.ref o1)] [(.ref o3)])) (fun t k => XS.aloadN X16.here hx rfl (hb hby d7_8) rfl rfl k) ?_
  have f17 := ((f2.keep K5q).wr W16)
  have f18 := (q2_5.other W16 (Or.inl (Ne.symm ne_o2_o3)))
  have f19 := (q3_5.other W16 (Or.inl (Ne.symm ne_o2_o3)))
  obtain ⟨cq20, kq20, q20a, q20b, q20c⟩ := isOf hZ e16 f17
  obtain ⟨_, _, ⟨T20, L20, k20, n20⟩, -, X20, ⟨Lc20, hQ20, l20, y20, z20⟩, st20⟩ := X16.virtualBack hx (y := (⟨"java/util/ArrayDeque", "isEmpty", "()Z"⟩ : MethodName)) (z := (⟨"java/util/ArrayDeque", "isEmpty", "()Z"⟩ : MethodName)) hown (mvT hZ (hw _ (List.mem_of_getElem? (i := 69) rfl))) (mvT hZ (hw _ (List.mem_of_getElem? (i := 70) rfl))) (notFace_of_selects (args := #[]) (mvT hZ (hw _ (List.mem_of_getElem? (i := 72) rfl)))) (mvT hZ (hw _ (List.mem_of_getElem? (i := 72) rfl))) (mvT hZ (hw _ (List.mem_of_getElem? (i := 71) rfl))) (by decide) (backOf (W := 0) (rm11_16 l Z a0 hw [] o3 h16 n0 (Nat.le_trans Z0 K16.1) f17 f18 f19 gn_o3) hZ (hw _ (List.mem_of_getElem? (i := 73) rfl)) (hw _ (List.mem_of_getElem? (i := 32) rfl)) (by decide) (by decide)) q20a q20c (g := (mkF m 9 #[.val (.ref o1), .val (.ref o2), .val .null, .val (.ref o3), .val (.int (1 : Int32)), .val (.ref o1)] [(.ref o3)])) rfl (by rw [hml]; rfl) (Steps.refl _) (argsL := []) (rest := []) (lenOf pd_8 rfl) rfl (by show 2 * 0 + _ ≤ _; exact Nat.le_of_eq rfl) (hb hby d7_9) (fun _ _ => ⟨rfl, e16, (by decide : 0 + 0 ≤ _), (by decide : 0 + 0 ≤ _)⟩)
  dsimp only [Pt.U, Pt.locs, Pt.cells, Pt.slots] at X20 l20 y20 z20 st20 hQ20
  subst l20 y20 z20
  obtain ⟨rfl, N20q, e20q⟩ := hQ20
  have N20 := Fr.app N16 N20q
  refine step (T20.setTop (mkF m 12 #[.val (.ref o1), .val (.ref o2), .val .null, .val (.ref o3), .val (.int (1 : Int32)), .val (.ref o1)] [(.int (1 : Int32))])) (fun t k => st20.trans k) ?_
  refine step (T20.setTop (mkF m 92 #[.val (.ref o1), .val (.ref o2), .val .null, .val (.ref o3), .val (.int (1 : Int32)), .val (.ref o1)] [])) (fun t k => XS.ifYes X20.here hx rfl (pc0 := 12) (pc' := 92) rfl (hb hby d7_12) rfl ((if0 _ _).trans (feq (by decide : ¬ ((1 : Int32) = (0 : Int32)))).2) (by decide) (by decide) k) ?_
  refine step (T20.setTop (mkF m 94 #[.val (.ref o1), .val (.ref o2), .val .null, .val (.ref o3), .val (.int (1 : Int32)), .val (.ref o1)] [(.int (1 : Int32))])) (fun t k => XS.iload X20.here hx rfl (hb hby d7_92) rfl k) ?_
  have f21 := (q1_5.other W16 (Or.inl (Ne.symm ne_o2_o3)))
  have f22 := (q0_5.other W16 (Ne.symm ne_o2_o4))
  refine fin (v := some (.int (1 : Int32))) X20 (fun h => by cases h) ?_ (by decide) (by decide) (fun fs hr => retI X20 hx hret (hb hby d7_94) hr)
  show Q7_31 Z o1 o2 o3 i1 kc2 i3 i4 i5 i6 o4 kc7 h0 n0 (some (.int (1 : Int32))) T20.heap _
  rw [e20q]
  exact ⟨rfl, N20, K16, f21, f18, f19, f22, V16⟩
theorem ef_4_30 (m : MethodId) (x0 : Addr) (x1 : Addr) : entryFrame m #[(.ref x0), (.ref x1)] 2 = mkF m 0 #[.val (.ref x0), .val (.ref x1)] [] := by first | (simp [entryFrame, mkF, argsToLocals, Value.category]; done) | rfl
def Q4_30 (Z : State) (o1 : Addr) (o2 : Addr) (i1 : Int32) (kc2 : ClassId) (i3 : Int32) (i4 : Int32) (i5 : Int32) (i6 : Int32) (h0 : Heap) (n0 : Nat) (v : Option Value) (h : Heap) (L : List Loc) : Prop := v = none ∧ Fr n0 L ∧ Keep h0 h [o2] ∧ Arv Z h o2 kc2 .int (4 : Int32) [(.int i3), (.int i1), (.int i5), (.int i6)] (.int (0 : Int32))
set_option maxRecDepth 65536 in
set_option maxHeartbeats 40000000 in
theorem rm4_30 (l : Launch) (Z : State) (a0 : Array Value) (hw : ∀ d ∈ tables_1, d.before a0 Z = true) (ws : List Jvm.Cond) (o1 : Addr) (o2 : Addr) (i1 : Int32) (kc2 : ClassId) (i3 : Int32) (i4 : Int32) (i5 : Int32) (i6 : Int32) (h0 : Heap) (n0 : Nat) (Z0 : n0 ≤ h0.size) (Pm0 : Exa Z h0 o1 "com/example/vertex_to_service/vertextoservice/core/Choices") (Pm1 : Fld Z h0 o1 "com/example/vertex_to_service/vertextoservice/core/Choices" "candidate" "I" (.int i1)) (Pm2 : Fld Z h0 o1 "com/example/vertex_to_service/vertextoservice/core/Choices" "first" "Lcom/example/vertex_to_service/vertextoservice/core/Choices;" .null) (Pm3 : Fld Z h0 o1 "com/example/vertex_to_service/vertextoservice/core/Choices" "second" "Lcom/example/vertex_to_service/vertextoservice/core/Choices;" .null) (Pm4 : Fld Z h0 o1 "com/example/vertex_to_service/vertextoservice/core/Choices" "vertex" "I" (.int (1 : Int32))) (Pm5 : Arv Z h0 o2 kc2 .int (4 : Int32) [(.int i3), (.int i4), (.int i5), (.int i6)] (.int (0 : Int32))) (gn_o1 : n0 ≤ o1) (ne_o1_o2 : o1 ≠ o2) (gn_o2 : n0 ≤ o2) (hy9 : i3 = (i3 + (0 : Int32)))  :
    MetFree l (⟨"com/example/vertex_to_service/vertextoservice/core/Choices", "writeTo", "([I)V"⟩ : MethodName) (head1 (Jvm.Cond.code (⟨"com/example/vertex_to_service/vertextoservice/core/Choices", "writeTo", "([I)V"⟩ : MethodName) prog_10_method_6_code 2 none :: ws) ({ frames := 5, cells := 2, slots := 20, locals := 71 } : Room)) (fun a U => a = #[(.ref o1), (.ref o2)] ∧ Z.Warmed39 U.vm ∧ U.heap = h0) (fun _ _ _ _ _ => True) (fun _ U o U' => ∃ v L, o = .returned v ∧ Q4_30 Z o1 o2 i1 kc2 i3 i4 i5 i6 h0 n0 v U'.heap L ∧ FrameEnd U o U' L ({ frames := 5, cells := 2, slots := 20, locals := 71 } : Room).cells ({ frames := 5, cells := 2, slots := 20, locals := 71 } : Room).slots) := by
  refine own_body (plainFor_of_name pn_1) ?_
  intro p e s m below meth c s₁ G hx hby hml hZ hown hnm hret X0 e0 step fin
  replace hown : s.vm.findClass "com/example/vertex_to_service/vertextoservice/core/Choices" = some m.cls := hown
  replace hnm : meth.name = "writeTo" := hnm
  replace hret : meth.sig.returnType = none := hret
  replace hml : c.maxLocals = 2 := hml
  have N0 := Fr.nil n0
  refine step (s₁.setTop (mkF m 0 #[.val (.ref o1), .val (.ref o2)] [])) (fun t k => castTop (ef_4_30 m o1 o2) k) ?_
  refine step (s₁.setTop (mkF m 1 #[.val (.ref o1), .val (.ref o2)] [(.ref o1)])) (fun t k => XS.aloadN X0.here hx rfl (hb hby d4_0) rfl rfl k) ?_
  refine step (s₁.setTop (mkF m 2 #[.val (.ref o1), .val (.ref o2)] [(.ref o2), (.ref o1)])) (fun t k => XS.aloadN X0.here hx rfl (hb hby d4_1) rfl rfl k) ?_
  refine step (s₁.setTop (mkF m 3 #[.val (.ref o1), .val (.ref o2)] [.null, (.ref o2), (.ref o1)])) (fun t k => XS.aconstNull X0.here hx rfl (hb hby d4_2) k) ?_
  obtain ⟨T1, h1, X1, e1, E1, A1, D1, -, st1⟩ := newO X0 hx hZ hown (hw _ (List.mem_of_getElem? (i := 30) rfl)) (hw _ (List.mem_of_getElem? (i := 31) rfl)) (hw _ (List.mem_of_getElem? (i := 32) rfl)) e0 (g := (mkF m 3 #[.val (.ref o1), .val (.ref o2)] [.null, (.ref o2), (.ref o1)])) rfl (hb hby d4_3) (by decide) (by decide)
  obtain ⟨b1, g1⟩ : ∃ z, z = h0.size := ⟨_, rfl⟩
  rw [← g1] at A1 D1 st1
  have ne_o1_b1 : o1 ≠ b1 := Nat.ne_of_lt (Nat.lt_of_lt_of_le Pm0.lt (Nat.le_of_eq g1.symm))
  have ne_o2_b1 : o2 ≠ b1 := Nat.ne_of_lt (Nat.lt_of_lt_of_le Pm5.lt (Nat.le_of_eq g1.symm))
  have gn_b1 : n0 ≤ b1 := Nat.le_trans Z0 (Nat.le_of_eq g1.symm)
  have sz_b1 : h0.size ≤ b1 := Nat.le_of_eq g1.symm
  have K1 : Keep h0 h1 [o2] := (Keep.refl h0 [o2]).ext E1
  have F_elements_b1 : Fld Z h1 b1 "java/util/ArrayDeque" "elements" "[Ljava/lang/Object;" .null := D1 (Or.inl (hw _ (List.mem_of_getElem? (i := 46) rfl))) (ty := (.array (.object "java/lang/Object"))) (by decide)
  have F_head_b1 : Fld Z h1 b1 "java/util/ArrayDeque" "head" "I" (.int (0 : Int32)) := D1 (Or.inl (hw _ (List.mem_of_getElem? (i := 62) rfl))) (ty := .int) (by decide)
  have F_tail_b1 : Fld Z h1 b1 "java/util/ArrayDeque" "tail" "I" (.int (0 : Int32)) := D1 (Or.inl (hw _ (List.mem_of_getElem? (i := 68) rfl))) (ty := .int) (by decide)
  refine step (T1.setTop (mkF m 6 #[.val (.ref o1), .val (.ref o2)] [(.ref b1), .null, (.ref o2), (.ref o1)])) (fun t k => st1 t k) ?_
  refine step (T1.setTop (mkF m 7 #[.val (.ref o1), .val (.ref o2)] [(.ref b1), (.ref b1), .null, (.ref o2), (.ref o1)])) (fun t k => XS.dup X1.here hx rfl (hb hby d4_6) rfl rfl k) ?_
  obtain ⟨_, _, ⟨T2, L2, k2, n2⟩, -, X2, ⟨Lc2, hQ2, l2, y2, z2⟩, st2⟩ := X1.specialBack hx (y := (⟨"java/util/ArrayDeque", "<init>", "()V"⟩ : MethodName)) rfl hown (mvT hZ (hw _ (List.mem_of_getElem? (i := 33) rfl))) (mvT hZ (hw _ (List.mem_of_getElem? (i := 34) rfl))) (mvT hZ (hw _ (List.mem_of_getElem? (i := 35) rfl))) (by decide) (backOf (W := 4) (rm5_4 l Z a0 hw [] b1 h1 n0 (Nat.le_trans Z0 K1.1) A1 F_elements_b1 F_head_b1 F_tail_b1 gn_b1) hZ (hw _ (List.mem_of_getElem? (i := 35) rfl)) (hw _ (List.mem_of_getElem? (i := 32) rfl)) (by decide) (by decide)) (g := (mkF m 7 #[.val (.ref o1), .val (.ref o2)] [(.ref b1), (.ref b1), .null, (.ref o2), (.ref o1)])) rfl (by rw [hml]; rfl) (Steps.refl _) (a := b1) (argsL := []) (rest := [(.ref b1), .null, (.ref o2), (.ref o1)]) (lenOf pd_5 rfl) rfl (by show 2 * 0 + _ ≤ _; exact Nat.le_of_eq rfl) (hb hby d4_7) (fun _ _ => ⟨rfl, e1, (by decide : 1 + 1 ≤ _), (by decide : 3 + 17 ≤ _)⟩)
  dsimp only [Pt.U, Pt.locs, Pt.cells, Pt.slots] at X2 l2 y2 z2 st2 hQ2
  subst l2 y2 z2
  obtain ⟨h2, e2⟩ : ∃ z, T2.heap = z := ⟨_, rfl⟩
  rw [e2] at hQ2
  obtain ⟨b2_2, k2_2, rfl, N2q, K2q, sz_b2_2, q0_2, q1_2, q2_2, q3_2, ov0_2⟩ := hQ2
  have N2 := Fr.app N0 N2q
  have f3 := (Pm0.ext E1)
  have lt2_o1 := f3.lt
  have f4 := (Pm5.ext E1)
  have lt2_o2 := f4.lt
  have lt2_b1 := A1.lt
  have ne_o1_b2_2 : o1 ≠ b2_2 := Nat.ne_of_lt (Nat.lt_of_lt_of_le lt2_o1 sz_b2_2)
  have ne_o2_b2_2 : o2 ≠ b2_2 := Nat.ne_of_lt (Nat.lt_of_lt_of_le lt2_o2 sz_b2_2)
  have ne_b1_b2_2 : b1 ≠ b2_2 := Nat.ne_of_lt (Nat.lt_of_lt_of_le lt2_b1 sz_b2_2)
  have gn_b2_2 : n0 ≤ b2_2 := Nat.le_trans (Nat.le_trans Z0 K1.1) sz_b2_2
  have sz_b2_2' := Nat.le_trans K1.1 sz_b2_2
  replace sz_b2_2 := sz_b2_2'
  have K2 : Keep h0 h2 [o2] := K1.trans K2q (allS (Or.inr sz_b1) all0)
  refine step (T2.setTop (mkF m 10 #[.val (.ref o1), .val (.ref o2)] [(.ref b1), .null, (.ref o2), (.ref o1)])) (fun t k => st2.trans k) ?_
  have f5 := (f3.keep K2q)
  have f6 := ((Pm1.ext E1).keep K2q (ninS ne_o1_b1 nin0))
  have f7 := ((Pm2.ext E1).keep K2q (ninS ne_o1_b1 nin0))
  have f8 := ((Pm3.ext E1).keep K2q (ninS ne_o1_b1 nin0))
  have f9 := ((Pm4.ext E1).keep K2q (ninS ne_o1_b1 nin0))
  have f10 := (f4.keep K2q (ninS ne_o2_b1 nin0))
  have f11 := (A1.keep K2q)
  obtain ⟨cq12, q12, q12'⟩ := f5.cell
  obtain ⟨_, _, ⟨T12, L12, k12, n12⟩, -, X12, ⟨Lc12, hQ12, l12, y12, z12⟩, st12⟩ := X2.privateBack hx (y := (⟨"com/example/vertex_to_service/vertextoservice/core/Choices", "writeTo", "([I[ILjava/util/ArrayDeque;)I"⟩ : MethodName)) hown (mvT hZ (hw _ (List.mem_of_getElem? (i := 47) rfl))) (mvT hZ (hw _ (List.mem_of_getElem? (i := 48) rfl))) (own_selP (mvT hZ (hw _ (List.mem_of_getElem? (i := 48) rfl))) (mvT hZ (hw _ (List.mem_of_getElem? (i := 5) rfl))) (Cond.privateMethod_at (mvP hZ (hw _ (List.mem_of_getElem? (i := 49) rfl)) (args := #[]))) (by decide)) (Cond.privateMethod_at (mvP hZ (hw _ (List.mem_of_getElem? (i := 49) rfl)) (args := #[]))) (mvT hZ (hw _ (List.mem_of_getElem? (i := 50) rfl))) (by decide) (backOf (W := 0) (rm7_31 l Z a0 hw [] o1 o2 b1 i1 kc2 i3 i4 i5 i6 b2_2 k2_2 h2 n0 (Nat.le_trans Z0 K2.1) f5 f6 f7 f8 f9 f10 f11 q0_2 q1_2 q2_2 q3_2 ov0_2 gn_o1 ne_o1_o2 ne_o1_b1 ne_o1_b2_2 gn_o2 ne_o2_b1 ne_o2_b2_2 gn_b1 ne_b1_b2_2 gn_b2_2 hy9) hZ (hw _ (List.mem_of_getElem? (i := 50) rfl)) (hw _ (List.mem_of_getElem? (i := 2) rfl)) (by decide) (by decide)) (g := (mkF m 10 #[.val (.ref o1), .val (.ref o2)] [(.ref b1), .null, (.ref o2), (.ref o1)])) rfl (by rw [hml]; rfl) (Steps.refl _) (a := o1) (by rw [e2]; exact q12) q12' (argsL := [(.ref o2), .null, (.ref b1)]) (rest := []) (lenOf pd_6 rfl) rfl (by show 2 * 0 + _ ≤ _; exact Nat.le_of_eq rfl) (hb hby d4_10) (fun _ _ => ⟨rfl, e2, (by decide : 2 + 0 ≤ _), (by decide : 20 + 0 ≤ _)⟩)
  dsimp only [Pt.U, Pt.locs, Pt.cells, Pt.slots] at X12 l12 y12 z12 st12 hQ12
  subst l12 y12 z12
  obtain ⟨h12, e12⟩ : ∃ z, T12.heap = z := ⟨_, rfl⟩
  rw [e12] at hQ12
  obtain ⟨rfl, N12q, K12q, q0_12, q1_12, q2_12, q3_12, q4_12⟩ := hQ12
  have N12 := Fr.app N2 N12q
  have K12 : Keep h0 h12 [o2] := K2.trans K12q (allS (Or.inr sz_b1) (allS (Or.inr sz_b2_2) (allS (Or.inl (List.mem_of_getElem? (i := 0) rfl)) all0)))
  refine step (T12.setTop (mkF m 13 #[.val (.ref o1), .val (.ref o2)] [(.int (1 : Int32))])) (fun t k => st12.trans k) ?_
  refine step (T12.setTop (mkF m 14 #[.val (.ref o1), .val (.ref o2)] [])) (fun t k => XS.pop X12.here hx rfl (hb hby d4_13) rfl rfl k) ?_
  refine fin (v := none) X12 (fun _ => rfl) ?_ (by decide) (by decide) (fun fs hr => X12.returnOut hx hret (hb hby d4_14) hr)
  show Q4_30 Z o1 o2 i1 kc2 i3 i4 i5 i6 h0 n0 (none) T12.heap _
  rw [e12]
  exact ⟨rfl, N12, K12, q4_12⟩
theorem ef_17_32 (m : MethodId) (x2 : Int32) (x3 : Int32) : entryFrame m #[(.int (0 : Int32)), (.int (1 : Int32)), (.int x2), (.int x3)] 4 = mkF m 0 #[.val (.int (0 : Int32)), .val (.int (1 : Int32)), .val (.int x2), .val (.int x3)] [] := by first | (simp [entryFrame, mkF, argsToLocals, Value.category]; done) | rfl
def Q17_32 (Z : State) (i1 : Int32) (i2 : Int32) (h0 : Heap) (n0 : Nat) (v : Option Value) (h : Heap) (L : List Loc) : Prop := v = some (.int (i2 + (0 : Int32))) ∧ Fr n0 L ∧ h = h0
set_option maxRecDepth 65536 in
set_option maxHeartbeats 40000000 in
theorem rm17_32 (l : Launch) (Z : State) (a0 : Array Value) (hw : ∀ d ∈ tables_1, d.before a0 Z = true) (ws : List Jvm.Cond) (i1 : Int32) (i2 : Int32) (h0 : Heap) (n0 : Nat) (Z0 : n0 ≤ h0.size) (hy0 : i2 = (i2 + (0 : Int32)))  :
    MetFree l (⟨"com/example/vertex_to_service/vertextoservice/core/ChoicesOfPinLaw", "expected", "(IIII)I"⟩ : MethodName) (head1 (Jvm.Cond.code (⟨"com/example/vertex_to_service/vertextoservice/core/ChoicesOfPinLaw", "expected", "(IIII)I"⟩ : MethodName) method_2_code 4 (some .int) :: ws) ({ frames := 0, cells := 0, slots := 0, locals := 0 } : Room)) (fun a U => a = #[(.int (0 : Int32)), (.int (1 : Int32)), (.int i1), (.int i2)] ∧ Z.Warmed39 U.vm ∧ U.heap = h0) (fun _ _ _ _ _ => True) (fun _ U o U' => ∃ v L, o = .returned v ∧ Q17_32 Z i1 i2 h0 n0 v U'.heap L ∧ FrameEnd U o U' L ({ frames := 0, cells := 0, slots := 0, locals := 0 } : Room).cells ({ frames := 0, cells := 0, slots := 0, locals := 0 } : Room).slots) := by
  refine own_body (plainFor_of_name pn_0) ?_
  intro p e s m below meth c s₁ G hx hby hml hZ hown hnm hret X0 e0 step fin
  replace hown : s.vm.findClass "com/example/vertex_to_service/vertextoservice/core/ChoicesOfPinLaw" = some m.cls := hown
  replace hnm : meth.name = "expected" := hnm
  replace hret : meth.sig.returnType = some .int := hret
  replace hml : c.maxLocals = 4 := hml
  have N0 := Fr.nil n0
  refine step (s₁.setTop (mkF m 0 #[.val (.int (0 : Int32)), .val (.int (1 : Int32)), .val (.int i1), .val (.int i2)] [])) (fun t k => castTop (ef_17_32 m i1 i2) k) ?_
  refine step (s₁.setTop (mkF m 1 #[.val (.int (0 : Int32)), .val (.int (1 : Int32)), .val (.int i1), .val (.int i2)] [(.int (0 : Int32))])) (fun t k => XS.iloadN X0.here hx rfl (hb hby d17_0) rfl k) ?_
  refine step (s₁.setTop (mkF m 2 #[.val (.int (0 : Int32)), .val (.int (1 : Int32)), .val (.int i1), .val (.int i2)] [(.int (1 : Int32)), (.int (0 : Int32))])) (fun t k => XS.iloadN X0.here hx rfl (hb hby d17_1) rfl k) ?_
  refine step (s₁.setTop (mkF m 7 #[.val (.int (0 : Int32)), .val (.int (1 : Int32)), .val (.int i1), .val (.int i2)] [])) (fun t k => XS.icmpYes X0.here hx rfl (pc0 := 2) (pc' := 7) rfl (hb hby d17_2) rfl (feq (by decide : ¬ ((0 : Int32) = (1 : Int32)))).2 (by decide) (by decide) k) ?_
  refine step (s₁.setTop (mkF m 8 #[.val (.int (0 : Int32)), .val (.int (1 : Int32)), .val (.int i1), .val (.int i2)] [(.int i2)])) (fun t k => XS.iloadN X0.here hx rfl (hb hby d17_7) rfl k) ?_
  refine step (s₁.setTop (mkF m 9 #[.val (.int (0 : Int32)), .val (.int (1 : Int32)), .val (.int i1), .val (.int i2)] [(.int (0 : Int32)), (.int i2)])) (fun t k => XS.iloadN X0.here hx rfl (hb hby d17_8) rfl k) ?_
  refine step (s₁.setTop (mkF m 10 #[.val (.int (0 : Int32)), .val (.int (1 : Int32)), .val (.int i1), .val (.int i2)] [(.int (i2 + (0 : Int32)))])) (fun t k => XS.iadd X0.here hx rfl (hb hby d17_9) rfl k) ?_
  refine fin (v := some (.int (i2 + (0 : Int32)))) X0 (fun h => by cases h) ?_ (by decide) (by decide) (fun fs hr => retI X0 hx hret (hb hby d17_10) hr)
  show Q17_32 Z i1 i2 h0 n0 (some (.int (i2 + (0 : Int32)))) s₁.heap _
  rw [e0]
  exact ⟨rfl, N0, rfl⟩
theorem ef_17_33 (m : MethodId) (x2 : Int32) (x3 : Int32) : entryFrame m #[(.int (1 : Int32)), (.int (1 : Int32)), (.int x2), (.int x3)] 4 = mkF m 0 #[.val (.int (1 : Int32)), .val (.int (1 : Int32)), .val (.int x2), .val (.int x3)] [] := by first | (simp [entryFrame, mkF, argsToLocals, Value.category]; done) | rfl
def Q17_33 (Z : State) (i1 : Int32) (i2 : Int32) (h0 : Heap) (n0 : Nat) (v : Option Value) (h : Heap) (L : List Loc) : Prop := v = some (.int i1) ∧ Fr n0 L ∧ h = h0
set_option maxRecDepth 65536 in
set_option maxHeartbeats 40000000 in
theorem rm17_33 (l : Launch) (Z : State) (a0 : Array Value) (hw : ∀ d ∈ tables_1, d.before a0 Z = true) (ws : List Jvm.Cond) (i1 : Int32) (i2 : Int32) (h0 : Heap) (n0 : Nat) (Z0 : n0 ≤ h0.size) (hy0 : i2 = (i2 + (0 : Int32)))  :
    MetFree l (⟨"com/example/vertex_to_service/vertextoservice/core/ChoicesOfPinLaw", "expected", "(IIII)I"⟩ : MethodName) (head1 (Jvm.Cond.code (⟨"com/example/vertex_to_service/vertextoservice/core/ChoicesOfPinLaw", "expected", "(IIII)I"⟩ : MethodName) method_2_code 4 (some .int) :: ws) ({ frames := 0, cells := 0, slots := 0, locals := 0 } : Room)) (fun a U => a = #[(.int (1 : Int32)), (.int (1 : Int32)), (.int i1), (.int i2)] ∧ Z.Warmed39 U.vm ∧ U.heap = h0) (fun _ _ _ _ _ => True) (fun _ U o U' => ∃ v L, o = .returned v ∧ Q17_33 Z i1 i2 h0 n0 v U'.heap L ∧ FrameEnd U o U' L ({ frames := 0, cells := 0, slots := 0, locals := 0 } : Room).cells ({ frames := 0, cells := 0, slots := 0, locals := 0 } : Room).slots) := by
  refine own_body (plainFor_of_name pn_0) ?_
  intro p e s m below meth c s₁ G hx hby hml hZ hown hnm hret X0 e0 step fin
  replace hown : s.vm.findClass "com/example/vertex_to_service/vertextoservice/core/ChoicesOfPinLaw" = some m.cls := hown
  replace hnm : meth.name = "expected" := hnm
  replace hret : meth.sig.returnType = some .int := hret
  replace hml : c.maxLocals = 4 := hml
  have N0 := Fr.nil n0
  refine step (s₁.setTop (mkF m 0 #[.val (.int (1 : Int32)), .val (.int (1 : Int32)), .val (.int i1), .val (.int i2)] [])) (fun t k => castTop (ef_17_33 m i1 i2) k) ?_
  refine step (s₁.setTop (mkF m 1 #[.val (.int (1 : Int32)), .val (.int (1 : Int32)), .val (.int i1), .val (.int i2)] [(.int (1 : Int32))])) (fun t k => XS.iloadN X0.here hx rfl (hb hby d17_0) rfl k) ?_
  refine step (s₁.setTop (mkF m 2 #[.val (.int (1 : Int32)), .val (.int (1 : Int32)), .val (.int i1), .val (.int i2)] [(.int (1 : Int32)), (.int (1 : Int32))])) (fun t k => XS.iloadN X0.here hx rfl (hb hby d17_1) rfl k) ?_
  refine step (s₁.setTop (mkF m 5 #[.val (.int (1 : Int32)), .val (.int (1 : Int32)), .val (.int i1), .val (.int i2)] [])) (fun t k => XS.icmpNo X0.here hx rfl (hb hby d17_2) rfl (teq (by decide : (1 : Int32) = (1 : Int32))).2 k) ?_
  refine step (s₁.setTop (mkF m 6 #[.val (.int (1 : Int32)), .val (.int (1 : Int32)), .val (.int i1), .val (.int i2)] [(.int i1)])) (fun t k => XS.iloadN X0.here hx rfl (hb hby d17_5) rfl k) ?_
  refine fin (v := some (.int i1)) X0 (fun h => by cases h) ?_ (by decide) (by decide) (fun fs hr => retI X0 hx hret (hb hby d17_6) hr)
  show Q17_33 Z i1 i2 h0 n0 (some (.int i1)) s₁.heap _
  rw [e0]
  exact ⟨rfl, N0, rfl⟩
theorem ef_17_34 (m : MethodId) (x2 : Int32) (x3 : Int32) : entryFrame m #[(.int (2 : Int32)), (.int (1 : Int32)), (.int x2), (.int x3)] 4 = mkF m 0 #[.val (.int (2 : Int32)), .val (.int (1 : Int32)), .val (.int x2), .val (.int x3)] [] := by first | (simp [entryFrame, mkF, argsToLocals, Value.category]; done) | rfl
def Q17_34 (Z : State) (i1 : Int32) (i2 : Int32) (h0 : Heap) (n0 : Nat) (v : Option Value) (h : Heap) (L : List Loc) : Prop := v = some (.int (i2 + (2 : Int32))) ∧ Fr n0 L ∧ h = h0
set_option maxRecDepth 65536 in
set_option maxHeartbeats 40000000 in
theorem rm17_34 (l : Launch) (Z : State) (a0 : Array Value) (hw : ∀ d ∈ tables_1, d.before a0 Z = true) (ws : List Jvm.Cond) (i1 : Int32) (i2 : Int32) (h0 : Heap) (n0 : Nat) (Z0 : n0 ≤ h0.size) (hy0 : i2 = (i2 + (0 : Int32)))  :
    MetFree l (⟨"com/example/vertex_to_service/vertextoservice/core/ChoicesOfPinLaw", "expected", "(IIII)I"⟩ : MethodName) (head1 (Jvm.Cond.code (⟨"com/example/vertex_to_service/vertextoservice/core/ChoicesOfPinLaw", "expected", "(IIII)I"⟩ : MethodName) method_2_code 4 (some .int) :: ws) ({ frames := 0, cells := 0, slots := 0, locals := 0 } : Room)) (fun a U => a = #[(.int (2 : Int32)), (.int (1 : Int32)), (.int i1), (.int i2)] ∧ Z.Warmed39 U.vm ∧ U.heap = h0) (fun _ _ _ _ _ => True) (fun _ U o U' => ∃ v L, o = .returned v ∧ Q17_34 Z i1 i2 h0 n0 v U'.heap L ∧ FrameEnd U o U' L ({ frames := 0, cells := 0, slots := 0, locals := 0 } : Room).cells ({ frames := 0, cells := 0, slots := 0, locals := 0 } : Room).slots) := by
  refine own_body (plainFor_of_name pn_0) ?_
  intro p e s m below meth c s₁ G hx hby hml hZ hown hnm hret X0 e0 step fin
  replace hown : s.vm.findClass "com/example/vertex_to_service/vertextoservice/core/ChoicesOfPinLaw" = some m.cls := hown
  replace hnm : meth.name = "expected" := hnm
  replace hret : meth.sig.returnType = some .int := hret
  replace hml : c.maxLocals = 4 := hml
  have N0 := Fr.nil n0
  refine step (s₁.setTop (mkF m 0 #[.val (.int (2 : Int32)), .val (.int (1 : Int32)), .val (.int i1), .val (.int i2)] [])) (fun t k => castTop (ef_17_34 m i1 i2) k) ?_
  refine step (s₁.setTop (mkF m 1 #[.val (.int (2 : Int32)), .val (.int (1 : Int32)), .val (.int i1), .val (.int i2)] [(.int (2 : Int32))])) (fun t k => XS.iloadN X0.here hx rfl (hb hby d17_0) rfl k) ?_
  refine step (s₁.setTop (mkF m 2 #[.val (.int (2 : Int32)), .val (.int (1 : Int32)), .val (.int i1), .val (.int i2)] [(.int (1 : Int32)), (.int (2 : Int32))])) (fun t k => XS.iloadN X0.here hx rfl (hb hby d17_1) rfl k) ?_
  refine step (s₁.setTop (mkF m 7 #[.val (.int (2 : Int32)), .val (.int (1 : Int32)), .val (.int i1), .val (.int i2)] [])) (fun t k => XS.icmpYes X0.here hx rfl (pc0 := 2) (pc' := 7) rfl (hb hby d17_2) rfl (feq (by decide : ¬ ((2 : Int32) = (1 : Int32)))).2 (by decide) (by decide) k) ?_
  refine step (s₁.setTop (mkF m 8 #[.val (.int (2 : Int32)), .val (.int (1 : Int32)), .val (.int i1), .val (.int i2)] [(.int i2)])) (fun t k => XS.iloadN X0.here hx rfl (hb hby d17_7) rfl k) ?_
  refine step (s₁.setTop (mkF m 9 #[.val (.int (2 : Int32)), .val (.int (1 : Int32)), .val (.int i1), .val (.int i2)] [(.int (2 : Int32)), (.int i2)])) (fun t k => XS.iloadN X0.here hx rfl (hb hby d17_8) rfl k) ?_
  refine step (s₁.setTop (mkF m 10 #[.val (.int (2 : Int32)), .val (.int (1 : Int32)), .val (.int i1), .val (.int i2)] [(.int (i2 + (2 : Int32)))])) (fun t k => XS.iadd X0.here hx rfl (hb hby d17_9) rfl k) ?_
  refine fin (v := some (.int (i2 + (2 : Int32)))) X0 (fun h => by cases h) ?_ (by decide) (by decide) (fun fs hr => retI X0 hx hret (hb hby d17_10) hr)
  show Q17_34 Z i1 i2 h0 n0 (some (.int (i2 + (2 : Int32)))) s₁.heap _
  rw [e0]
  exact ⟨rfl, N0, rfl⟩
theorem ef_17_35 (m : MethodId) (x2 : Int32) (x3 : Int32) : entryFrame m #[(.int (3 : Int32)), (.int (1 : Int32)), (.int x2), (.int x3)] 4 = mkF m 0 #[.val (.int (3 : Int32)), .val (.int (1 : Int32)), .val (.int x2), .val (.int x3)] [] := by first | (simp [entryFrame, mkF, argsToLocals, Value.category]; done) | rfl
def Q17_35 (Z : State) (i1 : Int32) (i2 : Int32) (h0 : Heap) (n0 : Nat) (v : Option Value) (h : Heap) (L : List Loc) : Prop := v = some (.int (i2 + (3 : Int32))) ∧ Fr n0 L ∧ h = h0
set_option maxRecDepth 65536 in
set_option maxHeartbeats 40000000 in
theorem rm17_35 (l : Launch) (Z : State) (a0 : Array Value) (hw : ∀ d ∈ tables_1, d.before a0 Z = true) (ws : List Jvm.Cond) (i1 : Int32) (i2 : Int32) (h0 : Heap) (n0 : Nat) (Z0 : n0 ≤ h0.size) (hy0 : i2 = (i2 + (0 : Int32)))  :
    MetFree l (⟨"com/example/vertex_to_service/vertextoservice/core/ChoicesOfPinLaw", "expected", "(IIII)I"⟩ : MethodName) (head1 (Jvm.Cond.code (⟨"com/example/vertex_to_service/vertextoservice/core/ChoicesOfPinLaw", "expected", "(IIII)I"⟩ : MethodName) method_2_code 4 (some .int) :: ws) ({ frames := 0, cells := 0, slots := 0, locals := 0 } : Room)) (fun a U => a = #[(.int (3 : Int32)), (.int (1 : Int32)), (.int i1), (.int i2)] ∧ Z.Warmed39 U.vm ∧ U.heap = h0) (fun _ _ _ _ _ => True) (fun _ U o U' => ∃ v L, o = .returned v ∧ Q17_35 Z i1 i2 h0 n0 v U'.heap L ∧ FrameEnd U o U' L ({ frames := 0, cells := 0, slots := 0, locals := 0 } : Room).cells ({ frames := 0, cells := 0, slots := 0, locals := 0 } : Room).slots) := by
  refine own_body (plainFor_of_name pn_0) ?_
  intro p e s m below meth c s₁ G hx hby hml hZ hown hnm hret X0 e0 step fin
  replace hown : s.vm.findClass "com/example/vertex_to_service/vertextoservice/core/ChoicesOfPinLaw" = some m.cls := hown
  replace hnm : meth.name = "expected" := hnm
  replace hret : meth.sig.returnType = some .int := hret
  replace hml : c.maxLocals = 4 := hml
  have N0 := Fr.nil n0
  refine step (s₁.setTop (mkF m 0 #[.val (.int (3 : Int32)), .val (.int (1 : Int32)), .val (.int i1), .val (.int i2)] [])) (fun t k => castTop (ef_17_35 m i1 i2) k) ?_
  refine step (s₁.setTop (mkF m 1 #[.val (.int (3 : Int32)), .val (.int (1 : Int32)), .val (.int i1), .val (.int i2)] [(.int (3 : Int32))])) (fun t k => XS.iloadN X0.here hx rfl (hb hby d17_0) rfl k) ?_
  refine step (s₁.setTop (mkF m 2 #[.val (.int (3 : Int32)), .val (.int (1 : Int32)), .val (.int i1), .val (.int i2)] [(.int (1 : Int32)), (.int (3 : Int32))])) (fun t k => XS.iloadN X0.here hx rfl (hb hby d17_1) rfl k) ?_
  refine step (s₁.setTop (mkF m 7 #[.val (.int (3 : Int32)), .val (.int (1 : Int32)), .val (.int i1), .val (.int i2)] [])) (fun t k => XS.icmpYes X0.here hx rfl (pc0 := 2) (pc' := 7) rfl (hb hby d17_2) rfl (feq (by decide : ¬ ((3 : Int32) = (1 : Int32)))).2 (by decide) (by decide) k) ?_
  refine step (s₁.setTop (mkF m 8 #[.val (.int (3 : Int32)), .val (.int (1 : Int32)), .val (.int i1), .val (.int i2)] [(.int i2)])) (fun t k => XS.iloadN X0.here hx rfl (hb hby d17_7) rfl k) ?_
  refine step (s₁.setTop (mkF m 9 #[.val (.int (3 : Int32)), .val (.int (1 : Int32)), .val (.int i1), .val (.int i2)] [(.int (3 : Int32)), (.int i2)])) (fun t k => XS.iloadN X0.here hx rfl (hb hby d17_8) rfl k) ?_
  refine step (s₁.setTop (mkF m 10 #[.val (.int (3 : Int32)), .val (.int (1 : Int32)), .val (.int i1), .val (.int i2)] [(.int (i2 + (3 : Int32)))])) (fun t k => XS.iadd X0.here hx rfl (hb hby d17_9) rfl k) ?_
  refine fin (v := some (.int (i2 + (3 : Int32)))) X0 (fun h => by cases h) ?_ (by decide) (by decide) (fun fs hr => retI X0 hx hret (hb hby d17_10) hr)
  show Q17_35 Z i1 i2 h0 n0 (some (.int (i2 + (3 : Int32)))) s₁.heap _
  rw [e0]
  exact ⟨rfl, N0, rfl⟩
theorem own_plain35 (p0 : Int32) (p1 : Int32) (p2 : Int32) (p3 : Int32) (p4 : Int32) (pv : Int32) (qv : Int32) (z30_7_75 : Int32) (z178_76 : Int32) (z186_79 : Int32) (hpv : (p0 &&& (2147483647 : Int32)) = pv) (hqv : (p2 &&& (2147483647 : Int32)) = qv) (hz30_7_75 : z30_7_75 = (if pv < qv then (1 : Int32) else (0 : Int32))) (hz178_76 : z178_76 = (if pv < qv then (1 : Int32) else (0 : Int32))) (hz186_79 : z186_79 = (if z30_7_75 = z178_76 then (1 : Int32) else (0 : Int32))) : ¬ (z186_79 = (0 : Int32)) := by
  subst hz30_7_75 hz178_76 hz186_79
  split <;> decide
theorem own_plain36 (p0 : Int32) (p1 : Int32) (p2 : Int32) (p3 : Int32) (p4 : Int32) (pv : Int32) (qv : Int32) (z30_7_83 : Int32) (z212_84 : Int32) (z220_87 : Int32) (hpv : (p0 &&& (2147483647 : Int32)) = pv) (hqv : (p2 &&& (2147483647 : Int32)) = qv) (hz30_7_83 : z30_7_83 = (if qv < pv then (1 : Int32) else (0 : Int32))) (hz212_84 : z212_84 = (if qv < pv then (1 : Int32) else (0 : Int32))) (hz220_87 : z220_87 = (if z30_7_83 = z212_84 then (1 : Int32) else (0 : Int32))) : ¬ (z220_87 = (0 : Int32)) := by
  subst hz30_7_83 hz212_84 hz220_87
  split <;> decide
theorem ef_2_39 (m : MethodId) (x0 : Addr) (x2 : Int32) : entryFrame m #[(.ref x0), (.int (2 : Int32)), (.int x2), .null, .null, (.int (2 : Int32)), (.int (2 : Int32))] 7 = mkF m 0 #[.val (.ref x0), .val (.int (2 : Int32)), .val (.int x2), .val .null, .val .null, .val (.int (2 : Int32)), .val (.int (2 : Int32))] [] := by first | (simp [entryFrame, mkF, argsToLocals, Value.category]; done) | rfl
def Q2_39 (Z : State) (o1 : Addr) (i1 : Int32) (h0 : Heap) (n0 : Nat) (v : Option Value) (h : Heap) (L : List Loc) : Prop := v = none ∧ Fr n0 L ∧ Keep h0 h [o1] ∧ Fld Z h o1 "com/example/vertex_to_service/vertextoservice/core/Choices" "candidate" "I" (.int i1) ∧ Fld Z h o1 "com/example/vertex_to_service/vertextoservice/core/Choices" "first" "Lcom/example/vertex_to_service/vertextoservice/core/Choices;" .null ∧ Fld Z h o1 "com/example/vertex_to_service/vertextoservice/core/Choices" "high" "I" (.int (2 : Int32)) ∧ Fld Z h o1 "com/example/vertex_to_service/vertextoservice/core/Choices" "low" "I" (.int (2 : Int32)) ∧ Fld Z h o1 "com/example/vertex_to_service/vertextoservice/core/Choices" "second" "Lcom/example/vertex_to_service/vertextoservice/core/Choices;" .null ∧ Fld Z h o1 "com/example/vertex_to_service/vertextoservice/core/Choices" "vertex" "I" (.int (2 : Int32))
set_option maxRecDepth 65536 in
set_option maxHeartbeats 40000000 in
theorem rm2_39 (l : Launch) (Z : State) (a0 : Array Value) (hw : ∀ d ∈ tables_1, d.before a0 Z = true) (ws : List Jvm.Cond) (o1 : Addr) (i1 : Int32) (h0 : Heap) (n0 : Nat) (Z0 : n0 ≤ h0.size) (Pm0 : Exa Z h0 o1 "com/example/vertex_to_service/vertextoservice/core/Choices") (Pm1 : Fld Z h0 o1 "com/example/vertex_to_service/vertextoservice/core/Choices" "candidate" "I" (.int (0 : Int32))) (Pm2 : Fld Z h0 o1 "com/example/vertex_to_service/vertextoservice/core/Choices" "first" "Lcom/example/vertex_to_service/vertextoservice/core/Choices;" .null) (Pm3 : Fld Z h0 o1 "com/example/vertex_to_service/vertextoservice/core/Choices" "high" "I" (.int (0 : Int32))) (Pm4 : Fld Z h0 o1 "com/example/vertex_to_service/vertextoservice/core/Choices" "low" "I" (.int (0 : Int32))) (Pm5 : Fld Z h0 o1 "com/example/vertex_to_service/vertextoservice/core/Choices" "second" "Lcom/example/vertex_to_service/vertextoservice/core/Choices;" .null) (Pm6 : Fld Z h0 o1 "com/example/vertex_to_service/vertextoservice/core/Choices" "vertex" "I" (.int (0 : Int32))) (gn_o1 : n0 ≤ o1)  :
    MetFree l (⟨"com/example/vertex_to_service/vertextoservice/core/Choices", "<init>", "(IILcom/example/vertex_to_service/vertextoservice/core/Choices;Lcom/example/vertex_to_service/vertextoservice/core/Choices;II)V"⟩ : MethodName) (head1 (Jvm.Cond.code (⟨"com/example/vertex_to_service/vertextoservice/core/Choices", "<init>", "(IILcom/example/vertex_to_service/vertextoservice/core/Choices;Lcom/example/vertex_to_service/vertextoservice/core/Choices;II)V"⟩ : MethodName) prog_10_method_1_code 7 none :: ws) ({ frames := 1, cells := 0, slots := 0, locals := 12 } : Room)) (fun a U => a = #[(.ref o1), (.int (2 : Int32)), (.int i1), .null, .null, (.int (2 : Int32)), (.int (2 : Int32))] ∧ Z.Warmed39 U.vm ∧ U.heap = h0) (fun _ _ _ _ _ => True) (fun _ U o U' => ∃ v L, o = .returned v ∧ Q2_39 Z o1 i1 h0 n0 v U'.heap L ∧ FrameEnd U o U' L ({ frames := 1, cells := 0, slots := 0, locals := 12 } : Room).cells ({ frames := 1, cells := 0, slots := 0, locals := 12 } : Room).slots) := by
  refine own_body (plainFor_of_name pn_1) ?_
  intro p e s m below meth c s₁ G hx hby hml hZ hown hnm hret X0 e0 step fin
  replace hown : s.vm.findClass "com/example/vertex_to_service/vertextoservice/core/Choices" = some m.cls := hown
  replace hnm : meth.name = "<init>" := hnm
  replace hret : meth.sig.returnType = none := hret
  replace hml : c.maxLocals = 7 := hml
  have N0 := Fr.nil n0
  refine step (s₁.setTop (mkF m 0 #[.val (.ref o1), .val (.int (2 : Int32)), .val (.int i1), .val .null, .val .null, .val (.int (2 : Int32)), .val (.int (2 : Int32))] [])) (fun t k => castTop (ef_2_39 m o1 i1) k) ?_
  refine step (s₁.setTop (mkF m 1 #[.val (.ref o1), .val (.int (2 : Int32)), .val (.int i1), .val .null, .val .null, .val (.int (2 : Int32)), .val (.int (2 : Int32))] [(.ref o1)])) (fun t k => XS.aloadN X0.here hx rfl (hb hby d2_0) rfl rfl k) ?_
  obtain ⟨T1, X1, e1, st1⟩ := initO X0 hx hZ hown (hw _ (List.mem_of_getElem? (i := 9) rfl)) (hw _ (List.mem_of_getElem? (i := 10) rfl)) (hw _ (List.mem_of_getElem? (i := 11) rfl)) e0 (g := (mkF m 1 #[.val (.ref o1), .val (.int (2 : Int32)), .val (.int i1), .val .null, .val .null, .val (.int (2 : Int32)), .val (.int (2 : Int32))] [(.ref o1)])) rfl (by rw [hml]; rfl) rfl (hb hby d2_1) (by decide) (W := 0) (by show 2 * 0 + _ ≤ _; exact Nat.le_of_eq rfl) (by decide)
  refine step (T1.setTop (mkF m 4 #[.val (.ref o1), .val (.int (2 : Int32)), .val (.int i1), .val .null, .val .null, .val (.int (2 : Int32)), .val (.int (2 : Int32))] [])) (fun t k => st1 t k) ?_
  refine step (T1.setTop (mkF m 5 #[.val (.ref o1), .val (.int (2 : Int32)), .val (.int i1), .val .null, .val .null, .val (.int (2 : Int32)), .val (.int (2 : Int32))] [(.ref o1)])) (fun t k => XS.aloadN X1.here hx rfl (hb hby d2_4) rfl rfl k) ?_
  refine step (T1.setTop (mkF m 6 #[.val (.ref o1), .val (.int (2 : Int32)), .val (.int i1), .val .null, .val .null, .val (.int (2 : Int32)), .val (.int (2 : Int32))] [(.int (2 : Int32)), (.ref o1)])) (fun t k => XS.iloadN X1.here hx rfl (hb hby d2_5) rfl k) ?_
  obtain ⟨T2, h2, X2, e2, W2, st2⟩ := putF X1 hx hZ hown (host := "") (Or.inl (hw _ (List.mem_of_getElem? (i := 12) rfl))) Via.refl e1 Pm6 Pm0 (Or.inr ⟨(hw _ (List.mem_of_getElem? (i := 13) rfl)), rfl, hnm⟩) (hw _ (List.mem_of_getElem? (i := 5) rfl)) (ty := .int) (by decide) rfl rfl (g := (mkF m 6 #[.val (.ref o1), .val (.int (2 : Int32)), .val (.int i1), .val .null, .val .null, .val (.int (2 : Int32)), .val (.int (2 : Int32))] [(.int (2 : Int32)), (.ref o1)])) rfl rfl (hb hby d2_6)
  have N2 := Fr.snoc X2 N0 gn_o1
  have K2 : Keep h0 h2 [o1] := (Keep.refl h0 [o1]).wr W2 (Or.inl (List.mem_of_getElem? (i := 0) rfl))
  have F2 := Pm6.same W2
  refine step (T2.setTop (mkF m 9 #[.val (.ref o1), .val (.int (2 : Int32)), .val (.int i1), .val .null, .val .null, .val (.int (2 : Int32)), .val (.int (2 : Int32))] [])) (fun t k => st2 t k) ?_
  refine step (T2.setTop (mkF m 10 #[.val (.ref o1), .val (.int (2 : Int32)), .val (.int i1), .val .null, .val .null, .val (.int (2 : Int32)), .val (.int (2 : Int32))] [(.ref o1)])) (fun t k => XS.aloadN X2.here hx rfl (hb hby d2_9) rfl rfl k) ?_
  refine step (T2.setTop (mkF m 11 #[.val (.ref o1), .val (.int (2 : Int32)), .val (.int i1), .val .null, .val .null, .val (.int (2 : Int32)), .val (.int (2 : Int32))] [(.int i1), (.ref o1)])) (fun t k => XS.iloadN X2.here hx rfl (hb hby d2_10) rfl k) ?_
  have f3 := (Pm0.wr W2)
  have f4 := (Pm1.other W2 (Or.inr (slot_ne (Or.inr (hw _ (List.mem_of_getElem? (i := 15) rfl))) (Or.inr (hw _ (List.mem_of_getElem? (i := 13) rfl))) (by decide) (t := .int) (t' := .int) (by decide) (by decide))))
  obtain ⟨T5, h5, X5, e5, W5, st5⟩ := putF X2 hx hZ hown (host := "") (Or.inl (hw _ (List.mem_of_getElem? (i := 14) rfl))) Via.refl e2 f4 f3 (Or.inr ⟨(hw _ (List.mem_of_getElem? (i := 15) rfl)), rfl, hnm⟩) (hw _ (List.mem_of_getElem? (i := 5) rfl)) (ty := .int) (by decide) rfl rfl (g := (mkF m 11 #[.val (.ref o1), .val (.int (2 : Int32)), .val (.int i1), .val .null, .val .null, .val (.int (2 : Int32)), .val (.int (2 : Int32))] [(.int i1), (.ref o1)])) rfl rfl (hb hby d2_11)
  have N5 := Fr.snoc X5 N2 gn_o1
  have K5 : Keep h0 h5 [o1] := K2.wr W5 (Or.inl (List.mem_of_getElem? (i := 0) rfl))
  have F5 := f4.same W5
  refine step (T5.setTop (mkF m 14 #[.val (.ref o1), .val (.int (2 : Int32)), .val (.int i1), .val .null, .val .null, .val (.int (2 : Int32)), .val (.int (2 : Int32))] [])) (fun t k => st5 t k) ?_
  refine step (T5.setTop (mkF m 15 #[.val (.ref o1), .val (.int (2 : Int32)), .val (.int i1), .val .null, .val .null, .val (.int (2 : Int32)), .val (.int (2 : Int32))] [(.ref o1)])) (fun t k => XS.aloadN X5.here hx rfl (hb hby d2_14) rfl rfl k) ?_
  refine step (T5.setTop (mkF m 16 #[.val (.ref o1), .val (.int (2 : Int32)), .val (.int i1), .val .null, .val .null, .val (.int (2 : Int32)), .val (.int (2 : Int32))] [.null, (.ref o1)])) (fun t k => XS.aloadN X5.here hx rfl (hb hby d2_15) rfl rfl k) ?_
  have f6 := (f3.wr W5)
  have f7 := ((Pm2.other W2 (Or.inr (slot_ne (Or.inr (hw _ (List.mem_of_getElem? (i := 17) rfl))) (Or.inr (hw _ (List.mem_of_getElem? (i := 13) rfl))) (by decide) (t := (.object "com/example/vertex_to_service/vertextoservice/core/Choices")) (t' := .int) (by decide) (by decide)))).other W5 (Or.inr (slot_ne (Or.inr (hw _ (List.mem_of_getElem? (i := 17) rfl))) (Or.inr (hw _ (List.mem_of_getElem? (i := 15) rfl))) (by decide) (t := (.object "com/example/vertex_to_service/vertextoservice/core/Choices")) (t' := .int) (by decide) (by decide))))
  obtain ⟨T8, h8, X8, e8, W8, st8⟩ := putF X5 hx hZ hown (host := "") (Or.inl (hw _ (List.mem_of_getElem? (i := 16) rfl))) Via.refl e5 f7 f6 (Or.inr ⟨(hw _ (List.mem_of_getElem? (i := 17) rfl)), rfl, hnm⟩) (hw _ (List.mem_of_getElem? (i := 5) rfl)) (ty := (.object "com/example/vertex_to_service/vertextoservice/core/Choices")) (by decide) rfl rfl (g := (mkF m 16 #[.val (.ref o1), .val (.int (2 : Int32)), .val (.int i1), .val .null, .val .null, .val (.int (2 : Int32)), .val (.int (2 : Int32))] [.null, (.ref o1)])) rfl rfl (hb hby d2_16)
  have N8 := Fr.snoc X8 N5 gn_o1
  have K8 : Keep h0 h8 [o1] := K5.wr W8 (Or.inl (List.mem_of_getElem? (i := 0) rfl))
  have F8 := f7.same W8
  refine step (T8.setTop (mkF m 19 #[.val (.ref o1), .val (.int (2 : Int32)), .val (.int i1), .val .null, .val .null, .val (.int (2 : Int32)), .val (.int (2 : Int32))] [])) (fun t k => st8 t k) ?_
  refine step (T8.setTop (mkF m 20 #[.val (.ref o1), .val (.int (2 : Int32)), .val (.int i1), .val .null, .val .null, .val (.int (2 : Int32)), .val (.int (2 : Int32))] [(.ref o1)])) (fun t k => XS.aloadN X8.here hx rfl (hb hby d2_19) rfl rfl k) ?_
  refine step (T8.setTop (mkF m 22 #[.val (.ref o1), .val (.int (2 : Int32)), .val (.int i1), .val .null, .val .null, .val (.int (2 : Int32)), .val (.int (2 : Int32))] [.null, (.ref o1)])) (fun t k => XS.aload X8.here hx rfl (hb hby d2_20) rfl rfl k) ?_
  have f9 := (f6.wr W8)
  have f10 := (((Pm5.other W2 (Or.inr (slot_ne (Or.inr (hw _ (List.mem_of_getElem? (i := 19) rfl))) (Or.inr (hw _ (List.mem_of_getElem? (i := 13) rfl))) (by decide) (t := (.object "com/example/vertex_to_service/vertextoservice/core/Choices")) (t' := .int) (by decide) (by decide)))).other W5 (Or.inr (slot_ne (Or.inr (hw _ (List.mem_of_getElem? (i := 19) rfl))) (Or.inr (hw _ (List.mem_of_getElem? (i := 15) rfl))) (by decide) (t := (.object "com/example/vertex_to_service/vertextoservice/core/Choices")) (t' := .int) (by decide) (by decide)))).other W8 (Or.inr (slot_ne (Or.inr (hw _ (List.mem_of_getElem? (i := 19) rfl))) (Or.inr (hw _ (List.mem_of_getElem? (i := 17) rfl))) (by decide) (t := (.object "com/example/vertex_to_service/vertextoservice/core/Choices")) (t' := (.object "com/example/vertex_to_service/vertextoservice/core/Choices")) (by decide) (by decide))))
  obtain ⟨T11, h11, X11, e11, W11, st11⟩ := putF X8 hx hZ hown (host := "") (Or.inl (hw _ (List.mem_of_getElem? (i := 18) rfl))) Via.refl e8 f10 f9 (Or.inr ⟨(hw _ (List.mem_of_getElem? (i := 19) rfl)), rfl, hnm⟩) (hw _ (List.mem_of_getElem? (i := 5) rfl)) (ty := (.object "com/example/vertex_to_service/vertextoservice/core/Choices")) (by decide) rfl rfl (g := (mkF m 22 #[.val (.ref o1), .val (.int (2 : Int32)), .val (.int i1), .val .null, .val .null, .val (.int (2 : Int32)), .val (.int (2 : Int32))] [.null, (.ref o1)])) rfl rfl (hb hby d2_22)
  have N11 := Fr.snoc X11 N8 gn_o1
  have K11 : Keep h0 h11 [o1] := K8.wr W11 (Or.inl (List.mem_of_getElem? (i := 0) rfl))
  have F11 := f10.same W11
  refine step (T11.setTop (mkF m 25 #[.val (.ref o1), .val (.int (2 : Int32)), .val (.int i1), .val .null, .val .null, .val (.int (2 : Int32)), .val (.int (2 : Int32))] [])) (fun t k => st11 t k) ?_
  refine step (T11.setTop (mkF m 26 #[.val (.ref o1), .val (.int (2 : Int32)), .val (.int i1), .val .null, .val .null, .val (.int (2 : Int32)), .val (.int (2 : Int32))] [(.ref o1)])) (fun t k => XS.aloadN X11.here hx rfl (hb hby d2_25) rfl rfl k) ?_
  refine step (T11.setTop (mkF m 28 #[.val (.ref o1), .val (.int (2 : Int32)), .val (.int i1), .val .null, .val .null, .val (.int (2 : Int32)), .val (.int (2 : Int32))] [(.int (2 : Int32)), (.ref o1)])) (fun t k => XS.iload X11.here hx rfl (hb hby d2_26) rfl k) ?_
  have f12 := (f9.wr W11)
  have f13 := ((((Pm4.other W2 (Or.inr (slot_ne (Or.inr (hw _ (List.mem_of_getElem? (i := 21) rfl))) (Or.inr (hw _ (List.mem_of_getElem? (i := 13) rfl))) (by decide) (t := .int) (t' := .int) (by decide) (by decide)))).other W5 (Or.inr (slot_ne (Or.inr (hw _ (List.mem_of_getElem? (i := 21) rfl))) (Or.inr (hw _ (List.mem_of_getElem? (i := 15) rfl))) (by decide) (t := .int) (t' := .int) (by decide) (by decide)))).other W8 (Or.inr (slot_ne (Or.inr (hw _ (List.mem_of_getElem? (i := 21) rfl))) (Or.inr (hw _ (List.mem_of_getElem? (i := 17) rfl))) (by decide) (t := .int) (t' := (.object "com/example/vertex_to_service/vertextoservice/core/Choices")) (by decide) (by decide)))).other W11 (Or.inr (slot_ne (Or.inr (hw _ (List.mem_of_getElem? (i := 21) rfl))) (Or.inr (hw _ (List.mem_of_getElem? (i := 19) rfl))) (by decide) (t := .int) (t' := (.object "com/example/vertex_to_service/vertextoservice/core/Choices")) (by decide) (by decide))))
  obtain ⟨T14, h14, X14, e14, W14, st14⟩ := putF X11 hx hZ hown (host := "") (Or.inl (hw _ (List.mem_of_getElem? (i := 20) rfl))) Via.refl e11 f13 f12 (Or.inr ⟨(hw _ (List.mem_of_getElem? (i := 21) rfl)), rfl, hnm⟩) (hw _ (List.mem_of_getElem? (i := 5) rfl)) (ty := .int) (by decide) rfl rfl (g := (mkF m 28 #[.val (.ref o1), .val (.int (2 : Int32)), .val (.int i1), .val .null, .val .null, .val (.int (2 : Int32)), .val (.int (2 : Int32))] [(.int (2 : Int32)), (.ref o1)])) rfl rfl (hb hby d2_28)
  have N14 := Fr.snoc X14 N11 gn_o1
  have K14 : Keep h0 h14 [o1] := K11.wr W14 (Or.inl (List.mem_of_getElem? (i := 0) rfl))
  have F14 := f13.same W14
  refine step (T14.setTop (mkF m 31 #[.val (.ref o1), .val (.int (2 : Int32)), .val (.int i1), .val .null, .val .null, .val (.int (2 : Int32)), .val (.int (2 : Int32))] [])) (fun t k => st14 t k) ?_
  refine step (T14.setTop (mkF m 32 #[.val (.ref o1), .val (.int (2 : Int32)), .val (.int i1), .val .null, .val .null, .val (.int (2 : Int32)), .val (.int (2 : Int32))] [(.ref o1)])) (fun t k => XS.aloadN X14.here hx rfl (hb hby d2_31) rfl rfl k) ?_
  refine step (T14.setTop (mkF m 34 #[.val (.ref o1), .val (.int (2 : Int32)), .val (.int i1), .val .null, .val .null, .val (.int (2 : Int32)), .val (.int (2 : Int32))] [(.int (2 : Int32)), (.ref o1)])) (fun t k => XS.iload X14.here hx rfl (hb hby d2_32) rfl k) ?_
  have f15 := (f12.wr W14)
  have f16 := (((((Pm3.other W2 (Or.inr (slot_ne (Or.inr (hw _ (List.mem_of_getElem? (i := 23) rfl))) (Or.inr (hw _ (List.mem_of_getElem? (i := 13) rfl))) (by decide) (t := .int) (t' := .int) (by decide) (by decide)))).other W5 (Or.inr (slot_ne (Or.inr (hw _ (List.mem_of_getElem? (i := 23) rfl))) (Or.inr (hw _ (List.mem_of_getElem? (i := 15) rfl))) (by decide) (t := .int) (t' := .int) (by decide) (by decide)))).other W8 (Or.inr (slot_ne (Or.inr (hw _ (List.mem_of_getElem? (i := 23) rfl))) (Or.inr (hw _ (List.mem_of_getElem? (i := 17) rfl))) (by decide) (t := .int) (t' := (.object "com/example/vertex_to_service/vertextoservice/core/Choices")) (by decide) (by decide)))).other W11 (Or.inr (slot_ne (Or.inr (hw _ (List.mem_of_getElem? (i := 23) rfl))) (Or.inr (hw _ (List.mem_of_getElem? (i := 19) rfl))) (by decide) (t := .int) (t' := (.object "com/example/vertex_to_service/vertextoservice/core/Choices")) (by decide) (by decide)))).other W14 (Or.inr (slot_ne (Or.inr (hw _ (List.mem_of_getElem? (i := 23) rfl))) (Or.inr (hw _ (List.mem_of_getElem? (i := 21) rfl))) (by decide) (t := .int) (t' := .int) (by decide) (by decide))))
  obtain ⟨T17, h17, X17, e17, W17, st17⟩ := putF X14 hx hZ hown (host := "") (Or.inl (hw _ (List.mem_of_getElem? (i := 22) rfl))) Via.refl e14 f16 f15 (Or.inr ⟨(hw _ (List.mem_of_getElem? (i := 23) rfl)), rfl, hnm⟩) (hw _ (List.mem_of_getElem? (i := 5) rfl)) (ty := .int) (by decide) rfl rfl (g := (mkF m 34 #[.val (.ref o1), .val (.int (2 : Int32)), .val (.int i1), .val .null, .val .null, .val (.int (2 : Int32)), .val (.int (2 : Int32))] [(.int (2 : Int32)), (.ref o1)])) rfl rfl (hb hby d2_34)
  have N17 := Fr.snoc X17 N14 gn_o1
  have K17 : Keep h0 h17 [o1] := K14.wr W17 (Or.inl (List.mem_of_getElem? (i := 0) rfl))
  have F17 := f16.same W17
  refine step (T17.setTop (mkF m 37 #[.val (.ref o1), .val (.int (2 : Int32)), .val (.int i1), .val .null, .val .null, .val (.int (2 : Int32)), .val (.int (2 : Int32))] [])) (fun t k => st17 t k) ?_
  have f18 := ((((F5.other W8 (Or.inr (slot_ne (Or.inr (hw _ (List.mem_of_getElem? (i := 15) rfl))) (Or.inr (hw _ (List.mem_of_getElem? (i := 17) rfl))) (by decide) (t := .int) (t' := (.object "com/example/vertex_to_service/vertextoservice/core/Choices")) (by decide) (by decide)))).other W11 (Or.inr (slot_ne (Or.inr (hw _ (List.mem_of_getElem? (i := 15) rfl))) (Or.inr (hw _ (List.mem_of_getElem? (i := 19) rfl))) (by decide) (t := .int) (t' := (.object "com/example/vertex_to_service/vertextoservice/core/Choices")) (by decide) (by decide)))).other W14 (Or.inr (slot_ne (Or.inr (hw _ (List.mem_of_getElem? (i := 15) rfl))) (Or.inr (hw _ (List.mem_of_getElem? (i := 21) rfl))) (by decide) (t := .int) (t' := .int) (by decide) (by decide)))).other W17 (Or.inr (slot_ne (Or.inr (hw _ (List.mem_of_getElem? (i := 15) rfl))) (Or.inr (hw _ (List.mem_of_getElem? (i := 23) rfl))) (by decide) (t := .int) (t' := .int) (by decide) (by decide))))
  have f19 := (((F8.other W11 (Or.inr (slot_ne (Or.inr (hw _ (List.mem_of_getElem? (i := 17) rfl))) (Or.inr (hw _ (List.mem_of_getElem? (i := 19) rfl))) (by decide) (t := (.object "com/example/vertex_to_service/vertextoservice/core/Choices")) (t' := (.object "com/example/vertex_to_service/vertextoservice/core/Choices")) (by decide) (by decide)))).other W14 (Or.inr (slot_ne (Or.inr (hw _ (List.mem_of_getElem? (i := 17) rfl))) (Or.inr (hw _ (List.mem_of_getElem? (i := 21) rfl))) (by decide) (t := (.object "com/example/vertex_to_service/vertextoservice/core/Choices")) (t' := .int) (by decide) (by decide)))).other W17 (Or.inr (slot_ne (Or.inr (hw _ (List.mem_of_getElem? (i := 17) rfl))) (Or.inr (hw _ (List.mem_of_getElem? (i := 23) rfl))) (by decide) (t := (.object "com/example/vertex_to_service/vertextoservice/core/Choices")) (t' := .int) (by decide) (by decide))))
  have f20 := (F14.other W17 (Or.inr (slot_ne (Or.inr (hw _ (List.mem_of_getElem? (i := 21) rfl))) (Or.inr (hw _ (List.mem_of_getElem? (i := 23) rfl))) (by decide) (t := .int) (t' := .int) (by decide) (by decide))))
  have f21 := ((F11.other W14 (Or.inr (slot_ne (Or.inr (hw _ (List.mem_of_getElem? (i := 19) rfl))) (Or.inr (hw _ (List.mem_of_getElem? (i := 21) rfl))) (by decide) (t := (.object "com/example/vertex_to_service/vertextoservice/core/Choices")) (t' := .int) (by decide) (by decide)))).other W17 (Or.inr (slot_ne (Or.inr (hw _ (List.mem_of_getElem? (i := 19) rfl))) (Or.inr (hw _ (List.mem_of_getElem? (i := 23) rfl))) (by decide) (t := (.object "com/example/vertex_to_service/vertextoservice/core/Choices")) (t' := .int) (by decide) (by decide))))
  have f22 := (((((F2.other W5 (Or.inr (slot_ne (Or.inr (hw _ (List.mem_of_getElem? (i := 13) rfl))) (Or.inr (hw _ (List.mem_of_getElem? (i := 15) rfl))) (by decide) (t := .int) (t' := .int) (by decide) (by decide)))).other W8 (Or.inr (slot_ne (Or.inr (hw _ (List.mem_of_getElem? (i := 13) rfl))) (Or.inr (hw _ (List.mem_of_getElem? (i := 17) rfl))) (by decide) (t := .int) (t' := (.object "com/example/vertex_to_service/vertextoservice/core/Choices")) (by decide) (by decide)))).other W11 (Or.inr (slot_ne (Or.inr (hw _ (List.mem_of_getElem? (i := 13) rfl))) (Or.inr (hw _ (List.mem_of_getElem? (i := 19) rfl))) (by decide) (t := .int) (t' := (.object "com/example/vertex_to_service/vertextoservice/core/Choices")) (by decide) (by decide)))).other W14 (Or.inr (slot_ne (Or.inr (hw _ (List.mem_of_getElem? (i := 13) rfl))) (Or.inr (hw _ (List.mem_of_getElem? (i := 21) rfl))) (by decide) (t := .int) (t' := .int) (by decide) (by decide)))).other W17 (Or.inr (slot_ne (Or.inr (hw _ (List.mem_of_getElem? (i := 13) rfl))) (Or.inr (hw _ (List.mem_of_getElem? (i := 23) rfl))) (by decide) (t := .int) (t' := .int) (by decide) (by decide))))
  refine fin (v := none) X17 (fun _ => rfl) ?_ (by decide) (by decide) (fun fs hr => X17.returnOut hx hret (hb hby d2_37) hr)
  show Q2_39 Z o1 i1 h0 n0 (none) T17.heap _
  rw [e17]
  exact ⟨rfl, N17, K17, f18, f19, F17, f20, f21, f22⟩
theorem ef_1_38 (m : MethodId) (x1 : Int32) : entryFrame m #[(.int (2 : Int32)), (.int x1)] 2 = mkF m 0 #[.val (.int (2 : Int32)), .val (.int x1)] [] := by first | (simp [entryFrame, mkF, argsToLocals, Value.category]; done) | rfl
def Q1_38 (Z : State) (i1 : Int32) (h0 : Heap) (n0 : Nat) (v : Option Value) (h : Heap) (L : List Loc) : Prop := ∃ (b1 : Addr), v = some (.ref b1) ∧ Fr n0 L ∧ Keep h0 h [] ∧ h0.size ≤ b1 ∧ Exa Z h b1 "com/example/vertex_to_service/vertextoservice/core/Choices" ∧ Fld Z h b1 "com/example/vertex_to_service/vertextoservice/core/Choices" "candidate" "I" (.int i1) ∧ Fld Z h b1 "com/example/vertex_to_service/vertextoservice/core/Choices" "first" "Lcom/example/vertex_to_service/vertextoservice/core/Choices;" .null ∧ Fld Z h b1 "com/example/vertex_to_service/vertextoservice/core/Choices" "high" "I" (.int (2 : Int32)) ∧ Fld Z h b1 "com/example/vertex_to_service/vertextoservice/core/Choices" "low" "I" (.int (2 : Int32)) ∧ Fld Z h b1 "com/example/vertex_to_service/vertextoservice/core/Choices" "second" "Lcom/example/vertex_to_service/vertextoservice/core/Choices;" .null ∧ Fld Z h b1 "com/example/vertex_to_service/vertextoservice/core/Choices" "vertex" "I" (.int (2 : Int32))
set_option maxRecDepth 65536 in
set_option maxHeartbeats 40000000 in
theorem rm1_38 (l : Launch) (Z : State) (a0 : Array Value) (hw : ∀ d ∈ tables_1, d.before a0 Z = true) (ws : List Jvm.Cond) (i1 : Int32) (h0 : Heap) (n0 : Nat) (Z0 : n0 ≤ h0.size)  :
    MetFree l (⟨"com/example/vertex_to_service/vertextoservice/core/Choices", "of", "(II)Lcom/example/vertex_to_service/vertextoservice/core/Choices;"⟩ : MethodName) (head1 (Jvm.Cond.code (⟨"com/example/vertex_to_service/vertextoservice/core/Choices", "of", "(II)Lcom/example/vertex_to_service/vertextoservice/core/Choices;"⟩ : MethodName) prog_10_method_2_code 2 (some (.object "com/example/vertex_to_service/vertextoservice/core/Choices")) :: ws) ({ frames := 2, cells := 1, slots := 6, locals := 31 } : Room)) (fun a U => a = #[(.int (2 : Int32)), (.int i1)] ∧ Z.Warmed39 U.vm ∧ U.heap = h0) (fun _ _ _ _ _ => True) (fun _ U o U' => ∃ v L, o = .returned v ∧ Q1_38 Z i1 h0 n0 v U'.heap L ∧ FrameEnd U o U' L ({ frames := 2, cells := 1, slots := 6, locals := 31 } : Room).cells ({ frames := 2, cells := 1, slots := 6, locals := 31 } : Room).slots) := by
  refine own_body (plainFor_of_name pn_1) ?_
  intro p e s m below meth c s₁ G hx hby hml hZ hown hnm hret X0 e0 step fin
  replace hown : s.vm.findClass "com/example/vertex_to_service/vertextoservice/core/Choices" = some m.cls := hown
  replace hnm : meth.name = "of" := hnm
  replace hret : meth.sig.returnType = some (.object "com/example/vertex_to_service/vertextoservice/core/Choices") := hret
  replace hml : c.maxLocals = 2 := hml
  have N0 := Fr.nil n0
  refine step (s₁.setTop (mkF m 0 #[.val (.int (2 : Int32)), .val (.int i1)] [])) (fun t k => castTop (ef_1_38 m i1) k) ?_
  obtain ⟨T1, h1, X1, e1, E1, A1, D1, -, st1⟩ := newO X0 hx hZ hown (hw _ (List.mem_of_getElem? (i := 4) rfl)) (hw _ (List.mem_of_getElem? (i := 5) rfl)) (hw _ (List.mem_of_getElem? (i := 2) rfl)) e0 (g := (mkF m 0 #[.val (.int (2 : Int32)), .val (.int i1)] [])) rfl (hb hby d1_0) (by decide) (by decide)
  obtain ⟨b1, g1⟩ : ∃ z, z = h0.size := ⟨_, rfl⟩
  rw [← g1] at A1 D1 st1
  have gn_b1 : n0 ≤ b1 := Nat.le_trans Z0 (Nat.le_of_eq g1.symm)
  have sz_b1 : h0.size ≤ b1 := Nat.le_of_eq g1.symm
  have K1 : Keep h0 h1 [] := (Keep.refl h0 []).ext E1
  have F_vertex_b1 : Fld Z h1 b1 "com/example/vertex_to_service/vertextoservice/core/Choices" "vertex" "I" (.int (0 : Int32)) := D1 (Or.inr (hw _ (List.mem_of_getElem? (i := 13) rfl))) (ty := .int) (by decide)
  have F_candidate_b1 : Fld Z h1 b1 "com/example/vertex_to_service/vertextoservice/core/Choices" "candidate" "I" (.int (0 : Int32)) := D1 (Or.inr (hw _ (List.mem_of_getElem? (i := 15) rfl))) (ty := .int) (by decide)
  have F_first_b1 : Fld Z h1 b1 "com/example/vertex_to_service/vertextoservice/core/Choices" "first" "Lcom/example/vertex_to_service/vertextoservice/core/Choices;" .null := D1 (Or.inr (hw _ (List.mem_of_getElem? (i := 17) rfl))) (ty := (.object "com/example/vertex_to_service/vertextoservice/core/Choices")) (by decide)
  have F_second_b1 : Fld Z h1 b1 "com/example/vertex_to_service/vertextoservice/core/Choices" "second" "Lcom/example/vertex_to_service/vertextoservice/core/Choices;" .null := D1 (Or.inr (hw _ (List.mem_of_getElem? (i := 19) rfl))) (ty := (.object "com/example/vertex_to_service/vertextoservice/core/Choices")) (by decide)
  have F_low_b1 : Fld Z h1 b1 "com/example/vertex_to_service/vertextoservice/core/Choices" "low" "I" (.int (0 : Int32)) := D1 (Or.inr (hw _ (List.mem_of_getElem? (i := 21) rfl))) (ty := .int) (by decide)
  have F_high_b1 : Fld Z h1 b1 "com/example/vertex_to_service/vertextoservice/core/Choices" "high" "I" (.int (0 : Int32)) := D1 (Or.inr (hw _ (List.mem_of_getElem? (i := 23) rfl))) (ty := .int) (by decide)
  refine step (T1.setTop (mkF m 3 #[.val (.int (2 : Int32)), .val (.int i1)] [(.ref b1)])) (fun t k => st1 t k) ?_
  refine step (T1.setTop (mkF m 4 #[.val (.int (2 : Int32)), .val (.int i1)] [(.ref b1), (.ref b1)])) (fun t k => XS.dup X1.here hx rfl (hb hby d1_3) rfl rfl k) ?_
  refine step (T1.setTop (mkF m 5 #[.val (.int (2 : Int32)), .val (.int i1)] [(.int (2 : Int32)), (.ref b1), (.ref b1)])) (fun t k => XS.iloadN X1.here hx rfl (hb hby d1_4) rfl k) ?_
  refine step (T1.setTop (mkF m 6 #[.val (.int (2 : Int32)), .val (.int i1)] [(.int i1), (.int (2 : Int32)), (.ref b1), (.ref b1)])) (fun t k => XS.iloadN X1.here hx rfl (hb hby d1_5) rfl k) ?_
  refine step (T1.setTop (mkF m 7 #[.val (.int (2 : Int32)), .val (.int i1)] [.null, (.int i1), (.int (2 : Int32)), (.ref b1), (.ref b1)])) (fun t k => XS.aconstNull X1.here hx rfl (hb hby d1_6) k) ?_
  refine step (T1.setTop (mkF m 8 #[.val (.int (2 : Int32)), .val (.int i1)] [.null, .null, (.int i1), (.int (2 : Int32)), (.ref b1), (.ref b1)])) (fun t k => XS.aconstNull X1.here hx rfl (hb hby d1_7) k) ?_
  refine step (T1.setTop (mkF m 9 #[.val (.int (2 : Int32)), .val (.int i1)] [(.int (2 : Int32)), .null, .null, (.int i1), (.int (2 : Int32)), (.ref b1), (.ref b1)])) (fun t k => XS.iloadN X1.here hx rfl (hb hby d1_8) rfl k) ?_
  refine step (T1.setTop (mkF m 10 #[.val (.int (2 : Int32)), .val (.int i1)] [(.int (2 : Int32)), (.int (2 : Int32)), .null, .null, (.int i1), (.int (2 : Int32)), (.ref b1), (.ref b1)])) (fun t k => XS.iloadN X1.here hx rfl (hb hby d1_9) rfl k) ?_
  obtain ⟨_, _, ⟨T2, L2, k2, n2⟩, -, X2, ⟨Lc2, hQ2, l2, y2, z2⟩, st2⟩ := X1.specialBack hx (y := (⟨"com/example/vertex_to_service/vertextoservice/core/Choices", "<init>", "(IILcom/example/vertex_to_service/vertextoservice/core/Choices;Lcom/example/vertex_to_service/vertextoservice/core/Choices;II)V"⟩ : MethodName)) rfl hown (mvT hZ (hw _ (List.mem_of_getElem? (i := 6) rfl))) (mvT hZ (hw _ (List.mem_of_getElem? (i := 7) rfl))) (mvT hZ (hw _ (List.mem_of_getElem? (i := 8) rfl))) (by decide) (backOf (W := 1) (rm2_39 l Z a0 hw [] b1 i1 h1 n0 (Nat.le_trans Z0 K1.1) A1 F_candidate_b1 F_first_b1 F_high_b1 F_low_b1 F_second_b1 F_vertex_b1 gn_b1) hZ (hw _ (List.mem_of_getElem? (i := 8) rfl)) (hw _ (List.mem_of_getElem? (i := 2) rfl)) (by decide) (by decide)) (g := (mkF m 10 #[.val (.int (2 : Int32)), .val (.int i1)] [(.int (2 : Int32)), (.int (2 : Int32)), .null, .null, (.int i1), (.int (2 : Int32)), (.ref b1), (.ref b1)])) rfl (by rw [hml]; rfl) (Steps.refl _) (a := b1) (argsL := [(.int (2 : Int32)), (.int i1), .null, .null, (.int (2 : Int32)), (.int (2 : Int32))]) (rest := [(.ref b1)]) (lenOf pd_4 rfl) rfl (by show 2 * 0 + _ ≤ _; exact Nat.le_of_eq rfl) (hb hby d1_10) (fun _ _ => ⟨rfl, e1, (by decide : 1 + 0 ≤ _), (by decide : 6 + 0 ≤ _)⟩)
  dsimp only [Pt.U, Pt.locs, Pt.cells, Pt.slots] at X2 l2 y2 z2 st2 hQ2
  subst l2 y2 z2
  obtain ⟨h2, e2⟩ : ∃ z, T2.heap = z := ⟨_, rfl⟩
  rw [e2] at hQ2
  obtain ⟨rfl, N2q, K2q, q0_2, q1_2, q2_2, q3_2, q4_2, q5_2⟩ := hQ2
  have N2 := Fr.app N0 N2q
  have K2 : Keep h0 h2 [] := K1.trans K2q (allS (Or.inr sz_b1) all0)
  refine step (T2.setTop (mkF m 13 #[.val (.int (2 : Int32)), .val (.int i1)] [(.ref b1)])) (fun t k => st2.trans k) ?_
  have f3 := (A1.keep K2q)
  refine fin (v := some (.ref b1)) X2 (fun h => by cases h) ?_ (by decide) (by decide) (fun fs hr => X2.areturnOut hx rfl hret rfl (hb hby d1_13) hr)
  show Q1_38 Z i1 h0 n0 (some (.ref b1)) T2.heap _
  rw [e2]
  exact ⟨b1, rfl, N2, K2, sz_b1, f3, q0_2, q1_2, q2_2, q3_2, q4_2, q5_2⟩
theorem ef_7_41 (m : MethodId) (x0 : Addr) (x1 : Addr) (x3 : Addr) : entryFrame m #[(.ref x0), (.ref x1), .null, (.ref x3)] 6 = mkF m 0 #[.val (.ref x0), .val (.ref x1), .val .null, .val (.ref x3), .unset, .unset] [] := by first | (simp [entryFrame, mkF, argsToLocals, Value.category]; done) | rfl
def Q7_41 (Z : State) (o1 : Addr) (o2 : Addr) (o3 : Addr) (i1 : Int32) (kc2 : ClassId) (i3 : Int32) (i4 : Int32) (i5 : Int32) (i6 : Int32) (o4 : Addr) (kc7 : ClassId) (h0 : Heap) (n0 : Nat) (v : Option Value) (h : Heap) (L : List Loc) : Prop := v = some (.int (1 : Int32)) ∧ Fr n0 L ∧ Keep h0 h [o3, o4, o2] ∧ Fld Z h o3 "java/util/ArrayDeque" "elements" "[Ljava/lang/Object;" (.ref o4) ∧ Fld Z h o3 "java/util/ArrayDeque" "head" "I" (.int (0 : Int32)) ∧ Fld Z h o3 "java/util/ArrayDeque" "tail" "I" (.int (0 : Int32)) ∧ Arv Z h o4 kc7 (.object "java/lang/Object") (17 : Int32) [.null, .null, .null, .null, .null, .null, .null, .null, .null, .null, .null, .null, .null, .null, .null, .null, .null] .null ∧ Arv Z h o2 kc2 .int (4 : Int32) [(.int i3), (.int i4), (.int i1), (.int i6)] (.int (0 : Int32))
set_option maxRecDepth 65536 in
set_option maxHeartbeats 40000000 in
theorem rm7_41 (l : Launch) (Z : State) (a0 : Array Value) (hw : ∀ d ∈ tables_1, d.before a0 Z = true) (ws : List Jvm.Cond) (o1 : Addr) (o2 : Addr) (o3 : Addr) (i1 : Int32) (kc2 : ClassId) (i3 : Int32) (i4 : Int32) (i5 : Int32) (i6 : Int32) (o4 : Addr) (kc7 : ClassId) (h0 : Heap) (n0 : Nat) (Z0 : n0 ≤ h0.size) (Pm0 : Exa Z h0 o1 "com/example/vertex_to_service/vertextoservice/core/Choices") (Pm1 : Fld Z h0 o1 "com/example/vertex_to_service/vertextoservice/core/Choices" "candidate" "I" (.int i1)) (Pm2 : Fld Z h0 o1 "com/example/vertex_to_service/vertextoservice/core/Choices" "first" "Lcom/example/vertex_to_service/vertextoservice/core/Choices;" .null) (Pm3 : Fld Z h0 o1 "com/example/vertex_to_service/vertextoservice/core/Choices" "second" "Lcom/example/vertex_to_service/vertextoservice/core/Choices;" .null) (Pm4 : Fld Z h0 o1 "com/example/vertex_to_service/vertextoservice/core/Choices" "vertex" "I" (.int (2 : Int32))) (Pm5 : Arv Z h0 o2 kc2 .int (4 : Int32) [(.int i3), (.int i4), (.int i5), (.int i6)] (.int (0 : Int32))) (Pm6 : Exa Z h0 o3 "java/util/ArrayDeque") (Pm7 : Fld Z h0 o3 "java/util/ArrayDeque" "elements" "[Ljava/lang/Object;" (.ref o4)) (Pm8 : Fld Z h0 o3 "java/util/ArrayDeque" "head" "I" (.int (0 : Int32))) (Pm9 : Fld Z h0 o3 "java/util/ArrayDeque" "tail" "I" (.int (0 : Int32))) (Pm10 : Arv Z h0 o4 kc7 (.object "java/lang/Object") (17 : Int32) [.null, .null, .null, .null, .null, .null, .null, .null, .null, .null, .null, .null, .null, .null, .null, .null, .null] .null) (O11 : Ovr Z kc7 "java/lang/Object") (gn_o1 : n0 ≤ o1) (ne_o1_o2 : o1 ≠ o2) (ne_o1_o3 : o1 ≠ o3) (ne_o1_o4 : o1 ≠ o4) (gn_o2 : n0 ≤ o2) (ne_o2_o3 : o2 ≠ o3) (ne_o2_o4 : o2 ≠ o4) (gn_o3 : n0 ≤ o3) (ne_o3_o4 : o3 ≠ o4) (gn_o4 : n0 ≤ o4) (hy22 : i3 = (i3 + (0 : Int32)))  :
    MetFree l (⟨"com/example/vertex_to_service/vertextoservice/core/Choices", "writeTo", "([I[ILjava/util/ArrayDeque;)I"⟩ : MethodName) (head1 (Jvm.Cond.code (⟨"com/example/vertex_to_service/vertextoservice/core/Choices", "writeTo", "([I[ILjava/util/ArrayDeque;)I"⟩ : MethodName) prog_10_method_7_code 6 (some .int) :: ws) ({ frames := 4, cells := 0, slots := 0, locals := 54 } : Room)) (fun a U => a = #[(.ref o1), (.ref o2), .null, (.ref o3)] ∧ Z.Warmed39 U.vm ∧ U.heap = h0) (fun _ _ _ _ _ => True) (fun _ U o U' => ∃ v L, o = .returned v ∧ Q7_41 Z o1 o2 o3 i1 kc2 i3 i4 i5 i6 o4 kc7 h0 n0 v U'.heap L ∧ FrameEnd U o U' L ({ frames := 4, cells := 0, slots := 0, locals := 54 } : Room).cells ({ frames := 4, cells := 0, slots := 0, locals := 54 } : Room).slots) := by
  refine own_body (plainFor_of_name pn_1) ?_
  intro p e s m below meth c s₁ G hx hby hml hZ hown hnm hret X0 e0 step fin
  replace hown : s.vm.findClass "com/example/vertex_to_service/vertextoservice/core/Choices" = some m.cls := hown
  replace hnm : meth.name = "writeTo" := hnm
  replace hret : meth.sig.returnType = some .int := hret
  replace hml : c.maxLocals = 6 := hml
  have N0 := Fr.nil n0
  refine step (s₁.setTop (mkF m 0 #[.val (.ref o1), .val (.ref o2), .val .null, .val (.ref o3), .unset, .unset] [])) (fun t k => castTop (ef_7_41 m o1 o2 o3) k) ?_
  refine step (s₁.setTop (mkF m 1 #[.val (.ref o1), .val (.ref o2), .val .null, .val (.ref o3), .unset, .unset] [(.int (0 : Int32))])) (fun t k => XS.iconst X0.here hx rfl (hb hby d7_0) k) ?_
  refine step (s₁.setTop (mkF m 3 #[.val (.ref o1), .val (.ref o2), .val .null, .val (.ref o3), .val (.int (0 : Int32)), .unset] [])) (fun t k => XS.istore X0.here hx rfl (hb hby d7_1) rfl (l' := #[.val (.ref o1), .val (.ref o2), .val .null, .val (.ref o3), .val (.int (0 : Int32)), .unset]) rfl k) ?_
  refine step (s₁.setTop (mkF m 4 #[.val (.ref o1), .val (.ref o2), .val .null, .val (.ref o3), .val (.int (0 : Int32)), .unset] [(.ref o3)])) (fun t k => XS.aloadN X0.here hx rfl (hb hby d7_3) rfl rfl k) ?_
  refine step (s₁.setTop (mkF m 5 #[.val (.ref o1), .val (.ref o2), .val .null, .val (.ref o3), .val (.int (0 : Int32)), .unset] [(.ref o1), (.ref o3)])) (fun t k => XS.aloadN X0.here hx rfl (hb hby d7_4) rfl rfl k) ?_
  obtain ⟨cq1, kq1, q1a, q1b, q1c⟩ := isOf hZ e0 Pm6
  obtain ⟨_, _, ⟨T1, L1, k1, n1⟩, -, X1, ⟨Lc1, hQ1, l1, y1, z1⟩, st1⟩ := X0.virtualBack hx (y := (⟨"java/util/ArrayDeque", "push", "(Ljava/lang/Object;)V"⟩ : MethodName)) (z := (⟨"java/util/ArrayDeque", "push", "(Ljava/lang/Object;)V"⟩ : MethodName)) hown (mvT hZ (hw _ (List.mem_of_getElem? (i := 51) rfl))) (mvT hZ (hw _ (List.mem_of_getElem? (i := 52) rfl))) (notFace_of_selects (args := #[]) (mvT hZ (hw _ (List.mem_of_getElem? (i := 54) rfl)))) (mvT hZ (hw _ (List.mem_of_getElem? (i := 54) rfl))) (mvT hZ (hw _ (List.mem_of_getElem? (i := 53) rfl))) (by decide) (backOf (W := 0) (rm8_7 l Z a0 hw [] o3 o1 o4 kc7 h0 n0 Z0 Pm6 Pm7 Pm8 Pm9 Pm0 Pm10 O11 gn_o3 (Ne.symm ne_o1_o3) ne_o3_o4 gn_o1 ne_o1_o4 gn_o4) hZ (hw _ (List.mem_of_getElem? (i := 55) rfl)) (hw _ (List.mem_of_getElem? (i := 32) rfl)) (by decide) (by decide)) q1a q1c (g := (mkF m 5 #[.val (.ref o1), .val (.ref o2), .val .null, .val (.ref o3), .val (.int (0 : Int32)), .unset] [(.ref o1), (.ref o3)])) rfl (by rw [hml]; rfl) (Steps.refl _) (argsL := [(.ref o1)]) (rest := []) (lenOf pd_7 rfl) rfl (by show 2 * 0 + _ ≤ _; exact Nat.le_of_eq rfl) (hb hby d7_5) (fun _ _ => ⟨rfl, e0, (by decide : 0 + 0 ≤ _), (by decide : 0 + 0 ≤ _)⟩)
  dsimp only [Pt.U, Pt.locs, Pt.cells, Pt.slots] at X1 l1 y1 z1 st1 hQ1
  subst l1 y1 z1
  obtain ⟨h1, e1⟩ : ∃ z, T1.heap = z := ⟨_, rfl⟩
  rw [e1] at hQ1
  obtain ⟨rfl, N1q, K1q, q0_1, q1_1, q2_1, q3_1⟩ := hQ1
  have N1 := Fr.app N0 N1q
  have K1 : Keep h0 h1 [o3, o4, o2] := (Keep.refl h0 [o3, o4, o2]).trans K1q (allS (Or.inl (List.mem_of_getElem? (i := 0) rfl)) (allS (Or.inl (List.mem_of_getElem? (i := 1) rfl)) all0))
  refine step (T1.setTop (mkF m 8 #[.val (.ref o1), .val (.ref o2), .val .null, .val (.ref o3), .val (.int (0 : Int32)), .unset] [])) (fun t k => st1.trans k) ?_
  refine step (T1.setTop (mkF m 9 #[.val (.ref o1), .val (.ref o2), .val .null, .val (.ref o3), .val (.int (0 : Int32)), .unset] [(.ref o3)])) (fun t k => XS.aloadN X1.here hx rfl (hb hby d7_8) rfl rfl k) ?_
  have f2 := (Pm6.keep K1q)
  obtain ⟨cq3, kq3, q3a, q3b, q3c⟩ := isOf hZ e1 f2
  obtain ⟨_, _, ⟨T3, L3, k3, n3⟩, -, X3, ⟨Lc3, hQ3, l3, y3, z3⟩, st3⟩ := X1.virtualBack hx (y := (⟨"java/util/ArrayDeque", "isEmpty", "()Z"⟩ : MethodName)) (z := (⟨"java/util/ArrayDeque", "isEmpty", "()Z"⟩ : MethodName)) hown (mvT hZ (hw _ (List.mem_of_getElem? (i := 69) rfl))) (mvT hZ (hw _ (List.mem_of_getElem? (i := 70) rfl))) (notFace_of_selects (args := #[]) (mvT hZ (hw _ (List.mem_of_getElem? (i := 72) rfl)))) (mvT hZ (hw _ (List.mem_of_getElem? (i := 72) rfl))) (mvT hZ (hw _ (List.mem_of_getElem? (i := 71) rfl))) (by decide) (backOf (W := 0) (rm11_10 l Z a0 hw [] o3 h1 n0 (Nat.le_trans Z0 K1.1) f2 q1_1 q2_1 gn_o3) hZ (hw _ (List.mem_of_getElem? (i := 73) rfl)) (hw _ (List.mem_of_getElem? (i := 32) rfl)) (by decide) (by decide)) q3a q3c (g := (mkF m 9 #[.val (.ref o1), .val (.ref o2), .val .null, .val (.ref o3), .val (.int (0 : Int32)), .unset] [(.ref o3)])) rfl (by rw [hml]; rfl) (Steps.refl _) (argsL := []) (rest := []) (lenOf pd_8 rfl) rfl (by show 2 * 0 + _ ≤ _; exact Nat.le_of_eq rfl) (hb hby d7_9) (fun _ _ => ⟨rfl, e1, (by decide : 0 + 0 ≤ _), (by decide : 0 + 0 ≤ _)⟩)
  dsimp only [Pt.U, Pt.locs, Pt.cells, Pt.slots] at X3 l3 y3 z3 st3 hQ3
  subst l3 y3 z3
  obtain ⟨rfl, N3q, e3q⟩ := hQ3
  have N3 := Fr.app N1 N3q
  refine step (T3.setTop (mkF m 12 #[.val (.ref o1), .val (.ref o2), .val .null, .val (.ref o3), .val (.int (0 : Int32)), .unset] [(.int (0 : Int32))])) (fun t k => st3.trans k) ?_
  refine step (T3.setTop (mkF m 15 #[.val (.ref o1), .val (.ref o2), .val .null, .val (.ref o3), .val (.int (0 : Int32)), .unset] [])) (fun t k => XS.ifNo X3.here hx rfl (hb hby d7_12) rfl ((if0 _ _).trans (teq (by decide : (0 : Int32) = (0 : Int32))).2) k) ?_
  refine step (T3.setTop (mkF m 16 #[.val (.ref o1), .val (.ref o2), .val .null, .val (.ref o3), .val (.int (0 : Int32)), .unset] [(.ref o3)])) (fun t k => XS.aloadN X3.here hx rfl (hb hby d7_15) rfl rfl k) ?_
  have f4 := (Pm0.keep K1q)
  obtain ⟨cq5, kq5, q5a, q5b, q5c⟩ := isOf hZ e3q f2
  obtain ⟨_, _, ⟨T5, L5, k5, n5⟩, -, X5, ⟨Lc5, hQ5, l5, y5, z5⟩, st5⟩ := X3.virtualBack hx (y := (⟨"java/util/ArrayDeque", "pop", "()Ljava/lang/Object;"⟩ : MethodName)) (z := (⟨"java/util/ArrayDeque", "pop", "()Ljava/lang/Object;"⟩ : MethodName)) hown (mvT hZ (hw _ (List.mem_of_getElem? (i := 74) rfl))) (mvT hZ (hw _ (List.mem_of_getElem? (i := 75) rfl))) (notFace_of_selects (args := #[]) (mvT hZ (hw _ (List.mem_of_getElem? (i := 77) rfl)))) (mvT hZ (hw _ (List.mem_of_getElem? (i := 77) rfl))) (mvT hZ (hw _ (List.mem_of_getElem? (i := 76) rfl))) (by decide) (backOf (W := 0) (rm12_11 l Z a0 hw [] o3 o4 kc7 o1 h1 n0 (Nat.le_trans Z0 K1.1) f2 q0_1 q1_1 q2_1 q3_1 O11 f4 gn_o3 ne_o3_o4 (Ne.symm ne_o1_o3) gn_o4 (Ne.symm ne_o1_o4) gn_o1) hZ (hw _ (List.mem_of_getElem? (i := 78) rfl)) (hw _ (List.mem_of_getElem? (i := 32) rfl)) (by decide) (by decide)) q5a q5c (g := (mkF m 16 #[.val (.ref o1), .val (.ref o2), .val .null, .val (.ref o3), .val (.int (0 : Int32)), .unset] [(.ref o3)])) rfl (by rw [hml]; rfl) (Steps.refl _) (argsL := []) (rest := []) (lenOf pd_9 rfl) rfl (by show 2 * 0 + _ ≤ _; exact Nat.le_of_eq rfl) (hb hby d7_16) (fun _ _ => ⟨rfl, e3q, (by decide : 0 + 0 ≤ _), (by decide : 0 + 0 ≤ _)⟩)
  dsimp only [Pt.U, Pt.locs, Pt.cells, Pt.slots] at X5 l5 y5 z5 st5 hQ5
  subst l5 y5 z5
  obtain ⟨h5, e5⟩ : ∃ z, T5.heap = z := ⟨_, rfl⟩
  rw [e5] at hQ5
  obtain ⟨rfl, N5q, K5q, q0_5, q1_5, q2_5, q3_5⟩ := hQ5
  have N5 := Fr.app N3 N5q
  have K5 : Keep h0 h5 [o3, o4, o2] := K1.trans K5q (allS (Or.inl (List.mem_of_getElem? (i := 1) rfl)) (allS (Or.inl (List.mem_of_getElem? (i := 0) rfl)) all0))
  refine step (T5.setTop (mkF m 19 #[.val (.ref o1), .val (.ref o2), .val .null, .val (.ref o3), .val (.int (0 : Int32)), .unset] [(.ref o1)])) (fun t k => st5.trans k) ?_
  have f6 := (f4.keep K5q)
  obtain ⟨T7, X7, e7, st7⟩ := castY X5 hx hZ hown (hw _ (List.mem_of_getElem? (i := 4) rfl)) e5 (Ins.self f6) (g := (mkF m 19 #[.val (.ref o1), .val (.ref o2), .val .null, .val (.ref o3), .val (.int (0 : Int32)), .unset] [(.ref o1)])) rfl rfl (hb hby d7_19)
  refine step (T7.setTop (mkF m 22 #[.val (.ref o1), .val (.ref o2), .val .null, .val (.ref o3), .val (.int (0 : Int32)), .unset] [(.ref o1)])) (fun t k => st7 t k) ?_
  refine step (T7.setTop (mkF m 24 #[.val (.ref o1), .val (.ref o2), .val .null, .val (.ref o3), .val (.int (0 : Int32)), .val (.ref o1)] [])) (fun t k => XS.astore X7.here hx rfl (hb hby d7_22) rfl rfl (l' := #[.val (.ref o1), .val (.ref o2), .val .null, .val (.ref o3), .val (.int (0 : Int32)), .val (.ref o1)]) rfl k) ?_
  refine step (T7.setTop (mkF m 26 #[.val (.ref o1), .val (.ref o2), .val .null, .val (.ref o3), .val (.int (0 : Int32)), .val (.ref o1)] [(.ref o1)])) (fun t k => XS.aload X7.here hx rfl (hb hby d7_24) rfl rfl k) ?_
  have f8 := ((Pm2.keep K1q (ninS ne_o1_o3 (ninS ne_o1_o4 nin0))).keep K5q (ninS ne_o1_o4 (ninS ne_o1_o3 nin0)))
  obtain ⟨T9, X9, e9, st9⟩ := getF X7 hx hZ hown (host := "") (Or.inl (hw _ (List.mem_of_getElem? (i := 16) rfl))) Via.refl e7 f8 (g := (mkF m 26 #[.val (.ref o1), .val (.ref o2), .val .null, .val (.ref o3), .val (.int (0 : Int32)), .val (.ref o1)] [(.ref o1)])) rfl rfl (hb hby d7_26)
  refine step (T9.setTop (mkF m 29 #[.val (.ref o1), .val (.ref o2), .val .null, .val (.ref o3), .val (.int (0 : Int32)), .val (.ref o1)] [.null])) (fun t k => st9 t k) ?_
  refine step (T9.setTop (mkF m 53 #[.val (.ref o1), .val (.ref o2), .val .null, .val (.ref o3), .val (.int (0 : Int32)), .val (.ref o1)] [])) (fun t k => XS.ifnullYes X9.here hx rfl (pc0 := 29) (pc' := 53) rfl (hb hby d7_29) rfl (by decide) (by decide) k) ?_
  refine step (T9.setTop (mkF m 55 #[.val (.ref o1), .val (.ref o2), .val .null, .val (.ref o3), .val (.int (0 : Int32)), .val (.ref o1)] [(.ref o1)])) (fun t k => XS.aload X9.here hx rfl (hb hby d7_53) rfl rfl k) ?_
  have f10 := ((Pm4.keep K1q (ninS ne_o1_o3 (ninS ne_o1_o4 nin0))).keep K5q (ninS ne_o1_o4 (ninS ne_o1_o3 nin0)))
  obtain ⟨T11, X11, e11, st11⟩ := getF X9 hx hZ hown (host := "") (Or.inl (hw _ (List.mem_of_getElem? (i := 12) rfl))) Via.refl e9 f10 (g := (mkF m 55 #[.val (.ref o1), .val (.ref o2), .val .null, .val (.ref o3), .val (.int (0 : Int32)), .val (.ref o1)] [(.ref o1)])) rfl rfl (hb hby d7_55)
  refine step (T11.setTop (mkF m 58 #[.val (.ref o1), .val (.ref o2), .val .null, .val (.ref o3), .val (.int (0 : Int32)), .val (.ref o1)] [(.int (2 : Int32))])) (fun t k => st11 t k) ?_
  refine step (T11.setTop (mkF m 61 #[.val (.ref o1), .val (.ref o2), .val .null, .val (.ref o3), .val (.int (0 : Int32)), .val (.ref o1)] [])) (fun t k => XS.ifNo X11.here hx rfl (hb hby d7_58) rfl ((if0 _ _).trans (flt (by decide : ¬ ((2 : Int32) < (0 : Int32)))).1) k) ?_
  refine step (T11.setTop (mkF m 62 #[.val (.ref o1), .val (.ref o2), .val .null, .val (.ref o3), .val (.int (0 : Int32)), .val (.ref o1)] [(.ref o2)])) (fun t k => XS.aloadN X11.here hx rfl (hb hby d7_61) rfl rfl k) ?_
  refine step (T11.setTop (mkF m 64 #[.val (.ref o1), .val (.ref o2), .val .null, .val (.ref o3), .val (.int (0 : Int32)), .val (.ref o1)] [(.ref o1), (.ref o2)])) (fun t k => XS.aload X11.here hx rfl (hb hby d7_62) rfl rfl k) ?_
  obtain ⟨T12, X12, e12, st12⟩ := getF X11 hx hZ hown (host := "") (Or.inl (hw _ (List.mem_of_getElem? (i := 12) rfl))) Via.refl e11 f10 (g := (mkF m 64 #[.val (.ref o1), .val (.ref o2), .val .null, .val (.ref o3), .val (.int (0 : Int32)), .val (.ref o1)] [(.ref o1), (.ref o2)])) rfl rfl (hb hby d7_64)
  refine step (T12.setTop (mkF m 67 #[.val (.ref o1), .val (.ref o2), .val .null, .val (.ref o3), .val (.int (0 : Int32)), .val (.ref o1)] [(.int (2 : Int32)), (.ref o2)])) (fun t k => st12 t k) ?_
  refine step (T12.setTop (mkF m 69 #[.val (.ref o1), .val (.ref o2), .val .null, .val (.ref o3), .val (.int (0 : Int32)), .val (.ref o1)] [(.ref o1), (.int (2 : Int32)), (.ref o2)])) (fun t k => XS.aload X12.here hx rfl (hb hby d7_67) rfl rfl k) ?_
  have f13 := ((Pm1.keep K1q (ninS ne_o1_o3 (ninS ne_o1_o4 nin0))).keep K5q (ninS ne_o1_o4 (ninS ne_o1_o3 nin0)))
  obtain ⟨T14, X14, e14, st14⟩ := getF X12 hx hZ hown (host := "") (Or.inl (hw _ (List.mem_of_getElem? (i := 14) rfl))) Via.refl e12 f13 (g := (mkF m 69 #[.val (.ref o1), .val (.ref o2), .val .null, .val (.ref o3), .val (.int (0 : Int32)), .val (.ref o1)] [(.ref o1), (.int (2 : Int32)), (.ref o2)])) rfl rfl (hb hby d7_69)
  refine step (T14.setTop (mkF m 72 #[.val (.ref o1), .val (.ref o2), .val .null, .val (.ref o3), .val (.int (0 : Int32)), .val (.ref o1)] [(.int i1), (.int (2 : Int32)), (.ref o2)])) (fun t k => st14 t k) ?_
  have f15 := ((Pm5.keep K1q (ninS ne_o2_o3 (ninS ne_o2_o4 nin0))).keep K5q (ninS ne_o2_o4 (ninS ne_o2_o3 nin0)))
  obtain ⟨cl16, Ar16, q16, S16, N16n, H16, G16⟩ := id f15
  have hin16 : ¬ ((2 : Int32) < 0 ∨ cl16.slots.size ≤ ((2 : Int32)).toNatClampNeg) := inb_of S16 ⟨by decide, by decide⟩
  obtain ⟨T16, h16, X16, e16, W16, st16⟩ := stI X14 hx hZ e14 Ar16 (j := (2 : Int32)) hin16 (g := (mkF m 72 #[.val (.ref o1), .val (.ref o2), .val .null, .val (.ref o3), .val (.int (0 : Int32)), .val (.ref o1)] [(.int i1), (.int (2 : Int32)), (.ref o2)])) rfl rfl (hb hby d7_72)
  have N16 := Fr.snoc X16 N5 gn_o2
  have K16 : Keep h0 h16 [o3, o4, o2] := K5.wr W16 (Or.inl (List.mem_of_getElem? (i := 2) rfl))
  have V16 : Arv Z h16 o2 kc2 .int (4 : Int32) [(.int i3), (.int i4), (.int i1), (.int i6)] (.int (0 : Int32)) := Arv.set Ar16 q16 S16 N16n H16 G16 rfl W16 2 rfl (Nat.le_of_ble_eq_true rfl)
  refine step (T16.setTop (mkF m 73 #[.val (.ref o1), .val (.ref o2), .val .null, .val (.ref o3), .val (.int (0 : Int32)), .val (.ref o1)] [])) (fun t k => st16 t k) ?_
  refine step (T16.setTop (mkF m 74 #[.val (.ref o1), .val (.ref o2), .val .null, .val (.ref o3), .val (.int (0 : Int32)), .val (.ref o1)] [.null])) (fun t k => XS.aloadN X16.here hx rfl (hb hby d7_73) rfl rfl k) ?_
  refine step (T16.setTop (mkF m 86 #[.val (.ref o1), .val (.ref o2), .val .null, .val (.ref o3), .val (.int (0 : Int32)), .val (.ref o1)] [])) (fun t k => XS.ifnullYes X16.here hx rfl (pc0 := 74) (pc' := 86) rfl (hb hby d7_74) rfl (by decide) (by decide) k) ?_
  refine step (T16.setTop (mkF m 89 #[.val (.ref o1), .val (.ref o2), .val .null, .val (.ref o3), .val (.int (1 : Int32)), .val (.ref o1)] [])) (fun t k => XS.iinc X16.here hx rfl (hb hby d7_86) rfl (l' := #[.val (.ref o1), .val (.ref o2), .val .null, .val (.ref o3), .val (.int (1 : Int32)), .val (.ref o1)]) rfl k) ?_
  refine step (T16.setTop (mkF m 8 #[.val (.ref o1), .val (.ref o2), .val .null, .val (.ref o3), .val (.int (1 : Int32)), .val (.ref o1)] [])) (fun t k => XS.goto X16.here hx rfl (pc0 := 89) (pc' := 8) rfl (hb hby d7_89) (by decide) (by decide) k) ?_
  refine step (T16.setTop (mkF m 9 #[.val (.ref o1), .val (.ref o2), .val .null, .val (.ref o3), .val (.int (1 : Int32)), .val (.ref o1)] [(.ref o3)])) (fun t k => XS.aloadN X16.here hx rfl (hb hby d7_8) rfl rfl k) ?_
  have f17 := ((f2.keep K5q).wr W16)
  have f18 := (q2_5.other W16 (Or.inl (Ne.symm ne_o2_o3)))
  have f19 := (q3_5.other W16 (Or.inl (Ne.symm ne_o2_o3)))
  obtain ⟨cq20, kq20, q20a, q20b, q20c⟩ := isOf hZ e16 f17
  obtain ⟨_, _, ⟨T20, L20, k20, n20⟩, -, X20, ⟨Lc20, hQ20, l20, y20, z20⟩, st20⟩ := X16.virtualBack hx (y := (⟨"java/util/ArrayDeque", "isEmpty", "()Z"⟩ : MethodName)) (z := (⟨"java/util/ArrayDeque", "isEmpty", "()Z"⟩ : MethodName)) hown (mvT hZ (hw _ (List.mem_of_getElem? (i := 69) rfl))) (mvT hZ (hw _ (List.mem_of_getElem? (i := 70) rfl))) (notFace_of_selects (args := #[]) (mvT hZ (hw _ (List.mem_of_getElem? (i := 72) rfl)))) (mvT hZ (hw _ (List.mem_of_getElem? (i := 72) rfl))) (mvT hZ (hw _ (List.mem_of_getElem? (i := 71) rfl))) (by decide) (backOf (W := 0) (rm11_16 l Z a0 hw [] o3 h16 n0 (Nat.le_trans Z0 K16.1) f17 f18 f19 gn_o3) hZ (hw _ (List.mem_of_getElem? (i := 73) rfl)) (hw _ (List.mem_of_getElem? (i := 32) rfl)) (by decide) (by decide)) q20a q20c (g := (mkF m 9 #[.val (.ref o1), .val (.ref o2), .val .null, .val (.ref o3), .val (.int (1 : Int32)), .val (.ref o1)] [(.ref o3)])) rfl (by rw [hml]; rfl) (Steps.refl _) (argsL := []) (rest := []) (lenOf pd_8 rfl) rfl (by show 2 * 0 + _ ≤ _; exact Nat.le_of_eq rfl) (hb hby d7_9) (fun _ _ => ⟨rfl, e16, (by decide : 0 + 0 ≤ _), (by decide : 0 + 0 ≤ _)⟩)
  dsimp only [Pt.U, Pt.locs, Pt.cells, Pt.slots] at X20 l20 y20 z20 st20 hQ20
  subst l20 y20 z20
  obtain ⟨rfl, N20q, e20q⟩ := hQ20
  have N20 := Fr.app N16 N20q
  refine step (T20.setTop (mkF m 12 #[.val (.ref o1), .val (.ref o2), .val .null, .val (.ref o3), .val (.int (1 : Int32)), .val (.ref o1)] [(.int (1 : Int32))])) (fun t k => st20.trans k) ?_
  refine step (T20.setTop (mkF m 92 #[.val (.ref o1), .val (.ref o2), .val .null, .val (.ref o3), .val (.int (1 : Int32)), .val (.ref o1)] [])) (fun t k => XS.ifYes X20.here hx rfl (pc0 := 12) (pc' := 92) rfl (hb hby d7_12) rfl ((if0 _ _).trans (feq (by decide : ¬ ((1 : Int32) = (0 : Int32)))).2) (by decide) (by decide) k) ?_
  refine step (T20.setTop (mkF m 94 #[.val (.ref o1), .val (.ref o2), .val .null, .val (.ref o3), .val (.int (1 : Int32)), .val (.ref o1)] [(.int (1 : Int32))])) (fun t k => XS.iload X20.here hx rfl (hb hby d7_92) rfl k) ?_
  have f21 := (q1_5.other W16 (Or.inl (Ne.symm ne_o2_o3)))
  have f22 := (q0_5.other W16 (Ne.symm ne_o2_o4))
  refine fin (v := some (.int (1 : Int32))) X20 (fun h => by cases h) ?_ (by decide) (by decide) (fun fs hr => retI X20 hx hret (hb hby d7_94) hr)
  show Q7_41 Z o1 o2 o3 i1 kc2 i3 i4 i5 i6 o4 kc7 h0 n0 (some (.int (1 : Int32))) T20.heap _
  rw [e20q]
  exact ⟨rfl, N20, K16, f21, f18, f19, f22, V16⟩
theorem ef_4_40 (m : MethodId) (x0 : Addr) (x1 : Addr) : entryFrame m #[(.ref x0), (.ref x1)] 2 = mkF m 0 #[.val (.ref x0), .val (.ref x1)] [] := by first | (simp [entryFrame, mkF, argsToLocals, Value.category]; done) | rfl
def Q4_40 (Z : State) (o1 : Addr) (o2 : Addr) (i1 : Int32) (kc2 : ClassId) (i3 : Int32) (i4 : Int32) (i5 : Int32) (i6 : Int32) (h0 : Heap) (n0 : Nat) (v : Option Value) (h : Heap) (L : List Loc) : Prop := v = none ∧ Fr n0 L ∧ Keep h0 h [o2] ∧ Arv Z h o2 kc2 .int (4 : Int32) [(.int i3), (.int i4), (.int i1), (.int i6)] (.int (0 : Int32))
set_option maxRecDepth 65536 in
set_option maxHeartbeats 40000000 in
theorem rm4_40 (l : Launch) (Z : State) (a0 : Array Value) (hw : ∀ d ∈ tables_1, d.before a0 Z = true) (ws : List Jvm.Cond) (o1 : Addr) (o2 : Addr) (i1 : Int32) (kc2 : ClassId) (i3 : Int32) (i4 : Int32) (i5 : Int32) (i6 : Int32) (h0 : Heap) (n0 : Nat) (Z0 : n0 ≤ h0.size) (Pm0 : Exa Z h0 o1 "com/example/vertex_to_service/vertextoservice/core/Choices") (Pm1 : Fld Z h0 o1 "com/example/vertex_to_service/vertextoservice/core/Choices" "candidate" "I" (.int i1)) (Pm2 : Fld Z h0 o1 "com/example/vertex_to_service/vertextoservice/core/Choices" "first" "Lcom/example/vertex_to_service/vertextoservice/core/Choices;" .null) (Pm3 : Fld Z h0 o1 "com/example/vertex_to_service/vertextoservice/core/Choices" "second" "Lcom/example/vertex_to_service/vertextoservice/core/Choices;" .null) (Pm4 : Fld Z h0 o1 "com/example/vertex_to_service/vertextoservice/core/Choices" "vertex" "I" (.int (2 : Int32))) (Pm5 : Arv Z h0 o2 kc2 .int (4 : Int32) [(.int i3), (.int i4), (.int i5), (.int i6)] (.int (0 : Int32))) (gn_o1 : n0 ≤ o1) (ne_o1_o2 : o1 ≠ o2) (gn_o2 : n0 ≤ o2) (hy9 : i3 = (i3 + (0 : Int32)))  :
    MetFree l (⟨"com/example/vertex_to_service/vertextoservice/core/Choices", "writeTo", "([I)V"⟩ : MethodName) (head1 (Jvm.Cond.code (⟨"com/example/vertex_to_service/vertextoservice/core/Choices", "writeTo", "([I)V"⟩ : MethodName) prog_10_method_6_code 2 none :: ws) ({ frames := 5, cells := 2, slots := 20, locals := 71 } : Room)) (fun a U => a = #[(.ref o1), (.ref o2)] ∧ Z.Warmed39 U.vm ∧ U.heap = h0) (fun _ _ _ _ _ => True) (fun _ U o U' => ∃ v L, o = .returned v ∧ Q4_40 Z o1 o2 i1 kc2 i3 i4 i5 i6 h0 n0 v U'.heap L ∧ FrameEnd U o U' L ({ frames := 5, cells := 2, slots := 20, locals := 71 } : Room).cells ({ frames := 5, cells := 2, slots := 20, locals := 71 } : Room).slots) := by
  refine own_body (plainFor_of_name pn_1) ?_
  intro p e s m below meth c s₁ G hx hby hml hZ hown hnm hret X0 e0 step fin
  replace hown : s.vm.findClass "com/example/vertex_to_service/vertextoservice/core/Choices" = some m.cls := hown
  replace hnm : meth.name = "writeTo" := hnm
  replace hret : meth.sig.returnType = none := hret
  replace hml : c.maxLocals = 2 := hml
  have N0 := Fr.nil n0
  refine step (s₁.setTop (mkF m 0 #[.val (.ref o1), .val (.ref o2)] [])) (fun t k => castTop (ef_4_40 m o1 o2) k) ?_
  refine step (s₁.setTop (mkF m 1 #[.val (.ref o1), .val (.ref o2)] [(.ref o1)])) (fun t k => XS.aloadN X0.here hx rfl (hb hby d4_0) rfl rfl k) ?_
  refine step (s₁.setTop (mkF m 2 #[.val (.ref o1), .val (.ref o2)] [(.ref o2), (.ref o1)])) (fun t k => XS.aloadN X0.here hx rfl (hb hby d4_1) rfl rfl k) ?_
  refine step (s₁.setTop (mkF m 3 #[.val (.ref o1), .val (.ref o2)] [.null, (.ref o2), (.ref o1)])) (fun t k => XS.aconstNull X0.here hx rfl (hb hby d4_2) k) ?_
  obtain ⟨T1, h1, X1, e1, E1, A1, D1, -, st1⟩ := newO X0 hx hZ hown (hw _ (List.mem_of_getElem? (i := 30) rfl)) (hw _ (List.mem_of_getElem? (i := 31) rfl)) (hw _ (List.mem_of_getElem? (i := 32) rfl)) e0 (g := (mkF m 3 #[.val (.ref o1), .val (.ref o2)] [.null, (.ref o2), (.ref o1)])) rfl (hb hby d4_3) (by decide) (by decide)
  obtain ⟨b1, g1⟩ : ∃ z, z = h0.size := ⟨_, rfl⟩
  rw [← g1] at A1 D1 st1
  have ne_o1_b1 : o1 ≠ b1 := Nat.ne_of_lt (Nat.lt_of_lt_of_le Pm0.lt (Nat.le_of_eq g1.symm))
  have ne_o2_b1 : o2 ≠ b1 := Nat.ne_of_lt (Nat.lt_of_lt_of_le Pm5.lt (Nat.le_of_eq g1.symm))
  have gn_b1 : n0 ≤ b1 := Nat.le_trans Z0 (Nat.le_of_eq g1.symm)
  have sz_b1 : h0.size ≤ b1 := Nat.le_of_eq g1.symm
  have K1 : Keep h0 h1 [o2] := (Keep.refl h0 [o2]).ext E1
  have F_elements_b1 : Fld Z h1 b1 "java/util/ArrayDeque" "elements" "[Ljava/lang/Object;" .null := D1 (Or.inl (hw _ (List.mem_of_getElem? (i := 46) rfl))) (ty := (.array (.object "java/lang/Object"))) (by decide)
  have F_head_b1 : Fld Z h1 b1 "java/util/ArrayDeque" "head" "I" (.int (0 : Int32)) := D1 (Or.inl (hw _ (List.mem_of_getElem? (i := 62) rfl))) (ty := .int) (by decide)
  have F_tail_b1 : Fld Z h1 b1 "java/util/ArrayDeque" "tail" "I" (.int (0 : Int32)) := D1 (Or.inl (hw _ (List.mem_of_getElem? (i := 68) rfl))) (ty := .int) (by decide)
  refine step (T1.setTop (mkF m 6 #[.val (.ref o1), .val (.ref o2)] [(.ref b1), .null, (.ref o2), (.ref o1)])) (fun t k => st1 t k) ?_
  refine step (T1.setTop (mkF m 7 #[.val (.ref o1), .val (.ref o2)] [(.ref b1), (.ref b1), .null, (.ref o2), (.ref o1)])) (fun t k => XS.dup X1.here hx rfl (hb hby d4_6) rfl rfl k) ?_
  obtain ⟨_, _, ⟨T2, L2, k2, n2⟩, -, X2, ⟨Lc2, hQ2, l2, y2, z2⟩, st2⟩ := X1.specialBack hx (y := (⟨"java/util/ArrayDeque", "<init>", "()V"⟩ : MethodName)) rfl hown (mvT hZ (hw _ (List.mem_of_getElem? (i := 33) rfl))) (mvT hZ (hw _ (List.mem_of_getElem? (i := 34) rfl))) (mvT hZ (hw _ (List.mem_of_getElem? (i := 35) rfl))) (by decide) (backOf (W := 4) (rm5_4 l Z a0 hw [] b1 h1 n0 (Nat.le_trans Z0 K1.1) A1 F_elements_b1 F_head_b1 F_tail_b1 gn_b1) hZ (hw _ (List.mem_of_getElem? (i := 35) rfl)) (hw _ (List.mem_of_getElem? (i := 32) rfl)) (by decide) (by decide)) (g := (mkF m 7 #[.val (.ref o1), .val (.ref o2)] [(.ref b1), (.ref b1), .null, (.ref o2), (.ref o1)])) rfl (by rw [hml]; rfl) (Steps.refl _) (a := b1) (argsL := []) (rest := [(.ref b1), .null, (.ref o2), (.ref o1)]) (lenOf pd_5 rfl) rfl (by show 2 * 0 + _ ≤ _; exact Nat.le_of_eq rfl) (hb hby d4_7) (fun _ _ => ⟨rfl, e1, (by decide : 1 + 1 ≤ _), (by decide : 3 + 17 ≤ _)⟩)
  dsimp only [Pt.U, Pt.locs, Pt.cells, Pt.slots] at X2 l2 y2 z2 st2 hQ2
  subst l2 y2 z2
  obtain ⟨h2, e2⟩ : ∃ z, T2.heap = z := ⟨_, rfl⟩
  rw [e2] at hQ2
  obtain ⟨b2_2, k2_2, rfl, N2q, K2q, sz_b2_2, q0_2, q1_2, q2_2, q3_2, ov0_2⟩ := hQ2
  have N2 := Fr.app N0 N2q
  have f3 := (Pm0.ext E1)
  have lt2_o1 := f3.lt
  have f4 := (Pm5.ext E1)
  have lt2_o2 := f4.lt
  have lt2_b1 := A1.lt
  have ne_o1_b2_2 : o1 ≠ b2_2 := Nat.ne_of_lt (Nat.lt_of_lt_of_le lt2_o1 sz_b2_2)
  have ne_o2_b2_2 : o2 ≠ b2_2 := Nat.ne_of_lt (Nat.lt_of_lt_of_le lt2_o2 sz_b2_2)
  have ne_b1_b2_2 : b1 ≠ b2_2 := Nat.ne_of_lt (Nat.lt_of_lt_of_le lt2_b1 sz_b2_2)
  have gn_b2_2 : n0 ≤ b2_2 := Nat.le_trans (Nat.le_trans Z0 K1.1) sz_b2_2
  have sz_b2_2' := Nat.le_trans K1.1 sz_b2_2
  replace sz_b2_2 := sz_b2_2'
  have K2 : Keep h0 h2 [o2] := K1.trans K2q (allS (Or.inr sz_b1) all0)
  refine step (T2.setTop (mkF m 10 #[.val (.ref o1), .val (.ref o2)] [(.ref b1), .null, (.ref o2), (.ref o1)])) (fun t k => st2.trans k) ?_
  have f5 := (f3.keep K2q)
  have f6 := ((Pm1.ext E1).keep K2q (ninS ne_o1_b1 nin0))
  have f7 := ((Pm2.ext E1).keep K2q (ninS ne_o1_b1 nin0))
  have f8 := ((Pm3.ext E1).keep K2q (ninS ne_o1_b1 nin0))
  have f9 := ((Pm4.ext E1).keep K2q (ninS ne_o1_b1 nin0))
  have f10 := (f4.keep K2q (ninS ne_o2_b1 nin0))
  have f11 := (A1.keep K2q)
  obtain ⟨cq12, q12, q12'⟩ := f5.cell
  obtain ⟨_, _, ⟨T12, L12, k12, n12⟩, -, X12, ⟨Lc12, hQ12, l12, y12, z12⟩, st12⟩ := X2.privateBack hx (y := (⟨"com/example/vertex_to_service/vertextoservice/core/Choices", "writeTo", "([I[ILjava/util/ArrayDeque;)I"⟩ : MethodName)) hown (mvT hZ (hw _ (List.mem_of_getElem? (i := 47) rfl))) (mvT hZ (hw _ (List.mem_of_getElem? (i := 48) rfl))) (own_selP (mvT hZ (hw _ (List.mem_of_getElem? (i := 48) rfl))) (mvT hZ (hw _ (List.mem_of_getElem? (i := 5) rfl))) (Cond.privateMethod_at (mvP hZ (hw _ (List.mem_of_getElem? (i := 49) rfl)) (args := #[]))) (by decide)) (Cond.privateMethod_at (mvP hZ (hw _ (List.mem_of_getElem? (i := 49) rfl)) (args := #[]))) (mvT hZ (hw _ (List.mem_of_getElem? (i := 50) rfl))) (by decide) (backOf (W := 0) (rm7_41 l Z a0 hw [] o1 o2 b1 i1 kc2 i3 i4 i5 i6 b2_2 k2_2 h2 n0 (Nat.le_trans Z0 K2.1) f5 f6 f7 f8 f9 f10 f11 q0_2 q1_2 q2_2 q3_2 ov0_2 gn_o1 ne_o1_o2 ne_o1_b1 ne_o1_b2_2 gn_o2 ne_o2_b1 ne_o2_b2_2 gn_b1 ne_b1_b2_2 gn_b2_2 hy9) hZ (hw _ (List.mem_of_getElem? (i := 50) rfl)) (hw _ (List.mem_of_getElem? (i := 2) rfl)) (by decide) (by decide)) (g := (mkF m 10 #[.val (.ref o1), .val (.ref o2)] [(.ref b1), .null, (.ref o2), (.ref o1)])) rfl (by rw [hml]; rfl) (Steps.refl _) (a := o1) (by rw [e2]; exact q12) q12' (argsL := [(.ref o2), .null, (.ref b1)]) (rest := []) (lenOf pd_6 rfl) rfl (by show 2 * 0 + _ ≤ _; exact Nat.le_of_eq rfl) (hb hby d4_10) (fun _ _ => ⟨rfl, e2, (by decide : 2 + 0 ≤ _), (by decide : 20 + 0 ≤ _)⟩)
  dsimp only [Pt.U, Pt.locs, Pt.cells, Pt.slots] at X12 l12 y12 z12 st12 hQ12
  subst l12 y12 z12
  obtain ⟨h12, e12⟩ : ∃ z, T12.heap = z := ⟨_, rfl⟩
  rw [e12] at hQ12
  obtain ⟨rfl, N12q, K12q, q0_12, q1_12, q2_12, q3_12, q4_12⟩ := hQ12
  have N12 := Fr.app N2 N12q
  have K12 : Keep h0 h12 [o2] := K2.trans K12q (allS (Or.inr sz_b1) (allS (Or.inr sz_b2_2) (allS (Or.inl (List.mem_of_getElem? (i := 0) rfl)) all0)))
  refine step (T12.setTop (mkF m 13 #[.val (.ref o1), .val (.ref o2)] [(.int (1 : Int32))])) (fun t k => st12.trans k) ?_
  refine step (T12.setTop (mkF m 14 #[.val (.ref o1), .val (.ref o2)] [])) (fun t k => XS.pop X12.here hx rfl (hb hby d4_13) rfl rfl k) ?_
  refine fin (v := none) X12 (fun _ => rfl) ?_ (by decide) (by decide) (fun fs hr => X12.returnOut hx hret (hb hby d4_14) hr)
  show Q4_40 Z o1 o2 i1 kc2 i3 i4 i5 i6 h0 n0 (none) T12.heap _
  rw [e12]
  exact ⟨rfl, N12, K12, q4_12⟩
theorem ef_17_42 (m : MethodId) (x2 : Int32) (x3 : Int32) : entryFrame m #[(.int (0 : Int32)), (.int (2 : Int32)), (.int x2), (.int x3)] 4 = mkF m 0 #[.val (.int (0 : Int32)), .val (.int (2 : Int32)), .val (.int x2), .val (.int x3)] [] := by first | (simp [entryFrame, mkF, argsToLocals, Value.category]; done) | rfl
def Q17_42 (Z : State) (i1 : Int32) (i2 : Int32) (h0 : Heap) (n0 : Nat) (v : Option Value) (h : Heap) (L : List Loc) : Prop := v = some (.int (i2 + (0 : Int32))) ∧ Fr n0 L ∧ h = h0
set_option maxRecDepth 65536 in
set_option maxHeartbeats 40000000 in
theorem rm17_42 (l : Launch) (Z : State) (a0 : Array Value) (hw : ∀ d ∈ tables_1, d.before a0 Z = true) (ws : List Jvm.Cond) (i1 : Int32) (i2 : Int32) (h0 : Heap) (n0 : Nat) (Z0 : n0 ≤ h0.size) (hy0 : i2 = (i2 + (0 : Int32)))  :
    MetFree l (⟨"com/example/vertex_to_service/vertextoservice/core/ChoicesOfPinLaw", "expected", "(IIII)I"⟩ : MethodName) (head1 (Jvm.Cond.code (⟨"com/example/vertex_to_service/vertextoservice/core/ChoicesOfPinLaw", "expected", "(IIII)I"⟩ : MethodName) method_2_code 4 (some .int) :: ws) ({ frames := 0, cells := 0, slots := 0, locals := 0 } : Room)) (fun a U => a = #[(.int (0 : Int32)), (.int (2 : Int32)), (.int i1), (.int i2)] ∧ Z.Warmed39 U.vm ∧ U.heap = h0) (fun _ _ _ _ _ => True) (fun _ U o U' => ∃ v L, o = .returned v ∧ Q17_42 Z i1 i2 h0 n0 v U'.heap L ∧ FrameEnd U o U' L ({ frames := 0, cells := 0, slots := 0, locals := 0 } : Room).cells ({ frames := 0, cells := 0, slots := 0, locals := 0 } : Room).slots) := by
  refine own_body (plainFor_of_name pn_0) ?_
  intro p e s m below meth c s₁ G hx hby hml hZ hown hnm hret X0 e0 step fin
  replace hown : s.vm.findClass "com/example/vertex_to_service/vertextoservice/core/ChoicesOfPinLaw" = some m.cls := hown
  replace hnm : meth.name = "expected" := hnm
  replace hret : meth.sig.returnType = some .int := hret
  replace hml : c.maxLocals = 4 := hml
  have N0 := Fr.nil n0
  refine step (s₁.setTop (mkF m 0 #[.val (.int (0 : Int32)), .val (.int (2 : Int32)), .val (.int i1), .val (.int i2)] [])) (fun t k => castTop (ef_17_42 m i1 i2) k) ?_
  refine step (s₁.setTop (mkF m 1 #[.val (.int (0 : Int32)), .val (.int (2 : Int32)), .val (.int i1), .val (.int i2)] [(.int (0 : Int32))])) (fun t k => XS.iloadN X0.here hx rfl (hb hby d17_0) rfl k) ?_
  refine step (s₁.setTop (mkF m 2 #[.val (.int (0 : Int32)), .val (.int (2 : Int32)), .val (.int i1), .val (.int i2)] [(.int (2 : Int32)), (.int (0 : Int32))])) (fun t k => XS.iloadN X0.here hx rfl (hb hby d17_1) rfl k) ?_
  refine step (s₁.setTop (mkF m 7 #[.val (.int (0 : Int32)), .val (.int (2 : Int32)), .val (.int i1), .val (.int i2)] [])) (fun t k => XS.icmpYes X0.here hx rfl (pc0 := 2) (pc' := 7) rfl (hb hby d17_2) rfl (feq (by decide : ¬ ((0 : Int32) = (2 : Int32)))).2 (by decide) (by decide) k) ?_
  refine step (s₁.setTop (mkF m 8 #[.val (.int (0 : Int32)), .val (.int (2 : Int32)), .val (.int i1), .val (.int i2)] [(.int i2)])) (fun t k => XS.iloadN X0.here hx rfl (hb hby d17_7) rfl k) ?_
  refine step (s₁.setTop (mkF m 9 #[.val (.int (0 : Int32)), .val (.int (2 : Int32)), .val (.int i1), .val (.int i2)] [(.int (0 : Int32)), (.int i2)])) (fun t k => XS.iloadN X0.here hx rfl (hb hby d17_8) rfl k) ?_
  refine step (s₁.setTop (mkF m 10 #[.val (.int (0 : Int32)), .val (.int (2 : Int32)), .val (.int i1), .val (.int i2)] [(.int (i2 + (0 : Int32)))])) (fun t k => XS.iadd X0.here hx rfl (hb hby d17_9) rfl k) ?_
  refine fin (v := some (.int (i2 + (0 : Int32)))) X0 (fun h => by cases h) ?_ (by decide) (by decide) (fun fs hr => retI X0 hx hret (hb hby d17_10) hr)
  show Q17_42 Z i1 i2 h0 n0 (some (.int (i2 + (0 : Int32)))) s₁.heap _
  rw [e0]
  exact ⟨rfl, N0, rfl⟩
theorem ef_17_43 (m : MethodId) (x2 : Int32) (x3 : Int32) : entryFrame m #[(.int (1 : Int32)), (.int (2 : Int32)), (.int x2), (.int x3)] 4 = mkF m 0 #[.val (.int (1 : Int32)), .val (.int (2 : Int32)), .val (.int x2), .val (.int x3)] [] := by first | (simp [entryFrame, mkF, argsToLocals, Value.category]; done) | rfl
def Q17_43 (Z : State) (i1 : Int32) (i2 : Int32) (h0 : Heap) (n0 : Nat) (v : Option Value) (h : Heap) (L : List Loc) : Prop := v = some (.int (i2 + (1 : Int32))) ∧ Fr n0 L ∧ h = h0
set_option maxRecDepth 65536 in
set_option maxHeartbeats 40000000 in
theorem rm17_43 (l : Launch) (Z : State) (a0 : Array Value) (hw : ∀ d ∈ tables_1, d.before a0 Z = true) (ws : List Jvm.Cond) (i1 : Int32) (i2 : Int32) (h0 : Heap) (n0 : Nat) (Z0 : n0 ≤ h0.size) (hy0 : i2 = (i2 + (0 : Int32)))  :
    MetFree l (⟨"com/example/vertex_to_service/vertextoservice/core/ChoicesOfPinLaw", "expected", "(IIII)I"⟩ : MethodName) (head1 (Jvm.Cond.code (⟨"com/example/vertex_to_service/vertextoservice/core/ChoicesOfPinLaw", "expected", "(IIII)I"⟩ : MethodName) method_2_code 4 (some .int) :: ws) ({ frames := 0, cells := 0, slots := 0, locals := 0 } : Room)) (fun a U => a = #[(.int (1 : Int32)), (.int (2 : Int32)), (.int i1), (.int i2)] ∧ Z.Warmed39 U.vm ∧ U.heap = h0) (fun _ _ _ _ _ => True) (fun _ U o U' => ∃ v L, o = .returned v ∧ Q17_43 Z i1 i2 h0 n0 v U'.heap L ∧ FrameEnd U o U' L ({ frames := 0, cells := 0, slots := 0, locals := 0 } : Room).cells ({ frames := 0, cells := 0, slots := 0, locals := 0 } : Room).slots) := by
  refine own_body (plainFor_of_name pn_0) ?_
  intro p e s m below meth c s₁ G hx hby hml hZ hown hnm hret X0 e0 step fin
  replace hown : s.vm.findClass "com/example/vertex_to_service/vertextoservice/core/ChoicesOfPinLaw" = some m.cls := hown
  replace hnm : meth.name = "expected" := hnm
  replace hret : meth.sig.returnType = some .int := hret
  replace hml : c.maxLocals = 4 := hml
  have N0 := Fr.nil n0
  refine step (s₁.setTop (mkF m 0 #[.val (.int (1 : Int32)), .val (.int (2 : Int32)), .val (.int i1), .val (.int i2)] [])) (fun t k => castTop (ef_17_43 m i1 i2) k) ?_
  refine step (s₁.setTop (mkF m 1 #[.val (.int (1 : Int32)), .val (.int (2 : Int32)), .val (.int i1), .val (.int i2)] [(.int (1 : Int32))])) (fun t k => XS.iloadN X0.here hx rfl (hb hby d17_0) rfl k) ?_
  refine step (s₁.setTop (mkF m 2 #[.val (.int (1 : Int32)), .val (.int (2 : Int32)), .val (.int i1), .val (.int i2)] [(.int (2 : Int32)), (.int (1 : Int32))])) (fun t k => XS.iloadN X0.here hx rfl (hb hby d17_1) rfl k) ?_
  refine step (s₁.setTop (mkF m 7 #[.val (.int (1 : Int32)), .val (.int (2 : Int32)), .val (.int i1), .val (.int i2)] [])) (fun t k => XS.icmpYes X0.here hx rfl (pc0 := 2) (pc' := 7) rfl (hb hby d17_2) rfl (feq (by decide : ¬ ((1 : Int32) = (2 : Int32)))).2 (by decide) (by decide) k) ?_
  refine step (s₁.setTop (mkF m 8 #[.val (.int (1 : Int32)), .val (.int (2 : Int32)), .val (.int i1), .val (.int i2)] [(.int i2)])) (fun t k => XS.iloadN X0.here hx rfl (hb hby d17_7) rfl k) ?_
  refine step (s₁.setTop (mkF m 9 #[.val (.int (1 : Int32)), .val (.int (2 : Int32)), .val (.int i1), .val (.int i2)] [(.int (1 : Int32)), (.int i2)])) (fun t k => XS.iloadN X0.here hx rfl (hb hby d17_8) rfl k) ?_
  refine step (s₁.setTop (mkF m 10 #[.val (.int (1 : Int32)), .val (.int (2 : Int32)), .val (.int i1), .val (.int i2)] [(.int (i2 + (1 : Int32)))])) (fun t k => XS.iadd X0.here hx rfl (hb hby d17_9) rfl k) ?_
  refine fin (v := some (.int (i2 + (1 : Int32)))) X0 (fun h => by cases h) ?_ (by decide) (by decide) (fun fs hr => retI X0 hx hret (hb hby d17_10) hr)
  show Q17_43 Z i1 i2 h0 n0 (some (.int (i2 + (1 : Int32)))) s₁.heap _
  rw [e0]
  exact ⟨rfl, N0, rfl⟩
theorem ef_17_44 (m : MethodId) (x2 : Int32) (x3 : Int32) : entryFrame m #[(.int (2 : Int32)), (.int (2 : Int32)), (.int x2), (.int x3)] 4 = mkF m 0 #[.val (.int (2 : Int32)), .val (.int (2 : Int32)), .val (.int x2), .val (.int x3)] [] := by first | (simp [entryFrame, mkF, argsToLocals, Value.category]; done) | rfl
def Q17_44 (Z : State) (i1 : Int32) (i2 : Int32) (h0 : Heap) (n0 : Nat) (v : Option Value) (h : Heap) (L : List Loc) : Prop := v = some (.int i1) ∧ Fr n0 L ∧ h = h0
set_option maxRecDepth 65536 in
set_option maxHeartbeats 40000000 in
theorem rm17_44 (l : Launch) (Z : State) (a0 : Array Value) (hw : ∀ d ∈ tables_1, d.before a0 Z = true) (ws : List Jvm.Cond) (i1 : Int32) (i2 : Int32) (h0 : Heap) (n0 : Nat) (Z0 : n0 ≤ h0.size) (hy0 : i2 = (i2 + (0 : Int32)))  :
    MetFree l (⟨"com/example/vertex_to_service/vertextoservice/core/ChoicesOfPinLaw", "expected", "(IIII)I"⟩ : MethodName) (head1 (Jvm.Cond.code (⟨"com/example/vertex_to_service/vertextoservice/core/ChoicesOfPinLaw", "expected", "(IIII)I"⟩ : MethodName) method_2_code 4 (some .int) :: ws) ({ frames := 0, cells := 0, slots := 0, locals := 0 } : Room)) (fun a U => a = #[(.int (2 : Int32)), (.int (2 : Int32)), (.int i1), (.int i2)] ∧ Z.Warmed39 U.vm ∧ U.heap = h0) (fun _ _ _ _ _ => True) (fun _ U o U' => ∃ v L, o = .returned v ∧ Q17_44 Z i1 i2 h0 n0 v U'.heap L ∧ FrameEnd U o U' L ({ frames := 0, cells := 0, slots := 0, locals := 0 } : Room).cells ({ frames := 0, cells := 0, slots := 0, locals := 0 } : Room).slots) := by
  refine own_body (plainFor_of_name pn_0) ?_
  intro p e s m below meth c s₁ G hx hby hml hZ hown hnm hret X0 e0 step fin
  replace hown : s.vm.findClass "com/example/vertex_to_service/vertextoservice/core/ChoicesOfPinLaw" = some m.cls := hown
  replace hnm : meth.name = "expected" := hnm
  replace hret : meth.sig.returnType = some .int := hret
  replace hml : c.maxLocals = 4 := hml
  have N0 := Fr.nil n0
  refine step (s₁.setTop (mkF m 0 #[.val (.int (2 : Int32)), .val (.int (2 : Int32)), .val (.int i1), .val (.int i2)] [])) (fun t k => castTop (ef_17_44 m i1 i2) k) ?_
  refine step (s₁.setTop (mkF m 1 #[.val (.int (2 : Int32)), .val (.int (2 : Int32)), .val (.int i1), .val (.int i2)] [(.int (2 : Int32))])) (fun t k => XS.iloadN X0.here hx rfl (hb hby d17_0) rfl k) ?_
  refine step (s₁.setTop (mkF m 2 #[.val (.int (2 : Int32)), .val (.int (2 : Int32)), .val (.int i1), .val (.int i2)] [(.int (2 : Int32)), (.int (2 : Int32))])) (fun t k => XS.iloadN X0.here hx rfl (hb hby d17_1) rfl k) ?_
  refine step (s₁.setTop (mkF m 5 #[.val (.int (2 : Int32)), .val (.int (2 : Int32)), .val (.int i1), .val (.int i2)] [])) (fun t k => XS.icmpNo X0.here hx rfl (hb hby d17_2) rfl (teq (by decide : (2 : Int32) = (2 : Int32))).2 k) ?_
  refine step (s₁.setTop (mkF m 6 #[.val (.int (2 : Int32)), .val (.int (2 : Int32)), .val (.int i1), .val (.int i2)] [(.int i1)])) (fun t k => XS.iloadN X0.here hx rfl (hb hby d17_5) rfl k) ?_
  refine fin (v := some (.int i1)) X0 (fun h => by cases h) ?_ (by decide) (by decide) (fun fs hr => retI X0 hx hret (hb hby d17_6) hr)
  show Q17_44 Z i1 i2 h0 n0 (some (.int i1)) s₁.heap _
  rw [e0]
  exact ⟨rfl, N0, rfl⟩
theorem ef_17_45 (m : MethodId) (x2 : Int32) (x3 : Int32) : entryFrame m #[(.int (3 : Int32)), (.int (2 : Int32)), (.int x2), (.int x3)] 4 = mkF m 0 #[.val (.int (3 : Int32)), .val (.int (2 : Int32)), .val (.int x2), .val (.int x3)] [] := by first | (simp [entryFrame, mkF, argsToLocals, Value.category]; done) | rfl
def Q17_45 (Z : State) (i1 : Int32) (i2 : Int32) (h0 : Heap) (n0 : Nat) (v : Option Value) (h : Heap) (L : List Loc) : Prop := v = some (.int (i2 + (3 : Int32))) ∧ Fr n0 L ∧ h = h0
set_option maxRecDepth 65536 in
set_option maxHeartbeats 40000000 in
theorem rm17_45 (l : Launch) (Z : State) (a0 : Array Value) (hw : ∀ d ∈ tables_1, d.before a0 Z = true) (ws : List Jvm.Cond) (i1 : Int32) (i2 : Int32) (h0 : Heap) (n0 : Nat) (Z0 : n0 ≤ h0.size) (hy0 : i2 = (i2 + (0 : Int32)))  :
    MetFree l (⟨"com/example/vertex_to_service/vertextoservice/core/ChoicesOfPinLaw", "expected", "(IIII)I"⟩ : MethodName) (head1 (Jvm.Cond.code (⟨"com/example/vertex_to_service/vertextoservice/core/ChoicesOfPinLaw", "expected", "(IIII)I"⟩ : MethodName) method_2_code 4 (some .int) :: ws) ({ frames := 0, cells := 0, slots := 0, locals := 0 } : Room)) (fun a U => a = #[(.int (3 : Int32)), (.int (2 : Int32)), (.int i1), (.int i2)] ∧ Z.Warmed39 U.vm ∧ U.heap = h0) (fun _ _ _ _ _ => True) (fun _ U o U' => ∃ v L, o = .returned v ∧ Q17_45 Z i1 i2 h0 n0 v U'.heap L ∧ FrameEnd U o U' L ({ frames := 0, cells := 0, slots := 0, locals := 0 } : Room).cells ({ frames := 0, cells := 0, slots := 0, locals := 0 } : Room).slots) := by
  refine own_body (plainFor_of_name pn_0) ?_
  intro p e s m below meth c s₁ G hx hby hml hZ hown hnm hret X0 e0 step fin
  replace hown : s.vm.findClass "com/example/vertex_to_service/vertextoservice/core/ChoicesOfPinLaw" = some m.cls := hown
  replace hnm : meth.name = "expected" := hnm
  replace hret : meth.sig.returnType = some .int := hret
  replace hml : c.maxLocals = 4 := hml
  have N0 := Fr.nil n0
  refine step (s₁.setTop (mkF m 0 #[.val (.int (3 : Int32)), .val (.int (2 : Int32)), .val (.int i1), .val (.int i2)] [])) (fun t k => castTop (ef_17_45 m i1 i2) k) ?_
  refine step (s₁.setTop (mkF m 1 #[.val (.int (3 : Int32)), .val (.int (2 : Int32)), .val (.int i1), .val (.int i2)] [(.int (3 : Int32))])) (fun t k => XS.iloadN X0.here hx rfl (hb hby d17_0) rfl k) ?_
  refine step (s₁.setTop (mkF m 2 #[.val (.int (3 : Int32)), .val (.int (2 : Int32)), .val (.int i1), .val (.int i2)] [(.int (2 : Int32)), (.int (3 : Int32))])) (fun t k => XS.iloadN X0.here hx rfl (hb hby d17_1) rfl k) ?_
  refine step (s₁.setTop (mkF m 7 #[.val (.int (3 : Int32)), .val (.int (2 : Int32)), .val (.int i1), .val (.int i2)] [])) (fun t k => XS.icmpYes X0.here hx rfl (pc0 := 2) (pc' := 7) rfl (hb hby d17_2) rfl (feq (by decide : ¬ ((3 : Int32) = (2 : Int32)))).2 (by decide) (by decide) k) ?_
  refine step (s₁.setTop (mkF m 8 #[.val (.int (3 : Int32)), .val (.int (2 : Int32)), .val (.int i1), .val (.int i2)] [(.int i2)])) (fun t k => XS.iloadN X0.here hx rfl (hb hby d17_7) rfl k) ?_
  refine step (s₁.setTop (mkF m 9 #[.val (.int (3 : Int32)), .val (.int (2 : Int32)), .val (.int i1), .val (.int i2)] [(.int (3 : Int32)), (.int i2)])) (fun t k => XS.iloadN X0.here hx rfl (hb hby d17_8) rfl k) ?_
  refine step (s₁.setTop (mkF m 10 #[.val (.int (3 : Int32)), .val (.int (2 : Int32)), .val (.int i1), .val (.int i2)] [(.int (i2 + (3 : Int32)))])) (fun t k => XS.iadd X0.here hx rfl (hb hby d17_9) rfl k) ?_
  refine fin (v := some (.int (i2 + (3 : Int32)))) X0 (fun h => by cases h) ?_ (by decide) (by decide) (fun fs hr => retI X0 hx hret (hb hby d17_10) hr)
  show Q17_45 Z i1 i2 h0 n0 (some (.int (i2 + (3 : Int32)))) s₁.heap _
  rw [e0]
  exact ⟨rfl, N0, rfl⟩
theorem own_plain45 (p0 : Int32) (p1 : Int32) (p2 : Int32) (p3 : Int32) (p4 : Int32) (pv : Int32) (qv : Int32) (z30_7_121 : Int32) (z178_122 : Int32) (z186_125 : Int32) (hpv : (p0 &&& (2147483647 : Int32)) = pv) (hqv : (p2 &&& (2147483647 : Int32)) = qv) (hz30_7_121 : z30_7_121 = (if pv < qv then (1 : Int32) else (0 : Int32))) (hz178_122 : z178_122 = (if pv < qv then (1 : Int32) else (0 : Int32))) (hz186_125 : z186_125 = (if z30_7_121 = z178_122 then (1 : Int32) else (0 : Int32))) : ¬ (z186_125 = (0 : Int32)) := by
  subst hz30_7_121 hz178_122 hz186_125
  split <;> decide
theorem own_plain46 (p0 : Int32) (p1 : Int32) (p2 : Int32) (p3 : Int32) (p4 : Int32) (pv : Int32) (qv : Int32) (z30_7_129 : Int32) (z212_130 : Int32) (z220_133 : Int32) (hpv : (p0 &&& (2147483647 : Int32)) = pv) (hqv : (p2 &&& (2147483647 : Int32)) = qv) (hz30_7_129 : z30_7_129 = (if qv < pv then (1 : Int32) else (0 : Int32))) (hz212_130 : z212_130 = (if qv < pv then (1 : Int32) else (0 : Int32))) (hz220_133 : z220_133 = (if z30_7_129 = z212_130 then (1 : Int32) else (0 : Int32))) : ¬ (z220_133 = (0 : Int32)) := by
  subst hz30_7_129 hz212_130 hz220_133
  split <;> decide
theorem ef_2_49 (m : MethodId) (x0 : Addr) (x2 : Int32) : entryFrame m #[(.ref x0), (.int (3 : Int32)), (.int x2), .null, .null, (.int (3 : Int32)), (.int (3 : Int32))] 7 = mkF m 0 #[.val (.ref x0), .val (.int (3 : Int32)), .val (.int x2), .val .null, .val .null, .val (.int (3 : Int32)), .val (.int (3 : Int32))] [] := by first | (simp [entryFrame, mkF, argsToLocals, Value.category]; done) | rfl
def Q2_49 (Z : State) (o1 : Addr) (i1 : Int32) (h0 : Heap) (n0 : Nat) (v : Option Value) (h : Heap) (L : List Loc) : Prop := v = none ∧ Fr n0 L ∧ Keep h0 h [o1] ∧ Fld Z h o1 "com/example/vertex_to_service/vertextoservice/core/Choices" "candidate" "I" (.int i1) ∧ Fld Z h o1 "com/example/vertex_to_service/vertextoservice/core/Choices" "first" "Lcom/example/vertex_to_service/vertextoservice/core/Choices;" .null ∧ Fld Z h o1 "com/example/vertex_to_service/vertextoservice/core/Choices" "high" "I" (.int (3 : Int32)) ∧ Fld Z h o1 "com/example/vertex_to_service/vertextoservice/core/Choices" "low" "I" (.int (3 : Int32)) ∧ Fld Z h o1 "com/example/vertex_to_service/vertextoservice/core/Choices" "second" "Lcom/example/vertex_to_service/vertextoservice/core/Choices;" .null ∧ Fld Z h o1 "com/example/vertex_to_service/vertextoservice/core/Choices" "vertex" "I" (.int (3 : Int32))
set_option maxRecDepth 65536 in
set_option maxHeartbeats 40000000 in
theorem rm2_49 (l : Launch) (Z : State) (a0 : Array Value) (hw : ∀ d ∈ tables_1, d.before a0 Z = true) (ws : List Jvm.Cond) (o1 : Addr) (i1 : Int32) (h0 : Heap) (n0 : Nat) (Z0 : n0 ≤ h0.size) (Pm0 : Exa Z h0 o1 "com/example/vertex_to_service/vertextoservice/core/Choices") (Pm1 : Fld Z h0 o1 "com/example/vertex_to_service/vertextoservice/core/Choices" "candidate" "I" (.int (0 : Int32))) (Pm2 : Fld Z h0 o1 "com/example/vertex_to_service/vertextoservice/core/Choices" "first" "Lcom/example/vertex_to_service/vertextoservice/core/Choices;" .null) (Pm3 : Fld Z h0 o1 "com/example/vertex_to_service/vertextoservice/core/Choices" "high" "I" (.int (0 : Int32))) (Pm4 : Fld Z h0 o1 "com/example/vertex_to_service/vertextoservice/core/Choices" "low" "I" (.int (0 : Int32))) (Pm5 : Fld Z h0 o1 "com/example/vertex_to_service/vertextoservice/core/Choices" "second" "Lcom/example/vertex_to_service/vertextoservice/core/Choices;" .null) (Pm6 : Fld Z h0 o1 "com/example/vertex_to_service/vertextoservice/core/Choices" "vertex" "I" (.int (0 : Int32))) (gn_o1 : n0 ≤ o1)  :
    MetFree l (⟨"com/example/vertex_to_service/vertextoservice/core/Choices", "<init>", "(IILcom/example/vertex_to_service/vertextoservice/core/Choices;Lcom/example/vertex_to_service/vertextoservice/core/Choices;II)V"⟩ : MethodName) (head1 (Jvm.Cond.code (⟨"com/example/vertex_to_service/vertextoservice/core/Choices", "<init>", "(IILcom/example/vertex_to_service/vertextoservice/core/Choices;Lcom/example/vertex_to_service/vertextoservice/core/Choices;II)V"⟩ : MethodName) prog_10_method_1_code 7 none :: ws) ({ frames := 1, cells := 0, slots := 0, locals := 12 } : Room)) (fun a U => a = #[(.ref o1), (.int (3 : Int32)), (.int i1), .null, .null, (.int (3 : Int32)), (.int (3 : Int32))] ∧ Z.Warmed39 U.vm ∧ U.heap = h0) (fun _ _ _ _ _ => True) (fun _ U o U' => ∃ v L, o = .returned v ∧ Q2_49 Z o1 i1 h0 n0 v U'.heap L ∧ FrameEnd U o U' L ({ frames := 1, cells := 0, slots := 0, locals := 12 } : Room).cells ({ frames := 1, cells := 0, slots := 0, locals := 12 } : Room).slots) := by
  refine own_body (plainFor_of_name pn_1) ?_
  intro p e s m below meth c s₁ G hx hby hml hZ hown hnm hret X0 e0 step fin
  replace hown : s.vm.findClass "com/example/vertex_to_service/vertextoservice/core/Choices" = some m.cls := hown
  replace hnm : meth.name = "<init>" := hnm
  replace hret : meth.sig.returnType = none := hret
  replace hml : c.maxLocals = 7 := hml
  have N0 := Fr.nil n0
  refine step (s₁.setTop (mkF m 0 #[.val (.ref o1), .val (.int (3 : Int32)), .val (.int i1), .val .null, .val .null, .val (.int (3 : Int32)), .val (.int (3 : Int32))] [])) (fun t k => castTop (ef_2_49 m o1 i1) k) ?_
  refine step (s₁.setTop (mkF m 1 #[.val (.ref o1), .val (.int (3 : Int32)), .val (.int i1), .val .null, .val .null, .val (.int (3 : Int32)), .val (.int (3 : Int32))] [(.ref o1)])) (fun t k => XS.aloadN X0.here hx rfl (hb hby d2_0) rfl rfl k) ?_
  obtain ⟨T1, X1, e1, st1⟩ := initO X0 hx hZ hown (hw _ (List.mem_of_getElem? (i := 9) rfl)) (hw _ (List.mem_of_getElem? (i := 10) rfl)) (hw _ (List.mem_of_getElem? (i := 11) rfl)) e0 (g := (mkF m 1 #[.val (.ref o1), .val (.int (3 : Int32)), .val (.int i1), .val .null, .val .null, .val (.int (3 : Int32)), .val (.int (3 : Int32))] [(.ref o1)])) rfl (by rw [hml]; rfl) rfl (hb hby d2_1) (by decide) (W := 0) (by show 2 * 0 + _ ≤ _; exact Nat.le_of_eq rfl) (by decide)
  refine step (T1.setTop (mkF m 4 #[.val (.ref o1), .val (.int (3 : Int32)), .val (.int i1), .val .null, .val .null, .val (.int (3 : Int32)), .val (.int (3 : Int32))] [])) (fun t k => st1 t k) ?_
  refine step (T1.setTop (mkF m 5 #[.val (.ref o1), .val (.int (3 : Int32)), .val (.int i1), .val .null, .val .null, .val (.int (3 : Int32)), .val (.int (3 : Int32))] [(.ref o1)])) (fun t k => XS.aloadN X1.here hx rfl (hb hby d2_4) rfl rfl k) ?_
  refine step (T1.setTop (mkF m 6 #[.val (.ref o1), .val (.int (3 : Int32)), .val (.int i1), .val .null, .val .null, .val (.int (3 : Int32)), .val (.int (3 : Int32))] [(.int (3 : Int32)), (.ref o1)])) (fun t k => XS.iloadN X1.here hx rfl (hb hby d2_5) rfl k) ?_
  obtain ⟨T2, h2, X2, e2, W2, st2⟩ := putF X1 hx hZ hown (host := "") (Or.inl (hw _ (List.mem_of_getElem? (i := 12) rfl))) Via.refl e1 Pm6 Pm0 (Or.inr ⟨(hw _ (List.mem_of_getElem? (i := 13) rfl)), rfl, hnm⟩) (hw _ (List.mem_of_getElem? (i := 5) rfl)) (ty := .int) (by decide) rfl rfl (g := (mkF m 6 #[.val (.ref o1), .val (.int (3 : Int32)), .val (.int i1), .val .null, .val .null, .val (.int (3 : Int32)), .val (.int (3 : Int32))] [(.int (3 : Int32)), (.ref o1)])) rfl rfl (hb hby d2_6)
  have N2 := Fr.snoc X2 N0 gn_o1
  have K2 : Keep h0 h2 [o1] := (Keep.refl h0 [o1]).wr W2 (Or.inl (List.mem_of_getElem? (i := 0) rfl))
  have F2 := Pm6.same W2
  refine step (T2.setTop (mkF m 9 #[.val (.ref o1), .val (.int (3 : Int32)), .val (.int i1), .val .null, .val .null, .val (.int (3 : Int32)), .val (.int (3 : Int32))] [])) (fun t k => st2 t k) ?_
  refine step (T2.setTop (mkF m 10 #[.val (.ref o1), .val (.int (3 : Int32)), .val (.int i1), .val .null, .val .null, .val (.int (3 : Int32)), .val (.int (3 : Int32))] [(.ref o1)])) (fun t k => XS.aloadN X2.here hx rfl (hb hby d2_9) rfl rfl k) ?_
  refine step (T2.setTop (mkF m 11 #[.val (.ref o1), .val (.int (3 : Int32)), .val (.int i1), .val .null, .val .null, .val (.int (3 : Int32)), .val (.int (3 : Int32))] [(.int i1), (.ref o1)])) (fun t k => XS.iloadN X2.here hx rfl (hb hby d2_10) rfl k) ?_
  have f3 := (Pm0.wr W2)
  have f4 := (Pm1.other W2 (Or.inr (slot_ne (Or.inr (hw _ (List.mem_of_getElem? (i := 15) rfl))) (Or.inr (hw _ (List.mem_of_getElem? (i := 13) rfl))) (by decide) (t := .int) (t' := .int) (by decide) (by decide))))
  obtain ⟨T5, h5, X5, e5, W5, st5⟩ := putF X2 hx hZ hown (host := "") (Or.inl (hw _ (List.mem_of_getElem? (i := 14) rfl))) Via.refl e2 f4 f3 (Or.inr ⟨(hw _ (List.mem_of_getElem? (i := 15) rfl)), rfl, hnm⟩) (hw _ (List.mem_of_getElem? (i := 5) rfl)) (ty := .int) (by decide) rfl rfl (g := (mkF m 11 #[.val (.ref o1), .val (.int (3 : Int32)), .val (.int i1), .val .null, .val .null, .val (.int (3 : Int32)), .val (.int (3 : Int32))] [(.int i1), (.ref o1)])) rfl rfl (hb hby d2_11)
  have N5 := Fr.snoc X5 N2 gn_o1
  have K5 : Keep h0 h5 [o1] := K2.wr W5 (Or.inl (List.mem_of_getElem? (i := 0) rfl))
  have F5 := f4.same W5
  refine step (T5.setTop (mkF m 14 #[.val (.ref o1), .val (.int (3 : Int32)), .val (.int i1), .val .null, .val .null, .val (.int (3 : Int32)), .val (.int (3 : Int32))] [])) (fun t k => st5 t k) ?_
  refine step (T5.setTop (mkF m 15 #[.val (.ref o1), .val (.int (3 : Int32)), .val (.int i1), .val .null, .val .null, .val (.int (3 : Int32)), .val (.int (3 : Int32))] [(.ref o1)])) (fun t k => XS.aloadN X5.here hx rfl (hb hby d2_14) rfl rfl k) ?_
  refine step (T5.setTop (mkF m 16 #[.val (.ref o1), .val (.int (3 : Int32)), .val (.int i1), .val .null, .val .null, .val (.int (3 : Int32)), .val (.int (3 : Int32))] [.null, (.ref o1)])) (fun t k => XS.aloadN X5.here hx rfl (hb hby d2_15) rfl rfl k) ?_
  have f6 := (f3.wr W5)
  have f7 := ((Pm2.other W2 (Or.inr (slot_ne (Or.inr (hw _ (List.mem_of_getElem? (i := 17) rfl))) (Or.inr (hw _ (List.mem_of_getElem? (i := 13) rfl))) (by decide) (t := (.object "com/example/vertex_to_service/vertextoservice/core/Choices")) (t' := .int) (by decide) (by decide)))).other W5 (Or.inr (slot_ne (Or.inr (hw _ (List.mem_of_getElem? (i := 17) rfl))) (Or.inr (hw _ (List.mem_of_getElem? (i := 15) rfl))) (by decide) (t := (.object "com/example/vertex_to_service/vertextoservice/core/Choices")) (t' := .int) (by decide) (by decide))))
  obtain ⟨T8, h8, X8, e8, W8, st8⟩ := putF X5 hx hZ hown (host := "") (Or.inl (hw _ (List.mem_of_getElem? (i := 16) rfl))) Via.refl e5 f7 f6 (Or.inr ⟨(hw _ (List.mem_of_getElem? (i := 17) rfl)), rfl, hnm⟩) (hw _ (List.mem_of_getElem? (i := 5) rfl)) (ty := (.object "com/example/vertex_to_service/vertextoservice/core/Choices")) (by decide) rfl rfl (g := (mkF m 16 #[.val (.ref o1), .val (.int (3 : Int32)), .val (.int i1), .val .null, .val .null, .val (.int (3 : Int32)), .val (.int (3 : Int32))] [.null, (.ref o1)])) rfl rfl (hb hby d2_16)
  have N8 := Fr.snoc X8 N5 gn_o1
  have K8 : Keep h0 h8 [o1] := K5.wr W8 (Or.inl (List.mem_of_getElem? (i := 0) rfl))
  have F8 := f7.same W8
  refine step (T8.setTop (mkF m 19 #[.val (.ref o1), .val (.int (3 : Int32)), .val (.int i1), .val .null, .val .null, .val (.int (3 : Int32)), .val (.int (3 : Int32))] [])) (fun t k => st8 t k) ?_
  refine step (T8.setTop (mkF m 20 #[.val (.ref o1), .val (.int (3 : Int32)), .val (.int i1), .val .null, .val .null, .val (.int (3 : Int32)), .val (.int (3 : Int32))] [(.ref o1)])) (fun t k => XS.aloadN X8.here hx rfl (hb hby d2_19) rfl rfl k) ?_
  refine step (T8.setTop (mkF m 22 #[.val (.ref o1), .val (.int (3 : Int32)), .val (.int i1), .val .null, .val .null, .val (.int (3 : Int32)), .val (.int (3 : Int32))] [.null, (.ref o1)])) (fun t k => XS.aload X8.here hx rfl (hb hby d2_20) rfl rfl k) ?_
  have f9 := (f6.wr W8)
  have f10 := (((Pm5.other W2 (Or.inr (slot_ne (Or.inr (hw _ (List.mem_of_getElem? (i := 19) rfl))) (Or.inr (hw _ (List.mem_of_getElem? (i := 13) rfl))) (by decide) (t := (.object "com/example/vertex_to_service/vertextoservice/core/Choices")) (t' := .int) (by decide) (by decide)))).other W5 (Or.inr (slot_ne (Or.inr (hw _ (List.mem_of_getElem? (i := 19) rfl))) (Or.inr (hw _ (List.mem_of_getElem? (i := 15) rfl))) (by decide) (t := (.object "com/example/vertex_to_service/vertextoservice/core/Choices")) (t' := .int) (by decide) (by decide)))).other W8 (Or.inr (slot_ne (Or.inr (hw _ (List.mem_of_getElem? (i := 19) rfl))) (Or.inr (hw _ (List.mem_of_getElem? (i := 17) rfl))) (by decide) (t := (.object "com/example/vertex_to_service/vertextoservice/core/Choices")) (t' := (.object "com/example/vertex_to_service/vertextoservice/core/Choices")) (by decide) (by decide))))
  obtain ⟨T11, h11, X11, e11, W11, st11⟩ := putF X8 hx hZ hown (host := "") (Or.inl (hw _ (List.mem_of_getElem? (i := 18) rfl))) Via.refl e8 f10 f9 (Or.inr ⟨(hw _ (List.mem_of_getElem? (i := 19) rfl)), rfl, hnm⟩) (hw _ (List.mem_of_getElem? (i := 5) rfl)) (ty := (.object "com/example/vertex_to_service/vertextoservice/core/Choices")) (by decide) rfl rfl (g := (mkF m 22 #[.val (.ref o1), .val (.int (3 : Int32)), .val (.int i1), .val .null, .val .null, .val (.int (3 : Int32)), .val (.int (3 : Int32))] [.null, (.ref o1)])) rfl rfl (hb hby d2_22)
  have N11 := Fr.snoc X11 N8 gn_o1
  have K11 : Keep h0 h11 [o1] := K8.wr W11 (Or.inl (List.mem_of_getElem? (i := 0) rfl))
  have F11 := f10.same W11
  refine step (T11.setTop (mkF m 25 #[.val (.ref o1), .val (.int (3 : Int32)), .val (.int i1), .val .null, .val .null, .val (.int (3 : Int32)), .val (.int (3 : Int32))] [])) (fun t k => st11 t k) ?_
  refine step (T11.setTop (mkF m 26 #[.val (.ref o1), .val (.int (3 : Int32)), .val (.int i1), .val .null, .val .null, .val (.int (3 : Int32)), .val (.int (3 : Int32))] [(.ref o1)])) (fun t k => XS.aloadN X11.here hx rfl (hb hby d2_25) rfl rfl k) ?_
  refine step (T11.setTop (mkF m 28 #[.val (.ref o1), .val (.int (3 : Int32)), .val (.int i1), .val .null, .val .null, .val (.int (3 : Int32)), .val (.int (3 : Int32))] [(.int (3 : Int32)), (.ref o1)])) (fun t k => XS.iload X11.here hx rfl (hb hby d2_26) rfl k) ?_
  have f12 := (f9.wr W11)
  have f13 := ((((Pm4.other W2 (Or.inr (slot_ne (Or.inr (hw _ (List.mem_of_getElem? (i := 21) rfl))) (Or.inr (hw _ (List.mem_of_getElem? (i := 13) rfl))) (by decide) (t := .int) (t' := .int) (by decide) (by decide)))).other W5 (Or.inr (slot_ne (Or.inr (hw _ (List.mem_of_getElem? (i := 21) rfl))) (Or.inr (hw _ (List.mem_of_getElem? (i := 15) rfl))) (by decide) (t := .int) (t' := .int) (by decide) (by decide)))).other W8 (Or.inr (slot_ne (Or.inr (hw _ (List.mem_of_getElem? (i := 21) rfl))) (Or.inr (hw _ (List.mem_of_getElem? (i := 17) rfl))) (by decide) (t := .int) (t' := (.object "com/example/vertex_to_service/vertextoservice/core/Choices")) (by decide) (by decide)))).other W11 (Or.inr (slot_ne (Or.inr (hw _ (List.mem_of_getElem? (i := 21) rfl))) (Or.inr (hw _ (List.mem_of_getElem? (i := 19) rfl))) (by decide) (t := .int) (t' := (.object "com/example/vertex_to_service/vertextoservice/core/Choices")) (by decide) (by decide))))
  obtain ⟨T14, h14, X14, e14, W14, st14⟩ := putF X11 hx hZ hown (host := "") (Or.inl (hw _ (List.mem_of_getElem? (i := 20) rfl))) Via.refl e11 f13 f12 (Or.inr ⟨(hw _ (List.mem_of_getElem? (i := 21) rfl)), rfl, hnm⟩) (hw _ (List.mem_of_getElem? (i := 5) rfl)) (ty := .int) (by decide) rfl rfl (g := (mkF m 28 #[.val (.ref o1), .val (.int (3 : Int32)), .val (.int i1), .val .null, .val .null, .val (.int (3 : Int32)), .val (.int (3 : Int32))] [(.int (3 : Int32)), (.ref o1)])) rfl rfl (hb hby d2_28)
  have N14 := Fr.snoc X14 N11 gn_o1
  have K14 : Keep h0 h14 [o1] := K11.wr W14 (Or.inl (List.mem_of_getElem? (i := 0) rfl))
  have F14 := f13.same W14
  refine step (T14.setTop (mkF m 31 #[.val (.ref o1), .val (.int (3 : Int32)), .val (.int i1), .val .null, .val .null, .val (.int (3 : Int32)), .val (.int (3 : Int32))] [])) (fun t k => st14 t k) ?_
  refine step (T14.setTop (mkF m 32 #[.val (.ref o1), .val (.int (3 : Int32)), .val (.int i1), .val .null, .val .null, .val (.int (3 : Int32)), .val (.int (3 : Int32))] [(.ref o1)])) (fun t k => XS.aloadN X14.here hx rfl (hb hby d2_31) rfl rfl k) ?_
  refine step (T14.setTop (mkF m 34 #[.val (.ref o1), .val (.int (3 : Int32)), .val (.int i1), .val .null, .val .null, .val (.int (3 : Int32)), .val (.int (3 : Int32))] [(.int (3 : Int32)), (.ref o1)])) (fun t k => XS.iload X14.here hx rfl (hb hby d2_32) rfl k) ?_
  have f15 := (f12.wr W14)
  have f16 := (((((Pm3.other W2 (Or.inr (slot_ne (Or.inr (hw _ (List.mem_of_getElem? (i := 23) rfl))) (Or.inr (hw _ (List.mem_of_getElem? (i := 13) rfl))) (by decide) (t := .int) (t' := .int) (by decide) (by decide)))).other W5 (Or.inr (slot_ne (Or.inr (hw _ (List.mem_of_getElem? (i := 23) rfl))) (Or.inr (hw _ (List.mem_of_getElem? (i := 15) rfl))) (by decide) (t := .int) (t' := .int) (by decide) (by decide)))).other W8 (Or.inr (slot_ne (Or.inr (hw _ (List.mem_of_getElem? (i := 23) rfl))) (Or.inr (hw _ (List.mem_of_getElem? (i := 17) rfl))) (by decide) (t := .int) (t' := (.object "com/example/vertex_to_service/vertextoservice/core/Choices")) (by decide) (by decide)))).other W11 (Or.inr (slot_ne (Or.inr (hw _ (List.mem_of_getElem? (i := 23) rfl))) (Or.inr (hw _ (List.mem_of_getElem? (i := 19) rfl))) (by decide) (t := .int) (t' := (.object "com/example/vertex_to_service/vertextoservice/core/Choices")) (by decide) (by decide)))).other W14 (Or.inr (slot_ne (Or.inr (hw _ (List.mem_of_getElem? (i := 23) rfl))) (Or.inr (hw _ (List.mem_of_getElem? (i := 21) rfl))) (by decide) (t := .int) (t' := .int) (by decide) (by decide))))
  obtain ⟨T17, h17, X17, e17, W17, st17⟩ := putF X14 hx hZ hown (host := "") (Or.inl (hw _ (List.mem_of_getElem? (i := 22) rfl))) Via.refl e14 f16 f15 (Or.inr ⟨(hw _ (List.mem_of_getElem? (i := 23) rfl)), rfl, hnm⟩) (hw _ (List.mem_of_getElem? (i := 5) rfl)) (ty := .int) (by decide) rfl rfl (g := (mkF m 34 #[.val (.ref o1), .val (.int (3 : Int32)), .val (.int i1), .val .null, .val .null, .val (.int (3 : Int32)), .val (.int (3 : Int32))] [(.int (3 : Int32)), (.ref o1)])) rfl rfl (hb hby d2_34)
  have N17 := Fr.snoc X17 N14 gn_o1
  have K17 : Keep h0 h17 [o1] := K14.wr W17 (Or.inl (List.mem_of_getElem? (i := 0) rfl))
  have F17 := f16.same W17
  refine step (T17.setTop (mkF m 37 #[.val (.ref o1), .val (.int (3 : Int32)), .val (.int i1), .val .null, .val .null, .val (.int (3 : Int32)), .val (.int (3 : Int32))] [])) (fun t k => st17 t k) ?_
  have f18 := ((((F5.other W8 (Or.inr (slot_ne (Or.inr (hw _ (List.mem_of_getElem? (i := 15) rfl))) (Or.inr (hw _ (List.mem_of_getElem? (i := 17) rfl))) (by decide) (t := .int) (t' := (.object "com/example/vertex_to_service/vertextoservice/core/Choices")) (by decide) (by decide)))).other W11 (Or.inr (slot_ne (Or.inr (hw _ (List.mem_of_getElem? (i := 15) rfl))) (Or.inr (hw _ (List.mem_of_getElem? (i := 19) rfl))) (by decide) (t := .int) (t' := (.object "com/example/vertex_to_service/vertextoservice/core/Choices")) (by decide) (by decide)))).other W14 (Or.inr (slot_ne (Or.inr (hw _ (List.mem_of_getElem? (i := 15) rfl))) (Or.inr (hw _ (List.mem_of_getElem? (i := 21) rfl))) (by decide) (t := .int) (t' := .int) (by decide) (by decide)))).other W17 (Or.inr (slot_ne (Or.inr (hw _ (List.mem_of_getElem? (i := 15) rfl))) (Or.inr (hw _ (List.mem_of_getElem? (i := 23) rfl))) (by decide) (t := .int) (t' := .int) (by decide) (by decide))))
  have f19 := (((F8.other W11 (Or.inr (slot_ne (Or.inr (hw _ (List.mem_of_getElem? (i := 17) rfl))) (Or.inr (hw _ (List.mem_of_getElem? (i := 19) rfl))) (by decide) (t := (.object "com/example/vertex_to_service/vertextoservice/core/Choices")) (t' := (.object "com/example/vertex_to_service/vertextoservice/core/Choices")) (by decide) (by decide)))).other W14 (Or.inr (slot_ne (Or.inr (hw _ (List.mem_of_getElem? (i := 17) rfl))) (Or.inr (hw _ (List.mem_of_getElem? (i := 21) rfl))) (by decide) (t := (.object "com/example/vertex_to_service/vertextoservice/core/Choices")) (t' := .int) (by decide) (by decide)))).other W17 (Or.inr (slot_ne (Or.inr (hw _ (List.mem_of_getElem? (i := 17) rfl))) (Or.inr (hw _ (List.mem_of_getElem? (i := 23) rfl))) (by decide) (t := (.object "com/example/vertex_to_service/vertextoservice/core/Choices")) (t' := .int) (by decide) (by decide))))
  have f20 := (F14.other W17 (Or.inr (slot_ne (Or.inr (hw _ (List.mem_of_getElem? (i := 21) rfl))) (Or.inr (hw _ (List.mem_of_getElem? (i := 23) rfl))) (by decide) (t := .int) (t' := .int) (by decide) (by decide))))
  have f21 := ((F11.other W14 (Or.inr (slot_ne (Or.inr (hw _ (List.mem_of_getElem? (i := 19) rfl))) (Or.inr (hw _ (List.mem_of_getElem? (i := 21) rfl))) (by decide) (t := (.object "com/example/vertex_to_service/vertextoservice/core/Choices")) (t' := .int) (by decide) (by decide)))).other W17 (Or.inr (slot_ne (Or.inr (hw _ (List.mem_of_getElem? (i := 19) rfl))) (Or.inr (hw _ (List.mem_of_getElem? (i := 23) rfl))) (by decide) (t := (.object "com/example/vertex_to_service/vertextoservice/core/Choices")) (t' := .int) (by decide) (by decide))))
  have f22 := (((((F2.other W5 (Or.inr (slot_ne (Or.inr (hw _ (List.mem_of_getElem? (i := 13) rfl))) (Or.inr (hw _ (List.mem_of_getElem? (i := 15) rfl))) (by decide) (t := .int) (t' := .int) (by decide) (by decide)))).other W8 (Or.inr (slot_ne (Or.inr (hw _ (List.mem_of_getElem? (i := 13) rfl))) (Or.inr (hw _ (List.mem_of_getElem? (i := 17) rfl))) (by decide) (t := .int) (t' := (.object "com/example/vertex_to_service/vertextoservice/core/Choices")) (by decide) (by decide)))).other W11 (Or.inr (slot_ne (Or.inr (hw _ (List.mem_of_getElem? (i := 13) rfl))) (Or.inr (hw _ (List.mem_of_getElem? (i := 19) rfl))) (by decide) (t := .int) (t' := (.object "com/example/vertex_to_service/vertextoservice/core/Choices")) (by decide) (by decide)))).other W14 (Or.inr (slot_ne (Or.inr (hw _ (List.mem_of_getElem? (i := 13) rfl))) (Or.inr (hw _ (List.mem_of_getElem? (i := 21) rfl))) (by decide) (t := .int) (t' := .int) (by decide) (by decide)))).other W17 (Or.inr (slot_ne (Or.inr (hw _ (List.mem_of_getElem? (i := 13) rfl))) (Or.inr (hw _ (List.mem_of_getElem? (i := 23) rfl))) (by decide) (t := .int) (t' := .int) (by decide) (by decide))))
  refine fin (v := none) X17 (fun _ => rfl) ?_ (by decide) (by decide) (fun fs hr => X17.returnOut hx hret (hb hby d2_37) hr)
  show Q2_49 Z o1 i1 h0 n0 (none) T17.heap _
  rw [e17]
  exact ⟨rfl, N17, K17, f18, f19, F17, f20, f21, f22⟩
theorem ef_1_48 (m : MethodId) (x1 : Int32) : entryFrame m #[(.int (3 : Int32)), (.int x1)] 2 = mkF m 0 #[.val (.int (3 : Int32)), .val (.int x1)] [] := by first | (simp [entryFrame, mkF, argsToLocals, Value.category]; done) | rfl
def Q1_48 (Z : State) (i1 : Int32) (h0 : Heap) (n0 : Nat) (v : Option Value) (h : Heap) (L : List Loc) : Prop := ∃ (b1 : Addr), v = some (.ref b1) ∧ Fr n0 L ∧ Keep h0 h [] ∧ h0.size ≤ b1 ∧ Exa Z h b1 "com/example/vertex_to_service/vertextoservice/core/Choices" ∧ Fld Z h b1 "com/example/vertex_to_service/vertextoservice/core/Choices" "candidate" "I" (.int i1) ∧ Fld Z h b1 "com/example/vertex_to_service/vertextoservice/core/Choices" "first" "Lcom/example/vertex_to_service/vertextoservice/core/Choices;" .null ∧ Fld Z h b1 "com/example/vertex_to_service/vertextoservice/core/Choices" "high" "I" (.int (3 : Int32)) ∧ Fld Z h b1 "com/example/vertex_to_service/vertextoservice/core/Choices" "low" "I" (.int (3 : Int32)) ∧ Fld Z h b1 "com/example/vertex_to_service/vertextoservice/core/Choices" "second" "Lcom/example/vertex_to_service/vertextoservice/core/Choices;" .null ∧ Fld Z h b1 "com/example/vertex_to_service/vertextoservice/core/Choices" "vertex" "I" (.int (3 : Int32))
set_option maxRecDepth 65536 in
set_option maxHeartbeats 40000000 in
theorem rm1_48 (l : Launch) (Z : State) (a0 : Array Value) (hw : ∀ d ∈ tables_1, d.before a0 Z = true) (ws : List Jvm.Cond) (i1 : Int32) (h0 : Heap) (n0 : Nat) (Z0 : n0 ≤ h0.size)  :
    MetFree l (⟨"com/example/vertex_to_service/vertextoservice/core/Choices", "of", "(II)Lcom/example/vertex_to_service/vertextoservice/core/Choices;"⟩ : MethodName) (head1 (Jvm.Cond.code (⟨"com/example/vertex_to_service/vertextoservice/core/Choices", "of", "(II)Lcom/example/vertex_to_service/vertextoservice/core/Choices;"⟩ : MethodName) prog_10_method_2_code 2 (some (.object "com/example/vertex_to_service/vertextoservice/core/Choices")) :: ws) ({ frames := 2, cells := 1, slots := 6, locals := 31 } : Room)) (fun a U => a = #[(.int (3 : Int32)), (.int i1)] ∧ Z.Warmed39 U.vm ∧ U.heap = h0) (fun _ _ _ _ _ => True) (fun _ U o U' => ∃ v L, o = .returned v ∧ Q1_48 Z i1 h0 n0 v U'.heap L ∧ FrameEnd U o U' L ({ frames := 2, cells := 1, slots := 6, locals := 31 } : Room).cells ({ frames := 2, cells := 1, slots := 6, locals := 31 } : Room).slots) := by
  refine own_body (plainFor_of_name pn_1) ?_
  intro p e s m below meth c s₁ G hx hby hml hZ hown hnm hret X0 e0 step fin
  replace hown : s.vm.findClass "com/example/vertex_to_service/vertextoservice/core/Choices" = some m.cls := hown
  replace hnm : meth.name = "of" := hnm
  replace hret : meth.sig.returnType = some (.object "com/example/vertex_to_service/vertextoservice/core/Choices") := hret
  replace hml : c.maxLocals = 2 := hml
  have N0 := Fr.nil n0
  refine step (s₁.setTop (mkF m 0 #[.val (.int (3 : Int32)), .val (.int i1)] [])) (fun t k => castTop (ef_1_48 m i1) k) ?_
  obtain ⟨T1, h1, X1, e1, E1, A1, D1, -, st1⟩ := newO X0 hx hZ hown (hw _ (List.mem_of_getElem? (i := 4) rfl)) (hw _ (List.mem_of_getElem? (i := 5) rfl)) (hw _ (List.mem_of_getElem? (i := 2) rfl)) e0 (g := (mkF m 0 #[.val (.int (3 : Int32)), .val (.int i1)] [])) rfl (hb hby d1_0) (by decide) (by decide)
  obtain ⟨b1, g1⟩ : ∃ z, z = h0.size := ⟨_, rfl⟩
  rw [← g1] at A1 D1 st1
  have gn_b1 : n0 ≤ b1 := Nat.le_trans Z0 (Nat.le_of_eq g1.symm)
  have sz_b1 : h0.size ≤ b1 := Nat.le_of_eq g1.symm
  have K1 : Keep h0 h1 [] := (Keep.refl h0 []).ext E1
  have F_vertex_b1 : Fld Z h1 b1 "com/example/vertex_to_service/vertextoservice/core/Choices" "vertex" "I" (.int (0 : Int32)) := D1 (Or.inr (hw _ (List.mem_of_getElem? (i := 13) rfl))) (ty := .int) (by decide)
  have F_candidate_b1 : Fld Z h1 b1 "com/example/vertex_to_service/vertextoservice/core/Choices" "candidate" "I" (.int (0 : Int32)) := D1 (Or.inr (hw _ (List.mem_of_getElem? (i := 15) rfl))) (ty := .int) (by decide)
  have F_first_b1 : Fld Z h1 b1 "com/example/vertex_to_service/vertextoservice/core/Choices" "first" "Lcom/example/vertex_to_service/vertextoservice/core/Choices;" .null := D1 (Or.inr (hw _ (List.mem_of_getElem? (i := 17) rfl))) (ty := (.object "com/example/vertex_to_service/vertextoservice/core/Choices")) (by decide)
  have F_second_b1 : Fld Z h1 b1 "com/example/vertex_to_service/vertextoservice/core/Choices" "second" "Lcom/example/vertex_to_service/vertextoservice/core/Choices;" .null := D1 (Or.inr (hw _ (List.mem_of_getElem? (i := 19) rfl))) (ty := (.object "com/example/vertex_to_service/vertextoservice/core/Choices")) (by decide)
  have F_low_b1 : Fld Z h1 b1 "com/example/vertex_to_service/vertextoservice/core/Choices" "low" "I" (.int (0 : Int32)) := D1 (Or.inr (hw _ (List.mem_of_getElem? (i := 21) rfl))) (ty := .int) (by decide)
  have F_high_b1 : Fld Z h1 b1 "com/example/vertex_to_service/vertextoservice/core/Choices" "high" "I" (.int (0 : Int32)) := D1 (Or.inr (hw _ (List.mem_of_getElem? (i := 23) rfl))) (ty := .int) (by decide)
  refine step (T1.setTop (mkF m 3 #[.val (.int (3 : Int32)), .val (.int i1)] [(.ref b1)])) (fun t k => st1 t k) ?_
  refine step (T1.setTop (mkF m 4 #[.val (.int (3 : Int32)), .val (.int i1)] [(.ref b1), (.ref b1)])) (fun t k => XS.dup X1.here hx rfl (hb hby d1_3) rfl rfl k) ?_
  refine step (T1.setTop (mkF m 5 #[.val (.int (3 : Int32)), .val (.int i1)] [(.int (3 : Int32)), (.ref b1), (.ref b1)])) (fun t k => XS.iloadN X1.here hx rfl (hb hby d1_4) rfl k) ?_
  refine step (T1.setTop (mkF m 6 #[.val (.int (3 : Int32)), .val (.int i1)] [(.int i1), (.int (3 : Int32)), (.ref b1), (.ref b1)])) (fun t k => XS.iloadN X1.here hx rfl (hb hby d1_5) rfl k) ?_
  refine step (T1.setTop (mkF m 7 #[.val (.int (3 : Int32)), .val (.int i1)] [.null, (.int i1), (.int (3 : Int32)), (.ref b1), (.ref b1)])) (fun t k => XS.aconstNull X1.here hx rfl (hb hby d1_6) k) ?_
  refine step (T1.setTop (mkF m 8 #[.val (.int (3 : Int32)), .val (.int i1)] [.null, .null, (.int i1), (.int (3 : Int32)), (.ref b1), (.ref b1)])) (fun t k => XS.aconstNull X1.here hx rfl (hb hby d1_7) k) ?_
  refine step (T1.setTop (mkF m 9 #[.val (.int (3 : Int32)), .val (.int i1)] [(.int (3 : Int32)), .null, .null, (.int i1), (.int (3 : Int32)), (.ref b1), (.ref b1)])) (fun t k => XS.iloadN X1.here hx rfl (hb hby d1_8) rfl k) ?_
  refine step (T1.setTop (mkF m 10 #[.val (.int (3 : Int32)), .val (.int i1)] [(.int (3 : Int32)), (.int (3 : Int32)), .null, .null, (.int i1), (.int (3 : Int32)), (.ref b1), (.ref b1)])) (fun t k => XS.iloadN X1.here hx rfl (hb hby d1_9) rfl k) ?_
  obtain ⟨_, _, ⟨T2, L2, k2, n2⟩, -, X2, ⟨Lc2, hQ2, l2, y2, z2⟩, st2⟩ := X1.specialBack hx (y := (⟨"com/example/vertex_to_service/vertextoservice/core/Choices", "<init>", "(IILcom/example/vertex_to_service/vertextoservice/core/Choices;Lcom/example/vertex_to_service/vertextoservice/core/Choices;II)V"⟩ : MethodName)) rfl hown (mvT hZ (hw _ (List.mem_of_getElem? (i := 6) rfl))) (mvT hZ (hw _ (List.mem_of_getElem? (i := 7) rfl))) (mvT hZ (hw _ (List.mem_of_getElem? (i := 8) rfl))) (by decide) (backOf (W := 1) (rm2_49 l Z a0 hw [] b1 i1 h1 n0 (Nat.le_trans Z0 K1.1) A1 F_candidate_b1 F_first_b1 F_high_b1 F_low_b1 F_second_b1 F_vertex_b1 gn_b1) hZ (hw _ (List.mem_of_getElem? (i := 8) rfl)) (hw _ (List.mem_of_getElem? (i := 2) rfl)) (by decide) (by decide)) (g := (mkF m 10 #[.val (.int (3 : Int32)), .val (.int i1)] [(.int (3 : Int32)), (.int (3 : Int32)), .null, .null, (.int i1), (.int (3 : Int32)), (.ref b1), (.ref b1)])) rfl (by rw [hml]; rfl) (Steps.refl _) (a := b1) (argsL := [(.int (3 : Int32)), (.int i1), .null, .null, (.int (3 : Int32)), (.int (3 : Int32))]) (rest := [(.ref b1)]) (lenOf pd_4 rfl) rfl (by show 2 * 0 + _ ≤ _; exact Nat.le_of_eq rfl) (hb hby d1_10) (fun _ _ => ⟨rfl, e1, (by decide : 1 + 0 ≤ _), (by decide : 6 + 0 ≤ _)⟩)
  dsimp only [Pt.U, Pt.locs, Pt.cells, Pt.slots] at X2 l2 y2 z2 st2 hQ2
  subst l2 y2 z2
  obtain ⟨h2, e2⟩ : ∃ z, T2.heap = z := ⟨_, rfl⟩
  rw [e2] at hQ2
  obtain ⟨rfl, N2q, K2q, q0_2, q1_2, q2_2, q3_2, q4_2, q5_2⟩ := hQ2
  have N2 := Fr.app N0 N2q
  have K2 : Keep h0 h2 [] := K1.trans K2q (allS (Or.inr sz_b1) all0)
  refine step (T2.setTop (mkF m 13 #[.val (.int (3 : Int32)), .val (.int i1)] [(.ref b1)])) (fun t k => st2.trans k) ?_
  have f3 := (A1.keep K2q)
  refine fin (v := some (.ref b1)) X2 (fun h => by cases h) ?_ (by decide) (by decide) (fun fs hr => X2.areturnOut hx rfl hret rfl (hb hby d1_13) hr)
  show Q1_48 Z i1 h0 n0 (some (.ref b1)) T2.heap _
  rw [e2]
  exact ⟨b1, rfl, N2, K2, sz_b1, f3, q0_2, q1_2, q2_2, q3_2, q4_2, q5_2⟩
theorem ef_7_51 (m : MethodId) (x0 : Addr) (x1 : Addr) (x3 : Addr) : entryFrame m #[(.ref x0), (.ref x1), .null, (.ref x3)] 6 = mkF m 0 #[.val (.ref x0), .val (.ref x1), .val .null, .val (.ref x3), .unset, .unset] [] := by first | (simp [entryFrame, mkF, argsToLocals, Value.category]; done) | rfl
def Q7_51 (Z : State) (o1 : Addr) (o2 : Addr) (o3 : Addr) (i1 : Int32) (kc2 : ClassId) (i3 : Int32) (i4 : Int32) (i5 : Int32) (i6 : Int32) (o4 : Addr) (kc7 : ClassId) (h0 : Heap) (n0 : Nat) (v : Option Value) (h : Heap) (L : List Loc) : Prop := v = some (.int (1 : Int32)) ∧ Fr n0 L ∧ Keep h0 h [o3, o4, o2] ∧ Fld Z h o3 "java/util/ArrayDeque" "elements" "[Ljava/lang/Object;" (.ref o4) ∧ Fld Z h o3 "java/util/ArrayDeque" "head" "I" (.int (0 : Int32)) ∧ Fld Z h o3 "java/util/ArrayDeque" "tail" "I" (.int (0 : Int32)) ∧ Arv Z h o4 kc7 (.object "java/lang/Object") (17 : Int32) [.null, .null, .null, .null, .null, .null, .null, .null, .null, .null, .null, .null, .null, .null, .null, .null, .null] .null ∧ Arv Z h o2 kc2 .int (4 : Int32) [(.int i3), (.int i4), (.int i5), (.int i1)] (.int (0 : Int32))
set_option maxRecDepth 65536 in
set_option maxHeartbeats 40000000 in
theorem rm7_51 (l : Launch) (Z : State) (a0 : Array Value) (hw : ∀ d ∈ tables_1, d.before a0 Z = true) (ws : List Jvm.Cond) (o1 : Addr) (o2 : Addr) (o3 : Addr) (i1 : Int32) (kc2 : ClassId) (i3 : Int32) (i4 : Int32) (i5 : Int32) (i6 : Int32) (o4 : Addr) (kc7 : ClassId) (h0 : Heap) (n0 : Nat) (Z0 : n0 ≤ h0.size) (Pm0 : Exa Z h0 o1 "com/example/vertex_to_service/vertextoservice/core/Choices") (Pm1 : Fld Z h0 o1 "com/example/vertex_to_service/vertextoservice/core/Choices" "candidate" "I" (.int i1)) (Pm2 : Fld Z h0 o1 "com/example/vertex_to_service/vertextoservice/core/Choices" "first" "Lcom/example/vertex_to_service/vertextoservice/core/Choices;" .null) (Pm3 : Fld Z h0 o1 "com/example/vertex_to_service/vertextoservice/core/Choices" "second" "Lcom/example/vertex_to_service/vertextoservice/core/Choices;" .null) (Pm4 : Fld Z h0 o1 "com/example/vertex_to_service/vertextoservice/core/Choices" "vertex" "I" (.int (3 : Int32))) (Pm5 : Arv Z h0 o2 kc2 .int (4 : Int32) [(.int i3), (.int i4), (.int i5), (.int i6)] (.int (0 : Int32))) (Pm6 : Exa Z h0 o3 "java/util/ArrayDeque") (Pm7 : Fld Z h0 o3 "java/util/ArrayDeque" "elements" "[Ljava/lang/Object;" (.ref o4)) (Pm8 : Fld Z h0 o3 "java/util/ArrayDeque" "head" "I" (.int (0 : Int32))) (Pm9 : Fld Z h0 o3 "java/util/ArrayDeque" "tail" "I" (.int (0 : Int32))) (Pm10 : Arv Z h0 o4 kc7 (.object "java/lang/Object") (17 : Int32) [.null, .null, .null, .null, .null, .null, .null, .null, .null, .null, .null, .null, .null, .null, .null, .null, .null] .null) (O11 : Ovr Z kc7 "java/lang/Object") (gn_o1 : n0 ≤ o1) (ne_o1_o2 : o1 ≠ o2) (ne_o1_o3 : o1 ≠ o3) (ne_o1_o4 : o1 ≠ o4) (gn_o2 : n0 ≤ o2) (ne_o2_o3 : o2 ≠ o3) (ne_o2_o4 : o2 ≠ o4) (gn_o3 : n0 ≤ o3) (ne_o3_o4 : o3 ≠ o4) (gn_o4 : n0 ≤ o4) (hy22 : i3 = (i3 + (0 : Int32)))  :
    MetFree l (⟨"com/example/vertex_to_service/vertextoservice/core/Choices", "writeTo", "([I[ILjava/util/ArrayDeque;)I"⟩ : MethodName) (head1 (Jvm.Cond.code (⟨"com/example/vertex_to_service/vertextoservice/core/Choices", "writeTo", "([I[ILjava/util/ArrayDeque;)I"⟩ : MethodName) prog_10_method_7_code 6 (some .int) :: ws) ({ frames := 4, cells := 0, slots := 0, locals := 54 } : Room)) (fun a U => a = #[(.ref o1), (.ref o2), .null, (.ref o3)] ∧ Z.Warmed39 U.vm ∧ U.heap = h0) (fun _ _ _ _ _ => True) (fun _ U o U' => ∃ v L, o = .returned v ∧ Q7_51 Z o1 o2 o3 i1 kc2 i3 i4 i5 i6 o4 kc7 h0 n0 v U'.heap L ∧ FrameEnd U o U' L ({ frames := 4, cells := 0, slots := 0, locals := 54 } : Room).cells ({ frames := 4, cells := 0, slots := 0, locals := 54 } : Room).slots) := by
  refine own_body (plainFor_of_name pn_1) ?_
  intro p e s m below meth c s₁ G hx hby hml hZ hown hnm hret X0 e0 step fin
  replace hown : s.vm.findClass "com/example/vertex_to_service/vertextoservice/core/Choices" = some m.cls := hown
  replace hnm : meth.name = "writeTo" := hnm
  replace hret : meth.sig.returnType = some .int := hret
  replace hml : c.maxLocals = 6 := hml
  have N0 := Fr.nil n0
  refine step (s₁.setTop (mkF m 0 #[.val (.ref o1), .val (.ref o2), .val .null, .val (.ref o3), .unset, .unset] [])) (fun t k => castTop (ef_7_51 m o1 o2 o3) k) ?_
  refine step (s₁.setTop (mkF m 1 #[.val (.ref o1), .val (.ref o2), .val .null, .val (.ref o3), .unset, .unset] [(.int (0 : Int32))])) (fun t k => XS.iconst X0.here hx rfl (hb hby d7_0) k) ?_
  refine step (s₁.setTop (mkF m 3 #[.val (.ref o1), .val (.ref o2), .val .null, .val (.ref o3), .val (.int (0 : Int32)), .unset] [])) (fun t k => XS.istore X0.here hx rfl (hb hby d7_1) rfl (l' := #[.val (.ref o1), .val (.ref o2), .val .null, .val (.ref o3), .val (.int (0 : Int32)), .unset]) rfl k) ?_
  refine step (s₁.setTop (mkF m 4 #[.val (.ref o1), .val (.ref o2), .val .null, .val (.ref o3), .val (.int (0 : Int32)), .unset] [(.ref o3)])) (fun t k => XS.aloadN X0.here hx rfl (hb hby d7_3) rfl rfl k) ?_
  refine step (s₁.setTop (mkF m 5 #[.val (.ref o1), .val (.ref o2), .val .null, .val (.ref o3), .val (.int (0 : Int32)), .unset] [(.ref o1), (.ref o3)])) (fun t k => XS.aloadN X0.here hx rfl (hb hby d7_4) rfl rfl k) ?_
  obtain ⟨cq1, kq1, q1a, q1b, q1c⟩ := isOf hZ e0 Pm6
  obtain ⟨_, _, ⟨T1, L1, k1, n1⟩, -, X1, ⟨Lc1, hQ1, l1, y1, z1⟩, st1⟩ := X0.virtualBack hx (y := (⟨"java/util/ArrayDeque", "push", "(Ljava/lang/Object;)V"⟩ : MethodName)) (z := (⟨"java/util/ArrayDeque", "push", "(Ljava/lang/Object;)V"⟩ : MethodName)) hown (mvT hZ (hw _ (List.mem_of_getElem? (i := 51) rfl))) (mvT hZ (hw _ (List.mem_of_getElem? (i := 52) rfl))) (notFace_of_selects (args := #[]) (mvT hZ (hw _ (List.mem_of_getElem? (i := 54) rfl)))) (mvT hZ (hw _ (List.mem_of_getElem? (i := 54) rfl))) (mvT hZ (hw _ (List.mem_of_getElem? (i := 53) rfl))) (by decide) (backOf (W := 0) (rm8_7 l Z a0 hw [] o3 o1 o4 kc7 h0 n0 Z0 Pm6 Pm7 Pm8 Pm9 Pm0 Pm10 O11 gn_o3 (Ne.symm ne_o1_o3) ne_o3_o4 gn_o1 ne_o1_o4 gn_o4) hZ (hw _ (List.mem_of_getElem? (i := 55) rfl)) (hw _ (List.mem_of_getElem? (i := 32) rfl)) (by decide) (by decide)) q1a q1c (g := (mkF m 5 #[.val (.ref o1), .val (.ref o2), .val .null, .val (.ref o3), .val (.int (0 : Int32)), .unset] [(.ref o1), (.ref o3)])) rfl (by rw [hml]; rfl) (Steps.refl _) (argsL := [(.ref o1)]) (rest := []) (lenOf pd_7 rfl) rfl (by show 2 * 0 + _ ≤ _; exact Nat.le_of_eq rfl) (hb hby d7_5) (fun _ _ => ⟨rfl, e0, (by decide : 0 + 0 ≤ _), (by decide : 0 + 0 ≤ _)⟩)
  dsimp only [Pt.U, Pt.locs, Pt.cells, Pt.slots] at X1 l1 y1 z1 st1 hQ1
  subst l1 y1 z1
  obtain ⟨h1, e1⟩ : ∃ z, T1.heap = z := ⟨_, rfl⟩
  rw [e1] at hQ1
  obtain ⟨rfl, N1q, K1q, q0_1, q1_1, q2_1, q3_1⟩ := hQ1
  have N1 := Fr.app N0 N1q
  have K1 : Keep h0 h1 [o3, o4, o2] := (Keep.refl h0 [o3, o4, o2]).trans K1q (allS (Or.inl (List.mem_of_getElem? (i := 0) rfl)) (allS (Or.inl (List.mem_of_getElem? (i := 1) rfl)) all0))
  refine step (T1.setTop (mkF m 8 #[.val (.ref o1), .val (.ref o2), .val .null, .val (.ref o3), .val (.int (0 : Int32)), .unset] [])) (fun t k => st1.trans k) ?_
  refine step (T1.setTop (mkF m 9 #[.val (.ref o1), .val (.ref o2), .val .null, .val (.ref o3), .val (.int (0 : Int32)), .unset] [(.ref o3)])) (fun t k => XS.aloadN X1.here hx rfl (hb hby d7_8) rfl rfl k) ?_
  have f2 := (Pm6.keep K1q)
  obtain ⟨cq3, kq3, q3a, q3b, q3c⟩ := isOf hZ e1 f2
  obtain ⟨_, _, ⟨T3, L3, k3, n3⟩, -, X3, ⟨Lc3, hQ3, l3, y3, z3⟩, st3⟩ := X1.virtualBack hx (y := (⟨"java/util/ArrayDeque", "isEmpty", "()Z"⟩ : MethodName)) (z := (⟨"java/util/ArrayDeque", "isEmpty", "()Z"⟩ : MethodName)) hown (mvT hZ (hw _ (List.mem_of_getElem? (i := 69) rfl))) (mvT hZ (hw _ (List.mem_of_getElem? (i := 70) rfl))) (notFace_of_selects (args := #[]) (mvT hZ (hw _ (List.mem_of_getElem? (i := 72) rfl)))) (mvT hZ (hw _ (List.mem_of_getElem? (i := 72) rfl))) (mvT hZ (hw _ (List.mem_of_getElem? (i := 71) rfl))) (by decide) (backOf (W := 0) (rm11_10 l Z a0 hw [] o3 h1 n0 (Nat.le_trans Z0 K1.1) f2 q1_1 q2_1 gn_o3) hZ (hw _ (List.mem_of_getElem? (i := 73) rfl)) (hw _ (List.mem_of_getElem? (i := 32) rfl)) (by decide) (by decide)) q3a q3c (g := (mkF m 9 #[.val (.ref o1), .val (.ref o2), .val .null, .val (.ref o3), .val (.int (0 : Int32)), .unset] [(.ref o3)])) rfl (by rw [hml]; rfl) (Steps.refl _) (argsL := []) (rest := []) (lenOf pd_8 rfl) rfl (by show 2 * 0 + _ ≤ _; exact Nat.le_of_eq rfl) (hb hby d7_9) (fun _ _ => ⟨rfl, e1, (by decide : 0 + 0 ≤ _), (by decide : 0 + 0 ≤ _)⟩)
  dsimp only [Pt.U, Pt.locs, Pt.cells, Pt.slots] at X3 l3 y3 z3 st3 hQ3
  subst l3 y3 z3
  obtain ⟨rfl, N3q, e3q⟩ := hQ3
  have N3 := Fr.app N1 N3q
  refine step (T3.setTop (mkF m 12 #[.val (.ref o1), .val (.ref o2), .val .null, .val (.ref o3), .val (.int (0 : Int32)), .unset] [(.int (0 : Int32))])) (fun t k => st3.trans k) ?_
  refine step (T3.setTop (mkF m 15 #[.val (.ref o1), .val (.ref o2), .val .null, .val (.ref o3), .val (.int (0 : Int32)), .unset] [])) (fun t k => XS.ifNo X3.here hx rfl (hb hby d7_12) rfl ((if0 _ _).trans (teq (by decide : (0 : Int32) = (0 : Int32))).2) k) ?_
  refine step (T3.setTop (mkF m 16 #[.val (.ref o1), .val (.ref o2), .val .null, .val (.ref o3), .val (.int (0 : Int32)), .unset] [(.ref o3)])) (fun t k => XS.aloadN X3.here hx rfl (hb hby d7_15) rfl rfl k) ?_
  have f4 := (Pm0.keep K1q)
  obtain ⟨cq5, kq5, q5a, q5b, q5c⟩ := isOf hZ e3q f2
  obtain ⟨_, _, ⟨T5, L5, k5, n5⟩, -, X5, ⟨Lc5, hQ5, l5, y5, z5⟩, st5⟩ := X3.virtualBack hx (y := (⟨"java/util/ArrayDeque", "pop", "()Ljava/lang/Object;"⟩ : MethodName)) (z := (⟨"java/util/ArrayDeque", "pop", "()Ljava/lang/Object;"⟩ : MethodName)) hown (mvT hZ (hw _ (List.mem_of_getElem? (i := 74) rfl))) (mvT hZ (hw _ (List.mem_of_getElem? (i := 75) rfl))) (notFace_of_selects (args := #[]) (mvT hZ (hw _ (List.mem_of_getElem? (i := 77) rfl)))) (mvT hZ (hw _ (List.mem_of_getElem? (i := 77) rfl))) (mvT hZ (hw _ (List.mem_of_getElem? (i := 76) rfl))) (by decide) (backOf (W := 0) (rm12_11 l Z a0 hw [] o3 o4 kc7 o1 h1 n0 (Nat.le_trans Z0 K1.1) f2 q0_1 q1_1 q2_1 q3_1 O11 f4 gn_o3 ne_o3_o4 (Ne.symm ne_o1_o3) gn_o4 (Ne.symm ne_o1_o4) gn_o1) hZ (hw _ (List.mem_of_getElem? (i := 78) rfl)) (hw _ (List.mem_of_getElem? (i := 32) rfl)) (by decide) (by decide)) q5a q5c (g := (mkF m 16 #[.val (.ref o1), .val (.ref o2), .val .null, .val (.ref o3), .val (.int (0 : Int32)), .unset] [(.ref o3)])) rfl (by rw [hml]; rfl) (Steps.refl _) (argsL := []) (rest := []) (lenOf pd_9 rfl) rfl (by show 2 * 0 + _ ≤ _; exact Nat.le_of_eq rfl) (hb hby d7_16) (fun _ _ => ⟨rfl, e3q, (by decide : 0 + 0 ≤ _), (by decide : 0 + 0 ≤ _)⟩)
  dsimp only [Pt.U, Pt.locs, Pt.cells, Pt.slots] at X5 l5 y5 z5 st5 hQ5
  subst l5 y5 z5
  obtain ⟨h5, e5⟩ : ∃ z, T5.heap = z := ⟨_, rfl⟩
  rw [e5] at hQ5
  obtain ⟨rfl, N5q, K5q, q0_5, q1_5, q2_5, q3_5⟩ := hQ5
  have N5 := Fr.app N3 N5q
  have K5 : Keep h0 h5 [o3, o4, o2] := K1.trans K5q (allS (Or.inl (List.mem_of_getElem? (i := 1) rfl)) (allS (Or.inl (List.mem_of_getElem? (i := 0) rfl)) all0))
  refine step (T5.setTop (mkF m 19 #[.val (.ref o1), .val (.ref o2), .val .null, .val (.ref o3), .val (.int (0 : Int32)), .unset] [(.ref o1)])) (fun t k => st5.trans k) ?_
  have f6 := (f4.keep K5q)
  obtain ⟨T7, X7, e7, st7⟩ := castY X5 hx hZ hown (hw _ (List.mem_of_getElem? (i := 4) rfl)) e5 (Ins.self f6) (g := (mkF m 19 #[.val (.ref o1), .val (.ref o2), .val .null, .val (.ref o3), .val (.int (0 : Int32)), .unset] [(.ref o1)])) rfl rfl (hb hby d7_19)
  refine step (T7.setTop (mkF m 22 #[.val (.ref o1), .val (.ref o2), .val .null, .val (.ref o3), .val (.int (0 : Int32)), .unset] [(.ref o1)])) (fun t k => st7 t k) ?_
  refine step (T7.setTop (mkF m 24 #[.val (.ref o1), .val (.ref o2), .val .null, .val (.ref o3), .val (.int (0 : Int32)), .val (.ref o1)] [])) (fun t k => XS.astore X7.here hx rfl (hb hby d7_22) rfl rfl (l' := #[.val (.ref o1), .val (.ref o2), .val .null, .val (.ref o3), .val (.int (0 : Int32)), .val (.ref o1)]) rfl k) ?_
  refine step (T7.setTop (mkF m 26 #[.val (.ref o1), .val (.ref o2), .val .null, .val (.ref o3), .val (.int (0 : Int32)), .val (.ref o1)] [(.ref o1)])) (fun t k => XS.aload X7.here hx rfl (hb hby d7_24) rfl rfl k) ?_
  have f8 := ((Pm2.keep K1q (ninS ne_o1_o3 (ninS ne_o1_o4 nin0))).keep K5q (ninS ne_o1_o4 (ninS ne_o1_o3 nin0)))
  obtain ⟨T9, X9, e9, st9⟩ := getF X7 hx hZ hown (host := "") (Or.inl (hw _ (List.mem_of_getElem? (i := 16) rfl))) Via.refl e7 f8 (g := (mkF m 26 #[.val (.ref o1), .val (.ref o2), .val .null, .val (.ref o3), .val (.int (0 : Int32)), .val (.ref o1)] [(.ref o1)])) rfl rfl (hb hby d7_26)
  refine step (T9.setTop (mkF m 29 #[.val (.ref o1), .val (.ref o2), .val .null, .val (.ref o3), .val (.int (0 : Int32)), .val (.ref o1)] [.null])) (fun t k => st9 t k) ?_
  refine step (T9.setTop (mkF m 53 #[.val (.ref o1), .val (.ref o2), .val .null, .val (.ref o3), .val (.int (0 : Int32)), .val (.ref o1)] [])) (fun t k => XS.ifnullYes X9.here hx rfl (pc0 := 29) (pc' := 53) rfl (hb hby d7_29) rfl (by decide) (by decide) k) ?_
  refine step (T9.setTop (mkF m 55 #[.val (.ref o1), .val (.ref o2), .val .null, .val (.ref o3), .val (.int (0 : Int32)), .val (.ref o1)] [(.ref o1)])) (fun t k => XS.aload X9.here hx rfl (hb hby d7_53) rfl rfl k) ?_
  have f10 := ((Pm4.keep K1q (ninS ne_o1_o3 (ninS ne_o1_o4 nin0))).keep K5q (ninS ne_o1_o4 (ninS ne_o1_o3 nin0)))
  obtain ⟨T11, X11, e11, st11⟩ := getF X9 hx hZ hown (host := "") (Or.inl (hw _ (List.mem_of_getElem? (i := 12) rfl))) Via.refl e9 f10 (g := (mkF m 55 #[.val (.ref o1), .val (.ref o2), .val .null, .val (.ref o3), .val (.int (0 : Int32)), .val (.ref o1)] [(.ref o1)])) rfl rfl (hb hby d7_55)
  refine step (T11.setTop (mkF m 58 #[.val (.ref o1), .val (.ref o2), .val .null, .val (.ref o3), .val (.int (0 : Int32)), .val (.ref o1)] [(.int (3 : Int32))])) (fun t k => st11 t k) ?_
  refine step (T11.setTop (mkF m 61 #[.val (.ref o1), .val (.ref o2), .val .null, .val (.ref o3), .val (.int (0 : Int32)), .val (.ref o1)] [])) (fun t k => XS.ifNo X11.here hx rfl (hb hby d7_58) rfl ((if0 _ _).trans (flt (by decide : ¬ ((3 : Int32) < (0 : Int32)))).1) k) ?_
  refine step (T11.setTop (mkF m 62 #[.val (.ref o1), .val (.ref o2), .val .null, .val (.ref o3), .val (.int (0 : Int32)), .val (.ref o1)] [(.ref o2)])) (fun t k => XS.aloadN X11.here hx rfl (hb hby d7_61) rfl rfl k) ?_
  refine step (T11.setTop (mkF m 64 #[.val (.ref o1), .val (.ref o2), .val .null, .val (.ref o3), .val (.int (0 : Int32)), .val (.ref o1)] [(.ref o1), (.ref o2)])) (fun t k => XS.aload X11.here hx rfl (hb hby d7_62) rfl rfl k) ?_
  obtain ⟨T12, X12, e12, st12⟩ := getF X11 hx hZ hown (host := "") (Or.inl (hw _ (List.mem_of_getElem? (i := 12) rfl))) Via.refl e11 f10 (g := (mkF m 64 #[.val (.ref o1), .val (.ref o2), .val .null, .val (.ref o3), .val (.int (0 : Int32)), .val (.ref o1)] [(.ref o1), (.ref o2)])) rfl rfl (hb hby d7_64)
  refine step (T12.setTop (mkF m 67 #[.val (.ref o1), .val (.ref o2), .val .null, .val (.ref o3), .val (.int (0 : Int32)), .val (.ref o1)] [(.int (3 : Int32)), (.ref o2)])) (fun t k => st12 t k) ?_
  refine step (T12.setTop (mkF m 69 #[.val (.ref o1), .val (.ref o2), .val .null, .val (.ref o3), .val (.int (0 : Int32)), .val (.ref o1)] [(.ref o1), (.int (3 : Int32)), (.ref o2)])) (fun t k => XS.aload X12.here hx rfl (hb hby d7_67) rfl rfl k) ?_
  have f13 := ((Pm1.keep K1q (ninS ne_o1_o3 (ninS ne_o1_o4 nin0))).keep K5q (ninS ne_o1_o4 (ninS ne_o1_o3 nin0)))
  obtain ⟨T14, X14, e14, st14⟩ := getF X12 hx hZ hown (host := "") (Or.inl (hw _ (List.mem_of_getElem? (i := 14) rfl))) Via.refl e12 f13 (g := (mkF m 69 #[.val (.ref o1), .val (.ref o2), .val .null, .val (.ref o3), .val (.int (0 : Int32)), .val (.ref o1)] [(.ref o1), (.int (3 : Int32)), (.ref o2)])) rfl rfl (hb hby d7_69)
  refine step (T14.setTop (mkF m 72 #[.val (.ref o1), .val (.ref o2), .val .null, .val (.ref o3), .val (.int (0 : Int32)), .val (.ref o1)] [(.int i1), (.int (3 : Int32)), (.ref o2)])) (fun t k => st14 t k) ?_
  have f15 := ((Pm5.keep K1q (ninS ne_o2_o3 (ninS ne_o2_o4 nin0))).keep K5q (ninS ne_o2_o4 (ninS ne_o2_o3 nin0)))
  obtain ⟨cl16, Ar16, q16, S16, N16n, H16, G16⟩ := id f15
  have hin16 : ¬ ((3 : Int32) < 0 ∨ cl16.slots.size ≤ ((3 : Int32)).toNatClampNeg) := inb_of S16 ⟨by decide, by decide⟩
  obtain ⟨T16, h16, X16, e16, W16, st16⟩ := stI X14 hx hZ e14 Ar16 (j := (3 : Int32)) hin16 (g := (mkF m 72 #[.val (.ref o1), .val (.ref o2), .val .null, .val (.ref o3), .val (.int (0 : Int32)), .val (.ref o1)] [(.int i1), (.int (3 : Int32)), (.ref o2)])) rfl rfl (hb hby d7_72)
  have N16 := Fr.snoc X16 N5 gn_o2
  have K16 : Keep h0 h16 [o3, o4, o2] := K5.wr W16 (Or.inl (List.mem_of_getElem? (i := 2) rfl))
  have V16 : Arv Z h16 o2 kc2 .int (4 : Int32) [(.int i3), (.int i4), (.int i5), (.int i1)] (.int (0 : Int32)) := Arv.set Ar16 q16 S16 N16n H16 G16 rfl W16 3 rfl (Nat.le_of_ble_eq_true rfl)
  refine step (T16.setTop (mkF m 73 #[.val (.ref o1), .val (.ref o2), .val .null, .val (.ref o3), .val (.int (0 : Int32)), .val (.ref o1)] [])) (fun t k => st16 t k) ?_
  refine step (T16.setTop (mkF m 74 #[.val (.ref o1), .val (.ref o2), .val .null, .val (.ref o3), .val (.int (0 : Int32)), .val (.ref o1)] [.null])) (fun t k => XS.aloadN X16.here hx rfl (hb hby d7_73) rfl rfl k) ?_
  refine step (T16.setTop (mkF m 86 #[.val (.ref o1), .val (.ref o2), .val .null, .val (.ref o3), .val (.int (0 : Int32)), .val (.ref o1)] [])) (fun t k => XS.ifnullYes X16.here hx rfl (pc0 := 74) (pc' := 86) rfl (hb hby d7_74) rfl (by decide) (by decide) k) ?_
  refine step (T16.setTop (mkF m 89 #[.val (.ref o1), .val (.ref o2), .val .null, .val (.ref o3), .val (.int (1 : Int32)), .val (.ref o1)] [])) (fun t k => XS.iinc X16.here hx rfl (hb hby d7_86) rfl (l' := #[.val (.ref o1), .val (.ref o2), .val .null, .val (.ref o3), .val (.int (1 : Int32)), .val (.ref o1)]) rfl k) ?_
  refine step (T16.setTop (mkF m 8 #[.val (.ref o1), .val (.ref o2), .val .null, .val (.ref o3), .val (.int (1 : Int32)), .val (.ref o1)] [])) (fun t k => XS.goto X16.here hx rfl (pc0 := 89) (pc' := 8) rfl (hb hby d7_89) (by decide) (by decide) k) ?_
  refine step (T16.setTop (mkF m 9 #[.val (.ref o1), .val (.ref o2), .val .null, .val (.ref o3), .val (.int (1 : Int32)), .val (.ref o1)] [(.ref o3)])) (fun t k => XS.aloadN X16.here hx rfl (hb hby d7_8) rfl rfl k) ?_
  have f17 := ((f2.keep K5q).wr W16)
  have f18 := (q2_5.other W16 (Or.inl (Ne.symm ne_o2_o3)))
  have f19 := (q3_5.other W16 (Or.inl (Ne.symm ne_o2_o3)))
  obtain ⟨cq20, kq20, q20a, q20b, q20c⟩ := isOf hZ e16 f17
  obtain ⟨_, _, ⟨T20, L20, k20, n20⟩, -, X20, ⟨Lc20, hQ20, l20, y20, z20⟩, st20⟩ := X16.virtualBack hx (y := (⟨"java/util/ArrayDeque", "isEmpty", "()Z"⟩ : MethodName)) (z := (⟨"java/util/ArrayDeque", "isEmpty", "()Z"⟩ : MethodName)) hown (mvT hZ (hw _ (List.mem_of_getElem? (i := 69) rfl))) (mvT hZ (hw _ (List.mem_of_getElem? (i := 70) rfl))) (notFace_of_selects (args := #[]) (mvT hZ (hw _ (List.mem_of_getElem? (i := 72) rfl)))) (mvT hZ (hw _ (List.mem_of_getElem? (i := 72) rfl))) (mvT hZ (hw _ (List.mem_of_getElem? (i := 71) rfl))) (by decide) (backOf (W := 0) (rm11_16 l Z a0 hw [] o3 h16 n0 (Nat.le_trans Z0 K16.1) f17 f18 f19 gn_o3) hZ (hw _ (List.mem_of_getElem? (i := 73) rfl)) (hw _ (List.mem_of_getElem? (i := 32) rfl)) (by decide) (by decide)) q20a q20c (g := (mkF m 9 #[.val (.ref o1), .val (.ref o2), .val .null, .val (.ref o3), .val (.int (1 : Int32)), .val (.ref o1)] [(.ref o3)])) rfl (by rw [hml]; rfl) (Steps.refl _) (argsL := []) (rest := []) (lenOf pd_8 rfl) rfl (by show 2 * 0 + _ ≤ _; exact Nat.le_of_eq rfl) (hb hby d7_9) (fun _ _ => ⟨rfl, e16, (by decide : 0 + 0 ≤ _), (by decide : 0 + 0 ≤ _)⟩)
  dsimp only [Pt.U, Pt.locs, Pt.cells, Pt.slots] at X20 l20 y20 z20 st20 hQ20
  subst l20 y20 z20
  obtain ⟨rfl, N20q, e20q⟩ := hQ20
  have N20 := Fr.app N16 N20q
  refine step (T20.setTop (mkF m 12 #[.val (.ref o1), .val (.ref o2), .val .null, .val (.ref o3), .val (.int (1 : Int32)), .val (.ref o1)] [(.int (1 : Int32))])) (fun t k => st20.trans k) ?_
  refine step (T20.setTop (mkF m 92 #[.val (.ref o1), .val (.ref o2), .val .null, .val (.ref o3), .val (.int (1 : Int32)), .val (.ref o1)] [])) (fun t k => XS.ifYes X20.here hx rfl (pc0 := 12) (pc' := 92) rfl (hb hby d7_12) rfl ((if0 _ _).trans (feq (by decide : ¬ ((1 : Int32) = (0 : Int32)))).2) (by decide) (by decide) k) ?_
  refine step (T20.setTop (mkF m 94 #[.val (.ref o1), .val (.ref o2), .val .null, .val (.ref o3), .val (.int (1 : Int32)), .val (.ref o1)] [(.int (1 : Int32))])) (fun t k => XS.iload X20.here hx rfl (hb hby d7_92) rfl k) ?_
  have f21 := (q1_5.other W16 (Or.inl (Ne.symm ne_o2_o3)))
  have f22 := (q0_5.other W16 (Ne.symm ne_o2_o4))
  refine fin (v := some (.int (1 : Int32))) X20 (fun h => by cases h) ?_ (by decide) (by decide) (fun fs hr => retI X20 hx hret (hb hby d7_94) hr)
  show Q7_51 Z o1 o2 o3 i1 kc2 i3 i4 i5 i6 o4 kc7 h0 n0 (some (.int (1 : Int32))) T20.heap _
  rw [e20q]
  exact ⟨rfl, N20, K16, f21, f18, f19, f22, V16⟩
theorem ef_4_50 (m : MethodId) (x0 : Addr) (x1 : Addr) : entryFrame m #[(.ref x0), (.ref x1)] 2 = mkF m 0 #[.val (.ref x0), .val (.ref x1)] [] := by first | (simp [entryFrame, mkF, argsToLocals, Value.category]; done) | rfl
def Q4_50 (Z : State) (o1 : Addr) (o2 : Addr) (i1 : Int32) (kc2 : ClassId) (i3 : Int32) (i4 : Int32) (i5 : Int32) (i6 : Int32) (h0 : Heap) (n0 : Nat) (v : Option Value) (h : Heap) (L : List Loc) : Prop := v = none ∧ Fr n0 L ∧ Keep h0 h [o2] ∧ Arv Z h o2 kc2 .int (4 : Int32) [(.int i3), (.int i4), (.int i5), (.int i1)] (.int (0 : Int32))
set_option maxRecDepth 65536 in
set_option maxHeartbeats 40000000 in
theorem rm4_50 (l : Launch) (Z : State) (a0 : Array Value) (hw : ∀ d ∈ tables_1, d.before a0 Z = true) (ws : List Jvm.Cond) (o1 : Addr) (o2 : Addr) (i1 : Int32) (kc2 : ClassId) (i3 : Int32) (i4 : Int32) (i5 : Int32) (i6 : Int32) (h0 : Heap) (n0 : Nat) (Z0 : n0 ≤ h0.size) (Pm0 : Exa Z h0 o1 "com/example/vertex_to_service/vertextoservice/core/Choices") (Pm1 : Fld Z h0 o1 "com/example/vertex_to_service/vertextoservice/core/Choices" "candidate" "I" (.int i1)) (Pm2 : Fld Z h0 o1 "com/example/vertex_to_service/vertextoservice/core/Choices" "first" "Lcom/example/vertex_to_service/vertextoservice/core/Choices;" .null) (Pm3 : Fld Z h0 o1 "com/example/vertex_to_service/vertextoservice/core/Choices" "second" "Lcom/example/vertex_to_service/vertextoservice/core/Choices;" .null) (Pm4 : Fld Z h0 o1 "com/example/vertex_to_service/vertextoservice/core/Choices" "vertex" "I" (.int (3 : Int32))) (Pm5 : Arv Z h0 o2 kc2 .int (4 : Int32) [(.int i3), (.int i4), (.int i5), (.int i6)] (.int (0 : Int32))) (gn_o1 : n0 ≤ o1) (ne_o1_o2 : o1 ≠ o2) (gn_o2 : n0 ≤ o2) (hy9 : i3 = (i3 + (0 : Int32)))  :
    MetFree l (⟨"com/example/vertex_to_service/vertextoservice/core/Choices", "writeTo", "([I)V"⟩ : MethodName) (head1 (Jvm.Cond.code (⟨"com/example/vertex_to_service/vertextoservice/core/Choices", "writeTo", "([I)V"⟩ : MethodName) prog_10_method_6_code 2 none :: ws) ({ frames := 5, cells := 2, slots := 20, locals := 71 } : Room)) (fun a U => a = #[(.ref o1), (.ref o2)] ∧ Z.Warmed39 U.vm ∧ U.heap = h0) (fun _ _ _ _ _ => True) (fun _ U o U' => ∃ v L, o = .returned v ∧ Q4_50 Z o1 o2 i1 kc2 i3 i4 i5 i6 h0 n0 v U'.heap L ∧ FrameEnd U o U' L ({ frames := 5, cells := 2, slots := 20, locals := 71 } : Room).cells ({ frames := 5, cells := 2, slots := 20, locals := 71 } : Room).slots) := by
  refine own_body (plainFor_of_name pn_1) ?_
  intro p e s m below meth c s₁ G hx hby hml hZ hown hnm hret X0 e0 step fin
  replace hown : s.vm.findClass "com/example/vertex_to_service/vertextoservice/core/Choices" = some m.cls := hown
  replace hnm : meth.name = "writeTo" := hnm
  replace hret : meth.sig.returnType = none := hret
  replace hml : c.maxLocals = 2 := hml
  have N0 := Fr.nil n0
  refine step (s₁.setTop (mkF m 0 #[.val (.ref o1), .val (.ref o2)] [])) (fun t k => castTop (ef_4_50 m o1 o2) k) ?_
  refine step (s₁.setTop (mkF m 1 #[.val (.ref o1), .val (.ref o2)] [(.ref o1)])) (fun t k => XS.aloadN X0.here hx rfl (hb hby d4_0) rfl rfl k) ?_
  refine step (s₁.setTop (mkF m 2 #[.val (.ref o1), .val (.ref o2)] [(.ref o2), (.ref o1)])) (fun t k => XS.aloadN X0.here hx rfl (hb hby d4_1) rfl rfl k) ?_
  refine step (s₁.setTop (mkF m 3 #[.val (.ref o1), .val (.ref o2)] [.null, (.ref o2), (.ref o1)])) (fun t k => XS.aconstNull X0.here hx rfl (hb hby d4_2) k) ?_
  obtain ⟨T1, h1, X1, e1, E1, A1, D1, -, st1⟩ := newO X0 hx hZ hown (hw _ (List.mem_of_getElem? (i := 30) rfl)) (hw _ (List.mem_of_getElem? (i := 31) rfl)) (hw _ (List.mem_of_getElem? (i := 32) rfl)) e0 (g := (mkF m 3 #[.val (.ref o1), .val (.ref o2)] [.null, (.ref o2), (.ref o1)])) rfl (hb hby d4_3) (by decide) (by decide)
  obtain ⟨b1, g1⟩ : ∃ z, z = h0.size := ⟨_, rfl⟩
  rw [← g1] at A1 D1 st1
  have ne_o1_b1 : o1 ≠ b1 := Nat.ne_of_lt (Nat.lt_of_lt_of_le Pm0.lt (Nat.le_of_eq g1.symm))
  have ne_o2_b1 : o2 ≠ b1 := Nat.ne_of_lt (Nat.lt_of_lt_of_le Pm5.lt (Nat.le_of_eq g1.symm))
  have gn_b1 : n0 ≤ b1 := Nat.le_trans Z0 (Nat.le_of_eq g1.symm)
  have sz_b1 : h0.size ≤ b1 := Nat.le_of_eq g1.symm
  have K1 : Keep h0 h1 [o2] := (Keep.refl h0 [o2]).ext E1
  have F_elements_b1 : Fld Z h1 b1 "java/util/ArrayDeque" "elements" "[Ljava/lang/Object;" .null := D1 (Or.inl (hw _ (List.mem_of_getElem? (i := 46) rfl))) (ty := (.array (.object "java/lang/Object"))) (by decide)
  have F_head_b1 : Fld Z h1 b1 "java/util/ArrayDeque" "head" "I" (.int (0 : Int32)) := D1 (Or.inl (hw _ (List.mem_of_getElem? (i := 62) rfl))) (ty := .int) (by decide)
  have F_tail_b1 : Fld Z h1 b1 "java/util/ArrayDeque" "tail" "I" (.int (0 : Int32)) := D1 (Or.inl (hw _ (List.mem_of_getElem? (i := 68) rfl))) (ty := .int) (by decide)
  refine step (T1.setTop (mkF m 6 #[.val (.ref o1), .val (.ref o2)] [(.ref b1), .null, (.ref o2), (.ref o1)])) (fun t k => st1 t k) ?_
  refine step (T1.setTop (mkF m 7 #[.val (.ref o1), .val (.ref o2)] [(.ref b1), (.ref b1), .null, (.ref o2), (.ref o1)])) (fun t k => XS.dup X1.here hx rfl (hb hby d4_6) rfl rfl k) ?_
  obtain ⟨_, _, ⟨T2, L2, k2, n2⟩, -, X2, ⟨Lc2, hQ2, l2, y2, z2⟩, st2⟩ := X1.specialBack hx (y := (⟨"java/util/ArrayDeque", "<init>", "()V"⟩ : MethodName)) rfl hown (mvT hZ (hw _ (List.mem_of_getElem? (i := 33) rfl))) (mvT hZ (hw _ (List.mem_of_getElem? (i := 34) rfl))) (mvT hZ (hw _ (List.mem_of_getElem? (i := 35) rfl))) (by decide) (backOf (W := 4) (rm5_4 l Z a0 hw [] b1 h1 n0 (Nat.le_trans Z0 K1.1) A1 F_elements_b1 F_head_b1 F_tail_b1 gn_b1) hZ (hw _ (List.mem_of_getElem? (i := 35) rfl)) (hw _ (List.mem_of_getElem? (i := 32) rfl)) (by decide) (by decide)) (g := (mkF m 7 #[.val (.ref o1), .val (.ref o2)] [(.ref b1), (.ref b1), .null, (.ref o2), (.ref o1)])) rfl (by rw [hml]; rfl) (Steps.refl _) (a := b1) (argsL := []) (rest := [(.ref b1), .null, (.ref o2), (.ref o1)]) (lenOf pd_5 rfl) rfl (by show 2 * 0 + _ ≤ _; exact Nat.le_of_eq rfl) (hb hby d4_7) (fun _ _ => ⟨rfl, e1, (by decide : 1 + 1 ≤ _), (by decide : 3 + 17 ≤ _)⟩)
  dsimp only [Pt.U, Pt.locs, Pt.cells, Pt.slots] at X2 l2 y2 z2 st2 hQ2
  subst l2 y2 z2
  obtain ⟨h2, e2⟩ : ∃ z, T2.heap = z := ⟨_, rfl⟩
  rw [e2] at hQ2
  obtain ⟨b2_2, k2_2, rfl, N2q, K2q, sz_b2_2, q0_2, q1_2, q2_2, q3_2, ov0_2⟩ := hQ2
  have N2 := Fr.app N0 N2q
  have f3 := (Pm0.ext E1)
  have lt2_o1 := f3.lt
  have f4 := (Pm5.ext E1)
  have lt2_o2 := f4.lt
  have lt2_b1 := A1.lt
  have ne_o1_b2_2 : o1 ≠ b2_2 := Nat.ne_of_lt (Nat.lt_of_lt_of_le lt2_o1 sz_b2_2)
  have ne_o2_b2_2 : o2 ≠ b2_2 := Nat.ne_of_lt (Nat.lt_of_lt_of_le lt2_o2 sz_b2_2)
  have ne_b1_b2_2 : b1 ≠ b2_2 := Nat.ne_of_lt (Nat.lt_of_lt_of_le lt2_b1 sz_b2_2)
  have gn_b2_2 : n0 ≤ b2_2 := Nat.le_trans (Nat.le_trans Z0 K1.1) sz_b2_2
  have sz_b2_2' := Nat.le_trans K1.1 sz_b2_2
  replace sz_b2_2 := sz_b2_2'
  have K2 : Keep h0 h2 [o2] := K1.trans K2q (allS (Or.inr sz_b1) all0)
  refine step (T2.setTop (mkF m 10 #[.val (.ref o1), .val (.ref o2)] [(.ref b1), .null, (.ref o2), (.ref o1)])) (fun t k => st2.trans k) ?_
  have f5 := (f3.keep K2q)
  have f6 := ((Pm1.ext E1).keep K2q (ninS ne_o1_b1 nin0))
  have f7 := ((Pm2.ext E1).keep K2q (ninS ne_o1_b1 nin0))
  have f8 := ((Pm3.ext E1).keep K2q (ninS ne_o1_b1 nin0))
  have f9 := ((Pm4.ext E1).keep K2q (ninS ne_o1_b1 nin0))
  have f10 := (f4.keep K2q (ninS ne_o2_b1 nin0))
  have f11 := (A1.keep K2q)
  obtain ⟨cq12, q12, q12'⟩ := f5.cell
  obtain ⟨_, _, ⟨T12, L12, k12, n12⟩, -, X12, ⟨Lc12, hQ12, l12, y12, z12⟩, st12⟩ := X2.privateBack hx (y := (⟨"com/example/vertex_to_service/vertextoservice/core/Choices", "writeTo", "([I[ILjava/util/ArrayDeque;)I"⟩ : MethodName)) hown (mvT hZ (hw _ (List.mem_of_getElem? (i := 47) rfl))) (mvT hZ (hw _ (List.mem_of_getElem? (i := 48) rfl))) (own_selP (mvT hZ (hw _ (List.mem_of_getElem? (i := 48) rfl))) (mvT hZ (hw _ (List.mem_of_getElem? (i := 5) rfl))) (Cond.privateMethod_at (mvP hZ (hw _ (List.mem_of_getElem? (i := 49) rfl)) (args := #[]))) (by decide)) (Cond.privateMethod_at (mvP hZ (hw _ (List.mem_of_getElem? (i := 49) rfl)) (args := #[]))) (mvT hZ (hw _ (List.mem_of_getElem? (i := 50) rfl))) (by decide) (backOf (W := 0) (rm7_51 l Z a0 hw [] o1 o2 b1 i1 kc2 i3 i4 i5 i6 b2_2 k2_2 h2 n0 (Nat.le_trans Z0 K2.1) f5 f6 f7 f8 f9 f10 f11 q0_2 q1_2 q2_2 q3_2 ov0_2 gn_o1 ne_o1_o2 ne_o1_b1 ne_o1_b2_2 gn_o2 ne_o2_b1 ne_o2_b2_2 gn_b1 ne_b1_b2_2 gn_b2_2 hy9) hZ (hw _ (List.mem_of_getElem? (i := 50) rfl)) (hw _ (List.mem_of_getElem? (i := 2) rfl)) (by decide) (by decide)) (g := (mkF m 10 #[.val (.ref o1), .val (.ref o2)] [(.ref b1), .null, (.ref o2), (.ref o1)])) rfl (by rw [hml]; rfl) (Steps.refl _) (a := o1) (by rw [e2]; exact q12) q12' (argsL := [(.ref o2), .null, (.ref b1)]) (rest := []) (lenOf pd_6 rfl) rfl (by show 2 * 0 + _ ≤ _; exact Nat.le_of_eq rfl) (hb hby d4_10) (fun _ _ => ⟨rfl, e2, (by decide : 2 + 0 ≤ _), (by decide : 20 + 0 ≤ _)⟩)
  dsimp only [Pt.U, Pt.locs, Pt.cells, Pt.slots] at X12 l12 y12 z12 st12 hQ12
  subst l12 y12 z12
  obtain ⟨h12, e12⟩ : ∃ z, T12.heap = z := ⟨_, rfl⟩
  rw [e12] at hQ12
  obtain ⟨rfl, N12q, K12q, q0_12, q1_12, q2_12, q3_12, q4_12⟩ := hQ12
  have N12 := Fr.app N2 N12q
  have K12 : Keep h0 h12 [o2] := K2.trans K12q (allS (Or.inr sz_b1) (allS (Or.inr sz_b2_2) (allS (Or.inl (List.mem_of_getElem? (i := 0) rfl)) all0)))
  refine step (T12.setTop (mkF m 13 #[.val (.ref o1), .val (.ref o2)] [(.int (1 : Int32))])) (fun t k => st12.trans k) ?_
  refine step (T12.setTop (mkF m 14 #[.val (.ref o1), .val (.ref o2)] [])) (fun t k => XS.pop X12.here hx rfl (hb hby d4_13) rfl rfl k) ?_
  refine fin (v := none) X12 (fun _ => rfl) ?_ (by decide) (by decide) (fun fs hr => X12.returnOut hx hret (hb hby d4_14) hr)
  show Q4_50 Z o1 o2 i1 kc2 i3 i4 i5 i6 h0 n0 (none) T12.heap _
  rw [e12]
  exact ⟨rfl, N12, K12, q4_12⟩
theorem ef_17_52 (m : MethodId) (x2 : Int32) (x3 : Int32) : entryFrame m #[(.int (0 : Int32)), (.int (3 : Int32)), (.int x2), (.int x3)] 4 = mkF m 0 #[.val (.int (0 : Int32)), .val (.int (3 : Int32)), .val (.int x2), .val (.int x3)] [] := by first | (simp [entryFrame, mkF, argsToLocals, Value.category]; done) | rfl
def Q17_52 (Z : State) (i1 : Int32) (i2 : Int32) (h0 : Heap) (n0 : Nat) (v : Option Value) (h : Heap) (L : List Loc) : Prop := v = some (.int (i2 + (0 : Int32))) ∧ Fr n0 L ∧ h = h0
set_option maxRecDepth 65536 in
set_option maxHeartbeats 40000000 in
theorem rm17_52 (l : Launch) (Z : State) (a0 : Array Value) (hw : ∀ d ∈ tables_1, d.before a0 Z = true) (ws : List Jvm.Cond) (i1 : Int32) (i2 : Int32) (h0 : Heap) (n0 : Nat) (Z0 : n0 ≤ h0.size) (hy0 : i2 = (i2 + (0 : Int32)))  :
    MetFree l (⟨"com/example/vertex_to_service/vertextoservice/core/ChoicesOfPinLaw", "expected", "(IIII)I"⟩ : MethodName) (head1 (Jvm.Cond.code (⟨"com/example/vertex_to_service/vertextoservice/core/ChoicesOfPinLaw", "expected", "(IIII)I"⟩ : MethodName) method_2_code 4 (some .int) :: ws) ({ frames := 0, cells := 0, slots := 0, locals := 0 } : Room)) (fun a U => a = #[(.int (0 : Int32)), (.int (3 : Int32)), (.int i1), (.int i2)] ∧ Z.Warmed39 U.vm ∧ U.heap = h0) (fun _ _ _ _ _ => True) (fun _ U o U' => ∃ v L, o = .returned v ∧ Q17_52 Z i1 i2 h0 n0 v U'.heap L ∧ FrameEnd U o U' L ({ frames := 0, cells := 0, slots := 0, locals := 0 } : Room).cells ({ frames := 0, cells := 0, slots := 0, locals := 0 } : Room).slots) := by
  refine own_body (plainFor_of_name pn_0) ?_
  intro p e s m below meth c s₁ G hx hby hml hZ hown hnm hret X0 e0 step fin
  replace hown : s.vm.findClass "com/example/vertex_to_service/vertextoservice/core/ChoicesOfPinLaw" = some m.cls := hown
  replace hnm : meth.name = "expected" := hnm
  replace hret : meth.sig.returnType = some .int := hret
  replace hml : c.maxLocals = 4 := hml
  have N0 := Fr.nil n0
  refine step (s₁.setTop (mkF m 0 #[.val (.int (0 : Int32)), .val (.int (3 : Int32)), .val (.int i1), .val (.int i2)] [])) (fun t k => castTop (ef_17_52 m i1 i2) k) ?_
  refine step (s₁.setTop (mkF m 1 #[.val (.int (0 : Int32)), .val (.int (3 : Int32)), .val (.int i1), .val (.int i2)] [(.int (0 : Int32))])) (fun t k => XS.iloadN X0.here hx rfl (hb hby d17_0) rfl k) ?_
  refine step (s₁.setTop (mkF m 2 #[.val (.int (0 : Int32)), .val (.int (3 : Int32)), .val (.int i1), .val (.int i2)] [(.int (3 : Int32)), (.int (0 : Int32))])) (fun t k => XS.iloadN X0.here hx rfl (hb hby d17_1) rfl k) ?_
  refine step (s₁.setTop (mkF m 7 #[.val (.int (0 : Int32)), .val (.int (3 : Int32)), .val (.int i1), .val (.int i2)] [])) (fun t k => XS.icmpYes X0.here hx rfl (pc0 := 2) (pc' := 7) rfl (hb hby d17_2) rfl (feq (by decide : ¬ ((0 : Int32) = (3 : Int32)))).2 (by decide) (by decide) k) ?_
  refine step (s₁.setTop (mkF m 8 #[.val (.int (0 : Int32)), .val (.int (3 : Int32)), .val (.int i1), .val (.int i2)] [(.int i2)])) (fun t k => XS.iloadN X0.here hx rfl (hb hby d17_7) rfl k) ?_
  refine step (s₁.setTop (mkF m 9 #[.val (.int (0 : Int32)), .val (.int (3 : Int32)), .val (.int i1), .val (.int i2)] [(.int (0 : Int32)), (.int i2)])) (fun t k => XS.iloadN X0.here hx rfl (hb hby d17_8) rfl k) ?_
  refine step (s₁.setTop (mkF m 10 #[.val (.int (0 : Int32)), .val (.int (3 : Int32)), .val (.int i1), .val (.int i2)] [(.int (i2 + (0 : Int32)))])) (fun t k => XS.iadd X0.here hx rfl (hb hby d17_9) rfl k) ?_
  refine fin (v := some (.int (i2 + (0 : Int32)))) X0 (fun h => by cases h) ?_ (by decide) (by decide) (fun fs hr => retI X0 hx hret (hb hby d17_10) hr)
  show Q17_52 Z i1 i2 h0 n0 (some (.int (i2 + (0 : Int32)))) s₁.heap _
  rw [e0]
  exact ⟨rfl, N0, rfl⟩
theorem ef_17_53 (m : MethodId) (x2 : Int32) (x3 : Int32) : entryFrame m #[(.int (1 : Int32)), (.int (3 : Int32)), (.int x2), (.int x3)] 4 = mkF m 0 #[.val (.int (1 : Int32)), .val (.int (3 : Int32)), .val (.int x2), .val (.int x3)] [] := by first | (simp [entryFrame, mkF, argsToLocals, Value.category]; done) | rfl
def Q17_53 (Z : State) (i1 : Int32) (i2 : Int32) (h0 : Heap) (n0 : Nat) (v : Option Value) (h : Heap) (L : List Loc) : Prop := v = some (.int (i2 + (1 : Int32))) ∧ Fr n0 L ∧ h = h0
set_option maxRecDepth 65536 in
set_option maxHeartbeats 40000000 in
theorem rm17_53 (l : Launch) (Z : State) (a0 : Array Value) (hw : ∀ d ∈ tables_1, d.before a0 Z = true) (ws : List Jvm.Cond) (i1 : Int32) (i2 : Int32) (h0 : Heap) (n0 : Nat) (Z0 : n0 ≤ h0.size) (hy0 : i2 = (i2 + (0 : Int32)))  :
    MetFree l (⟨"com/example/vertex_to_service/vertextoservice/core/ChoicesOfPinLaw", "expected", "(IIII)I"⟩ : MethodName) (head1 (Jvm.Cond.code (⟨"com/example/vertex_to_service/vertextoservice/core/ChoicesOfPinLaw", "expected", "(IIII)I"⟩ : MethodName) method_2_code 4 (some .int) :: ws) ({ frames := 0, cells := 0, slots := 0, locals := 0 } : Room)) (fun a U => a = #[(.int (1 : Int32)), (.int (3 : Int32)), (.int i1), (.int i2)] ∧ Z.Warmed39 U.vm ∧ U.heap = h0) (fun _ _ _ _ _ => True) (fun _ U o U' => ∃ v L, o = .returned v ∧ Q17_53 Z i1 i2 h0 n0 v U'.heap L ∧ FrameEnd U o U' L ({ frames := 0, cells := 0, slots := 0, locals := 0 } : Room).cells ({ frames := 0, cells := 0, slots := 0, locals := 0 } : Room).slots) := by
  refine own_body (plainFor_of_name pn_0) ?_
  intro p e s m below meth c s₁ G hx hby hml hZ hown hnm hret X0 e0 step fin
  replace hown : s.vm.findClass "com/example/vertex_to_service/vertextoservice/core/ChoicesOfPinLaw" = some m.cls := hown
  replace hnm : meth.name = "expected" := hnm
  replace hret : meth.sig.returnType = some .int := hret
  replace hml : c.maxLocals = 4 := hml
  have N0 := Fr.nil n0
  refine step (s₁.setTop (mkF m 0 #[.val (.int (1 : Int32)), .val (.int (3 : Int32)), .val (.int i1), .val (.int i2)] [])) (fun t k => castTop (ef_17_53 m i1 i2) k) ?_
  refine step (s₁.setTop (mkF m 1 #[.val (.int (1 : Int32)), .val (.int (3 : Int32)), .val (.int i1), .val (.int i2)] [(.int (1 : Int32))])) (fun t k => XS.iloadN X0.here hx rfl (hb hby d17_0) rfl k) ?_
  refine step (s₁.setTop (mkF m 2 #[.val (.int (1 : Int32)), .val (.int (3 : Int32)), .val (.int i1), .val (.int i2)] [(.int (3 : Int32)), (.int (1 : Int32))])) (fun t k => XS.iloadN X0.here hx rfl (hb hby d17_1) rfl k) ?_
  refine step (s₁.setTop (mkF m 7 #[.val (.int (1 : Int32)), .val (.int (3 : Int32)), .val (.int i1), .val (.int i2)] [])) (fun t k => XS.icmpYes X0.here hx rfl (pc0 := 2) (pc' := 7) rfl (hb hby d17_2) rfl (feq (by decide : ¬ ((1 : Int32) = (3 : Int32)))).2 (by decide) (by decide) k) ?_
  refine step (s₁.setTop (mkF m 8 #[.val (.int (1 : Int32)), .val (.int (3 : Int32)), .val (.int i1), .val (.int i2)] [(.int i2)])) (fun t k => XS.iloadN X0.here hx rfl (hb hby d17_7) rfl k) ?_
  refine step (s₁.setTop (mkF m 9 #[.val (.int (1 : Int32)), .val (.int (3 : Int32)), .val (.int i1), .val (.int i2)] [(.int (1 : Int32)), (.int i2)])) (fun t k => XS.iloadN X0.here hx rfl (hb hby d17_8) rfl k) ?_
  refine step (s₁.setTop (mkF m 10 #[.val (.int (1 : Int32)), .val (.int (3 : Int32)), .val (.int i1), .val (.int i2)] [(.int (i2 + (1 : Int32)))])) (fun t k => XS.iadd X0.here hx rfl (hb hby d17_9) rfl k) ?_
  refine fin (v := some (.int (i2 + (1 : Int32)))) X0 (fun h => by cases h) ?_ (by decide) (by decide) (fun fs hr => retI X0 hx hret (hb hby d17_10) hr)
  show Q17_53 Z i1 i2 h0 n0 (some (.int (i2 + (1 : Int32)))) s₁.heap _
  rw [e0]
  exact ⟨rfl, N0, rfl⟩
theorem ef_17_54 (m : MethodId) (x2 : Int32) (x3 : Int32) : entryFrame m #[(.int (2 : Int32)), (.int (3 : Int32)), (.int x2), (.int x3)] 4 = mkF m 0 #[.val (.int (2 : Int32)), .val (.int (3 : Int32)), .val (.int x2), .val (.int x3)] [] := by first | (simp [entryFrame, mkF, argsToLocals, Value.category]; done) | rfl
def Q17_54 (Z : State) (i1 : Int32) (i2 : Int32) (h0 : Heap) (n0 : Nat) (v : Option Value) (h : Heap) (L : List Loc) : Prop := v = some (.int (i2 + (2 : Int32))) ∧ Fr n0 L ∧ h = h0
set_option maxRecDepth 65536 in
set_option maxHeartbeats 40000000 in
theorem rm17_54 (l : Launch) (Z : State) (a0 : Array Value) (hw : ∀ d ∈ tables_1, d.before a0 Z = true) (ws : List Jvm.Cond) (i1 : Int32) (i2 : Int32) (h0 : Heap) (n0 : Nat) (Z0 : n0 ≤ h0.size) (hy0 : i2 = (i2 + (0 : Int32)))  :
    MetFree l (⟨"com/example/vertex_to_service/vertextoservice/core/ChoicesOfPinLaw", "expected", "(IIII)I"⟩ : MethodName) (head1 (Jvm.Cond.code (⟨"com/example/vertex_to_service/vertextoservice/core/ChoicesOfPinLaw", "expected", "(IIII)I"⟩ : MethodName) method_2_code 4 (some .int) :: ws) ({ frames := 0, cells := 0, slots := 0, locals := 0 } : Room)) (fun a U => a = #[(.int (2 : Int32)), (.int (3 : Int32)), (.int i1), (.int i2)] ∧ Z.Warmed39 U.vm ∧ U.heap = h0) (fun _ _ _ _ _ => True) (fun _ U o U' => ∃ v L, o = .returned v ∧ Q17_54 Z i1 i2 h0 n0 v U'.heap L ∧ FrameEnd U o U' L ({ frames := 0, cells := 0, slots := 0, locals := 0 } : Room).cells ({ frames := 0, cells := 0, slots := 0, locals := 0 } : Room).slots) := by
  refine own_body (plainFor_of_name pn_0) ?_
  intro p e s m below meth c s₁ G hx hby hml hZ hown hnm hret X0 e0 step fin
  replace hown : s.vm.findClass "com/example/vertex_to_service/vertextoservice/core/ChoicesOfPinLaw" = some m.cls := hown
  replace hnm : meth.name = "expected" := hnm
  replace hret : meth.sig.returnType = some .int := hret
  replace hml : c.maxLocals = 4 := hml
  have N0 := Fr.nil n0
  refine step (s₁.setTop (mkF m 0 #[.val (.int (2 : Int32)), .val (.int (3 : Int32)), .val (.int i1), .val (.int i2)] [])) (fun t k => castTop (ef_17_54 m i1 i2) k) ?_
  refine step (s₁.setTop (mkF m 1 #[.val (.int (2 : Int32)), .val (.int (3 : Int32)), .val (.int i1), .val (.int i2)] [(.int (2 : Int32))])) (fun t k => XS.iloadN X0.here hx rfl (hb hby d17_0) rfl k) ?_
  refine step (s₁.setTop (mkF m 2 #[.val (.int (2 : Int32)), .val (.int (3 : Int32)), .val (.int i1), .val (.int i2)] [(.int (3 : Int32)), (.int (2 : Int32))])) (fun t k => XS.iloadN X0.here hx rfl (hb hby d17_1) rfl k) ?_
  refine step (s₁.setTop (mkF m 7 #[.val (.int (2 : Int32)), .val (.int (3 : Int32)), .val (.int i1), .val (.int i2)] [])) (fun t k => XS.icmpYes X0.here hx rfl (pc0 := 2) (pc' := 7) rfl (hb hby d17_2) rfl (feq (by decide : ¬ ((2 : Int32) = (3 : Int32)))).2 (by decide) (by decide) k) ?_
  refine step (s₁.setTop (mkF m 8 #[.val (.int (2 : Int32)), .val (.int (3 : Int32)), .val (.int i1), .val (.int i2)] [(.int i2)])) (fun t k => XS.iloadN X0.here hx rfl (hb hby d17_7) rfl k) ?_
  refine step (s₁.setTop (mkF m 9 #[.val (.int (2 : Int32)), .val (.int (3 : Int32)), .val (.int i1), .val (.int i2)] [(.int (2 : Int32)), (.int i2)])) (fun t k => XS.iloadN X0.here hx rfl (hb hby d17_8) rfl k) ?_
  refine step (s₁.setTop (mkF m 10 #[.val (.int (2 : Int32)), .val (.int (3 : Int32)), .val (.int i1), .val (.int i2)] [(.int (i2 + (2 : Int32)))])) (fun t k => XS.iadd X0.here hx rfl (hb hby d17_9) rfl k) ?_
  refine fin (v := some (.int (i2 + (2 : Int32)))) X0 (fun h => by cases h) ?_ (by decide) (by decide) (fun fs hr => retI X0 hx hret (hb hby d17_10) hr)
  show Q17_54 Z i1 i2 h0 n0 (some (.int (i2 + (2 : Int32)))) s₁.heap _
  rw [e0]
  exact ⟨rfl, N0, rfl⟩
theorem ef_17_55 (m : MethodId) (x2 : Int32) (x3 : Int32) : entryFrame m #[(.int (3 : Int32)), (.int (3 : Int32)), (.int x2), (.int x3)] 4 = mkF m 0 #[.val (.int (3 : Int32)), .val (.int (3 : Int32)), .val (.int x2), .val (.int x3)] [] := by first | (simp [entryFrame, mkF, argsToLocals, Value.category]; done) | rfl
def Q17_55 (Z : State) (i1 : Int32) (i2 : Int32) (h0 : Heap) (n0 : Nat) (v : Option Value) (h : Heap) (L : List Loc) : Prop := v = some (.int i1) ∧ Fr n0 L ∧ h = h0
set_option maxRecDepth 65536 in
set_option maxHeartbeats 40000000 in
theorem rm17_55 (l : Launch) (Z : State) (a0 : Array Value) (hw : ∀ d ∈ tables_1, d.before a0 Z = true) (ws : List Jvm.Cond) (i1 : Int32) (i2 : Int32) (h0 : Heap) (n0 : Nat) (Z0 : n0 ≤ h0.size) (hy0 : i2 = (i2 + (0 : Int32)))  :
    MetFree l (⟨"com/example/vertex_to_service/vertextoservice/core/ChoicesOfPinLaw", "expected", "(IIII)I"⟩ : MethodName) (head1 (Jvm.Cond.code (⟨"com/example/vertex_to_service/vertextoservice/core/ChoicesOfPinLaw", "expected", "(IIII)I"⟩ : MethodName) method_2_code 4 (some .int) :: ws) ({ frames := 0, cells := 0, slots := 0, locals := 0 } : Room)) (fun a U => a = #[(.int (3 : Int32)), (.int (3 : Int32)), (.int i1), (.int i2)] ∧ Z.Warmed39 U.vm ∧ U.heap = h0) (fun _ _ _ _ _ => True) (fun _ U o U' => ∃ v L, o = .returned v ∧ Q17_55 Z i1 i2 h0 n0 v U'.heap L ∧ FrameEnd U o U' L ({ frames := 0, cells := 0, slots := 0, locals := 0 } : Room).cells ({ frames := 0, cells := 0, slots := 0, locals := 0 } : Room).slots) := by
  refine own_body (plainFor_of_name pn_0) ?_
  intro p e s m below meth c s₁ G hx hby hml hZ hown hnm hret X0 e0 step fin
  replace hown : s.vm.findClass "com/example/vertex_to_service/vertextoservice/core/ChoicesOfPinLaw" = some m.cls := hown
  replace hnm : meth.name = "expected" := hnm
  replace hret : meth.sig.returnType = some .int := hret
  replace hml : c.maxLocals = 4 := hml
  have N0 := Fr.nil n0
  refine step (s₁.setTop (mkF m 0 #[.val (.int (3 : Int32)), .val (.int (3 : Int32)), .val (.int i1), .val (.int i2)] [])) (fun t k => castTop (ef_17_55 m i1 i2) k) ?_
  refine step (s₁.setTop (mkF m 1 #[.val (.int (3 : Int32)), .val (.int (3 : Int32)), .val (.int i1), .val (.int i2)] [(.int (3 : Int32))])) (fun t k => XS.iloadN X0.here hx rfl (hb hby d17_0) rfl k) ?_
  refine step (s₁.setTop (mkF m 2 #[.val (.int (3 : Int32)), .val (.int (3 : Int32)), .val (.int i1), .val (.int i2)] [(.int (3 : Int32)), (.int (3 : Int32))])) (fun t k => XS.iloadN X0.here hx rfl (hb hby d17_1) rfl k) ?_
  refine step (s₁.setTop (mkF m 5 #[.val (.int (3 : Int32)), .val (.int (3 : Int32)), .val (.int i1), .val (.int i2)] [])) (fun t k => XS.icmpNo X0.here hx rfl (hb hby d17_2) rfl (teq (by decide : (3 : Int32) = (3 : Int32))).2 k) ?_
  refine step (s₁.setTop (mkF m 6 #[.val (.int (3 : Int32)), .val (.int (3 : Int32)), .val (.int i1), .val (.int i2)] [(.int i1)])) (fun t k => XS.iloadN X0.here hx rfl (hb hby d17_5) rfl k) ?_
  refine fin (v := some (.int i1)) X0 (fun h => by cases h) ?_ (by decide) (by decide) (fun fs hr => retI X0 hx hret (hb hby d17_6) hr)
  show Q17_55 Z i1 i2 h0 n0 (some (.int i1)) s₁.heap _
  rw [e0]
  exact ⟨rfl, N0, rfl⟩
theorem own_plain55 (p0 : Int32) (p1 : Int32) (p2 : Int32) (p3 : Int32) (p4 : Int32) (pv : Int32) (qv : Int32) (z30_7_167 : Int32) (z178_168 : Int32) (z186_171 : Int32) (hpv : (p0 &&& (2147483647 : Int32)) = pv) (hqv : (p2 &&& (2147483647 : Int32)) = qv) (hz30_7_167 : z30_7_167 = (if pv < qv then (1 : Int32) else (0 : Int32))) (hz178_168 : z178_168 = (if pv < qv then (1 : Int32) else (0 : Int32))) (hz186_171 : z186_171 = (if z30_7_167 = z178_168 then (1 : Int32) else (0 : Int32))) : ¬ (z186_171 = (0 : Int32)) := by
  subst hz30_7_167 hz178_168 hz186_171
  split <;> decide
theorem own_plain56 (p0 : Int32) (p1 : Int32) (p2 : Int32) (p3 : Int32) (p4 : Int32) (pv : Int32) (qv : Int32) (z30_7_175 : Int32) (z212_176 : Int32) (z220_179 : Int32) (hpv : (p0 &&& (2147483647 : Int32)) = pv) (hqv : (p2 &&& (2147483647 : Int32)) = qv) (hz30_7_175 : z30_7_175 = (if qv < pv then (1 : Int32) else (0 : Int32))) (hz212_176 : z212_176 = (if qv < pv then (1 : Int32) else (0 : Int32))) (hz220_179 : z220_179 = (if z30_7_175 = z212_176 then (1 : Int32) else (0 : Int32))) : ¬ (z220_179 = (0 : Int32)) := by
  subst hz30_7_175 hz212_176 hz220_179
  split <;> decide
theorem ef_0 (m : MethodId) (x0 : Int32) (x1 : Int32) (x2 : Int32) (x3 : Int32) (x4 : Int32) : entryFrame m #[(.int x0), (.int x1), (.int x2), (.int x3), (.int x4)] maxLocals = mkF m 0 #[.val (.int x0), .val (.int x1), .val (.int x2), .val (.int x3), .val (.int x4), .unset, .unset, .unset, .unset, .unset, .unset, .unset, .unset] [] := by first | (simp [entryFrame, mkF, argsToLocals, Value.category, maxLocals]; done) | rfl
def Q0 (Z : State) (p0 p1 p2 p3 p4 : Int32) (h0 : Heap) (n0 : Nat) (v : Option Value) (h : Heap) (L : List Loc) : Prop := v = some (.int 1) ∧ Fr n0 L
set_option maxRecDepth 65536 in
set_option maxHeartbeats 40000000 in
theorem rm0 (l : Launch) (Z : State) (a0 : Array Value) (hw : ∀ d ∈ tables_1, d.before a0 Z = true) (ws : List Jvm.Cond) (p0 p1 p2 p3 p4 : Int32) (h0 : Heap) (n0 : Nat) (Z0 : n0 ≤ h0.size)  :
    MetFree l x (head1 (Jvm.Cond.code x code maxLocals ret :: ws) room_1) (fun a U => a = #[(.int p0), (.int p1), (.int p2), (.int p3), (.int p4)] ∧ Z.Warmed39 U.vm ∧ U.heap = h0) (fun _ _ _ _ _ => True) (fun _ U o U' => ∃ v L, o = .returned v ∧ Q0 Z p0 p1 p2 p3 p4 h0 n0 v U'.heap L ∧ FrameEnd U o U' L room_1.cells room_1.slots) := by
  refine own_body (plainFor_of_name pn_0) ?_
  intro p e s m below meth c s₁ G hx hby hml hZ hown hnm hret X0 e0 step fin
  replace hown : s.vm.findClass "com/example/vertex_to_service/vertextoservice/core/ChoicesOfPinLaw" = some m.cls := hown
  replace hnm : meth.name = "law" := hnm
  replace hret : meth.sig.returnType = some .boolean := hret
  replace hml : c.maxLocals = 13 := hml
  have N0 := Fr.nil n0
  refine step (s₁.setTop (mkF m 0 #[.val (.int p0), .val (.int p1), .val (.int p2), .val (.int p3), .val (.int p4), .unset, .unset, .unset, .unset, .unset, .unset, .unset, .unset] [])) (fun t k => castTop (ef_0 m p0 p1 p2 p3 p4) k) ?_
  refine step (s₁.setTop (mkF m 1 #[.val (.int p0), .val (.int p1), .val (.int p2), .val (.int p3), .val (.int p4), .unset, .unset, .unset, .unset, .unset, .unset, .unset, .unset] [(.int p0)])) (fun t k => XS.iloadN X0.here hx rfl (hb hby at_0) rfl k) ?_
  refine step (s₁.setTop (mkF m 2 #[.val (.int p0), .val (.int p1), .val (.int p2), .val (.int p3), .val (.int p4), .unset, .unset, .unset, .unset, .unset, .unset, .unset, .unset] [(.int (3 : Int32)), (.int p0)])) (fun t k => XS.iconst X0.here hx rfl (hb hby at_1) k) ?_
  refine step (s₁.setTop (mkF m 3 #[.val (.int p0), .val (.int p1), .val (.int p2), .val (.int p3), .val (.int p4), .unset, .unset, .unset, .unset, .unset, .unset, .unset, .unset] [(.int (p0 &&& (3 : Int32)))])) (fun t k => XS.iand X0.here hx rfl (hb hby at_2) rfl k) ?_
  generalize hv : (p0 &&& (3 : Int32)) = v
  have hcase := own_and3 p0
  rw [hv] at hcase
  rcases hcase with rfl | rfl | rfl | rfl
  · -- v = 0
    show G (s₁.setTop (mkF m 3 #[.val (.int p0), .val (.int p1), .val (.int p2), .val (.int p3), .val (.int p4), .unset, .unset, .unset, .unset, .unset, .unset, .unset, .unset] [(.int (0 : Int32))]))
    refine step (s₁.setTop (mkF m 5 #[.val (.int p0), .val (.int p1), .val (.int p2), .val (.int p3), .val (.int p4), .val (.int (0 : Int32)), .unset, .unset, .unset, .unset, .unset, .unset, .unset] [])) (fun t k => XS.istore X0.here hx rfl (hb hby at_3) rfl (l' := #[.val (.int p0), .val (.int p1), .val (.int p2), .val (.int p3), .val (.int p4), .val (.int (0 : Int32)), .unset, .unset, .unset, .unset, .unset, .unset, .unset]) rfl k) ?_
    refine step (s₁.setTop (mkF m 7 #[.val (.int p0), .val (.int p1), .val (.int p2), .val (.int p3), .val (.int p4), .val (.int (0 : Int32)), .unset, .unset, .unset, .unset, .unset, .unset, .unset] [(.int (0 : Int32))])) (fun t k => XS.iload X0.here hx rfl (hb hby at_5) rfl k) ?_
    refine step (s₁.setTop (mkF m 8 #[.val (.int p0), .val (.int p1), .val (.int p2), .val (.int p3), .val (.int p4), .val (.int (0 : Int32)), .unset, .unset, .unset, .unset, .unset, .unset, .unset] [(.int p1), (.int (0 : Int32))])) (fun t k => XS.iloadN X0.here hx rfl (hb hby at_7) rfl k) ?_
    obtain ⟨_, _, ⟨T1, L1, k1, n1⟩, -, X1, ⟨Lc1, hQ1, l1, y1, z1⟩, st1⟩ := Jvm.LawKit.callS X0 hx (y := (⟨"com/example/vertex_to_service/vertextoservice/core/Choices", "of", "(II)Lcom/example/vertex_to_service/vertextoservice/core/Choices;"⟩ : MethodName)) hown (mvT hZ (hw _ (List.mem_of_getElem? (i := 0) rfl))) (mvT hZ (hw _ (List.mem_of_getElem? (i := 1) rfl))) (mvT hZ (hw _ (List.mem_of_getElem? (i := 2) rfl))) (mvT hZ (hw _ (List.mem_of_getElem? (i := 3) rfl))) (by decide) (backOf (W := 0) (rm1_1 l Z a0 hw [] p1 h0 n0 Z0 ) hZ (hw _ (List.mem_of_getElem? (i := 3) rfl)) (hw _ (List.mem_of_getElem? (i := 2) rfl)) (by decide) (by decide)) (g := (mkF m 8 #[.val (.int p0), .val (.int p1), .val (.int p2), .val (.int p3), .val (.int p4), .val (.int (0 : Int32)), .unset, .unset, .unset, .unset, .unset, .unset, .unset] [(.int p1), (.int (0 : Int32))])) rfl (by rw [hml]; rfl) (argsL := [(.int (0 : Int32)), (.int p1)]) (rest := []) (lenOf pd_0 rfl) rfl (by show 2 * 0 + _ ≤ _; exact Nat.le_of_eq rfl) (hb hby at_8) (fun _ _ => ⟨rfl, e0, (by decide : 0 + 1 ≤ _), (by decide : 0 + 6 ≤ _)⟩)
    dsimp only [Pt.U, Pt.locs, Pt.cells, Pt.slots] at X1 l1 y1 z1 st1 hQ1
    subst l1 y1 z1
    obtain ⟨h1, e1⟩ : ∃ z, T1.heap = z := ⟨_, rfl⟩
    rw [e1] at hQ1
    obtain ⟨b1_1, rfl, N1q, K1q, sz_b1_1, q0_1, q1_1, q2_1, q3_1, q4_1, q5_1, q6_1⟩ := hQ1
    have N1 := Fr.app N0 N1q
    have gn_b1_1 : n0 ≤ b1_1 := Nat.le_trans Z0 sz_b1_1
    have K1 : Keep h0 h1 [] := (Keep.refl h0 []).trans K1q all0
    refine step (T1.setTop (mkF m 11 #[.val (.int p0), .val (.int p1), .val (.int p2), .val (.int p3), .val (.int p4), .val (.int (0 : Int32)), .unset, .unset, .unset, .unset, .unset, .unset, .unset] [(.ref b1_1)])) (fun t k => st1 t k) ?_
    refine step (T1.setTop (mkF m 13 #[.val (.int p0), .val (.int p1), .val (.int p2), .val (.int p3), .val (.int p4), .val (.int (0 : Int32)), .val (.ref b1_1), .unset, .unset, .unset, .unset, .unset, .unset] [])) (fun t k => XS.astore X1.here hx rfl (hb hby at_11) rfl rfl (l' := #[.val (.int p0), .val (.int p1), .val (.int p2), .val (.int p3), .val (.int p4), .val (.int (0 : Int32)), .val (.ref b1_1), .unset, .unset, .unset, .unset, .unset, .unset]) rfl k) ?_
    refine step (T1.setTop (mkF m 14 #[.val (.int p0), .val (.int p1), .val (.int p2), .val (.int p3), .val (.int p4), .val (.int (0 : Int32)), .val (.ref b1_1), .unset, .unset, .unset, .unset, .unset, .unset] [(.int (4 : Int32))])) (fun t k => XS.iconst X1.here hx rfl (hb hby at_13) k) ?_
    obtain ⟨T2, h2, k2, X2, e2, E2, A2, st2⟩ := newP X1 hx hZ (hw _ (List.mem_of_getElem? (i := 24) rfl)) e1 (g := (mkF m 14 #[.val (.int p0), .val (.int p1), .val (.int p2), .val (.int p3), .val (.int p4), .val (.int (0 : Int32)), .val (.ref b1_1), .unset, .unset, .unset, .unset, .unset, .unset] [(.int (4 : Int32))])) rfl (hb hby at_14) rfl (by decide) (cap := 4) (by decide) (by decide) (by decide) (by decide)
    obtain ⟨b2, g2⟩ : ∃ z, z = h1.size := ⟨_, rfl⟩
    rw [← g2] at A2 st2
    have ne_b1_1_b2 : b1_1 ≠ b2 := Nat.ne_of_lt (Nat.lt_of_lt_of_le q0_1.lt (Nat.le_of_eq g2.symm))
    have gn_b2 : n0 ≤ b2 := Nat.le_trans (Nat.le_trans Z0 K1.1) (Nat.le_of_eq g2.symm)
    have sz_b2 : h0.size ≤ b2 := Nat.le_trans K1.1 (Nat.le_of_eq g2.symm)
    have K2 : Keep h0 h2 [] := K1.ext E2
    have V2 : Arv Z h2 b2 k2 .int (4 : Int32) [(.int (0 : Int32)), (.int (0 : Int32)), (.int (0 : Int32)), (.int (0 : Int32))] (.int (0 : Int32)) := (Arv.new A2 (by decide)).pad (pad_rep [] (.int (0 : Int32)) 4)
    refine step (T2.setTop (mkF m 16 #[.val (.int p0), .val (.int p1), .val (.int p2), .val (.int p3), .val (.int p4), .val (.int (0 : Int32)), .val (.ref b1_1), .unset, .unset, .unset, .unset, .unset, .unset] [(.ref b2)])) (fun t k => st2 t k) ?_
    refine step (T2.setTop (mkF m 18 #[.val (.int p0), .val (.int p1), .val (.int p2), .val (.int p3), .val (.int p4), .val (.int (0 : Int32)), .val (.ref b1_1), .val (.ref b2), .unset, .unset, .unset, .unset, .unset] [])) (fun t k => XS.astore X2.here hx rfl (hb hby at_16) rfl rfl (l' := #[.val (.int p0), .val (.int p1), .val (.int p2), .val (.int p3), .val (.int p4), .val (.int (0 : Int32)), .val (.ref b1_1), .val (.ref b2), .unset, .unset, .unset, .unset, .unset]) rfl k) ?_
    refine step (T2.setTop (mkF m 20 #[.val (.int p0), .val (.int p1), .val (.int p2), .val (.int p3), .val (.int p4), .val (.int (0 : Int32)), .val (.ref b1_1), .val (.ref b2), .unset, .unset, .unset, .unset, .unset] [(.ref b2)])) (fun t k => XS.aload X2.here hx rfl (hb hby at_18) rfl rfl k) ?_
    refine step (T2.setTop (mkF m 21 #[.val (.int p0), .val (.int p1), .val (.int p2), .val (.int p3), .val (.int p4), .val (.int (0 : Int32)), .val (.ref b1_1), .val (.ref b2), .unset, .unset, .unset, .unset, .unset] [(.int (0 : Int32)), (.ref b2)])) (fun t k => XS.iconst X2.here hx rfl (hb hby at_20) k) ?_
    refine step (T2.setTop (mkF m 23 #[.val (.int p0), .val (.int p1), .val (.int p2), .val (.int p3), .val (.int p4), .val (.int (0 : Int32)), .val (.ref b1_1), .val (.ref b2), .unset, .unset, .unset, .unset, .unset] [(.int p4), (.int (0 : Int32)), (.ref b2)])) (fun t k => XS.iload X2.here hx rfl (hb hby at_21) rfl k) ?_
    obtain ⟨cl3, Ar3, q3, S3, N3n, H3, G3⟩ := id V2
    have hin3 : ¬ ((0 : Int32) < 0 ∨ cl3.slots.size ≤ ((0 : Int32)).toNatClampNeg) := inb_of S3 ⟨by decide, by decide⟩
    obtain ⟨T3, h3, X3, e3, W3, st3⟩ := stI X2 hx hZ e2 Ar3 (j := (0 : Int32)) hin3 (g := (mkF m 23 #[.val (.int p0), .val (.int p1), .val (.int p2), .val (.int p3), .val (.int p4), .val (.int (0 : Int32)), .val (.ref b1_1), .val (.ref b2), .unset, .unset, .unset, .unset, .unset] [(.int p4), (.int (0 : Int32)), (.ref b2)])) rfl rfl (hb hby at_23)
    have N3 := Fr.snoc X3 N1 gn_b2
    have K3 : Keep h0 h3 [] := K2.wr W3 (Or.inr sz_b2)
    have V3 : Arv Z h3 b2 k2 .int (4 : Int32) [(.int p4), (.int (0 : Int32)), (.int (0 : Int32)), (.int (0 : Int32))] (.int (0 : Int32)) := Arv.set Ar3 q3 S3 N3n H3 G3 rfl W3 0 rfl (Nat.le_of_ble_eq_true rfl)
    refine step (T3.setTop (mkF m 24 #[.val (.int p0), .val (.int p1), .val (.int p2), .val (.int p3), .val (.int p4), .val (.int (0 : Int32)), .val (.ref b1_1), .val (.ref b2), .unset, .unset, .unset, .unset, .unset] [])) (fun t k => st3 t k) ?_
    refine step (T3.setTop (mkF m 26 #[.val (.int p0), .val (.int p1), .val (.int p2), .val (.int p3), .val (.int p4), .val (.int (0 : Int32)), .val (.ref b1_1), .val (.ref b2), .unset, .unset, .unset, .unset, .unset] [(.ref b2)])) (fun t k => XS.aload X3.here hx rfl (hb hby at_24) rfl rfl k) ?_
    refine step (T3.setTop (mkF m 27 #[.val (.int p0), .val (.int p1), .val (.int p2), .val (.int p3), .val (.int p4), .val (.int (0 : Int32)), .val (.ref b1_1), .val (.ref b2), .unset, .unset, .unset, .unset, .unset] [(.int (1 : Int32)), (.ref b2)])) (fun t k => XS.iconst X3.here hx rfl (hb hby at_26) k) ?_
    refine step (T3.setTop (mkF m 29 #[.val (.int p0), .val (.int p1), .val (.int p2), .val (.int p3), .val (.int p4), .val (.int (0 : Int32)), .val (.ref b1_1), .val (.ref b2), .unset, .unset, .unset, .unset, .unset] [(.int p4), (.int (1 : Int32)), (.ref b2)])) (fun t k => XS.iload X3.here hx rfl (hb hby at_27) rfl k) ?_
    refine step (T3.setTop (mkF m 30 #[.val (.int p0), .val (.int p1), .val (.int p2), .val (.int p3), .val (.int p4), .val (.int (0 : Int32)), .val (.ref b1_1), .val (.ref b2), .unset, .unset, .unset, .unset, .unset] [(.int (1 : Int32)), (.int p4), (.int (1 : Int32)), (.ref b2)])) (fun t k => XS.iconst X3.here hx rfl (hb hby at_29) k) ?_
    refine step (T3.setTop (mkF m 31 #[.val (.int p0), .val (.int p1), .val (.int p2), .val (.int p3), .val (.int p4), .val (.int (0 : Int32)), .val (.ref b1_1), .val (.ref b2), .unset, .unset, .unset, .unset, .unset] [(.int (p4 + (1 : Int32))), (.int (1 : Int32)), (.ref b2)])) (fun t k => XS.iadd X3.here hx rfl (hb hby at_30) rfl k) ?_
    obtain ⟨cl4, Ar4, q4, S4, N4n, H4, G4⟩ := id V3
    have hin4 : ¬ ((1 : Int32) < 0 ∨ cl4.slots.size ≤ ((1 : Int32)).toNatClampNeg) := inb_of S4 ⟨by decide, by decide⟩
    obtain ⟨T4, h4, X4, e4, W4, st4⟩ := stI X3 hx hZ e3 Ar4 (j := (1 : Int32)) hin4 (g := (mkF m 31 #[.val (.int p0), .val (.int p1), .val (.int p2), .val (.int p3), .val (.int p4), .val (.int (0 : Int32)), .val (.ref b1_1), .val (.ref b2), .unset, .unset, .unset, .unset, .unset] [(.int (p4 + (1 : Int32))), (.int (1 : Int32)), (.ref b2)])) rfl rfl (hb hby at_31)
    have N4 := Fr.snoc X4 N3 gn_b2
    have K4 : Keep h0 h4 [] := K3.wr W4 (Or.inr sz_b2)
    have V4 : Arv Z h4 b2 k2 .int (4 : Int32) [(.int p4), (.int (p4 + (1 : Int32))), (.int (0 : Int32)), (.int (0 : Int32))] (.int (0 : Int32)) := Arv.set Ar4 q4 S4 N4n H4 G4 rfl W4 1 rfl (Nat.le_of_ble_eq_true rfl)
    refine step (T4.setTop (mkF m 32 #[.val (.int p0), .val (.int p1), .val (.int p2), .val (.int p3), .val (.int p4), .val (.int (0 : Int32)), .val (.ref b1_1), .val (.ref b2), .unset, .unset, .unset, .unset, .unset] [])) (fun t k => st4 t k) ?_
    refine step (T4.setTop (mkF m 34 #[.val (.int p0), .val (.int p1), .val (.int p2), .val (.int p3), .val (.int p4), .val (.int (0 : Int32)), .val (.ref b1_1), .val (.ref b2), .unset, .unset, .unset, .unset, .unset] [(.ref b2)])) (fun t k => XS.aload X4.here hx rfl (hb hby at_32) rfl rfl k) ?_
    refine step (T4.setTop (mkF m 35 #[.val (.int p0), .val (.int p1), .val (.int p2), .val (.int p3), .val (.int p4), .val (.int (0 : Int32)), .val (.ref b1_1), .val (.ref b2), .unset, .unset, .unset, .unset, .unset] [(.int (2 : Int32)), (.ref b2)])) (fun t k => XS.iconst X4.here hx rfl (hb hby at_34) k) ?_
    refine step (T4.setTop (mkF m 37 #[.val (.int p0), .val (.int p1), .val (.int p2), .val (.int p3), .val (.int p4), .val (.int (0 : Int32)), .val (.ref b1_1), .val (.ref b2), .unset, .unset, .unset, .unset, .unset] [(.int p4), (.int (2 : Int32)), (.ref b2)])) (fun t k => XS.iload X4.here hx rfl (hb hby at_35) rfl k) ?_
    refine step (T4.setTop (mkF m 38 #[.val (.int p0), .val (.int p1), .val (.int p2), .val (.int p3), .val (.int p4), .val (.int (0 : Int32)), .val (.ref b1_1), .val (.ref b2), .unset, .unset, .unset, .unset, .unset] [(.int (2 : Int32)), (.int p4), (.int (2 : Int32)), (.ref b2)])) (fun t k => XS.iconst X4.here hx rfl (hb hby at_37) k) ?_
    refine step (T4.setTop (mkF m 39 #[.val (.int p0), .val (.int p1), .val (.int p2), .val (.int p3), .val (.int p4), .val (.int (0 : Int32)), .val (.ref b1_1), .val (.ref b2), .unset, .unset, .unset, .unset, .unset] [(.int (p4 + (2 : Int32))), (.int (2 : Int32)), (.ref b2)])) (fun t k => XS.iadd X4.here hx rfl (hb hby at_38) rfl k) ?_
    obtain ⟨cl5, Ar5, q5, S5, N5n, H5, G5⟩ := id V4
    have hin5 : ¬ ((2 : Int32) < 0 ∨ cl5.slots.size ≤ ((2 : Int32)).toNatClampNeg) := inb_of S5 ⟨by decide, by decide⟩
    obtain ⟨T5, h5, X5, e5, W5, st5⟩ := stI X4 hx hZ e4 Ar5 (j := (2 : Int32)) hin5 (g := (mkF m 39 #[.val (.int p0), .val (.int p1), .val (.int p2), .val (.int p3), .val (.int p4), .val (.int (0 : Int32)), .val (.ref b1_1), .val (.ref b2), .unset, .unset, .unset, .unset, .unset] [(.int (p4 + (2 : Int32))), (.int (2 : Int32)), (.ref b2)])) rfl rfl (hb hby at_39)
    have N5 := Fr.snoc X5 N4 gn_b2
    have K5 : Keep h0 h5 [] := K4.wr W5 (Or.inr sz_b2)
    have V5 : Arv Z h5 b2 k2 .int (4 : Int32) [(.int p4), (.int (p4 + (1 : Int32))), (.int (p4 + (2 : Int32))), (.int (0 : Int32))] (.int (0 : Int32)) := Arv.set Ar5 q5 S5 N5n H5 G5 rfl W5 2 rfl (Nat.le_of_ble_eq_true rfl)
    refine step (T5.setTop (mkF m 40 #[.val (.int p0), .val (.int p1), .val (.int p2), .val (.int p3), .val (.int p4), .val (.int (0 : Int32)), .val (.ref b1_1), .val (.ref b2), .unset, .unset, .unset, .unset, .unset] [])) (fun t k => st5 t k) ?_
    refine step (T5.setTop (mkF m 42 #[.val (.int p0), .val (.int p1), .val (.int p2), .val (.int p3), .val (.int p4), .val (.int (0 : Int32)), .val (.ref b1_1), .val (.ref b2), .unset, .unset, .unset, .unset, .unset] [(.ref b2)])) (fun t k => XS.aload X5.here hx rfl (hb hby at_40) rfl rfl k) ?_
    refine step (T5.setTop (mkF m 43 #[.val (.int p0), .val (.int p1), .val (.int p2), .val (.int p3), .val (.int p4), .val (.int (0 : Int32)), .val (.ref b1_1), .val (.ref b2), .unset, .unset, .unset, .unset, .unset] [(.int (3 : Int32)), (.ref b2)])) (fun t k => XS.iconst X5.here hx rfl (hb hby at_42) k) ?_
    refine step (T5.setTop (mkF m 45 #[.val (.int p0), .val (.int p1), .val (.int p2), .val (.int p3), .val (.int p4), .val (.int (0 : Int32)), .val (.ref b1_1), .val (.ref b2), .unset, .unset, .unset, .unset, .unset] [(.int p4), (.int (3 : Int32)), (.ref b2)])) (fun t k => XS.iload X5.here hx rfl (hb hby at_43) rfl k) ?_
    refine step (T5.setTop (mkF m 46 #[.val (.int p0), .val (.int p1), .val (.int p2), .val (.int p3), .val (.int p4), .val (.int (0 : Int32)), .val (.ref b1_1), .val (.ref b2), .unset, .unset, .unset, .unset, .unset] [(.int (3 : Int32)), (.int p4), (.int (3 : Int32)), (.ref b2)])) (fun t k => XS.iconst X5.here hx rfl (hb hby at_45) k) ?_
    refine step (T5.setTop (mkF m 47 #[.val (.int p0), .val (.int p1), .val (.int p2), .val (.int p3), .val (.int p4), .val (.int (0 : Int32)), .val (.ref b1_1), .val (.ref b2), .unset, .unset, .unset, .unset, .unset] [(.int (p4 + (3 : Int32))), (.int (3 : Int32)), (.ref b2)])) (fun t k => XS.iadd X5.here hx rfl (hb hby at_46) rfl k) ?_
    obtain ⟨cl6, Ar6, q6, S6, N6n, H6, G6⟩ := id V5
    have hin6 : ¬ ((3 : Int32) < 0 ∨ cl6.slots.size ≤ ((3 : Int32)).toNatClampNeg) := inb_of S6 ⟨by decide, by decide⟩
    obtain ⟨T6, h6, X6, e6, W6, st6⟩ := stI X5 hx hZ e5 Ar6 (j := (3 : Int32)) hin6 (g := (mkF m 47 #[.val (.int p0), .val (.int p1), .val (.int p2), .val (.int p3), .val (.int p4), .val (.int (0 : Int32)), .val (.ref b1_1), .val (.ref b2), .unset, .unset, .unset, .unset, .unset] [(.int (p4 + (3 : Int32))), (.int (3 : Int32)), (.ref b2)])) rfl rfl (hb hby at_47)
    have N6 := Fr.snoc X6 N5 gn_b2
    have K6 : Keep h0 h6 [] := K5.wr W6 (Or.inr sz_b2)
    have V6 : Arv Z h6 b2 k2 .int (4 : Int32) [(.int p4), (.int (p4 + (1 : Int32))), (.int (p4 + (2 : Int32))), (.int (p4 + (3 : Int32)))] (.int (0 : Int32)) := Arv.set Ar6 q6 S6 N6n H6 G6 rfl W6 3 rfl (Nat.le_of_ble_eq_true rfl)
    refine step (T6.setTop (mkF m 48 #[.val (.int p0), .val (.int p1), .val (.int p2), .val (.int p3), .val (.int p4), .val (.int (0 : Int32)), .val (.ref b1_1), .val (.ref b2), .unset, .unset, .unset, .unset, .unset] [])) (fun t k => st6 t k) ?_
    refine step (T6.setTop (mkF m 50 #[.val (.int p0), .val (.int p1), .val (.int p2), .val (.int p3), .val (.int p4), .val (.int (0 : Int32)), .val (.ref b1_1), .val (.ref b2), .unset, .unset, .unset, .unset, .unset] [(.ref b1_1)])) (fun t k => XS.aload X6.here hx rfl (hb hby at_48) rfl rfl k) ?_
    refine step (T6.setTop (mkF m 52 #[.val (.int p0), .val (.int p1), .val (.int p2), .val (.int p3), .val (.int p4), .val (.int (0 : Int32)), .val (.ref b1_1), .val (.ref b2), .unset, .unset, .unset, .unset, .unset] [(.ref b2), (.ref b1_1)])) (fun t k => XS.aload X6.here hx rfl (hb hby at_50) rfl rfl k) ?_
    have f7 := (((((q0_1.ext E2).wr W3).wr W4).wr W5).wr W6)
    have f8 := (((((q1_1.ext E2).other W3 (Or.inl ne_b1_1_b2)).other W4 (Or.inl ne_b1_1_b2)).other W5 (Or.inl ne_b1_1_b2)).other W6 (Or.inl ne_b1_1_b2))
    have f9 := (((((q2_1.ext E2).other W3 (Or.inl ne_b1_1_b2)).other W4 (Or.inl ne_b1_1_b2)).other W5 (Or.inl ne_b1_1_b2)).other W6 (Or.inl ne_b1_1_b2))
    have f10 := (((((q5_1.ext E2).other W3 (Or.inl ne_b1_1_b2)).other W4 (Or.inl ne_b1_1_b2)).other W5 (Or.inl ne_b1_1_b2)).other W6 (Or.inl ne_b1_1_b2))
    have f11 := (((((q6_1.ext E2).other W3 (Or.inl ne_b1_1_b2)).other W4 (Or.inl ne_b1_1_b2)).other W5 (Or.inl ne_b1_1_b2)).other W6 (Or.inl ne_b1_1_b2))
    obtain ⟨cq12, kq12, q12a, q12b, q12c⟩ := isOf hZ e6 f7
    obtain ⟨_, _, ⟨T12, L12, k12, n12⟩, -, X12, ⟨Lc12, hQ12, l12, y12, z12⟩, st12⟩ := X6.virtualBack hx (y := (⟨"com/example/vertex_to_service/vertextoservice/core/Choices", "writeTo", "([I)V"⟩ : MethodName)) (z := (⟨"com/example/vertex_to_service/vertextoservice/core/Choices", "writeTo", "([I)V"⟩ : MethodName)) hown (mvT hZ (hw _ (List.mem_of_getElem? (i := 25) rfl))) (mvT hZ (hw _ (List.mem_of_getElem? (i := 26) rfl))) (notFace_of_selects (args := #[]) (mvT hZ (hw _ (List.mem_of_getElem? (i := 28) rfl)))) (mvT hZ (hw _ (List.mem_of_getElem? (i := 28) rfl))) (mvT hZ (hw _ (List.mem_of_getElem? (i := 27) rfl))) (by decide) (backOf (W := 0) (rm4_3 l Z a0 hw [] b1_1 b2 p1 k2 p4 (p4 + (1 : Int32)) (p4 + (2 : Int32)) (p4 + (3 : Int32)) h6 n0 (Nat.le_trans Z0 K6.1) f7 f8 f9 f10 f11 V6 gn_b1_1 ne_b1_1_b2 gn_b2 (own_add0 p4)) hZ (hw _ (List.mem_of_getElem? (i := 29) rfl)) (hw _ (List.mem_of_getElem? (i := 2) rfl)) (by decide) (by decide)) q12a q12c (g := (mkF m 52 #[.val (.int p0), .val (.int p1), .val (.int p2), .val (.int p3), .val (.int p4), .val (.int (0 : Int32)), .val (.ref b1_1), .val (.ref b2), .unset, .unset, .unset, .unset, .unset] [(.ref b2), (.ref b1_1)])) rfl (by rw [hml]; rfl) (Steps.refl _) (argsL := [(.ref b2)]) (rest := []) (lenOf pd_1 rfl) rfl (by show 2 * 0 + _ ≤ _; exact Nat.le_of_eq rfl) (hb hby at_52) (fun _ _ => ⟨rfl, e6, (by decide : 2 + 2 ≤ _), (by decide : 10 + 20 ≤ _)⟩)
    dsimp only [Pt.U, Pt.locs, Pt.cells, Pt.slots] at X12 l12 y12 z12 st12 hQ12
    subst l12 y12 z12
    obtain ⟨h12, e12⟩ : ∃ z, T12.heap = z := ⟨_, rfl⟩
    rw [e12] at hQ12
    obtain ⟨rfl, N12q, K12q, q0_12⟩ := hQ12
    have N12 := Fr.app N6 N12q
    have K12 : Keep h0 h12 [] := K6.trans K12q (allS (Or.inr sz_b2) all0)
    refine step (T12.setTop (mkF m 55 #[.val (.int p0), .val (.int p1), .val (.int p2), .val (.int p3), .val (.int p4), .val (.int (0 : Int32)), .val (.ref b1_1), .val (.ref b2), .unset, .unset, .unset, .unset, .unset] [])) (fun t k => st12.trans k) ?_
    refine step (T12.setTop (mkF m 57 #[.val (.int p0), .val (.int p1), .val (.int p2), .val (.int p3), .val (.int p4), .val (.int (0 : Int32)), .val (.ref b1_1), .val (.ref b2), .unset, .unset, .unset, .unset, .unset] [(.ref b2)])) (fun t k => XS.aload X12.here hx rfl (hb hby at_55) rfl rfl k) ?_
    refine step (T12.setTop (mkF m 58 #[.val (.int p0), .val (.int p1), .val (.int p2), .val (.int p3), .val (.int p4), .val (.int (0 : Int32)), .val (.ref b1_1), .val (.ref b2), .unset, .unset, .unset, .unset, .unset] [(.int (0 : Int32)), (.ref b2)])) (fun t k => XS.iconst X12.here hx rfl (hb hby at_57) k) ?_
    obtain ⟨cl13, Ar13, q13, S13, N13n, H13, G13⟩ := id q0_12
    have hin13 : ¬ ((0 : Int32) < 0 ∨ cl13.slots.size ≤ ((0 : Int32)).toNatClampNeg) := inb_of S13 ⟨by decide, by decide⟩
    have hat13 : cl13.slots[((0 : Int32)).toNatClampNeg]? = some (.int p1) := H13.at hin13 rfl
    refine step (T12.setTop (mkF m 59 #[.val (.int p0), .val (.int p1), .val (.int p2), .val (.int p3), .val (.int p4), .val (.int (0 : Int32)), .val (.ref b1_1), .val (.ref b2), .unset, .unset, .unset, .unset, .unset] [(.int p1)])) (fun t k => X12.iaload hx (j := (0 : Int32)) (v := (.int p1)) (by rw [e12]; exact Ar13.1) (State.isArrayOf_alike hZ.alike Ar13.2.1) Ar13.2.2 hin13 hat13 (g := (mkF m 58 #[.val (.int p0), .val (.int p1), .val (.int p2), .val (.int p3), .val (.int p4), .val (.int (0 : Int32)), .val (.ref b1_1), .val (.ref b2), .unset, .unset, .unset, .unset, .unset] [(.int (0 : Int32)), (.ref b2)])) rfl rfl (hb hby at_58) t k) ?_
    refine step (T12.setTop (mkF m 60 #[.val (.int p0), .val (.int p1), .val (.int p2), .val (.int p3), .val (.int p4), .val (.int (0 : Int32)), .val (.ref b1_1), .val (.ref b2), .unset, .unset, .unset, .unset, .unset] [(.int (0 : Int32)), (.int p1)])) (fun t k => XS.iconst X12.here hx rfl (hb hby at_59) k) ?_
    refine step (T12.setTop (mkF m 62 #[.val (.int p0), .val (.int p1), .val (.int p2), .val (.int p3), .val (.int p4), .val (.int (0 : Int32)), .val (.ref b1_1), .val (.ref b2), .unset, .unset, .unset, .unset, .unset] [(.int (0 : Int32)), (.int (0 : Int32)), (.int p1)])) (fun t k => XS.iload X12.here hx rfl (hb hby at_60) rfl k) ?_
    refine step (T12.setTop (mkF m 63 #[.val (.int p0), .val (.int p1), .val (.int p2), .val (.int p3), .val (.int p4), .val (.int (0 : Int32)), .val (.ref b1_1), .val (.ref b2), .unset, .unset, .unset, .unset, .unset] [(.int p1), (.int (0 : Int32)), (.int (0 : Int32)), (.int p1)])) (fun t k => XS.iloadN X12.here hx rfl (hb hby at_62) rfl k) ?_
    refine step (T12.setTop (mkF m 65 #[.val (.int p0), .val (.int p1), .val (.int p2), .val (.int p3), .val (.int p4), .val (.int (0 : Int32)), .val (.ref b1_1), .val (.ref b2), .unset, .unset, .unset, .unset, .unset] [(.int p4), (.int p1), (.int (0 : Int32)), (.int (0 : Int32)), (.int p1)])) (fun t k => XS.iload X12.here hx rfl (hb hby at_63) rfl k) ?_
    obtain ⟨_, _, ⟨T14, L14, k14, n14⟩, -, X14, ⟨Lc14, hQ14, l14, y14, z14⟩, st14⟩ := Jvm.LawKit.callS X12 hx (y := (⟨"com/example/vertex_to_service/vertextoservice/core/ChoicesOfPinLaw", "expected", "(IIII)I"⟩ : MethodName)) hown (mvT hZ (hw _ (List.mem_of_getElem? (i := 96) rfl))) (mvT hZ (hw _ (List.mem_of_getElem? (i := 97) rfl))) (mvT hZ (hw _ (List.mem_of_getElem? (i := 98) rfl))) (mvT hZ (hw _ (List.mem_of_getElem? (i := 99) rfl))) (by decide) (backOf (W := 1) (rm17_17 l Z a0 hw [] p1 p4 h12 n0 (Nat.le_trans Z0 K12.1) (own_add0 p4)) hZ (hw _ (List.mem_of_getElem? (i := 99) rfl)) (hw _ (List.mem_of_getElem? (i := 98) rfl)) (by decide) (by decide)) (g := (mkF m 65 #[.val (.int p0), .val (.int p1), .val (.int p2), .val (.int p3), .val (.int p4), .val (.int (0 : Int32)), .val (.ref b1_1), .val (.ref b2), .unset, .unset, .unset, .unset, .unset] [(.int p4), (.int p1), (.int (0 : Int32)), (.int (0 : Int32)), (.int p1)])) rfl (by rw [hml]; rfl) (argsL := [(.int (0 : Int32)), (.int (0 : Int32)), (.int p1), (.int p4)]) (rest := [(.int p1)]) (lenOf pd_2 rfl) rfl (by show 2 * 0 + _ ≤ _; exact Nat.le_of_eq rfl) (hb hby at_65) (fun _ _ => ⟨rfl, e12, (by decide : 4 + 0 ≤ _), (by decide : 30 + 0 ≤ _)⟩)
    dsimp only [Pt.U, Pt.locs, Pt.cells, Pt.slots] at X14 l14 y14 z14 st14 hQ14
    subst l14 y14 z14
    obtain ⟨rfl, N14q, e14q⟩ := hQ14
    have N14 := Fr.app N12 N14q
    refine step (T14.setTop (mkF m 68 #[.val (.int p0), .val (.int p1), .val (.int p2), .val (.int p3), .val (.int p4), .val (.int (0 : Int32)), .val (.ref b1_1), .val (.ref b2), .unset, .unset, .unset, .unset, .unset] [(.int p1), (.int p1)])) (fun t k => st14 t k) ?_
    refine step (T14.setTop (mkF m 71 #[.val (.int p0), .val (.int p1), .val (.int p2), .val (.int p3), .val (.int p4), .val (.int (0 : Int32)), .val (.ref b1_1), .val (.ref b2), .unset, .unset, .unset, .unset, .unset] [])) (fun t k => XS.icmpNo X14.here hx rfl (hb hby at_68) rfl (teq (rfl : p1 = p1)).2 k) ?_
    refine step (T14.setTop (mkF m 73 #[.val (.int p0), .val (.int p1), .val (.int p2), .val (.int p3), .val (.int p4), .val (.int (0 : Int32)), .val (.ref b1_1), .val (.ref b2), .unset, .unset, .unset, .unset, .unset] [(.ref b2)])) (fun t k => XS.aload X14.here hx rfl (hb hby at_71) rfl rfl k) ?_
    refine step (T14.setTop (mkF m 74 #[.val (.int p0), .val (.int p1), .val (.int p2), .val (.int p3), .val (.int p4), .val (.int (0 : Int32)), .val (.ref b1_1), .val (.ref b2), .unset, .unset, .unset, .unset, .unset] [(.int (1 : Int32)), (.ref b2)])) (fun t k => XS.iconst X14.here hx rfl (hb hby at_73) k) ?_
    obtain ⟨cl15, Ar15, q15, S15, N15n, H15, G15⟩ := id q0_12
    have hin15 : ¬ ((1 : Int32) < 0 ∨ cl15.slots.size ≤ ((1 : Int32)).toNatClampNeg) := inb_of S15 ⟨by decide, by decide⟩
    have hat15 : cl15.slots[((1 : Int32)).toNatClampNeg]? = some (.int (p4 + (1 : Int32))) := H15.at hin15 rfl
    refine step (T14.setTop (mkF m 75 #[.val (.int p0), .val (.int p1), .val (.int p2), .val (.int p3), .val (.int p4), .val (.int (0 : Int32)), .val (.ref b1_1), .val (.ref b2), .unset, .unset, .unset, .unset, .unset] [(.int (p4 + (1 : Int32)))])) (fun t k => X14.iaload hx (j := (1 : Int32)) (v := (.int (p4 + (1 : Int32)))) (by rw [e14q]; exact Ar15.1) (State.isArrayOf_alike hZ.alike Ar15.2.1) Ar15.2.2 hin15 hat15 (g := (mkF m 74 #[.val (.int p0), .val (.int p1), .val (.int p2), .val (.int p3), .val (.int p4), .val (.int (0 : Int32)), .val (.ref b1_1), .val (.ref b2), .unset, .unset, .unset, .unset, .unset] [(.int (1 : Int32)), (.ref b2)])) rfl rfl (hb hby at_74) t k) ?_
    refine step (T14.setTop (mkF m 76 #[.val (.int p0), .val (.int p1), .val (.int p2), .val (.int p3), .val (.int p4), .val (.int (0 : Int32)), .val (.ref b1_1), .val (.ref b2), .unset, .unset, .unset, .unset, .unset] [(.int (1 : Int32)), (.int (p4 + (1 : Int32)))])) (fun t k => XS.iconst X14.here hx rfl (hb hby at_75) k) ?_
    refine step (T14.setTop (mkF m 78 #[.val (.int p0), .val (.int p1), .val (.int p2), .val (.int p3), .val (.int p4), .val (.int (0 : Int32)), .val (.ref b1_1), .val (.ref b2), .unset, .unset, .unset, .unset, .unset] [(.int (0 : Int32)), (.int (1 : Int32)), (.int (p4 + (1 : Int32)))])) (fun t k => XS.iload X14.here hx rfl (hb hby at_76) rfl k) ?_
    refine step (T14.setTop (mkF m 79 #[.val (.int p0), .val (.int p1), .val (.int p2), .val (.int p3), .val (.int p4), .val (.int (0 : Int32)), .val (.ref b1_1), .val (.ref b2), .unset, .unset, .unset, .unset, .unset] [(.int p1), (.int (0 : Int32)), (.int (1 : Int32)), (.int (p4 + (1 : Int32)))])) (fun t k => XS.iloadN X14.here hx rfl (hb hby at_78) rfl k) ?_
    refine step (T14.setTop (mkF m 81 #[.val (.int p0), .val (.int p1), .val (.int p2), .val (.int p3), .val (.int p4), .val (.int (0 : Int32)), .val (.ref b1_1), .val (.ref b2), .unset, .unset, .unset, .unset, .unset] [(.int p4), (.int p1), (.int (0 : Int32)), (.int (1 : Int32)), (.int (p4 + (1 : Int32)))])) (fun t k => XS.iload X14.here hx rfl (hb hby at_79) rfl k) ?_
    obtain ⟨_, _, ⟨T16, L16, k16, n16⟩, -, X16, ⟨Lc16, hQ16, l16, y16, z16⟩, st16⟩ := Jvm.LawKit.callS X14 hx (y := (⟨"com/example/vertex_to_service/vertextoservice/core/ChoicesOfPinLaw", "expected", "(IIII)I"⟩ : MethodName)) hown (mvT hZ (hw _ (List.mem_of_getElem? (i := 96) rfl))) (mvT hZ (hw _ (List.mem_of_getElem? (i := 97) rfl))) (mvT hZ (hw _ (List.mem_of_getElem? (i := 98) rfl))) (mvT hZ (hw _ (List.mem_of_getElem? (i := 99) rfl))) (by decide) (backOf (W := 1) (rm17_18 l Z a0 hw [] p1 p4 h12 n0 (Nat.le_trans Z0 K12.1) (own_add0 p4)) hZ (hw _ (List.mem_of_getElem? (i := 99) rfl)) (hw _ (List.mem_of_getElem? (i := 98) rfl)) (by decide) (by decide)) (g := (mkF m 81 #[.val (.int p0), .val (.int p1), .val (.int p2), .val (.int p3), .val (.int p4), .val (.int (0 : Int32)), .val (.ref b1_1), .val (.ref b2), .unset, .unset, .unset, .unset, .unset] [(.int p4), (.int p1), (.int (0 : Int32)), (.int (1 : Int32)), (.int (p4 + (1 : Int32)))])) rfl (by rw [hml]; rfl) (argsL := [(.int (1 : Int32)), (.int (0 : Int32)), (.int p1), (.int p4)]) (rest := [(.int (p4 + (1 : Int32)))]) (lenOf pd_2 rfl) rfl (by show 2 * 0 + _ ≤ _; exact Nat.le_of_eq rfl) (hb hby at_81) (fun _ _ => ⟨rfl, e14q, (by decide : 4 + 0 ≤ _), (by decide : 30 + 0 ≤ _)⟩)
    dsimp only [Pt.U, Pt.locs, Pt.cells, Pt.slots] at X16 l16 y16 z16 st16 hQ16
    subst l16 y16 z16
    obtain ⟨rfl, N16q, e16q⟩ := hQ16
    have N16 := Fr.app N14 N16q
    refine step (T16.setTop (mkF m 84 #[.val (.int p0), .val (.int p1), .val (.int p2), .val (.int p3), .val (.int p4), .val (.int (0 : Int32)), .val (.ref b1_1), .val (.ref b2), .unset, .unset, .unset, .unset, .unset] [(.int (p4 + (1 : Int32))), (.int (p4 + (1 : Int32)))])) (fun t k => st16 t k) ?_
    refine step (T16.setTop (mkF m 87 #[.val (.int p0), .val (.int p1), .val (.int p2), .val (.int p3), .val (.int p4), .val (.int (0 : Int32)), .val (.ref b1_1), .val (.ref b2), .unset, .unset, .unset, .unset, .unset] [])) (fun t k => XS.icmpNo X16.here hx rfl (hb hby at_84) rfl (teq (rfl : (p4 + (1 : Int32)) = (p4 + (1 : Int32)))).2 k) ?_
    refine step (T16.setTop (mkF m 89 #[.val (.int p0), .val (.int p1), .val (.int p2), .val (.int p3), .val (.int p4), .val (.int (0 : Int32)), .val (.ref b1_1), .val (.ref b2), .unset, .unset, .unset, .unset, .unset] [(.ref b2)])) (fun t k => XS.aload X16.here hx rfl (hb hby at_87) rfl rfl k) ?_
    refine step (T16.setTop (mkF m 90 #[.val (.int p0), .val (.int p1), .val (.int p2), .val (.int p3), .val (.int p4), .val (.int (0 : Int32)), .val (.ref b1_1), .val (.ref b2), .unset, .unset, .unset, .unset, .unset] [(.int (2 : Int32)), (.ref b2)])) (fun t k => XS.iconst X16.here hx rfl (hb hby at_89) k) ?_
    obtain ⟨cl17, Ar17, q17, S17, N17n, H17, G17⟩ := id q0_12
    have hin17 : ¬ ((2 : Int32) < 0 ∨ cl17.slots.size ≤ ((2 : Int32)).toNatClampNeg) := inb_of S17 ⟨by decide, by decide⟩
    have hat17 : cl17.slots[((2 : Int32)).toNatClampNeg]? = some (.int (p4 + (2 : Int32))) := H17.at hin17 rfl
    refine step (T16.setTop (mkF m 91 #[.val (.int p0), .val (.int p1), .val (.int p2), .val (.int p3), .val (.int p4), .val (.int (0 : Int32)), .val (.ref b1_1), .val (.ref b2), .unset, .unset, .unset, .unset, .unset] [(.int (p4 + (2 : Int32)))])) (fun t k => X16.iaload hx (j := (2 : Int32)) (v := (.int (p4 + (2 : Int32)))) (by rw [e16q]; exact Ar17.1) (State.isArrayOf_alike hZ.alike Ar17.2.1) Ar17.2.2 hin17 hat17 (g := (mkF m 90 #[.val (.int p0), .val (.int p1), .val (.int p2), .val (.int p3), .val (.int p4), .val (.int (0 : Int32)), .val (.ref b1_1), .val (.ref b2), .unset, .unset, .unset, .unset, .unset] [(.int (2 : Int32)), (.ref b2)])) rfl rfl (hb hby at_90) t k) ?_
    refine step (T16.setTop (mkF m 92 #[.val (.int p0), .val (.int p1), .val (.int p2), .val (.int p3), .val (.int p4), .val (.int (0 : Int32)), .val (.ref b1_1), .val (.ref b2), .unset, .unset, .unset, .unset, .unset] [(.int (2 : Int32)), (.int (p4 + (2 : Int32)))])) (fun t k => XS.iconst X16.here hx rfl (hb hby at_91) k) ?_
    refine step (T16.setTop (mkF m 94 #[.val (.int p0), .val (.int p1), .val (.int p2), .val (.int p3), .val (.int p4), .val (.int (0 : Int32)), .val (.ref b1_1), .val (.ref b2), .unset, .unset, .unset, .unset, .unset] [(.int (0 : Int32)), (.int (2 : Int32)), (.int (p4 + (2 : Int32)))])) (fun t k => XS.iload X16.here hx rfl (hb hby at_92) rfl k) ?_
    refine step (T16.setTop (mkF m 95 #[.val (.int p0), .val (.int p1), .val (.int p2), .val (.int p3), .val (.int p4), .val (.int (0 : Int32)), .val (.ref b1_1), .val (.ref b2), .unset, .unset, .unset, .unset, .unset] [(.int p1), (.int (0 : Int32)), (.int (2 : Int32)), (.int (p4 + (2 : Int32)))])) (fun t k => XS.iloadN X16.here hx rfl (hb hby at_94) rfl k) ?_
    refine step (T16.setTop (mkF m 97 #[.val (.int p0), .val (.int p1), .val (.int p2), .val (.int p3), .val (.int p4), .val (.int (0 : Int32)), .val (.ref b1_1), .val (.ref b2), .unset, .unset, .unset, .unset, .unset] [(.int p4), (.int p1), (.int (0 : Int32)), (.int (2 : Int32)), (.int (p4 + (2 : Int32)))])) (fun t k => XS.iload X16.here hx rfl (hb hby at_95) rfl k) ?_
    obtain ⟨_, _, ⟨T18, L18, k18, n18⟩, -, X18, ⟨Lc18, hQ18, l18, y18, z18⟩, st18⟩ := Jvm.LawKit.callS X16 hx (y := (⟨"com/example/vertex_to_service/vertextoservice/core/ChoicesOfPinLaw", "expected", "(IIII)I"⟩ : MethodName)) hown (mvT hZ (hw _ (List.mem_of_getElem? (i := 96) rfl))) (mvT hZ (hw _ (List.mem_of_getElem? (i := 97) rfl))) (mvT hZ (hw _ (List.mem_of_getElem? (i := 98) rfl))) (mvT hZ (hw _ (List.mem_of_getElem? (i := 99) rfl))) (by decide) (backOf (W := 1) (rm17_19 l Z a0 hw [] p1 p4 h12 n0 (Nat.le_trans Z0 K12.1) (own_add0 p4)) hZ (hw _ (List.mem_of_getElem? (i := 99) rfl)) (hw _ (List.mem_of_getElem? (i := 98) rfl)) (by decide) (by decide)) (g := (mkF m 97 #[.val (.int p0), .val (.int p1), .val (.int p2), .val (.int p3), .val (.int p4), .val (.int (0 : Int32)), .val (.ref b1_1), .val (.ref b2), .unset, .unset, .unset, .unset, .unset] [(.int p4), (.int p1), (.int (0 : Int32)), (.int (2 : Int32)), (.int (p4 + (2 : Int32)))])) rfl (by rw [hml]; rfl) (argsL := [(.int (2 : Int32)), (.int (0 : Int32)), (.int p1), (.int p4)]) (rest := [(.int (p4 + (2 : Int32)))]) (lenOf pd_2 rfl) rfl (by show 2 * 0 + _ ≤ _; exact Nat.le_of_eq rfl) (hb hby at_97) (fun _ _ => ⟨rfl, e16q, (by decide : 4 + 0 ≤ _), (by decide : 30 + 0 ≤ _)⟩)
    dsimp only [Pt.U, Pt.locs, Pt.cells, Pt.slots] at X18 l18 y18 z18 st18 hQ18
    subst l18 y18 z18
    obtain ⟨rfl, N18q, e18q⟩ := hQ18
    have N18 := Fr.app N16 N18q
    refine step (T18.setTop (mkF m 100 #[.val (.int p0), .val (.int p1), .val (.int p2), .val (.int p3), .val (.int p4), .val (.int (0 : Int32)), .val (.ref b1_1), .val (.ref b2), .unset, .unset, .unset, .unset, .unset] [(.int (p4 + (2 : Int32))), (.int (p4 + (2 : Int32)))])) (fun t k => st18 t k) ?_
    refine step (T18.setTop (mkF m 103 #[.val (.int p0), .val (.int p1), .val (.int p2), .val (.int p3), .val (.int p4), .val (.int (0 : Int32)), .val (.ref b1_1), .val (.ref b2), .unset, .unset, .unset, .unset, .unset] [])) (fun t k => XS.icmpNo X18.here hx rfl (hb hby at_100) rfl (teq (rfl : (p4 + (2 : Int32)) = (p4 + (2 : Int32)))).2 k) ?_
    refine step (T18.setTop (mkF m 105 #[.val (.int p0), .val (.int p1), .val (.int p2), .val (.int p3), .val (.int p4), .val (.int (0 : Int32)), .val (.ref b1_1), .val (.ref b2), .unset, .unset, .unset, .unset, .unset] [(.ref b2)])) (fun t k => XS.aload X18.here hx rfl (hb hby at_103) rfl rfl k) ?_
    refine step (T18.setTop (mkF m 106 #[.val (.int p0), .val (.int p1), .val (.int p2), .val (.int p3), .val (.int p4), .val (.int (0 : Int32)), .val (.ref b1_1), .val (.ref b2), .unset, .unset, .unset, .unset, .unset] [(.int (3 : Int32)), (.ref b2)])) (fun t k => XS.iconst X18.here hx rfl (hb hby at_105) k) ?_
    obtain ⟨cl19, Ar19, q19, S19, N19n, H19, G19⟩ := id q0_12
    have hin19 : ¬ ((3 : Int32) < 0 ∨ cl19.slots.size ≤ ((3 : Int32)).toNatClampNeg) := inb_of S19 ⟨by decide, by decide⟩
    have hat19 : cl19.slots[((3 : Int32)).toNatClampNeg]? = some (.int (p4 + (3 : Int32))) := H19.at hin19 rfl
    refine step (T18.setTop (mkF m 107 #[.val (.int p0), .val (.int p1), .val (.int p2), .val (.int p3), .val (.int p4), .val (.int (0 : Int32)), .val (.ref b1_1), .val (.ref b2), .unset, .unset, .unset, .unset, .unset] [(.int (p4 + (3 : Int32)))])) (fun t k => X18.iaload hx (j := (3 : Int32)) (v := (.int (p4 + (3 : Int32)))) (by rw [e18q]; exact Ar19.1) (State.isArrayOf_alike hZ.alike Ar19.2.1) Ar19.2.2 hin19 hat19 (g := (mkF m 106 #[.val (.int p0), .val (.int p1), .val (.int p2), .val (.int p3), .val (.int p4), .val (.int (0 : Int32)), .val (.ref b1_1), .val (.ref b2), .unset, .unset, .unset, .unset, .unset] [(.int (3 : Int32)), (.ref b2)])) rfl rfl (hb hby at_106) t k) ?_
    refine step (T18.setTop (mkF m 108 #[.val (.int p0), .val (.int p1), .val (.int p2), .val (.int p3), .val (.int p4), .val (.int (0 : Int32)), .val (.ref b1_1), .val (.ref b2), .unset, .unset, .unset, .unset, .unset] [(.int (3 : Int32)), (.int (p4 + (3 : Int32)))])) (fun t k => XS.iconst X18.here hx rfl (hb hby at_107) k) ?_
    refine step (T18.setTop (mkF m 110 #[.val (.int p0), .val (.int p1), .val (.int p2), .val (.int p3), .val (.int p4), .val (.int (0 : Int32)), .val (.ref b1_1), .val (.ref b2), .unset, .unset, .unset, .unset, .unset] [(.int (0 : Int32)), (.int (3 : Int32)), (.int (p4 + (3 : Int32)))])) (fun t k => XS.iload X18.here hx rfl (hb hby at_108) rfl k) ?_
    refine step (T18.setTop (mkF m 111 #[.val (.int p0), .val (.int p1), .val (.int p2), .val (.int p3), .val (.int p4), .val (.int (0 : Int32)), .val (.ref b1_1), .val (.ref b2), .unset, .unset, .unset, .unset, .unset] [(.int p1), (.int (0 : Int32)), (.int (3 : Int32)), (.int (p4 + (3 : Int32)))])) (fun t k => XS.iloadN X18.here hx rfl (hb hby at_110) rfl k) ?_
    refine step (T18.setTop (mkF m 113 #[.val (.int p0), .val (.int p1), .val (.int p2), .val (.int p3), .val (.int p4), .val (.int (0 : Int32)), .val (.ref b1_1), .val (.ref b2), .unset, .unset, .unset, .unset, .unset] [(.int p4), (.int p1), (.int (0 : Int32)), (.int (3 : Int32)), (.int (p4 + (3 : Int32)))])) (fun t k => XS.iload X18.here hx rfl (hb hby at_111) rfl k) ?_
    obtain ⟨_, _, ⟨T20, L20, k20, n20⟩, -, X20, ⟨Lc20, hQ20, l20, y20, z20⟩, st20⟩ := Jvm.LawKit.callS X18 hx (y := (⟨"com/example/vertex_to_service/vertextoservice/core/ChoicesOfPinLaw", "expected", "(IIII)I"⟩ : MethodName)) hown (mvT hZ (hw _ (List.mem_of_getElem? (i := 96) rfl))) (mvT hZ (hw _ (List.mem_of_getElem? (i := 97) rfl))) (mvT hZ (hw _ (List.mem_of_getElem? (i := 98) rfl))) (mvT hZ (hw _ (List.mem_of_getElem? (i := 99) rfl))) (by decide) (backOf (W := 1) (rm17_20 l Z a0 hw [] p1 p4 h12 n0 (Nat.le_trans Z0 K12.1) (own_add0 p4)) hZ (hw _ (List.mem_of_getElem? (i := 99) rfl)) (hw _ (List.mem_of_getElem? (i := 98) rfl)) (by decide) (by decide)) (g := (mkF m 113 #[.val (.int p0), .val (.int p1), .val (.int p2), .val (.int p3), .val (.int p4), .val (.int (0 : Int32)), .val (.ref b1_1), .val (.ref b2), .unset, .unset, .unset, .unset, .unset] [(.int p4), (.int p1), (.int (0 : Int32)), (.int (3 : Int32)), (.int (p4 + (3 : Int32)))])) rfl (by rw [hml]; rfl) (argsL := [(.int (3 : Int32)), (.int (0 : Int32)), (.int p1), (.int p4)]) (rest := [(.int (p4 + (3 : Int32)))]) (lenOf pd_2 rfl) rfl (by show 2 * 0 + _ ≤ _; exact Nat.le_of_eq rfl) (hb hby at_113) (fun _ _ => ⟨rfl, e18q, (by decide : 4 + 0 ≤ _), (by decide : 30 + 0 ≤ _)⟩)
    dsimp only [Pt.U, Pt.locs, Pt.cells, Pt.slots] at X20 l20 y20 z20 st20 hQ20
    subst l20 y20 z20
    obtain ⟨rfl, N20q, e20q⟩ := hQ20
    have N20 := Fr.app N18 N20q
    refine step (T20.setTop (mkF m 116 #[.val (.int p0), .val (.int p1), .val (.int p2), .val (.int p3), .val (.int p4), .val (.int (0 : Int32)), .val (.ref b1_1), .val (.ref b2), .unset, .unset, .unset, .unset, .unset] [(.int (p4 + (3 : Int32))), (.int (p4 + (3 : Int32)))])) (fun t k => st20 t k) ?_
    refine step (T20.setTop (mkF m 119 #[.val (.int p0), .val (.int p1), .val (.int p2), .val (.int p3), .val (.int p4), .val (.int (0 : Int32)), .val (.ref b1_1), .val (.ref b2), .unset, .unset, .unset, .unset, .unset] [])) (fun t k => XS.icmpNo X20.here hx rfl (hb hby at_116) rfl (teq (rfl : (p4 + (3 : Int32)) = (p4 + (3 : Int32)))).2 k) ?_
    refine step (T20.setTop (mkF m 120 #[.val (.int p0), .val (.int p1), .val (.int p2), .val (.int p3), .val (.int p4), .val (.int (0 : Int32)), .val (.ref b1_1), .val (.ref b2), .unset, .unset, .unset, .unset, .unset] [(.int (1 : Int32))])) (fun t k => XS.iconst X20.here hx rfl (hb hby at_119) k) ?_
    refine step (T20.setTop (mkF m 124 #[.val (.int p0), .val (.int p1), .val (.int p2), .val (.int p3), .val (.int p4), .val (.int (0 : Int32)), .val (.ref b1_1), .val (.ref b2), .unset, .unset, .unset, .unset, .unset] [(.int (1 : Int32))])) (fun t k => XS.goto X20.here hx rfl (pc0 := 120) (pc' := 124) rfl (hb hby at_120) (by decide) (by decide) k) ?_
    refine step (T20.setTop (mkF m 126 #[.val (.int p0), .val (.int p1), .val (.int p2), .val (.int p3), .val (.int p4), .val (.int (0 : Int32)), .val (.ref b1_1), .val (.ref b2), .val (.int (1 : Int32)), .unset, .unset, .unset, .unset] [])) (fun t k => XS.istore X20.here hx rfl (hb hby at_124) rfl (l' := #[.val (.int p0), .val (.int p1), .val (.int p2), .val (.int p3), .val (.int p4), .val (.int (0 : Int32)), .val (.ref b1_1), .val (.ref b2), .val (.int (1 : Int32)), .unset, .unset, .unset, .unset]) rfl k) ?_
    refine step (T20.setTop (mkF m 127 #[.val (.int p0), .val (.int p1), .val (.int p2), .val (.int p3), .val (.int p4), .val (.int (0 : Int32)), .val (.ref b1_1), .val (.ref b2), .val (.int (1 : Int32)), .unset, .unset, .unset, .unset] [(.int p0)])) (fun t k => XS.iloadN X20.here hx rfl (hb hby at_126) rfl k) ?_
    refine step (T20.setTop (mkF m 129 #[.val (.int p0), .val (.int p1), .val (.int p2), .val (.int p3), .val (.int p4), .val (.int (0 : Int32)), .val (.ref b1_1), .val (.ref b2), .val (.int (1 : Int32)), .unset, .unset, .unset, .unset] [(.int (2147483647 : Int32)), (.int p0)])) (fun t k => X20.ldcInt hx hown (mvT hZ (hw _ (List.mem_of_getElem? (i := 100) rfl))) (g := (mkF m 127 #[.val (.int p0), .val (.int p1), .val (.int p2), .val (.int p3), .val (.int p4), .val (.int (0 : Int32)), .val (.ref b1_1), .val (.ref b2), .val (.int (1 : Int32)), .unset, .unset, .unset, .unset] [(.int p0)])) rfl (hb hby at_127) t k) ?_
    refine step (T20.setTop (mkF m 130 #[.val (.int p0), .val (.int p1), .val (.int p2), .val (.int p3), .val (.int p4), .val (.int (0 : Int32)), .val (.ref b1_1), .val (.ref b2), .val (.int (1 : Int32)), .unset, .unset, .unset, .unset] [(.int (p0 &&& (2147483647 : Int32)))])) (fun t k => XS.iand X20.here hx rfl (hb hby at_129) rfl k) ?_
    generalize hpv : (p0 &&& (2147483647 : Int32)) = pv
    have nn_pv := own_nn _ _ hpv
    refine step (T20.setTop (mkF m 132 #[.val (.int p0), .val (.int p1), .val (.int p2), .val (.int p3), .val (.int p4), .val (.int (0 : Int32)), .val (.ref b1_1), .val (.ref b2), .val (.int (1 : Int32)), .val (.int pv), .unset, .unset, .unset] [])) (fun t k => XS.istore X20.here hx rfl (hb hby at_130) rfl (l' := #[.val (.int p0), .val (.int p1), .val (.int p2), .val (.int p3), .val (.int p4), .val (.int (0 : Int32)), .val (.ref b1_1), .val (.ref b2), .val (.int (1 : Int32)), .val (.int pv), .unset, .unset, .unset]) rfl k) ?_
    refine step (T20.setTop (mkF m 133 #[.val (.int p0), .val (.int p1), .val (.int p2), .val (.int p3), .val (.int p4), .val (.int (0 : Int32)), .val (.ref b1_1), .val (.ref b2), .val (.int (1 : Int32)), .val (.int pv), .unset, .unset, .unset] [(.int p2)])) (fun t k => XS.iloadN X20.here hx rfl (hb hby at_132) rfl k) ?_
    refine step (T20.setTop (mkF m 135 #[.val (.int p0), .val (.int p1), .val (.int p2), .val (.int p3), .val (.int p4), .val (.int (0 : Int32)), .val (.ref b1_1), .val (.ref b2), .val (.int (1 : Int32)), .val (.int pv), .unset, .unset, .unset] [(.int (2147483647 : Int32)), (.int p2)])) (fun t k => X20.ldcInt hx hown (mvT hZ (hw _ (List.mem_of_getElem? (i := 100) rfl))) (g := (mkF m 133 #[.val (.int p0), .val (.int p1), .val (.int p2), .val (.int p3), .val (.int p4), .val (.int (0 : Int32)), .val (.ref b1_1), .val (.ref b2), .val (.int (1 : Int32)), .val (.int pv), .unset, .unset, .unset] [(.int p2)])) rfl (hb hby at_133) t k) ?_
    refine step (T20.setTop (mkF m 136 #[.val (.int p0), .val (.int p1), .val (.int p2), .val (.int p3), .val (.int p4), .val (.int (0 : Int32)), .val (.ref b1_1), .val (.ref b2), .val (.int (1 : Int32)), .val (.int pv), .unset, .unset, .unset] [(.int (p2 &&& (2147483647 : Int32)))])) (fun t k => XS.iand X20.here hx rfl (hb hby at_135) rfl k) ?_
    generalize hqv : (p2 &&& (2147483647 : Int32)) = qv
    have nn_qv := own_nn _ _ hqv
    refine step (T20.setTop (mkF m 138 #[.val (.int p0), .val (.int p1), .val (.int p2), .val (.int p3), .val (.int p4), .val (.int (0 : Int32)), .val (.ref b1_1), .val (.ref b2), .val (.int (1 : Int32)), .val (.int pv), .val (.int qv), .unset, .unset] [])) (fun t k => XS.istore X20.here hx rfl (hb hby at_136) rfl (l' := #[.val (.int p0), .val (.int p1), .val (.int p2), .val (.int p3), .val (.int p4), .val (.int (0 : Int32)), .val (.ref b1_1), .val (.ref b2), .val (.int (1 : Int32)), .val (.int pv), .val (.int qv), .unset, .unset]) rfl k) ?_
    refine step (T20.setTop (mkF m 140 #[.val (.int p0), .val (.int p1), .val (.int p2), .val (.int p3), .val (.int p4), .val (.int (0 : Int32)), .val (.ref b1_1), .val (.ref b2), .val (.int (1 : Int32)), .val (.int pv), .val (.int qv), .unset, .unset] [(.int pv)])) (fun t k => XS.iload X20.here hx rfl (hb hby at_138) rfl k) ?_
    refine step (T20.setTop (mkF m 141 #[.val (.int p0), .val (.int p1), .val (.int p2), .val (.int p3), .val (.int p4), .val (.int (0 : Int32)), .val (.ref b1_1), .val (.ref b2), .val (.int (1 : Int32)), .val (.int pv), .val (.int qv), .unset, .unset] [(.int p1), (.int pv)])) (fun t k => XS.iloadN X20.here hx rfl (hb hby at_140) rfl k) ?_
    obtain ⟨_, _, ⟨T21, L21, k21, n21⟩, -, X21, ⟨Lc21, hQ21, l21, y21, z21⟩, st21⟩ := Jvm.LawKit.callS X20 hx (y := (⟨"com/example/vertex_to_service/vertextoservice/core/Choices", "of", "(II)Lcom/example/vertex_to_service/vertextoservice/core/Choices;"⟩ : MethodName)) hown (mvT hZ (hw _ (List.mem_of_getElem? (i := 0) rfl))) (mvT hZ (hw _ (List.mem_of_getElem? (i := 1) rfl))) (mvT hZ (hw _ (List.mem_of_getElem? (i := 2) rfl))) (mvT hZ (hw _ (List.mem_of_getElem? (i := 3) rfl))) (by decide) (backOf (W := 0) (rm1_21 l Z a0 hw [] pv p1 h12 n0 (Nat.le_trans Z0 K12.1) nn_pv) hZ (hw _ (List.mem_of_getElem? (i := 3) rfl)) (hw _ (List.mem_of_getElem? (i := 2) rfl)) (by decide) (by decide)) (g := (mkF m 141 #[.val (.int p0), .val (.int p1), .val (.int p2), .val (.int p3), .val (.int p4), .val (.int (0 : Int32)), .val (.ref b1_1), .val (.ref b2), .val (.int (1 : Int32)), .val (.int pv), .val (.int qv), .unset, .unset] [(.int p1), (.int pv)])) rfl (by rw [hml]; rfl) (argsL := [(.int pv), (.int p1)]) (rest := []) (lenOf pd_0 rfl) rfl (by show 2 * 0 + _ ≤ _; exact Nat.le_of_eq rfl) (hb hby at_141) (fun _ _ => ⟨rfl, e20q, (by decide : 4 + 1 ≤ _), (by decide : 30 + 6 ≤ _)⟩)
    dsimp only [Pt.U, Pt.locs, Pt.cells, Pt.slots] at X21 l21 y21 z21 st21 hQ21
    subst l21 y21 z21
    obtain ⟨h21, e21⟩ : ∃ z, T21.heap = z := ⟨_, rfl⟩
    rw [e21] at hQ21
    obtain ⟨b1_21, rfl, N21q, K21q, sz_b1_21, q0_21, q1_21, q2_21, q3_21, q4_21, q5_21, q6_21⟩ := hQ21
    have N21 := Fr.app N20 N21q
    have f22 := (f7.keep K12q)
    have lt21_b1_1 := f22.lt
    have lt21_b2 := q0_12.lt
    have ne_b1_1_b1_21 : b1_1 ≠ b1_21 := Nat.ne_of_lt (Nat.lt_of_lt_of_le lt21_b1_1 sz_b1_21)
    have ne_b2_b1_21 : b2 ≠ b1_21 := Nat.ne_of_lt (Nat.lt_of_lt_of_le lt21_b2 sz_b1_21)
    have gn_b1_21 : n0 ≤ b1_21 := Nat.le_trans (Nat.le_trans Z0 K12.1) sz_b1_21
    have sz_b1_21' := Nat.le_trans K12.1 sz_b1_21
    replace sz_b1_21 := sz_b1_21'
    have K21 : Keep h0 h21 [] := K12.trans K21q all0
    refine step (T21.setTop (mkF m 144 #[.val (.int p0), .val (.int p1), .val (.int p2), .val (.int p3), .val (.int p4), .val (.int (0 : Int32)), .val (.ref b1_1), .val (.ref b2), .val (.int (1 : Int32)), .val (.int pv), .val (.int qv), .unset, .unset] [(.ref b1_21)])) (fun t k => st21 t k) ?_
    refine step (T21.setTop (mkF m 146 #[.val (.int p0), .val (.int p1), .val (.int p2), .val (.int p3), .val (.int p4), .val (.int (0 : Int32)), .val (.ref b1_1), .val (.ref b2), .val (.int (1 : Int32)), .val (.int pv), .val (.int qv), .val (.ref b1_21), .unset] [])) (fun t k => XS.astore X21.here hx rfl (hb hby at_144) rfl rfl (l' := #[.val (.int p0), .val (.int p1), .val (.int p2), .val (.int p3), .val (.int p4), .val (.int (0 : Int32)), .val (.ref b1_1), .val (.ref b2), .val (.int (1 : Int32)), .val (.int pv), .val (.int qv), .val (.ref b1_21), .unset]) rfl k) ?_
    refine step (T21.setTop (mkF m 148 #[.val (.int p0), .val (.int p1), .val (.int p2), .val (.int p3), .val (.int p4), .val (.int (0 : Int32)), .val (.ref b1_1), .val (.ref b2), .val (.int (1 : Int32)), .val (.int pv), .val (.int qv), .val (.ref b1_21), .unset] [(.int qv)])) (fun t k => XS.iload X21.here hx rfl (hb hby at_146) rfl k) ?_
    refine step (T21.setTop (mkF m 149 #[.val (.int p0), .val (.int p1), .val (.int p2), .val (.int p3), .val (.int p4), .val (.int (0 : Int32)), .val (.ref b1_1), .val (.ref b2), .val (.int (1 : Int32)), .val (.int pv), .val (.int qv), .val (.ref b1_21), .unset] [(.int p3), (.int qv)])) (fun t k => XS.iloadN X21.here hx rfl (hb hby at_148) rfl k) ?_
    obtain ⟨_, _, ⟨T23, L23, k23, n23⟩, -, X23, ⟨Lc23, hQ23, l23, y23, z23⟩, st23⟩ := Jvm.LawKit.callS X21 hx (y := (⟨"com/example/vertex_to_service/vertextoservice/core/Choices", "of", "(II)Lcom/example/vertex_to_service/vertextoservice/core/Choices;"⟩ : MethodName)) hown (mvT hZ (hw _ (List.mem_of_getElem? (i := 0) rfl))) (mvT hZ (hw _ (List.mem_of_getElem? (i := 1) rfl))) (mvT hZ (hw _ (List.mem_of_getElem? (i := 2) rfl))) (mvT hZ (hw _ (List.mem_of_getElem? (i := 3) rfl))) (by decide) (backOf (W := 0) (rm1_21 l Z a0 hw [] qv p3 h21 n0 (Nat.le_trans Z0 K21.1) nn_qv) hZ (hw _ (List.mem_of_getElem? (i := 3) rfl)) (hw _ (List.mem_of_getElem? (i := 2) rfl)) (by decide) (by decide)) (g := (mkF m 149 #[.val (.int p0), .val (.int p1), .val (.int p2), .val (.int p3), .val (.int p4), .val (.int (0 : Int32)), .val (.ref b1_1), .val (.ref b2), .val (.int (1 : Int32)), .val (.int pv), .val (.int qv), .val (.ref b1_21), .unset] [(.int p3), (.int qv)])) rfl (by rw [hml]; rfl) (argsL := [(.int qv), (.int p3)]) (rest := []) (lenOf pd_0 rfl) rfl (by show 2 * 0 + _ ≤ _; exact Nat.le_of_eq rfl) (hb hby at_149) (fun _ _ => ⟨rfl, e21, (by decide : 5 + 1 ≤ _), (by decide : 36 + 6 ≤ _)⟩)
    dsimp only [Pt.U, Pt.locs, Pt.cells, Pt.slots] at X23 l23 y23 z23 st23 hQ23
    subst l23 y23 z23
    obtain ⟨h23, e23⟩ : ∃ z, T23.heap = z := ⟨_, rfl⟩
    rw [e23] at hQ23
    obtain ⟨b1_23, rfl, N23q, K23q, sz_b1_23, q0_23, q1_23, q2_23, q3_23, q4_23, q5_23, q6_23⟩ := hQ23
    have N23 := Fr.app N21 N23q
    have f24 := (f22.keep K21q)
    have lt23_b1_1 := f24.lt
    have f25 := (q0_12.keep K21q nin0)
    have lt23_b2 := f25.lt
    have lt23_b1_21 := q0_21.lt
    have ne_b1_1_b1_23 : b1_1 ≠ b1_23 := Nat.ne_of_lt (Nat.lt_of_lt_of_le lt23_b1_1 sz_b1_23)
    have ne_b2_b1_23 : b2 ≠ b1_23 := Nat.ne_of_lt (Nat.lt_of_lt_of_le lt23_b2 sz_b1_23)
    have ne_b1_21_b1_23 : b1_21 ≠ b1_23 := Nat.ne_of_lt (Nat.lt_of_lt_of_le lt23_b1_21 sz_b1_23)
    have gn_b1_23 : n0 ≤ b1_23 := Nat.le_trans (Nat.le_trans Z0 K21.1) sz_b1_23
    have sz_b1_23' := Nat.le_trans K21.1 sz_b1_23
    replace sz_b1_23 := sz_b1_23'
    have K23 : Keep h0 h23 [] := K21.trans K23q all0
    refine step (T23.setTop (mkF m 152 #[.val (.int p0), .val (.int p1), .val (.int p2), .val (.int p3), .val (.int p4), .val (.int (0 : Int32)), .val (.ref b1_1), .val (.ref b2), .val (.int (1 : Int32)), .val (.int pv), .val (.int qv), .val (.ref b1_21), .unset] [(.ref b1_23)])) (fun t k => st23 t k) ?_
    refine step (T23.setTop (mkF m 154 #[.val (.int p0), .val (.int p1), .val (.int p2), .val (.int p3), .val (.int p4), .val (.int (0 : Int32)), .val (.ref b1_1), .val (.ref b2), .val (.int (1 : Int32)), .val (.int pv), .val (.int qv), .val (.ref b1_21), .val (.ref b1_23)] [])) (fun t k => XS.astore X23.here hx rfl (hb hby at_152) rfl rfl (l' := #[.val (.int p0), .val (.int p1), .val (.int p2), .val (.int p3), .val (.int p4), .val (.int (0 : Int32)), .val (.ref b1_1), .val (.ref b2), .val (.int (1 : Int32)), .val (.int pv), .val (.int qv), .val (.ref b1_21), .val (.ref b1_23)]) rfl k) ?_
    refine step (T23.setTop (mkF m 156 #[.val (.int p0), .val (.int p1), .val (.int p2), .val (.int p3), .val (.int p4), .val (.int (0 : Int32)), .val (.ref b1_1), .val (.ref b2), .val (.int (1 : Int32)), .val (.int pv), .val (.int qv), .val (.ref b1_21), .val (.ref b1_23)] [(.int (1 : Int32))])) (fun t k => XS.iload X23.here hx rfl (hb hby at_154) rfl k) ?_
    refine step (T23.setTop (mkF m 159 #[.val (.int p0), .val (.int p1), .val (.int p2), .val (.int p3), .val (.int p4), .val (.int (0 : Int32)), .val (.ref b1_1), .val (.ref b2), .val (.int (1 : Int32)), .val (.int pv), .val (.int qv), .val (.ref b1_21), .val (.ref b1_23)] [])) (fun t k => XS.ifNo X23.here hx rfl (hb hby at_156) rfl ((if0 _ _).trans (feq (by decide : ¬ ((1 : Int32) = (0 : Int32)))).1) k) ?_
    refine step (T23.setTop (mkF m 161 #[.val (.int p0), .val (.int p1), .val (.int p2), .val (.int p3), .val (.int p4), .val (.int (0 : Int32)), .val (.ref b1_1), .val (.ref b2), .val (.int (1 : Int32)), .val (.int pv), .val (.int qv), .val (.ref b1_21), .val (.ref b1_23)] [(.ref b1_21)])) (fun t k => XS.aload X23.here hx rfl (hb hby at_159) rfl rfl k) ?_
    refine step (T23.setTop (mkF m 163 #[.val (.int p0), .val (.int p1), .val (.int p2), .val (.int p3), .val (.int p4), .val (.int (0 : Int32)), .val (.ref b1_1), .val (.ref b2), .val (.int (1 : Int32)), .val (.int pv), .val (.int qv), .val (.ref b1_21), .val (.ref b1_23)] [(.ref b1_23), (.ref b1_21)])) (fun t k => XS.aload X23.here hx rfl (hb hby at_161) rfl rfl k) ?_
    have f26 := (q0_21.keep K23q)
    have f27 := (q3_21.keep K23q nin0)
    have f28 := (q4_21.keep K23q nin0)
    obtain ⟨cq29, kq29, q29a, q29b, q29c⟩ := isOf hZ e23 f26
    obtain ⟨_, _, ⟨T29, L29, k29, n29⟩, -, X29, ⟨Lc29, hQ29, l29, y29, z29⟩, st29⟩ := X23.virtualBack hx (y := (⟨"com/example/vertex_to_service/vertextoservice/core/Choices", "before", "(Lcom/example/vertex_to_service/vertextoservice/core/Choices;)Z"⟩ : MethodName)) (z := (⟨"com/example/vertex_to_service/vertextoservice/core/Choices", "before", "(Lcom/example/vertex_to_service/vertextoservice/core/Choices;)Z"⟩ : MethodName)) hown (mvT hZ (hw _ (List.mem_of_getElem? (i := 101) rfl))) (mvT hZ (hw _ (List.mem_of_getElem? (i := 102) rfl))) (notFace_of_selects (args := #[]) (mvT hZ (hw _ (List.mem_of_getElem? (i := 104) rfl)))) (mvT hZ (hw _ (List.mem_of_getElem? (i := 104) rfl))) (mvT hZ (hw _ (List.mem_of_getElem? (i := 103) rfl))) (by decide) (backOf (W := 0) (rm18_23 l Z a0 hw [] b1_21 b1_23 pv qv h23 n0 (Nat.le_trans Z0 K23.1) f26 f27 f28 q0_23 q3_23 q4_23 gn_b1_21 ne_b1_21_b1_23 gn_b1_23 nn_pv nn_qv) hZ (hw _ (List.mem_of_getElem? (i := 105) rfl)) (hw _ (List.mem_of_getElem? (i := 2) rfl)) (by decide) (by decide)) q29a q29c (g := (mkF m 163 #[.val (.int p0), .val (.int p1), .val (.int p2), .val (.int p3), .val (.int p4), .val (.int (0 : Int32)), .val (.ref b1_1), .val (.ref b2), .val (.int (1 : Int32)), .val (.int pv), .val (.int qv), .val (.ref b1_21), .val (.ref b1_23)] [(.ref b1_23), (.ref b1_21)])) rfl (by rw [hml]; rfl) (Steps.refl _) (argsL := [(.ref b1_23)]) (rest := []) (lenOf pd_3 rfl) rfl (by show 2 * 0 + _ ≤ _; exact Nat.le_of_eq rfl) (hb hby at_163) (fun _ _ => ⟨rfl, e23, (by decide : 6 + 0 ≤ _), (by decide : 42 + 0 ≤ _)⟩)
    dsimp only [Pt.U, Pt.locs, Pt.cells, Pt.slots] at X29 l29 y29 z29 st29 hQ29
    subst l29 y29 z29
    obtain ⟨z30_7_29, rfl, N29q, e29q, hz30_7_29⟩ := hQ29
    have N29 := Fr.app N23 N29q
    refine step (T29.setTop (mkF m 166 #[.val (.int p0), .val (.int p1), .val (.int p2), .val (.int p3), .val (.int p4), .val (.int (0 : Int32)), .val (.ref b1_1), .val (.ref b2), .val (.int (1 : Int32)), .val (.int pv), .val (.int qv), .val (.ref b1_21), .val (.ref b1_23)] [(.int z30_7_29)])) (fun t k => st29.trans k) ?_
    refine step (T29.setTop (mkF m 168 #[.val (.int p0), .val (.int p1), .val (.int p2), .val (.int p3), .val (.int p4), .val (.int (0 : Int32)), .val (.ref b1_1), .val (.ref b2), .val (.int (1 : Int32)), .val (.int pv), .val (.int qv), .val (.ref b1_21), .val (.ref b1_23)] [(.int pv), (.int z30_7_29)])) (fun t k => XS.iload X29.here hx rfl (hb hby at_166) rfl k) ?_
    refine step (T29.setTop (mkF m 170 #[.val (.int p0), .val (.int p1), .val (.int p2), .val (.int p3), .val (.int p4), .val (.int (0 : Int32)), .val (.ref b1_1), .val (.ref b2), .val (.int (1 : Int32)), .val (.int pv), .val (.int qv), .val (.ref b1_21), .val (.ref b1_23)] [(.int qv), (.int pv), (.int z30_7_29)])) (fun t k => XS.iload X29.here hx rfl (hb hby at_168) rfl k) ?_
    suffices J178_31 : ∀ (z178_30 : Int32), z178_30 = (if pv < qv then (1 : Int32) else (0 : Int32)) → G (T29.setTop (mkF m 178 #[.val (.int p0), .val (.int p1), .val (.int p2), .val (.int p3), .val (.int p4), .val (.int (0 : Int32)), .val (.ref b1_1), .val (.ref b2), .val (.int (1 : Int32)), .val (.int pv), .val (.int qv), .val (.ref b1_21), .val (.ref b1_23)] [(.int z178_30), (.int z30_7_29)])) by
      by_cases hc170_32 : pv < qv
      · -- 170 True
        refine step (T29.setTop (mkF m 173 #[.val (.int p0), .val (.int p1), .val (.int p2), .val (.int p3), .val (.int p4), .val (.int (0 : Int32)), .val (.ref b1_1), .val (.ref b2), .val (.int (1 : Int32)), .val (.int pv), .val (.int qv), .val (.ref b1_21), .val (.ref b1_23)] [(.int z30_7_29)])) (fun t k => XS.icmpNo X29.here hx rfl (hb hby at_170) rfl (tlt hc170_32).2.1 k) ?_
        refine step (T29.setTop (mkF m 174 #[.val (.int p0), .val (.int p1), .val (.int p2), .val (.int p3), .val (.int p4), .val (.int (0 : Int32)), .val (.ref b1_1), .val (.ref b2), .val (.int (1 : Int32)), .val (.int pv), .val (.int qv), .val (.ref b1_21), .val (.ref b1_23)] [(.int (1 : Int32)), (.int z30_7_29)])) (fun t k => XS.iconst X29.here hx rfl (hb hby at_173) k) ?_
        refine step (T29.setTop (mkF m 178 #[.val (.int p0), .val (.int p1), .val (.int p2), .val (.int p3), .val (.int p4), .val (.int (0 : Int32)), .val (.ref b1_1), .val (.ref b2), .val (.int (1 : Int32)), .val (.int pv), .val (.int qv), .val (.ref b1_21), .val (.ref b1_23)] [(.int (1 : Int32)), (.int z30_7_29)])) (fun t k => XS.goto X29.here hx rfl (pc0 := 174) (pc' := 178) rfl (hb hby at_174) (by decide) (by decide) k) ?_
        exact J178_31 _ (by simp only [if_pos hc170_32, if_true, if_false] <;> rfl)
      · -- 170 False
        refine step (T29.setTop (mkF m 177 #[.val (.int p0), .val (.int p1), .val (.int p2), .val (.int p3), .val (.int p4), .val (.int (0 : Int32)), .val (.ref b1_1), .val (.ref b2), .val (.int (1 : Int32)), .val (.int pv), .val (.int qv), .val (.ref b1_21), .val (.ref b1_23)] [(.int z30_7_29)])) (fun t k => XS.icmpYes X29.here hx rfl (pc0 := 170) (pc' := 177) rfl (hb hby at_170) rfl (flt hc170_32).2.1 (by decide) (by decide) k) ?_
        refine step (T29.setTop (mkF m 178 #[.val (.int p0), .val (.int p1), .val (.int p2), .val (.int p3), .val (.int p4), .val (.int (0 : Int32)), .val (.ref b1_1), .val (.ref b2), .val (.int (1 : Int32)), .val (.int pv), .val (.int qv), .val (.ref b1_21), .val (.ref b1_23)] [(.int (0 : Int32)), (.int z30_7_29)])) (fun t k => XS.iconst X29.here hx rfl (hb hby at_177) k) ?_
        exact J178_31 _ (by simp only [if_neg hc170_32, if_true, if_false] <;> rfl)
    intro z178_30 hz178_30
    suffices J186_34 : ∀ (z186_33 : Int32), z186_33 = (if z30_7_29 = z178_30 then (1 : Int32) else (0 : Int32)) → G (T29.setTop (mkF m 186 #[.val (.int p0), .val (.int p1), .val (.int p2), .val (.int p3), .val (.int p4), .val (.int (0 : Int32)), .val (.ref b1_1), .val (.ref b2), .val (.int (1 : Int32)), .val (.int pv), .val (.int qv), .val (.ref b1_21), .val (.ref b1_23)] [(.int z186_33)])) by
      by_cases hc178_35 : z30_7_29 = z178_30
      · -- 178 True
        refine step (T29.setTop (mkF m 181 #[.val (.int p0), .val (.int p1), .val (.int p2), .val (.int p3), .val (.int p4), .val (.int (0 : Int32)), .val (.ref b1_1), .val (.ref b2), .val (.int (1 : Int32)), .val (.int pv), .val (.int qv), .val (.ref b1_21), .val (.ref b1_23)] [])) (fun t k => XS.icmpNo X29.here hx rfl (hb hby at_178) rfl (teq hc178_35).2 k) ?_
        refine step (T29.setTop (mkF m 182 #[.val (.int p0), .val (.int p1), .val (.int p2), .val (.int p3), .val (.int p4), .val (.int (0 : Int32)), .val (.ref b1_1), .val (.ref b2), .val (.int (1 : Int32)), .val (.int pv), .val (.int qv), .val (.ref b1_21), .val (.ref b1_23)] [(.int (1 : Int32))])) (fun t k => XS.iconst X29.here hx rfl (hb hby at_181) k) ?_
        refine step (T29.setTop (mkF m 186 #[.val (.int p0), .val (.int p1), .val (.int p2), .val (.int p3), .val (.int p4), .val (.int (0 : Int32)), .val (.ref b1_1), .val (.ref b2), .val (.int (1 : Int32)), .val (.int pv), .val (.int qv), .val (.ref b1_21), .val (.ref b1_23)] [(.int (1 : Int32))])) (fun t k => XS.goto X29.here hx rfl (pc0 := 182) (pc' := 186) rfl (hb hby at_182) (by decide) (by decide) k) ?_
        exact J186_34 _ (by simp only [if_pos hc178_35, if_true, if_false] <;> rfl)
      · -- 178 False
        refine step (T29.setTop (mkF m 185 #[.val (.int p0), .val (.int p1), .val (.int p2), .val (.int p3), .val (.int p4), .val (.int (0 : Int32)), .val (.ref b1_1), .val (.ref b2), .val (.int (1 : Int32)), .val (.int pv), .val (.int qv), .val (.ref b1_21), .val (.ref b1_23)] [])) (fun t k => XS.icmpYes X29.here hx rfl (pc0 := 178) (pc' := 185) rfl (hb hby at_178) rfl (feq hc178_35).2 (by decide) (by decide) k) ?_
        refine step (T29.setTop (mkF m 186 #[.val (.int p0), .val (.int p1), .val (.int p2), .val (.int p3), .val (.int p4), .val (.int (0 : Int32)), .val (.ref b1_1), .val (.ref b2), .val (.int (1 : Int32)), .val (.int pv), .val (.int qv), .val (.ref b1_21), .val (.ref b1_23)] [(.int (0 : Int32))])) (fun t k => XS.iconst X29.here hx rfl (hb hby at_185) k) ?_
        exact J186_34 _ (by simp only [if_neg hc178_35, if_true, if_false] <;> rfl)
    intro z186_33 hz186_33
    refine step (T29.setTop (mkF m 188 #[.val (.int p0), .val (.int p1), .val (.int p2), .val (.int p3), .val (.int p4), .val (.int (0 : Int32)), .val (.ref b1_1), .val (.ref b2), .val (.int z186_33), .val (.int pv), .val (.int qv), .val (.ref b1_21), .val (.ref b1_23)] [])) (fun t k => XS.istore X29.here hx rfl (hb hby at_186) rfl (l' := #[.val (.int p0), .val (.int p1), .val (.int p2), .val (.int p3), .val (.int p4), .val (.int (0 : Int32)), .val (.ref b1_1), .val (.ref b2), .val (.int z186_33), .val (.int pv), .val (.int qv), .val (.ref b1_21), .val (.ref b1_23)]) rfl k) ?_
    refine step (T29.setTop (mkF m 190 #[.val (.int p0), .val (.int p1), .val (.int p2), .val (.int p3), .val (.int p4), .val (.int (0 : Int32)), .val (.ref b1_1), .val (.ref b2), .val (.int z186_33), .val (.int pv), .val (.int qv), .val (.ref b1_21), .val (.ref b1_23)] [(.int z186_33)])) (fun t k => XS.iload X29.here hx rfl (hb hby at_188) rfl k) ?_
    have hc190_36 : ¬ (z186_33 = (0 : Int32)) := (own_plain23 p0 p1 p2 p3 p4 pv qv z30_7_29 z178_30 z186_33 hpv hqv hz30_7_29 hz178_30 hz186_33)
    refine step (T29.setTop (mkF m 193 #[.val (.int p0), .val (.int p1), .val (.int p2), .val (.int p3), .val (.int p4), .val (.int (0 : Int32)), .val (.ref b1_1), .val (.ref b2), .val (.int z186_33), .val (.int pv), .val (.int qv), .val (.ref b1_21), .val (.ref b1_23)] [])) (fun t k => XS.ifNo X29.here hx rfl (hb hby at_190) rfl ((if0 _ _).trans (feq hc190_36).1) k) ?_
    refine step (T29.setTop (mkF m 195 #[.val (.int p0), .val (.int p1), .val (.int p2), .val (.int p3), .val (.int p4), .val (.int (0 : Int32)), .val (.ref b1_1), .val (.ref b2), .val (.int z186_33), .val (.int pv), .val (.int qv), .val (.ref b1_21), .val (.ref b1_23)] [(.ref b1_23)])) (fun t k => XS.aload X29.here hx rfl (hb hby at_193) rfl rfl k) ?_
    refine step (T29.setTop (mkF m 197 #[.val (.int p0), .val (.int p1), .val (.int p2), .val (.int p3), .val (.int p4), .val (.int (0 : Int32)), .val (.ref b1_1), .val (.ref b2), .val (.int z186_33), .val (.int pv), .val (.int qv), .val (.ref b1_21), .val (.ref b1_23)] [(.ref b1_21), (.ref b1_23)])) (fun t k => XS.aload X29.here hx rfl (hb hby at_195) rfl rfl k) ?_
    obtain ⟨cq37, kq37, q37a, q37b, q37c⟩ := isOf hZ e29q q0_23
    obtain ⟨_, _, ⟨T37, L37, k37, n37⟩, -, X37, ⟨Lc37, hQ37, l37, y37, z37⟩, st37⟩ := X29.virtualBack hx (y := (⟨"com/example/vertex_to_service/vertextoservice/core/Choices", "before", "(Lcom/example/vertex_to_service/vertextoservice/core/Choices;)Z"⟩ : MethodName)) (z := (⟨"com/example/vertex_to_service/vertextoservice/core/Choices", "before", "(Lcom/example/vertex_to_service/vertextoservice/core/Choices;)Z"⟩ : MethodName)) hown (mvT hZ (hw _ (List.mem_of_getElem? (i := 101) rfl))) (mvT hZ (hw _ (List.mem_of_getElem? (i := 102) rfl))) (notFace_of_selects (args := #[]) (mvT hZ (hw _ (List.mem_of_getElem? (i := 104) rfl)))) (mvT hZ (hw _ (List.mem_of_getElem? (i := 104) rfl))) (mvT hZ (hw _ (List.mem_of_getElem? (i := 103) rfl))) (by decide) (backOf (W := 0) (rm18_25 l Z a0 hw [] b1_23 b1_21 qv pv h23 n0 (Nat.le_trans Z0 K23.1) q0_23 q3_23 q4_23 f26 f27 f28 gn_b1_23 (Ne.symm ne_b1_21_b1_23) gn_b1_21 nn_pv nn_qv) hZ (hw _ (List.mem_of_getElem? (i := 105) rfl)) (hw _ (List.mem_of_getElem? (i := 2) rfl)) (by decide) (by decide)) q37a q37c (g := (mkF m 197 #[.val (.int p0), .val (.int p1), .val (.int p2), .val (.int p3), .val (.int p4), .val (.int (0 : Int32)), .val (.ref b1_1), .val (.ref b2), .val (.int z186_33), .val (.int pv), .val (.int qv), .val (.ref b1_21), .val (.ref b1_23)] [(.ref b1_21), (.ref b1_23)])) rfl (by rw [hml]; rfl) (Steps.refl _) (argsL := [(.ref b1_21)]) (rest := []) (lenOf pd_3 rfl) rfl (by show 2 * 0 + _ ≤ _; exact Nat.le_of_eq rfl) (hb hby at_197) (fun _ _ => ⟨rfl, e29q, (by decide : 6 + 0 ≤ _), (by decide : 42 + 0 ≤ _)⟩)
    dsimp only [Pt.U, Pt.locs, Pt.cells, Pt.slots] at X37 l37 y37 z37 st37 hQ37
    subst l37 y37 z37
    obtain ⟨z30_7_37, rfl, N37q, e37q, hz30_7_37⟩ := hQ37
    have N37 := Fr.app N29 N37q
    refine step (T37.setTop (mkF m 200 #[.val (.int p0), .val (.int p1), .val (.int p2), .val (.int p3), .val (.int p4), .val (.int (0 : Int32)), .val (.ref b1_1), .val (.ref b2), .val (.int z186_33), .val (.int pv), .val (.int qv), .val (.ref b1_21), .val (.ref b1_23)] [(.int z30_7_37)])) (fun t k => st37.trans k) ?_
    refine step (T37.setTop (mkF m 202 #[.val (.int p0), .val (.int p1), .val (.int p2), .val (.int p3), .val (.int p4), .val (.int (0 : Int32)), .val (.ref b1_1), .val (.ref b2), .val (.int z186_33), .val (.int pv), .val (.int qv), .val (.ref b1_21), .val (.ref b1_23)] [(.int qv), (.int z30_7_37)])) (fun t k => XS.iload X37.here hx rfl (hb hby at_200) rfl k) ?_
    refine step (T37.setTop (mkF m 204 #[.val (.int p0), .val (.int p1), .val (.int p2), .val (.int p3), .val (.int p4), .val (.int (0 : Int32)), .val (.ref b1_1), .val (.ref b2), .val (.int z186_33), .val (.int pv), .val (.int qv), .val (.ref b1_21), .val (.ref b1_23)] [(.int pv), (.int qv), (.int z30_7_37)])) (fun t k => XS.iload X37.here hx rfl (hb hby at_202) rfl k) ?_
    suffices J212_39 : ∀ (z212_38 : Int32), z212_38 = (if qv < pv then (1 : Int32) else (0 : Int32)) → G (T37.setTop (mkF m 212 #[.val (.int p0), .val (.int p1), .val (.int p2), .val (.int p3), .val (.int p4), .val (.int (0 : Int32)), .val (.ref b1_1), .val (.ref b2), .val (.int z186_33), .val (.int pv), .val (.int qv), .val (.ref b1_21), .val (.ref b1_23)] [(.int z212_38), (.int z30_7_37)])) by
      by_cases hc204_40 : qv < pv
      · -- 204 True
        refine step (T37.setTop (mkF m 207 #[.val (.int p0), .val (.int p1), .val (.int p2), .val (.int p3), .val (.int p4), .val (.int (0 : Int32)), .val (.ref b1_1), .val (.ref b2), .val (.int z186_33), .val (.int pv), .val (.int qv), .val (.ref b1_21), .val (.ref b1_23)] [(.int z30_7_37)])) (fun t k => XS.icmpNo X37.here hx rfl (hb hby at_204) rfl (tlt hc204_40).2.1 k) ?_
        refine step (T37.setTop (mkF m 208 #[.val (.int p0), .val (.int p1), .val (.int p2), .val (.int p3), .val (.int p4), .val (.int (0 : Int32)), .val (.ref b1_1), .val (.ref b2), .val (.int z186_33), .val (.int pv), .val (.int qv), .val (.ref b1_21), .val (.ref b1_23)] [(.int (1 : Int32)), (.int z30_7_37)])) (fun t k => XS.iconst X37.here hx rfl (hb hby at_207) k) ?_
        refine step (T37.setTop (mkF m 212 #[.val (.int p0), .val (.int p1), .val (.int p2), .val (.int p3), .val (.int p4), .val (.int (0 : Int32)), .val (.ref b1_1), .val (.ref b2), .val (.int z186_33), .val (.int pv), .val (.int qv), .val (.ref b1_21), .val (.ref b1_23)] [(.int (1 : Int32)), (.int z30_7_37)])) (fun t k => XS.goto X37.here hx rfl (pc0 := 208) (pc' := 212) rfl (hb hby at_208) (by decide) (by decide) k) ?_
        exact J212_39 _ (by simp only [if_pos hc204_40, if_true, if_false] <;> rfl)
      · -- 204 False
        refine step (T37.setTop (mkF m 211 #[.val (.int p0), .val (.int p1), .val (.int p2), .val (.int p3), .val (.int p4), .val (.int (0 : Int32)), .val (.ref b1_1), .val (.ref b2), .val (.int z186_33), .val (.int pv), .val (.int qv), .val (.ref b1_21), .val (.ref b1_23)] [(.int z30_7_37)])) (fun t k => XS.icmpYes X37.here hx rfl (pc0 := 204) (pc' := 211) rfl (hb hby at_204) rfl (flt hc204_40).2.1 (by decide) (by decide) k) ?_
        refine step (T37.setTop (mkF m 212 #[.val (.int p0), .val (.int p1), .val (.int p2), .val (.int p3), .val (.int p4), .val (.int (0 : Int32)), .val (.ref b1_1), .val (.ref b2), .val (.int z186_33), .val (.int pv), .val (.int qv), .val (.ref b1_21), .val (.ref b1_23)] [(.int (0 : Int32)), (.int z30_7_37)])) (fun t k => XS.iconst X37.here hx rfl (hb hby at_211) k) ?_
        exact J212_39 _ (by simp only [if_neg hc204_40, if_true, if_false] <;> rfl)
    intro z212_38 hz212_38
    suffices J220_42 : ∀ (z220_41 : Int32), z220_41 = (if z30_7_37 = z212_38 then (1 : Int32) else (0 : Int32)) → G (T37.setTop (mkF m 220 #[.val (.int p0), .val (.int p1), .val (.int p2), .val (.int p3), .val (.int p4), .val (.int (0 : Int32)), .val (.ref b1_1), .val (.ref b2), .val (.int z186_33), .val (.int pv), .val (.int qv), .val (.ref b1_21), .val (.ref b1_23)] [(.int z220_41)])) by
      by_cases hc212_43 : z30_7_37 = z212_38
      · -- 212 True
        refine step (T37.setTop (mkF m 215 #[.val (.int p0), .val (.int p1), .val (.int p2), .val (.int p3), .val (.int p4), .val (.int (0 : Int32)), .val (.ref b1_1), .val (.ref b2), .val (.int z186_33), .val (.int pv), .val (.int qv), .val (.ref b1_21), .val (.ref b1_23)] [])) (fun t k => XS.icmpNo X37.here hx rfl (hb hby at_212) rfl (teq hc212_43).2 k) ?_
        refine step (T37.setTop (mkF m 216 #[.val (.int p0), .val (.int p1), .val (.int p2), .val (.int p3), .val (.int p4), .val (.int (0 : Int32)), .val (.ref b1_1), .val (.ref b2), .val (.int z186_33), .val (.int pv), .val (.int qv), .val (.ref b1_21), .val (.ref b1_23)] [(.int (1 : Int32))])) (fun t k => XS.iconst X37.here hx rfl (hb hby at_215) k) ?_
        refine step (T37.setTop (mkF m 220 #[.val (.int p0), .val (.int p1), .val (.int p2), .val (.int p3), .val (.int p4), .val (.int (0 : Int32)), .val (.ref b1_1), .val (.ref b2), .val (.int z186_33), .val (.int pv), .val (.int qv), .val (.ref b1_21), .val (.ref b1_23)] [(.int (1 : Int32))])) (fun t k => XS.goto X37.here hx rfl (pc0 := 216) (pc' := 220) rfl (hb hby at_216) (by decide) (by decide) k) ?_
        exact J220_42 _ (by simp only [if_pos hc212_43, if_true, if_false] <;> rfl)
      · -- 212 False
        refine step (T37.setTop (mkF m 219 #[.val (.int p0), .val (.int p1), .val (.int p2), .val (.int p3), .val (.int p4), .val (.int (0 : Int32)), .val (.ref b1_1), .val (.ref b2), .val (.int z186_33), .val (.int pv), .val (.int qv), .val (.ref b1_21), .val (.ref b1_23)] [])) (fun t k => XS.icmpYes X37.here hx rfl (pc0 := 212) (pc' := 219) rfl (hb hby at_212) rfl (feq hc212_43).2 (by decide) (by decide) k) ?_
        refine step (T37.setTop (mkF m 220 #[.val (.int p0), .val (.int p1), .val (.int p2), .val (.int p3), .val (.int p4), .val (.int (0 : Int32)), .val (.ref b1_1), .val (.ref b2), .val (.int z186_33), .val (.int pv), .val (.int qv), .val (.ref b1_21), .val (.ref b1_23)] [(.int (0 : Int32))])) (fun t k => XS.iconst X37.here hx rfl (hb hby at_219) k) ?_
        exact J220_42 _ (by simp only [if_neg hc212_43, if_true, if_false] <;> rfl)
    intro z220_41 hz220_41
    refine step (T37.setTop (mkF m 222 #[.val (.int p0), .val (.int p1), .val (.int p2), .val (.int p3), .val (.int p4), .val (.int (0 : Int32)), .val (.ref b1_1), .val (.ref b2), .val (.int z220_41), .val (.int pv), .val (.int qv), .val (.ref b1_21), .val (.ref b1_23)] [])) (fun t k => XS.istore X37.here hx rfl (hb hby at_220) rfl (l' := #[.val (.int p0), .val (.int p1), .val (.int p2), .val (.int p3), .val (.int p4), .val (.int (0 : Int32)), .val (.ref b1_1), .val (.ref b2), .val (.int z220_41), .val (.int pv), .val (.int qv), .val (.ref b1_21), .val (.ref b1_23)]) rfl k) ?_
    refine step (T37.setTop (mkF m 224 #[.val (.int p0), .val (.int p1), .val (.int p2), .val (.int p3), .val (.int p4), .val (.int (0 : Int32)), .val (.ref b1_1), .val (.ref b2), .val (.int z220_41), .val (.int pv), .val (.int qv), .val (.ref b1_21), .val (.ref b1_23)] [(.int z220_41)])) (fun t k => XS.iload X37.here hx rfl (hb hby at_222) rfl k) ?_
    have hc224_44 : ¬ (z220_41 = (0 : Int32)) := (own_plain25 p0 p1 p2 p3 p4 pv qv z30_7_37 z212_38 z220_41 hpv hqv hz30_7_37 hz212_38 hz220_41)
    refine step (T37.setTop (mkF m 227 #[.val (.int p0), .val (.int p1), .val (.int p2), .val (.int p3), .val (.int p4), .val (.int (0 : Int32)), .val (.ref b1_1), .val (.ref b2), .val (.int z220_41), .val (.int pv), .val (.int qv), .val (.ref b1_21), .val (.ref b1_23)] [])) (fun t k => XS.ifNo X37.here hx rfl (hb hby at_224) rfl ((if0 _ _).trans (feq hc224_44).1) k) ?_
    refine step (T37.setTop (mkF m 229 #[.val (.int p0), .val (.int p1), .val (.int p2), .val (.int p3), .val (.int p4), .val (.int (0 : Int32)), .val (.ref b1_1), .val (.ref b2), .val (.int z220_41), .val (.int pv), .val (.int qv), .val (.ref b1_21), .val (.ref b1_23)] [(.ref b1_21)])) (fun t k => XS.aload X37.here hx rfl (hb hby at_227) rfl rfl k) ?_
    refine step (T37.setTop (mkF m 231 #[.val (.int p0), .val (.int p1), .val (.int p2), .val (.int p3), .val (.int p4), .val (.int (0 : Int32)), .val (.ref b1_1), .val (.ref b2), .val (.int z220_41), .val (.int pv), .val (.int qv), .val (.ref b1_21), .val (.ref b1_23)] [(.ref b1_21), (.ref b1_21)])) (fun t k => XS.aload X37.here hx rfl (hb hby at_229) rfl rfl k) ?_
    obtain ⟨cq45, kq45, q45a, q45b, q45c⟩ := isOf hZ e37q f26
    obtain ⟨_, _, ⟨T45, L45, k45, n45⟩, -, X45, ⟨Lc45, hQ45, l45, y45, z45⟩, st45⟩ := X37.virtualBack hx (y := (⟨"com/example/vertex_to_service/vertextoservice/core/Choices", "before", "(Lcom/example/vertex_to_service/vertextoservice/core/Choices;)Z"⟩ : MethodName)) (z := (⟨"com/example/vertex_to_service/vertextoservice/core/Choices", "before", "(Lcom/example/vertex_to_service/vertextoservice/core/Choices;)Z"⟩ : MethodName)) hown (mvT hZ (hw _ (List.mem_of_getElem? (i := 101) rfl))) (mvT hZ (hw _ (List.mem_of_getElem? (i := 102) rfl))) (notFace_of_selects (args := #[]) (mvT hZ (hw _ (List.mem_of_getElem? (i := 104) rfl)))) (mvT hZ (hw _ (List.mem_of_getElem? (i := 104) rfl))) (mvT hZ (hw _ (List.mem_of_getElem? (i := 103) rfl))) (by decide) (backOf (W := 0) (rm18_27 l Z a0 hw [] b1_21 pv h23 n0 (Nat.le_trans Z0 K23.1) f26 f27 f28 gn_b1_21 nn_pv) hZ (hw _ (List.mem_of_getElem? (i := 105) rfl)) (hw _ (List.mem_of_getElem? (i := 2) rfl)) (by decide) (by decide)) q45a q45c (g := (mkF m 231 #[.val (.int p0), .val (.int p1), .val (.int p2), .val (.int p3), .val (.int p4), .val (.int (0 : Int32)), .val (.ref b1_1), .val (.ref b2), .val (.int z220_41), .val (.int pv), .val (.int qv), .val (.ref b1_21), .val (.ref b1_23)] [(.ref b1_21), (.ref b1_21)])) rfl (by rw [hml]; rfl) (Steps.refl _) (argsL := [(.ref b1_21)]) (rest := []) (lenOf pd_3 rfl) rfl (by show 2 * 0 + _ ≤ _; exact Nat.le_of_eq rfl) (hb hby at_231) (fun _ _ => ⟨rfl, e37q, (by decide : 6 + 0 ≤ _), (by decide : 42 + 0 ≤ _)⟩)
    dsimp only [Pt.U, Pt.locs, Pt.cells, Pt.slots] at X45 l45 y45 z45 st45 hQ45
    subst l45 y45 z45
    obtain ⟨rfl, N45q, e45q⟩ := hQ45
    have N45 := Fr.app N37 N45q
    refine step (T45.setTop (mkF m 234 #[.val (.int p0), .val (.int p1), .val (.int p2), .val (.int p3), .val (.int p4), .val (.int (0 : Int32)), .val (.ref b1_1), .val (.ref b2), .val (.int z220_41), .val (.int pv), .val (.int qv), .val (.ref b1_21), .val (.ref b1_23)] [(.int (0 : Int32))])) (fun t k => st45.trans k) ?_
    refine step (T45.setTop (mkF m 237 #[.val (.int p0), .val (.int p1), .val (.int p2), .val (.int p3), .val (.int p4), .val (.int (0 : Int32)), .val (.ref b1_1), .val (.ref b2), .val (.int z220_41), .val (.int pv), .val (.int qv), .val (.ref b1_21), .val (.ref b1_23)] [])) (fun t k => XS.ifNo X45.here hx rfl (hb hby at_234) rfl ((if0 _ _).trans (teq (by decide : (0 : Int32) = (0 : Int32))).2) k) ?_
    refine step (T45.setTop (mkF m 238 #[.val (.int p0), .val (.int p1), .val (.int p2), .val (.int p3), .val (.int p4), .val (.int (0 : Int32)), .val (.ref b1_1), .val (.ref b2), .val (.int z220_41), .val (.int pv), .val (.int qv), .val (.ref b1_21), .val (.ref b1_23)] [(.int (1 : Int32))])) (fun t k => XS.iconst X45.here hx rfl (hb hby at_237) k) ?_
    refine step (T45.setTop (mkF m 242 #[.val (.int p0), .val (.int p1), .val (.int p2), .val (.int p3), .val (.int p4), .val (.int (0 : Int32)), .val (.ref b1_1), .val (.ref b2), .val (.int z220_41), .val (.int pv), .val (.int qv), .val (.ref b1_21), .val (.ref b1_23)] [(.int (1 : Int32))])) (fun t k => XS.goto X45.here hx rfl (pc0 := 238) (pc' := 242) rfl (hb hby at_238) (by decide) (by decide) k) ?_
    refine step (T45.setTop (mkF m 244 #[.val (.int p0), .val (.int p1), .val (.int p2), .val (.int p3), .val (.int p4), .val (.int (0 : Int32)), .val (.ref b1_1), .val (.ref b2), .val (.int (1 : Int32)), .val (.int pv), .val (.int qv), .val (.ref b1_21), .val (.ref b1_23)] [])) (fun t k => XS.istore X45.here hx rfl (hb hby at_242) rfl (l' := #[.val (.int p0), .val (.int p1), .val (.int p2), .val (.int p3), .val (.int p4), .val (.int (0 : Int32)), .val (.ref b1_1), .val (.ref b2), .val (.int (1 : Int32)), .val (.int pv), .val (.int qv), .val (.ref b1_21), .val (.ref b1_23)]) rfl k) ?_
    refine step (T45.setTop (mkF m 246 #[.val (.int p0), .val (.int p1), .val (.int p2), .val (.int p3), .val (.int p4), .val (.int (0 : Int32)), .val (.ref b1_1), .val (.ref b2), .val (.int (1 : Int32)), .val (.int pv), .val (.int qv), .val (.ref b1_21), .val (.ref b1_23)] [(.int (1 : Int32))])) (fun t k => XS.iload X45.here hx rfl (hb hby at_244) rfl k) ?_
    refine fin (v := some (.int (nar .boolean (1 : Int32)))) X45 (fun h => by cases h) ?_ (by decide) (by decide) (fun fs hr => retN X45 hx (t := .boolean) hret (by simp) (hb hby at_246) hr)
    show Q0 Z p0 p1 p2 p3 p4 h0 n0 (some (.int (nar .boolean (1 : Int32)))) T45.heap _
    rw [e45q]
    exact ⟨rfl, N45⟩
  · -- v = 1
    show G (s₁.setTop (mkF m 3 #[.val (.int p0), .val (.int p1), .val (.int p2), .val (.int p3), .val (.int p4), .unset, .unset, .unset, .unset, .unset, .unset, .unset, .unset] [(.int (1 : Int32))]))
    refine step (s₁.setTop (mkF m 5 #[.val (.int p0), .val (.int p1), .val (.int p2), .val (.int p3), .val (.int p4), .val (.int (1 : Int32)), .unset, .unset, .unset, .unset, .unset, .unset, .unset] [])) (fun t k => XS.istore X0.here hx rfl (hb hby at_3) rfl (l' := #[.val (.int p0), .val (.int p1), .val (.int p2), .val (.int p3), .val (.int p4), .val (.int (1 : Int32)), .unset, .unset, .unset, .unset, .unset, .unset, .unset]) rfl k) ?_
    refine step (s₁.setTop (mkF m 7 #[.val (.int p0), .val (.int p1), .val (.int p2), .val (.int p3), .val (.int p4), .val (.int (1 : Int32)), .unset, .unset, .unset, .unset, .unset, .unset, .unset] [(.int (1 : Int32))])) (fun t k => XS.iload X0.here hx rfl (hb hby at_5) rfl k) ?_
    refine step (s₁.setTop (mkF m 8 #[.val (.int p0), .val (.int p1), .val (.int p2), .val (.int p3), .val (.int p4), .val (.int (1 : Int32)), .unset, .unset, .unset, .unset, .unset, .unset, .unset] [(.int p1), (.int (1 : Int32))])) (fun t k => XS.iloadN X0.here hx rfl (hb hby at_7) rfl k) ?_
    obtain ⟨_, _, ⟨T46, L46, k46, n46⟩, -, X46, ⟨Lc46, hQ46, l46, y46, z46⟩, st46⟩ := Jvm.LawKit.callS X0 hx (y := (⟨"com/example/vertex_to_service/vertextoservice/core/Choices", "of", "(II)Lcom/example/vertex_to_service/vertextoservice/core/Choices;"⟩ : MethodName)) hown (mvT hZ (hw _ (List.mem_of_getElem? (i := 0) rfl))) (mvT hZ (hw _ (List.mem_of_getElem? (i := 1) rfl))) (mvT hZ (hw _ (List.mem_of_getElem? (i := 2) rfl))) (mvT hZ (hw _ (List.mem_of_getElem? (i := 3) rfl))) (by decide) (backOf (W := 0) (rm1_28 l Z a0 hw [] p1 h0 n0 Z0 ) hZ (hw _ (List.mem_of_getElem? (i := 3) rfl)) (hw _ (List.mem_of_getElem? (i := 2) rfl)) (by decide) (by decide)) (g := (mkF m 8 #[.val (.int p0), .val (.int p1), .val (.int p2), .val (.int p3), .val (.int p4), .val (.int (1 : Int32)), .unset, .unset, .unset, .unset, .unset, .unset, .unset] [(.int p1), (.int (1 : Int32))])) rfl (by rw [hml]; rfl) (argsL := [(.int (1 : Int32)), (.int p1)]) (rest := []) (lenOf pd_0 rfl) rfl (by show 2 * 0 + _ ≤ _; exact Nat.le_of_eq rfl) (hb hby at_8) (fun _ _ => ⟨rfl, e0, (by decide : 0 + 1 ≤ _), (by decide : 0 + 6 ≤ _)⟩)
    dsimp only [Pt.U, Pt.locs, Pt.cells, Pt.slots] at X46 l46 y46 z46 st46 hQ46
    subst l46 y46 z46
    obtain ⟨h46, e46⟩ : ∃ z, T46.heap = z := ⟨_, rfl⟩
    rw [e46] at hQ46
    obtain ⟨b1_46, rfl, N46q, K46q, sz_b1_46, q0_46, q1_46, q2_46, q3_46, q4_46, q5_46, q6_46⟩ := hQ46
    have N46 := Fr.app N0 N46q
    have gn_b1_46 : n0 ≤ b1_46 := Nat.le_trans Z0 sz_b1_46
    have K46 : Keep h0 h46 [] := (Keep.refl h0 []).trans K46q all0
    refine step (T46.setTop (mkF m 11 #[.val (.int p0), .val (.int p1), .val (.int p2), .val (.int p3), .val (.int p4), .val (.int (1 : Int32)), .unset, .unset, .unset, .unset, .unset, .unset, .unset] [(.ref b1_46)])) (fun t k => st46 t k) ?_
    refine step (T46.setTop (mkF m 13 #[.val (.int p0), .val (.int p1), .val (.int p2), .val (.int p3), .val (.int p4), .val (.int (1 : Int32)), .val (.ref b1_46), .unset, .unset, .unset, .unset, .unset, .unset] [])) (fun t k => XS.astore X46.here hx rfl (hb hby at_11) rfl rfl (l' := #[.val (.int p0), .val (.int p1), .val (.int p2), .val (.int p3), .val (.int p4), .val (.int (1 : Int32)), .val (.ref b1_46), .unset, .unset, .unset, .unset, .unset, .unset]) rfl k) ?_
    refine step (T46.setTop (mkF m 14 #[.val (.int p0), .val (.int p1), .val (.int p2), .val (.int p3), .val (.int p4), .val (.int (1 : Int32)), .val (.ref b1_46), .unset, .unset, .unset, .unset, .unset, .unset] [(.int (4 : Int32))])) (fun t k => XS.iconst X46.here hx rfl (hb hby at_13) k) ?_
    obtain ⟨T47, h47, k47, X47, e47, E47, A47, st47⟩ := newP X46 hx hZ (hw _ (List.mem_of_getElem? (i := 24) rfl)) e46 (g := (mkF m 14 #[.val (.int p0), .val (.int p1), .val (.int p2), .val (.int p3), .val (.int p4), .val (.int (1 : Int32)), .val (.ref b1_46), .unset, .unset, .unset, .unset, .unset, .unset] [(.int (4 : Int32))])) rfl (hb hby at_14) rfl (by decide) (cap := 4) (by decide) (by decide) (by decide) (by decide)
    obtain ⟨b47, g47⟩ : ∃ z, z = h46.size := ⟨_, rfl⟩
    rw [← g47] at A47 st47
    have ne_b1_46_b47 : b1_46 ≠ b47 := Nat.ne_of_lt (Nat.lt_of_lt_of_le q0_46.lt (Nat.le_of_eq g47.symm))
    have gn_b47 : n0 ≤ b47 := Nat.le_trans (Nat.le_trans Z0 K46.1) (Nat.le_of_eq g47.symm)
    have sz_b47 : h0.size ≤ b47 := Nat.le_trans K46.1 (Nat.le_of_eq g47.symm)
    have K47 : Keep h0 h47 [] := K46.ext E47
    have V47 : Arv Z h47 b47 k47 .int (4 : Int32) [(.int (0 : Int32)), (.int (0 : Int32)), (.int (0 : Int32)), (.int (0 : Int32))] (.int (0 : Int32)) := (Arv.new A47 (by decide)).pad (pad_rep [] (.int (0 : Int32)) 4)
    refine step (T47.setTop (mkF m 16 #[.val (.int p0), .val (.int p1), .val (.int p2), .val (.int p3), .val (.int p4), .val (.int (1 : Int32)), .val (.ref b1_46), .unset, .unset, .unset, .unset, .unset, .unset] [(.ref b47)])) (fun t k => st47 t k) ?_
    refine step (T47.setTop (mkF m 18 #[.val (.int p0), .val (.int p1), .val (.int p2), .val (.int p3), .val (.int p4), .val (.int (1 : Int32)), .val (.ref b1_46), .val (.ref b47), .unset, .unset, .unset, .unset, .unset] [])) (fun t k => XS.astore X47.here hx rfl (hb hby at_16) rfl rfl (l' := #[.val (.int p0), .val (.int p1), .val (.int p2), .val (.int p3), .val (.int p4), .val (.int (1 : Int32)), .val (.ref b1_46), .val (.ref b47), .unset, .unset, .unset, .unset, .unset]) rfl k) ?_
    refine step (T47.setTop (mkF m 20 #[.val (.int p0), .val (.int p1), .val (.int p2), .val (.int p3), .val (.int p4), .val (.int (1 : Int32)), .val (.ref b1_46), .val (.ref b47), .unset, .unset, .unset, .unset, .unset] [(.ref b47)])) (fun t k => XS.aload X47.here hx rfl (hb hby at_18) rfl rfl k) ?_
    refine step (T47.setTop (mkF m 21 #[.val (.int p0), .val (.int p1), .val (.int p2), .val (.int p3), .val (.int p4), .val (.int (1 : Int32)), .val (.ref b1_46), .val (.ref b47), .unset, .unset, .unset, .unset, .unset] [(.int (0 : Int32)), (.ref b47)])) (fun t k => XS.iconst X47.here hx rfl (hb hby at_20) k) ?_
    refine step (T47.setTop (mkF m 23 #[.val (.int p0), .val (.int p1), .val (.int p2), .val (.int p3), .val (.int p4), .val (.int (1 : Int32)), .val (.ref b1_46), .val (.ref b47), .unset, .unset, .unset, .unset, .unset] [(.int p4), (.int (0 : Int32)), (.ref b47)])) (fun t k => XS.iload X47.here hx rfl (hb hby at_21) rfl k) ?_
    obtain ⟨cl48, Ar48, q48, S48, N48n, H48, G48⟩ := id V47
    have hin48 : ¬ ((0 : Int32) < 0 ∨ cl48.slots.size ≤ ((0 : Int32)).toNatClampNeg) := inb_of S48 ⟨by decide, by decide⟩
    obtain ⟨T48, h48, X48, e48, W48, st48⟩ := stI X47 hx hZ e47 Ar48 (j := (0 : Int32)) hin48 (g := (mkF m 23 #[.val (.int p0), .val (.int p1), .val (.int p2), .val (.int p3), .val (.int p4), .val (.int (1 : Int32)), .val (.ref b1_46), .val (.ref b47), .unset, .unset, .unset, .unset, .unset] [(.int p4), (.int (0 : Int32)), (.ref b47)])) rfl rfl (hb hby at_23)
    have N48 := Fr.snoc X48 N46 gn_b47
    have K48 : Keep h0 h48 [] := K47.wr W48 (Or.inr sz_b47)
    have V48 : Arv Z h48 b47 k47 .int (4 : Int32) [(.int p4), (.int (0 : Int32)), (.int (0 : Int32)), (.int (0 : Int32))] (.int (0 : Int32)) := Arv.set Ar48 q48 S48 N48n H48 G48 rfl W48 0 rfl (Nat.le_of_ble_eq_true rfl)
    refine step (T48.setTop (mkF m 24 #[.val (.int p0), .val (.int p1), .val (.int p2), .val (.int p3), .val (.int p4), .val (.int (1 : Int32)), .val (.ref b1_46), .val (.ref b47), .unset, .unset, .unset, .unset, .unset] [])) (fun t k => st48 t k) ?_
    refine step (T48.setTop (mkF m 26 #[.val (.int p0), .val (.int p1), .val (.int p2), .val (.int p3), .val (.int p4), .val (.int (1 : Int32)), .val (.ref b1_46), .val (.ref b47), .unset, .unset, .unset, .unset, .unset] [(.ref b47)])) (fun t k => XS.aload X48.here hx rfl (hb hby at_24) rfl rfl k) ?_
    refine step (T48.setTop (mkF m 27 #[.val (.int p0), .val (.int p1), .val (.int p2), .val (.int p3), .val (.int p4), .val (.int (1 : Int32)), .val (.ref b1_46), .val (.ref b47), .unset, .unset, .unset, .unset, .unset] [(.int (1 : Int32)), (.ref b47)])) (fun t k => XS.iconst X48.here hx rfl (hb hby at_26) k) ?_
    refine step (T48.setTop (mkF m 29 #[.val (.int p0), .val (.int p1), .val (.int p2), .val (.int p3), .val (.int p4), .val (.int (1 : Int32)), .val (.ref b1_46), .val (.ref b47), .unset, .unset, .unset, .unset, .unset] [(.int p4), (.int (1 : Int32)), (.ref b47)])) (fun t k => XS.iload X48.here hx rfl (hb hby at_27) rfl k) ?_
    refine step (T48.setTop (mkF m 30 #[.val (.int p0), .val (.int p1), .val (.int p2), .val (.int p3), .val (.int p4), .val (.int (1 : Int32)), .val (.ref b1_46), .val (.ref b47), .unset, .unset, .unset, .unset, .unset] [(.int (1 : Int32)), (.int p4), (.int (1 : Int32)), (.ref b47)])) (fun t k => XS.iconst X48.here hx rfl (hb hby at_29) k) ?_
    refine step (T48.setTop (mkF m 31 #[.val (.int p0), .val (.int p1), .val (.int p2), .val (.int p3), .val (.int p4), .val (.int (1 : Int32)), .val (.ref b1_46), .val (.ref b47), .unset, .unset, .unset, .unset, .unset] [(.int (p4 + (1 : Int32))), (.int (1 : Int32)), (.ref b47)])) (fun t k => XS.iadd X48.here hx rfl (hb hby at_30) rfl k) ?_
    obtain ⟨cl49, Ar49, q49, S49, N49n, H49, G49⟩ := id V48
    have hin49 : ¬ ((1 : Int32) < 0 ∨ cl49.slots.size ≤ ((1 : Int32)).toNatClampNeg) := inb_of S49 ⟨by decide, by decide⟩
    obtain ⟨T49, h49, X49, e49, W49, st49⟩ := stI X48 hx hZ e48 Ar49 (j := (1 : Int32)) hin49 (g := (mkF m 31 #[.val (.int p0), .val (.int p1), .val (.int p2), .val (.int p3), .val (.int p4), .val (.int (1 : Int32)), .val (.ref b1_46), .val (.ref b47), .unset, .unset, .unset, .unset, .unset] [(.int (p4 + (1 : Int32))), (.int (1 : Int32)), (.ref b47)])) rfl rfl (hb hby at_31)
    have N49 := Fr.snoc X49 N48 gn_b47
    have K49 : Keep h0 h49 [] := K48.wr W49 (Or.inr sz_b47)
    have V49 : Arv Z h49 b47 k47 .int (4 : Int32) [(.int p4), (.int (p4 + (1 : Int32))), (.int (0 : Int32)), (.int (0 : Int32))] (.int (0 : Int32)) := Arv.set Ar49 q49 S49 N49n H49 G49 rfl W49 1 rfl (Nat.le_of_ble_eq_true rfl)
    refine step (T49.setTop (mkF m 32 #[.val (.int p0), .val (.int p1), .val (.int p2), .val (.int p3), .val (.int p4), .val (.int (1 : Int32)), .val (.ref b1_46), .val (.ref b47), .unset, .unset, .unset, .unset, .unset] [])) (fun t k => st49 t k) ?_
    refine step (T49.setTop (mkF m 34 #[.val (.int p0), .val (.int p1), .val (.int p2), .val (.int p3), .val (.int p4), .val (.int (1 : Int32)), .val (.ref b1_46), .val (.ref b47), .unset, .unset, .unset, .unset, .unset] [(.ref b47)])) (fun t k => XS.aload X49.here hx rfl (hb hby at_32) rfl rfl k) ?_
    refine step (T49.setTop (mkF m 35 #[.val (.int p0), .val (.int p1), .val (.int p2), .val (.int p3), .val (.int p4), .val (.int (1 : Int32)), .val (.ref b1_46), .val (.ref b47), .unset, .unset, .unset, .unset, .unset] [(.int (2 : Int32)), (.ref b47)])) (fun t k => XS.iconst X49.here hx rfl (hb hby at_34) k) ?_
    refine step (T49.setTop (mkF m 37 #[.val (.int p0), .val (.int p1), .val (.int p2), .val (.int p3), .val (.int p4), .val (.int (1 : Int32)), .val (.ref b1_46), .val (.ref b47), .unset, .unset, .unset, .unset, .unset] [(.int p4), (.int (2 : Int32)), (.ref b47)])) (fun t k => XS.iload X49.here hx rfl (hb hby at_35) rfl k) ?_
    refine step (T49.setTop (mkF m 38 #[.val (.int p0), .val (.int p1), .val (.int p2), .val (.int p3), .val (.int p4), .val (.int (1 : Int32)), .val (.ref b1_46), .val (.ref b47), .unset, .unset, .unset, .unset, .unset] [(.int (2 : Int32)), (.int p4), (.int (2 : Int32)), (.ref b47)])) (fun t k => XS.iconst X49.here hx rfl (hb hby at_37) k) ?_
    refine step (T49.setTop (mkF m 39 #[.val (.int p0), .val (.int p1), .val (.int p2), .val (.int p3), .val (.int p4), .val (.int (1 : Int32)), .val (.ref b1_46), .val (.ref b47), .unset, .unset, .unset, .unset, .unset] [(.int (p4 + (2 : Int32))), (.int (2 : Int32)), (.ref b47)])) (fun t k => XS.iadd X49.here hx rfl (hb hby at_38) rfl k) ?_
    obtain ⟨cl50, Ar50, q50, S50, N50n, H50, G50⟩ := id V49
    have hin50 : ¬ ((2 : Int32) < 0 ∨ cl50.slots.size ≤ ((2 : Int32)).toNatClampNeg) := inb_of S50 ⟨by decide, by decide⟩
    obtain ⟨T50, h50, X50, e50, W50, st50⟩ := stI X49 hx hZ e49 Ar50 (j := (2 : Int32)) hin50 (g := (mkF m 39 #[.val (.int p0), .val (.int p1), .val (.int p2), .val (.int p3), .val (.int p4), .val (.int (1 : Int32)), .val (.ref b1_46), .val (.ref b47), .unset, .unset, .unset, .unset, .unset] [(.int (p4 + (2 : Int32))), (.int (2 : Int32)), (.ref b47)])) rfl rfl (hb hby at_39)
    have N50 := Fr.snoc X50 N49 gn_b47
    have K50 : Keep h0 h50 [] := K49.wr W50 (Or.inr sz_b47)
    have V50 : Arv Z h50 b47 k47 .int (4 : Int32) [(.int p4), (.int (p4 + (1 : Int32))), (.int (p4 + (2 : Int32))), (.int (0 : Int32))] (.int (0 : Int32)) := Arv.set Ar50 q50 S50 N50n H50 G50 rfl W50 2 rfl (Nat.le_of_ble_eq_true rfl)
    refine step (T50.setTop (mkF m 40 #[.val (.int p0), .val (.int p1), .val (.int p2), .val (.int p3), .val (.int p4), .val (.int (1 : Int32)), .val (.ref b1_46), .val (.ref b47), .unset, .unset, .unset, .unset, .unset] [])) (fun t k => st50 t k) ?_
    refine step (T50.setTop (mkF m 42 #[.val (.int p0), .val (.int p1), .val (.int p2), .val (.int p3), .val (.int p4), .val (.int (1 : Int32)), .val (.ref b1_46), .val (.ref b47), .unset, .unset, .unset, .unset, .unset] [(.ref b47)])) (fun t k => XS.aload X50.here hx rfl (hb hby at_40) rfl rfl k) ?_
    refine step (T50.setTop (mkF m 43 #[.val (.int p0), .val (.int p1), .val (.int p2), .val (.int p3), .val (.int p4), .val (.int (1 : Int32)), .val (.ref b1_46), .val (.ref b47), .unset, .unset, .unset, .unset, .unset] [(.int (3 : Int32)), (.ref b47)])) (fun t k => XS.iconst X50.here hx rfl (hb hby at_42) k) ?_
    refine step (T50.setTop (mkF m 45 #[.val (.int p0), .val (.int p1), .val (.int p2), .val (.int p3), .val (.int p4), .val (.int (1 : Int32)), .val (.ref b1_46), .val (.ref b47), .unset, .unset, .unset, .unset, .unset] [(.int p4), (.int (3 : Int32)), (.ref b47)])) (fun t k => XS.iload X50.here hx rfl (hb hby at_43) rfl k) ?_
    refine step (T50.setTop (mkF m 46 #[.val (.int p0), .val (.int p1), .val (.int p2), .val (.int p3), .val (.int p4), .val (.int (1 : Int32)), .val (.ref b1_46), .val (.ref b47), .unset, .unset, .unset, .unset, .unset] [(.int (3 : Int32)), (.int p4), (.int (3 : Int32)), (.ref b47)])) (fun t k => XS.iconst X50.here hx rfl (hb hby at_45) k) ?_
    refine step (T50.setTop (mkF m 47 #[.val (.int p0), .val (.int p1), .val (.int p2), .val (.int p3), .val (.int p4), .val (.int (1 : Int32)), .val (.ref b1_46), .val (.ref b47), .unset, .unset, .unset, .unset, .unset] [(.int (p4 + (3 : Int32))), (.int (3 : Int32)), (.ref b47)])) (fun t k => XS.iadd X50.here hx rfl (hb hby at_46) rfl k) ?_
    obtain ⟨cl51, Ar51, q51, S51, N51n, H51, G51⟩ := id V50
    have hin51 : ¬ ((3 : Int32) < 0 ∨ cl51.slots.size ≤ ((3 : Int32)).toNatClampNeg) := inb_of S51 ⟨by decide, by decide⟩
    obtain ⟨T51, h51, X51, e51, W51, st51⟩ := stI X50 hx hZ e50 Ar51 (j := (3 : Int32)) hin51 (g := (mkF m 47 #[.val (.int p0), .val (.int p1), .val (.int p2), .val (.int p3), .val (.int p4), .val (.int (1 : Int32)), .val (.ref b1_46), .val (.ref b47), .unset, .unset, .unset, .unset, .unset] [(.int (p4 + (3 : Int32))), (.int (3 : Int32)), (.ref b47)])) rfl rfl (hb hby at_47)
    have N51 := Fr.snoc X51 N50 gn_b47
    have K51 : Keep h0 h51 [] := K50.wr W51 (Or.inr sz_b47)
    have V51 : Arv Z h51 b47 k47 .int (4 : Int32) [(.int p4), (.int (p4 + (1 : Int32))), (.int (p4 + (2 : Int32))), (.int (p4 + (3 : Int32)))] (.int (0 : Int32)) := Arv.set Ar51 q51 S51 N51n H51 G51 rfl W51 3 rfl (Nat.le_of_ble_eq_true rfl)
    refine step (T51.setTop (mkF m 48 #[.val (.int p0), .val (.int p1), .val (.int p2), .val (.int p3), .val (.int p4), .val (.int (1 : Int32)), .val (.ref b1_46), .val (.ref b47), .unset, .unset, .unset, .unset, .unset] [])) (fun t k => st51 t k) ?_
    refine step (T51.setTop (mkF m 50 #[.val (.int p0), .val (.int p1), .val (.int p2), .val (.int p3), .val (.int p4), .val (.int (1 : Int32)), .val (.ref b1_46), .val (.ref b47), .unset, .unset, .unset, .unset, .unset] [(.ref b1_46)])) (fun t k => XS.aload X51.here hx rfl (hb hby at_48) rfl rfl k) ?_
    refine step (T51.setTop (mkF m 52 #[.val (.int p0), .val (.int p1), .val (.int p2), .val (.int p3), .val (.int p4), .val (.int (1 : Int32)), .val (.ref b1_46), .val (.ref b47), .unset, .unset, .unset, .unset, .unset] [(.ref b47), (.ref b1_46)])) (fun t k => XS.aload X51.here hx rfl (hb hby at_50) rfl rfl k) ?_
    have f52 := (((((q0_46.ext E47).wr W48).wr W49).wr W50).wr W51)
    have f53 := (((((q1_46.ext E47).other W48 (Or.inl ne_b1_46_b47)).other W49 (Or.inl ne_b1_46_b47)).other W50 (Or.inl ne_b1_46_b47)).other W51 (Or.inl ne_b1_46_b47))
    have f54 := (((((q2_46.ext E47).other W48 (Or.inl ne_b1_46_b47)).other W49 (Or.inl ne_b1_46_b47)).other W50 (Or.inl ne_b1_46_b47)).other W51 (Or.inl ne_b1_46_b47))
    have f55 := (((((q5_46.ext E47).other W48 (Or.inl ne_b1_46_b47)).other W49 (Or.inl ne_b1_46_b47)).other W50 (Or.inl ne_b1_46_b47)).other W51 (Or.inl ne_b1_46_b47))
    have f56 := (((((q6_46.ext E47).other W48 (Or.inl ne_b1_46_b47)).other W49 (Or.inl ne_b1_46_b47)).other W50 (Or.inl ne_b1_46_b47)).other W51 (Or.inl ne_b1_46_b47))
    obtain ⟨cq57, kq57, q57a, q57b, q57c⟩ := isOf hZ e51 f52
    obtain ⟨_, _, ⟨T57, L57, k57, n57⟩, -, X57, ⟨Lc57, hQ57, l57, y57, z57⟩, st57⟩ := X51.virtualBack hx (y := (⟨"com/example/vertex_to_service/vertextoservice/core/Choices", "writeTo", "([I)V"⟩ : MethodName)) (z := (⟨"com/example/vertex_to_service/vertextoservice/core/Choices", "writeTo", "([I)V"⟩ : MethodName)) hown (mvT hZ (hw _ (List.mem_of_getElem? (i := 25) rfl))) (mvT hZ (hw _ (List.mem_of_getElem? (i := 26) rfl))) (notFace_of_selects (args := #[]) (mvT hZ (hw _ (List.mem_of_getElem? (i := 28) rfl)))) (mvT hZ (hw _ (List.mem_of_getElem? (i := 28) rfl))) (mvT hZ (hw _ (List.mem_of_getElem? (i := 27) rfl))) (by decide) (backOf (W := 0) (rm4_30 l Z a0 hw [] b1_46 b47 p1 k47 p4 (p4 + (1 : Int32)) (p4 + (2 : Int32)) (p4 + (3 : Int32)) h51 n0 (Nat.le_trans Z0 K51.1) f52 f53 f54 f55 f56 V51 gn_b1_46 ne_b1_46_b47 gn_b47 (own_add0 p4)) hZ (hw _ (List.mem_of_getElem? (i := 29) rfl)) (hw _ (List.mem_of_getElem? (i := 2) rfl)) (by decide) (by decide)) q57a q57c (g := (mkF m 52 #[.val (.int p0), .val (.int p1), .val (.int p2), .val (.int p3), .val (.int p4), .val (.int (1 : Int32)), .val (.ref b1_46), .val (.ref b47), .unset, .unset, .unset, .unset, .unset] [(.ref b47), (.ref b1_46)])) rfl (by rw [hml]; rfl) (Steps.refl _) (argsL := [(.ref b47)]) (rest := []) (lenOf pd_1 rfl) rfl (by show 2 * 0 + _ ≤ _; exact Nat.le_of_eq rfl) (hb hby at_52) (fun _ _ => ⟨rfl, e51, (by decide : 2 + 2 ≤ _), (by decide : 10 + 20 ≤ _)⟩)
    dsimp only [Pt.U, Pt.locs, Pt.cells, Pt.slots] at X57 l57 y57 z57 st57 hQ57
    subst l57 y57 z57
    obtain ⟨h57, e57⟩ : ∃ z, T57.heap = z := ⟨_, rfl⟩
    rw [e57] at hQ57
    obtain ⟨rfl, N57q, K57q, q0_57⟩ := hQ57
    have N57 := Fr.app N51 N57q
    have K57 : Keep h0 h57 [] := K51.trans K57q (allS (Or.inr sz_b47) all0)
    refine step (T57.setTop (mkF m 55 #[.val (.int p0), .val (.int p1), .val (.int p2), .val (.int p3), .val (.int p4), .val (.int (1 : Int32)), .val (.ref b1_46), .val (.ref b47), .unset, .unset, .unset, .unset, .unset] [])) (fun t k => st57.trans k) ?_
    refine step (T57.setTop (mkF m 57 #[.val (.int p0), .val (.int p1), .val (.int p2), .val (.int p3), .val (.int p4), .val (.int (1 : Int32)), .val (.ref b1_46), .val (.ref b47), .unset, .unset, .unset, .unset, .unset] [(.ref b47)])) (fun t k => XS.aload X57.here hx rfl (hb hby at_55) rfl rfl k) ?_
    refine step (T57.setTop (mkF m 58 #[.val (.int p0), .val (.int p1), .val (.int p2), .val (.int p3), .val (.int p4), .val (.int (1 : Int32)), .val (.ref b1_46), .val (.ref b47), .unset, .unset, .unset, .unset, .unset] [(.int (0 : Int32)), (.ref b47)])) (fun t k => XS.iconst X57.here hx rfl (hb hby at_57) k) ?_
    obtain ⟨cl58, Ar58, q58, S58, N58n, H58, G58⟩ := id q0_57
    have hin58 : ¬ ((0 : Int32) < 0 ∨ cl58.slots.size ≤ ((0 : Int32)).toNatClampNeg) := inb_of S58 ⟨by decide, by decide⟩
    have hat58 : cl58.slots[((0 : Int32)).toNatClampNeg]? = some (.int p4) := H58.at hin58 rfl
    refine step (T57.setTop (mkF m 59 #[.val (.int p0), .val (.int p1), .val (.int p2), .val (.int p3), .val (.int p4), .val (.int (1 : Int32)), .val (.ref b1_46), .val (.ref b47), .unset, .unset, .unset, .unset, .unset] [(.int p4)])) (fun t k => X57.iaload hx (j := (0 : Int32)) (v := (.int p4)) (by rw [e57]; exact Ar58.1) (State.isArrayOf_alike hZ.alike Ar58.2.1) Ar58.2.2 hin58 hat58 (g := (mkF m 58 #[.val (.int p0), .val (.int p1), .val (.int p2), .val (.int p3), .val (.int p4), .val (.int (1 : Int32)), .val (.ref b1_46), .val (.ref b47), .unset, .unset, .unset, .unset, .unset] [(.int (0 : Int32)), (.ref b47)])) rfl rfl (hb hby at_58) t k) ?_
    refine step (T57.setTop (mkF m 60 #[.val (.int p0), .val (.int p1), .val (.int p2), .val (.int p3), .val (.int p4), .val (.int (1 : Int32)), .val (.ref b1_46), .val (.ref b47), .unset, .unset, .unset, .unset, .unset] [(.int (0 : Int32)), (.int p4)])) (fun t k => XS.iconst X57.here hx rfl (hb hby at_59) k) ?_
    refine step (T57.setTop (mkF m 62 #[.val (.int p0), .val (.int p1), .val (.int p2), .val (.int p3), .val (.int p4), .val (.int (1 : Int32)), .val (.ref b1_46), .val (.ref b47), .unset, .unset, .unset, .unset, .unset] [(.int (1 : Int32)), (.int (0 : Int32)), (.int p4)])) (fun t k => XS.iload X57.here hx rfl (hb hby at_60) rfl k) ?_
    refine step (T57.setTop (mkF m 63 #[.val (.int p0), .val (.int p1), .val (.int p2), .val (.int p3), .val (.int p4), .val (.int (1 : Int32)), .val (.ref b1_46), .val (.ref b47), .unset, .unset, .unset, .unset, .unset] [(.int p1), (.int (1 : Int32)), (.int (0 : Int32)), (.int p4)])) (fun t k => XS.iloadN X57.here hx rfl (hb hby at_62) rfl k) ?_
    refine step (T57.setTop (mkF m 65 #[.val (.int p0), .val (.int p1), .val (.int p2), .val (.int p3), .val (.int p4), .val (.int (1 : Int32)), .val (.ref b1_46), .val (.ref b47), .unset, .unset, .unset, .unset, .unset] [(.int p4), (.int p1), (.int (1 : Int32)), (.int (0 : Int32)), (.int p4)])) (fun t k => XS.iload X57.here hx rfl (hb hby at_63) rfl k) ?_
    obtain ⟨_, _, ⟨T59, L59, k59, n59⟩, -, X59, ⟨Lc59, hQ59, l59, y59, z59⟩, st59⟩ := Jvm.LawKit.callS X57 hx (y := (⟨"com/example/vertex_to_service/vertextoservice/core/ChoicesOfPinLaw", "expected", "(IIII)I"⟩ : MethodName)) hown (mvT hZ (hw _ (List.mem_of_getElem? (i := 96) rfl))) (mvT hZ (hw _ (List.mem_of_getElem? (i := 97) rfl))) (mvT hZ (hw _ (List.mem_of_getElem? (i := 98) rfl))) (mvT hZ (hw _ (List.mem_of_getElem? (i := 99) rfl))) (by decide) (backOf (W := 1) (rm17_32 l Z a0 hw [] p1 p4 h57 n0 (Nat.le_trans Z0 K57.1) (own_add0 p4)) hZ (hw _ (List.mem_of_getElem? (i := 99) rfl)) (hw _ (List.mem_of_getElem? (i := 98) rfl)) (by decide) (by decide)) (g := (mkF m 65 #[.val (.int p0), .val (.int p1), .val (.int p2), .val (.int p3), .val (.int p4), .val (.int (1 : Int32)), .val (.ref b1_46), .val (.ref b47), .unset, .unset, .unset, .unset, .unset] [(.int p4), (.int p1), (.int (1 : Int32)), (.int (0 : Int32)), (.int p4)])) rfl (by rw [hml]; rfl) (argsL := [(.int (0 : Int32)), (.int (1 : Int32)), (.int p1), (.int p4)]) (rest := [(.int p4)]) (lenOf pd_2 rfl) rfl (by show 2 * 0 + _ ≤ _; exact Nat.le_of_eq rfl) (hb hby at_65) (fun _ _ => ⟨rfl, e57, (by decide : 4 + 0 ≤ _), (by decide : 30 + 0 ≤ _)⟩)
    dsimp only [Pt.U, Pt.locs, Pt.cells, Pt.slots] at X59 l59 y59 z59 st59 hQ59
    subst l59 y59 z59
    obtain ⟨rfl, N59q, e59q⟩ := hQ59
    have N59 := Fr.app N57 N59q
    refine step (T59.setTop (mkF m 68 #[.val (.int p0), .val (.int p1), .val (.int p2), .val (.int p3), .val (.int p4), .val (.int (1 : Int32)), .val (.ref b1_46), .val (.ref b47), .unset, .unset, .unset, .unset, .unset] [(.int (p4 + (0 : Int32))), (.int p4)])) (fun t k => st59 t k) ?_
    have hc68_60 : p4 = (p4 + (0 : Int32)) := (own_add0 p4)
    refine step (T59.setTop (mkF m 71 #[.val (.int p0), .val (.int p1), .val (.int p2), .val (.int p3), .val (.int p4), .val (.int (1 : Int32)), .val (.ref b1_46), .val (.ref b47), .unset, .unset, .unset, .unset, .unset] [])) (fun t k => XS.icmpNo X59.here hx rfl (hb hby at_68) rfl (teq hc68_60).2 k) ?_
    refine step (T59.setTop (mkF m 73 #[.val (.int p0), .val (.int p1), .val (.int p2), .val (.int p3), .val (.int p4), .val (.int (1 : Int32)), .val (.ref b1_46), .val (.ref b47), .unset, .unset, .unset, .unset, .unset] [(.ref b47)])) (fun t k => XS.aload X59.here hx rfl (hb hby at_71) rfl rfl k) ?_
    refine step (T59.setTop (mkF m 74 #[.val (.int p0), .val (.int p1), .val (.int p2), .val (.int p3), .val (.int p4), .val (.int (1 : Int32)), .val (.ref b1_46), .val (.ref b47), .unset, .unset, .unset, .unset, .unset] [(.int (1 : Int32)), (.ref b47)])) (fun t k => XS.iconst X59.here hx rfl (hb hby at_73) k) ?_
    obtain ⟨cl61, Ar61, q61, S61, N61n, H61, G61⟩ := id q0_57
    have hin61 : ¬ ((1 : Int32) < 0 ∨ cl61.slots.size ≤ ((1 : Int32)).toNatClampNeg) := inb_of S61 ⟨by decide, by decide⟩
    have hat61 : cl61.slots[((1 : Int32)).toNatClampNeg]? = some (.int p1) := H61.at hin61 rfl
    refine step (T59.setTop (mkF m 75 #[.val (.int p0), .val (.int p1), .val (.int p2), .val (.int p3), .val (.int p4), .val (.int (1 : Int32)), .val (.ref b1_46), .val (.ref b47), .unset, .unset, .unset, .unset, .unset] [(.int p1)])) (fun t k => X59.iaload hx (j := (1 : Int32)) (v := (.int p1)) (by rw [e59q]; exact Ar61.1) (State.isArrayOf_alike hZ.alike Ar61.2.1) Ar61.2.2 hin61 hat61 (g := (mkF m 74 #[.val (.int p0), .val (.int p1), .val (.int p2), .val (.int p3), .val (.int p4), .val (.int (1 : Int32)), .val (.ref b1_46), .val (.ref b47), .unset, .unset, .unset, .unset, .unset] [(.int (1 : Int32)), (.ref b47)])) rfl rfl (hb hby at_74) t k) ?_
    refine step (T59.setTop (mkF m 76 #[.val (.int p0), .val (.int p1), .val (.int p2), .val (.int p3), .val (.int p4), .val (.int (1 : Int32)), .val (.ref b1_46), .val (.ref b47), .unset, .unset, .unset, .unset, .unset] [(.int (1 : Int32)), (.int p1)])) (fun t k => XS.iconst X59.here hx rfl (hb hby at_75) k) ?_
    refine step (T59.setTop (mkF m 78 #[.val (.int p0), .val (.int p1), .val (.int p2), .val (.int p3), .val (.int p4), .val (.int (1 : Int32)), .val (.ref b1_46), .val (.ref b47), .unset, .unset, .unset, .unset, .unset] [(.int (1 : Int32)), (.int (1 : Int32)), (.int p1)])) (fun t k => XS.iload X59.here hx rfl (hb hby at_76) rfl k) ?_
    refine step (T59.setTop (mkF m 79 #[.val (.int p0), .val (.int p1), .val (.int p2), .val (.int p3), .val (.int p4), .val (.int (1 : Int32)), .val (.ref b1_46), .val (.ref b47), .unset, .unset, .unset, .unset, .unset] [(.int p1), (.int (1 : Int32)), (.int (1 : Int32)), (.int p1)])) (fun t k => XS.iloadN X59.here hx rfl (hb hby at_78) rfl k) ?_
    refine step (T59.setTop (mkF m 81 #[.val (.int p0), .val (.int p1), .val (.int p2), .val (.int p3), .val (.int p4), .val (.int (1 : Int32)), .val (.ref b1_46), .val (.ref b47), .unset, .unset, .unset, .unset, .unset] [(.int p4), (.int p1), (.int (1 : Int32)), (.int (1 : Int32)), (.int p1)])) (fun t k => XS.iload X59.here hx rfl (hb hby at_79) rfl k) ?_
    obtain ⟨_, _, ⟨T62, L62, k62, n62⟩, -, X62, ⟨Lc62, hQ62, l62, y62, z62⟩, st62⟩ := Jvm.LawKit.callS X59 hx (y := (⟨"com/example/vertex_to_service/vertextoservice/core/ChoicesOfPinLaw", "expected", "(IIII)I"⟩ : MethodName)) hown (mvT hZ (hw _ (List.mem_of_getElem? (i := 96) rfl))) (mvT hZ (hw _ (List.mem_of_getElem? (i := 97) rfl))) (mvT hZ (hw _ (List.mem_of_getElem? (i := 98) rfl))) (mvT hZ (hw _ (List.mem_of_getElem? (i := 99) rfl))) (by decide) (backOf (W := 1) (rm17_33 l Z a0 hw [] p1 p4 h57 n0 (Nat.le_trans Z0 K57.1) (own_add0 p4)) hZ (hw _ (List.mem_of_getElem? (i := 99) rfl)) (hw _ (List.mem_of_getElem? (i := 98) rfl)) (by decide) (by decide)) (g := (mkF m 81 #[.val (.int p0), .val (.int p1), .val (.int p2), .val (.int p3), .val (.int p4), .val (.int (1 : Int32)), .val (.ref b1_46), .val (.ref b47), .unset, .unset, .unset, .unset, .unset] [(.int p4), (.int p1), (.int (1 : Int32)), (.int (1 : Int32)), (.int p1)])) rfl (by rw [hml]; rfl) (argsL := [(.int (1 : Int32)), (.int (1 : Int32)), (.int p1), (.int p4)]) (rest := [(.int p1)]) (lenOf pd_2 rfl) rfl (by show 2 * 0 + _ ≤ _; exact Nat.le_of_eq rfl) (hb hby at_81) (fun _ _ => ⟨rfl, e59q, (by decide : 4 + 0 ≤ _), (by decide : 30 + 0 ≤ _)⟩)
    dsimp only [Pt.U, Pt.locs, Pt.cells, Pt.slots] at X62 l62 y62 z62 st62 hQ62
    subst l62 y62 z62
    obtain ⟨rfl, N62q, e62q⟩ := hQ62
    have N62 := Fr.app N59 N62q
    refine step (T62.setTop (mkF m 84 #[.val (.int p0), .val (.int p1), .val (.int p2), .val (.int p3), .val (.int p4), .val (.int (1 : Int32)), .val (.ref b1_46), .val (.ref b47), .unset, .unset, .unset, .unset, .unset] [(.int p1), (.int p1)])) (fun t k => st62 t k) ?_
    refine step (T62.setTop (mkF m 87 #[.val (.int p0), .val (.int p1), .val (.int p2), .val (.int p3), .val (.int p4), .val (.int (1 : Int32)), .val (.ref b1_46), .val (.ref b47), .unset, .unset, .unset, .unset, .unset] [])) (fun t k => XS.icmpNo X62.here hx rfl (hb hby at_84) rfl (teq (rfl : p1 = p1)).2 k) ?_
    refine step (T62.setTop (mkF m 89 #[.val (.int p0), .val (.int p1), .val (.int p2), .val (.int p3), .val (.int p4), .val (.int (1 : Int32)), .val (.ref b1_46), .val (.ref b47), .unset, .unset, .unset, .unset, .unset] [(.ref b47)])) (fun t k => XS.aload X62.here hx rfl (hb hby at_87) rfl rfl k) ?_
    refine step (T62.setTop (mkF m 90 #[.val (.int p0), .val (.int p1), .val (.int p2), .val (.int p3), .val (.int p4), .val (.int (1 : Int32)), .val (.ref b1_46), .val (.ref b47), .unset, .unset, .unset, .unset, .unset] [(.int (2 : Int32)), (.ref b47)])) (fun t k => XS.iconst X62.here hx rfl (hb hby at_89) k) ?_
    obtain ⟨cl63, Ar63, q63, S63, N63n, H63, G63⟩ := id q0_57
    have hin63 : ¬ ((2 : Int32) < 0 ∨ cl63.slots.size ≤ ((2 : Int32)).toNatClampNeg) := inb_of S63 ⟨by decide, by decide⟩
    have hat63 : cl63.slots[((2 : Int32)).toNatClampNeg]? = some (.int (p4 + (2 : Int32))) := H63.at hin63 rfl
    refine step (T62.setTop (mkF m 91 #[.val (.int p0), .val (.int p1), .val (.int p2), .val (.int p3), .val (.int p4), .val (.int (1 : Int32)), .val (.ref b1_46), .val (.ref b47), .unset, .unset, .unset, .unset, .unset] [(.int (p4 + (2 : Int32)))])) (fun t k => X62.iaload hx (j := (2 : Int32)) (v := (.int (p4 + (2 : Int32)))) (by rw [e62q]; exact Ar63.1) (State.isArrayOf_alike hZ.alike Ar63.2.1) Ar63.2.2 hin63 hat63 (g := (mkF m 90 #[.val (.int p0), .val (.int p1), .val (.int p2), .val (.int p3), .val (.int p4), .val (.int (1 : Int32)), .val (.ref b1_46), .val (.ref b47), .unset, .unset, .unset, .unset, .unset] [(.int (2 : Int32)), (.ref b47)])) rfl rfl (hb hby at_90) t k) ?_
    refine step (T62.setTop (mkF m 92 #[.val (.int p0), .val (.int p1), .val (.int p2), .val (.int p3), .val (.int p4), .val (.int (1 : Int32)), .val (.ref b1_46), .val (.ref b47), .unset, .unset, .unset, .unset, .unset] [(.int (2 : Int32)), (.int (p4 + (2 : Int32)))])) (fun t k => XS.iconst X62.here hx rfl (hb hby at_91) k) ?_
    refine step (T62.setTop (mkF m 94 #[.val (.int p0), .val (.int p1), .val (.int p2), .val (.int p3), .val (.int p4), .val (.int (1 : Int32)), .val (.ref b1_46), .val (.ref b47), .unset, .unset, .unset, .unset, .unset] [(.int (1 : Int32)), (.int (2 : Int32)), (.int (p4 + (2 : Int32)))])) (fun t k => XS.iload X62.here hx rfl (hb hby at_92) rfl k) ?_
    refine step (T62.setTop (mkF m 95 #[.val (.int p0), .val (.int p1), .val (.int p2), .val (.int p3), .val (.int p4), .val (.int (1 : Int32)), .val (.ref b1_46), .val (.ref b47), .unset, .unset, .unset, .unset, .unset] [(.int p1), (.int (1 : Int32)), (.int (2 : Int32)), (.int (p4 + (2 : Int32)))])) (fun t k => XS.iloadN X62.here hx rfl (hb hby at_94) rfl k) ?_
    refine step (T62.setTop (mkF m 97 #[.val (.int p0), .val (.int p1), .val (.int p2), .val (.int p3), .val (.int p4), .val (.int (1 : Int32)), .val (.ref b1_46), .val (.ref b47), .unset, .unset, .unset, .unset, .unset] [(.int p4), (.int p1), (.int (1 : Int32)), (.int (2 : Int32)), (.int (p4 + (2 : Int32)))])) (fun t k => XS.iload X62.here hx rfl (hb hby at_95) rfl k) ?_
    obtain ⟨_, _, ⟨T64, L64, k64, n64⟩, -, X64, ⟨Lc64, hQ64, l64, y64, z64⟩, st64⟩ := Jvm.LawKit.callS X62 hx (y := (⟨"com/example/vertex_to_service/vertextoservice/core/ChoicesOfPinLaw", "expected", "(IIII)I"⟩ : MethodName)) hown (mvT hZ (hw _ (List.mem_of_getElem? (i := 96) rfl))) (mvT hZ (hw _ (List.mem_of_getElem? (i := 97) rfl))) (mvT hZ (hw _ (List.mem_of_getElem? (i := 98) rfl))) (mvT hZ (hw _ (List.mem_of_getElem? (i := 99) rfl))) (by decide) (backOf (W := 1) (rm17_34 l Z a0 hw [] p1 p4 h57 n0 (Nat.le_trans Z0 K57.1) (own_add0 p4)) hZ (hw _ (List.mem_of_getElem? (i := 99) rfl)) (hw _ (List.mem_of_getElem? (i := 98) rfl)) (by decide) (by decide)) (g := (mkF m 97 #[.val (.int p0), .val (.int p1), .val (.int p2), .val (.int p3), .val (.int p4), .val (.int (1 : Int32)), .val (.ref b1_46), .val (.ref b47), .unset, .unset, .unset, .unset, .unset] [(.int p4), (.int p1), (.int (1 : Int32)), (.int (2 : Int32)), (.int (p4 + (2 : Int32)))])) rfl (by rw [hml]; rfl) (argsL := [(.int (2 : Int32)), (.int (1 : Int32)), (.int p1), (.int p4)]) (rest := [(.int (p4 + (2 : Int32)))]) (lenOf pd_2 rfl) rfl (by show 2 * 0 + _ ≤ _; exact Nat.le_of_eq rfl) (hb hby at_97) (fun _ _ => ⟨rfl, e62q, (by decide : 4 + 0 ≤ _), (by decide : 30 + 0 ≤ _)⟩)
    dsimp only [Pt.U, Pt.locs, Pt.cells, Pt.slots] at X64 l64 y64 z64 st64 hQ64
    subst l64 y64 z64
    obtain ⟨rfl, N64q, e64q⟩ := hQ64
    have N64 := Fr.app N62 N64q
    refine step (T64.setTop (mkF m 100 #[.val (.int p0), .val (.int p1), .val (.int p2), .val (.int p3), .val (.int p4), .val (.int (1 : Int32)), .val (.ref b1_46), .val (.ref b47), .unset, .unset, .unset, .unset, .unset] [(.int (p4 + (2 : Int32))), (.int (p4 + (2 : Int32)))])) (fun t k => st64 t k) ?_
    refine step (T64.setTop (mkF m 103 #[.val (.int p0), .val (.int p1), .val (.int p2), .val (.int p3), .val (.int p4), .val (.int (1 : Int32)), .val (.ref b1_46), .val (.ref b47), .unset, .unset, .unset, .unset, .unset] [])) (fun t k => XS.icmpNo X64.here hx rfl (hb hby at_100) rfl (teq (rfl : (p4 + (2 : Int32)) = (p4 + (2 : Int32)))).2 k) ?_
    refine step (T64.setTop (mkF m 105 #[.val (.int p0), .val (.int p1), .val (.int p2), .val (.int p3), .val (.int p4), .val (.int (1 : Int32)), .val (.ref b1_46), .val (.ref b47), .unset, .unset, .unset, .unset, .unset] [(.ref b47)])) (fun t k => XS.aload X64.here hx rfl (hb hby at_103) rfl rfl k) ?_
    refine step (T64.setTop (mkF m 106 #[.val (.int p0), .val (.int p1), .val (.int p2), .val (.int p3), .val (.int p4), .val (.int (1 : Int32)), .val (.ref b1_46), .val (.ref b47), .unset, .unset, .unset, .unset, .unset] [(.int (3 : Int32)), (.ref b47)])) (fun t k => XS.iconst X64.here hx rfl (hb hby at_105) k) ?_
    obtain ⟨cl65, Ar65, q65, S65, N65n, H65, G65⟩ := id q0_57
    have hin65 : ¬ ((3 : Int32) < 0 ∨ cl65.slots.size ≤ ((3 : Int32)).toNatClampNeg) := inb_of S65 ⟨by decide, by decide⟩
    have hat65 : cl65.slots[((3 : Int32)).toNatClampNeg]? = some (.int (p4 + (3 : Int32))) := H65.at hin65 rfl
    refine step (T64.setTop (mkF m 107 #[.val (.int p0), .val (.int p1), .val (.int p2), .val (.int p3), .val (.int p4), .val (.int (1 : Int32)), .val (.ref b1_46), .val (.ref b47), .unset, .unset, .unset, .unset, .unset] [(.int (p4 + (3 : Int32)))])) (fun t k => X64.iaload hx (j := (3 : Int32)) (v := (.int (p4 + (3 : Int32)))) (by rw [e64q]; exact Ar65.1) (State.isArrayOf_alike hZ.alike Ar65.2.1) Ar65.2.2 hin65 hat65 (g := (mkF m 106 #[.val (.int p0), .val (.int p1), .val (.int p2), .val (.int p3), .val (.int p4), .val (.int (1 : Int32)), .val (.ref b1_46), .val (.ref b47), .unset, .unset, .unset, .unset, .unset] [(.int (3 : Int32)), (.ref b47)])) rfl rfl (hb hby at_106) t k) ?_
    refine step (T64.setTop (mkF m 108 #[.val (.int p0), .val (.int p1), .val (.int p2), .val (.int p3), .val (.int p4), .val (.int (1 : Int32)), .val (.ref b1_46), .val (.ref b47), .unset, .unset, .unset, .unset, .unset] [(.int (3 : Int32)), (.int (p4 + (3 : Int32)))])) (fun t k => XS.iconst X64.here hx rfl (hb hby at_107) k) ?_
    refine step (T64.setTop (mkF m 110 #[.val (.int p0), .val (.int p1), .val (.int p2), .val (.int p3), .val (.int p4), .val (.int (1 : Int32)), .val (.ref b1_46), .val (.ref b47), .unset, .unset, .unset, .unset, .unset] [(.int (1 : Int32)), (.int (3 : Int32)), (.int (p4 + (3 : Int32)))])) (fun t k => XS.iload X64.here hx rfl (hb hby at_108) rfl k) ?_
    refine step (T64.setTop (mkF m 111 #[.val (.int p0), .val (.int p1), .val (.int p2), .val (.int p3), .val (.int p4), .val (.int (1 : Int32)), .val (.ref b1_46), .val (.ref b47), .unset, .unset, .unset, .unset, .unset] [(.int p1), (.int (1 : Int32)), (.int (3 : Int32)), (.int (p4 + (3 : Int32)))])) (fun t k => XS.iloadN X64.here hx rfl (hb hby at_110) rfl k) ?_
    refine step (T64.setTop (mkF m 113 #[.val (.int p0), .val (.int p1), .val (.int p2), .val (.int p3), .val (.int p4), .val (.int (1 : Int32)), .val (.ref b1_46), .val (.ref b47), .unset, .unset, .unset, .unset, .unset] [(.int p4), (.int p1), (.int (1 : Int32)), (.int (3 : Int32)), (.int (p4 + (3 : Int32)))])) (fun t k => XS.iload X64.here hx rfl (hb hby at_111) rfl k) ?_
    obtain ⟨_, _, ⟨T66, L66, k66, n66⟩, -, X66, ⟨Lc66, hQ66, l66, y66, z66⟩, st66⟩ := Jvm.LawKit.callS X64 hx (y := (⟨"com/example/vertex_to_service/vertextoservice/core/ChoicesOfPinLaw", "expected", "(IIII)I"⟩ : MethodName)) hown (mvT hZ (hw _ (List.mem_of_getElem? (i := 96) rfl))) (mvT hZ (hw _ (List.mem_of_getElem? (i := 97) rfl))) (mvT hZ (hw _ (List.mem_of_getElem? (i := 98) rfl))) (mvT hZ (hw _ (List.mem_of_getElem? (i := 99) rfl))) (by decide) (backOf (W := 1) (rm17_35 l Z a0 hw [] p1 p4 h57 n0 (Nat.le_trans Z0 K57.1) (own_add0 p4)) hZ (hw _ (List.mem_of_getElem? (i := 99) rfl)) (hw _ (List.mem_of_getElem? (i := 98) rfl)) (by decide) (by decide)) (g := (mkF m 113 #[.val (.int p0), .val (.int p1), .val (.int p2), .val (.int p3), .val (.int p4), .val (.int (1 : Int32)), .val (.ref b1_46), .val (.ref b47), .unset, .unset, .unset, .unset, .unset] [(.int p4), (.int p1), (.int (1 : Int32)), (.int (3 : Int32)), (.int (p4 + (3 : Int32)))])) rfl (by rw [hml]; rfl) (argsL := [(.int (3 : Int32)), (.int (1 : Int32)), (.int p1), (.int p4)]) (rest := [(.int (p4 + (3 : Int32)))]) (lenOf pd_2 rfl) rfl (by show 2 * 0 + _ ≤ _; exact Nat.le_of_eq rfl) (hb hby at_113) (fun _ _ => ⟨rfl, e64q, (by decide : 4 + 0 ≤ _), (by decide : 30 + 0 ≤ _)⟩)
    dsimp only [Pt.U, Pt.locs, Pt.cells, Pt.slots] at X66 l66 y66 z66 st66 hQ66
    subst l66 y66 z66
    obtain ⟨rfl, N66q, e66q⟩ := hQ66
    have N66 := Fr.app N64 N66q
    refine step (T66.setTop (mkF m 116 #[.val (.int p0), .val (.int p1), .val (.int p2), .val (.int p3), .val (.int p4), .val (.int (1 : Int32)), .val (.ref b1_46), .val (.ref b47), .unset, .unset, .unset, .unset, .unset] [(.int (p4 + (3 : Int32))), (.int (p4 + (3 : Int32)))])) (fun t k => st66 t k) ?_
    refine step (T66.setTop (mkF m 119 #[.val (.int p0), .val (.int p1), .val (.int p2), .val (.int p3), .val (.int p4), .val (.int (1 : Int32)), .val (.ref b1_46), .val (.ref b47), .unset, .unset, .unset, .unset, .unset] [])) (fun t k => XS.icmpNo X66.here hx rfl (hb hby at_116) rfl (teq (rfl : (p4 + (3 : Int32)) = (p4 + (3 : Int32)))).2 k) ?_
    refine step (T66.setTop (mkF m 120 #[.val (.int p0), .val (.int p1), .val (.int p2), .val (.int p3), .val (.int p4), .val (.int (1 : Int32)), .val (.ref b1_46), .val (.ref b47), .unset, .unset, .unset, .unset, .unset] [(.int (1 : Int32))])) (fun t k => XS.iconst X66.here hx rfl (hb hby at_119) k) ?_
    refine step (T66.setTop (mkF m 124 #[.val (.int p0), .val (.int p1), .val (.int p2), .val (.int p3), .val (.int p4), .val (.int (1 : Int32)), .val (.ref b1_46), .val (.ref b47), .unset, .unset, .unset, .unset, .unset] [(.int (1 : Int32))])) (fun t k => XS.goto X66.here hx rfl (pc0 := 120) (pc' := 124) rfl (hb hby at_120) (by decide) (by decide) k) ?_
    refine step (T66.setTop (mkF m 126 #[.val (.int p0), .val (.int p1), .val (.int p2), .val (.int p3), .val (.int p4), .val (.int (1 : Int32)), .val (.ref b1_46), .val (.ref b47), .val (.int (1 : Int32)), .unset, .unset, .unset, .unset] [])) (fun t k => XS.istore X66.here hx rfl (hb hby at_124) rfl (l' := #[.val (.int p0), .val (.int p1), .val (.int p2), .val (.int p3), .val (.int p4), .val (.int (1 : Int32)), .val (.ref b1_46), .val (.ref b47), .val (.int (1 : Int32)), .unset, .unset, .unset, .unset]) rfl k) ?_
    refine step (T66.setTop (mkF m 127 #[.val (.int p0), .val (.int p1), .val (.int p2), .val (.int p3), .val (.int p4), .val (.int (1 : Int32)), .val (.ref b1_46), .val (.ref b47), .val (.int (1 : Int32)), .unset, .unset, .unset, .unset] [(.int p0)])) (fun t k => XS.iloadN X66.here hx rfl (hb hby at_126) rfl k) ?_
    refine step (T66.setTop (mkF m 129 #[.val (.int p0), .val (.int p1), .val (.int p2), .val (.int p3), .val (.int p4), .val (.int (1 : Int32)), .val (.ref b1_46), .val (.ref b47), .val (.int (1 : Int32)), .unset, .unset, .unset, .unset] [(.int (2147483647 : Int32)), (.int p0)])) (fun t k => X66.ldcInt hx hown (mvT hZ (hw _ (List.mem_of_getElem? (i := 100) rfl))) (g := (mkF m 127 #[.val (.int p0), .val (.int p1), .val (.int p2), .val (.int p3), .val (.int p4), .val (.int (1 : Int32)), .val (.ref b1_46), .val (.ref b47), .val (.int (1 : Int32)), .unset, .unset, .unset, .unset] [(.int p0)])) rfl (hb hby at_127) t k) ?_
    refine step (T66.setTop (mkF m 130 #[.val (.int p0), .val (.int p1), .val (.int p2), .val (.int p3), .val (.int p4), .val (.int (1 : Int32)), .val (.ref b1_46), .val (.ref b47), .val (.int (1 : Int32)), .unset, .unset, .unset, .unset] [(.int (p0 &&& (2147483647 : Int32)))])) (fun t k => XS.iand X66.here hx rfl (hb hby at_129) rfl k) ?_
    generalize hpv : (p0 &&& (2147483647 : Int32)) = pv
    have nn_pv := own_nn _ _ hpv
    refine step (T66.setTop (mkF m 132 #[.val (.int p0), .val (.int p1), .val (.int p2), .val (.int p3), .val (.int p4), .val (.int (1 : Int32)), .val (.ref b1_46), .val (.ref b47), .val (.int (1 : Int32)), .val (.int pv), .unset, .unset, .unset] [])) (fun t k => XS.istore X66.here hx rfl (hb hby at_130) rfl (l' := #[.val (.int p0), .val (.int p1), .val (.int p2), .val (.int p3), .val (.int p4), .val (.int (1 : Int32)), .val (.ref b1_46), .val (.ref b47), .val (.int (1 : Int32)), .val (.int pv), .unset, .unset, .unset]) rfl k) ?_
    refine step (T66.setTop (mkF m 133 #[.val (.int p0), .val (.int p1), .val (.int p2), .val (.int p3), .val (.int p4), .val (.int (1 : Int32)), .val (.ref b1_46), .val (.ref b47), .val (.int (1 : Int32)), .val (.int pv), .unset, .unset, .unset] [(.int p2)])) (fun t k => XS.iloadN X66.here hx rfl (hb hby at_132) rfl k) ?_
    refine step (T66.setTop (mkF m 135 #[.val (.int p0), .val (.int p1), .val (.int p2), .val (.int p3), .val (.int p4), .val (.int (1 : Int32)), .val (.ref b1_46), .val (.ref b47), .val (.int (1 : Int32)), .val (.int pv), .unset, .unset, .unset] [(.int (2147483647 : Int32)), (.int p2)])) (fun t k => X66.ldcInt hx hown (mvT hZ (hw _ (List.mem_of_getElem? (i := 100) rfl))) (g := (mkF m 133 #[.val (.int p0), .val (.int p1), .val (.int p2), .val (.int p3), .val (.int p4), .val (.int (1 : Int32)), .val (.ref b1_46), .val (.ref b47), .val (.int (1 : Int32)), .val (.int pv), .unset, .unset, .unset] [(.int p2)])) rfl (hb hby at_133) t k) ?_
    refine step (T66.setTop (mkF m 136 #[.val (.int p0), .val (.int p1), .val (.int p2), .val (.int p3), .val (.int p4), .val (.int (1 : Int32)), .val (.ref b1_46), .val (.ref b47), .val (.int (1 : Int32)), .val (.int pv), .unset, .unset, .unset] [(.int (p2 &&& (2147483647 : Int32)))])) (fun t k => XS.iand X66.here hx rfl (hb hby at_135) rfl k) ?_
    generalize hqv : (p2 &&& (2147483647 : Int32)) = qv
    have nn_qv := own_nn _ _ hqv
    refine step (T66.setTop (mkF m 138 #[.val (.int p0), .val (.int p1), .val (.int p2), .val (.int p3), .val (.int p4), .val (.int (1 : Int32)), .val (.ref b1_46), .val (.ref b47), .val (.int (1 : Int32)), .val (.int pv), .val (.int qv), .unset, .unset] [])) (fun t k => XS.istore X66.here hx rfl (hb hby at_136) rfl (l' := #[.val (.int p0), .val (.int p1), .val (.int p2), .val (.int p3), .val (.int p4), .val (.int (1 : Int32)), .val (.ref b1_46), .val (.ref b47), .val (.int (1 : Int32)), .val (.int pv), .val (.int qv), .unset, .unset]) rfl k) ?_
    refine step (T66.setTop (mkF m 140 #[.val (.int p0), .val (.int p1), .val (.int p2), .val (.int p3), .val (.int p4), .val (.int (1 : Int32)), .val (.ref b1_46), .val (.ref b47), .val (.int (1 : Int32)), .val (.int pv), .val (.int qv), .unset, .unset] [(.int pv)])) (fun t k => XS.iload X66.here hx rfl (hb hby at_138) rfl k) ?_
    refine step (T66.setTop (mkF m 141 #[.val (.int p0), .val (.int p1), .val (.int p2), .val (.int p3), .val (.int p4), .val (.int (1 : Int32)), .val (.ref b1_46), .val (.ref b47), .val (.int (1 : Int32)), .val (.int pv), .val (.int qv), .unset, .unset] [(.int p1), (.int pv)])) (fun t k => XS.iloadN X66.here hx rfl (hb hby at_140) rfl k) ?_
    obtain ⟨_, _, ⟨T67, L67, k67, n67⟩, -, X67, ⟨Lc67, hQ67, l67, y67, z67⟩, st67⟩ := Jvm.LawKit.callS X66 hx (y := (⟨"com/example/vertex_to_service/vertextoservice/core/Choices", "of", "(II)Lcom/example/vertex_to_service/vertextoservice/core/Choices;"⟩ : MethodName)) hown (mvT hZ (hw _ (List.mem_of_getElem? (i := 0) rfl))) (mvT hZ (hw _ (List.mem_of_getElem? (i := 1) rfl))) (mvT hZ (hw _ (List.mem_of_getElem? (i := 2) rfl))) (mvT hZ (hw _ (List.mem_of_getElem? (i := 3) rfl))) (by decide) (backOf (W := 0) (rm1_21 l Z a0 hw [] pv p1 h57 n0 (Nat.le_trans Z0 K57.1) nn_pv) hZ (hw _ (List.mem_of_getElem? (i := 3) rfl)) (hw _ (List.mem_of_getElem? (i := 2) rfl)) (by decide) (by decide)) (g := (mkF m 141 #[.val (.int p0), .val (.int p1), .val (.int p2), .val (.int p3), .val (.int p4), .val (.int (1 : Int32)), .val (.ref b1_46), .val (.ref b47), .val (.int (1 : Int32)), .val (.int pv), .val (.int qv), .unset, .unset] [(.int p1), (.int pv)])) rfl (by rw [hml]; rfl) (argsL := [(.int pv), (.int p1)]) (rest := []) (lenOf pd_0 rfl) rfl (by show 2 * 0 + _ ≤ _; exact Nat.le_of_eq rfl) (hb hby at_141) (fun _ _ => ⟨rfl, e66q, (by decide : 4 + 1 ≤ _), (by decide : 30 + 6 ≤ _)⟩)
    dsimp only [Pt.U, Pt.locs, Pt.cells, Pt.slots] at X67 l67 y67 z67 st67 hQ67
    subst l67 y67 z67
    obtain ⟨h67, e67⟩ : ∃ z, T67.heap = z := ⟨_, rfl⟩
    rw [e67] at hQ67
    obtain ⟨b1_67, rfl, N67q, K67q, sz_b1_67, q0_67, q1_67, q2_67, q3_67, q4_67, q5_67, q6_67⟩ := hQ67
    have N67 := Fr.app N66 N67q
    have f68 := (f52.keep K57q)
    have lt67_b1_46 := f68.lt
    have lt67_b47 := q0_57.lt
    have ne_b1_46_b1_67 : b1_46 ≠ b1_67 := Nat.ne_of_lt (Nat.lt_of_lt_of_le lt67_b1_46 sz_b1_67)
    have ne_b47_b1_67 : b47 ≠ b1_67 := Nat.ne_of_lt (Nat.lt_of_lt_of_le lt67_b47 sz_b1_67)
    have gn_b1_67 : n0 ≤ b1_67 := Nat.le_trans (Nat.le_trans Z0 K57.1) sz_b1_67
    have sz_b1_67' := Nat.le_trans K57.1 sz_b1_67
    replace sz_b1_67 := sz_b1_67'
    have K67 : Keep h0 h67 [] := K57.trans K67q all0
    refine step (T67.setTop (mkF m 144 #[.val (.int p0), .val (.int p1), .val (.int p2), .val (.int p3), .val (.int p4), .val (.int (1 : Int32)), .val (.ref b1_46), .val (.ref b47), .val (.int (1 : Int32)), .val (.int pv), .val (.int qv), .unset, .unset] [(.ref b1_67)])) (fun t k => st67 t k) ?_
    refine step (T67.setTop (mkF m 146 #[.val (.int p0), .val (.int p1), .val (.int p2), .val (.int p3), .val (.int p4), .val (.int (1 : Int32)), .val (.ref b1_46), .val (.ref b47), .val (.int (1 : Int32)), .val (.int pv), .val (.int qv), .val (.ref b1_67), .unset] [])) (fun t k => XS.astore X67.here hx rfl (hb hby at_144) rfl rfl (l' := #[.val (.int p0), .val (.int p1), .val (.int p2), .val (.int p3), .val (.int p4), .val (.int (1 : Int32)), .val (.ref b1_46), .val (.ref b47), .val (.int (1 : Int32)), .val (.int pv), .val (.int qv), .val (.ref b1_67), .unset]) rfl k) ?_
    refine step (T67.setTop (mkF m 148 #[.val (.int p0), .val (.int p1), .val (.int p2), .val (.int p3), .val (.int p4), .val (.int (1 : Int32)), .val (.ref b1_46), .val (.ref b47), .val (.int (1 : Int32)), .val (.int pv), .val (.int qv), .val (.ref b1_67), .unset] [(.int qv)])) (fun t k => XS.iload X67.here hx rfl (hb hby at_146) rfl k) ?_
    refine step (T67.setTop (mkF m 149 #[.val (.int p0), .val (.int p1), .val (.int p2), .val (.int p3), .val (.int p4), .val (.int (1 : Int32)), .val (.ref b1_46), .val (.ref b47), .val (.int (1 : Int32)), .val (.int pv), .val (.int qv), .val (.ref b1_67), .unset] [(.int p3), (.int qv)])) (fun t k => XS.iloadN X67.here hx rfl (hb hby at_148) rfl k) ?_
    obtain ⟨_, _, ⟨T69, L69, k69, n69⟩, -, X69, ⟨Lc69, hQ69, l69, y69, z69⟩, st69⟩ := Jvm.LawKit.callS X67 hx (y := (⟨"com/example/vertex_to_service/vertextoservice/core/Choices", "of", "(II)Lcom/example/vertex_to_service/vertextoservice/core/Choices;"⟩ : MethodName)) hown (mvT hZ (hw _ (List.mem_of_getElem? (i := 0) rfl))) (mvT hZ (hw _ (List.mem_of_getElem? (i := 1) rfl))) (mvT hZ (hw _ (List.mem_of_getElem? (i := 2) rfl))) (mvT hZ (hw _ (List.mem_of_getElem? (i := 3) rfl))) (by decide) (backOf (W := 0) (rm1_21 l Z a0 hw [] qv p3 h67 n0 (Nat.le_trans Z0 K67.1) nn_qv) hZ (hw _ (List.mem_of_getElem? (i := 3) rfl)) (hw _ (List.mem_of_getElem? (i := 2) rfl)) (by decide) (by decide)) (g := (mkF m 149 #[.val (.int p0), .val (.int p1), .val (.int p2), .val (.int p3), .val (.int p4), .val (.int (1 : Int32)), .val (.ref b1_46), .val (.ref b47), .val (.int (1 : Int32)), .val (.int pv), .val (.int qv), .val (.ref b1_67), .unset] [(.int p3), (.int qv)])) rfl (by rw [hml]; rfl) (argsL := [(.int qv), (.int p3)]) (rest := []) (lenOf pd_0 rfl) rfl (by show 2 * 0 + _ ≤ _; exact Nat.le_of_eq rfl) (hb hby at_149) (fun _ _ => ⟨rfl, e67, (by decide : 5 + 1 ≤ _), (by decide : 36 + 6 ≤ _)⟩)
    dsimp only [Pt.U, Pt.locs, Pt.cells, Pt.slots] at X69 l69 y69 z69 st69 hQ69
    subst l69 y69 z69
    obtain ⟨h69, e69⟩ : ∃ z, T69.heap = z := ⟨_, rfl⟩
    rw [e69] at hQ69
    obtain ⟨b1_69, rfl, N69q, K69q, sz_b1_69, q0_69, q1_69, q2_69, q3_69, q4_69, q5_69, q6_69⟩ := hQ69
    have N69 := Fr.app N67 N69q
    have f70 := (f68.keep K67q)
    have lt69_b1_46 := f70.lt
    have f71 := (q0_57.keep K67q nin0)
    have lt69_b47 := f71.lt
    have lt69_b1_67 := q0_67.lt
    have ne_b1_46_b1_69 : b1_46 ≠ b1_69 := Nat.ne_of_lt (Nat.lt_of_lt_of_le lt69_b1_46 sz_b1_69)
    have ne_b47_b1_69 : b47 ≠ b1_69 := Nat.ne_of_lt (Nat.lt_of_lt_of_le lt69_b47 sz_b1_69)
    have ne_b1_67_b1_69 : b1_67 ≠ b1_69 := Nat.ne_of_lt (Nat.lt_of_lt_of_le lt69_b1_67 sz_b1_69)
    have gn_b1_69 : n0 ≤ b1_69 := Nat.le_trans (Nat.le_trans Z0 K67.1) sz_b1_69
    have sz_b1_69' := Nat.le_trans K67.1 sz_b1_69
    replace sz_b1_69 := sz_b1_69'
    have K69 : Keep h0 h69 [] := K67.trans K69q all0
    refine step (T69.setTop (mkF m 152 #[.val (.int p0), .val (.int p1), .val (.int p2), .val (.int p3), .val (.int p4), .val (.int (1 : Int32)), .val (.ref b1_46), .val (.ref b47), .val (.int (1 : Int32)), .val (.int pv), .val (.int qv), .val (.ref b1_67), .unset] [(.ref b1_69)])) (fun t k => st69 t k) ?_
    refine step (T69.setTop (mkF m 154 #[.val (.int p0), .val (.int p1), .val (.int p2), .val (.int p3), .val (.int p4), .val (.int (1 : Int32)), .val (.ref b1_46), .val (.ref b47), .val (.int (1 : Int32)), .val (.int pv), .val (.int qv), .val (.ref b1_67), .val (.ref b1_69)] [])) (fun t k => XS.astore X69.here hx rfl (hb hby at_152) rfl rfl (l' := #[.val (.int p0), .val (.int p1), .val (.int p2), .val (.int p3), .val (.int p4), .val (.int (1 : Int32)), .val (.ref b1_46), .val (.ref b47), .val (.int (1 : Int32)), .val (.int pv), .val (.int qv), .val (.ref b1_67), .val (.ref b1_69)]) rfl k) ?_
    refine step (T69.setTop (mkF m 156 #[.val (.int p0), .val (.int p1), .val (.int p2), .val (.int p3), .val (.int p4), .val (.int (1 : Int32)), .val (.ref b1_46), .val (.ref b47), .val (.int (1 : Int32)), .val (.int pv), .val (.int qv), .val (.ref b1_67), .val (.ref b1_69)] [(.int (1 : Int32))])) (fun t k => XS.iload X69.here hx rfl (hb hby at_154) rfl k) ?_
    refine step (T69.setTop (mkF m 159 #[.val (.int p0), .val (.int p1), .val (.int p2), .val (.int p3), .val (.int p4), .val (.int (1 : Int32)), .val (.ref b1_46), .val (.ref b47), .val (.int (1 : Int32)), .val (.int pv), .val (.int qv), .val (.ref b1_67), .val (.ref b1_69)] [])) (fun t k => XS.ifNo X69.here hx rfl (hb hby at_156) rfl ((if0 _ _).trans (feq (by decide : ¬ ((1 : Int32) = (0 : Int32)))).1) k) ?_
    refine step (T69.setTop (mkF m 161 #[.val (.int p0), .val (.int p1), .val (.int p2), .val (.int p3), .val (.int p4), .val (.int (1 : Int32)), .val (.ref b1_46), .val (.ref b47), .val (.int (1 : Int32)), .val (.int pv), .val (.int qv), .val (.ref b1_67), .val (.ref b1_69)] [(.ref b1_67)])) (fun t k => XS.aload X69.here hx rfl (hb hby at_159) rfl rfl k) ?_
    refine step (T69.setTop (mkF m 163 #[.val (.int p0), .val (.int p1), .val (.int p2), .val (.int p3), .val (.int p4), .val (.int (1 : Int32)), .val (.ref b1_46), .val (.ref b47), .val (.int (1 : Int32)), .val (.int pv), .val (.int qv), .val (.ref b1_67), .val (.ref b1_69)] [(.ref b1_69), (.ref b1_67)])) (fun t k => XS.aload X69.here hx rfl (hb hby at_161) rfl rfl k) ?_
    have f72 := (q0_67.keep K69q)
    have f73 := (q3_67.keep K69q nin0)
    have f74 := (q4_67.keep K69q nin0)
    obtain ⟨cq75, kq75, q75a, q75b, q75c⟩ := isOf hZ e69 f72
    obtain ⟨_, _, ⟨T75, L75, k75, n75⟩, -, X75, ⟨Lc75, hQ75, l75, y75, z75⟩, st75⟩ := X69.virtualBack hx (y := (⟨"com/example/vertex_to_service/vertextoservice/core/Choices", "before", "(Lcom/example/vertex_to_service/vertextoservice/core/Choices;)Z"⟩ : MethodName)) (z := (⟨"com/example/vertex_to_service/vertextoservice/core/Choices", "before", "(Lcom/example/vertex_to_service/vertextoservice/core/Choices;)Z"⟩ : MethodName)) hown (mvT hZ (hw _ (List.mem_of_getElem? (i := 101) rfl))) (mvT hZ (hw _ (List.mem_of_getElem? (i := 102) rfl))) (notFace_of_selects (args := #[]) (mvT hZ (hw _ (List.mem_of_getElem? (i := 104) rfl)))) (mvT hZ (hw _ (List.mem_of_getElem? (i := 104) rfl))) (mvT hZ (hw _ (List.mem_of_getElem? (i := 103) rfl))) (by decide) (backOf (W := 0) (rm18_23 l Z a0 hw [] b1_67 b1_69 pv qv h69 n0 (Nat.le_trans Z0 K69.1) f72 f73 f74 q0_69 q3_69 q4_69 gn_b1_67 ne_b1_67_b1_69 gn_b1_69 nn_pv nn_qv) hZ (hw _ (List.mem_of_getElem? (i := 105) rfl)) (hw _ (List.mem_of_getElem? (i := 2) rfl)) (by decide) (by decide)) q75a q75c (g := (mkF m 163 #[.val (.int p0), .val (.int p1), .val (.int p2), .val (.int p3), .val (.int p4), .val (.int (1 : Int32)), .val (.ref b1_46), .val (.ref b47), .val (.int (1 : Int32)), .val (.int pv), .val (.int qv), .val (.ref b1_67), .val (.ref b1_69)] [(.ref b1_69), (.ref b1_67)])) rfl (by rw [hml]; rfl) (Steps.refl _) (argsL := [(.ref b1_69)]) (rest := []) (lenOf pd_3 rfl) rfl (by show 2 * 0 + _ ≤ _; exact Nat.le_of_eq rfl) (hb hby at_163) (fun _ _ => ⟨rfl, e69, (by decide : 6 + 0 ≤ _), (by decide : 42 + 0 ≤ _)⟩)
    dsimp only [Pt.U, Pt.locs, Pt.cells, Pt.slots] at X75 l75 y75 z75 st75 hQ75
    subst l75 y75 z75
    obtain ⟨z30_7_75, rfl, N75q, e75q, hz30_7_75⟩ := hQ75
    have N75 := Fr.app N69 N75q
    refine step (T75.setTop (mkF m 166 #[.val (.int p0), .val (.int p1), .val (.int p2), .val (.int p3), .val (.int p4), .val (.int (1 : Int32)), .val (.ref b1_46), .val (.ref b47), .val (.int (1 : Int32)), .val (.int pv), .val (.int qv), .val (.ref b1_67), .val (.ref b1_69)] [(.int z30_7_75)])) (fun t k => st75.trans k) ?_
    refine step (T75.setTop (mkF m 168 #[.val (.int p0), .val (.int p1), .val (.int p2), .val (.int p3), .val (.int p4), .val (.int (1 : Int32)), .val (.ref b1_46), .val (.ref b47), .val (.int (1 : Int32)), .val (.int pv), .val (.int qv), .val (.ref b1_67), .val (.ref b1_69)] [(.int pv), (.int z30_7_75)])) (fun t k => XS.iload X75.here hx rfl (hb hby at_166) rfl k) ?_
    refine step (T75.setTop (mkF m 170 #[.val (.int p0), .val (.int p1), .val (.int p2), .val (.int p3), .val (.int p4), .val (.int (1 : Int32)), .val (.ref b1_46), .val (.ref b47), .val (.int (1 : Int32)), .val (.int pv), .val (.int qv), .val (.ref b1_67), .val (.ref b1_69)] [(.int qv), (.int pv), (.int z30_7_75)])) (fun t k => XS.iload X75.here hx rfl (hb hby at_168) rfl k) ?_
    suffices J178_77 : ∀ (z178_76 : Int32), z178_76 = (if pv < qv then (1 : Int32) else (0 : Int32)) → G (T75.setTop (mkF m 178 #[.val (.int p0), .val (.int p1), .val (.int p2), .val (.int p3), .val (.int p4), .val (.int (1 : Int32)), .val (.ref b1_46), .val (.ref b47), .val (.int (1 : Int32)), .val (.int pv), .val (.int qv), .val (.ref b1_67), .val (.ref b1_69)] [(.int z178_76), (.int z30_7_75)])) by
      by_cases hc170_78 : pv < qv
      · -- 170 True
        refine step (T75.setTop (mkF m 173 #[.val (.int p0), .val (.int p1), .val (.int p2), .val (.int p3), .val (.int p4), .val (.int (1 : Int32)), .val (.ref b1_46), .val (.ref b47), .val (.int (1 : Int32)), .val (.int pv), .val (.int qv), .val (.ref b1_67), .val (.ref b1_69)] [(.int z30_7_75)])) (fun t k => XS.icmpNo X75.here hx rfl (hb hby at_170) rfl (tlt hc170_78).2.1 k) ?_
        refine step (T75.setTop (mkF m 174 #[.val (.int p0), .val (.int p1), .val (.int p2), .val (.int p3), .val (.int p4), .val (.int (1 : Int32)), .val (.ref b1_46), .val (.ref b47), .val (.int (1 : Int32)), .val (.int pv), .val (.int qv), .val (.ref b1_67), .val (.ref b1_69)] [(.int (1 : Int32)), (.int z30_7_75)])) (fun t k => XS.iconst X75.here hx rfl (hb hby at_173) k) ?_
        refine step (T75.setTop (mkF m 178 #[.val (.int p0), .val (.int p1), .val (.int p2), .val (.int p3), .val (.int p4), .val (.int (1 : Int32)), .val (.ref b1_46), .val (.ref b47), .val (.int (1 : Int32)), .val (.int pv), .val (.int qv), .val (.ref b1_67), .val (.ref b1_69)] [(.int (1 : Int32)), (.int z30_7_75)])) (fun t k => XS.goto X75.here hx rfl (pc0 := 174) (pc' := 178) rfl (hb hby at_174) (by decide) (by decide) k) ?_
        exact J178_77 _ (by simp only [if_pos hc170_78, if_true, if_false] <;> rfl)
      · -- 170 False
        refine step (T75.setTop (mkF m 177 #[.val (.int p0), .val (.int p1), .val (.int p2), .val (.int p3), .val (.int p4), .val (.int (1 : Int32)), .val (.ref b1_46), .val (.ref b47), .val (.int (1 : Int32)), .val (.int pv), .val (.int qv), .val (.ref b1_67), .val (.ref b1_69)] [(.int z30_7_75)])) (fun t k => XS.icmpYes X75.here hx rfl (pc0 := 170) (pc' := 177) rfl (hb hby at_170) rfl (flt hc170_78).2.1 (by decide) (by decide) k) ?_
        refine step (T75.setTop (mkF m 178 #[.val (.int p0), .val (.int p1), .val (.int p2), .val (.int p3), .val (.int p4), .val (.int (1 : Int32)), .val (.ref b1_46), .val (.ref b47), .val (.int (1 : Int32)), .val (.int pv), .val (.int qv), .val (.ref b1_67), .val (.ref b1_69)] [(.int (0 : Int32)), (.int z30_7_75)])) (fun t k => XS.iconst X75.here hx rfl (hb hby at_177) k) ?_
        exact J178_77 _ (by simp only [if_neg hc170_78, if_true, if_false] <;> rfl)
    intro z178_76 hz178_76
    suffices J186_80 : ∀ (z186_79 : Int32), z186_79 = (if z30_7_75 = z178_76 then (1 : Int32) else (0 : Int32)) → G (T75.setTop (mkF m 186 #[.val (.int p0), .val (.int p1), .val (.int p2), .val (.int p3), .val (.int p4), .val (.int (1 : Int32)), .val (.ref b1_46), .val (.ref b47), .val (.int (1 : Int32)), .val (.int pv), .val (.int qv), .val (.ref b1_67), .val (.ref b1_69)] [(.int z186_79)])) by
      by_cases hc178_81 : z30_7_75 = z178_76
      · -- 178 True
        refine step (T75.setTop (mkF m 181 #[.val (.int p0), .val (.int p1), .val (.int p2), .val (.int p3), .val (.int p4), .val (.int (1 : Int32)), .val (.ref b1_46), .val (.ref b47), .val (.int (1 : Int32)), .val (.int pv), .val (.int qv), .val (.ref b1_67), .val (.ref b1_69)] [])) (fun t k => XS.icmpNo X75.here hx rfl (hb hby at_178) rfl (teq hc178_81).2 k) ?_
        refine step (T75.setTop (mkF m 182 #[.val (.int p0), .val (.int p1), .val (.int p2), .val (.int p3), .val (.int p4), .val (.int (1 : Int32)), .val (.ref b1_46), .val (.ref b47), .val (.int (1 : Int32)), .val (.int pv), .val (.int qv), .val (.ref b1_67), .val (.ref b1_69)] [(.int (1 : Int32))])) (fun t k => XS.iconst X75.here hx rfl (hb hby at_181) k) ?_
        refine step (T75.setTop (mkF m 186 #[.val (.int p0), .val (.int p1), .val (.int p2), .val (.int p3), .val (.int p4), .val (.int (1 : Int32)), .val (.ref b1_46), .val (.ref b47), .val (.int (1 : Int32)), .val (.int pv), .val (.int qv), .val (.ref b1_67), .val (.ref b1_69)] [(.int (1 : Int32))])) (fun t k => XS.goto X75.here hx rfl (pc0 := 182) (pc' := 186) rfl (hb hby at_182) (by decide) (by decide) k) ?_
        exact J186_80 _ (by simp only [if_pos hc178_81, if_true, if_false] <;> rfl)
      · -- 178 False
        refine step (T75.setTop (mkF m 185 #[.val (.int p0), .val (.int p1), .val (.int p2), .val (.int p3), .val (.int p4), .val (.int (1 : Int32)), .val (.ref b1_46), .val (.ref b47), .val (.int (1 : Int32)), .val (.int pv), .val (.int qv), .val (.ref b1_67), .val (.ref b1_69)] [])) (fun t k => XS.icmpYes X75.here hx rfl (pc0 := 178) (pc' := 185) rfl (hb hby at_178) rfl (feq hc178_81).2 (by decide) (by decide) k) ?_
        refine step (T75.setTop (mkF m 186 #[.val (.int p0), .val (.int p1), .val (.int p2), .val (.int p3), .val (.int p4), .val (.int (1 : Int32)), .val (.ref b1_46), .val (.ref b47), .val (.int (1 : Int32)), .val (.int pv), .val (.int qv), .val (.ref b1_67), .val (.ref b1_69)] [(.int (0 : Int32))])) (fun t k => XS.iconst X75.here hx rfl (hb hby at_185) k) ?_
        exact J186_80 _ (by simp only [if_neg hc178_81, if_true, if_false] <;> rfl)
    intro z186_79 hz186_79
    refine step (T75.setTop (mkF m 188 #[.val (.int p0), .val (.int p1), .val (.int p2), .val (.int p3), .val (.int p4), .val (.int (1 : Int32)), .val (.ref b1_46), .val (.ref b47), .val (.int z186_79), .val (.int pv), .val (.int qv), .val (.ref b1_67), .val (.ref b1_69)] [])) (fun t k => XS.istore X75.here hx rfl (hb hby at_186) rfl (l' := #[.val (.int p0), .val (.int p1), .val (.int p2), .val (.int p3), .val (.int p4), .val (.int (1 : Int32)), .val (.ref b1_46), .val (.ref b47), .val (.int z186_79), .val (.int pv), .val (.int qv), .val (.ref b1_67), .val (.ref b1_69)]) rfl k) ?_
    refine step (T75.setTop (mkF m 190 #[.val (.int p0), .val (.int p1), .val (.int p2), .val (.int p3), .val (.int p4), .val (.int (1 : Int32)), .val (.ref b1_46), .val (.ref b47), .val (.int z186_79), .val (.int pv), .val (.int qv), .val (.ref b1_67), .val (.ref b1_69)] [(.int z186_79)])) (fun t k => XS.iload X75.here hx rfl (hb hby at_188) rfl k) ?_
    have hc190_82 : ¬ (z186_79 = (0 : Int32)) := (own_plain35 p0 p1 p2 p3 p4 pv qv z30_7_75 z178_76 z186_79 hpv hqv hz30_7_75 hz178_76 hz186_79)
    refine step (T75.setTop (mkF m 193 #[.val (.int p0), .val (.int p1), .val (.int p2), .val (.int p3), .val (.int p4), .val (.int (1 : Int32)), .val (.ref b1_46), .val (.ref b47), .val (.int z186_79), .val (.int pv), .val (.int qv), .val (.ref b1_67), .val (.ref b1_69)] [])) (fun t k => XS.ifNo X75.here hx rfl (hb hby at_190) rfl ((if0 _ _).trans (feq hc190_82).1) k) ?_
    refine step (T75.setTop (mkF m 195 #[.val (.int p0), .val (.int p1), .val (.int p2), .val (.int p3), .val (.int p4), .val (.int (1 : Int32)), .val (.ref b1_46), .val (.ref b47), .val (.int z186_79), .val (.int pv), .val (.int qv), .val (.ref b1_67), .val (.ref b1_69)] [(.ref b1_69)])) (fun t k => XS.aload X75.here hx rfl (hb hby at_193) rfl rfl k) ?_
    refine step (T75.setTop (mkF m 197 #[.val (.int p0), .val (.int p1), .val (.int p2), .val (.int p3), .val (.int p4), .val (.int (1 : Int32)), .val (.ref b1_46), .val (.ref b47), .val (.int z186_79), .val (.int pv), .val (.int qv), .val (.ref b1_67), .val (.ref b1_69)] [(.ref b1_67), (.ref b1_69)])) (fun t k => XS.aload X75.here hx rfl (hb hby at_195) rfl rfl k) ?_
    obtain ⟨cq83, kq83, q83a, q83b, q83c⟩ := isOf hZ e75q q0_69
    obtain ⟨_, _, ⟨T83, L83, k83, n83⟩, -, X83, ⟨Lc83, hQ83, l83, y83, z83⟩, st83⟩ := X75.virtualBack hx (y := (⟨"com/example/vertex_to_service/vertextoservice/core/Choices", "before", "(Lcom/example/vertex_to_service/vertextoservice/core/Choices;)Z"⟩ : MethodName)) (z := (⟨"com/example/vertex_to_service/vertextoservice/core/Choices", "before", "(Lcom/example/vertex_to_service/vertextoservice/core/Choices;)Z"⟩ : MethodName)) hown (mvT hZ (hw _ (List.mem_of_getElem? (i := 101) rfl))) (mvT hZ (hw _ (List.mem_of_getElem? (i := 102) rfl))) (notFace_of_selects (args := #[]) (mvT hZ (hw _ (List.mem_of_getElem? (i := 104) rfl)))) (mvT hZ (hw _ (List.mem_of_getElem? (i := 104) rfl))) (mvT hZ (hw _ (List.mem_of_getElem? (i := 103) rfl))) (by decide) (backOf (W := 0) (rm18_25 l Z a0 hw [] b1_69 b1_67 qv pv h69 n0 (Nat.le_trans Z0 K69.1) q0_69 q3_69 q4_69 f72 f73 f74 gn_b1_69 (Ne.symm ne_b1_67_b1_69) gn_b1_67 nn_pv nn_qv) hZ (hw _ (List.mem_of_getElem? (i := 105) rfl)) (hw _ (List.mem_of_getElem? (i := 2) rfl)) (by decide) (by decide)) q83a q83c (g := (mkF m 197 #[.val (.int p0), .val (.int p1), .val (.int p2), .val (.int p3), .val (.int p4), .val (.int (1 : Int32)), .val (.ref b1_46), .val (.ref b47), .val (.int z186_79), .val (.int pv), .val (.int qv), .val (.ref b1_67), .val (.ref b1_69)] [(.ref b1_67), (.ref b1_69)])) rfl (by rw [hml]; rfl) (Steps.refl _) (argsL := [(.ref b1_67)]) (rest := []) (lenOf pd_3 rfl) rfl (by show 2 * 0 + _ ≤ _; exact Nat.le_of_eq rfl) (hb hby at_197) (fun _ _ => ⟨rfl, e75q, (by decide : 6 + 0 ≤ _), (by decide : 42 + 0 ≤ _)⟩)
    dsimp only [Pt.U, Pt.locs, Pt.cells, Pt.slots] at X83 l83 y83 z83 st83 hQ83
    subst l83 y83 z83
    obtain ⟨z30_7_83, rfl, N83q, e83q, hz30_7_83⟩ := hQ83
    have N83 := Fr.app N75 N83q
    refine step (T83.setTop (mkF m 200 #[.val (.int p0), .val (.int p1), .val (.int p2), .val (.int p3), .val (.int p4), .val (.int (1 : Int32)), .val (.ref b1_46), .val (.ref b47), .val (.int z186_79), .val (.int pv), .val (.int qv), .val (.ref b1_67), .val (.ref b1_69)] [(.int z30_7_83)])) (fun t k => st83.trans k) ?_
    refine step (T83.setTop (mkF m 202 #[.val (.int p0), .val (.int p1), .val (.int p2), .val (.int p3), .val (.int p4), .val (.int (1 : Int32)), .val (.ref b1_46), .val (.ref b47), .val (.int z186_79), .val (.int pv), .val (.int qv), .val (.ref b1_67), .val (.ref b1_69)] [(.int qv), (.int z30_7_83)])) (fun t k => XS.iload X83.here hx rfl (hb hby at_200) rfl k) ?_
    refine step (T83.setTop (mkF m 204 #[.val (.int p0), .val (.int p1), .val (.int p2), .val (.int p3), .val (.int p4), .val (.int (1 : Int32)), .val (.ref b1_46), .val (.ref b47), .val (.int z186_79), .val (.int pv), .val (.int qv), .val (.ref b1_67), .val (.ref b1_69)] [(.int pv), (.int qv), (.int z30_7_83)])) (fun t k => XS.iload X83.here hx rfl (hb hby at_202) rfl k) ?_
    suffices J212_85 : ∀ (z212_84 : Int32), z212_84 = (if qv < pv then (1 : Int32) else (0 : Int32)) → G (T83.setTop (mkF m 212 #[.val (.int p0), .val (.int p1), .val (.int p2), .val (.int p3), .val (.int p4), .val (.int (1 : Int32)), .val (.ref b1_46), .val (.ref b47), .val (.int z186_79), .val (.int pv), .val (.int qv), .val (.ref b1_67), .val (.ref b1_69)] [(.int z212_84), (.int z30_7_83)])) by
      by_cases hc204_86 : qv < pv
      · -- 204 True
        refine step (T83.setTop (mkF m 207 #[.val (.int p0), .val (.int p1), .val (.int p2), .val (.int p3), .val (.int p4), .val (.int (1 : Int32)), .val (.ref b1_46), .val (.ref b47), .val (.int z186_79), .val (.int pv), .val (.int qv), .val (.ref b1_67), .val (.ref b1_69)] [(.int z30_7_83)])) (fun t k => XS.icmpNo X83.here hx rfl (hb hby at_204) rfl (tlt hc204_86).2.1 k) ?_
        refine step (T83.setTop (mkF m 208 #[.val (.int p0), .val (.int p1), .val (.int p2), .val (.int p3), .val (.int p4), .val (.int (1 : Int32)), .val (.ref b1_46), .val (.ref b47), .val (.int z186_79), .val (.int pv), .val (.int qv), .val (.ref b1_67), .val (.ref b1_69)] [(.int (1 : Int32)), (.int z30_7_83)])) (fun t k => XS.iconst X83.here hx rfl (hb hby at_207) k) ?_
        refine step (T83.setTop (mkF m 212 #[.val (.int p0), .val (.int p1), .val (.int p2), .val (.int p3), .val (.int p4), .val (.int (1 : Int32)), .val (.ref b1_46), .val (.ref b47), .val (.int z186_79), .val (.int pv), .val (.int qv), .val (.ref b1_67), .val (.ref b1_69)] [(.int (1 : Int32)), (.int z30_7_83)])) (fun t k => XS.goto X83.here hx rfl (pc0 := 208) (pc' := 212) rfl (hb hby at_208) (by decide) (by decide) k) ?_
        exact J212_85 _ (by simp only [if_pos hc204_86, if_true, if_false] <;> rfl)
      · -- 204 False
        refine step (T83.setTop (mkF m 211 #[.val (.int p0), .val (.int p1), .val (.int p2), .val (.int p3), .val (.int p4), .val (.int (1 : Int32)), .val (.ref b1_46), .val (.ref b47), .val (.int z186_79), .val (.int pv), .val (.int qv), .val (.ref b1_67), .val (.ref b1_69)] [(.int z30_7_83)])) (fun t k => XS.icmpYes X83.here hx rfl (pc0 := 204) (pc' := 211) rfl (hb hby at_204) rfl (flt hc204_86).2.1 (by decide) (by decide) k) ?_
        refine step (T83.setTop (mkF m 212 #[.val (.int p0), .val (.int p1), .val (.int p2), .val (.int p3), .val (.int p4), .val (.int (1 : Int32)), .val (.ref b1_46), .val (.ref b47), .val (.int z186_79), .val (.int pv), .val (.int qv), .val (.ref b1_67), .val (.ref b1_69)] [(.int (0 : Int32)), (.int z30_7_83)])) (fun t k => XS.iconst X83.here hx rfl (hb hby at_211) k) ?_
        exact J212_85 _ (by simp only [if_neg hc204_86, if_true, if_false] <;> rfl)
    intro z212_84 hz212_84
    suffices J220_88 : ∀ (z220_87 : Int32), z220_87 = (if z30_7_83 = z212_84 then (1 : Int32) else (0 : Int32)) → G (T83.setTop (mkF m 220 #[.val (.int p0), .val (.int p1), .val (.int p2), .val (.int p3), .val (.int p4), .val (.int (1 : Int32)), .val (.ref b1_46), .val (.ref b47), .val (.int z186_79), .val (.int pv), .val (.int qv), .val (.ref b1_67), .val (.ref b1_69)] [(.int z220_87)])) by
      by_cases hc212_89 : z30_7_83 = z212_84
      · -- 212 True
        refine step (T83.setTop (mkF m 215 #[.val (.int p0), .val (.int p1), .val (.int p2), .val (.int p3), .val (.int p4), .val (.int (1 : Int32)), .val (.ref b1_46), .val (.ref b47), .val (.int z186_79), .val (.int pv), .val (.int qv), .val (.ref b1_67), .val (.ref b1_69)] [])) (fun t k => XS.icmpNo X83.here hx rfl (hb hby at_212) rfl (teq hc212_89).2 k) ?_
        refine step (T83.setTop (mkF m 216 #[.val (.int p0), .val (.int p1), .val (.int p2), .val (.int p3), .val (.int p4), .val (.int (1 : Int32)), .val (.ref b1_46), .val (.ref b47), .val (.int z186_79), .val (.int pv), .val (.int qv), .val (.ref b1_67), .val (.ref b1_69)] [(.int (1 : Int32))])) (fun t k => XS.iconst X83.here hx rfl (hb hby at_215) k) ?_
        refine step (T83.setTop (mkF m 220 #[.val (.int p0), .val (.int p1), .val (.int p2), .val (.int p3), .val (.int p4), .val (.int (1 : Int32)), .val (.ref b1_46), .val (.ref b47), .val (.int z186_79), .val (.int pv), .val (.int qv), .val (.ref b1_67), .val (.ref b1_69)] [(.int (1 : Int32))])) (fun t k => XS.goto X83.here hx rfl (pc0 := 216) (pc' := 220) rfl (hb hby at_216) (by decide) (by decide) k) ?_
        exact J220_88 _ (by simp only [if_pos hc212_89, if_true, if_false] <;> rfl)
      · -- 212 False
        refine step (T83.setTop (mkF m 219 #[.val (.int p0), .val (.int p1), .val (.int p2), .val (.int p3), .val (.int p4), .val (.int (1 : Int32)), .val (.ref b1_46), .val (.ref b47), .val (.int z186_79), .val (.int pv), .val (.int qv), .val (.ref b1_67), .val (.ref b1_69)] [])) (fun t k => XS.icmpYes X83.here hx rfl (pc0 := 212) (pc' := 219) rfl (hb hby at_212) rfl (feq hc212_89).2 (by decide) (by decide) k) ?_
        refine step (T83.setTop (mkF m 220 #[.val (.int p0), .val (.int p1), .val (.int p2), .val (.int p3), .val (.int p4), .val (.int (1 : Int32)), .val (.ref b1_46), .val (.ref b47), .val (.int z186_79), .val (.int pv), .val (.int qv), .val (.ref b1_67), .val (.ref b1_69)] [(.int (0 : Int32))])) (fun t k => XS.iconst X83.here hx rfl (hb hby at_219) k) ?_
        exact J220_88 _ (by simp only [if_neg hc212_89, if_true, if_false] <;> rfl)
    intro z220_87 hz220_87
    refine step (T83.setTop (mkF m 222 #[.val (.int p0), .val (.int p1), .val (.int p2), .val (.int p3), .val (.int p4), .val (.int (1 : Int32)), .val (.ref b1_46), .val (.ref b47), .val (.int z220_87), .val (.int pv), .val (.int qv), .val (.ref b1_67), .val (.ref b1_69)] [])) (fun t k => XS.istore X83.here hx rfl (hb hby at_220) rfl (l' := #[.val (.int p0), .val (.int p1), .val (.int p2), .val (.int p3), .val (.int p4), .val (.int (1 : Int32)), .val (.ref b1_46), .val (.ref b47), .val (.int z220_87), .val (.int pv), .val (.int qv), .val (.ref b1_67), .val (.ref b1_69)]) rfl k) ?_
    refine step (T83.setTop (mkF m 224 #[.val (.int p0), .val (.int p1), .val (.int p2), .val (.int p3), .val (.int p4), .val (.int (1 : Int32)), .val (.ref b1_46), .val (.ref b47), .val (.int z220_87), .val (.int pv), .val (.int qv), .val (.ref b1_67), .val (.ref b1_69)] [(.int z220_87)])) (fun t k => XS.iload X83.here hx rfl (hb hby at_222) rfl k) ?_
    have hc224_90 : ¬ (z220_87 = (0 : Int32)) := (own_plain36 p0 p1 p2 p3 p4 pv qv z30_7_83 z212_84 z220_87 hpv hqv hz30_7_83 hz212_84 hz220_87)
    refine step (T83.setTop (mkF m 227 #[.val (.int p0), .val (.int p1), .val (.int p2), .val (.int p3), .val (.int p4), .val (.int (1 : Int32)), .val (.ref b1_46), .val (.ref b47), .val (.int z220_87), .val (.int pv), .val (.int qv), .val (.ref b1_67), .val (.ref b1_69)] [])) (fun t k => XS.ifNo X83.here hx rfl (hb hby at_224) rfl ((if0 _ _).trans (feq hc224_90).1) k) ?_
    refine step (T83.setTop (mkF m 229 #[.val (.int p0), .val (.int p1), .val (.int p2), .val (.int p3), .val (.int p4), .val (.int (1 : Int32)), .val (.ref b1_46), .val (.ref b47), .val (.int z220_87), .val (.int pv), .val (.int qv), .val (.ref b1_67), .val (.ref b1_69)] [(.ref b1_67)])) (fun t k => XS.aload X83.here hx rfl (hb hby at_227) rfl rfl k) ?_
    refine step (T83.setTop (mkF m 231 #[.val (.int p0), .val (.int p1), .val (.int p2), .val (.int p3), .val (.int p4), .val (.int (1 : Int32)), .val (.ref b1_46), .val (.ref b47), .val (.int z220_87), .val (.int pv), .val (.int qv), .val (.ref b1_67), .val (.ref b1_69)] [(.ref b1_67), (.ref b1_67)])) (fun t k => XS.aload X83.here hx rfl (hb hby at_229) rfl rfl k) ?_
    obtain ⟨cq91, kq91, q91a, q91b, q91c⟩ := isOf hZ e83q f72
    obtain ⟨_, _, ⟨T91, L91, k91, n91⟩, -, X91, ⟨Lc91, hQ91, l91, y91, z91⟩, st91⟩ := X83.virtualBack hx (y := (⟨"com/example/vertex_to_service/vertextoservice/core/Choices", "before", "(Lcom/example/vertex_to_service/vertextoservice/core/Choices;)Z"⟩ : MethodName)) (z := (⟨"com/example/vertex_to_service/vertextoservice/core/Choices", "before", "(Lcom/example/vertex_to_service/vertextoservice/core/Choices;)Z"⟩ : MethodName)) hown (mvT hZ (hw _ (List.mem_of_getElem? (i := 101) rfl))) (mvT hZ (hw _ (List.mem_of_getElem? (i := 102) rfl))) (notFace_of_selects (args := #[]) (mvT hZ (hw _ (List.mem_of_getElem? (i := 104) rfl)))) (mvT hZ (hw _ (List.mem_of_getElem? (i := 104) rfl))) (mvT hZ (hw _ (List.mem_of_getElem? (i := 103) rfl))) (by decide) (backOf (W := 0) (rm18_27 l Z a0 hw [] b1_67 pv h69 n0 (Nat.le_trans Z0 K69.1) f72 f73 f74 gn_b1_67 nn_pv) hZ (hw _ (List.mem_of_getElem? (i := 105) rfl)) (hw _ (List.mem_of_getElem? (i := 2) rfl)) (by decide) (by decide)) q91a q91c (g := (mkF m 231 #[.val (.int p0), .val (.int p1), .val (.int p2), .val (.int p3), .val (.int p4), .val (.int (1 : Int32)), .val (.ref b1_46), .val (.ref b47), .val (.int z220_87), .val (.int pv), .val (.int qv), .val (.ref b1_67), .val (.ref b1_69)] [(.ref b1_67), (.ref b1_67)])) rfl (by rw [hml]; rfl) (Steps.refl _) (argsL := [(.ref b1_67)]) (rest := []) (lenOf pd_3 rfl) rfl (by show 2 * 0 + _ ≤ _; exact Nat.le_of_eq rfl) (hb hby at_231) (fun _ _ => ⟨rfl, e83q, (by decide : 6 + 0 ≤ _), (by decide : 42 + 0 ≤ _)⟩)
    dsimp only [Pt.U, Pt.locs, Pt.cells, Pt.slots] at X91 l91 y91 z91 st91 hQ91
    subst l91 y91 z91
    obtain ⟨rfl, N91q, e91q⟩ := hQ91
    have N91 := Fr.app N83 N91q
    refine step (T91.setTop (mkF m 234 #[.val (.int p0), .val (.int p1), .val (.int p2), .val (.int p3), .val (.int p4), .val (.int (1 : Int32)), .val (.ref b1_46), .val (.ref b47), .val (.int z220_87), .val (.int pv), .val (.int qv), .val (.ref b1_67), .val (.ref b1_69)] [(.int (0 : Int32))])) (fun t k => st91.trans k) ?_
    refine step (T91.setTop (mkF m 237 #[.val (.int p0), .val (.int p1), .val (.int p2), .val (.int p3), .val (.int p4), .val (.int (1 : Int32)), .val (.ref b1_46), .val (.ref b47), .val (.int z220_87), .val (.int pv), .val (.int qv), .val (.ref b1_67), .val (.ref b1_69)] [])) (fun t k => XS.ifNo X91.here hx rfl (hb hby at_234) rfl ((if0 _ _).trans (teq (by decide : (0 : Int32) = (0 : Int32))).2) k) ?_
    refine step (T91.setTop (mkF m 238 #[.val (.int p0), .val (.int p1), .val (.int p2), .val (.int p3), .val (.int p4), .val (.int (1 : Int32)), .val (.ref b1_46), .val (.ref b47), .val (.int z220_87), .val (.int pv), .val (.int qv), .val (.ref b1_67), .val (.ref b1_69)] [(.int (1 : Int32))])) (fun t k => XS.iconst X91.here hx rfl (hb hby at_237) k) ?_
    refine step (T91.setTop (mkF m 242 #[.val (.int p0), .val (.int p1), .val (.int p2), .val (.int p3), .val (.int p4), .val (.int (1 : Int32)), .val (.ref b1_46), .val (.ref b47), .val (.int z220_87), .val (.int pv), .val (.int qv), .val (.ref b1_67), .val (.ref b1_69)] [(.int (1 : Int32))])) (fun t k => XS.goto X91.here hx rfl (pc0 := 238) (pc' := 242) rfl (hb hby at_238) (by decide) (by decide) k) ?_
    refine step (T91.setTop (mkF m 244 #[.val (.int p0), .val (.int p1), .val (.int p2), .val (.int p3), .val (.int p4), .val (.int (1 : Int32)), .val (.ref b1_46), .val (.ref b47), .val (.int (1 : Int32)), .val (.int pv), .val (.int qv), .val (.ref b1_67), .val (.ref b1_69)] [])) (fun t k => XS.istore X91.here hx rfl (hb hby at_242) rfl (l' := #[.val (.int p0), .val (.int p1), .val (.int p2), .val (.int p3), .val (.int p4), .val (.int (1 : Int32)), .val (.ref b1_46), .val (.ref b47), .val (.int (1 : Int32)), .val (.int pv), .val (.int qv), .val (.ref b1_67), .val (.ref b1_69)]) rfl k) ?_
    refine step (T91.setTop (mkF m 246 #[.val (.int p0), .val (.int p1), .val (.int p2), .val (.int p3), .val (.int p4), .val (.int (1 : Int32)), .val (.ref b1_46), .val (.ref b47), .val (.int (1 : Int32)), .val (.int pv), .val (.int qv), .val (.ref b1_67), .val (.ref b1_69)] [(.int (1 : Int32))])) (fun t k => XS.iload X91.here hx rfl (hb hby at_244) rfl k) ?_
    refine fin (v := some (.int (nar .boolean (1 : Int32)))) X91 (fun h => by cases h) ?_ (by decide) (by decide) (fun fs hr => retN X91 hx (t := .boolean) hret (by simp) (hb hby at_246) hr)
    show Q0 Z p0 p1 p2 p3 p4 h0 n0 (some (.int (nar .boolean (1 : Int32)))) T91.heap _
    rw [e91q]
    exact ⟨rfl, N91⟩
  · -- v = 2
    show G (s₁.setTop (mkF m 3 #[.val (.int p0), .val (.int p1), .val (.int p2), .val (.int p3), .val (.int p4), .unset, .unset, .unset, .unset, .unset, .unset, .unset, .unset] [(.int (2 : Int32))]))
    refine step (s₁.setTop (mkF m 5 #[.val (.int p0), .val (.int p1), .val (.int p2), .val (.int p3), .val (.int p4), .val (.int (2 : Int32)), .unset, .unset, .unset, .unset, .unset, .unset, .unset] [])) (fun t k => XS.istore X0.here hx rfl (hb hby at_3) rfl (l' := #[.val (.int p0), .val (.int p1), .val (.int p2), .val (.int p3), .val (.int p4), .val (.int (2 : Int32)), .unset, .unset, .unset, .unset, .unset, .unset, .unset]) rfl k) ?_
    refine step (s₁.setTop (mkF m 7 #[.val (.int p0), .val (.int p1), .val (.int p2), .val (.int p3), .val (.int p4), .val (.int (2 : Int32)), .unset, .unset, .unset, .unset, .unset, .unset, .unset] [(.int (2 : Int32))])) (fun t k => XS.iload X0.here hx rfl (hb hby at_5) rfl k) ?_
    refine step (s₁.setTop (mkF m 8 #[.val (.int p0), .val (.int p1), .val (.int p2), .val (.int p3), .val (.int p4), .val (.int (2 : Int32)), .unset, .unset, .unset, .unset, .unset, .unset, .unset] [(.int p1), (.int (2 : Int32))])) (fun t k => XS.iloadN X0.here hx rfl (hb hby at_7) rfl k) ?_
    obtain ⟨_, _, ⟨T92, L92, k92, n92⟩, -, X92, ⟨Lc92, hQ92, l92, y92, z92⟩, st92⟩ := Jvm.LawKit.callS X0 hx (y := (⟨"com/example/vertex_to_service/vertextoservice/core/Choices", "of", "(II)Lcom/example/vertex_to_service/vertextoservice/core/Choices;"⟩ : MethodName)) hown (mvT hZ (hw _ (List.mem_of_getElem? (i := 0) rfl))) (mvT hZ (hw _ (List.mem_of_getElem? (i := 1) rfl))) (mvT hZ (hw _ (List.mem_of_getElem? (i := 2) rfl))) (mvT hZ (hw _ (List.mem_of_getElem? (i := 3) rfl))) (by decide) (backOf (W := 0) (rm1_38 l Z a0 hw [] p1 h0 n0 Z0 ) hZ (hw _ (List.mem_of_getElem? (i := 3) rfl)) (hw _ (List.mem_of_getElem? (i := 2) rfl)) (by decide) (by decide)) (g := (mkF m 8 #[.val (.int p0), .val (.int p1), .val (.int p2), .val (.int p3), .val (.int p4), .val (.int (2 : Int32)), .unset, .unset, .unset, .unset, .unset, .unset, .unset] [(.int p1), (.int (2 : Int32))])) rfl (by rw [hml]; rfl) (argsL := [(.int (2 : Int32)), (.int p1)]) (rest := []) (lenOf pd_0 rfl) rfl (by show 2 * 0 + _ ≤ _; exact Nat.le_of_eq rfl) (hb hby at_8) (fun _ _ => ⟨rfl, e0, (by decide : 0 + 1 ≤ _), (by decide : 0 + 6 ≤ _)⟩)
    dsimp only [Pt.U, Pt.locs, Pt.cells, Pt.slots] at X92 l92 y92 z92 st92 hQ92
    subst l92 y92 z92
    obtain ⟨h92, e92⟩ : ∃ z, T92.heap = z := ⟨_, rfl⟩
    rw [e92] at hQ92
    obtain ⟨b1_92, rfl, N92q, K92q, sz_b1_92, q0_92, q1_92, q2_92, q3_92, q4_92, q5_92, q6_92⟩ := hQ92
    have N92 := Fr.app N0 N92q
    have gn_b1_92 : n0 ≤ b1_92 := Nat.le_trans Z0 sz_b1_92
    have K92 : Keep h0 h92 [] := (Keep.refl h0 []).trans K92q all0
    refine step (T92.setTop (mkF m 11 #[.val (.int p0), .val (.int p1), .val (.int p2), .val (.int p3), .val (.int p4), .val (.int (2 : Int32)), .unset, .unset, .unset, .unset, .unset, .unset, .unset] [(.ref b1_92)])) (fun t k => st92 t k) ?_
    refine step (T92.setTop (mkF m 13 #[.val (.int p0), .val (.int p1), .val (.int p2), .val (.int p3), .val (.int p4), .val (.int (2 : Int32)), .val (.ref b1_92), .unset, .unset, .unset, .unset, .unset, .unset] [])) (fun t k => XS.astore X92.here hx rfl (hb hby at_11) rfl rfl (l' := #[.val (.int p0), .val (.int p1), .val (.int p2), .val (.int p3), .val (.int p4), .val (.int (2 : Int32)), .val (.ref b1_92), .unset, .unset, .unset, .unset, .unset, .unset]) rfl k) ?_
    refine step (T92.setTop (mkF m 14 #[.val (.int p0), .val (.int p1), .val (.int p2), .val (.int p3), .val (.int p4), .val (.int (2 : Int32)), .val (.ref b1_92), .unset, .unset, .unset, .unset, .unset, .unset] [(.int (4 : Int32))])) (fun t k => XS.iconst X92.here hx rfl (hb hby at_13) k) ?_
    obtain ⟨T93, h93, k93, X93, e93, E93, A93, st93⟩ := newP X92 hx hZ (hw _ (List.mem_of_getElem? (i := 24) rfl)) e92 (g := (mkF m 14 #[.val (.int p0), .val (.int p1), .val (.int p2), .val (.int p3), .val (.int p4), .val (.int (2 : Int32)), .val (.ref b1_92), .unset, .unset, .unset, .unset, .unset, .unset] [(.int (4 : Int32))])) rfl (hb hby at_14) rfl (by decide) (cap := 4) (by decide) (by decide) (by decide) (by decide)
    obtain ⟨b93, g93⟩ : ∃ z, z = h92.size := ⟨_, rfl⟩
    rw [← g93] at A93 st93
    have ne_b1_92_b93 : b1_92 ≠ b93 := Nat.ne_of_lt (Nat.lt_of_lt_of_le q0_92.lt (Nat.le_of_eq g93.symm))
    have gn_b93 : n0 ≤ b93 := Nat.le_trans (Nat.le_trans Z0 K92.1) (Nat.le_of_eq g93.symm)
    have sz_b93 : h0.size ≤ b93 := Nat.le_trans K92.1 (Nat.le_of_eq g93.symm)
    have K93 : Keep h0 h93 [] := K92.ext E93
    have V93 : Arv Z h93 b93 k93 .int (4 : Int32) [(.int (0 : Int32)), (.int (0 : Int32)), (.int (0 : Int32)), (.int (0 : Int32))] (.int (0 : Int32)) := (Arv.new A93 (by decide)).pad (pad_rep [] (.int (0 : Int32)) 4)
    refine step (T93.setTop (mkF m 16 #[.val (.int p0), .val (.int p1), .val (.int p2), .val (.int p3), .val (.int p4), .val (.int (2 : Int32)), .val (.ref b1_92), .unset, .unset, .unset, .unset, .unset, .unset] [(.ref b93)])) (fun t k => st93 t k) ?_
    refine step (T93.setTop (mkF m 18 #[.val (.int p0), .val (.int p1), .val (.int p2), .val (.int p3), .val (.int p4), .val (.int (2 : Int32)), .val (.ref b1_92), .val (.ref b93), .unset, .unset, .unset, .unset, .unset] [])) (fun t k => XS.astore X93.here hx rfl (hb hby at_16) rfl rfl (l' := #[.val (.int p0), .val (.int p1), .val (.int p2), .val (.int p3), .val (.int p4), .val (.int (2 : Int32)), .val (.ref b1_92), .val (.ref b93), .unset, .unset, .unset, .unset, .unset]) rfl k) ?_
    refine step (T93.setTop (mkF m 20 #[.val (.int p0), .val (.int p1), .val (.int p2), .val (.int p3), .val (.int p4), .val (.int (2 : Int32)), .val (.ref b1_92), .val (.ref b93), .unset, .unset, .unset, .unset, .unset] [(.ref b93)])) (fun t k => XS.aload X93.here hx rfl (hb hby at_18) rfl rfl k) ?_
    refine step (T93.setTop (mkF m 21 #[.val (.int p0), .val (.int p1), .val (.int p2), .val (.int p3), .val (.int p4), .val (.int (2 : Int32)), .val (.ref b1_92), .val (.ref b93), .unset, .unset, .unset, .unset, .unset] [(.int (0 : Int32)), (.ref b93)])) (fun t k => XS.iconst X93.here hx rfl (hb hby at_20) k) ?_
    refine step (T93.setTop (mkF m 23 #[.val (.int p0), .val (.int p1), .val (.int p2), .val (.int p3), .val (.int p4), .val (.int (2 : Int32)), .val (.ref b1_92), .val (.ref b93), .unset, .unset, .unset, .unset, .unset] [(.int p4), (.int (0 : Int32)), (.ref b93)])) (fun t k => XS.iload X93.here hx rfl (hb hby at_21) rfl k) ?_
    obtain ⟨cl94, Ar94, q94, S94, N94n, H94, G94⟩ := id V93
    have hin94 : ¬ ((0 : Int32) < 0 ∨ cl94.slots.size ≤ ((0 : Int32)).toNatClampNeg) := inb_of S94 ⟨by decide, by decide⟩
    obtain ⟨T94, h94, X94, e94, W94, st94⟩ := stI X93 hx hZ e93 Ar94 (j := (0 : Int32)) hin94 (g := (mkF m 23 #[.val (.int p0), .val (.int p1), .val (.int p2), .val (.int p3), .val (.int p4), .val (.int (2 : Int32)), .val (.ref b1_92), .val (.ref b93), .unset, .unset, .unset, .unset, .unset] [(.int p4), (.int (0 : Int32)), (.ref b93)])) rfl rfl (hb hby at_23)
    have N94 := Fr.snoc X94 N92 gn_b93
    have K94 : Keep h0 h94 [] := K93.wr W94 (Or.inr sz_b93)
    have V94 : Arv Z h94 b93 k93 .int (4 : Int32) [(.int p4), (.int (0 : Int32)), (.int (0 : Int32)), (.int (0 : Int32))] (.int (0 : Int32)) := Arv.set Ar94 q94 S94 N94n H94 G94 rfl W94 0 rfl (Nat.le_of_ble_eq_true rfl)
    refine step (T94.setTop (mkF m 24 #[.val (.int p0), .val (.int p1), .val (.int p2), .val (.int p3), .val (.int p4), .val (.int (2 : Int32)), .val (.ref b1_92), .val (.ref b93), .unset, .unset, .unset, .unset, .unset] [])) (fun t k => st94 t k) ?_
    refine step (T94.setTop (mkF m 26 #[.val (.int p0), .val (.int p1), .val (.int p2), .val (.int p3), .val (.int p4), .val (.int (2 : Int32)), .val (.ref b1_92), .val (.ref b93), .unset, .unset, .unset, .unset, .unset] [(.ref b93)])) (fun t k => XS.aload X94.here hx rfl (hb hby at_24) rfl rfl k) ?_
    refine step (T94.setTop (mkF m 27 #[.val (.int p0), .val (.int p1), .val (.int p2), .val (.int p3), .val (.int p4), .val (.int (2 : Int32)), .val (.ref b1_92), .val (.ref b93), .unset, .unset, .unset, .unset, .unset] [(.int (1 : Int32)), (.ref b93)])) (fun t k => XS.iconst X94.here hx rfl (hb hby at_26) k) ?_
    refine step (T94.setTop (mkF m 29 #[.val (.int p0), .val (.int p1), .val (.int p2), .val (.int p3), .val (.int p4), .val (.int (2 : Int32)), .val (.ref b1_92), .val (.ref b93), .unset, .unset, .unset, .unset, .unset] [(.int p4), (.int (1 : Int32)), (.ref b93)])) (fun t k => XS.iload X94.here hx rfl (hb hby at_27) rfl k) ?_
    refine step (T94.setTop (mkF m 30 #[.val (.int p0), .val (.int p1), .val (.int p2), .val (.int p3), .val (.int p4), .val (.int (2 : Int32)), .val (.ref b1_92), .val (.ref b93), .unset, .unset, .unset, .unset, .unset] [(.int (1 : Int32)), (.int p4), (.int (1 : Int32)), (.ref b93)])) (fun t k => XS.iconst X94.here hx rfl (hb hby at_29) k) ?_
    refine step (T94.setTop (mkF m 31 #[.val (.int p0), .val (.int p1), .val (.int p2), .val (.int p3), .val (.int p4), .val (.int (2 : Int32)), .val (.ref b1_92), .val (.ref b93), .unset, .unset, .unset, .unset, .unset] [(.int (p4 + (1 : Int32))), (.int (1 : Int32)), (.ref b93)])) (fun t k => XS.iadd X94.here hx rfl (hb hby at_30) rfl k) ?_
    obtain ⟨cl95, Ar95, q95, S95, N95n, H95, G95⟩ := id V94
    have hin95 : ¬ ((1 : Int32) < 0 ∨ cl95.slots.size ≤ ((1 : Int32)).toNatClampNeg) := inb_of S95 ⟨by decide, by decide⟩
    obtain ⟨T95, h95, X95, e95, W95, st95⟩ := stI X94 hx hZ e94 Ar95 (j := (1 : Int32)) hin95 (g := (mkF m 31 #[.val (.int p0), .val (.int p1), .val (.int p2), .val (.int p3), .val (.int p4), .val (.int (2 : Int32)), .val (.ref b1_92), .val (.ref b93), .unset, .unset, .unset, .unset, .unset] [(.int (p4 + (1 : Int32))), (.int (1 : Int32)), (.ref b93)])) rfl rfl (hb hby at_31)
    have N95 := Fr.snoc X95 N94 gn_b93
    have K95 : Keep h0 h95 [] := K94.wr W95 (Or.inr sz_b93)
    have V95 : Arv Z h95 b93 k93 .int (4 : Int32) [(.int p4), (.int (p4 + (1 : Int32))), (.int (0 : Int32)), (.int (0 : Int32))] (.int (0 : Int32)) := Arv.set Ar95 q95 S95 N95n H95 G95 rfl W95 1 rfl (Nat.le_of_ble_eq_true rfl)
    refine step (T95.setTop (mkF m 32 #[.val (.int p0), .val (.int p1), .val (.int p2), .val (.int p3), .val (.int p4), .val (.int (2 : Int32)), .val (.ref b1_92), .val (.ref b93), .unset, .unset, .unset, .unset, .unset] [])) (fun t k => st95 t k) ?_
    refine step (T95.setTop (mkF m 34 #[.val (.int p0), .val (.int p1), .val (.int p2), .val (.int p3), .val (.int p4), .val (.int (2 : Int32)), .val (.ref b1_92), .val (.ref b93), .unset, .unset, .unset, .unset, .unset] [(.ref b93)])) (fun t k => XS.aload X95.here hx rfl (hb hby at_32) rfl rfl k) ?_
    refine step (T95.setTop (mkF m 35 #[.val (.int p0), .val (.int p1), .val (.int p2), .val (.int p3), .val (.int p4), .val (.int (2 : Int32)), .val (.ref b1_92), .val (.ref b93), .unset, .unset, .unset, .unset, .unset] [(.int (2 : Int32)), (.ref b93)])) (fun t k => XS.iconst X95.here hx rfl (hb hby at_34) k) ?_
    refine step (T95.setTop (mkF m 37 #[.val (.int p0), .val (.int p1), .val (.int p2), .val (.int p3), .val (.int p4), .val (.int (2 : Int32)), .val (.ref b1_92), .val (.ref b93), .unset, .unset, .unset, .unset, .unset] [(.int p4), (.int (2 : Int32)), (.ref b93)])) (fun t k => XS.iload X95.here hx rfl (hb hby at_35) rfl k) ?_
    refine step (T95.setTop (mkF m 38 #[.val (.int p0), .val (.int p1), .val (.int p2), .val (.int p3), .val (.int p4), .val (.int (2 : Int32)), .val (.ref b1_92), .val (.ref b93), .unset, .unset, .unset, .unset, .unset] [(.int (2 : Int32)), (.int p4), (.int (2 : Int32)), (.ref b93)])) (fun t k => XS.iconst X95.here hx rfl (hb hby at_37) k) ?_
    refine step (T95.setTop (mkF m 39 #[.val (.int p0), .val (.int p1), .val (.int p2), .val (.int p3), .val (.int p4), .val (.int (2 : Int32)), .val (.ref b1_92), .val (.ref b93), .unset, .unset, .unset, .unset, .unset] [(.int (p4 + (2 : Int32))), (.int (2 : Int32)), (.ref b93)])) (fun t k => XS.iadd X95.here hx rfl (hb hby at_38) rfl k) ?_
    obtain ⟨cl96, Ar96, q96, S96, N96n, H96, G96⟩ := id V95
    have hin96 : ¬ ((2 : Int32) < 0 ∨ cl96.slots.size ≤ ((2 : Int32)).toNatClampNeg) := inb_of S96 ⟨by decide, by decide⟩
    obtain ⟨T96, h96, X96, e96, W96, st96⟩ := stI X95 hx hZ e95 Ar96 (j := (2 : Int32)) hin96 (g := (mkF m 39 #[.val (.int p0), .val (.int p1), .val (.int p2), .val (.int p3), .val (.int p4), .val (.int (2 : Int32)), .val (.ref b1_92), .val (.ref b93), .unset, .unset, .unset, .unset, .unset] [(.int (p4 + (2 : Int32))), (.int (2 : Int32)), (.ref b93)])) rfl rfl (hb hby at_39)
    have N96 := Fr.snoc X96 N95 gn_b93
    have K96 : Keep h0 h96 [] := K95.wr W96 (Or.inr sz_b93)
    have V96 : Arv Z h96 b93 k93 .int (4 : Int32) [(.int p4), (.int (p4 + (1 : Int32))), (.int (p4 + (2 : Int32))), (.int (0 : Int32))] (.int (0 : Int32)) := Arv.set Ar96 q96 S96 N96n H96 G96 rfl W96 2 rfl (Nat.le_of_ble_eq_true rfl)
    refine step (T96.setTop (mkF m 40 #[.val (.int p0), .val (.int p1), .val (.int p2), .val (.int p3), .val (.int p4), .val (.int (2 : Int32)), .val (.ref b1_92), .val (.ref b93), .unset, .unset, .unset, .unset, .unset] [])) (fun t k => st96 t k) ?_
    refine step (T96.setTop (mkF m 42 #[.val (.int p0), .val (.int p1), .val (.int p2), .val (.int p3), .val (.int p4), .val (.int (2 : Int32)), .val (.ref b1_92), .val (.ref b93), .unset, .unset, .unset, .unset, .unset] [(.ref b93)])) (fun t k => XS.aload X96.here hx rfl (hb hby at_40) rfl rfl k) ?_
    refine step (T96.setTop (mkF m 43 #[.val (.int p0), .val (.int p1), .val (.int p2), .val (.int p3), .val (.int p4), .val (.int (2 : Int32)), .val (.ref b1_92), .val (.ref b93), .unset, .unset, .unset, .unset, .unset] [(.int (3 : Int32)), (.ref b93)])) (fun t k => XS.iconst X96.here hx rfl (hb hby at_42) k) ?_
    refine step (T96.setTop (mkF m 45 #[.val (.int p0), .val (.int p1), .val (.int p2), .val (.int p3), .val (.int p4), .val (.int (2 : Int32)), .val (.ref b1_92), .val (.ref b93), .unset, .unset, .unset, .unset, .unset] [(.int p4), (.int (3 : Int32)), (.ref b93)])) (fun t k => XS.iload X96.here hx rfl (hb hby at_43) rfl k) ?_
    refine step (T96.setTop (mkF m 46 #[.val (.int p0), .val (.int p1), .val (.int p2), .val (.int p3), .val (.int p4), .val (.int (2 : Int32)), .val (.ref b1_92), .val (.ref b93), .unset, .unset, .unset, .unset, .unset] [(.int (3 : Int32)), (.int p4), (.int (3 : Int32)), (.ref b93)])) (fun t k => XS.iconst X96.here hx rfl (hb hby at_45) k) ?_
    refine step (T96.setTop (mkF m 47 #[.val (.int p0), .val (.int p1), .val (.int p2), .val (.int p3), .val (.int p4), .val (.int (2 : Int32)), .val (.ref b1_92), .val (.ref b93), .unset, .unset, .unset, .unset, .unset] [(.int (p4 + (3 : Int32))), (.int (3 : Int32)), (.ref b93)])) (fun t k => XS.iadd X96.here hx rfl (hb hby at_46) rfl k) ?_
    obtain ⟨cl97, Ar97, q97, S97, N97n, H97, G97⟩ := id V96
    have hin97 : ¬ ((3 : Int32) < 0 ∨ cl97.slots.size ≤ ((3 : Int32)).toNatClampNeg) := inb_of S97 ⟨by decide, by decide⟩
    obtain ⟨T97, h97, X97, e97, W97, st97⟩ := stI X96 hx hZ e96 Ar97 (j := (3 : Int32)) hin97 (g := (mkF m 47 #[.val (.int p0), .val (.int p1), .val (.int p2), .val (.int p3), .val (.int p4), .val (.int (2 : Int32)), .val (.ref b1_92), .val (.ref b93), .unset, .unset, .unset, .unset, .unset] [(.int (p4 + (3 : Int32))), (.int (3 : Int32)), (.ref b93)])) rfl rfl (hb hby at_47)
    have N97 := Fr.snoc X97 N96 gn_b93
    have K97 : Keep h0 h97 [] := K96.wr W97 (Or.inr sz_b93)
    have V97 : Arv Z h97 b93 k93 .int (4 : Int32) [(.int p4), (.int (p4 + (1 : Int32))), (.int (p4 + (2 : Int32))), (.int (p4 + (3 : Int32)))] (.int (0 : Int32)) := Arv.set Ar97 q97 S97 N97n H97 G97 rfl W97 3 rfl (Nat.le_of_ble_eq_true rfl)
    refine step (T97.setTop (mkF m 48 #[.val (.int p0), .val (.int p1), .val (.int p2), .val (.int p3), .val (.int p4), .val (.int (2 : Int32)), .val (.ref b1_92), .val (.ref b93), .unset, .unset, .unset, .unset, .unset] [])) (fun t k => st97 t k) ?_
    refine step (T97.setTop (mkF m 50 #[.val (.int p0), .val (.int p1), .val (.int p2), .val (.int p3), .val (.int p4), .val (.int (2 : Int32)), .val (.ref b1_92), .val (.ref b93), .unset, .unset, .unset, .unset, .unset] [(.ref b1_92)])) (fun t k => XS.aload X97.here hx rfl (hb hby at_48) rfl rfl k) ?_
    refine step (T97.setTop (mkF m 52 #[.val (.int p0), .val (.int p1), .val (.int p2), .val (.int p3), .val (.int p4), .val (.int (2 : Int32)), .val (.ref b1_92), .val (.ref b93), .unset, .unset, .unset, .unset, .unset] [(.ref b93), (.ref b1_92)])) (fun t k => XS.aload X97.here hx rfl (hb hby at_50) rfl rfl k) ?_
    have f98 := (((((q0_92.ext E93).wr W94).wr W95).wr W96).wr W97)
    have f99 := (((((q1_92.ext E93).other W94 (Or.inl ne_b1_92_b93)).other W95 (Or.inl ne_b1_92_b93)).other W96 (Or.inl ne_b1_92_b93)).other W97 (Or.inl ne_b1_92_b93))
    have f100 := (((((q2_92.ext E93).other W94 (Or.inl ne_b1_92_b93)).other W95 (Or.inl ne_b1_92_b93)).other W96 (Or.inl ne_b1_92_b93)).other W97 (Or.inl ne_b1_92_b93))
    have f101 := (((((q5_92.ext E93).other W94 (Or.inl ne_b1_92_b93)).other W95 (Or.inl ne_b1_92_b93)).other W96 (Or.inl ne_b1_92_b93)).other W97 (Or.inl ne_b1_92_b93))
    have f102 := (((((q6_92.ext E93).other W94 (Or.inl ne_b1_92_b93)).other W95 (Or.inl ne_b1_92_b93)).other W96 (Or.inl ne_b1_92_b93)).other W97 (Or.inl ne_b1_92_b93))
    obtain ⟨cq103, kq103, q103a, q103b, q103c⟩ := isOf hZ e97 f98
    obtain ⟨_, _, ⟨T103, L103, k103, n103⟩, -, X103, ⟨Lc103, hQ103, l103, y103, z103⟩, st103⟩ := X97.virtualBack hx (y := (⟨"com/example/vertex_to_service/vertextoservice/core/Choices", "writeTo", "([I)V"⟩ : MethodName)) (z := (⟨"com/example/vertex_to_service/vertextoservice/core/Choices", "writeTo", "([I)V"⟩ : MethodName)) hown (mvT hZ (hw _ (List.mem_of_getElem? (i := 25) rfl))) (mvT hZ (hw _ (List.mem_of_getElem? (i := 26) rfl))) (notFace_of_selects (args := #[]) (mvT hZ (hw _ (List.mem_of_getElem? (i := 28) rfl)))) (mvT hZ (hw _ (List.mem_of_getElem? (i := 28) rfl))) (mvT hZ (hw _ (List.mem_of_getElem? (i := 27) rfl))) (by decide) (backOf (W := 0) (rm4_40 l Z a0 hw [] b1_92 b93 p1 k93 p4 (p4 + (1 : Int32)) (p4 + (2 : Int32)) (p4 + (3 : Int32)) h97 n0 (Nat.le_trans Z0 K97.1) f98 f99 f100 f101 f102 V97 gn_b1_92 ne_b1_92_b93 gn_b93 (own_add0 p4)) hZ (hw _ (List.mem_of_getElem? (i := 29) rfl)) (hw _ (List.mem_of_getElem? (i := 2) rfl)) (by decide) (by decide)) q103a q103c (g := (mkF m 52 #[.val (.int p0), .val (.int p1), .val (.int p2), .val (.int p3), .val (.int p4), .val (.int (2 : Int32)), .val (.ref b1_92), .val (.ref b93), .unset, .unset, .unset, .unset, .unset] [(.ref b93), (.ref b1_92)])) rfl (by rw [hml]; rfl) (Steps.refl _) (argsL := [(.ref b93)]) (rest := []) (lenOf pd_1 rfl) rfl (by show 2 * 0 + _ ≤ _; exact Nat.le_of_eq rfl) (hb hby at_52) (fun _ _ => ⟨rfl, e97, (by decide : 2 + 2 ≤ _), (by decide : 10 + 20 ≤ _)⟩)
    dsimp only [Pt.U, Pt.locs, Pt.cells, Pt.slots] at X103 l103 y103 z103 st103 hQ103
    subst l103 y103 z103
    obtain ⟨h103, e103⟩ : ∃ z, T103.heap = z := ⟨_, rfl⟩
    rw [e103] at hQ103
    obtain ⟨rfl, N103q, K103q, q0_103⟩ := hQ103
    have N103 := Fr.app N97 N103q
    have K103 : Keep h0 h103 [] := K97.trans K103q (allS (Or.inr sz_b93) all0)
    refine step (T103.setTop (mkF m 55 #[.val (.int p0), .val (.int p1), .val (.int p2), .val (.int p3), .val (.int p4), .val (.int (2 : Int32)), .val (.ref b1_92), .val (.ref b93), .unset, .unset, .unset, .unset, .unset] [])) (fun t k => st103.trans k) ?_
    refine step (T103.setTop (mkF m 57 #[.val (.int p0), .val (.int p1), .val (.int p2), .val (.int p3), .val (.int p4), .val (.int (2 : Int32)), .val (.ref b1_92), .val (.ref b93), .unset, .unset, .unset, .unset, .unset] [(.ref b93)])) (fun t k => XS.aload X103.here hx rfl (hb hby at_55) rfl rfl k) ?_
    refine step (T103.setTop (mkF m 58 #[.val (.int p0), .val (.int p1), .val (.int p2), .val (.int p3), .val (.int p4), .val (.int (2 : Int32)), .val (.ref b1_92), .val (.ref b93), .unset, .unset, .unset, .unset, .unset] [(.int (0 : Int32)), (.ref b93)])) (fun t k => XS.iconst X103.here hx rfl (hb hby at_57) k) ?_
    obtain ⟨cl104, Ar104, q104, S104, N104n, H104, G104⟩ := id q0_103
    have hin104 : ¬ ((0 : Int32) < 0 ∨ cl104.slots.size ≤ ((0 : Int32)).toNatClampNeg) := inb_of S104 ⟨by decide, by decide⟩
    have hat104 : cl104.slots[((0 : Int32)).toNatClampNeg]? = some (.int p4) := H104.at hin104 rfl
    refine step (T103.setTop (mkF m 59 #[.val (.int p0), .val (.int p1), .val (.int p2), .val (.int p3), .val (.int p4), .val (.int (2 : Int32)), .val (.ref b1_92), .val (.ref b93), .unset, .unset, .unset, .unset, .unset] [(.int p4)])) (fun t k => X103.iaload hx (j := (0 : Int32)) (v := (.int p4)) (by rw [e103]; exact Ar104.1) (State.isArrayOf_alike hZ.alike Ar104.2.1) Ar104.2.2 hin104 hat104 (g := (mkF m 58 #[.val (.int p0), .val (.int p1), .val (.int p2), .val (.int p3), .val (.int p4), .val (.int (2 : Int32)), .val (.ref b1_92), .val (.ref b93), .unset, .unset, .unset, .unset, .unset] [(.int (0 : Int32)), (.ref b93)])) rfl rfl (hb hby at_58) t k) ?_
    refine step (T103.setTop (mkF m 60 #[.val (.int p0), .val (.int p1), .val (.int p2), .val (.int p3), .val (.int p4), .val (.int (2 : Int32)), .val (.ref b1_92), .val (.ref b93), .unset, .unset, .unset, .unset, .unset] [(.int (0 : Int32)), (.int p4)])) (fun t k => XS.iconst X103.here hx rfl (hb hby at_59) k) ?_
    refine step (T103.setTop (mkF m 62 #[.val (.int p0), .val (.int p1), .val (.int p2), .val (.int p3), .val (.int p4), .val (.int (2 : Int32)), .val (.ref b1_92), .val (.ref b93), .unset, .unset, .unset, .unset, .unset] [(.int (2 : Int32)), (.int (0 : Int32)), (.int p4)])) (fun t k => XS.iload X103.here hx rfl (hb hby at_60) rfl k) ?_
    refine step (T103.setTop (mkF m 63 #[.val (.int p0), .val (.int p1), .val (.int p2), .val (.int p3), .val (.int p4), .val (.int (2 : Int32)), .val (.ref b1_92), .val (.ref b93), .unset, .unset, .unset, .unset, .unset] [(.int p1), (.int (2 : Int32)), (.int (0 : Int32)), (.int p4)])) (fun t k => XS.iloadN X103.here hx rfl (hb hby at_62) rfl k) ?_
    refine step (T103.setTop (mkF m 65 #[.val (.int p0), .val (.int p1), .val (.int p2), .val (.int p3), .val (.int p4), .val (.int (2 : Int32)), .val (.ref b1_92), .val (.ref b93), .unset, .unset, .unset, .unset, .unset] [(.int p4), (.int p1), (.int (2 : Int32)), (.int (0 : Int32)), (.int p4)])) (fun t k => XS.iload X103.here hx rfl (hb hby at_63) rfl k) ?_
    obtain ⟨_, _, ⟨T105, L105, k105, n105⟩, -, X105, ⟨Lc105, hQ105, l105, y105, z105⟩, st105⟩ := Jvm.LawKit.callS X103 hx (y := (⟨"com/example/vertex_to_service/vertextoservice/core/ChoicesOfPinLaw", "expected", "(IIII)I"⟩ : MethodName)) hown (mvT hZ (hw _ (List.mem_of_getElem? (i := 96) rfl))) (mvT hZ (hw _ (List.mem_of_getElem? (i := 97) rfl))) (mvT hZ (hw _ (List.mem_of_getElem? (i := 98) rfl))) (mvT hZ (hw _ (List.mem_of_getElem? (i := 99) rfl))) (by decide) (backOf (W := 1) (rm17_42 l Z a0 hw [] p1 p4 h103 n0 (Nat.le_trans Z0 K103.1) (own_add0 p4)) hZ (hw _ (List.mem_of_getElem? (i := 99) rfl)) (hw _ (List.mem_of_getElem? (i := 98) rfl)) (by decide) (by decide)) (g := (mkF m 65 #[.val (.int p0), .val (.int p1), .val (.int p2), .val (.int p3), .val (.int p4), .val (.int (2 : Int32)), .val (.ref b1_92), .val (.ref b93), .unset, .unset, .unset, .unset, .unset] [(.int p4), (.int p1), (.int (2 : Int32)), (.int (0 : Int32)), (.int p4)])) rfl (by rw [hml]; rfl) (argsL := [(.int (0 : Int32)), (.int (2 : Int32)), (.int p1), (.int p4)]) (rest := [(.int p4)]) (lenOf pd_2 rfl) rfl (by show 2 * 0 + _ ≤ _; exact Nat.le_of_eq rfl) (hb hby at_65) (fun _ _ => ⟨rfl, e103, (by decide : 4 + 0 ≤ _), (by decide : 30 + 0 ≤ _)⟩)
    dsimp only [Pt.U, Pt.locs, Pt.cells, Pt.slots] at X105 l105 y105 z105 st105 hQ105
    subst l105 y105 z105
    obtain ⟨rfl, N105q, e105q⟩ := hQ105
    have N105 := Fr.app N103 N105q
    refine step (T105.setTop (mkF m 68 #[.val (.int p0), .val (.int p1), .val (.int p2), .val (.int p3), .val (.int p4), .val (.int (2 : Int32)), .val (.ref b1_92), .val (.ref b93), .unset, .unset, .unset, .unset, .unset] [(.int (p4 + (0 : Int32))), (.int p4)])) (fun t k => st105 t k) ?_
    have hc68_106 : p4 = (p4 + (0 : Int32)) := (own_add0 p4)
    refine step (T105.setTop (mkF m 71 #[.val (.int p0), .val (.int p1), .val (.int p2), .val (.int p3), .val (.int p4), .val (.int (2 : Int32)), .val (.ref b1_92), .val (.ref b93), .unset, .unset, .unset, .unset, .unset] [])) (fun t k => XS.icmpNo X105.here hx rfl (hb hby at_68) rfl (teq hc68_106).2 k) ?_
    refine step (T105.setTop (mkF m 73 #[.val (.int p0), .val (.int p1), .val (.int p2), .val (.int p3), .val (.int p4), .val (.int (2 : Int32)), .val (.ref b1_92), .val (.ref b93), .unset, .unset, .unset, .unset, .unset] [(.ref b93)])) (fun t k => XS.aload X105.here hx rfl (hb hby at_71) rfl rfl k) ?_
    refine step (T105.setTop (mkF m 74 #[.val (.int p0), .val (.int p1), .val (.int p2), .val (.int p3), .val (.int p4), .val (.int (2 : Int32)), .val (.ref b1_92), .val (.ref b93), .unset, .unset, .unset, .unset, .unset] [(.int (1 : Int32)), (.ref b93)])) (fun t k => XS.iconst X105.here hx rfl (hb hby at_73) k) ?_
    obtain ⟨cl107, Ar107, q107, S107, N107n, H107, G107⟩ := id q0_103
    have hin107 : ¬ ((1 : Int32) < 0 ∨ cl107.slots.size ≤ ((1 : Int32)).toNatClampNeg) := inb_of S107 ⟨by decide, by decide⟩
    have hat107 : cl107.slots[((1 : Int32)).toNatClampNeg]? = some (.int (p4 + (1 : Int32))) := H107.at hin107 rfl
    refine step (T105.setTop (mkF m 75 #[.val (.int p0), .val (.int p1), .val (.int p2), .val (.int p3), .val (.int p4), .val (.int (2 : Int32)), .val (.ref b1_92), .val (.ref b93), .unset, .unset, .unset, .unset, .unset] [(.int (p4 + (1 : Int32)))])) (fun t k => X105.iaload hx (j := (1 : Int32)) (v := (.int (p4 + (1 : Int32)))) (by rw [e105q]; exact Ar107.1) (State.isArrayOf_alike hZ.alike Ar107.2.1) Ar107.2.2 hin107 hat107 (g := (mkF m 74 #[.val (.int p0), .val (.int p1), .val (.int p2), .val (.int p3), .val (.int p4), .val (.int (2 : Int32)), .val (.ref b1_92), .val (.ref b93), .unset, .unset, .unset, .unset, .unset] [(.int (1 : Int32)), (.ref b93)])) rfl rfl (hb hby at_74) t k) ?_
    refine step (T105.setTop (mkF m 76 #[.val (.int p0), .val (.int p1), .val (.int p2), .val (.int p3), .val (.int p4), .val (.int (2 : Int32)), .val (.ref b1_92), .val (.ref b93), .unset, .unset, .unset, .unset, .unset] [(.int (1 : Int32)), (.int (p4 + (1 : Int32)))])) (fun t k => XS.iconst X105.here hx rfl (hb hby at_75) k) ?_
    refine step (T105.setTop (mkF m 78 #[.val (.int p0), .val (.int p1), .val (.int p2), .val (.int p3), .val (.int p4), .val (.int (2 : Int32)), .val (.ref b1_92), .val (.ref b93), .unset, .unset, .unset, .unset, .unset] [(.int (2 : Int32)), (.int (1 : Int32)), (.int (p4 + (1 : Int32)))])) (fun t k => XS.iload X105.here hx rfl (hb hby at_76) rfl k) ?_
    refine step (T105.setTop (mkF m 79 #[.val (.int p0), .val (.int p1), .val (.int p2), .val (.int p3), .val (.int p4), .val (.int (2 : Int32)), .val (.ref b1_92), .val (.ref b93), .unset, .unset, .unset, .unset, .unset] [(.int p1), (.int (2 : Int32)), (.int (1 : Int32)), (.int (p4 + (1 : Int32)))])) (fun t k => XS.iloadN X105.here hx rfl (hb hby at_78) rfl k) ?_
    refine step (T105.setTop (mkF m 81 #[.val (.int p0), .val (.int p1), .val (.int p2), .val (.int p3), .val (.int p4), .val (.int (2 : Int32)), .val (.ref b1_92), .val (.ref b93), .unset, .unset, .unset, .unset, .unset] [(.int p4), (.int p1), (.int (2 : Int32)), (.int (1 : Int32)), (.int (p4 + (1 : Int32)))])) (fun t k => XS.iload X105.here hx rfl (hb hby at_79) rfl k) ?_
    obtain ⟨_, _, ⟨T108, L108, k108, n108⟩, -, X108, ⟨Lc108, hQ108, l108, y108, z108⟩, st108⟩ := Jvm.LawKit.callS X105 hx (y := (⟨"com/example/vertex_to_service/vertextoservice/core/ChoicesOfPinLaw", "expected", "(IIII)I"⟩ : MethodName)) hown (mvT hZ (hw _ (List.mem_of_getElem? (i := 96) rfl))) (mvT hZ (hw _ (List.mem_of_getElem? (i := 97) rfl))) (mvT hZ (hw _ (List.mem_of_getElem? (i := 98) rfl))) (mvT hZ (hw _ (List.mem_of_getElem? (i := 99) rfl))) (by decide) (backOf (W := 1) (rm17_43 l Z a0 hw [] p1 p4 h103 n0 (Nat.le_trans Z0 K103.1) (own_add0 p4)) hZ (hw _ (List.mem_of_getElem? (i := 99) rfl)) (hw _ (List.mem_of_getElem? (i := 98) rfl)) (by decide) (by decide)) (g := (mkF m 81 #[.val (.int p0), .val (.int p1), .val (.int p2), .val (.int p3), .val (.int p4), .val (.int (2 : Int32)), .val (.ref b1_92), .val (.ref b93), .unset, .unset, .unset, .unset, .unset] [(.int p4), (.int p1), (.int (2 : Int32)), (.int (1 : Int32)), (.int (p4 + (1 : Int32)))])) rfl (by rw [hml]; rfl) (argsL := [(.int (1 : Int32)), (.int (2 : Int32)), (.int p1), (.int p4)]) (rest := [(.int (p4 + (1 : Int32)))]) (lenOf pd_2 rfl) rfl (by show 2 * 0 + _ ≤ _; exact Nat.le_of_eq rfl) (hb hby at_81) (fun _ _ => ⟨rfl, e105q, (by decide : 4 + 0 ≤ _), (by decide : 30 + 0 ≤ _)⟩)
    dsimp only [Pt.U, Pt.locs, Pt.cells, Pt.slots] at X108 l108 y108 z108 st108 hQ108
    subst l108 y108 z108
    obtain ⟨rfl, N108q, e108q⟩ := hQ108
    have N108 := Fr.app N105 N108q
    refine step (T108.setTop (mkF m 84 #[.val (.int p0), .val (.int p1), .val (.int p2), .val (.int p3), .val (.int p4), .val (.int (2 : Int32)), .val (.ref b1_92), .val (.ref b93), .unset, .unset, .unset, .unset, .unset] [(.int (p4 + (1 : Int32))), (.int (p4 + (1 : Int32)))])) (fun t k => st108 t k) ?_
    refine step (T108.setTop (mkF m 87 #[.val (.int p0), .val (.int p1), .val (.int p2), .val (.int p3), .val (.int p4), .val (.int (2 : Int32)), .val (.ref b1_92), .val (.ref b93), .unset, .unset, .unset, .unset, .unset] [])) (fun t k => XS.icmpNo X108.here hx rfl (hb hby at_84) rfl (teq (rfl : (p4 + (1 : Int32)) = (p4 + (1 : Int32)))).2 k) ?_
    refine step (T108.setTop (mkF m 89 #[.val (.int p0), .val (.int p1), .val (.int p2), .val (.int p3), .val (.int p4), .val (.int (2 : Int32)), .val (.ref b1_92), .val (.ref b93), .unset, .unset, .unset, .unset, .unset] [(.ref b93)])) (fun t k => XS.aload X108.here hx rfl (hb hby at_87) rfl rfl k) ?_
    refine step (T108.setTop (mkF m 90 #[.val (.int p0), .val (.int p1), .val (.int p2), .val (.int p3), .val (.int p4), .val (.int (2 : Int32)), .val (.ref b1_92), .val (.ref b93), .unset, .unset, .unset, .unset, .unset] [(.int (2 : Int32)), (.ref b93)])) (fun t k => XS.iconst X108.here hx rfl (hb hby at_89) k) ?_
    obtain ⟨cl109, Ar109, q109, S109, N109n, H109, G109⟩ := id q0_103
    have hin109 : ¬ ((2 : Int32) < 0 ∨ cl109.slots.size ≤ ((2 : Int32)).toNatClampNeg) := inb_of S109 ⟨by decide, by decide⟩
    have hat109 : cl109.slots[((2 : Int32)).toNatClampNeg]? = some (.int p1) := H109.at hin109 rfl
    refine step (T108.setTop (mkF m 91 #[.val (.int p0), .val (.int p1), .val (.int p2), .val (.int p3), .val (.int p4), .val (.int (2 : Int32)), .val (.ref b1_92), .val (.ref b93), .unset, .unset, .unset, .unset, .unset] [(.int p1)])) (fun t k => X108.iaload hx (j := (2 : Int32)) (v := (.int p1)) (by rw [e108q]; exact Ar109.1) (State.isArrayOf_alike hZ.alike Ar109.2.1) Ar109.2.2 hin109 hat109 (g := (mkF m 90 #[.val (.int p0), .val (.int p1), .val (.int p2), .val (.int p3), .val (.int p4), .val (.int (2 : Int32)), .val (.ref b1_92), .val (.ref b93), .unset, .unset, .unset, .unset, .unset] [(.int (2 : Int32)), (.ref b93)])) rfl rfl (hb hby at_90) t k) ?_
    refine step (T108.setTop (mkF m 92 #[.val (.int p0), .val (.int p1), .val (.int p2), .val (.int p3), .val (.int p4), .val (.int (2 : Int32)), .val (.ref b1_92), .val (.ref b93), .unset, .unset, .unset, .unset, .unset] [(.int (2 : Int32)), (.int p1)])) (fun t k => XS.iconst X108.here hx rfl (hb hby at_91) k) ?_
    refine step (T108.setTop (mkF m 94 #[.val (.int p0), .val (.int p1), .val (.int p2), .val (.int p3), .val (.int p4), .val (.int (2 : Int32)), .val (.ref b1_92), .val (.ref b93), .unset, .unset, .unset, .unset, .unset] [(.int (2 : Int32)), (.int (2 : Int32)), (.int p1)])) (fun t k => XS.iload X108.here hx rfl (hb hby at_92) rfl k) ?_
    refine step (T108.setTop (mkF m 95 #[.val (.int p0), .val (.int p1), .val (.int p2), .val (.int p3), .val (.int p4), .val (.int (2 : Int32)), .val (.ref b1_92), .val (.ref b93), .unset, .unset, .unset, .unset, .unset] [(.int p1), (.int (2 : Int32)), (.int (2 : Int32)), (.int p1)])) (fun t k => XS.iloadN X108.here hx rfl (hb hby at_94) rfl k) ?_
    refine step (T108.setTop (mkF m 97 #[.val (.int p0), .val (.int p1), .val (.int p2), .val (.int p3), .val (.int p4), .val (.int (2 : Int32)), .val (.ref b1_92), .val (.ref b93), .unset, .unset, .unset, .unset, .unset] [(.int p4), (.int p1), (.int (2 : Int32)), (.int (2 : Int32)), (.int p1)])) (fun t k => XS.iload X108.here hx rfl (hb hby at_95) rfl k) ?_
    obtain ⟨_, _, ⟨T110, L110, k110, n110⟩, -, X110, ⟨Lc110, hQ110, l110, y110, z110⟩, st110⟩ := Jvm.LawKit.callS X108 hx (y := (⟨"com/example/vertex_to_service/vertextoservice/core/ChoicesOfPinLaw", "expected", "(IIII)I"⟩ : MethodName)) hown (mvT hZ (hw _ (List.mem_of_getElem? (i := 96) rfl))) (mvT hZ (hw _ (List.mem_of_getElem? (i := 97) rfl))) (mvT hZ (hw _ (List.mem_of_getElem? (i := 98) rfl))) (mvT hZ (hw _ (List.mem_of_getElem? (i := 99) rfl))) (by decide) (backOf (W := 1) (rm17_44 l Z a0 hw [] p1 p4 h103 n0 (Nat.le_trans Z0 K103.1) (own_add0 p4)) hZ (hw _ (List.mem_of_getElem? (i := 99) rfl)) (hw _ (List.mem_of_getElem? (i := 98) rfl)) (by decide) (by decide)) (g := (mkF m 97 #[.val (.int p0), .val (.int p1), .val (.int p2), .val (.int p3), .val (.int p4), .val (.int (2 : Int32)), .val (.ref b1_92), .val (.ref b93), .unset, .unset, .unset, .unset, .unset] [(.int p4), (.int p1), (.int (2 : Int32)), (.int (2 : Int32)), (.int p1)])) rfl (by rw [hml]; rfl) (argsL := [(.int (2 : Int32)), (.int (2 : Int32)), (.int p1), (.int p4)]) (rest := [(.int p1)]) (lenOf pd_2 rfl) rfl (by show 2 * 0 + _ ≤ _; exact Nat.le_of_eq rfl) (hb hby at_97) (fun _ _ => ⟨rfl, e108q, (by decide : 4 + 0 ≤ _), (by decide : 30 + 0 ≤ _)⟩)
    dsimp only [Pt.U, Pt.locs, Pt.cells, Pt.slots] at X110 l110 y110 z110 st110 hQ110
    subst l110 y110 z110
    obtain ⟨rfl, N110q, e110q⟩ := hQ110
    have N110 := Fr.app N108 N110q
    refine step (T110.setTop (mkF m 100 #[.val (.int p0), .val (.int p1), .val (.int p2), .val (.int p3), .val (.int p4), .val (.int (2 : Int32)), .val (.ref b1_92), .val (.ref b93), .unset, .unset, .unset, .unset, .unset] [(.int p1), (.int p1)])) (fun t k => st110 t k) ?_
    refine step (T110.setTop (mkF m 103 #[.val (.int p0), .val (.int p1), .val (.int p2), .val (.int p3), .val (.int p4), .val (.int (2 : Int32)), .val (.ref b1_92), .val (.ref b93), .unset, .unset, .unset, .unset, .unset] [])) (fun t k => XS.icmpNo X110.here hx rfl (hb hby at_100) rfl (teq (rfl : p1 = p1)).2 k) ?_
    refine step (T110.setTop (mkF m 105 #[.val (.int p0), .val (.int p1), .val (.int p2), .val (.int p3), .val (.int p4), .val (.int (2 : Int32)), .val (.ref b1_92), .val (.ref b93), .unset, .unset, .unset, .unset, .unset] [(.ref b93)])) (fun t k => XS.aload X110.here hx rfl (hb hby at_103) rfl rfl k) ?_
    refine step (T110.setTop (mkF m 106 #[.val (.int p0), .val (.int p1), .val (.int p2), .val (.int p3), .val (.int p4), .val (.int (2 : Int32)), .val (.ref b1_92), .val (.ref b93), .unset, .unset, .unset, .unset, .unset] [(.int (3 : Int32)), (.ref b93)])) (fun t k => XS.iconst X110.here hx rfl (hb hby at_105) k) ?_
    obtain ⟨cl111, Ar111, q111, S111, N111n, H111, G111⟩ := id q0_103
    have hin111 : ¬ ((3 : Int32) < 0 ∨ cl111.slots.size ≤ ((3 : Int32)).toNatClampNeg) := inb_of S111 ⟨by decide, by decide⟩
    have hat111 : cl111.slots[((3 : Int32)).toNatClampNeg]? = some (.int (p4 + (3 : Int32))) := H111.at hin111 rfl
    refine step (T110.setTop (mkF m 107 #[.val (.int p0), .val (.int p1), .val (.int p2), .val (.int p3), .val (.int p4), .val (.int (2 : Int32)), .val (.ref b1_92), .val (.ref b93), .unset, .unset, .unset, .unset, .unset] [(.int (p4 + (3 : Int32)))])) (fun t k => X110.iaload hx (j := (3 : Int32)) (v := (.int (p4 + (3 : Int32)))) (by rw [e110q]; exact Ar111.1) (State.isArrayOf_alike hZ.alike Ar111.2.1) Ar111.2.2 hin111 hat111 (g := (mkF m 106 #[.val (.int p0), .val (.int p1), .val (.int p2), .val (.int p3), .val (.int p4), .val (.int (2 : Int32)), .val (.ref b1_92), .val (.ref b93), .unset, .unset, .unset, .unset, .unset] [(.int (3 : Int32)), (.ref b93)])) rfl rfl (hb hby at_106) t k) ?_
    refine step (T110.setTop (mkF m 108 #[.val (.int p0), .val (.int p1), .val (.int p2), .val (.int p3), .val (.int p4), .val (.int (2 : Int32)), .val (.ref b1_92), .val (.ref b93), .unset, .unset, .unset, .unset, .unset] [(.int (3 : Int32)), (.int (p4 + (3 : Int32)))])) (fun t k => XS.iconst X110.here hx rfl (hb hby at_107) k) ?_
    refine step (T110.setTop (mkF m 110 #[.val (.int p0), .val (.int p1), .val (.int p2), .val (.int p3), .val (.int p4), .val (.int (2 : Int32)), .val (.ref b1_92), .val (.ref b93), .unset, .unset, .unset, .unset, .unset] [(.int (2 : Int32)), (.int (3 : Int32)), (.int (p4 + (3 : Int32)))])) (fun t k => XS.iload X110.here hx rfl (hb hby at_108) rfl k) ?_
    refine step (T110.setTop (mkF m 111 #[.val (.int p0), .val (.int p1), .val (.int p2), .val (.int p3), .val (.int p4), .val (.int (2 : Int32)), .val (.ref b1_92), .val (.ref b93), .unset, .unset, .unset, .unset, .unset] [(.int p1), (.int (2 : Int32)), (.int (3 : Int32)), (.int (p4 + (3 : Int32)))])) (fun t k => XS.iloadN X110.here hx rfl (hb hby at_110) rfl k) ?_
    refine step (T110.setTop (mkF m 113 #[.val (.int p0), .val (.int p1), .val (.int p2), .val (.int p3), .val (.int p4), .val (.int (2 : Int32)), .val (.ref b1_92), .val (.ref b93), .unset, .unset, .unset, .unset, .unset] [(.int p4), (.int p1), (.int (2 : Int32)), (.int (3 : Int32)), (.int (p4 + (3 : Int32)))])) (fun t k => XS.iload X110.here hx rfl (hb hby at_111) rfl k) ?_
    obtain ⟨_, _, ⟨T112, L112, k112, n112⟩, -, X112, ⟨Lc112, hQ112, l112, y112, z112⟩, st112⟩ := Jvm.LawKit.callS X110 hx (y := (⟨"com/example/vertex_to_service/vertextoservice/core/ChoicesOfPinLaw", "expected", "(IIII)I"⟩ : MethodName)) hown (mvT hZ (hw _ (List.mem_of_getElem? (i := 96) rfl))) (mvT hZ (hw _ (List.mem_of_getElem? (i := 97) rfl))) (mvT hZ (hw _ (List.mem_of_getElem? (i := 98) rfl))) (mvT hZ (hw _ (List.mem_of_getElem? (i := 99) rfl))) (by decide) (backOf (W := 1) (rm17_45 l Z a0 hw [] p1 p4 h103 n0 (Nat.le_trans Z0 K103.1) (own_add0 p4)) hZ (hw _ (List.mem_of_getElem? (i := 99) rfl)) (hw _ (List.mem_of_getElem? (i := 98) rfl)) (by decide) (by decide)) (g := (mkF m 113 #[.val (.int p0), .val (.int p1), .val (.int p2), .val (.int p3), .val (.int p4), .val (.int (2 : Int32)), .val (.ref b1_92), .val (.ref b93), .unset, .unset, .unset, .unset, .unset] [(.int p4), (.int p1), (.int (2 : Int32)), (.int (3 : Int32)), (.int (p4 + (3 : Int32)))])) rfl (by rw [hml]; rfl) (argsL := [(.int (3 : Int32)), (.int (2 : Int32)), (.int p1), (.int p4)]) (rest := [(.int (p4 + (3 : Int32)))]) (lenOf pd_2 rfl) rfl (by show 2 * 0 + _ ≤ _; exact Nat.le_of_eq rfl) (hb hby at_113) (fun _ _ => ⟨rfl, e110q, (by decide : 4 + 0 ≤ _), (by decide : 30 + 0 ≤ _)⟩)
    dsimp only [Pt.U, Pt.locs, Pt.cells, Pt.slots] at X112 l112 y112 z112 st112 hQ112
    subst l112 y112 z112
    obtain ⟨rfl, N112q, e112q⟩ := hQ112
    have N112 := Fr.app N110 N112q
    refine step (T112.setTop (mkF m 116 #[.val (.int p0), .val (.int p1), .val (.int p2), .val (.int p3), .val (.int p4), .val (.int (2 : Int32)), .val (.ref b1_92), .val (.ref b93), .unset, .unset, .unset, .unset, .unset] [(.int (p4 + (3 : Int32))), (.int (p4 + (3 : Int32)))])) (fun t k => st112 t k) ?_
    refine step (T112.setTop (mkF m 119 #[.val (.int p0), .val (.int p1), .val (.int p2), .val (.int p3), .val (.int p4), .val (.int (2 : Int32)), .val (.ref b1_92), .val (.ref b93), .unset, .unset, .unset, .unset, .unset] [])) (fun t k => XS.icmpNo X112.here hx rfl (hb hby at_116) rfl (teq (rfl : (p4 + (3 : Int32)) = (p4 + (3 : Int32)))).2 k) ?_
    refine step (T112.setTop (mkF m 120 #[.val (.int p0), .val (.int p1), .val (.int p2), .val (.int p3), .val (.int p4), .val (.int (2 : Int32)), .val (.ref b1_92), .val (.ref b93), .unset, .unset, .unset, .unset, .unset] [(.int (1 : Int32))])) (fun t k => XS.iconst X112.here hx rfl (hb hby at_119) k) ?_
    refine step (T112.setTop (mkF m 124 #[.val (.int p0), .val (.int p1), .val (.int p2), .val (.int p3), .val (.int p4), .val (.int (2 : Int32)), .val (.ref b1_92), .val (.ref b93), .unset, .unset, .unset, .unset, .unset] [(.int (1 : Int32))])) (fun t k => XS.goto X112.here hx rfl (pc0 := 120) (pc' := 124) rfl (hb hby at_120) (by decide) (by decide) k) ?_
    refine step (T112.setTop (mkF m 126 #[.val (.int p0), .val (.int p1), .val (.int p2), .val (.int p3), .val (.int p4), .val (.int (2 : Int32)), .val (.ref b1_92), .val (.ref b93), .val (.int (1 : Int32)), .unset, .unset, .unset, .unset] [])) (fun t k => XS.istore X112.here hx rfl (hb hby at_124) rfl (l' := #[.val (.int p0), .val (.int p1), .val (.int p2), .val (.int p3), .val (.int p4), .val (.int (2 : Int32)), .val (.ref b1_92), .val (.ref b93), .val (.int (1 : Int32)), .unset, .unset, .unset, .unset]) rfl k) ?_
    refine step (T112.setTop (mkF m 127 #[.val (.int p0), .val (.int p1), .val (.int p2), .val (.int p3), .val (.int p4), .val (.int (2 : Int32)), .val (.ref b1_92), .val (.ref b93), .val (.int (1 : Int32)), .unset, .unset, .unset, .unset] [(.int p0)])) (fun t k => XS.iloadN X112.here hx rfl (hb hby at_126) rfl k) ?_
    refine step (T112.setTop (mkF m 129 #[.val (.int p0), .val (.int p1), .val (.int p2), .val (.int p3), .val (.int p4), .val (.int (2 : Int32)), .val (.ref b1_92), .val (.ref b93), .val (.int (1 : Int32)), .unset, .unset, .unset, .unset] [(.int (2147483647 : Int32)), (.int p0)])) (fun t k => X112.ldcInt hx hown (mvT hZ (hw _ (List.mem_of_getElem? (i := 100) rfl))) (g := (mkF m 127 #[.val (.int p0), .val (.int p1), .val (.int p2), .val (.int p3), .val (.int p4), .val (.int (2 : Int32)), .val (.ref b1_92), .val (.ref b93), .val (.int (1 : Int32)), .unset, .unset, .unset, .unset] [(.int p0)])) rfl (hb hby at_127) t k) ?_
    refine step (T112.setTop (mkF m 130 #[.val (.int p0), .val (.int p1), .val (.int p2), .val (.int p3), .val (.int p4), .val (.int (2 : Int32)), .val (.ref b1_92), .val (.ref b93), .val (.int (1 : Int32)), .unset, .unset, .unset, .unset] [(.int (p0 &&& (2147483647 : Int32)))])) (fun t k => XS.iand X112.here hx rfl (hb hby at_129) rfl k) ?_
    generalize hpv : (p0 &&& (2147483647 : Int32)) = pv
    have nn_pv := own_nn _ _ hpv
    refine step (T112.setTop (mkF m 132 #[.val (.int p0), .val (.int p1), .val (.int p2), .val (.int p3), .val (.int p4), .val (.int (2 : Int32)), .val (.ref b1_92), .val (.ref b93), .val (.int (1 : Int32)), .val (.int pv), .unset, .unset, .unset] [])) (fun t k => XS.istore X112.here hx rfl (hb hby at_130) rfl (l' := #[.val (.int p0), .val (.int p1), .val (.int p2), .val (.int p3), .val (.int p4), .val (.int (2 : Int32)), .val (.ref b1_92), .val (.ref b93), .val (.int (1 : Int32)), .val (.int pv), .unset, .unset, .unset]) rfl k) ?_
    refine step (T112.setTop (mkF m 133 #[.val (.int p0), .val (.int p1), .val (.int p2), .val (.int p3), .val (.int p4), .val (.int (2 : Int32)), .val (.ref b1_92), .val (.ref b93), .val (.int (1 : Int32)), .val (.int pv), .unset, .unset, .unset] [(.int p2)])) (fun t k => XS.iloadN X112.here hx rfl (hb hby at_132) rfl k) ?_
    refine step (T112.setTop (mkF m 135 #[.val (.int p0), .val (.int p1), .val (.int p2), .val (.int p3), .val (.int p4), .val (.int (2 : Int32)), .val (.ref b1_92), .val (.ref b93), .val (.int (1 : Int32)), .val (.int pv), .unset, .unset, .unset] [(.int (2147483647 : Int32)), (.int p2)])) (fun t k => X112.ldcInt hx hown (mvT hZ (hw _ (List.mem_of_getElem? (i := 100) rfl))) (g := (mkF m 133 #[.val (.int p0), .val (.int p1), .val (.int p2), .val (.int p3), .val (.int p4), .val (.int (2 : Int32)), .val (.ref b1_92), .val (.ref b93), .val (.int (1 : Int32)), .val (.int pv), .unset, .unset, .unset] [(.int p2)])) rfl (hb hby at_133) t k) ?_
    refine step (T112.setTop (mkF m 136 #[.val (.int p0), .val (.int p1), .val (.int p2), .val (.int p3), .val (.int p4), .val (.int (2 : Int32)), .val (.ref b1_92), .val (.ref b93), .val (.int (1 : Int32)), .val (.int pv), .unset, .unset, .unset] [(.int (p2 &&& (2147483647 : Int32)))])) (fun t k => XS.iand X112.here hx rfl (hb hby at_135) rfl k) ?_
    generalize hqv : (p2 &&& (2147483647 : Int32)) = qv
    have nn_qv := own_nn _ _ hqv
    refine step (T112.setTop (mkF m 138 #[.val (.int p0), .val (.int p1), .val (.int p2), .val (.int p3), .val (.int p4), .val (.int (2 : Int32)), .val (.ref b1_92), .val (.ref b93), .val (.int (1 : Int32)), .val (.int pv), .val (.int qv), .unset, .unset] [])) (fun t k => XS.istore X112.here hx rfl (hb hby at_136) rfl (l' := #[.val (.int p0), .val (.int p1), .val (.int p2), .val (.int p3), .val (.int p4), .val (.int (2 : Int32)), .val (.ref b1_92), .val (.ref b93), .val (.int (1 : Int32)), .val (.int pv), .val (.int qv), .unset, .unset]) rfl k) ?_
    refine step (T112.setTop (mkF m 140 #[.val (.int p0), .val (.int p1), .val (.int p2), .val (.int p3), .val (.int p4), .val (.int (2 : Int32)), .val (.ref b1_92), .val (.ref b93), .val (.int (1 : Int32)), .val (.int pv), .val (.int qv), .unset, .unset] [(.int pv)])) (fun t k => XS.iload X112.here hx rfl (hb hby at_138) rfl k) ?_
    refine step (T112.setTop (mkF m 141 #[.val (.int p0), .val (.int p1), .val (.int p2), .val (.int p3), .val (.int p4), .val (.int (2 : Int32)), .val (.ref b1_92), .val (.ref b93), .val (.int (1 : Int32)), .val (.int pv), .val (.int qv), .unset, .unset] [(.int p1), (.int pv)])) (fun t k => XS.iloadN X112.here hx rfl (hb hby at_140) rfl k) ?_
    obtain ⟨_, _, ⟨T113, L113, k113, n113⟩, -, X113, ⟨Lc113, hQ113, l113, y113, z113⟩, st113⟩ := Jvm.LawKit.callS X112 hx (y := (⟨"com/example/vertex_to_service/vertextoservice/core/Choices", "of", "(II)Lcom/example/vertex_to_service/vertextoservice/core/Choices;"⟩ : MethodName)) hown (mvT hZ (hw _ (List.mem_of_getElem? (i := 0) rfl))) (mvT hZ (hw _ (List.mem_of_getElem? (i := 1) rfl))) (mvT hZ (hw _ (List.mem_of_getElem? (i := 2) rfl))) (mvT hZ (hw _ (List.mem_of_getElem? (i := 3) rfl))) (by decide) (backOf (W := 0) (rm1_21 l Z a0 hw [] pv p1 h103 n0 (Nat.le_trans Z0 K103.1) nn_pv) hZ (hw _ (List.mem_of_getElem? (i := 3) rfl)) (hw _ (List.mem_of_getElem? (i := 2) rfl)) (by decide) (by decide)) (g := (mkF m 141 #[.val (.int p0), .val (.int p1), .val (.int p2), .val (.int p3), .val (.int p4), .val (.int (2 : Int32)), .val (.ref b1_92), .val (.ref b93), .val (.int (1 : Int32)), .val (.int pv), .val (.int qv), .unset, .unset] [(.int p1), (.int pv)])) rfl (by rw [hml]; rfl) (argsL := [(.int pv), (.int p1)]) (rest := []) (lenOf pd_0 rfl) rfl (by show 2 * 0 + _ ≤ _; exact Nat.le_of_eq rfl) (hb hby at_141) (fun _ _ => ⟨rfl, e112q, (by decide : 4 + 1 ≤ _), (by decide : 30 + 6 ≤ _)⟩)
    dsimp only [Pt.U, Pt.locs, Pt.cells, Pt.slots] at X113 l113 y113 z113 st113 hQ113
    subst l113 y113 z113
    obtain ⟨h113, e113⟩ : ∃ z, T113.heap = z := ⟨_, rfl⟩
    rw [e113] at hQ113
    obtain ⟨b1_113, rfl, N113q, K113q, sz_b1_113, q0_113, q1_113, q2_113, q3_113, q4_113, q5_113, q6_113⟩ := hQ113
    have N113 := Fr.app N112 N113q
    have f114 := (f98.keep K103q)
    have lt113_b1_92 := f114.lt
    have lt113_b93 := q0_103.lt
    have ne_b1_92_b1_113 : b1_92 ≠ b1_113 := Nat.ne_of_lt (Nat.lt_of_lt_of_le lt113_b1_92 sz_b1_113)
    have ne_b93_b1_113 : b93 ≠ b1_113 := Nat.ne_of_lt (Nat.lt_of_lt_of_le lt113_b93 sz_b1_113)
    have gn_b1_113 : n0 ≤ b1_113 := Nat.le_trans (Nat.le_trans Z0 K103.1) sz_b1_113
    have sz_b1_113' := Nat.le_trans K103.1 sz_b1_113
    replace sz_b1_113 := sz_b1_113'
    have K113 : Keep h0 h113 [] := K103.trans K113q all0
    refine step (T113.setTop (mkF m 144 #[.val (.int p0), .val (.int p1), .val (.int p2), .val (.int p3), .val (.int p4), .val (.int (2 : Int32)), .val (.ref b1_92), .val (.ref b93), .val (.int (1 : Int32)), .val (.int pv), .val (.int qv), .unset, .unset] [(.ref b1_113)])) (fun t k => st113 t k) ?_
    refine step (T113.setTop (mkF m 146 #[.val (.int p0), .val (.int p1), .val (.int p2), .val (.int p3), .val (.int p4), .val (.int (2 : Int32)), .val (.ref b1_92), .val (.ref b93), .val (.int (1 : Int32)), .val (.int pv), .val (.int qv), .val (.ref b1_113), .unset] [])) (fun t k => XS.astore X113.here hx rfl (hb hby at_144) rfl rfl (l' := #[.val (.int p0), .val (.int p1), .val (.int p2), .val (.int p3), .val (.int p4), .val (.int (2 : Int32)), .val (.ref b1_92), .val (.ref b93), .val (.int (1 : Int32)), .val (.int pv), .val (.int qv), .val (.ref b1_113), .unset]) rfl k) ?_
    refine step (T113.setTop (mkF m 148 #[.val (.int p0), .val (.int p1), .val (.int p2), .val (.int p3), .val (.int p4), .val (.int (2 : Int32)), .val (.ref b1_92), .val (.ref b93), .val (.int (1 : Int32)), .val (.int pv), .val (.int qv), .val (.ref b1_113), .unset] [(.int qv)])) (fun t k => XS.iload X113.here hx rfl (hb hby at_146) rfl k) ?_
    refine step (T113.setTop (mkF m 149 #[.val (.int p0), .val (.int p1), .val (.int p2), .val (.int p3), .val (.int p4), .val (.int (2 : Int32)), .val (.ref b1_92), .val (.ref b93), .val (.int (1 : Int32)), .val (.int pv), .val (.int qv), .val (.ref b1_113), .unset] [(.int p3), (.int qv)])) (fun t k => XS.iloadN X113.here hx rfl (hb hby at_148) rfl k) ?_
    obtain ⟨_, _, ⟨T115, L115, k115, n115⟩, -, X115, ⟨Lc115, hQ115, l115, y115, z115⟩, st115⟩ := Jvm.LawKit.callS X113 hx (y := (⟨"com/example/vertex_to_service/vertextoservice/core/Choices", "of", "(II)Lcom/example/vertex_to_service/vertextoservice/core/Choices;"⟩ : MethodName)) hown (mvT hZ (hw _ (List.mem_of_getElem? (i := 0) rfl))) (mvT hZ (hw _ (List.mem_of_getElem? (i := 1) rfl))) (mvT hZ (hw _ (List.mem_of_getElem? (i := 2) rfl))) (mvT hZ (hw _ (List.mem_of_getElem? (i := 3) rfl))) (by decide) (backOf (W := 0) (rm1_21 l Z a0 hw [] qv p3 h113 n0 (Nat.le_trans Z0 K113.1) nn_qv) hZ (hw _ (List.mem_of_getElem? (i := 3) rfl)) (hw _ (List.mem_of_getElem? (i := 2) rfl)) (by decide) (by decide)) (g := (mkF m 149 #[.val (.int p0), .val (.int p1), .val (.int p2), .val (.int p3), .val (.int p4), .val (.int (2 : Int32)), .val (.ref b1_92), .val (.ref b93), .val (.int (1 : Int32)), .val (.int pv), .val (.int qv), .val (.ref b1_113), .unset] [(.int p3), (.int qv)])) rfl (by rw [hml]; rfl) (argsL := [(.int qv), (.int p3)]) (rest := []) (lenOf pd_0 rfl) rfl (by show 2 * 0 + _ ≤ _; exact Nat.le_of_eq rfl) (hb hby at_149) (fun _ _ => ⟨rfl, e113, (by decide : 5 + 1 ≤ _), (by decide : 36 + 6 ≤ _)⟩)
    dsimp only [Pt.U, Pt.locs, Pt.cells, Pt.slots] at X115 l115 y115 z115 st115 hQ115
    subst l115 y115 z115
    obtain ⟨h115, e115⟩ : ∃ z, T115.heap = z := ⟨_, rfl⟩
    rw [e115] at hQ115
    obtain ⟨b1_115, rfl, N115q, K115q, sz_b1_115, q0_115, q1_115, q2_115, q3_115, q4_115, q5_115, q6_115⟩ := hQ115
    have N115 := Fr.app N113 N115q
    have f116 := (f114.keep K113q)
    have lt115_b1_92 := f116.lt
    have f117 := (q0_103.keep K113q nin0)
    have lt115_b93 := f117.lt
    have lt115_b1_113 := q0_113.lt
    have ne_b1_92_b1_115 : b1_92 ≠ b1_115 := Nat.ne_of_lt (Nat.lt_of_lt_of_le lt115_b1_92 sz_b1_115)
    have ne_b93_b1_115 : b93 ≠ b1_115 := Nat.ne_of_lt (Nat.lt_of_lt_of_le lt115_b93 sz_b1_115)
    have ne_b1_113_b1_115 : b1_113 ≠ b1_115 := Nat.ne_of_lt (Nat.lt_of_lt_of_le lt115_b1_113 sz_b1_115)
    have gn_b1_115 : n0 ≤ b1_115 := Nat.le_trans (Nat.le_trans Z0 K113.1) sz_b1_115
    have sz_b1_115' := Nat.le_trans K113.1 sz_b1_115
    replace sz_b1_115 := sz_b1_115'
    have K115 : Keep h0 h115 [] := K113.trans K115q all0
    refine step (T115.setTop (mkF m 152 #[.val (.int p0), .val (.int p1), .val (.int p2), .val (.int p3), .val (.int p4), .val (.int (2 : Int32)), .val (.ref b1_92), .val (.ref b93), .val (.int (1 : Int32)), .val (.int pv), .val (.int qv), .val (.ref b1_113), .unset] [(.ref b1_115)])) (fun t k => st115 t k) ?_
    refine step (T115.setTop (mkF m 154 #[.val (.int p0), .val (.int p1), .val (.int p2), .val (.int p3), .val (.int p4), .val (.int (2 : Int32)), .val (.ref b1_92), .val (.ref b93), .val (.int (1 : Int32)), .val (.int pv), .val (.int qv), .val (.ref b1_113), .val (.ref b1_115)] [])) (fun t k => XS.astore X115.here hx rfl (hb hby at_152) rfl rfl (l' := #[.val (.int p0), .val (.int p1), .val (.int p2), .val (.int p3), .val (.int p4), .val (.int (2 : Int32)), .val (.ref b1_92), .val (.ref b93), .val (.int (1 : Int32)), .val (.int pv), .val (.int qv), .val (.ref b1_113), .val (.ref b1_115)]) rfl k) ?_
    refine step (T115.setTop (mkF m 156 #[.val (.int p0), .val (.int p1), .val (.int p2), .val (.int p3), .val (.int p4), .val (.int (2 : Int32)), .val (.ref b1_92), .val (.ref b93), .val (.int (1 : Int32)), .val (.int pv), .val (.int qv), .val (.ref b1_113), .val (.ref b1_115)] [(.int (1 : Int32))])) (fun t k => XS.iload X115.here hx rfl (hb hby at_154) rfl k) ?_
    refine step (T115.setTop (mkF m 159 #[.val (.int p0), .val (.int p1), .val (.int p2), .val (.int p3), .val (.int p4), .val (.int (2 : Int32)), .val (.ref b1_92), .val (.ref b93), .val (.int (1 : Int32)), .val (.int pv), .val (.int qv), .val (.ref b1_113), .val (.ref b1_115)] [])) (fun t k => XS.ifNo X115.here hx rfl (hb hby at_156) rfl ((if0 _ _).trans (feq (by decide : ¬ ((1 : Int32) = (0 : Int32)))).1) k) ?_
    refine step (T115.setTop (mkF m 161 #[.val (.int p0), .val (.int p1), .val (.int p2), .val (.int p3), .val (.int p4), .val (.int (2 : Int32)), .val (.ref b1_92), .val (.ref b93), .val (.int (1 : Int32)), .val (.int pv), .val (.int qv), .val (.ref b1_113), .val (.ref b1_115)] [(.ref b1_113)])) (fun t k => XS.aload X115.here hx rfl (hb hby at_159) rfl rfl k) ?_
    refine step (T115.setTop (mkF m 163 #[.val (.int p0), .val (.int p1), .val (.int p2), .val (.int p3), .val (.int p4), .val (.int (2 : Int32)), .val (.ref b1_92), .val (.ref b93), .val (.int (1 : Int32)), .val (.int pv), .val (.int qv), .val (.ref b1_113), .val (.ref b1_115)] [(.ref b1_115), (.ref b1_113)])) (fun t k => XS.aload X115.here hx rfl (hb hby at_161) rfl rfl k) ?_
    have f118 := (q0_113.keep K115q)
    have f119 := (q3_113.keep K115q nin0)
    have f120 := (q4_113.keep K115q nin0)
    obtain ⟨cq121, kq121, q121a, q121b, q121c⟩ := isOf hZ e115 f118
    obtain ⟨_, _, ⟨T121, L121, k121, n121⟩, -, X121, ⟨Lc121, hQ121, l121, y121, z121⟩, st121⟩ := X115.virtualBack hx (y := (⟨"com/example/vertex_to_service/vertextoservice/core/Choices", "before", "(Lcom/example/vertex_to_service/vertextoservice/core/Choices;)Z"⟩ : MethodName)) (z := (⟨"com/example/vertex_to_service/vertextoservice/core/Choices", "before", "(Lcom/example/vertex_to_service/vertextoservice/core/Choices;)Z"⟩ : MethodName)) hown (mvT hZ (hw _ (List.mem_of_getElem? (i := 101) rfl))) (mvT hZ (hw _ (List.mem_of_getElem? (i := 102) rfl))) (notFace_of_selects (args := #[]) (mvT hZ (hw _ (List.mem_of_getElem? (i := 104) rfl)))) (mvT hZ (hw _ (List.mem_of_getElem? (i := 104) rfl))) (mvT hZ (hw _ (List.mem_of_getElem? (i := 103) rfl))) (by decide) (backOf (W := 0) (rm18_23 l Z a0 hw [] b1_113 b1_115 pv qv h115 n0 (Nat.le_trans Z0 K115.1) f118 f119 f120 q0_115 q3_115 q4_115 gn_b1_113 ne_b1_113_b1_115 gn_b1_115 nn_pv nn_qv) hZ (hw _ (List.mem_of_getElem? (i := 105) rfl)) (hw _ (List.mem_of_getElem? (i := 2) rfl)) (by decide) (by decide)) q121a q121c (g := (mkF m 163 #[.val (.int p0), .val (.int p1), .val (.int p2), .val (.int p3), .val (.int p4), .val (.int (2 : Int32)), .val (.ref b1_92), .val (.ref b93), .val (.int (1 : Int32)), .val (.int pv), .val (.int qv), .val (.ref b1_113), .val (.ref b1_115)] [(.ref b1_115), (.ref b1_113)])) rfl (by rw [hml]; rfl) (Steps.refl _) (argsL := [(.ref b1_115)]) (rest := []) (lenOf pd_3 rfl) rfl (by show 2 * 0 + _ ≤ _; exact Nat.le_of_eq rfl) (hb hby at_163) (fun _ _ => ⟨rfl, e115, (by decide : 6 + 0 ≤ _), (by decide : 42 + 0 ≤ _)⟩)
    dsimp only [Pt.U, Pt.locs, Pt.cells, Pt.slots] at X121 l121 y121 z121 st121 hQ121
    subst l121 y121 z121
    obtain ⟨z30_7_121, rfl, N121q, e121q, hz30_7_121⟩ := hQ121
    have N121 := Fr.app N115 N121q
    refine step (T121.setTop (mkF m 166 #[.val (.int p0), .val (.int p1), .val (.int p2), .val (.int p3), .val (.int p4), .val (.int (2 : Int32)), .val (.ref b1_92), .val (.ref b93), .val (.int (1 : Int32)), .val (.int pv), .val (.int qv), .val (.ref b1_113), .val (.ref b1_115)] [(.int z30_7_121)])) (fun t k => st121.trans k) ?_
    refine step (T121.setTop (mkF m 168 #[.val (.int p0), .val (.int p1), .val (.int p2), .val (.int p3), .val (.int p4), .val (.int (2 : Int32)), .val (.ref b1_92), .val (.ref b93), .val (.int (1 : Int32)), .val (.int pv), .val (.int qv), .val (.ref b1_113), .val (.ref b1_115)] [(.int pv), (.int z30_7_121)])) (fun t k => XS.iload X121.here hx rfl (hb hby at_166) rfl k) ?_
    refine step (T121.setTop (mkF m 170 #[.val (.int p0), .val (.int p1), .val (.int p2), .val (.int p3), .val (.int p4), .val (.int (2 : Int32)), .val (.ref b1_92), .val (.ref b93), .val (.int (1 : Int32)), .val (.int pv), .val (.int qv), .val (.ref b1_113), .val (.ref b1_115)] [(.int qv), (.int pv), (.int z30_7_121)])) (fun t k => XS.iload X121.here hx rfl (hb hby at_168) rfl k) ?_
    suffices J178_123 : ∀ (z178_122 : Int32), z178_122 = (if pv < qv then (1 : Int32) else (0 : Int32)) → G (T121.setTop (mkF m 178 #[.val (.int p0), .val (.int p1), .val (.int p2), .val (.int p3), .val (.int p4), .val (.int (2 : Int32)), .val (.ref b1_92), .val (.ref b93), .val (.int (1 : Int32)), .val (.int pv), .val (.int qv), .val (.ref b1_113), .val (.ref b1_115)] [(.int z178_122), (.int z30_7_121)])) by
      by_cases hc170_124 : pv < qv
      · -- 170 True
        refine step (T121.setTop (mkF m 173 #[.val (.int p0), .val (.int p1), .val (.int p2), .val (.int p3), .val (.int p4), .val (.int (2 : Int32)), .val (.ref b1_92), .val (.ref b93), .val (.int (1 : Int32)), .val (.int pv), .val (.int qv), .val (.ref b1_113), .val (.ref b1_115)] [(.int z30_7_121)])) (fun t k => XS.icmpNo X121.here hx rfl (hb hby at_170) rfl (tlt hc170_124).2.1 k) ?_
        refine step (T121.setTop (mkF m 174 #[.val (.int p0), .val (.int p1), .val (.int p2), .val (.int p3), .val (.int p4), .val (.int (2 : Int32)), .val (.ref b1_92), .val (.ref b93), .val (.int (1 : Int32)), .val (.int pv), .val (.int qv), .val (.ref b1_113), .val (.ref b1_115)] [(.int (1 : Int32)), (.int z30_7_121)])) (fun t k => XS.iconst X121.here hx rfl (hb hby at_173) k) ?_
        refine step (T121.setTop (mkF m 178 #[.val (.int p0), .val (.int p1), .val (.int p2), .val (.int p3), .val (.int p4), .val (.int (2 : Int32)), .val (.ref b1_92), .val (.ref b93), .val (.int (1 : Int32)), .val (.int pv), .val (.int qv), .val (.ref b1_113), .val (.ref b1_115)] [(.int (1 : Int32)), (.int z30_7_121)])) (fun t k => XS.goto X121.here hx rfl (pc0 := 174) (pc' := 178) rfl (hb hby at_174) (by decide) (by decide) k) ?_
        exact J178_123 _ (by simp only [if_pos hc170_124, if_true, if_false] <;> rfl)
      · -- 170 False
        refine step (T121.setTop (mkF m 177 #[.val (.int p0), .val (.int p1), .val (.int p2), .val (.int p3), .val (.int p4), .val (.int (2 : Int32)), .val (.ref b1_92), .val (.ref b93), .val (.int (1 : Int32)), .val (.int pv), .val (.int qv), .val (.ref b1_113), .val (.ref b1_115)] [(.int z30_7_121)])) (fun t k => XS.icmpYes X121.here hx rfl (pc0 := 170) (pc' := 177) rfl (hb hby at_170) rfl (flt hc170_124).2.1 (by decide) (by decide) k) ?_
        refine step (T121.setTop (mkF m 178 #[.val (.int p0), .val (.int p1), .val (.int p2), .val (.int p3), .val (.int p4), .val (.int (2 : Int32)), .val (.ref b1_92), .val (.ref b93), .val (.int (1 : Int32)), .val (.int pv), .val (.int qv), .val (.ref b1_113), .val (.ref b1_115)] [(.int (0 : Int32)), (.int z30_7_121)])) (fun t k => XS.iconst X121.here hx rfl (hb hby at_177) k) ?_
        exact J178_123 _ (by simp only [if_neg hc170_124, if_true, if_false] <;> rfl)
    intro z178_122 hz178_122
    suffices J186_126 : ∀ (z186_125 : Int32), z186_125 = (if z30_7_121 = z178_122 then (1 : Int32) else (0 : Int32)) → G (T121.setTop (mkF m 186 #[.val (.int p0), .val (.int p1), .val (.int p2), .val (.int p3), .val (.int p4), .val (.int (2 : Int32)), .val (.ref b1_92), .val (.ref b93), .val (.int (1 : Int32)), .val (.int pv), .val (.int qv), .val (.ref b1_113), .val (.ref b1_115)] [(.int z186_125)])) by
      by_cases hc178_127 : z30_7_121 = z178_122
      · -- 178 True
        refine step (T121.setTop (mkF m 181 #[.val (.int p0), .val (.int p1), .val (.int p2), .val (.int p3), .val (.int p4), .val (.int (2 : Int32)), .val (.ref b1_92), .val (.ref b93), .val (.int (1 : Int32)), .val (.int pv), .val (.int qv), .val (.ref b1_113), .val (.ref b1_115)] [])) (fun t k => XS.icmpNo X121.here hx rfl (hb hby at_178) rfl (teq hc178_127).2 k) ?_
        refine step (T121.setTop (mkF m 182 #[.val (.int p0), .val (.int p1), .val (.int p2), .val (.int p3), .val (.int p4), .val (.int (2 : Int32)), .val (.ref b1_92), .val (.ref b93), .val (.int (1 : Int32)), .val (.int pv), .val (.int qv), .val (.ref b1_113), .val (.ref b1_115)] [(.int (1 : Int32))])) (fun t k => XS.iconst X121.here hx rfl (hb hby at_181) k) ?_
        refine step (T121.setTop (mkF m 186 #[.val (.int p0), .val (.int p1), .val (.int p2), .val (.int p3), .val (.int p4), .val (.int (2 : Int32)), .val (.ref b1_92), .val (.ref b93), .val (.int (1 : Int32)), .val (.int pv), .val (.int qv), .val (.ref b1_113), .val (.ref b1_115)] [(.int (1 : Int32))])) (fun t k => XS.goto X121.here hx rfl (pc0 := 182) (pc' := 186) rfl (hb hby at_182) (by decide) (by decide) k) ?_
        exact J186_126 _ (by simp only [if_pos hc178_127, if_true, if_false] <;> rfl)
      · -- 178 False
        refine step (T121.setTop (mkF m 185 #[.val (.int p0), .val (.int p1), .val (.int p2), .val (.int p3), .val (.int p4), .val (.int (2 : Int32)), .val (.ref b1_92), .val (.ref b93), .val (.int (1 : Int32)), .val (.int pv), .val (.int qv), .val (.ref b1_113), .val (.ref b1_115)] [])) (fun t k => XS.icmpYes X121.here hx rfl (pc0 := 178) (pc' := 185) rfl (hb hby at_178) rfl (feq hc178_127).2 (by decide) (by decide) k) ?_
        refine step (T121.setTop (mkF m 186 #[.val (.int p0), .val (.int p1), .val (.int p2), .val (.int p3), .val (.int p4), .val (.int (2 : Int32)), .val (.ref b1_92), .val (.ref b93), .val (.int (1 : Int32)), .val (.int pv), .val (.int qv), .val (.ref b1_113), .val (.ref b1_115)] [(.int (0 : Int32))])) (fun t k => XS.iconst X121.here hx rfl (hb hby at_185) k) ?_
        exact J186_126 _ (by simp only [if_neg hc178_127, if_true, if_false] <;> rfl)
    intro z186_125 hz186_125
    refine step (T121.setTop (mkF m 188 #[.val (.int p0), .val (.int p1), .val (.int p2), .val (.int p3), .val (.int p4), .val (.int (2 : Int32)), .val (.ref b1_92), .val (.ref b93), .val (.int z186_125), .val (.int pv), .val (.int qv), .val (.ref b1_113), .val (.ref b1_115)] [])) (fun t k => XS.istore X121.here hx rfl (hb hby at_186) rfl (l' := #[.val (.int p0), .val (.int p1), .val (.int p2), .val (.int p3), .val (.int p4), .val (.int (2 : Int32)), .val (.ref b1_92), .val (.ref b93), .val (.int z186_125), .val (.int pv), .val (.int qv), .val (.ref b1_113), .val (.ref b1_115)]) rfl k) ?_
    refine step (T121.setTop (mkF m 190 #[.val (.int p0), .val (.int p1), .val (.int p2), .val (.int p3), .val (.int p4), .val (.int (2 : Int32)), .val (.ref b1_92), .val (.ref b93), .val (.int z186_125), .val (.int pv), .val (.int qv), .val (.ref b1_113), .val (.ref b1_115)] [(.int z186_125)])) (fun t k => XS.iload X121.here hx rfl (hb hby at_188) rfl k) ?_
    have hc190_128 : ¬ (z186_125 = (0 : Int32)) := (own_plain45 p0 p1 p2 p3 p4 pv qv z30_7_121 z178_122 z186_125 hpv hqv hz30_7_121 hz178_122 hz186_125)
    refine step (T121.setTop (mkF m 193 #[.val (.int p0), .val (.int p1), .val (.int p2), .val (.int p3), .val (.int p4), .val (.int (2 : Int32)), .val (.ref b1_92), .val (.ref b93), .val (.int z186_125), .val (.int pv), .val (.int qv), .val (.ref b1_113), .val (.ref b1_115)] [])) (fun t k => XS.ifNo X121.here hx rfl (hb hby at_190) rfl ((if0 _ _).trans (feq hc190_128).1) k) ?_
    refine step (T121.setTop (mkF m 195 #[.val (.int p0), .val (.int p1), .val (.int p2), .val (.int p3), .val (.int p4), .val (.int (2 : Int32)), .val (.ref b1_92), .val (.ref b93), .val (.int z186_125), .val (.int pv), .val (.int qv), .val (.ref b1_113), .val (.ref b1_115)] [(.ref b1_115)])) (fun t k => XS.aload X121.here hx rfl (hb hby at_193) rfl rfl k) ?_
    refine step (T121.setTop (mkF m 197 #[.val (.int p0), .val (.int p1), .val (.int p2), .val (.int p3), .val (.int p4), .val (.int (2 : Int32)), .val (.ref b1_92), .val (.ref b93), .val (.int z186_125), .val (.int pv), .val (.int qv), .val (.ref b1_113), .val (.ref b1_115)] [(.ref b1_113), (.ref b1_115)])) (fun t k => XS.aload X121.here hx rfl (hb hby at_195) rfl rfl k) ?_
    obtain ⟨cq129, kq129, q129a, q129b, q129c⟩ := isOf hZ e121q q0_115
    obtain ⟨_, _, ⟨T129, L129, k129, n129⟩, -, X129, ⟨Lc129, hQ129, l129, y129, z129⟩, st129⟩ := X121.virtualBack hx (y := (⟨"com/example/vertex_to_service/vertextoservice/core/Choices", "before", "(Lcom/example/vertex_to_service/vertextoservice/core/Choices;)Z"⟩ : MethodName)) (z := (⟨"com/example/vertex_to_service/vertextoservice/core/Choices", "before", "(Lcom/example/vertex_to_service/vertextoservice/core/Choices;)Z"⟩ : MethodName)) hown (mvT hZ (hw _ (List.mem_of_getElem? (i := 101) rfl))) (mvT hZ (hw _ (List.mem_of_getElem? (i := 102) rfl))) (notFace_of_selects (args := #[]) (mvT hZ (hw _ (List.mem_of_getElem? (i := 104) rfl)))) (mvT hZ (hw _ (List.mem_of_getElem? (i := 104) rfl))) (mvT hZ (hw _ (List.mem_of_getElem? (i := 103) rfl))) (by decide) (backOf (W := 0) (rm18_25 l Z a0 hw [] b1_115 b1_113 qv pv h115 n0 (Nat.le_trans Z0 K115.1) q0_115 q3_115 q4_115 f118 f119 f120 gn_b1_115 (Ne.symm ne_b1_113_b1_115) gn_b1_113 nn_pv nn_qv) hZ (hw _ (List.mem_of_getElem? (i := 105) rfl)) (hw _ (List.mem_of_getElem? (i := 2) rfl)) (by decide) (by decide)) q129a q129c (g := (mkF m 197 #[.val (.int p0), .val (.int p1), .val (.int p2), .val (.int p3), .val (.int p4), .val (.int (2 : Int32)), .val (.ref b1_92), .val (.ref b93), .val (.int z186_125), .val (.int pv), .val (.int qv), .val (.ref b1_113), .val (.ref b1_115)] [(.ref b1_113), (.ref b1_115)])) rfl (by rw [hml]; rfl) (Steps.refl _) (argsL := [(.ref b1_113)]) (rest := []) (lenOf pd_3 rfl) rfl (by show 2 * 0 + _ ≤ _; exact Nat.le_of_eq rfl) (hb hby at_197) (fun _ _ => ⟨rfl, e121q, (by decide : 6 + 0 ≤ _), (by decide : 42 + 0 ≤ _)⟩)
    dsimp only [Pt.U, Pt.locs, Pt.cells, Pt.slots] at X129 l129 y129 z129 st129 hQ129
    subst l129 y129 z129
    obtain ⟨z30_7_129, rfl, N129q, e129q, hz30_7_129⟩ := hQ129
    have N129 := Fr.app N121 N129q
    refine step (T129.setTop (mkF m 200 #[.val (.int p0), .val (.int p1), .val (.int p2), .val (.int p3), .val (.int p4), .val (.int (2 : Int32)), .val (.ref b1_92), .val (.ref b93), .val (.int z186_125), .val (.int pv), .val (.int qv), .val (.ref b1_113), .val (.ref b1_115)] [(.int z30_7_129)])) (fun t k => st129.trans k) ?_
    refine step (T129.setTop (mkF m 202 #[.val (.int p0), .val (.int p1), .val (.int p2), .val (.int p3), .val (.int p4), .val (.int (2 : Int32)), .val (.ref b1_92), .val (.ref b93), .val (.int z186_125), .val (.int pv), .val (.int qv), .val (.ref b1_113), .val (.ref b1_115)] [(.int qv), (.int z30_7_129)])) (fun t k => XS.iload X129.here hx rfl (hb hby at_200) rfl k) ?_
    refine step (T129.setTop (mkF m 204 #[.val (.int p0), .val (.int p1), .val (.int p2), .val (.int p3), .val (.int p4), .val (.int (2 : Int32)), .val (.ref b1_92), .val (.ref b93), .val (.int z186_125), .val (.int pv), .val (.int qv), .val (.ref b1_113), .val (.ref b1_115)] [(.int pv), (.int qv), (.int z30_7_129)])) (fun t k => XS.iload X129.here hx rfl (hb hby at_202) rfl k) ?_
    suffices J212_131 : ∀ (z212_130 : Int32), z212_130 = (if qv < pv then (1 : Int32) else (0 : Int32)) → G (T129.setTop (mkF m 212 #[.val (.int p0), .val (.int p1), .val (.int p2), .val (.int p3), .val (.int p4), .val (.int (2 : Int32)), .val (.ref b1_92), .val (.ref b93), .val (.int z186_125), .val (.int pv), .val (.int qv), .val (.ref b1_113), .val (.ref b1_115)] [(.int z212_130), (.int z30_7_129)])) by
      by_cases hc204_132 : qv < pv
      · -- 204 True
        refine step (T129.setTop (mkF m 207 #[.val (.int p0), .val (.int p1), .val (.int p2), .val (.int p3), .val (.int p4), .val (.int (2 : Int32)), .val (.ref b1_92), .val (.ref b93), .val (.int z186_125), .val (.int pv), .val (.int qv), .val (.ref b1_113), .val (.ref b1_115)] [(.int z30_7_129)])) (fun t k => XS.icmpNo X129.here hx rfl (hb hby at_204) rfl (tlt hc204_132).2.1 k) ?_
        refine step (T129.setTop (mkF m 208 #[.val (.int p0), .val (.int p1), .val (.int p2), .val (.int p3), .val (.int p4), .val (.int (2 : Int32)), .val (.ref b1_92), .val (.ref b93), .val (.int z186_125), .val (.int pv), .val (.int qv), .val (.ref b1_113), .val (.ref b1_115)] [(.int (1 : Int32)), (.int z30_7_129)])) (fun t k => XS.iconst X129.here hx rfl (hb hby at_207) k) ?_
        refine step (T129.setTop (mkF m 212 #[.val (.int p0), .val (.int p1), .val (.int p2), .val (.int p3), .val (.int p4), .val (.int (2 : Int32)), .val (.ref b1_92), .val (.ref b93), .val (.int z186_125), .val (.int pv), .val (.int qv), .val (.ref b1_113), .val (.ref b1_115)] [(.int (1 : Int32)), (.int z30_7_129)])) (fun t k => XS.goto X129.here hx rfl (pc0 := 208) (pc' := 212) rfl (hb hby at_208) (by decide) (by decide) k) ?_
        exact J212_131 _ (by simp only [if_pos hc204_132, if_true, if_false] <;> rfl)
      · -- 204 False
        refine step (T129.setTop (mkF m 211 #[.val (.int p0), .val (.int p1), .val (.int p2), .val (.int p3), .val (.int p4), .val (.int (2 : Int32)), .val (.ref b1_92), .val (.ref b93), .val (.int z186_125), .val (.int pv), .val (.int qv), .val (.ref b1_113), .val (.ref b1_115)] [(.int z30_7_129)])) (fun t k => XS.icmpYes X129.here hx rfl (pc0 := 204) (pc' := 211) rfl (hb hby at_204) rfl (flt hc204_132).2.1 (by decide) (by decide) k) ?_
        refine step (T129.setTop (mkF m 212 #[.val (.int p0), .val (.int p1), .val (.int p2), .val (.int p3), .val (.int p4), .val (.int (2 : Int32)), .val (.ref b1_92), .val (.ref b93), .val (.int z186_125), .val (.int pv), .val (.int qv), .val (.ref b1_113), .val (.ref b1_115)] [(.int (0 : Int32)), (.int z30_7_129)])) (fun t k => XS.iconst X129.here hx rfl (hb hby at_211) k) ?_
        exact J212_131 _ (by simp only [if_neg hc204_132, if_true, if_false] <;> rfl)
    intro z212_130 hz212_130
    suffices J220_134 : ∀ (z220_133 : Int32), z220_133 = (if z30_7_129 = z212_130 then (1 : Int32) else (0 : Int32)) → G (T129.setTop (mkF m 220 #[.val (.int p0), .val (.int p1), .val (.int p2), .val (.int p3), .val (.int p4), .val (.int (2 : Int32)), .val (.ref b1_92), .val (.ref b93), .val (.int z186_125), .val (.int pv), .val (.int qv), .val (.ref b1_113), .val (.ref b1_115)] [(.int z220_133)])) by
      by_cases hc212_135 : z30_7_129 = z212_130
      · -- 212 True
        refine step (T129.setTop (mkF m 215 #[.val (.int p0), .val (.int p1), .val (.int p2), .val (.int p3), .val (.int p4), .val (.int (2 : Int32)), .val (.ref b1_92), .val (.ref b93), .val (.int z186_125), .val (.int pv), .val (.int qv), .val (.ref b1_113), .val (.ref b1_115)] [])) (fun t k => XS.icmpNo X129.here hx rfl (hb hby at_212) rfl (teq hc212_135).2 k) ?_
        refine step (T129.setTop (mkF m 216 #[.val (.int p0), .val (.int p1), .val (.int p2), .val (.int p3), .val (.int p4), .val (.int (2 : Int32)), .val (.ref b1_92), .val (.ref b93), .val (.int z186_125), .val (.int pv), .val (.int qv), .val (.ref b1_113), .val (.ref b1_115)] [(.int (1 : Int32))])) (fun t k => XS.iconst X129.here hx rfl (hb hby at_215) k) ?_
        refine step (T129.setTop (mkF m 220 #[.val (.int p0), .val (.int p1), .val (.int p2), .val (.int p3), .val (.int p4), .val (.int (2 : Int32)), .val (.ref b1_92), .val (.ref b93), .val (.int z186_125), .val (.int pv), .val (.int qv), .val (.ref b1_113), .val (.ref b1_115)] [(.int (1 : Int32))])) (fun t k => XS.goto X129.here hx rfl (pc0 := 216) (pc' := 220) rfl (hb hby at_216) (by decide) (by decide) k) ?_
        exact J220_134 _ (by simp only [if_pos hc212_135, if_true, if_false] <;> rfl)
      · -- 212 False
        refine step (T129.setTop (mkF m 219 #[.val (.int p0), .val (.int p1), .val (.int p2), .val (.int p3), .val (.int p4), .val (.int (2 : Int32)), .val (.ref b1_92), .val (.ref b93), .val (.int z186_125), .val (.int pv), .val (.int qv), .val (.ref b1_113), .val (.ref b1_115)] [])) (fun t k => XS.icmpYes X129.here hx rfl (pc0 := 212) (pc' := 219) rfl (hb hby at_212) rfl (feq hc212_135).2 (by decide) (by decide) k) ?_
        refine step (T129.setTop (mkF m 220 #[.val (.int p0), .val (.int p1), .val (.int p2), .val (.int p3), .val (.int p4), .val (.int (2 : Int32)), .val (.ref b1_92), .val (.ref b93), .val (.int z186_125), .val (.int pv), .val (.int qv), .val (.ref b1_113), .val (.ref b1_115)] [(.int (0 : Int32))])) (fun t k => XS.iconst X129.here hx rfl (hb hby at_219) k) ?_
        exact J220_134 _ (by simp only [if_neg hc212_135, if_true, if_false] <;> rfl)
    intro z220_133 hz220_133
    refine step (T129.setTop (mkF m 222 #[.val (.int p0), .val (.int p1), .val (.int p2), .val (.int p3), .val (.int p4), .val (.int (2 : Int32)), .val (.ref b1_92), .val (.ref b93), .val (.int z220_133), .val (.int pv), .val (.int qv), .val (.ref b1_113), .val (.ref b1_115)] [])) (fun t k => XS.istore X129.here hx rfl (hb hby at_220) rfl (l' := #[.val (.int p0), .val (.int p1), .val (.int p2), .val (.int p3), .val (.int p4), .val (.int (2 : Int32)), .val (.ref b1_92), .val (.ref b93), .val (.int z220_133), .val (.int pv), .val (.int qv), .val (.ref b1_113), .val (.ref b1_115)]) rfl k) ?_
    refine step (T129.setTop (mkF m 224 #[.val (.int p0), .val (.int p1), .val (.int p2), .val (.int p3), .val (.int p4), .val (.int (2 : Int32)), .val (.ref b1_92), .val (.ref b93), .val (.int z220_133), .val (.int pv), .val (.int qv), .val (.ref b1_113), .val (.ref b1_115)] [(.int z220_133)])) (fun t k => XS.iload X129.here hx rfl (hb hby at_222) rfl k) ?_
    have hc224_136 : ¬ (z220_133 = (0 : Int32)) := (own_plain46 p0 p1 p2 p3 p4 pv qv z30_7_129 z212_130 z220_133 hpv hqv hz30_7_129 hz212_130 hz220_133)
    refine step (T129.setTop (mkF m 227 #[.val (.int p0), .val (.int p1), .val (.int p2), .val (.int p3), .val (.int p4), .val (.int (2 : Int32)), .val (.ref b1_92), .val (.ref b93), .val (.int z220_133), .val (.int pv), .val (.int qv), .val (.ref b1_113), .val (.ref b1_115)] [])) (fun t k => XS.ifNo X129.here hx rfl (hb hby at_224) rfl ((if0 _ _).trans (feq hc224_136).1) k) ?_
    refine step (T129.setTop (mkF m 229 #[.val (.int p0), .val (.int p1), .val (.int p2), .val (.int p3), .val (.int p4), .val (.int (2 : Int32)), .val (.ref b1_92), .val (.ref b93), .val (.int z220_133), .val (.int pv), .val (.int qv), .val (.ref b1_113), .val (.ref b1_115)] [(.ref b1_113)])) (fun t k => XS.aload X129.here hx rfl (hb hby at_227) rfl rfl k) ?_
    refine step (T129.setTop (mkF m 231 #[.val (.int p0), .val (.int p1), .val (.int p2), .val (.int p3), .val (.int p4), .val (.int (2 : Int32)), .val (.ref b1_92), .val (.ref b93), .val (.int z220_133), .val (.int pv), .val (.int qv), .val (.ref b1_113), .val (.ref b1_115)] [(.ref b1_113), (.ref b1_113)])) (fun t k => XS.aload X129.here hx rfl (hb hby at_229) rfl rfl k) ?_
    obtain ⟨cq137, kq137, q137a, q137b, q137c⟩ := isOf hZ e129q f118
    obtain ⟨_, _, ⟨T137, L137, k137, n137⟩, -, X137, ⟨Lc137, hQ137, l137, y137, z137⟩, st137⟩ := X129.virtualBack hx (y := (⟨"com/example/vertex_to_service/vertextoservice/core/Choices", "before", "(Lcom/example/vertex_to_service/vertextoservice/core/Choices;)Z"⟩ : MethodName)) (z := (⟨"com/example/vertex_to_service/vertextoservice/core/Choices", "before", "(Lcom/example/vertex_to_service/vertextoservice/core/Choices;)Z"⟩ : MethodName)) hown (mvT hZ (hw _ (List.mem_of_getElem? (i := 101) rfl))) (mvT hZ (hw _ (List.mem_of_getElem? (i := 102) rfl))) (notFace_of_selects (args := #[]) (mvT hZ (hw _ (List.mem_of_getElem? (i := 104) rfl)))) (mvT hZ (hw _ (List.mem_of_getElem? (i := 104) rfl))) (mvT hZ (hw _ (List.mem_of_getElem? (i := 103) rfl))) (by decide) (backOf (W := 0) (rm18_27 l Z a0 hw [] b1_113 pv h115 n0 (Nat.le_trans Z0 K115.1) f118 f119 f120 gn_b1_113 nn_pv) hZ (hw _ (List.mem_of_getElem? (i := 105) rfl)) (hw _ (List.mem_of_getElem? (i := 2) rfl)) (by decide) (by decide)) q137a q137c (g := (mkF m 231 #[.val (.int p0), .val (.int p1), .val (.int p2), .val (.int p3), .val (.int p4), .val (.int (2 : Int32)), .val (.ref b1_92), .val (.ref b93), .val (.int z220_133), .val (.int pv), .val (.int qv), .val (.ref b1_113), .val (.ref b1_115)] [(.ref b1_113), (.ref b1_113)])) rfl (by rw [hml]; rfl) (Steps.refl _) (argsL := [(.ref b1_113)]) (rest := []) (lenOf pd_3 rfl) rfl (by show 2 * 0 + _ ≤ _; exact Nat.le_of_eq rfl) (hb hby at_231) (fun _ _ => ⟨rfl, e129q, (by decide : 6 + 0 ≤ _), (by decide : 42 + 0 ≤ _)⟩)
    dsimp only [Pt.U, Pt.locs, Pt.cells, Pt.slots] at X137 l137 y137 z137 st137 hQ137
    subst l137 y137 z137
    obtain ⟨rfl, N137q, e137q⟩ := hQ137
    have N137 := Fr.app N129 N137q
    refine step (T137.setTop (mkF m 234 #[.val (.int p0), .val (.int p1), .val (.int p2), .val (.int p3), .val (.int p4), .val (.int (2 : Int32)), .val (.ref b1_92), .val (.ref b93), .val (.int z220_133), .val (.int pv), .val (.int qv), .val (.ref b1_113), .val (.ref b1_115)] [(.int (0 : Int32))])) (fun t k => st137.trans k) ?_
    refine step (T137.setTop (mkF m 237 #[.val (.int p0), .val (.int p1), .val (.int p2), .val (.int p3), .val (.int p4), .val (.int (2 : Int32)), .val (.ref b1_92), .val (.ref b93), .val (.int z220_133), .val (.int pv), .val (.int qv), .val (.ref b1_113), .val (.ref b1_115)] [])) (fun t k => XS.ifNo X137.here hx rfl (hb hby at_234) rfl ((if0 _ _).trans (teq (by decide : (0 : Int32) = (0 : Int32))).2) k) ?_
    refine step (T137.setTop (mkF m 238 #[.val (.int p0), .val (.int p1), .val (.int p2), .val (.int p3), .val (.int p4), .val (.int (2 : Int32)), .val (.ref b1_92), .val (.ref b93), .val (.int z220_133), .val (.int pv), .val (.int qv), .val (.ref b1_113), .val (.ref b1_115)] [(.int (1 : Int32))])) (fun t k => XS.iconst X137.here hx rfl (hb hby at_237) k) ?_
    refine step (T137.setTop (mkF m 242 #[.val (.int p0), .val (.int p1), .val (.int p2), .val (.int p3), .val (.int p4), .val (.int (2 : Int32)), .val (.ref b1_92), .val (.ref b93), .val (.int z220_133), .val (.int pv), .val (.int qv), .val (.ref b1_113), .val (.ref b1_115)] [(.int (1 : Int32))])) (fun t k => XS.goto X137.here hx rfl (pc0 := 238) (pc' := 242) rfl (hb hby at_238) (by decide) (by decide) k) ?_
    refine step (T137.setTop (mkF m 244 #[.val (.int p0), .val (.int p1), .val (.int p2), .val (.int p3), .val (.int p4), .val (.int (2 : Int32)), .val (.ref b1_92), .val (.ref b93), .val (.int (1 : Int32)), .val (.int pv), .val (.int qv), .val (.ref b1_113), .val (.ref b1_115)] [])) (fun t k => XS.istore X137.here hx rfl (hb hby at_242) rfl (l' := #[.val (.int p0), .val (.int p1), .val (.int p2), .val (.int p3), .val (.int p4), .val (.int (2 : Int32)), .val (.ref b1_92), .val (.ref b93), .val (.int (1 : Int32)), .val (.int pv), .val (.int qv), .val (.ref b1_113), .val (.ref b1_115)]) rfl k) ?_
    refine step (T137.setTop (mkF m 246 #[.val (.int p0), .val (.int p1), .val (.int p2), .val (.int p3), .val (.int p4), .val (.int (2 : Int32)), .val (.ref b1_92), .val (.ref b93), .val (.int (1 : Int32)), .val (.int pv), .val (.int qv), .val (.ref b1_113), .val (.ref b1_115)] [(.int (1 : Int32))])) (fun t k => XS.iload X137.here hx rfl (hb hby at_244) rfl k) ?_
    refine fin (v := some (.int (nar .boolean (1 : Int32)))) X137 (fun h => by cases h) ?_ (by decide) (by decide) (fun fs hr => retN X137 hx (t := .boolean) hret (by simp) (hb hby at_246) hr)
    show Q0 Z p0 p1 p2 p3 p4 h0 n0 (some (.int (nar .boolean (1 : Int32)))) T137.heap _
    rw [e137q]
    exact ⟨rfl, N137⟩
  · -- v = 3
    show G (s₁.setTop (mkF m 3 #[.val (.int p0), .val (.int p1), .val (.int p2), .val (.int p3), .val (.int p4), .unset, .unset, .unset, .unset, .unset, .unset, .unset, .unset] [(.int (3 : Int32))]))
    refine step (s₁.setTop (mkF m 5 #[.val (.int p0), .val (.int p1), .val (.int p2), .val (.int p3), .val (.int p4), .val (.int (3 : Int32)), .unset, .unset, .unset, .unset, .unset, .unset, .unset] [])) (fun t k => XS.istore X0.here hx rfl (hb hby at_3) rfl (l' := #[.val (.int p0), .val (.int p1), .val (.int p2), .val (.int p3), .val (.int p4), .val (.int (3 : Int32)), .unset, .unset, .unset, .unset, .unset, .unset, .unset]) rfl k) ?_
    refine step (s₁.setTop (mkF m 7 #[.val (.int p0), .val (.int p1), .val (.int p2), .val (.int p3), .val (.int p4), .val (.int (3 : Int32)), .unset, .unset, .unset, .unset, .unset, .unset, .unset] [(.int (3 : Int32))])) (fun t k => XS.iload X0.here hx rfl (hb hby at_5) rfl k) ?_
    refine step (s₁.setTop (mkF m 8 #[.val (.int p0), .val (.int p1), .val (.int p2), .val (.int p3), .val (.int p4), .val (.int (3 : Int32)), .unset, .unset, .unset, .unset, .unset, .unset, .unset] [(.int p1), (.int (3 : Int32))])) (fun t k => XS.iloadN X0.here hx rfl (hb hby at_7) rfl k) ?_
    obtain ⟨_, _, ⟨T138, L138, k138, n138⟩, -, X138, ⟨Lc138, hQ138, l138, y138, z138⟩, st138⟩ := Jvm.LawKit.callS X0 hx (y := (⟨"com/example/vertex_to_service/vertextoservice/core/Choices", "of", "(II)Lcom/example/vertex_to_service/vertextoservice/core/Choices;"⟩ : MethodName)) hown (mvT hZ (hw _ (List.mem_of_getElem? (i := 0) rfl))) (mvT hZ (hw _ (List.mem_of_getElem? (i := 1) rfl))) (mvT hZ (hw _ (List.mem_of_getElem? (i := 2) rfl))) (mvT hZ (hw _ (List.mem_of_getElem? (i := 3) rfl))) (by decide) (backOf (W := 0) (rm1_48 l Z a0 hw [] p1 h0 n0 Z0 ) hZ (hw _ (List.mem_of_getElem? (i := 3) rfl)) (hw _ (List.mem_of_getElem? (i := 2) rfl)) (by decide) (by decide)) (g := (mkF m 8 #[.val (.int p0), .val (.int p1), .val (.int p2), .val (.int p3), .val (.int p4), .val (.int (3 : Int32)), .unset, .unset, .unset, .unset, .unset, .unset, .unset] [(.int p1), (.int (3 : Int32))])) rfl (by rw [hml]; rfl) (argsL := [(.int (3 : Int32)), (.int p1)]) (rest := []) (lenOf pd_0 rfl) rfl (by show 2 * 0 + _ ≤ _; exact Nat.le_of_eq rfl) (hb hby at_8) (fun _ _ => ⟨rfl, e0, (by decide : 0 + 1 ≤ _), (by decide : 0 + 6 ≤ _)⟩)
    dsimp only [Pt.U, Pt.locs, Pt.cells, Pt.slots] at X138 l138 y138 z138 st138 hQ138
    subst l138 y138 z138
    obtain ⟨h138, e138⟩ : ∃ z, T138.heap = z := ⟨_, rfl⟩
    rw [e138] at hQ138
    obtain ⟨b1_138, rfl, N138q, K138q, sz_b1_138, q0_138, q1_138, q2_138, q3_138, q4_138, q5_138, q6_138⟩ := hQ138
    have N138 := Fr.app N0 N138q
    have gn_b1_138 : n0 ≤ b1_138 := Nat.le_trans Z0 sz_b1_138
    have K138 : Keep h0 h138 [] := (Keep.refl h0 []).trans K138q all0
    refine step (T138.setTop (mkF m 11 #[.val (.int p0), .val (.int p1), .val (.int p2), .val (.int p3), .val (.int p4), .val (.int (3 : Int32)), .unset, .unset, .unset, .unset, .unset, .unset, .unset] [(.ref b1_138)])) (fun t k => st138 t k) ?_
    refine step (T138.setTop (mkF m 13 #[.val (.int p0), .val (.int p1), .val (.int p2), .val (.int p3), .val (.int p4), .val (.int (3 : Int32)), .val (.ref b1_138), .unset, .unset, .unset, .unset, .unset, .unset] [])) (fun t k => XS.astore X138.here hx rfl (hb hby at_11) rfl rfl (l' := #[.val (.int p0), .val (.int p1), .val (.int p2), .val (.int p3), .val (.int p4), .val (.int (3 : Int32)), .val (.ref b1_138), .unset, .unset, .unset, .unset, .unset, .unset]) rfl k) ?_
    refine step (T138.setTop (mkF m 14 #[.val (.int p0), .val (.int p1), .val (.int p2), .val (.int p3), .val (.int p4), .val (.int (3 : Int32)), .val (.ref b1_138), .unset, .unset, .unset, .unset, .unset, .unset] [(.int (4 : Int32))])) (fun t k => XS.iconst X138.here hx rfl (hb hby at_13) k) ?_
    obtain ⟨T139, h139, k139, X139, e139, E139, A139, st139⟩ := newP X138 hx hZ (hw _ (List.mem_of_getElem? (i := 24) rfl)) e138 (g := (mkF m 14 #[.val (.int p0), .val (.int p1), .val (.int p2), .val (.int p3), .val (.int p4), .val (.int (3 : Int32)), .val (.ref b1_138), .unset, .unset, .unset, .unset, .unset, .unset] [(.int (4 : Int32))])) rfl (hb hby at_14) rfl (by decide) (cap := 4) (by decide) (by decide) (by decide) (by decide)
    obtain ⟨b139, g139⟩ : ∃ z, z = h138.size := ⟨_, rfl⟩
    rw [← g139] at A139 st139
    have ne_b1_138_b139 : b1_138 ≠ b139 := Nat.ne_of_lt (Nat.lt_of_lt_of_le q0_138.lt (Nat.le_of_eq g139.symm))
    have gn_b139 : n0 ≤ b139 := Nat.le_trans (Nat.le_trans Z0 K138.1) (Nat.le_of_eq g139.symm)
    have sz_b139 : h0.size ≤ b139 := Nat.le_trans K138.1 (Nat.le_of_eq g139.symm)
    have K139 : Keep h0 h139 [] := K138.ext E139
    have V139 : Arv Z h139 b139 k139 .int (4 : Int32) [(.int (0 : Int32)), (.int (0 : Int32)), (.int (0 : Int32)), (.int (0 : Int32))] (.int (0 : Int32)) := (Arv.new A139 (by decide)).pad (pad_rep [] (.int (0 : Int32)) 4)
    refine step (T139.setTop (mkF m 16 #[.val (.int p0), .val (.int p1), .val (.int p2), .val (.int p3), .val (.int p4), .val (.int (3 : Int32)), .val (.ref b1_138), .unset, .unset, .unset, .unset, .unset, .unset] [(.ref b139)])) (fun t k => st139 t k) ?_
    refine step (T139.setTop (mkF m 18 #[.val (.int p0), .val (.int p1), .val (.int p2), .val (.int p3), .val (.int p4), .val (.int (3 : Int32)), .val (.ref b1_138), .val (.ref b139), .unset, .unset, .unset, .unset, .unset] [])) (fun t k => XS.astore X139.here hx rfl (hb hby at_16) rfl rfl (l' := #[.val (.int p0), .val (.int p1), .val (.int p2), .val (.int p3), .val (.int p4), .val (.int (3 : Int32)), .val (.ref b1_138), .val (.ref b139), .unset, .unset, .unset, .unset, .unset]) rfl k) ?_
    refine step (T139.setTop (mkF m 20 #[.val (.int p0), .val (.int p1), .val (.int p2), .val (.int p3), .val (.int p4), .val (.int (3 : Int32)), .val (.ref b1_138), .val (.ref b139), .unset, .unset, .unset, .unset, .unset] [(.ref b139)])) (fun t k => XS.aload X139.here hx rfl (hb hby at_18) rfl rfl k) ?_
    refine step (T139.setTop (mkF m 21 #[.val (.int p0), .val (.int p1), .val (.int p2), .val (.int p3), .val (.int p4), .val (.int (3 : Int32)), .val (.ref b1_138), .val (.ref b139), .unset, .unset, .unset, .unset, .unset] [(.int (0 : Int32)), (.ref b139)])) (fun t k => XS.iconst X139.here hx rfl (hb hby at_20) k) ?_
    refine step (T139.setTop (mkF m 23 #[.val (.int p0), .val (.int p1), .val (.int p2), .val (.int p3), .val (.int p4), .val (.int (3 : Int32)), .val (.ref b1_138), .val (.ref b139), .unset, .unset, .unset, .unset, .unset] [(.int p4), (.int (0 : Int32)), (.ref b139)])) (fun t k => XS.iload X139.here hx rfl (hb hby at_21) rfl k) ?_
    obtain ⟨cl140, Ar140, q140, S140, N140n, H140, G140⟩ := id V139
    have hin140 : ¬ ((0 : Int32) < 0 ∨ cl140.slots.size ≤ ((0 : Int32)).toNatClampNeg) := inb_of S140 ⟨by decide, by decide⟩
    obtain ⟨T140, h140, X140, e140, W140, st140⟩ := stI X139 hx hZ e139 Ar140 (j := (0 : Int32)) hin140 (g := (mkF m 23 #[.val (.int p0), .val (.int p1), .val (.int p2), .val (.int p3), .val (.int p4), .val (.int (3 : Int32)), .val (.ref b1_138), .val (.ref b139), .unset, .unset, .unset, .unset, .unset] [(.int p4), (.int (0 : Int32)), (.ref b139)])) rfl rfl (hb hby at_23)
    have N140 := Fr.snoc X140 N138 gn_b139
    have K140 : Keep h0 h140 [] := K139.wr W140 (Or.inr sz_b139)
    have V140 : Arv Z h140 b139 k139 .int (4 : Int32) [(.int p4), (.int (0 : Int32)), (.int (0 : Int32)), (.int (0 : Int32))] (.int (0 : Int32)) := Arv.set Ar140 q140 S140 N140n H140 G140 rfl W140 0 rfl (Nat.le_of_ble_eq_true rfl)
    refine step (T140.setTop (mkF m 24 #[.val (.int p0), .val (.int p1), .val (.int p2), .val (.int p3), .val (.int p4), .val (.int (3 : Int32)), .val (.ref b1_138), .val (.ref b139), .unset, .unset, .unset, .unset, .unset] [])) (fun t k => st140 t k) ?_
    refine step (T140.setTop (mkF m 26 #[.val (.int p0), .val (.int p1), .val (.int p2), .val (.int p3), .val (.int p4), .val (.int (3 : Int32)), .val (.ref b1_138), .val (.ref b139), .unset, .unset, .unset, .unset, .unset] [(.ref b139)])) (fun t k => XS.aload X140.here hx rfl (hb hby at_24) rfl rfl k) ?_
    refine step (T140.setTop (mkF m 27 #[.val (.int p0), .val (.int p1), .val (.int p2), .val (.int p3), .val (.int p4), .val (.int (3 : Int32)), .val (.ref b1_138), .val (.ref b139), .unset, .unset, .unset, .unset, .unset] [(.int (1 : Int32)), (.ref b139)])) (fun t k => XS.iconst X140.here hx rfl (hb hby at_26) k) ?_
    refine step (T140.setTop (mkF m 29 #[.val (.int p0), .val (.int p1), .val (.int p2), .val (.int p3), .val (.int p4), .val (.int (3 : Int32)), .val (.ref b1_138), .val (.ref b139), .unset, .unset, .unset, .unset, .unset] [(.int p4), (.int (1 : Int32)), (.ref b139)])) (fun t k => XS.iload X140.here hx rfl (hb hby at_27) rfl k) ?_
    refine step (T140.setTop (mkF m 30 #[.val (.int p0), .val (.int p1), .val (.int p2), .val (.int p3), .val (.int p4), .val (.int (3 : Int32)), .val (.ref b1_138), .val (.ref b139), .unset, .unset, .unset, .unset, .unset] [(.int (1 : Int32)), (.int p4), (.int (1 : Int32)), (.ref b139)])) (fun t k => XS.iconst X140.here hx rfl (hb hby at_29) k) ?_
    refine step (T140.setTop (mkF m 31 #[.val (.int p0), .val (.int p1), .val (.int p2), .val (.int p3), .val (.int p4), .val (.int (3 : Int32)), .val (.ref b1_138), .val (.ref b139), .unset, .unset, .unset, .unset, .unset] [(.int (p4 + (1 : Int32))), (.int (1 : Int32)), (.ref b139)])) (fun t k => XS.iadd X140.here hx rfl (hb hby at_30) rfl k) ?_
    obtain ⟨cl141, Ar141, q141, S141, N141n, H141, G141⟩ := id V140
    have hin141 : ¬ ((1 : Int32) < 0 ∨ cl141.slots.size ≤ ((1 : Int32)).toNatClampNeg) := inb_of S141 ⟨by decide, by decide⟩
    obtain ⟨T141, h141, X141, e141, W141, st141⟩ := stI X140 hx hZ e140 Ar141 (j := (1 : Int32)) hin141 (g := (mkF m 31 #[.val (.int p0), .val (.int p1), .val (.int p2), .val (.int p3), .val (.int p4), .val (.int (3 : Int32)), .val (.ref b1_138), .val (.ref b139), .unset, .unset, .unset, .unset, .unset] [(.int (p4 + (1 : Int32))), (.int (1 : Int32)), (.ref b139)])) rfl rfl (hb hby at_31)
    have N141 := Fr.snoc X141 N140 gn_b139
    have K141 : Keep h0 h141 [] := K140.wr W141 (Or.inr sz_b139)
    have V141 : Arv Z h141 b139 k139 .int (4 : Int32) [(.int p4), (.int (p4 + (1 : Int32))), (.int (0 : Int32)), (.int (0 : Int32))] (.int (0 : Int32)) := Arv.set Ar141 q141 S141 N141n H141 G141 rfl W141 1 rfl (Nat.le_of_ble_eq_true rfl)
    refine step (T141.setTop (mkF m 32 #[.val (.int p0), .val (.int p1), .val (.int p2), .val (.int p3), .val (.int p4), .val (.int (3 : Int32)), .val (.ref b1_138), .val (.ref b139), .unset, .unset, .unset, .unset, .unset] [])) (fun t k => st141 t k) ?_
    refine step (T141.setTop (mkF m 34 #[.val (.int p0), .val (.int p1), .val (.int p2), .val (.int p3), .val (.int p4), .val (.int (3 : Int32)), .val (.ref b1_138), .val (.ref b139), .unset, .unset, .unset, .unset, .unset] [(.ref b139)])) (fun t k => XS.aload X141.here hx rfl (hb hby at_32) rfl rfl k) ?_
    refine step (T141.setTop (mkF m 35 #[.val (.int p0), .val (.int p1), .val (.int p2), .val (.int p3), .val (.int p4), .val (.int (3 : Int32)), .val (.ref b1_138), .val (.ref b139), .unset, .unset, .unset, .unset, .unset] [(.int (2 : Int32)), (.ref b139)])) (fun t k => XS.iconst X141.here hx rfl (hb hby at_34) k) ?_
    refine step (T141.setTop (mkF m 37 #[.val (.int p0), .val (.int p1), .val (.int p2), .val (.int p3), .val (.int p4), .val (.int (3 : Int32)), .val (.ref b1_138), .val (.ref b139), .unset, .unset, .unset, .unset, .unset] [(.int p4), (.int (2 : Int32)), (.ref b139)])) (fun t k => XS.iload X141.here hx rfl (hb hby at_35) rfl k) ?_
    refine step (T141.setTop (mkF m 38 #[.val (.int p0), .val (.int p1), .val (.int p2), .val (.int p3), .val (.int p4), .val (.int (3 : Int32)), .val (.ref b1_138), .val (.ref b139), .unset, .unset, .unset, .unset, .unset] [(.int (2 : Int32)), (.int p4), (.int (2 : Int32)), (.ref b139)])) (fun t k => XS.iconst X141.here hx rfl (hb hby at_37) k) ?_
    refine step (T141.setTop (mkF m 39 #[.val (.int p0), .val (.int p1), .val (.int p2), .val (.int p3), .val (.int p4), .val (.int (3 : Int32)), .val (.ref b1_138), .val (.ref b139), .unset, .unset, .unset, .unset, .unset] [(.int (p4 + (2 : Int32))), (.int (2 : Int32)), (.ref b139)])) (fun t k => XS.iadd X141.here hx rfl (hb hby at_38) rfl k) ?_
    obtain ⟨cl142, Ar142, q142, S142, N142n, H142, G142⟩ := id V141
    have hin142 : ¬ ((2 : Int32) < 0 ∨ cl142.slots.size ≤ ((2 : Int32)).toNatClampNeg) := inb_of S142 ⟨by decide, by decide⟩
    obtain ⟨T142, h142, X142, e142, W142, st142⟩ := stI X141 hx hZ e141 Ar142 (j := (2 : Int32)) hin142 (g := (mkF m 39 #[.val (.int p0), .val (.int p1), .val (.int p2), .val (.int p3), .val (.int p4), .val (.int (3 : Int32)), .val (.ref b1_138), .val (.ref b139), .unset, .unset, .unset, .unset, .unset] [(.int (p4 + (2 : Int32))), (.int (2 : Int32)), (.ref b139)])) rfl rfl (hb hby at_39)
    have N142 := Fr.snoc X142 N141 gn_b139
    have K142 : Keep h0 h142 [] := K141.wr W142 (Or.inr sz_b139)
    have V142 : Arv Z h142 b139 k139 .int (4 : Int32) [(.int p4), (.int (p4 + (1 : Int32))), (.int (p4 + (2 : Int32))), (.int (0 : Int32))] (.int (0 : Int32)) := Arv.set Ar142 q142 S142 N142n H142 G142 rfl W142 2 rfl (Nat.le_of_ble_eq_true rfl)
    refine step (T142.setTop (mkF m 40 #[.val (.int p0), .val (.int p1), .val (.int p2), .val (.int p3), .val (.int p4), .val (.int (3 : Int32)), .val (.ref b1_138), .val (.ref b139), .unset, .unset, .unset, .unset, .unset] [])) (fun t k => st142 t k) ?_
    refine step (T142.setTop (mkF m 42 #[.val (.int p0), .val (.int p1), .val (.int p2), .val (.int p3), .val (.int p4), .val (.int (3 : Int32)), .val (.ref b1_138), .val (.ref b139), .unset, .unset, .unset, .unset, .unset] [(.ref b139)])) (fun t k => XS.aload X142.here hx rfl (hb hby at_40) rfl rfl k) ?_
    refine step (T142.setTop (mkF m 43 #[.val (.int p0), .val (.int p1), .val (.int p2), .val (.int p3), .val (.int p4), .val (.int (3 : Int32)), .val (.ref b1_138), .val (.ref b139), .unset, .unset, .unset, .unset, .unset] [(.int (3 : Int32)), (.ref b139)])) (fun t k => XS.iconst X142.here hx rfl (hb hby at_42) k) ?_
    refine step (T142.setTop (mkF m 45 #[.val (.int p0), .val (.int p1), .val (.int p2), .val (.int p3), .val (.int p4), .val (.int (3 : Int32)), .val (.ref b1_138), .val (.ref b139), .unset, .unset, .unset, .unset, .unset] [(.int p4), (.int (3 : Int32)), (.ref b139)])) (fun t k => XS.iload X142.here hx rfl (hb hby at_43) rfl k) ?_
    refine step (T142.setTop (mkF m 46 #[.val (.int p0), .val (.int p1), .val (.int p2), .val (.int p3), .val (.int p4), .val (.int (3 : Int32)), .val (.ref b1_138), .val (.ref b139), .unset, .unset, .unset, .unset, .unset] [(.int (3 : Int32)), (.int p4), (.int (3 : Int32)), (.ref b139)])) (fun t k => XS.iconst X142.here hx rfl (hb hby at_45) k) ?_
    refine step (T142.setTop (mkF m 47 #[.val (.int p0), .val (.int p1), .val (.int p2), .val (.int p3), .val (.int p4), .val (.int (3 : Int32)), .val (.ref b1_138), .val (.ref b139), .unset, .unset, .unset, .unset, .unset] [(.int (p4 + (3 : Int32))), (.int (3 : Int32)), (.ref b139)])) (fun t k => XS.iadd X142.here hx rfl (hb hby at_46) rfl k) ?_
    obtain ⟨cl143, Ar143, q143, S143, N143n, H143, G143⟩ := id V142
    have hin143 : ¬ ((3 : Int32) < 0 ∨ cl143.slots.size ≤ ((3 : Int32)).toNatClampNeg) := inb_of S143 ⟨by decide, by decide⟩
    obtain ⟨T143, h143, X143, e143, W143, st143⟩ := stI X142 hx hZ e142 Ar143 (j := (3 : Int32)) hin143 (g := (mkF m 47 #[.val (.int p0), .val (.int p1), .val (.int p2), .val (.int p3), .val (.int p4), .val (.int (3 : Int32)), .val (.ref b1_138), .val (.ref b139), .unset, .unset, .unset, .unset, .unset] [(.int (p4 + (3 : Int32))), (.int (3 : Int32)), (.ref b139)])) rfl rfl (hb hby at_47)
    have N143 := Fr.snoc X143 N142 gn_b139
    have K143 : Keep h0 h143 [] := K142.wr W143 (Or.inr sz_b139)
    have V143 : Arv Z h143 b139 k139 .int (4 : Int32) [(.int p4), (.int (p4 + (1 : Int32))), (.int (p4 + (2 : Int32))), (.int (p4 + (3 : Int32)))] (.int (0 : Int32)) := Arv.set Ar143 q143 S143 N143n H143 G143 rfl W143 3 rfl (Nat.le_of_ble_eq_true rfl)
    refine step (T143.setTop (mkF m 48 #[.val (.int p0), .val (.int p1), .val (.int p2), .val (.int p3), .val (.int p4), .val (.int (3 : Int32)), .val (.ref b1_138), .val (.ref b139), .unset, .unset, .unset, .unset, .unset] [])) (fun t k => st143 t k) ?_
    refine step (T143.setTop (mkF m 50 #[.val (.int p0), .val (.int p1), .val (.int p2), .val (.int p3), .val (.int p4), .val (.int (3 : Int32)), .val (.ref b1_138), .val (.ref b139), .unset, .unset, .unset, .unset, .unset] [(.ref b1_138)])) (fun t k => XS.aload X143.here hx rfl (hb hby at_48) rfl rfl k) ?_
    refine step (T143.setTop (mkF m 52 #[.val (.int p0), .val (.int p1), .val (.int p2), .val (.int p3), .val (.int p4), .val (.int (3 : Int32)), .val (.ref b1_138), .val (.ref b139), .unset, .unset, .unset, .unset, .unset] [(.ref b139), (.ref b1_138)])) (fun t k => XS.aload X143.here hx rfl (hb hby at_50) rfl rfl k) ?_
    have f144 := (((((q0_138.ext E139).wr W140).wr W141).wr W142).wr W143)
    have f145 := (((((q1_138.ext E139).other W140 (Or.inl ne_b1_138_b139)).other W141 (Or.inl ne_b1_138_b139)).other W142 (Or.inl ne_b1_138_b139)).other W143 (Or.inl ne_b1_138_b139))
    have f146 := (((((q2_138.ext E139).other W140 (Or.inl ne_b1_138_b139)).other W141 (Or.inl ne_b1_138_b139)).other W142 (Or.inl ne_b1_138_b139)).other W143 (Or.inl ne_b1_138_b139))
    have f147 := (((((q5_138.ext E139).other W140 (Or.inl ne_b1_138_b139)).other W141 (Or.inl ne_b1_138_b139)).other W142 (Or.inl ne_b1_138_b139)).other W143 (Or.inl ne_b1_138_b139))
    have f148 := (((((q6_138.ext E139).other W140 (Or.inl ne_b1_138_b139)).other W141 (Or.inl ne_b1_138_b139)).other W142 (Or.inl ne_b1_138_b139)).other W143 (Or.inl ne_b1_138_b139))
    obtain ⟨cq149, kq149, q149a, q149b, q149c⟩ := isOf hZ e143 f144
    obtain ⟨_, _, ⟨T149, L149, k149, n149⟩, -, X149, ⟨Lc149, hQ149, l149, y149, z149⟩, st149⟩ := X143.virtualBack hx (y := (⟨"com/example/vertex_to_service/vertextoservice/core/Choices", "writeTo", "([I)V"⟩ : MethodName)) (z := (⟨"com/example/vertex_to_service/vertextoservice/core/Choices", "writeTo", "([I)V"⟩ : MethodName)) hown (mvT hZ (hw _ (List.mem_of_getElem? (i := 25) rfl))) (mvT hZ (hw _ (List.mem_of_getElem? (i := 26) rfl))) (notFace_of_selects (args := #[]) (mvT hZ (hw _ (List.mem_of_getElem? (i := 28) rfl)))) (mvT hZ (hw _ (List.mem_of_getElem? (i := 28) rfl))) (mvT hZ (hw _ (List.mem_of_getElem? (i := 27) rfl))) (by decide) (backOf (W := 0) (rm4_50 l Z a0 hw [] b1_138 b139 p1 k139 p4 (p4 + (1 : Int32)) (p4 + (2 : Int32)) (p4 + (3 : Int32)) h143 n0 (Nat.le_trans Z0 K143.1) f144 f145 f146 f147 f148 V143 gn_b1_138 ne_b1_138_b139 gn_b139 (own_add0 p4)) hZ (hw _ (List.mem_of_getElem? (i := 29) rfl)) (hw _ (List.mem_of_getElem? (i := 2) rfl)) (by decide) (by decide)) q149a q149c (g := (mkF m 52 #[.val (.int p0), .val (.int p1), .val (.int p2), .val (.int p3), .val (.int p4), .val (.int (3 : Int32)), .val (.ref b1_138), .val (.ref b139), .unset, .unset, .unset, .unset, .unset] [(.ref b139), (.ref b1_138)])) rfl (by rw [hml]; rfl) (Steps.refl _) (argsL := [(.ref b139)]) (rest := []) (lenOf pd_1 rfl) rfl (by show 2 * 0 + _ ≤ _; exact Nat.le_of_eq rfl) (hb hby at_52) (fun _ _ => ⟨rfl, e143, (by decide : 2 + 2 ≤ _), (by decide : 10 + 20 ≤ _)⟩)
    dsimp only [Pt.U, Pt.locs, Pt.cells, Pt.slots] at X149 l149 y149 z149 st149 hQ149
    subst l149 y149 z149
    obtain ⟨h149, e149⟩ : ∃ z, T149.heap = z := ⟨_, rfl⟩
    rw [e149] at hQ149
    obtain ⟨rfl, N149q, K149q, q0_149⟩ := hQ149
    have N149 := Fr.app N143 N149q
    have K149 : Keep h0 h149 [] := K143.trans K149q (allS (Or.inr sz_b139) all0)
    refine step (T149.setTop (mkF m 55 #[.val (.int p0), .val (.int p1), .val (.int p2), .val (.int p3), .val (.int p4), .val (.int (3 : Int32)), .val (.ref b1_138), .val (.ref b139), .unset, .unset, .unset, .unset, .unset] [])) (fun t k => st149.trans k) ?_
    refine step (T149.setTop (mkF m 57 #[.val (.int p0), .val (.int p1), .val (.int p2), .val (.int p3), .val (.int p4), .val (.int (3 : Int32)), .val (.ref b1_138), .val (.ref b139), .unset, .unset, .unset, .unset, .unset] [(.ref b139)])) (fun t k => XS.aload X149.here hx rfl (hb hby at_55) rfl rfl k) ?_
    refine step (T149.setTop (mkF m 58 #[.val (.int p0), .val (.int p1), .val (.int p2), .val (.int p3), .val (.int p4), .val (.int (3 : Int32)), .val (.ref b1_138), .val (.ref b139), .unset, .unset, .unset, .unset, .unset] [(.int (0 : Int32)), (.ref b139)])) (fun t k => XS.iconst X149.here hx rfl (hb hby at_57) k) ?_
    obtain ⟨cl150, Ar150, q150, S150, N150n, H150, G150⟩ := id q0_149
    have hin150 : ¬ ((0 : Int32) < 0 ∨ cl150.slots.size ≤ ((0 : Int32)).toNatClampNeg) := inb_of S150 ⟨by decide, by decide⟩
    have hat150 : cl150.slots[((0 : Int32)).toNatClampNeg]? = some (.int p4) := H150.at hin150 rfl
    refine step (T149.setTop (mkF m 59 #[.val (.int p0), .val (.int p1), .val (.int p2), .val (.int p3), .val (.int p4), .val (.int (3 : Int32)), .val (.ref b1_138), .val (.ref b139), .unset, .unset, .unset, .unset, .unset] [(.int p4)])) (fun t k => X149.iaload hx (j := (0 : Int32)) (v := (.int p4)) (by rw [e149]; exact Ar150.1) (State.isArrayOf_alike hZ.alike Ar150.2.1) Ar150.2.2 hin150 hat150 (g := (mkF m 58 #[.val (.int p0), .val (.int p1), .val (.int p2), .val (.int p3), .val (.int p4), .val (.int (3 : Int32)), .val (.ref b1_138), .val (.ref b139), .unset, .unset, .unset, .unset, .unset] [(.int (0 : Int32)), (.ref b139)])) rfl rfl (hb hby at_58) t k) ?_
    refine step (T149.setTop (mkF m 60 #[.val (.int p0), .val (.int p1), .val (.int p2), .val (.int p3), .val (.int p4), .val (.int (3 : Int32)), .val (.ref b1_138), .val (.ref b139), .unset, .unset, .unset, .unset, .unset] [(.int (0 : Int32)), (.int p4)])) (fun t k => XS.iconst X149.here hx rfl (hb hby at_59) k) ?_
    refine step (T149.setTop (mkF m 62 #[.val (.int p0), .val (.int p1), .val (.int p2), .val (.int p3), .val (.int p4), .val (.int (3 : Int32)), .val (.ref b1_138), .val (.ref b139), .unset, .unset, .unset, .unset, .unset] [(.int (3 : Int32)), (.int (0 : Int32)), (.int p4)])) (fun t k => XS.iload X149.here hx rfl (hb hby at_60) rfl k) ?_
    refine step (T149.setTop (mkF m 63 #[.val (.int p0), .val (.int p1), .val (.int p2), .val (.int p3), .val (.int p4), .val (.int (3 : Int32)), .val (.ref b1_138), .val (.ref b139), .unset, .unset, .unset, .unset, .unset] [(.int p1), (.int (3 : Int32)), (.int (0 : Int32)), (.int p4)])) (fun t k => XS.iloadN X149.here hx rfl (hb hby at_62) rfl k) ?_
    refine step (T149.setTop (mkF m 65 #[.val (.int p0), .val (.int p1), .val (.int p2), .val (.int p3), .val (.int p4), .val (.int (3 : Int32)), .val (.ref b1_138), .val (.ref b139), .unset, .unset, .unset, .unset, .unset] [(.int p4), (.int p1), (.int (3 : Int32)), (.int (0 : Int32)), (.int p4)])) (fun t k => XS.iload X149.here hx rfl (hb hby at_63) rfl k) ?_
    obtain ⟨_, _, ⟨T151, L151, k151, n151⟩, -, X151, ⟨Lc151, hQ151, l151, y151, z151⟩, st151⟩ := Jvm.LawKit.callS X149 hx (y := (⟨"com/example/vertex_to_service/vertextoservice/core/ChoicesOfPinLaw", "expected", "(IIII)I"⟩ : MethodName)) hown (mvT hZ (hw _ (List.mem_of_getElem? (i := 96) rfl))) (mvT hZ (hw _ (List.mem_of_getElem? (i := 97) rfl))) (mvT hZ (hw _ (List.mem_of_getElem? (i := 98) rfl))) (mvT hZ (hw _ (List.mem_of_getElem? (i := 99) rfl))) (by decide) (backOf (W := 1) (rm17_52 l Z a0 hw [] p1 p4 h149 n0 (Nat.le_trans Z0 K149.1) (own_add0 p4)) hZ (hw _ (List.mem_of_getElem? (i := 99) rfl)) (hw _ (List.mem_of_getElem? (i := 98) rfl)) (by decide) (by decide)) (g := (mkF m 65 #[.val (.int p0), .val (.int p1), .val (.int p2), .val (.int p3), .val (.int p4), .val (.int (3 : Int32)), .val (.ref b1_138), .val (.ref b139), .unset, .unset, .unset, .unset, .unset] [(.int p4), (.int p1), (.int (3 : Int32)), (.int (0 : Int32)), (.int p4)])) rfl (by rw [hml]; rfl) (argsL := [(.int (0 : Int32)), (.int (3 : Int32)), (.int p1), (.int p4)]) (rest := [(.int p4)]) (lenOf pd_2 rfl) rfl (by show 2 * 0 + _ ≤ _; exact Nat.le_of_eq rfl) (hb hby at_65) (fun _ _ => ⟨rfl, e149, (by decide : 4 + 0 ≤ _), (by decide : 30 + 0 ≤ _)⟩)
    dsimp only [Pt.U, Pt.locs, Pt.cells, Pt.slots] at X151 l151 y151 z151 st151 hQ151
    subst l151 y151 z151
    obtain ⟨rfl, N151q, e151q⟩ := hQ151
    have N151 := Fr.app N149 N151q
    refine step (T151.setTop (mkF m 68 #[.val (.int p0), .val (.int p1), .val (.int p2), .val (.int p3), .val (.int p4), .val (.int (3 : Int32)), .val (.ref b1_138), .val (.ref b139), .unset, .unset, .unset, .unset, .unset] [(.int (p4 + (0 : Int32))), (.int p4)])) (fun t k => st151 t k) ?_
    have hc68_152 : p4 = (p4 + (0 : Int32)) := (own_add0 p4)
    refine step (T151.setTop (mkF m 71 #[.val (.int p0), .val (.int p1), .val (.int p2), .val (.int p3), .val (.int p4), .val (.int (3 : Int32)), .val (.ref b1_138), .val (.ref b139), .unset, .unset, .unset, .unset, .unset] [])) (fun t k => XS.icmpNo X151.here hx rfl (hb hby at_68) rfl (teq hc68_152).2 k) ?_
    refine step (T151.setTop (mkF m 73 #[.val (.int p0), .val (.int p1), .val (.int p2), .val (.int p3), .val (.int p4), .val (.int (3 : Int32)), .val (.ref b1_138), .val (.ref b139), .unset, .unset, .unset, .unset, .unset] [(.ref b139)])) (fun t k => XS.aload X151.here hx rfl (hb hby at_71) rfl rfl k) ?_
    refine step (T151.setTop (mkF m 74 #[.val (.int p0), .val (.int p1), .val (.int p2), .val (.int p3), .val (.int p4), .val (.int (3 : Int32)), .val (.ref b1_138), .val (.ref b139), .unset, .unset, .unset, .unset, .unset] [(.int (1 : Int32)), (.ref b139)])) (fun t k => XS.iconst X151.here hx rfl (hb hby at_73) k) ?_
    obtain ⟨cl153, Ar153, q153, S153, N153n, H153, G153⟩ := id q0_149
    have hin153 : ¬ ((1 : Int32) < 0 ∨ cl153.slots.size ≤ ((1 : Int32)).toNatClampNeg) := inb_of S153 ⟨by decide, by decide⟩
    have hat153 : cl153.slots[((1 : Int32)).toNatClampNeg]? = some (.int (p4 + (1 : Int32))) := H153.at hin153 rfl
    refine step (T151.setTop (mkF m 75 #[.val (.int p0), .val (.int p1), .val (.int p2), .val (.int p3), .val (.int p4), .val (.int (3 : Int32)), .val (.ref b1_138), .val (.ref b139), .unset, .unset, .unset, .unset, .unset] [(.int (p4 + (1 : Int32)))])) (fun t k => X151.iaload hx (j := (1 : Int32)) (v := (.int (p4 + (1 : Int32)))) (by rw [e151q]; exact Ar153.1) (State.isArrayOf_alike hZ.alike Ar153.2.1) Ar153.2.2 hin153 hat153 (g := (mkF m 74 #[.val (.int p0), .val (.int p1), .val (.int p2), .val (.int p3), .val (.int p4), .val (.int (3 : Int32)), .val (.ref b1_138), .val (.ref b139), .unset, .unset, .unset, .unset, .unset] [(.int (1 : Int32)), (.ref b139)])) rfl rfl (hb hby at_74) t k) ?_
    refine step (T151.setTop (mkF m 76 #[.val (.int p0), .val (.int p1), .val (.int p2), .val (.int p3), .val (.int p4), .val (.int (3 : Int32)), .val (.ref b1_138), .val (.ref b139), .unset, .unset, .unset, .unset, .unset] [(.int (1 : Int32)), (.int (p4 + (1 : Int32)))])) (fun t k => XS.iconst X151.here hx rfl (hb hby at_75) k) ?_
    refine step (T151.setTop (mkF m 78 #[.val (.int p0), .val (.int p1), .val (.int p2), .val (.int p3), .val (.int p4), .val (.int (3 : Int32)), .val (.ref b1_138), .val (.ref b139), .unset, .unset, .unset, .unset, .unset] [(.int (3 : Int32)), (.int (1 : Int32)), (.int (p4 + (1 : Int32)))])) (fun t k => XS.iload X151.here hx rfl (hb hby at_76) rfl k) ?_
    refine step (T151.setTop (mkF m 79 #[.val (.int p0), .val (.int p1), .val (.int p2), .val (.int p3), .val (.int p4), .val (.int (3 : Int32)), .val (.ref b1_138), .val (.ref b139), .unset, .unset, .unset, .unset, .unset] [(.int p1), (.int (3 : Int32)), (.int (1 : Int32)), (.int (p4 + (1 : Int32)))])) (fun t k => XS.iloadN X151.here hx rfl (hb hby at_78) rfl k) ?_
    refine step (T151.setTop (mkF m 81 #[.val (.int p0), .val (.int p1), .val (.int p2), .val (.int p3), .val (.int p4), .val (.int (3 : Int32)), .val (.ref b1_138), .val (.ref b139), .unset, .unset, .unset, .unset, .unset] [(.int p4), (.int p1), (.int (3 : Int32)), (.int (1 : Int32)), (.int (p4 + (1 : Int32)))])) (fun t k => XS.iload X151.here hx rfl (hb hby at_79) rfl k) ?_
    obtain ⟨_, _, ⟨T154, L154, k154, n154⟩, -, X154, ⟨Lc154, hQ154, l154, y154, z154⟩, st154⟩ := Jvm.LawKit.callS X151 hx (y := (⟨"com/example/vertex_to_service/vertextoservice/core/ChoicesOfPinLaw", "expected", "(IIII)I"⟩ : MethodName)) hown (mvT hZ (hw _ (List.mem_of_getElem? (i := 96) rfl))) (mvT hZ (hw _ (List.mem_of_getElem? (i := 97) rfl))) (mvT hZ (hw _ (List.mem_of_getElem? (i := 98) rfl))) (mvT hZ (hw _ (List.mem_of_getElem? (i := 99) rfl))) (by decide) (backOf (W := 1) (rm17_53 l Z a0 hw [] p1 p4 h149 n0 (Nat.le_trans Z0 K149.1) (own_add0 p4)) hZ (hw _ (List.mem_of_getElem? (i := 99) rfl)) (hw _ (List.mem_of_getElem? (i := 98) rfl)) (by decide) (by decide)) (g := (mkF m 81 #[.val (.int p0), .val (.int p1), .val (.int p2), .val (.int p3), .val (.int p4), .val (.int (3 : Int32)), .val (.ref b1_138), .val (.ref b139), .unset, .unset, .unset, .unset, .unset] [(.int p4), (.int p1), (.int (3 : Int32)), (.int (1 : Int32)), (.int (p4 + (1 : Int32)))])) rfl (by rw [hml]; rfl) (argsL := [(.int (1 : Int32)), (.int (3 : Int32)), (.int p1), (.int p4)]) (rest := [(.int (p4 + (1 : Int32)))]) (lenOf pd_2 rfl) rfl (by show 2 * 0 + _ ≤ _; exact Nat.le_of_eq rfl) (hb hby at_81) (fun _ _ => ⟨rfl, e151q, (by decide : 4 + 0 ≤ _), (by decide : 30 + 0 ≤ _)⟩)
    dsimp only [Pt.U, Pt.locs, Pt.cells, Pt.slots] at X154 l154 y154 z154 st154 hQ154
    subst l154 y154 z154
    obtain ⟨rfl, N154q, e154q⟩ := hQ154
    have N154 := Fr.app N151 N154q
    refine step (T154.setTop (mkF m 84 #[.val (.int p0), .val (.int p1), .val (.int p2), .val (.int p3), .val (.int p4), .val (.int (3 : Int32)), .val (.ref b1_138), .val (.ref b139), .unset, .unset, .unset, .unset, .unset] [(.int (p4 + (1 : Int32))), (.int (p4 + (1 : Int32)))])) (fun t k => st154 t k) ?_
    refine step (T154.setTop (mkF m 87 #[.val (.int p0), .val (.int p1), .val (.int p2), .val (.int p3), .val (.int p4), .val (.int (3 : Int32)), .val (.ref b1_138), .val (.ref b139), .unset, .unset, .unset, .unset, .unset] [])) (fun t k => XS.icmpNo X154.here hx rfl (hb hby at_84) rfl (teq (rfl : (p4 + (1 : Int32)) = (p4 + (1 : Int32)))).2 k) ?_
    refine step (T154.setTop (mkF m 89 #[.val (.int p0), .val (.int p1), .val (.int p2), .val (.int p3), .val (.int p4), .val (.int (3 : Int32)), .val (.ref b1_138), .val (.ref b139), .unset, .unset, .unset, .unset, .unset] [(.ref b139)])) (fun t k => XS.aload X154.here hx rfl (hb hby at_87) rfl rfl k) ?_
    refine step (T154.setTop (mkF m 90 #[.val (.int p0), .val (.int p1), .val (.int p2), .val (.int p3), .val (.int p4), .val (.int (3 : Int32)), .val (.ref b1_138), .val (.ref b139), .unset, .unset, .unset, .unset, .unset] [(.int (2 : Int32)), (.ref b139)])) (fun t k => XS.iconst X154.here hx rfl (hb hby at_89) k) ?_
    obtain ⟨cl155, Ar155, q155, S155, N155n, H155, G155⟩ := id q0_149
    have hin155 : ¬ ((2 : Int32) < 0 ∨ cl155.slots.size ≤ ((2 : Int32)).toNatClampNeg) := inb_of S155 ⟨by decide, by decide⟩
    have hat155 : cl155.slots[((2 : Int32)).toNatClampNeg]? = some (.int (p4 + (2 : Int32))) := H155.at hin155 rfl
    refine step (T154.setTop (mkF m 91 #[.val (.int p0), .val (.int p1), .val (.int p2), .val (.int p3), .val (.int p4), .val (.int (3 : Int32)), .val (.ref b1_138), .val (.ref b139), .unset, .unset, .unset, .unset, .unset] [(.int (p4 + (2 : Int32)))])) (fun t k => X154.iaload hx (j := (2 : Int32)) (v := (.int (p4 + (2 : Int32)))) (by rw [e154q]; exact Ar155.1) (State.isArrayOf_alike hZ.alike Ar155.2.1) Ar155.2.2 hin155 hat155 (g := (mkF m 90 #[.val (.int p0), .val (.int p1), .val (.int p2), .val (.int p3), .val (.int p4), .val (.int (3 : Int32)), .val (.ref b1_138), .val (.ref b139), .unset, .unset, .unset, .unset, .unset] [(.int (2 : Int32)), (.ref b139)])) rfl rfl (hb hby at_90) t k) ?_
    refine step (T154.setTop (mkF m 92 #[.val (.int p0), .val (.int p1), .val (.int p2), .val (.int p3), .val (.int p4), .val (.int (3 : Int32)), .val (.ref b1_138), .val (.ref b139), .unset, .unset, .unset, .unset, .unset] [(.int (2 : Int32)), (.int (p4 + (2 : Int32)))])) (fun t k => XS.iconst X154.here hx rfl (hb hby at_91) k) ?_
    refine step (T154.setTop (mkF m 94 #[.val (.int p0), .val (.int p1), .val (.int p2), .val (.int p3), .val (.int p4), .val (.int (3 : Int32)), .val (.ref b1_138), .val (.ref b139), .unset, .unset, .unset, .unset, .unset] [(.int (3 : Int32)), (.int (2 : Int32)), (.int (p4 + (2 : Int32)))])) (fun t k => XS.iload X154.here hx rfl (hb hby at_92) rfl k) ?_
    refine step (T154.setTop (mkF m 95 #[.val (.int p0), .val (.int p1), .val (.int p2), .val (.int p3), .val (.int p4), .val (.int (3 : Int32)), .val (.ref b1_138), .val (.ref b139), .unset, .unset, .unset, .unset, .unset] [(.int p1), (.int (3 : Int32)), (.int (2 : Int32)), (.int (p4 + (2 : Int32)))])) (fun t k => XS.iloadN X154.here hx rfl (hb hby at_94) rfl k) ?_
    refine step (T154.setTop (mkF m 97 #[.val (.int p0), .val (.int p1), .val (.int p2), .val (.int p3), .val (.int p4), .val (.int (3 : Int32)), .val (.ref b1_138), .val (.ref b139), .unset, .unset, .unset, .unset, .unset] [(.int p4), (.int p1), (.int (3 : Int32)), (.int (2 : Int32)), (.int (p4 + (2 : Int32)))])) (fun t k => XS.iload X154.here hx rfl (hb hby at_95) rfl k) ?_
    obtain ⟨_, _, ⟨T156, L156, k156, n156⟩, -, X156, ⟨Lc156, hQ156, l156, y156, z156⟩, st156⟩ := Jvm.LawKit.callS X154 hx (y := (⟨"com/example/vertex_to_service/vertextoservice/core/ChoicesOfPinLaw", "expected", "(IIII)I"⟩ : MethodName)) hown (mvT hZ (hw _ (List.mem_of_getElem? (i := 96) rfl))) (mvT hZ (hw _ (List.mem_of_getElem? (i := 97) rfl))) (mvT hZ (hw _ (List.mem_of_getElem? (i := 98) rfl))) (mvT hZ (hw _ (List.mem_of_getElem? (i := 99) rfl))) (by decide) (backOf (W := 1) (rm17_54 l Z a0 hw [] p1 p4 h149 n0 (Nat.le_trans Z0 K149.1) (own_add0 p4)) hZ (hw _ (List.mem_of_getElem? (i := 99) rfl)) (hw _ (List.mem_of_getElem? (i := 98) rfl)) (by decide) (by decide)) (g := (mkF m 97 #[.val (.int p0), .val (.int p1), .val (.int p2), .val (.int p3), .val (.int p4), .val (.int (3 : Int32)), .val (.ref b1_138), .val (.ref b139), .unset, .unset, .unset, .unset, .unset] [(.int p4), (.int p1), (.int (3 : Int32)), (.int (2 : Int32)), (.int (p4 + (2 : Int32)))])) rfl (by rw [hml]; rfl) (argsL := [(.int (2 : Int32)), (.int (3 : Int32)), (.int p1), (.int p4)]) (rest := [(.int (p4 + (2 : Int32)))]) (lenOf pd_2 rfl) rfl (by show 2 * 0 + _ ≤ _; exact Nat.le_of_eq rfl) (hb hby at_97) (fun _ _ => ⟨rfl, e154q, (by decide : 4 + 0 ≤ _), (by decide : 30 + 0 ≤ _)⟩)
    dsimp only [Pt.U, Pt.locs, Pt.cells, Pt.slots] at X156 l156 y156 z156 st156 hQ156
    subst l156 y156 z156
    obtain ⟨rfl, N156q, e156q⟩ := hQ156
    have N156 := Fr.app N154 N156q
    refine step (T156.setTop (mkF m 100 #[.val (.int p0), .val (.int p1), .val (.int p2), .val (.int p3), .val (.int p4), .val (.int (3 : Int32)), .val (.ref b1_138), .val (.ref b139), .unset, .unset, .unset, .unset, .unset] [(.int (p4 + (2 : Int32))), (.int (p4 + (2 : Int32)))])) (fun t k => st156 t k) ?_
    refine step (T156.setTop (mkF m 103 #[.val (.int p0), .val (.int p1), .val (.int p2), .val (.int p3), .val (.int p4), .val (.int (3 : Int32)), .val (.ref b1_138), .val (.ref b139), .unset, .unset, .unset, .unset, .unset] [])) (fun t k => XS.icmpNo X156.here hx rfl (hb hby at_100) rfl (teq (rfl : (p4 + (2 : Int32)) = (p4 + (2 : Int32)))).2 k) ?_
    refine step (T156.setTop (mkF m 105 #[.val (.int p0), .val (.int p1), .val (.int p2), .val (.int p3), .val (.int p4), .val (.int (3 : Int32)), .val (.ref b1_138), .val (.ref b139), .unset, .unset, .unset, .unset, .unset] [(.ref b139)])) (fun t k => XS.aload X156.here hx rfl (hb hby at_103) rfl rfl k) ?_
    refine step (T156.setTop (mkF m 106 #[.val (.int p0), .val (.int p1), .val (.int p2), .val (.int p3), .val (.int p4), .val (.int (3 : Int32)), .val (.ref b1_138), .val (.ref b139), .unset, .unset, .unset, .unset, .unset] [(.int (3 : Int32)), (.ref b139)])) (fun t k => XS.iconst X156.here hx rfl (hb hby at_105) k) ?_
    obtain ⟨cl157, Ar157, q157, S157, N157n, H157, G157⟩ := id q0_149
    have hin157 : ¬ ((3 : Int32) < 0 ∨ cl157.slots.size ≤ ((3 : Int32)).toNatClampNeg) := inb_of S157 ⟨by decide, by decide⟩
    have hat157 : cl157.slots[((3 : Int32)).toNatClampNeg]? = some (.int p1) := H157.at hin157 rfl
    refine step (T156.setTop (mkF m 107 #[.val (.int p0), .val (.int p1), .val (.int p2), .val (.int p3), .val (.int p4), .val (.int (3 : Int32)), .val (.ref b1_138), .val (.ref b139), .unset, .unset, .unset, .unset, .unset] [(.int p1)])) (fun t k => X156.iaload hx (j := (3 : Int32)) (v := (.int p1)) (by rw [e156q]; exact Ar157.1) (State.isArrayOf_alike hZ.alike Ar157.2.1) Ar157.2.2 hin157 hat157 (g := (mkF m 106 #[.val (.int p0), .val (.int p1), .val (.int p2), .val (.int p3), .val (.int p4), .val (.int (3 : Int32)), .val (.ref b1_138), .val (.ref b139), .unset, .unset, .unset, .unset, .unset] [(.int (3 : Int32)), (.ref b139)])) rfl rfl (hb hby at_106) t k) ?_
    refine step (T156.setTop (mkF m 108 #[.val (.int p0), .val (.int p1), .val (.int p2), .val (.int p3), .val (.int p4), .val (.int (3 : Int32)), .val (.ref b1_138), .val (.ref b139), .unset, .unset, .unset, .unset, .unset] [(.int (3 : Int32)), (.int p1)])) (fun t k => XS.iconst X156.here hx rfl (hb hby at_107) k) ?_
    refine step (T156.setTop (mkF m 110 #[.val (.int p0), .val (.int p1), .val (.int p2), .val (.int p3), .val (.int p4), .val (.int (3 : Int32)), .val (.ref b1_138), .val (.ref b139), .unset, .unset, .unset, .unset, .unset] [(.int (3 : Int32)), (.int (3 : Int32)), (.int p1)])) (fun t k => XS.iload X156.here hx rfl (hb hby at_108) rfl k) ?_
    refine step (T156.setTop (mkF m 111 #[.val (.int p0), .val (.int p1), .val (.int p2), .val (.int p3), .val (.int p4), .val (.int (3 : Int32)), .val (.ref b1_138), .val (.ref b139), .unset, .unset, .unset, .unset, .unset] [(.int p1), (.int (3 : Int32)), (.int (3 : Int32)), (.int p1)])) (fun t k => XS.iloadN X156.here hx rfl (hb hby at_110) rfl k) ?_
    refine step (T156.setTop (mkF m 113 #[.val (.int p0), .val (.int p1), .val (.int p2), .val (.int p3), .val (.int p4), .val (.int (3 : Int32)), .val (.ref b1_138), .val (.ref b139), .unset, .unset, .unset, .unset, .unset] [(.int p4), (.int p1), (.int (3 : Int32)), (.int (3 : Int32)), (.int p1)])) (fun t k => XS.iload X156.here hx rfl (hb hby at_111) rfl k) ?_
    obtain ⟨_, _, ⟨T158, L158, k158, n158⟩, -, X158, ⟨Lc158, hQ158, l158, y158, z158⟩, st158⟩ := Jvm.LawKit.callS X156 hx (y := (⟨"com/example/vertex_to_service/vertextoservice/core/ChoicesOfPinLaw", "expected", "(IIII)I"⟩ : MethodName)) hown (mvT hZ (hw _ (List.mem_of_getElem? (i := 96) rfl))) (mvT hZ (hw _ (List.mem_of_getElem? (i := 97) rfl))) (mvT hZ (hw _ (List.mem_of_getElem? (i := 98) rfl))) (mvT hZ (hw _ (List.mem_of_getElem? (i := 99) rfl))) (by decide) (backOf (W := 1) (rm17_55 l Z a0 hw [] p1 p4 h149 n0 (Nat.le_trans Z0 K149.1) (own_add0 p4)) hZ (hw _ (List.mem_of_getElem? (i := 99) rfl)) (hw _ (List.mem_of_getElem? (i := 98) rfl)) (by decide) (by decide)) (g := (mkF m 113 #[.val (.int p0), .val (.int p1), .val (.int p2), .val (.int p3), .val (.int p4), .val (.int (3 : Int32)), .val (.ref b1_138), .val (.ref b139), .unset, .unset, .unset, .unset, .unset] [(.int p4), (.int p1), (.int (3 : Int32)), (.int (3 : Int32)), (.int p1)])) rfl (by rw [hml]; rfl) (argsL := [(.int (3 : Int32)), (.int (3 : Int32)), (.int p1), (.int p4)]) (rest := [(.int p1)]) (lenOf pd_2 rfl) rfl (by show 2 * 0 + _ ≤ _; exact Nat.le_of_eq rfl) (hb hby at_113) (fun _ _ => ⟨rfl, e156q, (by decide : 4 + 0 ≤ _), (by decide : 30 + 0 ≤ _)⟩)
    dsimp only [Pt.U, Pt.locs, Pt.cells, Pt.slots] at X158 l158 y158 z158 st158 hQ158
    subst l158 y158 z158
    obtain ⟨rfl, N158q, e158q⟩ := hQ158
    have N158 := Fr.app N156 N158q
    refine step (T158.setTop (mkF m 116 #[.val (.int p0), .val (.int p1), .val (.int p2), .val (.int p3), .val (.int p4), .val (.int (3 : Int32)), .val (.ref b1_138), .val (.ref b139), .unset, .unset, .unset, .unset, .unset] [(.int p1), (.int p1)])) (fun t k => st158 t k) ?_
    refine step (T158.setTop (mkF m 119 #[.val (.int p0), .val (.int p1), .val (.int p2), .val (.int p3), .val (.int p4), .val (.int (3 : Int32)), .val (.ref b1_138), .val (.ref b139), .unset, .unset, .unset, .unset, .unset] [])) (fun t k => XS.icmpNo X158.here hx rfl (hb hby at_116) rfl (teq (rfl : p1 = p1)).2 k) ?_
    refine step (T158.setTop (mkF m 120 #[.val (.int p0), .val (.int p1), .val (.int p2), .val (.int p3), .val (.int p4), .val (.int (3 : Int32)), .val (.ref b1_138), .val (.ref b139), .unset, .unset, .unset, .unset, .unset] [(.int (1 : Int32))])) (fun t k => XS.iconst X158.here hx rfl (hb hby at_119) k) ?_
    refine step (T158.setTop (mkF m 124 #[.val (.int p0), .val (.int p1), .val (.int p2), .val (.int p3), .val (.int p4), .val (.int (3 : Int32)), .val (.ref b1_138), .val (.ref b139), .unset, .unset, .unset, .unset, .unset] [(.int (1 : Int32))])) (fun t k => XS.goto X158.here hx rfl (pc0 := 120) (pc' := 124) rfl (hb hby at_120) (by decide) (by decide) k) ?_
    refine step (T158.setTop (mkF m 126 #[.val (.int p0), .val (.int p1), .val (.int p2), .val (.int p3), .val (.int p4), .val (.int (3 : Int32)), .val (.ref b1_138), .val (.ref b139), .val (.int (1 : Int32)), .unset, .unset, .unset, .unset] [])) (fun t k => XS.istore X158.here hx rfl (hb hby at_124) rfl (l' := #[.val (.int p0), .val (.int p1), .val (.int p2), .val (.int p3), .val (.int p4), .val (.int (3 : Int32)), .val (.ref b1_138), .val (.ref b139), .val (.int (1 : Int32)), .unset, .unset, .unset, .unset]) rfl k) ?_
    refine step (T158.setTop (mkF m 127 #[.val (.int p0), .val (.int p1), .val (.int p2), .val (.int p3), .val (.int p4), .val (.int (3 : Int32)), .val (.ref b1_138), .val (.ref b139), .val (.int (1 : Int32)), .unset, .unset, .unset, .unset] [(.int p0)])) (fun t k => XS.iloadN X158.here hx rfl (hb hby at_126) rfl k) ?_
    refine step (T158.setTop (mkF m 129 #[.val (.int p0), .val (.int p1), .val (.int p2), .val (.int p3), .val (.int p4), .val (.int (3 : Int32)), .val (.ref b1_138), .val (.ref b139), .val (.int (1 : Int32)), .unset, .unset, .unset, .unset] [(.int (2147483647 : Int32)), (.int p0)])) (fun t k => X158.ldcInt hx hown (mvT hZ (hw _ (List.mem_of_getElem? (i := 100) rfl))) (g := (mkF m 127 #[.val (.int p0), .val (.int p1), .val (.int p2), .val (.int p3), .val (.int p4), .val (.int (3 : Int32)), .val (.ref b1_138), .val (.ref b139), .val (.int (1 : Int32)), .unset, .unset, .unset, .unset] [(.int p0)])) rfl (hb hby at_127) t k) ?_
    refine step (T158.setTop (mkF m 130 #[.val (.int p0), .val (.int p1), .val (.int p2), .val (.int p3), .val (.int p4), .val (.int (3 : Int32)), .val (.ref b1_138), .val (.ref b139), .val (.int (1 : Int32)), .unset, .unset, .unset, .unset] [(.int (p0 &&& (2147483647 : Int32)))])) (fun t k => XS.iand X158.here hx rfl (hb hby at_129) rfl k) ?_
    generalize hpv : (p0 &&& (2147483647 : Int32)) = pv
    have nn_pv := own_nn _ _ hpv
    refine step (T158.setTop (mkF m 132 #[.val (.int p0), .val (.int p1), .val (.int p2), .val (.int p3), .val (.int p4), .val (.int (3 : Int32)), .val (.ref b1_138), .val (.ref b139), .val (.int (1 : Int32)), .val (.int pv), .unset, .unset, .unset] [])) (fun t k => XS.istore X158.here hx rfl (hb hby at_130) rfl (l' := #[.val (.int p0), .val (.int p1), .val (.int p2), .val (.int p3), .val (.int p4), .val (.int (3 : Int32)), .val (.ref b1_138), .val (.ref b139), .val (.int (1 : Int32)), .val (.int pv), .unset, .unset, .unset]) rfl k) ?_
    refine step (T158.setTop (mkF m 133 #[.val (.int p0), .val (.int p1), .val (.int p2), .val (.int p3), .val (.int p4), .val (.int (3 : Int32)), .val (.ref b1_138), .val (.ref b139), .val (.int (1 : Int32)), .val (.int pv), .unset, .unset, .unset] [(.int p2)])) (fun t k => XS.iloadN X158.here hx rfl (hb hby at_132) rfl k) ?_
    refine step (T158.setTop (mkF m 135 #[.val (.int p0), .val (.int p1), .val (.int p2), .val (.int p3), .val (.int p4), .val (.int (3 : Int32)), .val (.ref b1_138), .val (.ref b139), .val (.int (1 : Int32)), .val (.int pv), .unset, .unset, .unset] [(.int (2147483647 : Int32)), (.int p2)])) (fun t k => X158.ldcInt hx hown (mvT hZ (hw _ (List.mem_of_getElem? (i := 100) rfl))) (g := (mkF m 133 #[.val (.int p0), .val (.int p1), .val (.int p2), .val (.int p3), .val (.int p4), .val (.int (3 : Int32)), .val (.ref b1_138), .val (.ref b139), .val (.int (1 : Int32)), .val (.int pv), .unset, .unset, .unset] [(.int p2)])) rfl (hb hby at_133) t k) ?_
    refine step (T158.setTop (mkF m 136 #[.val (.int p0), .val (.int p1), .val (.int p2), .val (.int p3), .val (.int p4), .val (.int (3 : Int32)), .val (.ref b1_138), .val (.ref b139), .val (.int (1 : Int32)), .val (.int pv), .unset, .unset, .unset] [(.int (p2 &&& (2147483647 : Int32)))])) (fun t k => XS.iand X158.here hx rfl (hb hby at_135) rfl k) ?_
    generalize hqv : (p2 &&& (2147483647 : Int32)) = qv
    have nn_qv := own_nn _ _ hqv
    refine step (T158.setTop (mkF m 138 #[.val (.int p0), .val (.int p1), .val (.int p2), .val (.int p3), .val (.int p4), .val (.int (3 : Int32)), .val (.ref b1_138), .val (.ref b139), .val (.int (1 : Int32)), .val (.int pv), .val (.int qv), .unset, .unset] [])) (fun t k => XS.istore X158.here hx rfl (hb hby at_136) rfl (l' := #[.val (.int p0), .val (.int p1), .val (.int p2), .val (.int p3), .val (.int p4), .val (.int (3 : Int32)), .val (.ref b1_138), .val (.ref b139), .val (.int (1 : Int32)), .val (.int pv), .val (.int qv), .unset, .unset]) rfl k) ?_
    refine step (T158.setTop (mkF m 140 #[.val (.int p0), .val (.int p1), .val (.int p2), .val (.int p3), .val (.int p4), .val (.int (3 : Int32)), .val (.ref b1_138), .val (.ref b139), .val (.int (1 : Int32)), .val (.int pv), .val (.int qv), .unset, .unset] [(.int pv)])) (fun t k => XS.iload X158.here hx rfl (hb hby at_138) rfl k) ?_
    refine step (T158.setTop (mkF m 141 #[.val (.int p0), .val (.int p1), .val (.int p2), .val (.int p3), .val (.int p4), .val (.int (3 : Int32)), .val (.ref b1_138), .val (.ref b139), .val (.int (1 : Int32)), .val (.int pv), .val (.int qv), .unset, .unset] [(.int p1), (.int pv)])) (fun t k => XS.iloadN X158.here hx rfl (hb hby at_140) rfl k) ?_
    obtain ⟨_, _, ⟨T159, L159, k159, n159⟩, -, X159, ⟨Lc159, hQ159, l159, y159, z159⟩, st159⟩ := Jvm.LawKit.callS X158 hx (y := (⟨"com/example/vertex_to_service/vertextoservice/core/Choices", "of", "(II)Lcom/example/vertex_to_service/vertextoservice/core/Choices;"⟩ : MethodName)) hown (mvT hZ (hw _ (List.mem_of_getElem? (i := 0) rfl))) (mvT hZ (hw _ (List.mem_of_getElem? (i := 1) rfl))) (mvT hZ (hw _ (List.mem_of_getElem? (i := 2) rfl))) (mvT hZ (hw _ (List.mem_of_getElem? (i := 3) rfl))) (by decide) (backOf (W := 0) (rm1_21 l Z a0 hw [] pv p1 h149 n0 (Nat.le_trans Z0 K149.1) nn_pv) hZ (hw _ (List.mem_of_getElem? (i := 3) rfl)) (hw _ (List.mem_of_getElem? (i := 2) rfl)) (by decide) (by decide)) (g := (mkF m 141 #[.val (.int p0), .val (.int p1), .val (.int p2), .val (.int p3), .val (.int p4), .val (.int (3 : Int32)), .val (.ref b1_138), .val (.ref b139), .val (.int (1 : Int32)), .val (.int pv), .val (.int qv), .unset, .unset] [(.int p1), (.int pv)])) rfl (by rw [hml]; rfl) (argsL := [(.int pv), (.int p1)]) (rest := []) (lenOf pd_0 rfl) rfl (by show 2 * 0 + _ ≤ _; exact Nat.le_of_eq rfl) (hb hby at_141) (fun _ _ => ⟨rfl, e158q, (by decide : 4 + 1 ≤ _), (by decide : 30 + 6 ≤ _)⟩)
    dsimp only [Pt.U, Pt.locs, Pt.cells, Pt.slots] at X159 l159 y159 z159 st159 hQ159
    subst l159 y159 z159
    obtain ⟨h159, e159⟩ : ∃ z, T159.heap = z := ⟨_, rfl⟩
    rw [e159] at hQ159
    obtain ⟨b1_159, rfl, N159q, K159q, sz_b1_159, q0_159, q1_159, q2_159, q3_159, q4_159, q5_159, q6_159⟩ := hQ159
    have N159 := Fr.app N158 N159q
    have f160 := (f144.keep K149q)
    have lt159_b1_138 := f160.lt
    have lt159_b139 := q0_149.lt
    have ne_b1_138_b1_159 : b1_138 ≠ b1_159 := Nat.ne_of_lt (Nat.lt_of_lt_of_le lt159_b1_138 sz_b1_159)
    have ne_b139_b1_159 : b139 ≠ b1_159 := Nat.ne_of_lt (Nat.lt_of_lt_of_le lt159_b139 sz_b1_159)
    have gn_b1_159 : n0 ≤ b1_159 := Nat.le_trans (Nat.le_trans Z0 K149.1) sz_b1_159
    have sz_b1_159' := Nat.le_trans K149.1 sz_b1_159
    replace sz_b1_159 := sz_b1_159'
    have K159 : Keep h0 h159 [] := K149.trans K159q all0
    refine step (T159.setTop (mkF m 144 #[.val (.int p0), .val (.int p1), .val (.int p2), .val (.int p3), .val (.int p4), .val (.int (3 : Int32)), .val (.ref b1_138), .val (.ref b139), .val (.int (1 : Int32)), .val (.int pv), .val (.int qv), .unset, .unset] [(.ref b1_159)])) (fun t k => st159 t k) ?_
    refine step (T159.setTop (mkF m 146 #[.val (.int p0), .val (.int p1), .val (.int p2), .val (.int p3), .val (.int p4), .val (.int (3 : Int32)), .val (.ref b1_138), .val (.ref b139), .val (.int (1 : Int32)), .val (.int pv), .val (.int qv), .val (.ref b1_159), .unset] [])) (fun t k => XS.astore X159.here hx rfl (hb hby at_144) rfl rfl (l' := #[.val (.int p0), .val (.int p1), .val (.int p2), .val (.int p3), .val (.int p4), .val (.int (3 : Int32)), .val (.ref b1_138), .val (.ref b139), .val (.int (1 : Int32)), .val (.int pv), .val (.int qv), .val (.ref b1_159), .unset]) rfl k) ?_
    refine step (T159.setTop (mkF m 148 #[.val (.int p0), .val (.int p1), .val (.int p2), .val (.int p3), .val (.int p4), .val (.int (3 : Int32)), .val (.ref b1_138), .val (.ref b139), .val (.int (1 : Int32)), .val (.int pv), .val (.int qv), .val (.ref b1_159), .unset] [(.int qv)])) (fun t k => XS.iload X159.here hx rfl (hb hby at_146) rfl k) ?_
    refine step (T159.setTop (mkF m 149 #[.val (.int p0), .val (.int p1), .val (.int p2), .val (.int p3), .val (.int p4), .val (.int (3 : Int32)), .val (.ref b1_138), .val (.ref b139), .val (.int (1 : Int32)), .val (.int pv), .val (.int qv), .val (.ref b1_159), .unset] [(.int p3), (.int qv)])) (fun t k => XS.iloadN X159.here hx rfl (hb hby at_148) rfl k) ?_
    obtain ⟨_, _, ⟨T161, L161, k161, n161⟩, -, X161, ⟨Lc161, hQ161, l161, y161, z161⟩, st161⟩ := Jvm.LawKit.callS X159 hx (y := (⟨"com/example/vertex_to_service/vertextoservice/core/Choices", "of", "(II)Lcom/example/vertex_to_service/vertextoservice/core/Choices;"⟩ : MethodName)) hown (mvT hZ (hw _ (List.mem_of_getElem? (i := 0) rfl))) (mvT hZ (hw _ (List.mem_of_getElem? (i := 1) rfl))) (mvT hZ (hw _ (List.mem_of_getElem? (i := 2) rfl))) (mvT hZ (hw _ (List.mem_of_getElem? (i := 3) rfl))) (by decide) (backOf (W := 0) (rm1_21 l Z a0 hw [] qv p3 h159 n0 (Nat.le_trans Z0 K159.1) nn_qv) hZ (hw _ (List.mem_of_getElem? (i := 3) rfl)) (hw _ (List.mem_of_getElem? (i := 2) rfl)) (by decide) (by decide)) (g := (mkF m 149 #[.val (.int p0), .val (.int p1), .val (.int p2), .val (.int p3), .val (.int p4), .val (.int (3 : Int32)), .val (.ref b1_138), .val (.ref b139), .val (.int (1 : Int32)), .val (.int pv), .val (.int qv), .val (.ref b1_159), .unset] [(.int p3), (.int qv)])) rfl (by rw [hml]; rfl) (argsL := [(.int qv), (.int p3)]) (rest := []) (lenOf pd_0 rfl) rfl (by show 2 * 0 + _ ≤ _; exact Nat.le_of_eq rfl) (hb hby at_149) (fun _ _ => ⟨rfl, e159, (by decide : 5 + 1 ≤ _), (by decide : 36 + 6 ≤ _)⟩)
    dsimp only [Pt.U, Pt.locs, Pt.cells, Pt.slots] at X161 l161 y161 z161 st161 hQ161
    subst l161 y161 z161
    obtain ⟨h161, e161⟩ : ∃ z, T161.heap = z := ⟨_, rfl⟩
    rw [e161] at hQ161
    obtain ⟨b1_161, rfl, N161q, K161q, sz_b1_161, q0_161, q1_161, q2_161, q3_161, q4_161, q5_161, q6_161⟩ := hQ161
    have N161 := Fr.app N159 N161q
    have f162 := (f160.keep K159q)
    have lt161_b1_138 := f162.lt
    have f163 := (q0_149.keep K159q nin0)
    have lt161_b139 := f163.lt
    have lt161_b1_159 := q0_159.lt
    have ne_b1_138_b1_161 : b1_138 ≠ b1_161 := Nat.ne_of_lt (Nat.lt_of_lt_of_le lt161_b1_138 sz_b1_161)
    have ne_b139_b1_161 : b139 ≠ b1_161 := Nat.ne_of_lt (Nat.lt_of_lt_of_le lt161_b139 sz_b1_161)
    have ne_b1_159_b1_161 : b1_159 ≠ b1_161 := Nat.ne_of_lt (Nat.lt_of_lt_of_le lt161_b1_159 sz_b1_161)
    have gn_b1_161 : n0 ≤ b1_161 := Nat.le_trans (Nat.le_trans Z0 K159.1) sz_b1_161
    have sz_b1_161' := Nat.le_trans K159.1 sz_b1_161
    replace sz_b1_161 := sz_b1_161'
    have K161 : Keep h0 h161 [] := K159.trans K161q all0
    refine step (T161.setTop (mkF m 152 #[.val (.int p0), .val (.int p1), .val (.int p2), .val (.int p3), .val (.int p4), .val (.int (3 : Int32)), .val (.ref b1_138), .val (.ref b139), .val (.int (1 : Int32)), .val (.int pv), .val (.int qv), .val (.ref b1_159), .unset] [(.ref b1_161)])) (fun t k => st161 t k) ?_
    refine step (T161.setTop (mkF m 154 #[.val (.int p0), .val (.int p1), .val (.int p2), .val (.int p3), .val (.int p4), .val (.int (3 : Int32)), .val (.ref b1_138), .val (.ref b139), .val (.int (1 : Int32)), .val (.int pv), .val (.int qv), .val (.ref b1_159), .val (.ref b1_161)] [])) (fun t k => XS.astore X161.here hx rfl (hb hby at_152) rfl rfl (l' := #[.val (.int p0), .val (.int p1), .val (.int p2), .val (.int p3), .val (.int p4), .val (.int (3 : Int32)), .val (.ref b1_138), .val (.ref b139), .val (.int (1 : Int32)), .val (.int pv), .val (.int qv), .val (.ref b1_159), .val (.ref b1_161)]) rfl k) ?_
    refine step (T161.setTop (mkF m 156 #[.val (.int p0), .val (.int p1), .val (.int p2), .val (.int p3), .val (.int p4), .val (.int (3 : Int32)), .val (.ref b1_138), .val (.ref b139), .val (.int (1 : Int32)), .val (.int pv), .val (.int qv), .val (.ref b1_159), .val (.ref b1_161)] [(.int (1 : Int32))])) (fun t k => XS.iload X161.here hx rfl (hb hby at_154) rfl k) ?_
    refine step (T161.setTop (mkF m 159 #[.val (.int p0), .val (.int p1), .val (.int p2), .val (.int p3), .val (.int p4), .val (.int (3 : Int32)), .val (.ref b1_138), .val (.ref b139), .val (.int (1 : Int32)), .val (.int pv), .val (.int qv), .val (.ref b1_159), .val (.ref b1_161)] [])) (fun t k => XS.ifNo X161.here hx rfl (hb hby at_156) rfl ((if0 _ _).trans (feq (by decide : ¬ ((1 : Int32) = (0 : Int32)))).1) k) ?_
    refine step (T161.setTop (mkF m 161 #[.val (.int p0), .val (.int p1), .val (.int p2), .val (.int p3), .val (.int p4), .val (.int (3 : Int32)), .val (.ref b1_138), .val (.ref b139), .val (.int (1 : Int32)), .val (.int pv), .val (.int qv), .val (.ref b1_159), .val (.ref b1_161)] [(.ref b1_159)])) (fun t k => XS.aload X161.here hx rfl (hb hby at_159) rfl rfl k) ?_
    refine step (T161.setTop (mkF m 163 #[.val (.int p0), .val (.int p1), .val (.int p2), .val (.int p3), .val (.int p4), .val (.int (3 : Int32)), .val (.ref b1_138), .val (.ref b139), .val (.int (1 : Int32)), .val (.int pv), .val (.int qv), .val (.ref b1_159), .val (.ref b1_161)] [(.ref b1_161), (.ref b1_159)])) (fun t k => XS.aload X161.here hx rfl (hb hby at_161) rfl rfl k) ?_
    have f164 := (q0_159.keep K161q)
    have f165 := (q3_159.keep K161q nin0)
    have f166 := (q4_159.keep K161q nin0)
    obtain ⟨cq167, kq167, q167a, q167b, q167c⟩ := isOf hZ e161 f164
    obtain ⟨_, _, ⟨T167, L167, k167, n167⟩, -, X167, ⟨Lc167, hQ167, l167, y167, z167⟩, st167⟩ := X161.virtualBack hx (y := (⟨"com/example/vertex_to_service/vertextoservice/core/Choices", "before", "(Lcom/example/vertex_to_service/vertextoservice/core/Choices;)Z"⟩ : MethodName)) (z := (⟨"com/example/vertex_to_service/vertextoservice/core/Choices", "before", "(Lcom/example/vertex_to_service/vertextoservice/core/Choices;)Z"⟩ : MethodName)) hown (mvT hZ (hw _ (List.mem_of_getElem? (i := 101) rfl))) (mvT hZ (hw _ (List.mem_of_getElem? (i := 102) rfl))) (notFace_of_selects (args := #[]) (mvT hZ (hw _ (List.mem_of_getElem? (i := 104) rfl)))) (mvT hZ (hw _ (List.mem_of_getElem? (i := 104) rfl))) (mvT hZ (hw _ (List.mem_of_getElem? (i := 103) rfl))) (by decide) (backOf (W := 0) (rm18_23 l Z a0 hw [] b1_159 b1_161 pv qv h161 n0 (Nat.le_trans Z0 K161.1) f164 f165 f166 q0_161 q3_161 q4_161 gn_b1_159 ne_b1_159_b1_161 gn_b1_161 nn_pv nn_qv) hZ (hw _ (List.mem_of_getElem? (i := 105) rfl)) (hw _ (List.mem_of_getElem? (i := 2) rfl)) (by decide) (by decide)) q167a q167c (g := (mkF m 163 #[.val (.int p0), .val (.int p1), .val (.int p2), .val (.int p3), .val (.int p4), .val (.int (3 : Int32)), .val (.ref b1_138), .val (.ref b139), .val (.int (1 : Int32)), .val (.int pv), .val (.int qv), .val (.ref b1_159), .val (.ref b1_161)] [(.ref b1_161), (.ref b1_159)])) rfl (by rw [hml]; rfl) (Steps.refl _) (argsL := [(.ref b1_161)]) (rest := []) (lenOf pd_3 rfl) rfl (by show 2 * 0 + _ ≤ _; exact Nat.le_of_eq rfl) (hb hby at_163) (fun _ _ => ⟨rfl, e161, (by decide : 6 + 0 ≤ _), (by decide : 42 + 0 ≤ _)⟩)
    dsimp only [Pt.U, Pt.locs, Pt.cells, Pt.slots] at X167 l167 y167 z167 st167 hQ167
    subst l167 y167 z167
    obtain ⟨z30_7_167, rfl, N167q, e167q, hz30_7_167⟩ := hQ167
    have N167 := Fr.app N161 N167q
    refine step (T167.setTop (mkF m 166 #[.val (.int p0), .val (.int p1), .val (.int p2), .val (.int p3), .val (.int p4), .val (.int (3 : Int32)), .val (.ref b1_138), .val (.ref b139), .val (.int (1 : Int32)), .val (.int pv), .val (.int qv), .val (.ref b1_159), .val (.ref b1_161)] [(.int z30_7_167)])) (fun t k => st167.trans k) ?_
    refine step (T167.setTop (mkF m 168 #[.val (.int p0), .val (.int p1), .val (.int p2), .val (.int p3), .val (.int p4), .val (.int (3 : Int32)), .val (.ref b1_138), .val (.ref b139), .val (.int (1 : Int32)), .val (.int pv), .val (.int qv), .val (.ref b1_159), .val (.ref b1_161)] [(.int pv), (.int z30_7_167)])) (fun t k => XS.iload X167.here hx rfl (hb hby at_166) rfl k) ?_
    refine step (T167.setTop (mkF m 170 #[.val (.int p0), .val (.int p1), .val (.int p2), .val (.int p3), .val (.int p4), .val (.int (3 : Int32)), .val (.ref b1_138), .val (.ref b139), .val (.int (1 : Int32)), .val (.int pv), .val (.int qv), .val (.ref b1_159), .val (.ref b1_161)] [(.int qv), (.int pv), (.int z30_7_167)])) (fun t k => XS.iload X167.here hx rfl (hb hby at_168) rfl k) ?_
    suffices J178_169 : ∀ (z178_168 : Int32), z178_168 = (if pv < qv then (1 : Int32) else (0 : Int32)) → G (T167.setTop (mkF m 178 #[.val (.int p0), .val (.int p1), .val (.int p2), .val (.int p3), .val (.int p4), .val (.int (3 : Int32)), .val (.ref b1_138), .val (.ref b139), .val (.int (1 : Int32)), .val (.int pv), .val (.int qv), .val (.ref b1_159), .val (.ref b1_161)] [(.int z178_168), (.int z30_7_167)])) by
      by_cases hc170_170 : pv < qv
      · -- 170 True
        refine step (T167.setTop (mkF m 173 #[.val (.int p0), .val (.int p1), .val (.int p2), .val (.int p3), .val (.int p4), .val (.int (3 : Int32)), .val (.ref b1_138), .val (.ref b139), .val (.int (1 : Int32)), .val (.int pv), .val (.int qv), .val (.ref b1_159), .val (.ref b1_161)] [(.int z30_7_167)])) (fun t k => XS.icmpNo X167.here hx rfl (hb hby at_170) rfl (tlt hc170_170).2.1 k) ?_
        refine step (T167.setTop (mkF m 174 #[.val (.int p0), .val (.int p1), .val (.int p2), .val (.int p3), .val (.int p4), .val (.int (3 : Int32)), .val (.ref b1_138), .val (.ref b139), .val (.int (1 : Int32)), .val (.int pv), .val (.int qv), .val (.ref b1_159), .val (.ref b1_161)] [(.int (1 : Int32)), (.int z30_7_167)])) (fun t k => XS.iconst X167.here hx rfl (hb hby at_173) k) ?_
        refine step (T167.setTop (mkF m 178 #[.val (.int p0), .val (.int p1), .val (.int p2), .val (.int p3), .val (.int p4), .val (.int (3 : Int32)), .val (.ref b1_138), .val (.ref b139), .val (.int (1 : Int32)), .val (.int pv), .val (.int qv), .val (.ref b1_159), .val (.ref b1_161)] [(.int (1 : Int32)), (.int z30_7_167)])) (fun t k => XS.goto X167.here hx rfl (pc0 := 174) (pc' := 178) rfl (hb hby at_174) (by decide) (by decide) k) ?_
        exact J178_169 _ (by simp only [if_pos hc170_170, if_true, if_false] <;> rfl)
      · -- 170 False
        refine step (T167.setTop (mkF m 177 #[.val (.int p0), .val (.int p1), .val (.int p2), .val (.int p3), .val (.int p4), .val (.int (3 : Int32)), .val (.ref b1_138), .val (.ref b139), .val (.int (1 : Int32)), .val (.int pv), .val (.int qv), .val (.ref b1_159), .val (.ref b1_161)] [(.int z30_7_167)])) (fun t k => XS.icmpYes X167.here hx rfl (pc0 := 170) (pc' := 177) rfl (hb hby at_170) rfl (flt hc170_170).2.1 (by decide) (by decide) k) ?_
        refine step (T167.setTop (mkF m 178 #[.val (.int p0), .val (.int p1), .val (.int p2), .val (.int p3), .val (.int p4), .val (.int (3 : Int32)), .val (.ref b1_138), .val (.ref b139), .val (.int (1 : Int32)), .val (.int pv), .val (.int qv), .val (.ref b1_159), .val (.ref b1_161)] [(.int (0 : Int32)), (.int z30_7_167)])) (fun t k => XS.iconst X167.here hx rfl (hb hby at_177) k) ?_
        exact J178_169 _ (by simp only [if_neg hc170_170, if_true, if_false] <;> rfl)
    intro z178_168 hz178_168
    suffices J186_172 : ∀ (z186_171 : Int32), z186_171 = (if z30_7_167 = z178_168 then (1 : Int32) else (0 : Int32)) → G (T167.setTop (mkF m 186 #[.val (.int p0), .val (.int p1), .val (.int p2), .val (.int p3), .val (.int p4), .val (.int (3 : Int32)), .val (.ref b1_138), .val (.ref b139), .val (.int (1 : Int32)), .val (.int pv), .val (.int qv), .val (.ref b1_159), .val (.ref b1_161)] [(.int z186_171)])) by
      by_cases hc178_173 : z30_7_167 = z178_168
      · -- 178 True
        refine step (T167.setTop (mkF m 181 #[.val (.int p0), .val (.int p1), .val (.int p2), .val (.int p3), .val (.int p4), .val (.int (3 : Int32)), .val (.ref b1_138), .val (.ref b139), .val (.int (1 : Int32)), .val (.int pv), .val (.int qv), .val (.ref b1_159), .val (.ref b1_161)] [])) (fun t k => XS.icmpNo X167.here hx rfl (hb hby at_178) rfl (teq hc178_173).2 k) ?_
        refine step (T167.setTop (mkF m 182 #[.val (.int p0), .val (.int p1), .val (.int p2), .val (.int p3), .val (.int p4), .val (.int (3 : Int32)), .val (.ref b1_138), .val (.ref b139), .val (.int (1 : Int32)), .val (.int pv), .val (.int qv), .val (.ref b1_159), .val (.ref b1_161)] [(.int (1 : Int32))])) (fun t k => XS.iconst X167.here hx rfl (hb hby at_181) k) ?_
        refine step (T167.setTop (mkF m 186 #[.val (.int p0), .val (.int p1), .val (.int p2), .val (.int p3), .val (.int p4), .val (.int (3 : Int32)), .val (.ref b1_138), .val (.ref b139), .val (.int (1 : Int32)), .val (.int pv), .val (.int qv), .val (.ref b1_159), .val (.ref b1_161)] [(.int (1 : Int32))])) (fun t k => XS.goto X167.here hx rfl (pc0 := 182) (pc' := 186) rfl (hb hby at_182) (by decide) (by decide) k) ?_
        exact J186_172 _ (by simp only [if_pos hc178_173, if_true, if_false] <;> rfl)
      · -- 178 False
        refine step (T167.setTop (mkF m 185 #[.val (.int p0), .val (.int p1), .val (.int p2), .val (.int p3), .val (.int p4), .val (.int (3 : Int32)), .val (.ref b1_138), .val (.ref b139), .val (.int (1 : Int32)), .val (.int pv), .val (.int qv), .val (.ref b1_159), .val (.ref b1_161)] [])) (fun t k => XS.icmpYes X167.here hx rfl (pc0 := 178) (pc' := 185) rfl (hb hby at_178) rfl (feq hc178_173).2 (by decide) (by decide) k) ?_
        refine step (T167.setTop (mkF m 186 #[.val (.int p0), .val (.int p1), .val (.int p2), .val (.int p3), .val (.int p4), .val (.int (3 : Int32)), .val (.ref b1_138), .val (.ref b139), .val (.int (1 : Int32)), .val (.int pv), .val (.int qv), .val (.ref b1_159), .val (.ref b1_161)] [(.int (0 : Int32))])) (fun t k => XS.iconst X167.here hx rfl (hb hby at_185) k) ?_
        exact J186_172 _ (by simp only [if_neg hc178_173, if_true, if_false] <;> rfl)
    intro z186_171 hz186_171
    refine step (T167.setTop (mkF m 188 #[.val (.int p0), .val (.int p1), .val (.int p2), .val (.int p3), .val (.int p4), .val (.int (3 : Int32)), .val (.ref b1_138), .val (.ref b139), .val (.int z186_171), .val (.int pv), .val (.int qv), .val (.ref b1_159), .val (.ref b1_161)] [])) (fun t k => XS.istore X167.here hx rfl (hb hby at_186) rfl (l' := #[.val (.int p0), .val (.int p1), .val (.int p2), .val (.int p3), .val (.int p4), .val (.int (3 : Int32)), .val (.ref b1_138), .val (.ref b139), .val (.int z186_171), .val (.int pv), .val (.int qv), .val (.ref b1_159), .val (.ref b1_161)]) rfl k) ?_
    refine step (T167.setTop (mkF m 190 #[.val (.int p0), .val (.int p1), .val (.int p2), .val (.int p3), .val (.int p4), .val (.int (3 : Int32)), .val (.ref b1_138), .val (.ref b139), .val (.int z186_171), .val (.int pv), .val (.int qv), .val (.ref b1_159), .val (.ref b1_161)] [(.int z186_171)])) (fun t k => XS.iload X167.here hx rfl (hb hby at_188) rfl k) ?_
    have hc190_174 : ¬ (z186_171 = (0 : Int32)) := (own_plain55 p0 p1 p2 p3 p4 pv qv z30_7_167 z178_168 z186_171 hpv hqv hz30_7_167 hz178_168 hz186_171)
    refine step (T167.setTop (mkF m 193 #[.val (.int p0), .val (.int p1), .val (.int p2), .val (.int p3), .val (.int p4), .val (.int (3 : Int32)), .val (.ref b1_138), .val (.ref b139), .val (.int z186_171), .val (.int pv), .val (.int qv), .val (.ref b1_159), .val (.ref b1_161)] [])) (fun t k => XS.ifNo X167.here hx rfl (hb hby at_190) rfl ((if0 _ _).trans (feq hc190_174).1) k) ?_
    refine step (T167.setTop (mkF m 195 #[.val (.int p0), .val (.int p1), .val (.int p2), .val (.int p3), .val (.int p4), .val (.int (3 : Int32)), .val (.ref b1_138), .val (.ref b139), .val (.int z186_171), .val (.int pv), .val (.int qv), .val (.ref b1_159), .val (.ref b1_161)] [(.ref b1_161)])) (fun t k => XS.aload X167.here hx rfl (hb hby at_193) rfl rfl k) ?_
    refine step (T167.setTop (mkF m 197 #[.val (.int p0), .val (.int p1), .val (.int p2), .val (.int p3), .val (.int p4), .val (.int (3 : Int32)), .val (.ref b1_138), .val (.ref b139), .val (.int z186_171), .val (.int pv), .val (.int qv), .val (.ref b1_159), .val (.ref b1_161)] [(.ref b1_159), (.ref b1_161)])) (fun t k => XS.aload X167.here hx rfl (hb hby at_195) rfl rfl k) ?_
    obtain ⟨cq175, kq175, q175a, q175b, q175c⟩ := isOf hZ e167q q0_161
    obtain ⟨_, _, ⟨T175, L175, k175, n175⟩, -, X175, ⟨Lc175, hQ175, l175, y175, z175⟩, st175⟩ := X167.virtualBack hx (y := (⟨"com/example/vertex_to_service/vertextoservice/core/Choices", "before", "(Lcom/example/vertex_to_service/vertextoservice/core/Choices;)Z"⟩ : MethodName)) (z := (⟨"com/example/vertex_to_service/vertextoservice/core/Choices", "before", "(Lcom/example/vertex_to_service/vertextoservice/core/Choices;)Z"⟩ : MethodName)) hown (mvT hZ (hw _ (List.mem_of_getElem? (i := 101) rfl))) (mvT hZ (hw _ (List.mem_of_getElem? (i := 102) rfl))) (notFace_of_selects (args := #[]) (mvT hZ (hw _ (List.mem_of_getElem? (i := 104) rfl)))) (mvT hZ (hw _ (List.mem_of_getElem? (i := 104) rfl))) (mvT hZ (hw _ (List.mem_of_getElem? (i := 103) rfl))) (by decide) (backOf (W := 0) (rm18_25 l Z a0 hw [] b1_161 b1_159 qv pv h161 n0 (Nat.le_trans Z0 K161.1) q0_161 q3_161 q4_161 f164 f165 f166 gn_b1_161 (Ne.symm ne_b1_159_b1_161) gn_b1_159 nn_pv nn_qv) hZ (hw _ (List.mem_of_getElem? (i := 105) rfl)) (hw _ (List.mem_of_getElem? (i := 2) rfl)) (by decide) (by decide)) q175a q175c (g := (mkF m 197 #[.val (.int p0), .val (.int p1), .val (.int p2), .val (.int p3), .val (.int p4), .val (.int (3 : Int32)), .val (.ref b1_138), .val (.ref b139), .val (.int z186_171), .val (.int pv), .val (.int qv), .val (.ref b1_159), .val (.ref b1_161)] [(.ref b1_159), (.ref b1_161)])) rfl (by rw [hml]; rfl) (Steps.refl _) (argsL := [(.ref b1_159)]) (rest := []) (lenOf pd_3 rfl) rfl (by show 2 * 0 + _ ≤ _; exact Nat.le_of_eq rfl) (hb hby at_197) (fun _ _ => ⟨rfl, e167q, (by decide : 6 + 0 ≤ _), (by decide : 42 + 0 ≤ _)⟩)
    dsimp only [Pt.U, Pt.locs, Pt.cells, Pt.slots] at X175 l175 y175 z175 st175 hQ175
    subst l175 y175 z175
    obtain ⟨z30_7_175, rfl, N175q, e175q, hz30_7_175⟩ := hQ175
    have N175 := Fr.app N167 N175q
    refine step (T175.setTop (mkF m 200 #[.val (.int p0), .val (.int p1), .val (.int p2), .val (.int p3), .val (.int p4), .val (.int (3 : Int32)), .val (.ref b1_138), .val (.ref b139), .val (.int z186_171), .val (.int pv), .val (.int qv), .val (.ref b1_159), .val (.ref b1_161)] [(.int z30_7_175)])) (fun t k => st175.trans k) ?_
    refine step (T175.setTop (mkF m 202 #[.val (.int p0), .val (.int p1), .val (.int p2), .val (.int p3), .val (.int p4), .val (.int (3 : Int32)), .val (.ref b1_138), .val (.ref b139), .val (.int z186_171), .val (.int pv), .val (.int qv), .val (.ref b1_159), .val (.ref b1_161)] [(.int qv), (.int z30_7_175)])) (fun t k => XS.iload X175.here hx rfl (hb hby at_200) rfl k) ?_
    refine step (T175.setTop (mkF m 204 #[.val (.int p0), .val (.int p1), .val (.int p2), .val (.int p3), .val (.int p4), .val (.int (3 : Int32)), .val (.ref b1_138), .val (.ref b139), .val (.int z186_171), .val (.int pv), .val (.int qv), .val (.ref b1_159), .val (.ref b1_161)] [(.int pv), (.int qv), (.int z30_7_175)])) (fun t k => XS.iload X175.here hx rfl (hb hby at_202) rfl k) ?_
    suffices J212_177 : ∀ (z212_176 : Int32), z212_176 = (if qv < pv then (1 : Int32) else (0 : Int32)) → G (T175.setTop (mkF m 212 #[.val (.int p0), .val (.int p1), .val (.int p2), .val (.int p3), .val (.int p4), .val (.int (3 : Int32)), .val (.ref b1_138), .val (.ref b139), .val (.int z186_171), .val (.int pv), .val (.int qv), .val (.ref b1_159), .val (.ref b1_161)] [(.int z212_176), (.int z30_7_175)])) by
      by_cases hc204_178 : qv < pv
      · -- 204 True
        refine step (T175.setTop (mkF m 207 #[.val (.int p0), .val (.int p1), .val (.int p2), .val (.int p3), .val (.int p4), .val (.int (3 : Int32)), .val (.ref b1_138), .val (.ref b139), .val (.int z186_171), .val (.int pv), .val (.int qv), .val (.ref b1_159), .val (.ref b1_161)] [(.int z30_7_175)])) (fun t k => XS.icmpNo X175.here hx rfl (hb hby at_204) rfl (tlt hc204_178).2.1 k) ?_
        refine step (T175.setTop (mkF m 208 #[.val (.int p0), .val (.int p1), .val (.int p2), .val (.int p3), .val (.int p4), .val (.int (3 : Int32)), .val (.ref b1_138), .val (.ref b139), .val (.int z186_171), .val (.int pv), .val (.int qv), .val (.ref b1_159), .val (.ref b1_161)] [(.int (1 : Int32)), (.int z30_7_175)])) (fun t k => XS.iconst X175.here hx rfl (hb hby at_207) k) ?_
        refine step (T175.setTop (mkF m 212 #[.val (.int p0), .val (.int p1), .val (.int p2), .val (.int p3), .val (.int p4), .val (.int (3 : Int32)), .val (.ref b1_138), .val (.ref b139), .val (.int z186_171), .val (.int pv), .val (.int qv), .val (.ref b1_159), .val (.ref b1_161)] [(.int (1 : Int32)), (.int z30_7_175)])) (fun t k => XS.goto X175.here hx rfl (pc0 := 208) (pc' := 212) rfl (hb hby at_208) (by decide) (by decide) k) ?_
        exact J212_177 _ (by simp only [if_pos hc204_178, if_true, if_false] <;> rfl)
      · -- 204 False
        refine step (T175.setTop (mkF m 211 #[.val (.int p0), .val (.int p1), .val (.int p2), .val (.int p3), .val (.int p4), .val (.int (3 : Int32)), .val (.ref b1_138), .val (.ref b139), .val (.int z186_171), .val (.int pv), .val (.int qv), .val (.ref b1_159), .val (.ref b1_161)] [(.int z30_7_175)])) (fun t k => XS.icmpYes X175.here hx rfl (pc0 := 204) (pc' := 211) rfl (hb hby at_204) rfl (flt hc204_178).2.1 (by decide) (by decide) k) ?_
        refine step (T175.setTop (mkF m 212 #[.val (.int p0), .val (.int p1), .val (.int p2), .val (.int p3), .val (.int p4), .val (.int (3 : Int32)), .val (.ref b1_138), .val (.ref b139), .val (.int z186_171), .val (.int pv), .val (.int qv), .val (.ref b1_159), .val (.ref b1_161)] [(.int (0 : Int32)), (.int z30_7_175)])) (fun t k => XS.iconst X175.here hx rfl (hb hby at_211) k) ?_
        exact J212_177 _ (by simp only [if_neg hc204_178, if_true, if_false] <;> rfl)
    intro z212_176 hz212_176
    suffices J220_180 : ∀ (z220_179 : Int32), z220_179 = (if z30_7_175 = z212_176 then (1 : Int32) else (0 : Int32)) → G (T175.setTop (mkF m 220 #[.val (.int p0), .val (.int p1), .val (.int p2), .val (.int p3), .val (.int p4), .val (.int (3 : Int32)), .val (.ref b1_138), .val (.ref b139), .val (.int z186_171), .val (.int pv), .val (.int qv), .val (.ref b1_159), .val (.ref b1_161)] [(.int z220_179)])) by
      by_cases hc212_181 : z30_7_175 = z212_176
      · -- 212 True
        refine step (T175.setTop (mkF m 215 #[.val (.int p0), .val (.int p1), .val (.int p2), .val (.int p3), .val (.int p4), .val (.int (3 : Int32)), .val (.ref b1_138), .val (.ref b139), .val (.int z186_171), .val (.int pv), .val (.int qv), .val (.ref b1_159), .val (.ref b1_161)] [])) (fun t k => XS.icmpNo X175.here hx rfl (hb hby at_212) rfl (teq hc212_181).2 k) ?_
        refine step (T175.setTop (mkF m 216 #[.val (.int p0), .val (.int p1), .val (.int p2), .val (.int p3), .val (.int p4), .val (.int (3 : Int32)), .val (.ref b1_138), .val (.ref b139), .val (.int z186_171), .val (.int pv), .val (.int qv), .val (.ref b1_159), .val (.ref b1_161)] [(.int (1 : Int32))])) (fun t k => XS.iconst X175.here hx rfl (hb hby at_215) k) ?_
        refine step (T175.setTop (mkF m 220 #[.val (.int p0), .val (.int p1), .val (.int p2), .val (.int p3), .val (.int p4), .val (.int (3 : Int32)), .val (.ref b1_138), .val (.ref b139), .val (.int z186_171), .val (.int pv), .val (.int qv), .val (.ref b1_159), .val (.ref b1_161)] [(.int (1 : Int32))])) (fun t k => XS.goto X175.here hx rfl (pc0 := 216) (pc' := 220) rfl (hb hby at_216) (by decide) (by decide) k) ?_
        exact J220_180 _ (by simp only [if_pos hc212_181, if_true, if_false] <;> rfl)
      · -- 212 False
        refine step (T175.setTop (mkF m 219 #[.val (.int p0), .val (.int p1), .val (.int p2), .val (.int p3), .val (.int p4), .val (.int (3 : Int32)), .val (.ref b1_138), .val (.ref b139), .val (.int z186_171), .val (.int pv), .val (.int qv), .val (.ref b1_159), .val (.ref b1_161)] [])) (fun t k => XS.icmpYes X175.here hx rfl (pc0 := 212) (pc' := 219) rfl (hb hby at_212) rfl (feq hc212_181).2 (by decide) (by decide) k) ?_
        refine step (T175.setTop (mkF m 220 #[.val (.int p0), .val (.int p1), .val (.int p2), .val (.int p3), .val (.int p4), .val (.int (3 : Int32)), .val (.ref b1_138), .val (.ref b139), .val (.int z186_171), .val (.int pv), .val (.int qv), .val (.ref b1_159), .val (.ref b1_161)] [(.int (0 : Int32))])) (fun t k => XS.iconst X175.here hx rfl (hb hby at_219) k) ?_
        exact J220_180 _ (by simp only [if_neg hc212_181, if_true, if_false] <;> rfl)
    intro z220_179 hz220_179
    refine step (T175.setTop (mkF m 222 #[.val (.int p0), .val (.int p1), .val (.int p2), .val (.int p3), .val (.int p4), .val (.int (3 : Int32)), .val (.ref b1_138), .val (.ref b139), .val (.int z220_179), .val (.int pv), .val (.int qv), .val (.ref b1_159), .val (.ref b1_161)] [])) (fun t k => XS.istore X175.here hx rfl (hb hby at_220) rfl (l' := #[.val (.int p0), .val (.int p1), .val (.int p2), .val (.int p3), .val (.int p4), .val (.int (3 : Int32)), .val (.ref b1_138), .val (.ref b139), .val (.int z220_179), .val (.int pv), .val (.int qv), .val (.ref b1_159), .val (.ref b1_161)]) rfl k) ?_
    refine step (T175.setTop (mkF m 224 #[.val (.int p0), .val (.int p1), .val (.int p2), .val (.int p3), .val (.int p4), .val (.int (3 : Int32)), .val (.ref b1_138), .val (.ref b139), .val (.int z220_179), .val (.int pv), .val (.int qv), .val (.ref b1_159), .val (.ref b1_161)] [(.int z220_179)])) (fun t k => XS.iload X175.here hx rfl (hb hby at_222) rfl k) ?_
    have hc224_182 : ¬ (z220_179 = (0 : Int32)) := (own_plain56 p0 p1 p2 p3 p4 pv qv z30_7_175 z212_176 z220_179 hpv hqv hz30_7_175 hz212_176 hz220_179)
    refine step (T175.setTop (mkF m 227 #[.val (.int p0), .val (.int p1), .val (.int p2), .val (.int p3), .val (.int p4), .val (.int (3 : Int32)), .val (.ref b1_138), .val (.ref b139), .val (.int z220_179), .val (.int pv), .val (.int qv), .val (.ref b1_159), .val (.ref b1_161)] [])) (fun t k => XS.ifNo X175.here hx rfl (hb hby at_224) rfl ((if0 _ _).trans (feq hc224_182).1) k) ?_
    refine step (T175.setTop (mkF m 229 #[.val (.int p0), .val (.int p1), .val (.int p2), .val (.int p3), .val (.int p4), .val (.int (3 : Int32)), .val (.ref b1_138), .val (.ref b139), .val (.int z220_179), .val (.int pv), .val (.int qv), .val (.ref b1_159), .val (.ref b1_161)] [(.ref b1_159)])) (fun t k => XS.aload X175.here hx rfl (hb hby at_227) rfl rfl k) ?_
    refine step (T175.setTop (mkF m 231 #[.val (.int p0), .val (.int p1), .val (.int p2), .val (.int p3), .val (.int p4), .val (.int (3 : Int32)), .val (.ref b1_138), .val (.ref b139), .val (.int z220_179), .val (.int pv), .val (.int qv), .val (.ref b1_159), .val (.ref b1_161)] [(.ref b1_159), (.ref b1_159)])) (fun t k => XS.aload X175.here hx rfl (hb hby at_229) rfl rfl k) ?_
    obtain ⟨cq183, kq183, q183a, q183b, q183c⟩ := isOf hZ e175q f164
    obtain ⟨_, _, ⟨T183, L183, k183, n183⟩, -, X183, ⟨Lc183, hQ183, l183, y183, z183⟩, st183⟩ := X175.virtualBack hx (y := (⟨"com/example/vertex_to_service/vertextoservice/core/Choices", "before", "(Lcom/example/vertex_to_service/vertextoservice/core/Choices;)Z"⟩ : MethodName)) (z := (⟨"com/example/vertex_to_service/vertextoservice/core/Choices", "before", "(Lcom/example/vertex_to_service/vertextoservice/core/Choices;)Z"⟩ : MethodName)) hown (mvT hZ (hw _ (List.mem_of_getElem? (i := 101) rfl))) (mvT hZ (hw _ (List.mem_of_getElem? (i := 102) rfl))) (notFace_of_selects (args := #[]) (mvT hZ (hw _ (List.mem_of_getElem? (i := 104) rfl)))) (mvT hZ (hw _ (List.mem_of_getElem? (i := 104) rfl))) (mvT hZ (hw _ (List.mem_of_getElem? (i := 103) rfl))) (by decide) (backOf (W := 0) (rm18_27 l Z a0 hw [] b1_159 pv h161 n0 (Nat.le_trans Z0 K161.1) f164 f165 f166 gn_b1_159 nn_pv) hZ (hw _ (List.mem_of_getElem? (i := 105) rfl)) (hw _ (List.mem_of_getElem? (i := 2) rfl)) (by decide) (by decide)) q183a q183c (g := (mkF m 231 #[.val (.int p0), .val (.int p1), .val (.int p2), .val (.int p3), .val (.int p4), .val (.int (3 : Int32)), .val (.ref b1_138), .val (.ref b139), .val (.int z220_179), .val (.int pv), .val (.int qv), .val (.ref b1_159), .val (.ref b1_161)] [(.ref b1_159), (.ref b1_159)])) rfl (by rw [hml]; rfl) (Steps.refl _) (argsL := [(.ref b1_159)]) (rest := []) (lenOf pd_3 rfl) rfl (by show 2 * 0 + _ ≤ _; exact Nat.le_of_eq rfl) (hb hby at_231) (fun _ _ => ⟨rfl, e175q, (by decide : 6 + 0 ≤ _), (by decide : 42 + 0 ≤ _)⟩)
    dsimp only [Pt.U, Pt.locs, Pt.cells, Pt.slots] at X183 l183 y183 z183 st183 hQ183
    subst l183 y183 z183
    obtain ⟨rfl, N183q, e183q⟩ := hQ183
    have N183 := Fr.app N175 N183q
    refine step (T183.setTop (mkF m 234 #[.val (.int p0), .val (.int p1), .val (.int p2), .val (.int p3), .val (.int p4), .val (.int (3 : Int32)), .val (.ref b1_138), .val (.ref b139), .val (.int z220_179), .val (.int pv), .val (.int qv), .val (.ref b1_159), .val (.ref b1_161)] [(.int (0 : Int32))])) (fun t k => st183.trans k) ?_
    refine step (T183.setTop (mkF m 237 #[.val (.int p0), .val (.int p1), .val (.int p2), .val (.int p3), .val (.int p4), .val (.int (3 : Int32)), .val (.ref b1_138), .val (.ref b139), .val (.int z220_179), .val (.int pv), .val (.int qv), .val (.ref b1_159), .val (.ref b1_161)] [])) (fun t k => XS.ifNo X183.here hx rfl (hb hby at_234) rfl ((if0 _ _).trans (teq (by decide : (0 : Int32) = (0 : Int32))).2) k) ?_
    refine step (T183.setTop (mkF m 238 #[.val (.int p0), .val (.int p1), .val (.int p2), .val (.int p3), .val (.int p4), .val (.int (3 : Int32)), .val (.ref b1_138), .val (.ref b139), .val (.int z220_179), .val (.int pv), .val (.int qv), .val (.ref b1_159), .val (.ref b1_161)] [(.int (1 : Int32))])) (fun t k => XS.iconst X183.here hx rfl (hb hby at_237) k) ?_
    refine step (T183.setTop (mkF m 242 #[.val (.int p0), .val (.int p1), .val (.int p2), .val (.int p3), .val (.int p4), .val (.int (3 : Int32)), .val (.ref b1_138), .val (.ref b139), .val (.int z220_179), .val (.int pv), .val (.int qv), .val (.ref b1_159), .val (.ref b1_161)] [(.int (1 : Int32))])) (fun t k => XS.goto X183.here hx rfl (pc0 := 238) (pc' := 242) rfl (hb hby at_238) (by decide) (by decide) k) ?_
    refine step (T183.setTop (mkF m 244 #[.val (.int p0), .val (.int p1), .val (.int p2), .val (.int p3), .val (.int p4), .val (.int (3 : Int32)), .val (.ref b1_138), .val (.ref b139), .val (.int (1 : Int32)), .val (.int pv), .val (.int qv), .val (.ref b1_159), .val (.ref b1_161)] [])) (fun t k => XS.istore X183.here hx rfl (hb hby at_242) rfl (l' := #[.val (.int p0), .val (.int p1), .val (.int p2), .val (.int p3), .val (.int p4), .val (.int (3 : Int32)), .val (.ref b1_138), .val (.ref b139), .val (.int (1 : Int32)), .val (.int pv), .val (.int qv), .val (.ref b1_159), .val (.ref b1_161)]) rfl k) ?_
    refine step (T183.setTop (mkF m 246 #[.val (.int p0), .val (.int p1), .val (.int p2), .val (.int p3), .val (.int p4), .val (.int (3 : Int32)), .val (.ref b1_138), .val (.ref b139), .val (.int (1 : Int32)), .val (.int pv), .val (.int qv), .val (.ref b1_159), .val (.ref b1_161)] [(.int (1 : Int32))])) (fun t k => XS.iload X183.here hx rfl (hb hby at_244) rfl k) ?_
    refine fin (v := some (.int (nar .boolean (1 : Int32)))) X183 (fun h => by cases h) ?_ (by decide) (by decide) (fun fs hr => retN X183 hx (t := .boolean) hret (by simp) (hb hby at_246) hr)
    show Q0 Z p0 p1 p2 p3 p4 h0 n0 (some (.int (nar .boolean (1 : Int32)))) T183.heap _
    rw [e183q]
    exact ⟨rfl, N183⟩
set_option maxRecDepth 65536 in
set_option maxHeartbeats 40000000 in
theorem comes_1 {Post : Tables → Env → Array Value → State → Outcome → State → Prop} (hpost : ∀ tb e args s v u, (limb_1_1.after args s (.returned v) u = true ∧ limb_1_2.after args s (.returned v) u = true ∧ True) → FrameEnd s (.returned v) u (Jvm.fieldLocs frame_1_writes args s ++ Jvm.arrayLocs frame_1_arrays args s ++ Jvm.staticLocs frame_1_statics s) 24 192 → Post tb e args s (.returned v) u) :
    ArmFor flags0 classFile x code maxLocals ret World_1 tables_1 room_1 Calls_1 rest_1 Pre_1 Post := by
  intro l hfl _ _ p e ha hc hk s m args below hf hA hF happ hP
  obtain ⟨hcalls, hrest, hpre⟩ := hP
  obtain ⟨-, -, -, hnamed, -, -, -, hat⟩ := (Spec.applies_iff hf).mp happ
  obtain ⟨hg, hn⟩ := and_e (Cond.before_iff.mp (show (Jvm.Cond.and given_1 narrow_1).before args s = true from hpre))
  obtain ⟨hcount, hr0⟩ := and_e hg
  obtain ⟨ha0, hr1⟩ := and_e hr0
  obtain ⟨ha1, hr2⟩ := and_e hr1
  obtain ⟨ha2, hr3⟩ := and_e hr2
  obtain ⟨ha3, hr4⟩ := and_e hr3
  have ha4 := hr4
  obtain ⟨w0, w1, w2, w3, w4, rfl⟩ : ∃ w0 w1 w2 w3 w4 : Value, args = #[w0, w1, w2, w3, w4] := by
    have hs : args.size = 5 := by simpa [Cond.value, given_1] using hcount
    obtain ⟨L⟩ := args
    match L, hs with
    | [w0, w1, w2, w3, w4], _ => exact ⟨w0, w1, w2, w3, w4, rfl⟩
  have hw := fun d (hd : d ∈ tables_1) => atoms_spec (ws := Jvm.Cond.code x code maxLocals ret :: tables_1) hat d (List.mem_cons_of_mem _ hd)
  have hfit : Fit s := fun {y c} hc i hi => by
    obtain ⟨ha, rfl⟩ := Array.getElem?_eq_some_iff.mp hc
    have q := List.all_eq_true.mp ((Array.all_eq_true_iff_forall_mem.mp hF) _ (Array.getElem_mem ha)) i (List.mem_range.mpr hi)
    simpa [Array.getElem?_eq_getElem hi] using q
  obtain ⟨i0, ei0⟩ := is_v ha0
  obtain rfl : w0 = (.int i0) := Option.some.inj ei0
  obtain ⟨i1, ei1⟩ := is_v ha1
  obtain rfl : w1 = (.int i1) := Option.some.inj ei1
  obtain ⟨i2, ei2⟩ := is_v ha2
  obtain rfl : w2 = (.int i2) := Option.some.inj ei2
  obtain ⟨i3, ei3⟩ := is_v ha3
  obtain rfl : w3 = (.int i3) := Option.some.inj ei3
  obtain ⟨i4, ei4⟩ := is_v ha4
  obtain rfl : w4 = (.int i4) := Option.some.inj ei4
  obtain ⟨n, o, h1, h2, h3, _, L, rfl, ⟨rfl, N⟩, hq⟩ := rm0 l s _ hw tables_1 i0 i1 i2 i3 i4 s.heap s.heap.size (Nat.le_refl _) p e ha hc hk s m _ below hf ((Spec.applies_iff_loose hf).mp happ).1 ⟨rfl, State.Warmed39.refl s, rfl⟩ trivial
  refine ⟨n, _, h1, h2, h3, hpost _ _ _ _ _ _ ⟨Cond.after_iff.mpr rfl, Cond.after_iff.mpr (eq_i res_at (Term.int_eval (1)) rfl), trivial⟩ ⟨hq.1, hq.2.1, (hq.2.2.sift fun y hy => Or.inr (N y hy)).mono (by decide) (by decide)⟩⟩
theorem main_1_1 : Claimed_1_1 := comes_1 fun _ _ _ _ _ _ h hF => ⟨h.1, hF⟩
theorem main_1_2 : Claimed_1_2 := comes_1 fun _ _ _ _ _ _ h hF => ⟨h.2.1, hF⟩
end Jvm.Pilot.@@N@@
namespace Jvm.Pilot.@@N@@
open Jvm Jvm.ClassFile Sem Op Lib Jvm.Free Jvm.Stand Jvm.Pilot.@@N@@.Jvm.D
/-! MADE BY PROGRAM (witnessworld.py) out of the Statement's table words and the real class files: 17 classes; the members and pool entries that the words name. The judged class is class 1, her method 2. -/
namespace start1
open Jvm.ClassFile
def u (s : String) : CpInfo := .utf8 (stringToUtf16 s)
/-- a pool by its gaps: so many unusable entries, then the entry; so many at the end -/
def gap : Nat → List CpInfo → List CpInfo
  | 0, r => r
  | n + 1, r => .unusable :: gap n r
def poolList (es : List (Nat × CpInfo)) (last : Nat) : List CpInfo := es.foldr (fun e r => gap e.1 (e.2 :: r)) (gap last [])
def pool (es : List (Nat × CpInfo)) (last : Nat) : Array CpInfo := ⟨poolList es last⟩
def fileOf (pool : Array CpInfo) (this : Nat) (attrs : Array Attribute := #[]) (ms : Array MethodInfo := #[]) (fl : Nat := 33) (sup : Nat := 0) (ifs : Array Nat := #[]) (fds : Array FieldInfo := #[]) : ClassFile where
  minorVersion := 0
  majorVersion := 65
  constantPool := pool
  accessFlags := fl
  thisClass := this
  superClass := sup
  interfaces := ifs
  fields := fds
  methods := ms
  attributes := attrs
def plain (name : String) (sup : Option ClassId) : Class where
  name := name
  kind := .ordinary
  loader := none
  accessFlags := 33
  super := sup
  interfaces := #[]
  cf := none
  fields := #[]
  methods := #[]
  instanceTypes := #[]
  staticTypes := #[]
  resolved := #[]
  callSites := []
  init := .initialized
  statics := none
  mirror := none

def pool0 : Array CpInfo := pool [(5, u "<init>"), (0, u "()V"), (1, .class_ 10), (1, u "java/lang/Object")] 113

def k0c0 : Code := { maxStack := 0, maxLocals := 1, code := object_method_1_code, exceptionTable := #[], attributes := #[] }
def k0m0 : Method := { name := "<init>", desc := "()V", sig := { parameters := [], returnType := none }, accessFlags := 1, code := some k0c0 }
/-- java/lang/Object -/
def k0 : Class := { plain "java/lang/Object" none with
  accessFlags := 33
  interfaces := #[]
  cf := some (fileOf pool0 8 #[] #[{ accessFlags := 1, nameIndex := 5, descriptorIndex := 6, attributes := #[] }] 33 0 #[] #[])
  fields := #[]
  methods := #[k0m0]
  instanceTypes := #[]
  staticTypes := #[]
  resolved := Array.replicate 124 none
  statics := none }

def pool1 : Array CpInfo := pool [(2, .class_ 4), (1, u "java/lang/Object"), (0, u "<init>"), (0, u "()V"), (0, .methodref 8 9), (0, .class_ 10), (0, .nameAndType 11 12), (0, u "com/example/vertex_to_service/vertextoservice/core/Choices"), (0, u "of"), (0, u "(II)Lcom/example/vertex_to_service/vertextoservice/core/Choices;"), (0, .methodref 8 14), (0, .nameAndType 15 16), (0, u "writeTo"), (0, u "([I)V"), (0, .methodref 18 19), (0, .class_ 20), (0, .nameAndType 21 22), (0, u "com/example/vertex_to_service/vertextoservice/core/ChoicesOfPinLaw"), (0, u "expected"), (0, u "(IIII)I"), (0, .integer 2147483647), (0, .methodref 8 25), (0, .nameAndType 26 27), (0, u "before"), (0, u "(Lcom/example/vertex_to_service/vertextoservice/core/Choices;)Z"), (3, u "law"), (0, u "(IIIII)Z")] 4

def k1m0 : Method := { name := "<init>", desc := "()V", sig := { parameters := [], returnType := none }, accessFlags := 1, code := none }
def k1c1 : Code := { maxStack := 2, maxLocals := 4, code := method_2_code, exceptionTable := #[], attributes := #[] }
def k1m1 : Method := { name := "expected", desc := "(IIII)I", sig := { parameters := [.int, .int, .int, .int], returnType := some .int }, accessFlags := 10, code := some k1c1 }
def k1c2 : Code := { maxStack := 5, maxLocals := 13, code := code, exceptionTable := #[], attributes := #[] }
def k1m2 : Method := { name := "law", desc := "(IIIII)Z", sig := { parameters := [.int, .int, .int, .int, .int], returnType := some .boolean }, accessFlags := 9, code := some k1c2 }
/-- com/example/vertex_to_service/vertextoservice/core/ChoicesOfPinLaw -/
def k1 : Class := { plain "com/example/vertex_to_service/vertextoservice/core/ChoicesOfPinLaw" (some 0) with
  accessFlags := 49
  interfaces := #[]
  cf := some (fileOf pool1 18 #[] #[{ accessFlags := 1, nameIndex := 5, descriptorIndex := 6, attributes := #[] }, { accessFlags := 10, nameIndex := 21, descriptorIndex := 22, attributes := #[] }, { accessFlags := 9, nameIndex := 31, descriptorIndex := 32, attributes := #[] }] 49 2 #[] #[])
  fields := #[]
  methods := #[k1m0, k1m1, k1m2]
  instanceTypes := #[]
  staticTypes := #[]
  resolved := Array.replicate 37 none
  statics := none }

def pool2 : Array CpInfo := pool [(1, .methodref 2 3), (0, .class_ 4), (0, .nameAndType 5 6), (0, u "java/lang/Object"), (0, u "<init>"), (0, u "()V"), (0, .fieldref 8 9), (0, .class_ 10), (0, .nameAndType 11 12), (0, u "com/example/vertex_to_service/vertextoservice/core/Choices"), (0, u "vertex"), (0, u "I"), (0, .fieldref 8 14), (0, .nameAndType 15 12), (0, u "candidate"), (0, .fieldref 8 17), (0, .nameAndType 18 19), (0, u "first"), (0, u "Lcom/example/vertex_to_service/vertextoservice/core/Choices;"), (0, .fieldref 8 21), (0, .nameAndType 22 19), (0, u "second"), (0, .fieldref 8 24), (0, .nameAndType 25 12), (0, u "low"), (0, .fieldref 8 27), (0, .nameAndType 28 12), (0, u "high"), (0, .methodref 8 30), (0, .nameAndType 5 31), (0, u "(IILcom/example/vertex_to_service/vertextoservice/core/Choices;Lcom/example/vertex_to_service/vertextoservice/core/Choices;II)V"), (2, u "NONE"), (9, .class_ 45), (0, u "com/example/vertex_to_service/vertextoservice/core/Choices$InListOrder"), (3, .class_ 50), (0, u "java/util/ArrayDeque"), (0, .methodref 49 3), (0, .methodref 8 53), (0, .nameAndType 54 55), (0, u "writeTo"), (0, u "([I[ILjava/util/ArrayDeque;)I"), (0, .methodref 49 57), (0, .nameAndType 58 59), (0, u "push"), (0, u "(Ljava/lang/Object;)V"), (0, .methodref 49 61), (0, .nameAndType 62 63), (0, u "isEmpty"), (0, u "()Z"), (0, .methodref 49 65), (0, .nameAndType 66 67), (0, u "pop"), (0, u "()Ljava/lang/Object;"), (3, .class_ 72), (0, u "com/example/vertex_to_service/vertextoservice/core/Choices$1"), (3, u "UNORDERED"), (0, u "Ljava/util/Comparator;"), (4, u "of"), (0, u "(II)Lcom/example/vertex_to_service/vertextoservice/core/Choices;"), (6, u "before"), (0, u "(Lcom/example/vertex_to_service/vertextoservice/core/Choices;)Z"), (0, u "([I)V")] 7

def k2c0 : Code := { maxStack := 2, maxLocals := 7, code := prog_10_method_1_code, exceptionTable := #[], attributes := #[] }
def k2m0 : Method := { name := "<init>", desc := "(IILcom/example/vertex_to_service/vertextoservice/core/Choices;Lcom/example/vertex_to_service/vertextoservice/core/Choices;II)V", sig := { parameters := [.int, .int, (.object "com/example/vertex_to_service/vertextoservice/core/Choices"), (.object "com/example/vertex_to_service/vertextoservice/core/Choices"), .int, .int], returnType := none }, accessFlags := 2, code := some k2c0 }
def k2c1 : Code := { maxStack := 8, maxLocals := 2, code := prog_10_method_2_code, exceptionTable := #[], attributes := #[] }
def k2m1 : Method := { name := "of", desc := "(II)Lcom/example/vertex_to_service/vertextoservice/core/Choices;", sig := { parameters := [.int, .int], returnType := some (.object "com/example/vertex_to_service/vertextoservice/core/Choices") }, accessFlags := 8, code := some k2c1 }
def k2c2 : Code := { maxStack := 2, maxLocals := 2, code := prog_10_method_5_code, exceptionTable := #[], attributes := #[] }
def k2m2 : Method := { name := "before", desc := "(Lcom/example/vertex_to_service/vertextoservice/core/Choices;)Z", sig := { parameters := [(.object "com/example/vertex_to_service/vertextoservice/core/Choices")], returnType := some .boolean }, accessFlags := 0, code := some k2c2 }
def k2c3 : Code := { maxStack := 5, maxLocals := 2, code := prog_10_method_6_code, exceptionTable := #[], attributes := #[] }
def k2m3 : Method := { name := "writeTo", desc := "([I)V", sig := { parameters := [(.array .int)], returnType := none }, accessFlags := 0, code := some k2c3 }
def k2c4 : Code := { maxStack := 3, maxLocals := 6, code := prog_10_method_7_code, exceptionTable := #[], attributes := #[] }
def k2m4 : Method := { name := "writeTo", desc := "([I[ILjava/util/ArrayDeque;)I", sig := { parameters := [(.array .int), (.array .int), (.object "java/util/ArrayDeque")], returnType := some .int }, accessFlags := 2, code := some k2c4 }
/-- com/example/vertex_to_service/vertextoservice/core/Choices -/
def k2 : Class := { plain "com/example/vertex_to_service/vertextoservice/core/Choices" (some 0) with
  accessFlags := 48
  interfaces := #[]
  cf := some (fileOf pool2 8 #[.nestMembers #[44, 71]] #[{ accessFlags := 2, nameIndex := 5, descriptorIndex := 31, attributes := #[] }, { accessFlags := 8, nameIndex := 82, descriptorIndex := 83, attributes := #[] }, { accessFlags := 0, nameIndex := 90, descriptorIndex := 91, attributes := #[] }, { accessFlags := 0, nameIndex := 54, descriptorIndex := 92, attributes := #[] }, { accessFlags := 2, nameIndex := 54, descriptorIndex := 55, attributes := #[] }] 48 2 #[] #[{ accessFlags := 24, nameIndex := 34, descriptorIndex := 19, attributes := #[] }, { accessFlags := 24, nameIndex := 76, descriptorIndex := 77, attributes := #[] }, { accessFlags := 18, nameIndex := 11, descriptorIndex := 12, attributes := #[] }, { accessFlags := 18, nameIndex := 15, descriptorIndex := 12, attributes := #[] }, { accessFlags := 18, nameIndex := 18, descriptorIndex := 19, attributes := #[] }, { accessFlags := 18, nameIndex := 22, descriptorIndex := 19, attributes := #[] }, { accessFlags := 18, nameIndex := 25, descriptorIndex := 12, attributes := #[] }, { accessFlags := 18, nameIndex := 28, descriptorIndex := 12, attributes := #[] }])
  fields := #[{ name := "NONE", type := (.object "com/example/vertex_to_service/vertextoservice/core/Choices"), accessFlags := 24, slot := 0, constantValue := 0 }, { name := "UNORDERED", type := (.object "java/util/Comparator"), accessFlags := 24, slot := 1, constantValue := 0 }, { name := "vertex", type := .int, accessFlags := 18, slot := 0, constantValue := 0 }, { name := "candidate", type := .int, accessFlags := 18, slot := 1, constantValue := 0 }, { name := "first", type := (.object "com/example/vertex_to_service/vertextoservice/core/Choices"), accessFlags := 18, slot := 2, constantValue := 0 }, { name := "second", type := (.object "com/example/vertex_to_service/vertextoservice/core/Choices"), accessFlags := 18, slot := 3, constantValue := 0 }, { name := "low", type := .int, accessFlags := 18, slot := 4, constantValue := 0 }, { name := "high", type := .int, accessFlags := 18, slot := 5, constantValue := 0 }]
  methods := #[k2m0, k2m1, k2m2, k2m3, k2m4]
  instanceTypes := #[.int, .int, (.object "com/example/vertex_to_service/vertextoservice/core/Choices"), (.object "com/example/vertex_to_service/vertextoservice/core/Choices"), .int, .int]
  staticTypes := #[(.object "com/example/vertex_to_service/vertextoservice/core/Choices"), (.object "java/util/Comparator")]
  resolved := Array.replicate 100 none
  statics := none }

def pool3 : Array CpInfo := pool [(8, .class_ 10), (1, u "java/lang/Iterable"), (24, .class_ 36), (0, u "java/lang/Object")] 25

/-- java/lang/Iterable -/
def k3 : Class := { plain "java/lang/Iterable" (some 0) with
  accessFlags := 1537
  interfaces := #[]
  cf := some (fileOf pool3 8 #[] #[] 1537 35 #[] #[])
  fields := #[]
  methods := #[]
  instanceTypes := #[]
  staticTypes := #[]
  resolved := Array.replicate 62 none
  statics := none }

def pool4 : Array CpInfo := pool [(10, .class_ 12), (1, u "java/util/Collection"), (47, .class_ 61), (0, u "java/lang/Object"), (0, .class_ 63), (0, u "java/lang/Iterable")] 51

/-- java/util/Collection -/
def k4 : Class := { plain "java/util/Collection" (some 0) with
  accessFlags := 1537
  interfaces := #[3]
  cf := some (fileOf pool4 10 #[] #[] 1537 60 #[62] #[])
  fields := #[]
  methods := #[]
  instanceTypes := #[]
  staticTypes := #[]
  resolved := Array.replicate 115 none
  statics := none }

def pool5 : Array CpInfo := pool [(1, .methodref 2 3), (0, .class_ 4), (0, .nameAndType 5 6), (0, u "java/lang/Object"), (0, u "<init>"), (0, u "()V"), (1, .class_ 10), (1, u "java/util/AbstractCollection"), (66, .class_ 78), (0, u "java/util/Collection")] 81

def k5c0 : Code := { maxStack := 1, maxLocals := 1, code := jdk_22_method_1_code, exceptionTable := #[], attributes := #[] }
def k5m0 : Method := { name := "<init>", desc := "()V", sig := { parameters := [], returnType := none }, accessFlags := 4, code := some k5c0 }
/-- java/util/AbstractCollection -/
def k5 : Class := { plain "java/util/AbstractCollection" (some 0) with
  accessFlags := 1057
  interfaces := #[4]
  cf := some (fileOf pool5 8 #[] #[{ accessFlags := 4, nameIndex := 5, descriptorIndex := 6, attributes := #[] }] 1057 2 #[77] #[])
  fields := #[]
  methods := #[k5m0]
  instanceTypes := #[]
  staticTypes := #[]
  resolved := Array.replicate 160 none
  statics := none }

def pool6 : Array CpInfo := pool [(1, .class_ 2), (0, u "java/util/Queue"), (0, .class_ 4), (0, u "java/lang/Object"), (0, .class_ 6), (0, u "java/util/Collection")] 14

/-- java/util/Queue -/
def k6 : Class := { plain "java/util/Queue" (some 0) with
  accessFlags := 1537
  interfaces := #[4]
  cf := some (fileOf pool6 1 #[] #[] 1537 3 #[5] #[])
  fields := #[]
  methods := #[]
  instanceTypes := #[]
  staticTypes := #[]
  resolved := Array.replicate 21 none
  statics := none }

def pool7 : Array CpInfo := pool [(8, .class_ 10), (1, u "java/util/SequencedCollection"), (15, .class_ 27), (0, u "java/lang/Object"), (0, .class_ 29), (0, u "java/util/Collection")] 27

/-- java/util/SequencedCollection -/
def k7 : Class := { plain "java/util/SequencedCollection" (some 0) with
  accessFlags := 1537
  interfaces := #[4]
  cf := some (fileOf pool7 8 #[] #[] 1537 26 #[28] #[])
  fields := #[]
  methods := #[]
  instanceTypes := #[]
  staticTypes := #[]
  resolved := Array.replicate 57 none
  statics := none }

def pool8 : Array CpInfo := pool [(8, .class_ 10), (1, u "java/util/Deque"), (2, .class_ 14), (0, u "java/lang/Object"), (0, .class_ 16), (0, u "java/util/Queue"), (0, .class_ 18), (0, u "java/util/SequencedCollection")] 51

/-- java/util/Deque -/
def k8 : Class := { plain "java/util/Deque" (some 0) with
  accessFlags := 1537
  interfaces := #[6, 7]
  cf := some (fileOf pool8 8 #[] #[] 1537 13 #[15, 17] #[])
  fields := #[]
  methods := #[]
  instanceTypes := #[]
  staticTypes := #[]
  resolved := Array.replicate 70 none
  statics := none }

def pool9 : Array CpInfo := pool [(1, .class_ 2), (0, u "java/lang/Cloneable"), (0, .class_ 4), (0, u "java/lang/Object")] 2

/-- java/lang/Cloneable -/
def k9 : Class := { plain "java/lang/Cloneable" (some 0) with
  accessFlags := 1537
  interfaces := #[]
  cf := some (fileOf pool9 1 #[] #[] 1537 3 #[] #[])
  fields := #[]
  methods := #[]
  instanceTypes := #[]
  staticTypes := #[]
  resolved := Array.replicate 7 none
  statics := none }

def pool10 : Array CpInfo := pool [(1, .class_ 2), (0, u "java/io/Serializable"), (0, .class_ 4), (0, u "java/lang/Object")] 2

/-- java/io/Serializable -/
def k10 : Class := { plain "java/io/Serializable" (some 0) with
  accessFlags := 1537
  interfaces := #[]
  cf := some (fileOf pool10 1 #[] #[] 1537 3 #[] #[])
  fields := #[]
  methods := #[]
  instanceTypes := #[]
  staticTypes := #[]
  resolved := Array.replicate 7 none
  statics := none }

def pool11 : Array CpInfo := pool [(3, .fieldref 4 5), (0, .class_ 6), (0, .nameAndType 7 8), (0, u "java/util/ArrayDeque"), (0, u "elements"), (0, u "[Ljava/lang/Object;"), (4, u "(II)I"), (6, .fieldref 4 21), (0, .nameAndType 22 23), (0, u "tail"), (0, u "I"), (0, .fieldref 4 25), (0, .nameAndType 26 23), (0, u "head"), (12, u "<init>"), (2, .methodref 43 44), (0, .class_ 45), (0, .nameAndType 39 46), (0, u "java/util/AbstractCollection"), (0, u "()V"), (0, .class_ 48), (0, u "java/lang/Object"), (19, .methodref 4 69), (0, .nameAndType 70 13), (0, u "dec"), (3, .methodref 4 75), (0, .nameAndType 76 13), (0, u "inc"), (9, .methodref 4 87), (0, .nameAndType 88 89), (0, u "addFirst"), (0, u "(Ljava/lang/Object;)V"), (3, .methodref 4 94), (0, .nameAndType 95 96), (0, u "pollFirst"), (0, u "()Ljava/lang/Object;"), (6, .methodref 4 104), (0, .nameAndType 105 106), (0, u "elementAt"), (0, u "([Ljava/lang/Object;I)Ljava/lang/Object;"), (11, .methodref 4 119), (0, .nameAndType 120 96), (0, u "removeFirst"), (10, .class_ 132), (0, u "java/util/ArrayDeque$DeqIterator"), (3, .class_ 137), (0, u "java/util/ArrayDeque$DescendingIterator"), (1, .class_ 140), (0, u "java/util/ArrayDeque$DeqSpliterator"), (137, .class_ 279), (0, u "java/util/Deque"), (0, .class_ 281), (0, u "java/lang/Cloneable"), (0, .class_ 283), (0, u "java/io/Serializable"), (0, u "MAX_ARRAY_SIZE"), (1, u "serialVersionUID"), (0, u "J"), (54, u "push"), (0, u "pop"), (3, u "isEmpty"), (0, u "()Z")] 89

def k11c0 : Code := { maxStack := 2, maxLocals := 1, code := jdk_21_method_3_code, exceptionTable := #[], attributes := #[] }
def k11m0 : Method := { name := "<init>", desc := "()V", sig := { parameters := [], returnType := none }, accessFlags := 1, code := some k11c0 }
def k11c1 : Code := { maxStack := 2, maxLocals := 2, code := jdk_21_method_6_code, exceptionTable := #[], attributes := #[] }
def k11m1 : Method := { name := "inc", desc := "(II)I", sig := { parameters := [.int, .int], returnType := some .int }, accessFlags := 24, code := some k11c1 }
def k11c2 : Code := { maxStack := 2, maxLocals := 2, code := jdk_21_method_7_code, exceptionTable := #[], attributes := #[] }
def k11m2 : Method := { name := "dec", desc := "(II)I", sig := { parameters := [.int, .int], returnType := some .int }, accessFlags := 24, code := some k11c2 }
def k11c3 : Code := { maxStack := 2, maxLocals := 2, code := jdk_21_method_10_code, exceptionTable := #[], attributes := #[] }
def k11m3 : Method := { name := "elementAt", desc := "([Ljava/lang/Object;I)Ljava/lang/Object;", sig := { parameters := [(.array (.object "java/lang/Object")), .int], returnType := some (.object "java/lang/Object") }, accessFlags := 24, code := some k11c3 }
def k11c4 : Code := { maxStack := 4, maxLocals := 3, code := jdk_21_method_12_code, exceptionTable := #[], attributes := #[] }
def k11m4 : Method := { name := "addFirst", desc := "(Ljava/lang/Object;)V", sig := { parameters := [(.object "java/lang/Object")], returnType := none }, accessFlags := 1, code := some k11c4 }
def k11c5 : Code := { maxStack := 2, maxLocals := 2, code := jdk_21_method_18_code, exceptionTable := #[], attributes := #[] }
def k11m5 : Method := { name := "removeFirst", desc := "()Ljava/lang/Object;", sig := { parameters := [], returnType := some (.object "java/lang/Object") }, accessFlags := 1, code := some k11c5 }
def k11c6 : Code := { maxStack := 3, maxLocals := 4, code := jdk_21_method_20_code, exceptionTable := #[], attributes := #[] }
def k11m6 : Method := { name := "pollFirst", desc := "()Ljava/lang/Object;", sig := { parameters := [], returnType := some (.object "java/lang/Object") }, accessFlags := 1, code := some k11c6 }
def k11c7 : Code := { maxStack := 2, maxLocals := 2, code := jdk_21_method_34_code, exceptionTable := #[], attributes := #[] }
def k11m7 : Method := { name := "push", desc := "(Ljava/lang/Object;)V", sig := { parameters := [(.object "java/lang/Object")], returnType := none }, accessFlags := 1, code := some k11c7 }
def k11c8 : Code := { maxStack := 1, maxLocals := 1, code := jdk_21_method_35_code, exceptionTable := #[], attributes := #[] }
def k11m8 : Method := { name := "pop", desc := "()Ljava/lang/Object;", sig := { parameters := [], returnType := some (.object "java/lang/Object") }, accessFlags := 1, code := some k11c8 }
def k11c9 : Code := { maxStack := 2, maxLocals := 1, code := jdk_21_method_38_code, exceptionTable := #[], attributes := #[] }
def k11m9 : Method := { name := "isEmpty", desc := "()Z", sig := { parameters := [], returnType := some .boolean }, accessFlags := 1, code := some k11c9 }
/-- java/util/ArrayDeque -/
def k11 : Class := { plain "java/util/ArrayDeque" (some 5) with
  accessFlags := 33
  interfaces := #[8, 9, 10]
  cf := some (fileOf pool11 4 #[.nestMembers #[139, 136, 131]] #[{ accessFlags := 1, nameIndex := 39, descriptorIndex := 46, attributes := #[] }, { accessFlags := 24, nameIndex := 76, descriptorIndex := 13, attributes := #[] }, { accessFlags := 24, nameIndex := 70, descriptorIndex := 13, attributes := #[] }, { accessFlags := 24, nameIndex := 105, descriptorIndex := 106, attributes := #[] }, { accessFlags := 1, nameIndex := 88, descriptorIndex := 89, attributes := #[] }, { accessFlags := 1, nameIndex := 120, descriptorIndex := 96, attributes := #[] }, { accessFlags := 1, nameIndex := 95, descriptorIndex := 96, attributes := #[] }, { accessFlags := 1, nameIndex := 342, descriptorIndex := 89, attributes := #[] }, { accessFlags := 1, nameIndex := 343, descriptorIndex := 96, attributes := #[] }, { accessFlags := 1, nameIndex := 347, descriptorIndex := 348, attributes := #[] }] 33 43 #[278, 280, 282] #[{ accessFlags := 128, nameIndex := 7, descriptorIndex := 8, attributes := #[] }, { accessFlags := 128, nameIndex := 26, descriptorIndex := 23, attributes := #[] }, { accessFlags := 128, nameIndex := 22, descriptorIndex := 23, attributes := #[] }, { accessFlags := 26, nameIndex := 284, descriptorIndex := 23, attributes := #[] }, { accessFlags := 26, nameIndex := 286, descriptorIndex := 287, attributes := #[] }])
  fields := #[{ name := "elements", type := (.array (.object "java/lang/Object")), accessFlags := 128, slot := 0, constantValue := 0 }, { name := "head", type := .int, accessFlags := 128, slot := 1, constantValue := 0 }, { name := "tail", type := .int, accessFlags := 128, slot := 2, constantValue := 0 }, { name := "MAX_ARRAY_SIZE", type := .int, accessFlags := 26, slot := 0, constantValue := 0 }, { name := "serialVersionUID", type := .long, accessFlags := 26, slot := 1, constantValue := 0 }]
  methods := #[k11m0, k11m1, k11m2, k11m3, k11m4, k11m5, k11m6, k11m7, k11m8, k11m9]
  instanceTypes := #[(.array (.object "java/lang/Object")), .int, .int]
  staticTypes := #[.int, .long]
  resolved := Array.replicate 438 none
  statics := none }

/-- the primitive byte -/
def k12 : Class := { plain "byte" none with kind := .primitive 'B', accessFlags := 0x411 }
/-- [B -/
def k13 : Class := { plain "[B" (some 0) with kind := .array 12 .byte, interfaces := #[9, 10], accessFlags := 1041 }

/-- the primitive int -/
def k14 : Class := { plain "int" none with kind := .primitive 'I', accessFlags := 0x411 }
/-- [I -/
def k15 : Class := { plain "[I" (some 0) with kind := .array 14 .int, interfaces := #[9, 10], accessFlags := 1041 }

/-- [Ljava/lang/Object; -/
def k16 : Class := { plain "[Ljava/lang/Object;" (some 0) with kind := .array 0 (.object "java/lang/Object"), interfaces := #[9, 10], accessFlags := 1041 }

def heap : Heap := #[]
def classes : Array Class := #[k0, k1, k2, k3, k4, k5, k6, k7, k8, k9, k10, k11, k12, k13, k14, k15, k16]
def interned : List (Array UInt16 × Addr) := []
def slotsUsed : Nat := 0
def theMethod : MethodId := ⟨1, 2⟩
def args0 : Array Value := #[.int 5, .int 6, .int 1, .int 2, .int 3]
def aboutOver (below : List Frame) : State where
  vm := { classes := classes, interned := interned.toArray }
  heap := heap
  slotsUsed := slotsUsed
  threads := #[{ frames := .invoking theMethod args0 :: below }]
def below0 : List Frame := [.native { method := ⟨0, 0⟩, args := #[] }]
def about1 : State := aboutOver below0
def p0 : Program := .bare "" "" ""
def e0 : Env := launch0.env 0 0 0
theorem w_frames : about1.frames = Frame.invoking theMethod args0 :: below0 := rfl
set_option maxRecDepth 65536 in
theorem w_args : argsFit about1.vm theMethod args0 = true := by decide +kernel
set_option maxRecDepth 65536 in
theorem w_heap : heapFits about1 = true := by decide +kernel
set_option maxRecDepth 65536 in
theorem w_runnable : about1.curStatus? = some .runnable := by decide +kernel
set_option maxRecDepth 65536 in
theorem w_alone : about1.alone = true := by decide +kernel
set_option maxRecDepth 65536 in
theorem w_named : about1.methodNamed? x = some theMethod := by decide +kernel
set_option maxRecDepth 65536 in
theorem w_hears : about1.hears theMethod below0 = true := by decide +kernel
set_option maxRecDepth 65536 in
theorem w_ripe : about1.ripe theMethod args0 below0 = true := by decide +kernel
theorem w_running : about1.status = .running := rfl
set_option maxRecDepth 65536 in
theorem w_room : about1.hasRoom e0.platform room_1 = true :=
  launch0.hasRoom_least _ room_1 (by decide +kernel) (by decide +kernel) (by decide +kernel) (by decide +kernel) (by decide +kernel) (by decide +kernel)
theorem allAtoms_all (ts : List Jvm.Cond) (a : Array Jvm.Value) (st : Jvm.State) : (allAtoms ts).before a st = ts.all (fun c => c.before a st) := by
  induction ts with
  | nil => rfl
  | cons c t ih =>
    show (Jvm.Cond.and c (allAtoms t)).before a st = _
    rw [Jvm.Cond.before_and, ih, List.all_cons]
def words1 : List Jvm.Cond := Jvm.Cond.code x code maxLocals ret :: tables_1
/-- a 'code' word, met by the world's own term for the bytes: nothing is compared byte by byte -/
theorem code_word {y : MethodName} {bytes : ByteArray} {mx : Nat} {rt : Option FieldType} {a : Array Value} {s : State} {m : MethodId} {meth : Method} {c : Code} (h1 : s.methodNamed? y = some m) (h2 : s.vm.method? m = some meth) (h3 : meth.code = some c) (h4 : c.code = bytes)
    (h5 : (c.maxLocals == mx && c.exceptionTable.isEmpty && decide (c.maxStack ≤ mostOperands) && decide (meth.sig.returnType = rt) && !meth.locks && decide (parseMethodDescriptor y.desc = some meth.sig)) = true) : (Jvm.Cond.code y bytes mx rt).before a s = true := by
  simp only [Bool.and_eq_true, beq_iff_eq, Bool.not_eq_true', decide_eq_true_eq] at h5
  obtain ⟨⟨⟨⟨⟨g1, g2⟩, g3⟩, g4⟩, g5⟩, g6⟩ := h5
  simp [Cond.before, Cond.holds, Cond.value, h1, h2, h3, h4, g1, g2, g3, g4, g5, g6]
def isCode : Jvm.Cond → Bool
  | .code _ _ _ _ => true
  | _ => false
theorem all_split {L : List Jvm.Cond} {P : Jvm.Cond → Bool} (h1 : L.all (fun c => isCode c || P c) = true) (h2 : ∀ c ∈ L.filter isCode, P c = true) : L.all P = true := by
  refine List.all_eq_true.mpr fun c hc => ?_
  have h := List.all_eq_true.mp h1 c hc
  rcases Bool.eq_false_or_eq_true (isCode c) with hi | hi
  · exact h2 c (List.mem_filter.mpr ⟨hc, hi⟩)
  · simpa [hi] using h
set_option maxRecDepth 65536 in
theorem w_c0 : (Jvm.Cond.code x code maxLocals ret).before args0 about1 = true := code_word (m := ⟨1, 2⟩) (meth := k1m2) (c := k1c2) (by decide +kernel) rfl rfl rfl (by decide +kernel)
set_option maxRecDepth 65536 in
theorem w_c1 : (Jvm.Cond.code ({ cls := "com/example/vertex_to_service/vertextoservice/core/Choices", name := "of", desc := "(II)Lcom/example/vertex_to_service/vertextoservice/core/Choices;" } : Jvm.MethodName) prog_10_method_2_code (2 : Nat) (Option.some (Jvm.ClassFile.FieldType.object "com/example/vertex_to_service/vertextoservice/core/Choices"))).before args0 about1 = true := code_word (m := ⟨2, 1⟩) (meth := k2m1) (c := k2c1) (by decide +kernel) rfl rfl rfl (by decide +kernel)
set_option maxRecDepth 65536 in
theorem w_c2 : (Jvm.Cond.code ({ cls := "com/example/vertex_to_service/vertextoservice/core/Choices", name := "<init>", desc := "(IILcom/example/vertex_to_service/vertextoservice/core/Choices;Lcom/example/vertex_to_service/vertextoservice/core/Choices;II)V" } : Jvm.MethodName) prog_10_method_1_code (7 : Nat) (Option.none : Option Jvm.ClassFile.FieldType)).before args0 about1 = true := code_word (m := ⟨2, 0⟩) (meth := k2m0) (c := k2c0) (by decide +kernel) rfl rfl rfl (by decide +kernel)
set_option maxRecDepth 65536 in
theorem w_c3 : (Jvm.Cond.code ({ cls := "java/lang/Object", name := "<init>", desc := "()V" } : Jvm.MethodName) object_method_1_code (1 : Nat) (Option.none : Option Jvm.ClassFile.FieldType)).before args0 about1 = true := code_word (m := ⟨0, 0⟩) (meth := k0m0) (c := k0c0) (by decide +kernel) rfl rfl rfl (by decide +kernel)
set_option maxRecDepth 65536 in
theorem w_c4 : (Jvm.Cond.code ({ cls := "com/example/vertex_to_service/vertextoservice/core/Choices", name := "writeTo", desc := "([I)V" } : Jvm.MethodName) prog_10_method_6_code (2 : Nat) (Option.none : Option Jvm.ClassFile.FieldType)).before args0 about1 = true := code_word (m := ⟨2, 3⟩) (meth := k2m3) (c := k2c3) (by decide +kernel) rfl rfl rfl (by decide +kernel)
set_option maxRecDepth 65536 in
theorem w_c5 : (Jvm.Cond.code ({ cls := "java/util/ArrayDeque", name := "<init>", desc := "()V" } : Jvm.MethodName) jdk_21_method_3_code (1 : Nat) (Option.none : Option Jvm.ClassFile.FieldType)).before args0 about1 = true := code_word (m := ⟨11, 0⟩) (meth := k11m0) (c := k11c0) (by decide +kernel) rfl rfl rfl (by decide +kernel)
set_option maxRecDepth 65536 in
theorem w_c6 : (Jvm.Cond.code ({ cls := "java/util/AbstractCollection", name := "<init>", desc := "()V" } : Jvm.MethodName) jdk_22_method_1_code (1 : Nat) (Option.none : Option Jvm.ClassFile.FieldType)).before args0 about1 = true := code_word (m := ⟨5, 0⟩) (meth := k5m0) (c := k5c0) (by decide +kernel) rfl rfl rfl (by decide +kernel)
set_option maxRecDepth 65536 in
theorem w_c7 : (Jvm.Cond.code ({ cls := "com/example/vertex_to_service/vertextoservice/core/Choices", name := "writeTo", desc := "([I[ILjava/util/ArrayDeque;)I" } : Jvm.MethodName) prog_10_method_7_code (6 : Nat) (Option.some Jvm.ClassFile.FieldType.int)).before args0 about1 = true := code_word (m := ⟨2, 4⟩) (meth := k2m4) (c := k2c4) (by decide +kernel) rfl rfl rfl (by decide +kernel)
set_option maxRecDepth 65536 in
theorem w_c8 : (Jvm.Cond.code ({ cls := "java/util/ArrayDeque", name := "push", desc := "(Ljava/lang/Object;)V" } : Jvm.MethodName) jdk_21_method_34_code (2 : Nat) (Option.none : Option Jvm.ClassFile.FieldType)).before args0 about1 = true := code_word (m := ⟨11, 7⟩) (meth := k11m7) (c := k11c7) (by decide +kernel) rfl rfl rfl (by decide +kernel)
set_option maxRecDepth 65536 in
theorem w_c9 : (Jvm.Cond.code ({ cls := "java/util/ArrayDeque", name := "addFirst", desc := "(Ljava/lang/Object;)V" } : Jvm.MethodName) jdk_21_method_12_code (3 : Nat) (Option.none : Option Jvm.ClassFile.FieldType)).before args0 about1 = true := code_word (m := ⟨11, 4⟩) (meth := k11m4) (c := k11c4) (by decide +kernel) rfl rfl rfl (by decide +kernel)
set_option maxRecDepth 65536 in
theorem w_c10 : (Jvm.Cond.code ({ cls := "java/util/ArrayDeque", name := "dec", desc := "(II)I" } : Jvm.MethodName) jdk_21_method_7_code (2 : Nat) (Option.some Jvm.ClassFile.FieldType.int)).before args0 about1 = true := code_word (m := ⟨11, 2⟩) (meth := k11m2) (c := k11c2) (by decide +kernel) rfl rfl rfl (by decide +kernel)
set_option maxRecDepth 65536 in
theorem w_c11 : (Jvm.Cond.code ({ cls := "java/util/ArrayDeque", name := "isEmpty", desc := "()Z" } : Jvm.MethodName) jdk_21_method_38_code (1 : Nat) (Option.some Jvm.ClassFile.FieldType.boolean)).before args0 about1 = true := code_word (m := ⟨11, 9⟩) (meth := k11m9) (c := k11c9) (by decide +kernel) rfl rfl rfl (by decide +kernel)
set_option maxRecDepth 65536 in
theorem w_c12 : (Jvm.Cond.code ({ cls := "java/util/ArrayDeque", name := "pop", desc := "()Ljava/lang/Object;" } : Jvm.MethodName) jdk_21_method_35_code (1 : Nat) (Option.some (Jvm.ClassFile.FieldType.object "java/lang/Object"))).before args0 about1 = true := code_word (m := ⟨11, 8⟩) (meth := k11m8) (c := k11c8) (by decide +kernel) rfl rfl rfl (by decide +kernel)
set_option maxRecDepth 65536 in
theorem w_c13 : (Jvm.Cond.code ({ cls := "java/util/ArrayDeque", name := "removeFirst", desc := "()Ljava/lang/Object;" } : Jvm.MethodName) jdk_21_method_18_code (2 : Nat) (Option.some (Jvm.ClassFile.FieldType.object "java/lang/Object"))).before args0 about1 = true := code_word (m := ⟨11, 5⟩) (meth := k11m5) (c := k11c5) (by decide +kernel) rfl rfl rfl (by decide +kernel)
set_option maxRecDepth 65536 in
theorem w_c14 : (Jvm.Cond.code ({ cls := "java/util/ArrayDeque", name := "pollFirst", desc := "()Ljava/lang/Object;" } : Jvm.MethodName) jdk_21_method_20_code (4 : Nat) (Option.some (Jvm.ClassFile.FieldType.object "java/lang/Object"))).before args0 about1 = true := code_word (m := ⟨11, 6⟩) (meth := k11m6) (c := k11c6) (by decide +kernel) rfl rfl rfl (by decide +kernel)
set_option maxRecDepth 65536 in
theorem w_c15 : (Jvm.Cond.code ({ cls := "java/util/ArrayDeque", name := "elementAt", desc := "([Ljava/lang/Object;I)Ljava/lang/Object;" } : Jvm.MethodName) jdk_21_method_10_code (2 : Nat) (Option.some (Jvm.ClassFile.FieldType.object "java/lang/Object"))).before args0 about1 = true := code_word (m := ⟨11, 3⟩) (meth := k11m3) (c := k11c3) (by decide +kernel) rfl rfl rfl (by decide +kernel)
set_option maxRecDepth 65536 in
theorem w_c16 : (Jvm.Cond.code ({ cls := "java/util/ArrayDeque", name := "inc", desc := "(II)I" } : Jvm.MethodName) jdk_21_method_6_code (2 : Nat) (Option.some Jvm.ClassFile.FieldType.int)).before args0 about1 = true := code_word (m := ⟨11, 1⟩) (meth := k11m1) (c := k11c1) (by decide +kernel) rfl rfl rfl (by decide +kernel)
set_option maxRecDepth 65536 in
theorem w_c17 : (Jvm.Cond.code ({ cls := "com/example/vertex_to_service/vertextoservice/core/ChoicesOfPinLaw", name := "expected", desc := "(IIII)I" } : Jvm.MethodName) method_2_code (4 : Nat) (Option.some Jvm.ClassFile.FieldType.int)).before args0 about1 = true := code_word (m := ⟨1, 1⟩) (meth := k1m1) (c := k1c1) (by decide +kernel) rfl rfl rfl (by decide +kernel)
set_option maxRecDepth 65536 in
theorem w_c18 : (Jvm.Cond.code ({ cls := "com/example/vertex_to_service/vertextoservice/core/Choices", name := "before", desc := "(Lcom/example/vertex_to_service/vertextoservice/core/Choices;)Z" } : Jvm.MethodName) prog_10_method_5_code (2 : Nat) (Option.some Jvm.ClassFile.FieldType.boolean)).before args0 about1 = true := code_word (m := ⟨2, 2⟩) (meth := k2m2) (c := k2c2) (by decide +kernel) rfl rfl rfl (by decide +kernel)
def codes1 : List Jvm.Cond := [Jvm.Cond.code x code maxLocals ret, Jvm.Cond.code ({ cls := "com/example/vertex_to_service/vertextoservice/core/Choices", name := "of", desc := "(II)Lcom/example/vertex_to_service/vertextoservice/core/Choices;" } : Jvm.MethodName) prog_10_method_2_code (2 : Nat) (Option.some (Jvm.ClassFile.FieldType.object "com/example/vertex_to_service/vertextoservice/core/Choices")), Jvm.Cond.code ({ cls := "com/example/vertex_to_service/vertextoservice/core/Choices", name := "<init>", desc := "(IILcom/example/vertex_to_service/vertextoservice/core/Choices;Lcom/example/vertex_to_service/vertextoservice/core/Choices;II)V" } : Jvm.MethodName) prog_10_method_1_code (7 : Nat) (Option.none : Option Jvm.ClassFile.FieldType), Jvm.Cond.code ({ cls := "java/lang/Object", name := "<init>", desc := "()V" } : Jvm.MethodName) object_method_1_code (1 : Nat) (Option.none : Option Jvm.ClassFile.FieldType), Jvm.Cond.code ({ cls := "com/example/vertex_to_service/vertextoservice/core/Choices", name := "writeTo", desc := "([I)V" } : Jvm.MethodName) prog_10_method_6_code (2 : Nat) (Option.none : Option Jvm.ClassFile.FieldType), Jvm.Cond.code ({ cls := "java/util/ArrayDeque", name := "<init>", desc := "()V" } : Jvm.MethodName) jdk_21_method_3_code (1 : Nat) (Option.none : Option Jvm.ClassFile.FieldType), Jvm.Cond.code ({ cls := "java/util/AbstractCollection", name := "<init>", desc := "()V" } : Jvm.MethodName) jdk_22_method_1_code (1 : Nat) (Option.none : Option Jvm.ClassFile.FieldType), Jvm.Cond.code ({ cls := "com/example/vertex_to_service/vertextoservice/core/Choices", name := "writeTo", desc := "([I[ILjava/util/ArrayDeque;)I" } : Jvm.MethodName) prog_10_method_7_code (6 : Nat) (Option.some Jvm.ClassFile.FieldType.int), Jvm.Cond.code ({ cls := "java/util/ArrayDeque", name := "push", desc := "(Ljava/lang/Object;)V" } : Jvm.MethodName) jdk_21_method_34_code (2 : Nat) (Option.none : Option Jvm.ClassFile.FieldType), Jvm.Cond.code ({ cls := "java/util/ArrayDeque", name := "addFirst", desc := "(Ljava/lang/Object;)V" } : Jvm.MethodName) jdk_21_method_12_code (3 : Nat) (Option.none : Option Jvm.ClassFile.FieldType), Jvm.Cond.code ({ cls := "java/util/ArrayDeque", name := "dec", desc := "(II)I" } : Jvm.MethodName) jdk_21_method_7_code (2 : Nat) (Option.some Jvm.ClassFile.FieldType.int), Jvm.Cond.code ({ cls := "java/util/ArrayDeque", name := "isEmpty", desc := "()Z" } : Jvm.MethodName) jdk_21_method_38_code (1 : Nat) (Option.some Jvm.ClassFile.FieldType.boolean), Jvm.Cond.code ({ cls := "java/util/ArrayDeque", name := "pop", desc := "()Ljava/lang/Object;" } : Jvm.MethodName) jdk_21_method_35_code (1 : Nat) (Option.some (Jvm.ClassFile.FieldType.object "java/lang/Object")), Jvm.Cond.code ({ cls := "java/util/ArrayDeque", name := "removeFirst", desc := "()Ljava/lang/Object;" } : Jvm.MethodName) jdk_21_method_18_code (2 : Nat) (Option.some (Jvm.ClassFile.FieldType.object "java/lang/Object")), Jvm.Cond.code ({ cls := "java/util/ArrayDeque", name := "pollFirst", desc := "()Ljava/lang/Object;" } : Jvm.MethodName) jdk_21_method_20_code (4 : Nat) (Option.some (Jvm.ClassFile.FieldType.object "java/lang/Object")), Jvm.Cond.code ({ cls := "java/util/ArrayDeque", name := "elementAt", desc := "([Ljava/lang/Object;I)Ljava/lang/Object;" } : Jvm.MethodName) jdk_21_method_10_code (2 : Nat) (Option.some (Jvm.ClassFile.FieldType.object "java/lang/Object")), Jvm.Cond.code ({ cls := "java/util/ArrayDeque", name := "inc", desc := "(II)I" } : Jvm.MethodName) jdk_21_method_6_code (2 : Nat) (Option.some Jvm.ClassFile.FieldType.int), Jvm.Cond.code ({ cls := "com/example/vertex_to_service/vertextoservice/core/ChoicesOfPinLaw", name := "expected", desc := "(IIII)I" } : Jvm.MethodName) method_2_code (4 : Nat) (Option.some Jvm.ClassFile.FieldType.int), Jvm.Cond.code ({ cls := "com/example/vertex_to_service/vertextoservice/core/Choices", name := "before", desc := "(Lcom/example/vertex_to_service/vertextoservice/core/Choices;)Z" } : Jvm.MethodName) prog_10_method_5_code (2 : Nat) (Option.some Jvm.ClassFile.FieldType.boolean)]
set_option maxRecDepth 65536 in
theorem codes_eq : words1.filter isCode = codes1 := rfl
theorem w_codes : ∀ c ∈ words1.filter isCode, c.before args0 about1 = true := by
  rw [codes_eq]
  intro c hc
  simp only [codes1, List.mem_cons, List.not_mem_nil, or_false] at hc
  rcases hc with rfl | rfl | rfl | rfl | rfl | rfl | rfl | rfl | rfl | rfl | rfl | rfl | rfl | rfl | rfl | rfl | rfl | rfl | rfl
  · exact w_c0
  · exact w_c1
  · exact w_c2
  · exact w_c3
  · exact w_c4
  · exact w_c5
  · exact w_c6
  · exact w_c7
  · exact w_c8
  · exact w_c9
  · exact w_c10
  · exact w_c11
  · exact w_c12
  · exact w_c13
  · exact w_c14
  · exact w_c15
  · exact w_c16
  · exact w_c17
  · exact w_c18
set_option maxRecDepth 65536 in
theorem w_t1 : (words1.take 24).all (fun c => isCode c || c.before args0 about1) = true := by decide +kernel
set_option maxRecDepth 65536 in
theorem w_t2 : ((words1.drop 24).take 24).all (fun c => isCode c || c.before args0 about1) = true := by decide +kernel
set_option maxRecDepth 65536 in
theorem w_t3 : (((words1.drop 24).drop 24).take 24).all (fun c => isCode c || c.before args0 about1) = true := by decide +kernel
set_option maxRecDepth 65536 in
theorem w_t4 : ((((words1.drop 24).drop 24).drop 24).take 24).all (fun c => isCode c || c.before args0 about1) = true := by decide +kernel
set_option maxRecDepth 65536 in
theorem w_t5 : ((((words1.drop 24).drop 24).drop 24).drop 24).all (fun c => isCode c || c.before args0 about1) = true := by decide +kernel
theorem w_tables : (allAtoms (Jvm.Cond.code x code maxLocals ret :: tables_1)).before args0 about1 = true := by
  rw [allAtoms_all]
  show words1.all (fun c => c.before args0 about1) = true
  refine all_split ?_ w_codes
  rw [← List.take_append_drop 24 words1, List.all_append, w_t1, ← List.take_append_drop 24 (words1.drop 24), List.all_append, w_t2, ← List.take_append_drop 24 ((words1.drop 24).drop 24), List.all_append, w_t3, ← List.take_append_drop 24 (((words1.drop 24).drop 24).drop 24), List.all_append, w_t4, w_t5]
  rfl
set_option maxRecDepth 65536 in
theorem w_case : (Jvm.Cond.and given_1 narrow_1).before args0 about1 = true := by decide +kernel
theorem w_applies : (headSpec (Jvm.Cond.code x code maxLocals ret :: tables_1) room_1).applies x e0.platform about1 = true :=
  (Spec.applies_iff w_frames).mpr ⟨w_running, w_runnable, w_alone, w_named, w_hears, w_ripe, w_room, w_tables⟩
theorem atStart : AtStart classFile x code maxLocals ret World_1 tables_1 room_1 Calls_1 rest_1 Pre_1 launch0 p0 e0 about1 theMethod args0 below0 :=
  ⟨lists_1, trivial, launch0.admits_env _ _ _, launch0.least_env, fairChoices_fair.cas, fairChoices_fair.clock, w_frames, w_args, w_heap, w_applies, trivial, trivial, w_case⟩
end start1
theorem witness_1 : WitnessClaimed_1 := ⟨start1.p0, start1.e0, start1.about1, start1.theMethod, start1.args0, start1.below0, start1.atStart⟩
end Jvm.Pilot.@@N@@
