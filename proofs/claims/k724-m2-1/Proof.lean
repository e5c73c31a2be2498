import JvmDerived
import JvmDerived.Pilot.@@N@@Statement
import JvmDerived.Pilot.@@N@@Code
set_option linter.unusedVariables false
set_option linter.unusedSimpArgs false
namespace Jvm.RoadKit
open Sem ClassFile Op Lib Jvm.Stand Jvm.Free Jvm.LawKit
section New
variable {p : Program} {l : Launch} {e : Env} {R : Room} {s : State} {m : MethodId} {args : Array Value} {below : List Frame} {meth : Method} {c : Code} {T : State} {locs : List Loc} {cells slots : Nat}
theorem retI (X : Stand p l e R s m args below meth c T locs cells slots) (hx : p.tables.exec = Jvm.exec) {pc : Nat} {Ls : Array Slot} {z : Int32} {rest : List Value} (hret : meth.sig.returnType = some .int) (hd : decode c.code pc = .ok (.ireturn, 1)) {fs : List Frame}
    (hl : ∀ (f : JFrame) (acts : List Action), f.method = m → f.locked = none → f.entered = [] → (doReturn e (T.setTop f) acts (some (.int z))).1 = T.setFrames fs) : Steps p.tables e below (T.setTop (mkF m pc Ls (.int z :: rest))) (T.setFrames fs) := by
  have hm' : T.vm.method? m = some meth := X.method'
  have hn : narrow .int (.int z) = .int z := rfl
  show Steps p.tables e below (T.setTop { method := m, pc := pc, locals := Ls, stack := _ :: rest, locked := none }) _
  jvm_step X.here [X.here.top, hx, hd, hm', hret, hn]
  first | (intro acts; rw [hl _ acts rfl rfl rfl]) | rw [hl _ _ rfl rfl rfl]
  exact Steps.refl _
end New
end Jvm.RoadKit
namespace Jvm.Pilot.@@N@@
open Jvm Jvm.ClassFile Sem Op Lib Jvm.Free Jvm.Stand Jvm.LawKit Jvm.RoadKit Bundle Jvm.Pilot.@@N@@.Jvm.D
/-- a body's contract, by a walk forwards: G U says that the run from U comes to an end that the contract allows -/
theorem own_body {l : Launch} {Z : State} {y : MethodName} {bytes : ByteArray} {maxL : Nat} {ret : Option FieldType} {ws : List Jvm.Cond} {rm : Room} {as' : Array Value} {h0 : Heap} {Q : Option Value → Heap → List Loc → Prop} (hpl : plainFor y = true)
    (body : ∀ (p : Program) (e : Env) (s : State) (m : MethodId) (below : List Frame) (meth : Method) (c : Code) (s₁ : State) (G : State → Prop),
      p.tables.exec = Jvm.exec → c.code = bytes → c.maxLocals = maxL → Z.Warmed39 s.vm → s.vm.findClass y.cls = some m.cls → meth.name = y.name → meth.sig.returnType = ret →
      Stand p l e rm s m as' below meth c s₁ [] 0 0 → s₁.heap = h0 →
      (∀ (U' : State) {U : State}, (∀ t, Steps p.tables e below U' t → Steps p.tables e below U t) → G U' → G U) →
      (∀ {U T : State} {locs : List Loc} {cells slots : Nat} {v : Option Value}, Stand p l e rm s m as' below meth c T locs cells slots → (ret = none → v = none) → Q v T.heap locs → cells ≤ rm.cells → slots ≤ rm.slots →
        (∀ fs, (∀ (f : JFrame) (acts : List Action), f.method = m → f.locked = none → f.entered = [] → (doReturn e (T.setTop f) acts v).1 = T.setFrames fs) → Steps p.tables e below U (T.setFrames fs)) → G U) →
      G (s₁.setTop (entryFrame m as' maxL))) :
    MetFree l y (head1 (Jvm.Cond.code y bytes maxL ret :: ws) rm) (fun a U => a = as' ∧ Z.Warmed39 U.vm ∧ U.heap = h0) (fun _ _ _ _ _ => True) (fun _ U o U' => ∃ v L, o = .returned v ∧ Q v U'.heap L ∧ FrameEnd U o U' L rm.cells rm.slots) := by
  refine MetFree.of_bodySF hpl hisR ?_
  intro p e s m args below meth c s₁ Bd hml0 hP hK
  obtain ⟨rfl, hZ, hh⟩ := hP
  have hnm := (name_of_methodNamed Bd.named Bd.method).1
  exact body p e s m below meth c s₁ (fun U => ∃ s₂ o, Steps p.tables e below U s₂ ∧ s₂.status = .running ∧ Ended s₂ below o ∧ ∃ v L, o = .returned v ∧ Q v s₂.heap L ∧ FrameEnd s o s₂ L rm.cells rm.slots)
    Bd.exec Bd.bytes hml0 hZ (findClass_of_methodNamed Bd.named) hnm Bd.returns (Stand.of_body Bd) (by rw [← hh, Bd.state]; rfl)
    (fun U' U h k => by obtain ⟨s₂, o, h1, h2⟩ := k; exact ⟨s₂, o, h _ h1, h2⟩)
    (fun {U T locs cells slots v} X hv hQ hc hs hst => by
      obtain ⟨fs, hr, hrun, hended, hW, hsame⟩ := X.leave (v := v) (fun h => hv (by rw [← Bd.returns]; exact h))
      exact ⟨_, _, hst fs hr, hrun, hended, v, locs, rfl, hQ, ⟨_, rfl⟩, hW, hsame.mono hc hs⟩)
/-- the same, of a body that may intern String constants on its way -/
theorem own_bodyW {l : Launch} {Z : State} {y : MethodName} {bytes : ByteArray} {maxL : Nat} {ret : Option FieldType} {ws : List Jvm.Cond} {rm : Room} {as' : Array Value} {h0 : Heap} {Q : Option Value → Heap → List Loc → Prop} (hpl : plainFor y = true)
    (body : ∀ (p : Program) (e : Env) (s : State) (m : MethodId) (below : List Frame) (meth : Method) (c : Code) (s₁ : State) (G : State → Prop) (vm0 : Vm) (k0 : Nat),
      p.tables.exec = Jvm.exec → c.code = bytes → c.maxLocals = maxL → Z.Warmed39 vm0 → vm0.findClass y.cls = some m.cls → meth.name = y.name → meth.sig.returnType = ret → s.Since vm0 k0 → k0 ≤ h0.size →
      Stand p l e rm (s.setVm vm0) m as' below meth c s₁ [] 0 0 → s₁.heap = h0 →
      (∀ (U' : State) {U : State}, (∀ t, Steps p.tables e below U' t → Steps p.tables e below U t) → G U' → G U) →
      (∀ {U T : State} {locs : List Loc} {cells slots : Nat} {v : Option Value} {vm1 : Vm} {k1 : Nat}, Stand p l e rm (s.setVm vm1) m as' below meth c T locs cells slots → s.Since vm1 k1 → k1 ≤ T.heap.size → (ret = none → v = none) → Q v T.heap locs → cells ≤ rm.cells → slots ≤ rm.slots →
        (∀ fs, (∀ (f : JFrame) (acts : List Action), f.method = m → f.locked = none → f.entered = [] → (doReturn e (T.setTop f) acts v).1 = T.setFrames fs) → Steps p.tables e below U (T.setFrames fs)) → G U) →
      G (s₁.setTop (entryFrame m as' maxL))) :
    MetFree l y (head1 (Jvm.Cond.code y bytes maxL ret :: ws) rm) (fun a U => a = as' ∧ Z.Warmed39 U.vm ∧ U.heap = h0) (fun _ _ _ _ _ => True) (fun _ U o U' => ∃ v L, o = .returned v ∧ Q v U'.heap L ∧ ReturnedEndW U o U' L rm.cells rm.slots) := by
  refine MetFree.of_bodySF hpl hisR ?_
  intro p e s m args below meth c s₁ Bd hml0 hP hK
  obtain ⟨rfl, hZ, hh⟩ := hP
  have hnm := (name_of_methodNamed Bd.named Bd.method).1
  have X0 := Stand.of_body Bd
  exact body p e s m below meth c s₁ (fun U => ∃ s₂ o, Steps p.tables e below U s₂ ∧ s₂.status = .running ∧ Ended s₂ below o ∧ ∃ v L, o = .returned v ∧ Q v s₂.heap L ∧ ReturnedEndW s o s₂ L rm.cells rm.slots)
    s.vm h0.size Bd.exec Bd.bytes hml0 hZ (findClass_of_methodNamed Bd.named) hnm Bd.returns ((State.WarmedH.refl s).since _) (Nat.le_refl _) X0 (by rw [← hh, Bd.state]; rfl)
    (fun U' U h k => by obtain ⟨s₂, o, h1, h2⟩ := k; exact ⟨s₂, o, h _ h1, h2⟩)
    (fun {U T locs cells slots v vm1 k1} X hS hk hv hQ hc hs hst => by
      obtain ⟨fs, hr, hrun, hended, hE⟩ := X.leaveW hS hk (v := v) (fun h => hv (by rw [← Bd.returns]; exact h))
      exact ⟨_, _, hst fs hr, hrun, hended, v, locs, rfl, hQ, hE.1, hE.2.1, hE.2.2.1, hE.2.2.2.mono hc hs⟩)
abbrev nM0 : MethodName := (⟨"java/lang/String", "isLatin1", "()Z"⟩ : MethodName)
abbrev nM1 : MethodName := (⟨"jdk/internal/util/Preconditions", "checkIndex", "(IILjava/util/function/BiFunction;)I"⟩ : MethodName)
abbrev nM2 : MethodName := (⟨"java/lang/String", "checkIndex", "(II)V"⟩ : MethodName)
abbrev nM3 : MethodName := (⟨"java/lang/StringLatin1", "charAt", "([BI)C"⟩ : MethodName)
abbrev nM4 : MethodName := (⟨"java/lang/StringUTF16", "length", "([B)I"⟩ : MethodName)
abbrev nM5 : MethodName := (⟨"java/lang/StringUTF16", "checkIndex", "(I[B)V"⟩ : MethodName)
abbrev nM6 : MethodName := (⟨"java/lang/StringUTF16", "getChar", "([BI)C"⟩ : MethodName)
abbrev nM7 : MethodName := (⟨"java/lang/StringUTF16", "charAt", "([BI)C"⟩ : MethodName)
abbrev nM8 : MethodName := (⟨"java/lang/String", "charAt", "(I)C"⟩ : MethodName)
abbrev nM9 : MethodName := (⟨"java/lang/String", "coder", "()B"⟩ : MethodName)
abbrev nM10 : MethodName := (⟨"java/lang/String", "length", "()I"⟩ : MethodName)
abbrev nM11 : MethodName := (⟨"org/vouchsafe/Dom", "isXmlSpace", "(C)Z"⟩ : MethodName)
abbrev nM12 : MethodName := (⟨"java/util/Arrays", "checkLength", "(II)V"⟩ : MethodName)
abbrev nM13 : MethodName := (⟨"java/lang/Math", "min", "(II)I"⟩ : MethodName)
abbrev nM14 : MethodName := (⟨"java/util/Arrays", "copyOfRangeByte", "([BII)[B"⟩ : MethodName)
abbrev nM15 : MethodName := (⟨"java/util/Arrays", "copyOfRange", "([BII)[B"⟩ : MethodName)
abbrev nM16 : MethodName := (⟨"jdk/internal/util/Preconditions", "checkFromIndexSize", "(IIILjava/util/function/BiFunction;)I"⟩ : MethodName)
abbrev nM17 : MethodName := (⟨"java/lang/String", "checkBoundsOffCount", "(III)I"⟩ : MethodName)
abbrev nM18 : MethodName := (⟨"java/lang/StringUTF16", "checkBoundsOffCount", "(II[B)V"⟩ : MethodName)
abbrev nM19 : MethodName := (⟨"java/lang/StringUTF16", "compress", "([BI[BII)I"⟩ : MethodName)
abbrev nM20 : MethodName := (⟨"java/lang/StringUTF16", "newBytesLength", "(I)I"⟩ : MethodName)
abbrev nM21 : MethodName := (⟨"java/lang/StringUTF16", "compress", "([BII)[B"⟩ : MethodName)
abbrev nM22 : MethodName := (⟨"java/lang/StringUTF16", "coderFromArrayLen", "([BI)B"⟩ : MethodName)
abbrev nM23 : MethodName := (⟨"java/lang/String", "<init>", "([BB)V"⟩ : MethodName)
abbrev nM24 : MethodName := (⟨"java/lang/StringUTF16", "newString", "([BII)Ljava/lang/String;"⟩ : MethodName)
abbrev nM25 : MethodName := (⟨"java/lang/StringLatin1", "newString", "([BII)Ljava/lang/String;"⟩ : MethodName)
abbrev nM26 : MethodName := (⟨"jdk/internal/util/Preconditions", "checkFromToIndex", "(IIILjava/util/function/BiFunction;)I"⟩ : MethodName)
abbrev nM27 : MethodName := (⟨"java/lang/String", "checkBoundsBeginEnd", "(III)V"⟩ : MethodName)
abbrev nM28 : MethodName := (⟨"java/lang/String", "substring", "(II)Ljava/lang/String;"⟩ : MethodName)
abbrev nM29 : MethodName := (⟨"org/vouchsafe/Dom", "trimmed", "(Ljava/lang/String;)Ljava/lang/String;"⟩ : MethodName)
abbrev nM30 : MethodName := (⟨"java/lang/StringUTF16", "compress", "([CI[BII)I"⟩ : MethodName)
abbrev nM31 : MethodName := (⟨"java/lang/StringUTF16", "putChar", "([BII)V"⟩ : MethodName)
abbrev nM32 : MethodName := (⟨"java/lang/StringUTF16", "newBytesFor", "(I)[B"⟩ : MethodName)
abbrev nM33 : MethodName := (⟨"java/lang/StringUTF16", "toBytes", "([CII)[B"⟩ : MethodName)
abbrev nM34 : MethodName := (⟨"java/lang/StringUTF16", "compress", "([CII)[B"⟩ : MethodName)
abbrev nM35 : MethodName := (⟨"java/lang/String", "<init>", "([CIILjava/lang/Void;)V"⟩ : MethodName)
abbrev nM36 : MethodName := (⟨"java/lang/String", "<init>", "([C)V"⟩ : MethodName)
abbrev nM37 : MethodName := (⟨"org/vouchsafe/DomTrimmedPinLaw", "make", "(I[C)Ljava/lang/String;"⟩ : MethodName)
abbrev nM38 : MethodName := (⟨"org/vouchsafe/DomTrimmedPinLaw", "draw", "(I)C"⟩ : MethodName)
abbrev nM39 : MethodName := (⟨"org/vouchsafe/DomTrimmedPinLaw", "sp", "(C)Z"⟩ : MethodName)
abbrev nM40 : MethodName := (⟨"org/vouchsafe/DomTrimmedPinLaw", "same", "(Ljava/lang/String;I[CI)Z"⟩ : MethodName)
abbrev nM41 : MethodName := (⟨"java/lang/Math", "max", "(II)I"⟩ : MethodName)
theorem own_fin {z : Int32} (h : z = 1) : some (Value.int (nar .boolean z)) = some (.int 1) := by subst h; rfl
theorem own_and3 (p : Int32) : p &&& 3 = 0 ∨ p &&& 3 = 1 ∨ p &&& 3 = 2 ∨ p &&& 3 = 3 := by
  have h := c_mask p 3 2 (by decide) (by decide)
  have h4 : (p &&& 3).toInt = 0 ∨ (p &&& 3).toInt = 1 ∨ (p &&& 3).toInt = 2 ∨ (p &&& 3).toInt = 3 := by omega
  rcases h4 with h | h | h | h
  · exact Or.inl (Int32.toInt_inj.mp h)
  · exact Or.inr (Or.inl (Int32.toInt_inj.mp h))
  · exact Or.inr (Or.inr (Or.inl (Int32.toInt_inj.mp h)))
  · exact Or.inr (Or.inr (Or.inr (Int32.toInt_inj.mp h)))
theorem own_eqi {args : Array Value} {s : State} {t : Term} {n : Int32} (h : (Jvm.Cond.eq t (.int n)).value args s none s [] = some true) : t.eval args s none [] s = some (.int n) := by
  simp only [Cond.value, Term.eval] at h
  cases ht : t.eval args s none [] s with
  | none => simp [ht] at h
  | some x => cases x <;> simp [ht] at h ⊢; exact h
theorem own_irr {x : Int32} : ¬ (x < x) := by rw [Int32.lt_iff_toInt_lt]; omega
theorem own_selP {args : Array Value} {s : State} {y : MethodName} {k : Nat} (hinst : (Jvm.Cond.instanceMethod y).before args s = true) (hi : (Jvm.Cond.instantiable y.cls k).before args s = true) (hp : s.PrivateAt y) (hy : y.cls ≠ "java/lang/invoke/MethodHandle" ∧ y.cls ≠ "java/lang/invoke/VarHandle") : (Jvm.Cond.selects y.cls y y).before args s = true := by
  obtain ⟨m, meth, hn, hm, -, -⟩ := Cond.instanceMethod_spec hinst
  obtain ⟨c, kk, h1, h2, -, h4, -⟩ := Cond.instantiable_spec hi
  have hf := State.methodFound?_of_named hn hy
  have hc := findClass_of_methodNamed hn
  cases h1.symm.trans hc
  have hs := selectMethod_private (p := {}) (c := m.cls) hm (hp m meth hn hm)
  have h5 : kk.isInterface = false := by simp only [Bool.or_eq_false_iff] at h4; exact h4.1
  simp [Cond.before, Cond.holds, Cond.value, hc, hf, hn, hs, h2, h5]
theorem own_add0 (x : Int32) : x = (x + (0 : Int32)) := (Int32.add_zero x).symm
theorem own_nn (x y : Int32) (h : (x &&& (2147483647 : Int32)) = y) : ¬ (y < (0 : Int32)) := by
  subst h
  have h := c_mask x 2147483647 31 (by decide) (by decide)
  rw [Int32.lt_iff_toInt_lt]
  have e : (0 : Int32).toInt = 0 := by decide
  omega
theorem own_255 (x y : Int32) (h : ((x &&& (255 : Int32)).toUInt32.toUInt16.toUInt32.toInt32) = y) : ¬ ((255 : Int32) < y) := by
  subst h
  have h := c_mask x 255 8 (by decide) (by decide)
  have h2 := c_i2c (x &&& 255)
  rw [Int32.lt_iff_toInt_lt]
  have e : (255 : Int32).toInt = 255 := by decide
  omega
theorem own_exaP {Z : State} {h : Heap} {a : Addr} {C : String} (F : Exa Z h a C) : ∀ cell : Cell, h[a]? = some cell → cell.vm.isStatics = false := fun cell q => by
  obtain ⟨c', _, h1, -, -, h4, -⟩ := F
  cases h1.symm.trans q
  exact h4
theorem own_arvP {Z : State} {h : Heap} {a : Addr} {k : ClassId} {ty : FieldType} {z : Int32} {vs : List Value} {dv : Value} (F : Arv Z h a k ty z vs dv) : ∀ cell : Cell, h[a]? = some cell → cell.vm.isStatics = false := fun cell q => by
  obtain ⟨c', A, -⟩ := F
  cases A.1.symm.trans q
  exact A.plain
theorem own_staK {Z : State} {h h' : Heap} {ws : List Addr} {C n d : String} {v : Value} (F : Sta Z h C n d v) (K : Keep h h' ws) (q : ∀ x ∈ ws, ∀ cell : Cell, h[x]? = some cell → cell.vm.isStatics = false) : Sta Z h' C n d v := by
  obtain ⟨cf, i, k, f, st, cell, h1, h2, h3, h4, h5, h6, h7⟩ := F
  exact ⟨cf, i, k, f, st, cell, h1, h2, h3, h4, K.2.1 st cell h5 (fun hm => by rw [q st hm cell h5] at h6; cases h6), h6, h7⟩
theorem own_arr0 {args : Array Value} {s : State} {t : Term} {a : Addr} {ty : FieldType} {dv : Value} (hf : Fit s) (ev : t.eval args s none [] s = some (.ref a)) (hA : (Jvm.Cond.arrayOf t ty).value args s none s [] = some true) (hl : (Jvm.Cond.eq (.length t) (.int 0)).value args s none s [] = some true) : ∃ k, Arv s s.heap a k ty 0 [] dv := by
  obtain ⟨c, A⟩ := Arr.start ev hA
  have h0 := own_eqi hl
  obtain ⟨a', cell, e1, e2, e3⟩ := Term.length_spec h0
  cases ev.symm.trans e1
  have e4 : s.arrayAt? a = some c := Arr.fin (U := s) (Vm.Alike.refl _) A
  cases e4.symm.trans e2
  have hq : c.slots.size < 2 ^ 31 := by
    by_cases q : c.slots.size < 2 ^ 31
    · exact q
    · simp [Term.eval, ev, e4, q] at h0
  have e5 : c.slots.size.toInt32 = 0 := by injection e3 with e; exact e.symm
  exact ⟨_, Arv.start hf A hq e5 (by decide) rfl trivial⟩
theorem own_255n (x y : Int32) (h : ((x &&& (255 : Int32)).toUInt32.toUInt16.toUInt32.toInt32) = y) : ¬ ((255 : Int32) < (nar .char y)) := by
  have h1 := own_255 x y h
  have h0 := (c_i2c (x &&& 255)).2.1
  rw [h] at h0
  have h2 : (nar .char y).toInt = (y.toUInt32.toUInt16.toUInt32.toInt32).toInt := rfl
  have h3 := c_i2c y
  rw [Int32.lt_iff_toInt_lt] at *
  have e : (255 : Int32).toInt = 255 := by decide
  omega
theorem own_tri (a b : Int64) : (a < b ∧ ¬ a = b ∧ ¬ b = a ∧ ¬ b < a) ∨ (¬ a < b ∧ a = b ∧ b = a ∧ ¬ b < a) ∨ (¬ a < b ∧ ¬ a = b ∧ ¬ b = a ∧ b < a) := by
  simp only [Int64.lt_iff_toInt_lt, ← Int64.toInt_inj]
  omega
def own_ap {α β : Type} (e : α) (F : α → β) : β := F e
theorem own_let {α β : Type} {z e : α} {F : α → β} {g : β} (h : z = e) (k : g = F z) : g = own_ap e F := by subst h; exact k
theorem own_notFace {args : Array Value} {s : State} {y z : MethodName} {K : String} (hsel : (Jvm.Cond.selects K z z).before args s = true) (hz : z.cls = y.cls) : NotFace s y := fun r0 h0 => by
  obtain ⟨c2, r2, m2, q1, q2, q3, q4, kP, hkP, hkPi⟩ := Cond.selects_spec hsel
  have hc := findClass_of_methodNamed h0
  have hc2 := findClass_of_methodNamed q3
  rw [hz] at hc2
  have e := Option.some.inj (hc.symm.trans hc2)
  exact ⟨kP, by rw [e]; exact hkP, hkPi⟩
theorem own_selP2 {args : Array Value} {s : State} {y : MethodName} {K : String} (hsel : (Jvm.Cond.selects K y y).before args s = true) (hinst : (Jvm.Cond.instanceMethod y).before args s = true) (hp : s.PrivateAt y) (hy : y.cls ≠ "java/lang/invoke/MethodHandle" ∧ y.cls ≠ "java/lang/invoke/VarHandle") : (Jvm.Cond.selects y.cls y y).before args s = true := by
  obtain ⟨m, meth, hn, hm, -, -⟩ := Cond.instanceMethod_spec hinst
  obtain ⟨c2, r2, m2, q1, q2, q3, q4, kP, hkP, hkPi⟩ := Cond.selects_spec hsel
  cases hn.symm.trans q3
  have hf := State.methodFound?_of_named hn hy
  have hc := findClass_of_methodNamed hn
  have hs := selectMethod_private (p := {}) (c := m.cls) hm (hp m meth hn hm)
  simp [Cond.before, Cond.holds, Cond.value, hc, hf, hn, hs, hkP, hkPi]
theorem own_same {args : Array Value} {s : State} {y z : MethodName} {K : String} (hd : (Jvm.Cond.declares y).before args s = true) (hsel : (Jvm.Cond.selects K z z).before args s = true) (hz : z.cls = y.cls) (hy : y.cls ≠ "java/lang/invoke/MethodHandle" ∧ y.cls ≠ "java/lang/invoke/VarHandle") : (Jvm.Cond.sameMethod y.cls y.cls y.name y.desc).before args s = true := by
  obtain ⟨m, meth, hn, hm, -, -⟩ := Cond.declares_spec hd
  obtain ⟨c2, r2, m2, q1, q2, q3, q4, kP, hkP, hkPi⟩ := Cond.selects_spec hsel
  have hf := State.methodFound?_of_named hn hy
  have hc := findClass_of_methodNamed hn
  have hc2 := findClass_of_methodNamed q3
  rw [hz] at hc2
  have e := Option.some.inj (hc.symm.trans hc2)
  rw [← e] at hkP
  have hn' : s.methodNamed? ⟨y.cls, y.name, y.desc⟩ = some m := hn
  simp [Cond.before, Cond.holds, Cond.value, hc, hf, hn', hkP, hkPi]
/-- a body that interns and READS String constants of EL on its way -/
theorem own_bodyH {l : Launch} {Z : State} {a0 : Array Value} {EL : List (String × Nat)} {y : MethodName} {bytes : ByteArray} {maxL : Nat} {ret : Option FieldType} {ws : List Jvm.Cond} {rm : Room} {as' : Array Value} {h0 : Heap} {Q : Option Value → Heap → List Loc → Prop} (hEL : EW Z a0 EL) (hpl : plainFor y = true)
    (body : ∀ (p : Program) (e : Env) (s : State) (m : MethodId) (below : List Frame) (meth : Method) (c : Code) (s₁ : State) (G : State → Prop) (vm0 : Vm) (k0 : Nat),
      p.tables.exec = Jvm.exec → c.code = bytes → c.maxLocals = maxL → Z.Warmed39 vm0 → vm0.findClass y.cls = some m.cls → meth.name = y.name → meth.sig.returnType = ret → s.Since vm0 k0 → k0 ≤ h0.size → CHv Z EL vm0 h0 →
      Stand p l e rm (s.setVm vm0) m as' below meth c s₁ [] 0 0 → s₁.heap = h0 →
      (∀ (U' : State) {U : State}, (∀ t, Steps p.tables e below U' t → Steps p.tables e below U t) → G U' → G U) →
      (∀ {U T : State} {locs : List Loc} {cells slots : Nat} {v : Option Value} {vm1 : Vm} {k1 : Nat}, Stand p l e rm (s.setVm vm1) m as' below meth c T locs cells slots → s.Since vm1 k1 → k1 ≤ T.heap.size → Z.Warmed39 vm1 → CHr Z EL vm0 h0 vm1 T.heap → (ret = none → v = none) → Q v T.heap locs → cells ≤ rm.cells → slots ≤ rm.slots →
        (∀ fs, (∀ (f : JFrame) (acts : List Action), f.method = m → f.locked = none → f.entered = [] → (doReturn e (T.setTop f) acts v).1 = T.setFrames fs) → Steps p.tables e below U (T.setFrames fs)) → G U) →
      G (s₁.setTop (entryFrame m as' maxL))) :
    MetFree l y (head1 (Jvm.Cond.code y bytes maxL ret :: ws) rm) (fun a U => a = as' ∧ Z.Warmed39 U.vm ∧ U.heap = h0 ∧ CHv Z EL U.vm h0) (fun _ _ _ _ _ => True) (fun _ U o U' => ∃ v L, o = .returned v ∧ Q v U'.heap L ∧ CHr Z EL U.vm U.heap U'.vm U'.heap ∧ ReturnedEndW U o U' L rm.cells rm.slots) := by
  refine MetFree.of_bodySF hpl hisR ?_
  intro p e s m args below meth c s₁ Bd hml0 hP hK
  obtain ⟨rfl, hZ, hh, hCH⟩ := hP
  have hnm := (name_of_methodNamed Bd.named Bd.method).1
  have X0 := Stand.of_body Bd
  exact body p e s m below meth c s₁ (fun U => ∃ s₂ o, Steps p.tables e below U s₂ ∧ s₂.status = .running ∧ Ended s₂ below o ∧ ∃ v L, o = .returned v ∧ Q v s₂.heap L ∧ CHr Z EL s.vm s.heap s₂.vm s₂.heap ∧ ReturnedEndW s o s₂ L rm.cells rm.slots)
    s.vm h0.size Bd.exec Bd.bytes hml0 hZ (findClass_of_methodNamed Bd.named) hnm Bd.returns ((State.WarmedH.refl s).since _) (Nat.le_refl _) hCH X0 (by rw [← hh, Bd.state]; rfl)
    (fun U' U h k => by obtain ⟨s₂, o, h1, h2⟩ := k; exact ⟨s₂, o, h _ h1, h2⟩)
    (fun {U T locs cells slots v vm1 k1} X hS hk hZ1 hC hv hQ hc hs hst => by
      obtain ⟨fs, hr, hrun, hended, hE⟩ := X.leaveW hS hk (v := v) (fun h => hv (by rw [← Bd.returns]; exact h))
      refine ⟨_, _, hst fs hr, hrun, hended, v, locs, rfl, hQ, ?_, hE.1, hE.2.1, hE.2.2.1, hE.2.2.2.mono hc hs⟩
      have q := hC.trans (CHv.at X hZ1 hEL hC.1)
      rw [hh]
      exact q)
abbrev OwnM (l : Launch) (Z : State) (y : MethodName) (bytes : ByteArray) (maxL : Nat) (ret : Option FieldType) (ws : List Jvm.Cond) (rm : Room) (as' : Array Value) (h0 : Heap) (Q : Option Value → Heap → List Loc → Prop) : Prop :=
  MetFree l y (head1 (Jvm.Cond.code y bytes maxL ret :: ws) rm) (fun a U => a = as' ∧ Z.Warmed39 U.vm ∧ U.heap = h0) (fun _ _ _ _ _ => True) (fun _ U o U' => ∃ v L, o = .returned v ∧ Q v U'.heap L ∧ FrameEnd U o U' L rm.cells rm.slots)
abbrev OwnMS (l : Launch) (Z : State) (y : MethodName) (bytes : ByteArray) (maxL : Nat) (ret : Option FieldType) (ws : List Jvm.Cond) (rm : Room) (as' : Array Value) (h0 : Heap) (Q : Option Value → Heap → List Loc → Prop) : Prop :=
  MetFree l y (head1 (Jvm.Cond.code y bytes maxL ret :: ws) rm) (fun a U => a = as' ∧ Z.Warmed39 U.vm ∧ U.heap = h0) (fun _ _ _ _ _ => True) (fun _ U o U' => ∃ v L, o = .returned v ∧ Q v U'.heap L ∧ ReturnedEndW U o U' L rm.cells rm.slots)
abbrev OwnMH (l : Launch) (Z : State) (y : MethodName) (bytes : ByteArray) (maxL : Nat) (ret : Option FieldType) (ws : List Jvm.Cond) (rm : Room) (as' : Array Value) (h0 : Heap) (EL : List (String × Nat)) (Q : Option Value → Heap → List Loc → Prop) : Prop :=
  MetFree l y (head1 (Jvm.Cond.code y bytes maxL ret :: ws) rm) (fun a U => a = as' ∧ Z.Warmed39 U.vm ∧ U.heap = h0 ∧ CHv Z EL U.vm h0) (fun _ _ _ _ _ => True) (fun _ U o U' => ∃ v L, o = .returned v ∧ Q v U'.heap L ∧ CHr Z EL U.vm U.heap U'.vm U'.heap ∧ ReturnedEndW U o U' L rm.cells rm.slots)
theorem ow {Z : State} {a0 : Array Value} (hw : ∀ d ∈ tables_1, d.before a0 Z = true) (i : Nat) {d : Jvm.Cond} (h : tables_1[i]? = some d) : d.before a0 Z = true := hw d (List.mem_of_getElem? h)
theorem omw {a b W : Nat} (h : a = 0) (k : b = W) : 2 * a + b ≤ W := by subst h; omega
abbrev vr (a : Addr) : Slot := .val (.ref a)
abbrev vi (a : Int32) : Slot := .val (.int a)
/-- what every step of a walk asks -/
def OwnK (p : Program) (e : Env) (below : List Frame) (c : Code) (bytes : ByteArray) (G : State → Prop) : Prop :=
  (∀ (U' : State) {U : State}, (∀ t, Steps p.tables e below U' t → Steps p.tables e below U t) → G U' → G U) ∧ p.tables.exec = Jvm.exec ∧ c.code = bytes
section Short
variable {p : Program} {l : Launch} {e : Env} {R : Room} {s : State} {m : MethodId} {args : Array Value} {below : List Frame} {meth : Method} {c : Code} {T : State} {locs : List Loc} {cells slots : Nat} {bytes : ByteArray} {G : State → Prop} {pc : Nat} {Ls : Array Slot} {st rest : List Value}
theorem oal (K : OwnK p e below c bytes G) (X : Stand p l e R s m args below meth c T locs cells slots) {i : Fin 4} (hd : decode bytes pc = .ok (.aload_n i, 1)) (v : Value) (pc' : Nat) (hp : pc' = pc + 1) (hv : Ls[i.1]? = some (.val v)) (hr : v.isRef = true) (k : G (T.setTop (mkF m pc' Ls (v :: st)))) : G (T.setTop (mkF m pc Ls st)) := by
  subst hp; exact K.1 _ (fun t k => XS.aloadN X.here K.2.1 rfl (hb K.2.2 hd) hv hr k) k
theorem oaL (K : OwnK p e below c bytes G) (X : Stand p l e R s m args below meth c T locs cells slots) {i : Nat} (hd : decode bytes pc = .ok (.aload i, 2)) (v : Value) (pc' : Nat) (hp : pc' = pc + 2) (hv : Ls[i]? = some (.val v)) (hr : v.isRef = true) (k : G (T.setTop (mkF m pc' Ls (v :: st)))) : G (T.setTop (mkF m pc Ls st)) := by
  subst hp; exact K.1 _ (fun t k => XS.aload X.here K.2.1 rfl (hb K.2.2 hd) hv hr k) k
theorem oil (K : OwnK p e below c bytes G) (X : Stand p l e R s m args below meth c T locs cells slots) {i : Fin 4} (hd : decode bytes pc = .ok (.iload_n i, 1)) (v : Int32) (pc' : Nat) (hp : pc' = pc + 1) (hv : Ls[i.1]? = some (vi v)) (k : G (T.setTop (mkF m pc' Ls (.int v :: st)))) : G (T.setTop (mkF m pc Ls st)) := by
  subst hp; exact K.1 _ (fun t k => XS.iloadN X.here K.2.1 rfl (hb K.2.2 hd) hv k) k
theorem oiL (K : OwnK p e below c bytes G) (X : Stand p l e R s m args below meth c T locs cells slots) {i : Nat} (hd : decode bytes pc = .ok (.iload i, 2)) (v : Int32) (pc' : Nat) (hp : pc' = pc + 2) (hv : Ls[i]? = some (vi v)) (k : G (T.setTop (mkF m pc' Ls (.int v :: st)))) : G (T.setTop (mkF m pc Ls st)) := by
  subst hp; exact K.1 _ (fun t k => XS.iload X.here K.2.1 rfl (hb K.2.2 hd) hv k) k
theorem oic (K : OwnK p e below c bytes G) (X : Stand p l e R s m args below meth c T locs cells slots) {i : Int} (hd : decode bytes pc = .ok (.iconst i, 1)) (v : Int32) (pc' : Nat) (hp : pc' = pc + 1) (hv : Int32.ofInt i = v) (k : G (T.setTop (mkF m pc' Ls (.int v :: st)))) : G (T.setTop (mkF m pc Ls st)) := by
  subst hp hv; exact K.1 _ (fun t k => XS.iconst X.here K.2.1 rfl (hb K.2.2 hd) k) k
theorem obi (K : OwnK p e below c bytes G) (X : Stand p l e R s m args below meth c T locs cells slots) {i : Int} (hd : decode bytes pc = .ok (.bipush i, 2)) (v : Int32) (pc' : Nat) (hp : pc' = pc + 2) (hv : (Int8.ofInt i).toInt32 = v) (k : G (T.setTop (mkF m pc' Ls (.int v :: st)))) : G (T.setTop (mkF m pc Ls st)) := by
  subst hp hv; exact K.1 _ (fun t k => XS.bipush X.here K.2.1 rfl (hb K.2.2 hd) k) k
theorem osi (K : OwnK p e below c bytes G) (X : Stand p l e R s m args below meth c T locs cells slots) {i : Int} (hd : decode bytes pc = .ok (.sipush i, 3)) (v : Int32) (pc' : Nat) (hp : pc' = pc + 3) (hv : (Int16.ofInt i).toInt32 = v) (k : G (T.setTop (mkF m pc' Ls (.int v :: st)))) : G (T.setTop (mkF m pc Ls st)) := by
  subst hp hv; exact K.1 _ (fun t k => XS.sipush X.here K.2.1 rfl (hb K.2.2 hd) k) k
theorem odu (K : OwnK p e below c bytes G) (X : Stand p l e R s m args below meth c T locs cells slots) (hd : decode bytes pc = .ok (.dup, 1)) {v : Value} (pc' : Nat) (hp : pc' = pc + 1) (hv : v.category = 1) (k : G (T.setTop (mkF m pc' Ls (v :: v :: st)))) : G (T.setTop (mkF m pc Ls (v :: st))) := by
  subst hp; exact K.1 _ (fun t k => XS.dup X.here K.2.1 rfl (hb K.2.2 hd) rfl hv k) k
theorem ogo (K : OwnK p e below c bytes G) (X : Stand p l e R s m args below meth c T locs cells slots) {o : Int} (hd : decode bytes pc = .ok (.goto o, 3)) (pc' : Nat) (h0 : 0 ≤ (pc : Int) + o) (hp : ((pc : Int) + o).toNat = pc') (k : G (T.setTop (mkF m pc' Ls st))) : G (T.setTop (mkF m pc Ls st)) :=
  K.1 _ (fun t k => XS.goto X.here K.2.1 rfl (pc0 := pc) rfl (hb K.2.2 hd) h0 hp k) k
theorem oii (K : OwnK p e below c bytes G) (X : Stand p l e R s m args below meth c T locs cells slots) {i : Nat} {cst : Int} {x : Int32} (hd : decode bytes pc = .ok (.iinc i cst, 3)) (L' : Array Slot) (pc' : Nat) (hp : pc' = pc + 3) (hv : Ls[i]? = some (vi x)) (hl : storeLocals Ls i (.int (x + Int32.ofInt cst)) = some L') (k : G (T.setTop (mkF m pc' L' st))) : G (T.setTop (mkF m pc Ls st)) := by
  subst hp; exact K.1 _ (fun t k => XS.iinc X.here K.2.1 rfl (hb K.2.2 hd) hv hl k) k
theorem ois (K : OwnK p e below c bytes G) (X : Stand p l e R s m args below meth c T locs cells slots) {i : Fin 4} {x : Int32} (hd : decode bytes pc = .ok (.istore_n i, 1)) (L' : Array Slot) (pc' : Nat) (hp : pc' = pc + 1) (hl : storeLocals Ls i.1 (.int x) = some L') (k : G (T.setTop (mkF m pc' L' st))) : G (T.setTop (mkF m pc Ls (.int x :: st))) := by
  subst hp; exact K.1 _ (fun t k => XS.istoreN X.here K.2.1 rfl (hb K.2.2 hd) rfl hl k) k
theorem oiS (K : OwnK p e below c bytes G) (X : Stand p l e R s m args below meth c T locs cells slots) {i : Nat} {x : Int32} (hd : decode bytes pc = .ok (.istore i, 2)) (L' : Array Slot) (pc' : Nat) (hp : pc' = pc + 2) (hl : storeLocals Ls i (.int x) = some L') (k : G (T.setTop (mkF m pc' L' st))) : G (T.setTop (mkF m pc Ls (.int x :: st))) := by
  subst hp; exact K.1 _ (fun t k => XS.istore X.here K.2.1 rfl (hb K.2.2 hd) rfl hl k) k
theorem oin (K : OwnK p e below c bytes G) (X : Stand p l e R s m args below meth c T locs cells slots) {cd : ClassFile.Cond} {o : Int} {x y : Int32} (hd : decode bytes pc = .ok (.if_icmp cd o, 3)) (pc' : Nat) (hp : pc' = pc + 3) (hh : if_icmp.holds cd x y = false) (k : G (T.setTop (mkF m pc' Ls st))) : G (T.setTop (mkF m pc Ls (.int y :: .int x :: st))) := by
  subst hp; exact K.1 _ (fun t k => XS.icmpNo X.here K.2.1 rfl (hb K.2.2 hd) rfl hh k) k
theorem oiy (K : OwnK p e below c bytes G) (X : Stand p l e R s m args below meth c T locs cells slots) {cd : ClassFile.Cond} {o : Int} {x y : Int32} (hd : decode bytes pc = .ok (.if_icmp cd o, 3)) (pc' : Nat) (hh : if_icmp.holds cd x y = true) (h0 : 0 ≤ (pc : Int) + o) (hp : ((pc : Int) + o).toNat = pc') (k : G (T.setTop (mkF m pc' Ls st))) : G (T.setTop (mkF m pc Ls (.int y :: .int x :: st))) :=
  K.1 _ (fun t k => XS.icmpYes X.here K.2.1 rfl (pc0 := pc) rfl (hb K.2.2 hd) rfl hh h0 hp k) k
end Short
theorem own_getD (xs : List Int32) (n : Nat) (d : Int32) : (xs.map Value.int).getD n (.int d) = .int (xs.getD n d) := by
  simp only [List.getD_eq_getElem?_getD, List.getElem?_map]
  cases xs[n]? <;> rfl
/-- a store just behind the list's end -/
theorem own_push {Z : State} {h h' : Heap} {a : Addr} {k : ClassId} {ty : FieldType} {z j v d : Int32} {xs : List Int32} {c : Cell} (A : Arr Z h a c ty) (q1 : c.cls = k) (S : c.slots.size = z.toNatClampNeg) (q3 : ¬ z < 0) (H : Has c (xs.map Value.int) (.int d)) (G : ∀ i, i < c.slots.size → fits ty ((xs.map Value.int).getD i (.int d)) = true) (hv : fits ty (.int v) = true) (W : Wr h h' a j.toNatClampNeg (.int v)) (hj : j.toNatClampNeg = xs.length) : Arv Z h' a k ty z ((xs ++ [v]).map Value.int) (.int d) := by
  have F : Arv Z h a k ty z (xs.map Value.int ++ List.replicate 1 (.int d)) (.int d) := Arv.pad ⟨c, A, q1, S, q3, H, G⟩ (pad_rep _ _ 1)
  obtain ⟨c2, A2, p1, S2, p3, H2, G2⟩ := F
  have e : c2 = c := Option.some.inj (A2.1.symm.trans A.1)
  subst e
  have r := Arv.set A2 p1 S2 p3 H2 G2 hv W xs.length hj (by rw [List.length_append, List.length_map]; exact Nat.lt_succ_self _)
  have e2 : (xs.map Value.int ++ List.replicate 1 (Value.int d)).set xs.length (.int v) = (xs ++ [v]).map Value.int := by
    rw [List.set_append_right _ _ (by rw [List.length_map]; exact Nat.le_refl _), List.length_map, Nat.sub_self, List.map_append]
    rfl
  rw [e2] at r
  exact r
def own_lo (c : Int32) : Int32 := nar .byte (c.toInt8.toInt32)
def own_b0 (c : Int32) : Int32 := nar .byte ((c >>> ((0 : Int32) &&& 31)).toInt8.toInt32)
def own_b1 (c : Int32) : Int32 := nar .byte ((c >>> ((8 : Int32) &&& 31)).toInt8.toInt32)
def own_u : List Int32 → List Int32
  | [] => []
  | c :: r => own_b0 c :: own_b1 c :: own_u r
/-- what a String of the chars xs (n of them) is laid out as: its coder, its array's length and bytes -/
def OS (xs : List Int32) (n co N : Int32) (bs : List Int32) : Prop :=
  n.toInt = xs.length ∧ xs.length ≤ 5 ∧ (∀ c ∈ xs, 0 ≤ c.toInt ∧ c.toInt < 65536) ∧
    ((0 = co ∧ n = N ∧ (∀ c ∈ xs, c.toInt ≤ 255) ∧ xs.map own_lo = bs) ∨ (1 = co ∧ N.toInt = 2 * xs.length ∧ (∃ c ∈ xs, 255 < c.toInt) ∧ own_u xs = bs))
theorem own_of {x : Int32} {k : Nat} (h : x.toInt = k) (hk : k < 1000000) : x = Int32.ofNat k := Int32.toInt_inj.mp (by rw [h, Int32.toInt_ofNat_small (by omega)])
theorem own_tnc (k : Nat) (hk : k < 1000000) : (Int32.ofNat k).toNatClampNeg = k := by
  show (Int32.ofNat k).toInt.toNat = k
  rw [Int32.toInt_ofNat_small (by omega)]
  rfl
theorem own_nneg {i : Int32} (h : ¬ (i < (0 : Int32))) : 0 ≤ i.toInt := by
  rw [Int32.lt_iff_toInt_lt, show (0 : Int32).toInt = 0 by decide] at h
  omega
/-- a place below n, as a small number -/
theorem own_pl {i n : Int32} {m : Nat} (hi0 : ¬ (i < (0 : Int32))) (hin : i < n) (hn : n.toInt = m) (h5 : m ≤ 5) : ∃ k : Fin 5, k.1 < m ∧ i = Int32.ofNat k.1 := by
  have h0 := own_nneg hi0
  rw [Int32.lt_iff_toInt_lt] at hin
  exact ⟨⟨i.toInt.toNat, by omega⟩, by show i.toInt.toNat < m; omega, own_of (by show i.toInt = (i.toInt.toNat : Int); omega) (by show i.toInt.toNat < _; omega)⟩
theorem own_ixF : ∀ (k : Fin 5) (m : Fin 6), k.1 < m.1 → (Int32.ofNat k.1 < (Int32.ofNat (2 * m.1) >>> ((1 : Int32) &&& 31))) ∧ ¬ ((Int32.ofNat k.1 <<< ((1 : Int32) &&& 31)) < (0 : Int32)) ∧ ((Int32.ofNat k.1 <<< ((1 : Int32) &&& 31)) < Int32.ofNat (2 * m.1)) ∧ ¬ (((Int32.ofNat k.1 <<< ((1 : Int32) &&& 31)) + (1 : Int32)) < (0 : Int32)) ∧ (((Int32.ofNat k.1 <<< ((1 : Int32) &&& 31)) + (1 : Int32)) < Int32.ofNat (2 * m.1)) := by decide +kernel
theorem own_ix {i n N : Int32} {xs : List Int32} (hi0 : ¬ (i < (0 : Int32))) (hin : i < n) (hn : n.toInt = xs.length) (h5 : xs.length ≤ 5) (hN : N.toInt = 2 * xs.length) : (i < (N >>> ((1 : Int32) &&& 31))) ∧ ¬ ((i <<< ((1 : Int32) &&& 31)) < (0 : Int32)) ∧ ((i <<< ((1 : Int32) &&& 31)) < N) ∧ ¬ (((i <<< ((1 : Int32) &&& 31)) + (1 : Int32)) < (0 : Int32)) ∧ (((i <<< ((1 : Int32) &&& 31)) + (1 : Int32)) < N) := by
  obtain ⟨k, hk, rfl⟩ := own_pl hi0 hin hn h5
  obtain rfl : N = Int32.ofNat (2 * xs.length) := own_of (by rw [hN]; rfl) (by omega)
  exact own_ixF k ⟨xs.length, by omega⟩ hk
theorem own_mem {xs : List Int32} {k : Nat} (h : k < xs.length) : xs.getD k (0 : Int32) ∈ xs := by
  rw [List.getD_eq_getElem?_getD, List.getElem?_eq_getElem h]
  exact List.getElem_mem h
theorem own_chF : ∀ k : Fin 256, (nar .char (nar .char (((own_lo (Int32.ofNat k.1)) &&& (255 : Int32)).toUInt32.toUInt16.toUInt32.toInt32))) = Int32.ofNat k.1 := by decide +kernel
theorem own_loAt (xs : List Int32) {k : Nat} (h : k < xs.length) : (List.map own_lo xs).getD k (0 : Int32) = own_lo (xs.getD k (0 : Int32)) := by
  simp only [List.getD_eq_getElem?_getD, List.getElem?_map, List.getElem?_eq_getElem h]
  rfl
theorem own_uAt : ∀ (xs : List Int32) {k : Nat}, k < xs.length → (own_u xs).getD (2 * k) (0 : Int32) = own_b0 (xs.getD k (0 : Int32)) ∧ (own_u xs).getD (2 * k + 1) (0 : Int32) = own_b1 (xs.getD k (0 : Int32))
  | [], k, h => absurd h (Nat.not_lt_zero _)
  | c :: r, 0, _ => ⟨rfl, rfl⟩
  | c :: r, k + 1, h => by
    have q := own_uAt r (k := k) (by simpa using h)
    exact q
theorem own_chL {xs : List Int32} {n i : Int32} (hn : n.toInt = xs.length) (h5 : xs.length ≤ 5) (hch : ∀ c ∈ xs, 0 ≤ c.toInt ∧ c.toInt < 65536) (hl : ∀ c ∈ xs, c.toInt ≤ 255) (hi0 : ¬ (i < (0 : Int32))) (hin : i < n) : (nar .char (nar .char (((List.getD (List.map own_lo xs) (i).toNatClampNeg (0 : Int32)) &&& (255 : Int32)).toUInt32.toUInt16.toUInt32.toInt32))) = List.getD xs (i).toNatClampNeg (0 : Int32) := by
  obtain ⟨k, hk, rfl⟩ := own_pl hi0 hin hn h5
  rw [own_tnc _ (by omega), own_loAt xs hk]
  have m := own_mem hk
  have h1 := hch _ m
  have h2 := hl _ m
  generalize xs.getD k.1 (0 : Int32) = c at *
  have q := own_chF ⟨c.toInt.toNat, by omega⟩
  have e : c = Int32.ofNat c.toInt.toNat := own_of (by omega) (by omega)
  rw [← e] at q
  exact q
def own_gc (x y : Int32) : Int32 := (nar .char ((((x &&& (255 : Int32)) <<< ((0 : Int32) &&& 31)) ||| ((y &&& (255 : Int32)) <<< ((8 : Int32) &&& 31))).toUInt32.toUInt16.toUInt32.toInt32))
theorem own_or (a b : Nat) (ha : a < 256) (hb : b < 256) : ((Int32.ofNat b) ||| (Int32.ofNat (256 * a))) = Int32.ofNat (256 * a + b) := by
  apply Int32.toBitVec_inj.mp
  rw [Int32.toBitVec_or]
  apply BitVec.eq_of_toNat_eq
  show (BitVec.ofNat 32 b ||| BitVec.ofNat 32 (256 * a)).toNat = (BitVec.ofNat 32 (256 * a + b)).toNat
  rw [BitVec.toNat_or, BitVec.toNat_ofNat, BitVec.toNat_ofNat, BitVec.toNat_ofNat, Nat.mod_eq_of_lt (by omega), Nat.mod_eq_of_lt (by omega), Nat.mod_eq_of_lt (by omega)]
  have q := Nat.shiftLeft_add_eq_or_of_lt (i := 8) (b := b) hb a
  rw [Nat.shiftLeft_eq] at q
  rw [Nat.or_comm, show 256 * a = a * 2 ^ 8 by omega, q]
theorem own_bytes {c : Int32} (h : 0 ≤ c.toInt ∧ c.toInt < 65536) : (own_b0 c &&& (255 : Int32)).toInt = c.toInt % 256 ∧ (own_b1 c &&& (255 : Int32)).toInt = c.toInt / 256 := by
  have s0 := c_ishr c 0 0 (by decide)
  have s1 := c_ishr c 8 8 (by decide)
  have p0 := c_i2b (c >>> ((0 : Int32) &&& 31))
  have p1 := c_i2b (c >>> ((8 : Int32) &&& 31))
  have q0 := c_i2b ((c >>> ((0 : Int32) &&& 31)).toInt8.toInt32)
  have q1 := c_i2b ((c >>> ((8 : Int32) &&& 31)).toInt8.toInt32)
  have m0 := c_mask (own_b0 c) 255 8 (by decide) (by decide)
  have m1 := c_mask (own_b1 c) 255 8 (by decide) (by decide)
  have e0 : (own_b0 c).toInt = ((c >>> ((0 : Int32) &&& 31)).toInt8.toInt32).toInt8.toInt32.toInt := rfl
  have e1 : (own_b1 c).toInt = ((c >>> ((8 : Int32) &&& 31)).toInt8.toInt32).toInt8.toInt32.toInt := rfl
  omega
theorem own_narC {c : Int32} (h : 0 ≤ c.toInt ∧ c.toInt < 65536) : (nar .char c) = c := by
  have q := (c_i2c c)
  exact Int32.toInt_inj.mp (by show (c.toUInt32.toUInt16.toUInt32.toInt32).toInt = c.toInt; omega)
theorem own_gcc {c : Int32} (h : 0 ≤ c.toInt ∧ c.toInt < 65536) : own_gc (own_b0 c) (own_b1 c) = c := by
  obtain ⟨hx, hy⟩ := own_bytes h
  unfold own_gc
  generalize own_b0 c &&& (255 : Int32) = x at *
  generalize own_b1 c &&& (255 : Int32) = y at *
  have sx := c_ishl x 0 0 (by decide)
  have sy := c_ishl y 8 8 (by decide)
  have rx := rng32 (x <<< ((0 : Int32) &&& 31))
  have ry := rng32 (y <<< ((8 : Int32) &&& 31))
  have ex : (x <<< ((0 : Int32) &&& 31)) = Int32.ofNat (c.toInt.toNat % 256) := own_of (by omega) (by omega)
  have ey : (y <<< ((8 : Int32) &&& 31)) = Int32.ofNat (256 * (c.toInt.toNat / 256)) := own_of (by omega) (by omega)
  have ec : c = Int32.ofNat (256 * (c.toInt.toNat / 256) + c.toInt.toNat % 256) := own_of (by omega) (by omega)
  rw [ex, ey, own_or _ _ (by omega) (by omega), ← ec]
  exact (congrArg (nar .char) (own_narC h : c.toUInt32.toUInt16.toUInt32.toInt32 = c)).trans (own_narC h)
theorem own_shF : ∀ k : Fin 5, (Int32.ofNat k.1 <<< ((1 : Int32) &&& 31)) = Int32.ofNat (2 * k.1) ∧ ((Int32.ofNat k.1 <<< ((1 : Int32) &&& 31)) + (1 : Int32)) = Int32.ofNat (2 * k.1 + 1) := by decide +kernel
theorem own_chU {xs : List Int32} {n i : Int32} (hn : n.toInt = xs.length) (h5 : xs.length ≤ 5) (hch : ∀ c ∈ xs, 0 ≤ c.toInt ∧ c.toInt < 65536) (hi0 : ¬ (i < (0 : Int32))) (hin : i < n) : nar .char (nar .char (own_gc (List.getD (own_u xs) ((i <<< ((1 : Int32) &&& 31))).toNatClampNeg (0 : Int32)) (List.getD (own_u xs) (((i <<< ((1 : Int32) &&& 31)) + (1 : Int32))).toNatClampNeg (0 : Int32)))) = List.getD xs (i).toNatClampNeg (0 : Int32) := by
  obtain ⟨k, hk, rfl⟩ := own_pl hi0 hin hn h5
  obtain ⟨e1, e2⟩ := own_shF k
  rw [e2, e1, own_tnc _ (by omega), own_tnc _ (by omega), own_tnc _ (by omega), (own_uAt xs hk).1, (own_uAt xs hk).2]
  have m := hch _ (own_mem hk)
  rw [own_gcc m, own_narC m, own_narC m]
theorem own_shrF : ∀ m : Fin 6, (Int32.ofNat m.1 >>> ((nar .byte (0 : Int32)) &&& 31)) = Int32.ofNat m.1 ∧ (Int32.ofNat (2 * m.1) >>> ((nar .byte (1 : Int32)) &&& 31)) = Int32.ofNat m.1 := by decide +kernel
theorem own_lenOS {xs bs : List Int32} {n co N : Int32} (h : OS xs n co N bs) : (N >>> ((nar .byte co) &&& 31)) = n := by
  obtain ⟨hn, h5, -, ⟨rfl, rfl, -, -⟩ | ⟨rfl, hN, -, -⟩⟩ := h
  · obtain rfl : n = Int32.ofNat xs.length := own_of hn (by omega)
    exact (own_shrF ⟨xs.length, by omega⟩).1
  · obtain rfl : n = Int32.ofNat xs.length := own_of hn (by omega)
    obtain rfl : N = Int32.ofNat (2 * xs.length) := own_of (by rw [hN]; rfl) (by omega)
    exact (own_shrF ⟨xs.length, by omega⟩).2
def own_xs (c : Int32) : Int32 := if c = (32 : Int32) then (1 : Int32) else (if c = (9 : Int32) then (1 : Int32) else (if c = (13 : Int32) then (1 : Int32) else (if c = (10 : Int32) then (1 : Int32) else (0 : Int32))))
/-- where the first loop stops -/
def own_ts : Nat → List Int32 → Int32 → Int32 → Int32
  | 0, _, i, _ => i
  | k + 1, xs, i, n => if i < n then (if own_xs (List.getD xs (i).toNatClampNeg (0 : Int32)) = (0 : Int32) then i else own_ts k xs (i + (1 : Int32)) n) else i
/-- where the second loop stops -/
def own_te : Nat → List Int32 → Int32 → Int32 → Int32
  | 0, _, _, z => z
  | k + 1, xs, b, z => if b < z then (if own_xs (List.getD xs ((z - (1 : Int32))).toNatClampNeg (0 : Int32)) = (0 : Int32) then z else own_te k xs b (z + (Int32.ofInt (-1)))) else z
theorem own_l1 {i n : Int32} (h0 : ¬ (i < (0 : Int32))) (h : i < n) (h5 : n.toInt ≤ 5) : (i + (1 : Int32)).toInt = i.toInt + 1 ∧ ¬ ((i + (1 : Int32)) < (0 : Int32)) := by
  have a := c_iadd i 1
  have b := rng32 (i + 1)
  rw [show (1 : Int32).toInt = 1 by decide] at a
  rw [Int32.lt_iff_toInt_lt] at *
  rw [show (0 : Int32).toInt = 0 by decide] at *
  omega
theorem own_l2 {b z n : Int32} (h0 : 0 ≤ b.toInt) (h : b < z) (hz : z.toInt ≤ n.toInt) (h5 : n.toInt ≤ 5) : ¬ ((z - (1 : Int32)) < (0 : Int32)) ∧ (z - (1 : Int32)) < n ∧ (z + (Int32.ofInt (-1))).toInt = z.toInt - 1 := by
  rw [show Int32.ofInt (-1) = (-1 : Int32) by decide]
  have a := c_isub z 1
  have a' := rng32 (z - 1)
  have d := c_iadd z (-1)
  have d' := rng32 (z + (-1))
  rw [show (1 : Int32).toInt = 1 by decide] at a
  rw [show (-1 : Int32).toInt = -1 by decide] at d
  rw [Int32.lt_iff_toInt_lt] at *
  rw [Int32.lt_iff_toInt_lt, show (0 : Int32).toInt = 0 by decide]
  omega
theorem own_nlt {i n : Int32} (h : n.toInt ≤ i.toInt + (0 : Nat)) : ¬ i < n := by
  rw [Int32.lt_iff_toInt_lt]
  omega
theorem own_ltI {i n : Int32} (h : i < n) : i.toInt < n.toInt := by rw [Int32.lt_iff_toInt_lt] at h; exact h
def own_cut (xs : List Int32) (f z : Int32) : List Int32 := (xs.drop f.toNatClampNeg).take (z.toInt - f.toInt).toNat
theorem own_sub {f z : Int32} (h0 : 0 ≤ f.toInt) (h1 : f.toInt ≤ z.toInt) (h2 : z.toInt ≤ 10) : (z - f).toInt = z.toInt - f.toInt := by
  have a := c_isub z f
  have b := rng32 (z - f)
  omega
theorem own_tn {x : Int32} : x.toNatClampNeg = x.toInt.toNat := rfl
theorem own_minE {f z N w : Int32} (h0 : 0 ≤ f.toInt) (h1 : f.toInt ≤ z.toInt) (h2 : z.toInt ≤ N.toInt) (h3 : N.toInt ≤ 10) (hw : w = (if (z - f) < (N - f) then (z - f) else (N - f))) : w = (z - f) := by
  have a := own_sub h0 h1 (by omega)
  have b := own_sub (z := N) h0 (by omega) h3
  rw [hw]
  split
  · rfl
  · rename_i q
    rw [Int32.lt_iff_toInt_lt] at q
    exact Int32.toInt_inj.mp (by omega)
theorem own_arvC {Z : State} {h : Heap} {b : Addr} {k : ClassId} {ty : FieldType} {z' f z : Int32} {bs : List Int32} (hf : 0 ≤ f.toInt) (hn : (z - f).toInt = z.toInt - f.toInt) (hb : z.toInt ≤ bs.length) (q : Arv Z h b k ty z' (([] ++ List.replicate (z - f).toNatClampNeg (Value.int 0)).take (0 : Int32).toNatClampNeg ++ ((List.range (z - f).toNatClampNeg).map fun i => (bs.map Value.int).getD (f.toNatClampNeg + i) (.int 0)) ++ ([] ++ List.replicate (z - f).toNatClampNeg (Value.int 0)).drop ((0 : Int32).toNatClampNeg + (z - f).toNatClampNeg)) (.int 0)) : Arv Z h b k ty z' ((own_cut bs f z).map Value.int) (.int 0) := by
  have e0 : (0 : Int32).toNatClampNeg = 0 := by decide
  have e : (([] ++ List.replicate (z - f).toNatClampNeg (Value.int 0)).take (0 : Int32).toNatClampNeg ++ ((List.range (z - f).toNatClampNeg).map fun i => (bs.map Value.int).getD (f.toNatClampNeg + i) (.int 0)) ++ ([] ++ List.replicate (z - f).toNatClampNeg (Value.int 0)).drop ((0 : Int32).toNatClampNeg + (z - f).toNatClampNeg)) = (own_cut bs f z).map Value.int := by
    rw [e0, List.take_zero, List.nil_append, List.nil_append, Nat.zero_add, List.drop_eq_nil_of_le (by rw [List.length_replicate]; exact Nat.le_refl _), List.append_nil]
    apply List.ext_getElem?
    intro j
    simp only [own_cut, List.getElem?_map, List.getElem?_take, List.getElem?_drop, own_tn, hn]
    by_cases hj : j < (z.toInt - f.toInt).toNat
    · rw [List.getElem?_range hj, if_pos hj]
      have hl : f.toInt.toNat + j < bs.length := by omega
      simp only [Option.map_some, List.getD_eq_getElem?_getD, List.getElem?_map, List.getElem?_eq_getElem hl, Option.getD_some]
    · rw [if_neg hj, List.getElem?_eq_none (by rw [List.length_range]; omega)]
      rfl
  rw [e] at q
  exact q
theorem own_cutLen {xs : List Int32} {f z : Int32} (h0 : 0 ≤ f.toInt) (h1 : f.toInt ≤ z.toInt) (h2 : z.toInt ≤ xs.length) : ((own_cut xs f z).length : Int) = z.toInt - f.toInt := by
  simp only [own_cut, List.length_take, List.length_drop, own_tn]
  omega
theorem own_cutMem {xs : List Int32} {f z c : Int32} (h : c ∈ own_cut xs f z) : c ∈ xs := List.mem_of_mem_drop (List.mem_of_mem_take h)
theorem own_cutMap (g : Int32 → Int32) (xs : List Int32) (f z : Int32) : own_cut (xs.map g) f z = (own_cut xs f z).map g := by
  simp only [own_cut, List.map_drop, List.map_take]
theorem own_cutU (xs : List Int32) : ∀ (a b : Nat), ((own_u xs).drop (2 * a)).take (2 * b) = own_u ((xs.drop a).take b) := by
  induction xs with
  | nil => intro a b; simp [own_u]
  | cons c r ih =>
    intro a b
    cases a with
    | succ a => exact ih a b
    | zero =>
      cases b with
      | zero => simp [own_u]
      | succ b =>
        have q := ih 0 b
        simp only [Nat.mul_zero, List.drop_zero] at q ⊢
        show own_b0 c :: own_b1 c :: (own_u r).take (2 * b) = own_b0 c :: own_b1 c :: own_u (r.take b)
        rw [q]
theorem own_gcAt {xs : List Int32} {n i : Int32} (hn : n.toInt = xs.length) (h5 : xs.length ≤ 5) (hch : ∀ c ∈ xs, 0 ≤ c.toInt ∧ c.toInt < 65536) (hi0 : ¬ (i < (0 : Int32))) (hin : i < n) : (own_gc (List.getD (own_u xs) ((i <<< ((1 : Int32) &&& 31))).toNatClampNeg (0 : Int32)) (List.getD (own_u xs) (((i <<< ((1 : Int32) &&& 31)) + (1 : Int32))).toNatClampNeg (0 : Int32))) = List.getD xs (i).toNatClampNeg (0 : Int32) := by
  obtain ⟨k, hk, rfl⟩ := own_pl hi0 hin hn h5
  obtain ⟨e1, e2⟩ := own_shF k
  rw [e2, e1, own_tnc _ (by omega), own_tnc _ (by omega), own_tnc _ (by omega), (own_uAt xs hk).1, (own_uAt xs hk).2]
  exact own_gcc (hch _ (own_mem hk))
theorem own_bndF : ∀ (m f s : Fin 6), f.1 + s.1 ≤ m.1 → ¬ ((((Int32.ofNat (2 * m.1) >>> ((1 : Int32) &&& 31)) ||| Int32.ofNat f.1) ||| Int32.ofNat s.1) < (0 : Int32)) ∧ ¬ (((Int32.ofNat (2 * m.1) >>> ((1 : Int32) &&& 31)) - Int32.ofNat f.1) < Int32.ofNat s.1) := by decide +kernel
theorem own_bnd {xs : List Int32} {N f s : Int32} (hN : N.toInt = 2 * xs.length) (h5 : xs.length ≤ 5) (h0 : 0 ≤ f.toInt) (h1 : 0 ≤ s.toInt) (h2 : f.toInt + s.toInt ≤ xs.length) : ¬ ((((N >>> ((1 : Int32) &&& 31)) ||| f) ||| s) < (0 : Int32)) ∧ ¬ (((N >>> ((1 : Int32) &&& 31)) - f) < s) := by
  obtain rfl : N = Int32.ofNat (2 * xs.length) := own_of (by rw [hN]; rfl) (by omega)
  have e1 : f = Int32.ofNat f.toInt.toNat := own_of (by omega) (by omega)
  have e2 : s = Int32.ofNat s.toInt.toNat := own_of (by omega) (by omega)
  have q := own_bndF ⟨xs.length, by omega⟩ ⟨f.toInt.toNat, by omega⟩ ⟨s.toInt.toNat, by omega⟩ (by show f.toInt.toNat + s.toInt.toNat ≤ xs.length; omega)
  rw [← e1, ← e2] at q
  exact q
theorem own_i1 {i : Int32} (h0 : 0 ≤ i.toInt) (h : i.toInt < 1000) : (i + (1 : Int32)).toInt = i.toInt + 1 := by
  have a := c_iadd i 1
  have b := rng32 (i + 1)
  rw [show (1 : Int32).toInt = 1 by decide] at a
  omega
theorem own_dbl {x : Int32} (h0 : 0 ≤ x.toInt) (h : x.toInt ≤ 5) : (x <<< ((1 : Int32) &&& 31)).toInt = 2 * x.toInt := by
  have a := c_ishl x 1 1 (by decide)
  have b := rng32 (x <<< ((1 : Int32) &&& 31))
  omega
theorem own_add {f len : Int32} (h0 : 0 ≤ f.toInt) (h1 : 0 ≤ len.toInt) (h2 : f.toInt + len.toInt ≤ 5) : (f + len).toInt = f.toInt + len.toInt := by
  have a := c_iadd f len
  have b := rng32 (f + len)
  omega
theorem own_cutU2 {xs : List Int32} {f z f' z' : Int32} (h0 : 0 ≤ f.toInt) (h1 : f.toInt ≤ z.toInt) (hf : f'.toInt = 2 * f.toInt) (hz : z'.toInt = 2 * z.toInt) : own_cut (own_u xs) f' z' = own_u (own_cut xs f z) := by
  have q := own_cutU xs f.toInt.toNat (z.toInt - f.toInt).toNat
  simp only [own_cut, own_tn]
  rw [← q]
  rw [show f'.toInt.toNat = 2 * f.toInt.toNat by omega, show (z'.toInt - f'.toInt).toNat = 2 * (z.toInt - f.toInt).toNat by omega]
theorem own_uLen (xs : List Int32) : (own_u xs).length = 2 * xs.length := by
  induction xs with
  | nil => rfl
  | cons c r ih => show (own_u r).length + 1 + 1 = 2 * (r.length + 1); omega
theorem own_cutAt {xs : List Int32} {f z : Int32} {j : Nat} (h0 : 0 ≤ f.toInt) (hj : f.toInt + j < z.toInt) : (own_cut xs f z).getD j (0 : Int32) = xs.getD (f.toInt + j).toNat (0 : Int32) := by
  simp only [own_cut, own_tn, List.getD_eq_getElem?_getD, List.getElem?_take, List.getElem?_drop]
  rw [if_pos (by omega), show f.toInt.toNat + j = (f.toInt + j).toNat by omega]
theorem own_codF : ∀ m : Fin 6, 0 < m.1 → (nar .byte ((((Int32.ofNat m.1) - (Int32.ofNat (2 * m.1))).toUInt32 >>> ((31 : Int32) &&& 31).toUInt32).toInt32.toInt8.toInt32)) = (1 : Int32) := by decide +kernel
theorem own_codU {ys : List Int32} {len rN : Int32} (hl : len.toInt = ys.length) (h5 : ys.length ≤ 5) (h0 : 0 < ys.length) (hN : rN.toInt = 2 * ys.length) : (nar .byte (((len - rN).toUInt32 >>> ((31 : Int32) &&& 31).toUInt32).toInt32.toInt8.toInt32)) = (1 : Int32) := by
  obtain rfl : len = Int32.ofNat ys.length := own_of hl (by omega)
  obtain rfl : rN = Int32.ofNat (2 * ys.length) := own_of (by rw [hN]; rfl) (by omega)
  exact own_codF ⟨ys.length, by omega⟩ h0
theorem own_osU {xs : List Int32} {f len rN : Int32} (h5 : xs.length ≤ 5) (hch : ∀ c ∈ xs, 0 ≤ c.toInt ∧ c.toInt < 65536) (hf0 : 0 ≤ f.toInt) (hl0 : 0 ≤ len.toInt) (hfl : f.toInt + len.toInt ≤ xs.length) (hU : ∃ j : Nat, (0 : Int32).toInt ≤ j ∧ j < len.toInt ∧ 255 < (xs.getD (f.toInt + j).toNat (0 : Int32)).toInt) (hN : rN.toInt = 2 * (own_cut xs f (f + len)).length) : OS (own_cut xs f (f + len)) len (1 : Int32) rN (own_u (own_cut xs f (f + len))) := by
  have ha := own_add hf0 hl0 (by omega)
  have hcl := own_cutLen (xs := xs) (f := f) (z := f + len) hf0 (by omega) (by omega)
  refine ⟨by omega, by omega, fun c q => hch c (own_cutMem q), Or.inr ⟨rfl, hN, ?_, rfl⟩⟩
  obtain ⟨j, -, j2, j3⟩ := hU
  refine ⟨(own_cut xs f (f + len)).getD j (0 : Int32), own_mem (by omega), ?_⟩
  rw [own_cutAt hf0 (by omega)]
  exact j3
theorem own_osL {xs : List Int32} {f len : Int32} (h5 : xs.length ≤ 5) (hch : ∀ c ∈ xs, 0 ≤ c.toInt ∧ c.toInt < 65536) (hl : ∀ c ∈ xs, c.toInt ≤ 255) (hf0 : 0 ≤ f.toInt) (hl0 : 0 ≤ len.toInt) (hfl : f.toInt + len.toInt ≤ xs.length) : OS (own_cut xs f (f + len)) len (0 : Int32) ((f + len) - f) (own_cut (List.map own_lo xs) f (f + len)) := by
  have ha := own_add hf0 hl0 (by omega)
  have hs := own_sub (f := f) (z := f + len) hf0 (by omega) (by omega)
  have hcl := own_cutLen (xs := xs) (f := f) (z := f + len) hf0 (by omega) (by omega)
  exact ⟨by omega, by omega, fun c q => hch c (own_cutMem q), Or.inl ⟨rfl, Int32.toInt_inj.mp (by omega), fun c q => hl c (own_cutMem q), (own_cutMap own_lo xs f (f + len)).symm⟩⟩
theorem own_os0 {xs : List Int32} {f len : Int32} (hf0 : 0 ≤ f.toInt) (hl : len = (0 : Int32)) (hf5 : f.toInt ≤ 5) : OS (own_cut xs f (f + len)) len (0 : Int32) (0 : Int32) [] := by
  subst hl
  have ha := own_add (len := 0) hf0 (by decide) (by rw [show (0 : Int32).toInt = 0 by decide]; omega)
  have e : own_cut xs f (f + 0) = [] := by
    simp only [own_cut, ha, show (0 : Int32).toInt = 0 by decide]
    rw [show (f.toInt + 0 - f.toInt).toNat = 0 by omega, List.take_zero]
  rw [e]
  exact ⟨rfl, by decide, fun c q => (List.not_mem_nil q).elim, Or.inl ⟨rfl, rfl, fun c q => (List.not_mem_nil q).elim, rfl⟩⟩
theorem own_bes {b e : Int32} (h0 : 0 ≤ b.toInt) (h1 : b.toInt ≤ e.toInt) (h2 : e.toInt ≤ 5) : b + (e - b) = e := by
  have a := own_sub h0 h1 (by omega)
  have d := own_add (f := b) (len := e - b) h0 (by omega) (by omega)
  exact Int32.toInt_inj.mp (by omega)
theorem own_cutAll {xs : List Int32} {n : Int32} (hn : n.toInt = xs.length) : own_cut xs (0 : Int32) n = xs := by
  simp only [own_cut, own_tn, show (0 : Int32).toInt = 0 by decide, hn]
  exact List.take_of_length_le (by simp)
theorem own_osAll {xs bs : List Int32} {n b e co N : Int32} (h : OS xs n co N bs) (hb : b = (0 : Int32)) (he : e = n) : OS (own_cut xs b e) (e - b) co N bs := by
  subst hb he
  rw [own_cutAll h.1, show e - (0 : Int32) = e from Int32.toInt_inj.mp (by have a := c_isub e 0; have c := rng32 (e - 0); have d := rng32 e; rw [show (0 : Int32).toInt = 0 by decide] at a; omega)]
  exact h
def own_tb (xs : List Int32) (n : Int32) : Int32 := own_ts 6 xs (0 : Int32) n
def own_tz (xs : List Int32) (n : Int32) : Int32 := own_te 6 xs (own_tb xs n) n
theorem own_tsS (xs : List Int32) {n : Int32} (h5 : n.toInt ≤ 5) : ∀ (k : Nat) (i : Int32), 0 ≤ i.toInt → i.toInt ≤ n.toInt → n.toInt ≤ i.toInt + k → i.toInt ≤ (own_ts k xs i n).toInt ∧ (own_ts k xs i n).toInt ≤ n.toInt ∧ (∀ j : Nat, i.toInt ≤ j → (j : Int) < (own_ts k xs i n).toInt → own_xs (xs.getD j (0 : Int32)) ≠ 0) ∧ ((own_ts k xs i n).toInt < n.toInt → own_xs (xs.getD (own_ts k xs i n).toInt.toNat (0 : Int32)) = 0) := by
  intro k
  induction k with
  | zero => intro i h0 h1 h2; exact ⟨Int.le_refl _, h1, fun j a b => absurd b (by show ¬ ((j : Int) < i.toInt); omega), fun q => absurd q (by show ¬ (i.toInt < n.toInt); omega)⟩
  | succ k ih =>
    intro i h0 h1 h2
    by_cases h : i < n
    · have h' := own_ltI h
      by_cases hs : own_xs (List.getD xs (i).toNatClampNeg (0 : Int32)) = (0 : Int32)
      · simp only [own_ts, if_pos h, if_pos hs]
        exact ⟨Int.le_refl _, h1, fun j a b => absurd b (by omega), fun _ => hs⟩
      · simp only [own_ts, if_pos h, if_neg hs]
        have e := own_i1 h0 (by omega)
        obtain ⟨q1, q2, q3, q4⟩ := ih (i + 1) (by omega) (by omega) (by omega)
        refine ⟨by omega, q2, fun j a b => ?_, q4⟩
        by_cases hj : (j : Int) = i.toInt
        · rw [own_tn, ← hj] at hs
          exact hs
        · exact q3 j (by omega) b
    · have h' : ¬ i.toInt < n.toInt := fun q => h (by rw [Int32.lt_iff_toInt_lt]; exact q)
      simp only [own_ts, if_neg h]
      exact ⟨Int.le_refl _, h1, fun j a b => absurd b (by omega), fun q => absurd q h'⟩
theorem own_teS (xs : List Int32) {n b : Int32} (h5 : n.toInt ≤ 5) (hb : 0 ≤ b.toInt) : ∀ (k : Nat) (z : Int32), b.toInt ≤ z.toInt → z.toInt ≤ n.toInt → z.toInt ≤ b.toInt + k → b.toInt ≤ (own_te k xs b z).toInt ∧ (own_te k xs b z).toInt ≤ z.toInt ∧ (∀ j : Nat, (own_te k xs b z).toInt ≤ j → (j : Int) < z.toInt → own_xs (xs.getD j (0 : Int32)) ≠ 0) ∧ (b.toInt < (own_te k xs b z).toInt → own_xs (xs.getD ((own_te k xs b z).toInt - 1).toNat (0 : Int32)) = 0) := by
  intro k
  induction k with
  | zero => intro z h0 h1 h2; exact ⟨h0, Int.le_refl _, fun j a c => absurd a (by show ¬ (z.toInt ≤ j); omega), fun q => absurd q (by show ¬ (b.toInt < z.toInt); omega)⟩
  | succ k ih =>
    intro z h0 h1 h2
    by_cases h : b < z
    · have h' := own_ltI h
      obtain ⟨-, -, e⟩ := own_l2 hb h h1 h5
      have e' : (z - (1 : Int32)).toInt = z.toInt - 1 := by
        have a := c_isub z 1
        have a' := rng32 (z - 1)
        rw [show (1 : Int32).toInt = 1 by decide] at a
        omega
      by_cases hs : own_xs (List.getD xs ((z - (1 : Int32))).toNatClampNeg (0 : Int32)) = (0 : Int32)
      · simp only [own_te, if_pos h, if_pos hs]
        rw [own_tn, e'] at hs
        exact ⟨h0, Int.le_refl _, fun j a c => absurd a (by omega), fun _ => hs⟩
      · simp only [own_te, if_pos h, if_neg hs]
        obtain ⟨q1, q2, q3, q4⟩ := ih (z + (Int32.ofInt (-1))) (by omega) (by omega) (by omega)
        refine ⟨q1, by omega, fun j a c => ?_, q4⟩
        by_cases hj : (j : Int) = z.toInt - 1
        · rw [own_tn, e', ← hj] at hs
          exact hs
        · exact q3 j a (by omega)
    · have h' : ¬ b.toInt < z.toInt := fun q => h (by rw [Int32.lt_iff_toInt_lt]; exact q)
      simp only [own_te, if_neg h]
      exact ⟨h0, Int.le_refl _, fun j a c => absurd a (by omega), fun q => absurd q h'⟩
theorem own_big {c : Int32} (h : 255 < c.toInt) : own_xs c = 0 := by
  have q : ∀ d : Int32, d.toInt ≤ 255 → c ≠ d := fun d hd e => by rw [e] at h; omega
  unfold own_xs
  rw [if_neg (q 32 (by decide)), if_neg (q 9 (by decide)), if_neg (q 13 (by decide)), if_neg (q 10 (by decide))]
theorem own_trimB {xs bs : List Int32} {n co N : Int32} (h : OS xs n co N bs) : 0 ≤ (own_tb xs n).toInt ∧ (own_tb xs n).toInt ≤ (own_tz xs n).toInt ∧ (own_tz xs n).toInt ≤ n.toInt ∧ (co = (1 : Int32) → ∃ j : Nat, (own_tb xs n).toInt ≤ j ∧ j < (own_tz xs n).toInt ∧ 255 < (xs.getD j (0 : Int32)).toInt) := by
  obtain ⟨hn, h5, hch, hc⟩ := h
  have z0 : (0 : Int32).toInt = 0 := by decide
  obtain ⟨a1, a2, a3, -⟩ := own_tsS xs (n := n) (by omega) 6 0 (by omega) (by omega) (by omega)
  obtain ⟨b1, b2, b3, -⟩ := own_teS xs (n := n) (b := own_tb xs n) (by omega) (by unfold own_tb; omega) 6 n a2 (Int.le_refl _) (by unfold own_tb; omega)
  refine ⟨by unfold own_tb; omega, b1, b2, fun e => ?_⟩
  rcases hc with ⟨rfl, -⟩ | ⟨-, -, ⟨c, hm, hb⟩, -⟩
  · exact absurd e (by decide)
  · obtain ⟨j, hj, rfl⟩ := List.getElem_of_mem hm
    have hx := own_big hb
    have eg : xs.getD j (0 : Int32) = xs[j] := by rw [List.getD_eq_getElem?_getD, List.getElem?_eq_getElem hj]; rfl
    refine ⟨j, ?_, ?_, by rw [eg]; exact hb⟩
    · apply Classical.byContradiction
      intro q
      exact a3 j (by omega) (by unfold own_tb at q; omega) (by rw [eg]; exact hx)
    · apply Classical.byContradiction
      intro q
      exact b3 j (by unfold own_tz at q; omega) (by omega) (by rw [eg]; exact hx)
theorem own_l3 {b z n : Int32} {kk : Nat} (h0 : 0 ≤ b.toInt) (h : b < z) (hz : z.toInt ≤ n.toInt) (h5 : n.toInt ≤ 5) (hk : z.toInt ≤ b.toInt + ((kk + 1 : Nat) : Int)) : b.toInt ≤ (z + (Int32.ofInt (-1))).toInt ∧ (z + (Int32.ofInt (-1))).toInt ≤ n.toInt ∧ (z + (Int32.ofInt (-1))).toInt ≤ b.toInt + kk := by
  obtain ⟨-, -, e⟩ := own_l2 h0 h hz h5
  have h' := own_ltI h
  rw [e]
  omega
theorem own_tkMap (g : Int32 → Int32) (xs : List Int32) {k : Nat} (h : k < xs.length) : (xs.take k).map g ++ [g (xs.getD k (0 : Int32))] = (xs.take (k + 1)).map g := by
  rw [List.take_add_one, List.map_append, List.getD_eq_getElem?_getD, List.getElem?_eq_getElem h]
  rfl
theorem own_uApp : ∀ a b : List Int32, own_u (a ++ b) = own_u a ++ own_u b
  | [], b => rfl
  | c :: r, b => by
    show own_b0 c :: own_b1 c :: own_u (r ++ b) = own_b0 c :: own_b1 c :: (own_u r ++ own_u b)
    rw [own_uApp r b]
theorem own_tkU (xs : List Int32) {k : Nat} (h : k < xs.length) : own_u (xs.take k) ++ [own_b0 (xs.getD k (0 : Int32))] ++ [own_b1 (xs.getD k (0 : Int32))] = own_u (xs.take (k + 1)) := by
  rw [List.take_add_one, own_uApp, List.getD_eq_getElem?_getD, List.getElem?_eq_getElem h, List.append_assoc]
  rfl
theorem own_codF0 : ∀ m : Fin 6, (nar .byte ((((Int32.ofNat m.1) - (Int32.ofNat m.1)).toUInt32 >>> ((31 : Int32) &&& 31).toUInt32).toInt32.toInt8.toInt32)) = (0 : Int32) := by decide +kernel
theorem own_codOS {xs bs : List Int32} {n co N : Int32} (h : OS xs n co N bs) (h0 : 0 < xs.length) : (nar .byte (((n - N).toUInt32 >>> ((31 : Int32) &&& 31).toUInt32).toInt32.toInt8.toInt32)) = co := by
  obtain ⟨hn, h5, -, ⟨rfl, rfl, -, -⟩ | ⟨rfl, hN, -, -⟩⟩ := h
  · obtain rfl : n = Int32.ofNat xs.length := own_of hn (by omega)
    exact own_codF0 ⟨xs.length, by omega⟩
  · exact own_codU hn h5 h0 hN
theorem own_nbOS {xs bs : List Int32} {n co N : Int32} (h : OS xs n co N bs) : nar .byte co = co := by
  obtain ⟨-, -, -, ⟨rfl, -⟩ | ⟨rfl, -⟩⟩ := h
  · decide
  · decide
theorem own_os00 : OS [] (0 : Int32) (0 : Int32) (0 : Int32) [] := ⟨rfl, by decide, fun c q => (List.not_mem_nil q).elim, Or.inl ⟨rfl, rfl, fun c q => (List.not_mem_nil q).elim, rfl⟩⟩
theorem own_osT {ys xs bs : List Int32} {n k co N : Int32} (hk : n = k) (e : List.take k.toInt.toNat xs = ys) (h : OS ys k co N bs) : OS (List.take n.toInt.toNat xs) n co N bs := by
  subst hk
  rw [e]
  exact h
theorem own_narR (x : Int32) : 0 ≤ (nar .char x).toInt ∧ (nar .char x).toInt < 65536 := by
  have q := c_i2c x
  have e : (nar .char x).toInt = (x.toUInt32.toUInt16.toUInt32.toInt32).toInt := rfl
  omega
theorem own_n6F : ∀ k : Fin 8, (Int32.ofNat k.1 % (6 : Int32)) = 0 ∨ (Int32.ofNat k.1 % (6 : Int32)) = 1 ∨ (Int32.ofNat k.1 % (6 : Int32)) = 2 ∨ (Int32.ofNat k.1 % (6 : Int32)) = 3 ∨ (Int32.ofNat k.1 % (6 : Int32)) = 4 ∨ (Int32.ofNat k.1 % (6 : Int32)) = 5 := by decide +kernel
theorem own_n6 (p : Int32) : ((p &&& (7 : Int32)) % (6 : Int32)) = (0 : Int32) ∨ ((p &&& (7 : Int32)) % (6 : Int32)) = (1 : Int32) ∨ ((p &&& (7 : Int32)) % (6 : Int32)) = (2 : Int32) ∨ ((p &&& (7 : Int32)) % (6 : Int32)) = (3 : Int32) ∨ ((p &&& (7 : Int32)) % (6 : Int32)) = (4 : Int32) ∨ ((p &&& (7 : Int32)) % (6 : Int32)) = (5 : Int32) := by
  have h := c_mask p 7 3 (by decide) (by decide)
  have e : p &&& 7 = Int32.ofNat (p &&& 7).toInt.toNat := own_of (by omega) (by omega)
  have q := own_n6F ⟨(p &&& 7).toInt.toNat, by omega⟩
  rw [← e] at q
  exact q
theorem own_n6r {n : Int32} (h : n = (0 : Int32) ∨ n = (1 : Int32) ∨ n = (2 : Int32) ∨ n = (3 : Int32) ∨ n = (4 : Int32) ∨ n = (5 : Int32)) : 0 ≤ n.toInt ∧ n.toInt ≤ 5 := by
  rcases h with rfl | rfl | rfl | rfl | rfl | rfl <;> decide
theorem own_nnI {i : Int32} (h : ¬ (i < (0 : Int32))) : 0 ≤ i.toInt := own_nneg h
theorem own_nltI {i n : Int32} (h : ¬ (i < n)) : n.toInt ≤ i.toInt := by
  rw [Int32.lt_iff_toInt_lt] at h
  omega
/-- the law's first: what it is once the places k .. are looked at -/
def own_FS (cs : List Int32) (n : Int32) (k : Nat) (z : Int32) : Prop := z.toInt ≤ n.toInt ∧ 0 ≤ z.toInt ∧ (∀ j : Nat, k ≤ j → (j : Int) < z.toInt → own_xs (cs.getD j (0 : Int32)) ≠ 0) ∧ (z.toInt < n.toInt → own_xs (cs.getD z.toInt.toNat (0 : Int32)) = 0)
theorem own_fs0 (cs : List Int32) {n : Int32} {k : Nat} (h0 : 0 ≤ n.toInt) (h : n.toInt ≤ k) : own_FS cs n k n := ⟨Int.le_refl _, h0, fun j a b => absurd b (by omega), fun q => absurd q (by omega)⟩
theorem own_fsS {cs : List Int32} {n z z' kk c : Int32} (k : Nat) (hk : kk.toInt = k) (hc : cs.getD k (0 : Int32) = c) (h : own_FS cs n (k + 1) z) (hz : z' = (if kk < n then (if (own_xs c) = (0 : Int32) then kk else z) else z)) : own_FS cs n k z' := by
  obtain ⟨h1, h2, h3, h4⟩ := h
  subst hc
  by_cases a : kk < n
  · have a' := own_ltI a
    by_cases b : own_xs (cs.getD k (0 : Int32)) = (0 : Int32)
    · rw [if_pos a, if_pos b] at hz
      subst hz
      refine ⟨by omega, by omega, fun j x y => absurd y (by omega), fun _ => ?_⟩
      rw [hk]
      exact b
    · rw [if_pos a, if_neg b] at hz
      subst hz
      refine ⟨h1, h2, fun j x y => ?_, h4⟩
      by_cases e : j = k
      · rw [e]
        exact b
      · exact h3 j (by omega) y
  · rw [if_neg a] at hz
    subst hz
    have a' := own_nltI a
    exact ⟨h1, h2, fun j x y => absurd y (by omega), h4⟩
/-- the law's last: what it is once the places below k are looked at -/
def own_LS (cs : List Int32) (n : Int32) (k : Nat) (z : Int32) : Prop := z.toInt ≤ n.toInt ∧ 0 ≤ z.toInt ∧ z.toInt ≤ k ∧ (∀ j : Nat, z.toInt ≤ j → (j : Int) < n.toInt → j < k → own_xs (cs.getD j (0 : Int32)) ≠ 0) ∧ (0 < z.toInt → own_xs (cs.getD (z.toInt - 1).toNat (0 : Int32)) = 0)
theorem own_ls0 (cs : List Int32) {n : Int32} (h0 : 0 ≤ n.toInt) : own_LS cs n 0 (0 : Int32) := by
  have z0 : (0 : Int32).toInt = 0 := by decide
  exact ⟨by omega, by omega, by omega, fun j _ _ q => absurd q (Nat.not_lt_zero _), fun q => absurd q (by omega)⟩
theorem own_lsS {cs : List Int32} {n z z' kk k1 c : Int32} (k : Nat) (hk : kk.toInt = k) (hk1 : k1.toInt = k + 1) (hc : cs.getD k (0 : Int32) = c) (h : own_LS cs n k z) (hz : z' = (if kk < n then (if (own_xs c) = (0 : Int32) then k1 else z) else z)) : own_LS cs n (k + 1) z' := by
  obtain ⟨h1, h2, h3, h4, h5⟩ := h
  subst hc
  by_cases a : kk < n
  · have a' := own_ltI a
    by_cases b : own_xs (cs.getD k (0 : Int32)) = (0 : Int32)
    · rw [if_pos a, if_pos b] at hz
      subst hz
      refine ⟨by omega, by omega, by omega, fun j x y q => absurd q (by omega), fun _ => ?_⟩
      rw [hk1, show ((k : Int) + 1 - 1).toNat = k by omega]
      exact b
    · rw [if_pos a, if_neg b] at hz
      subst hz
      refine ⟨h1, h2, by omega, fun j x y q => ?_, h5⟩
      by_cases e : j = k
      · rw [e]
        exact b
      · exact h4 j x y (by omega)
  · rw [if_neg a] at hz
    subst hz
    have a' := own_nltI a
    exact ⟨h1, h2, by omega, fun j x y q => h4 j x y (by omega), h5⟩
theorem own_takeAt {cs : List Int32} {m j : Nat} (h : j < m) : (cs.take m).getD j (0 : Int32) = cs.getD j (0 : Int32) := by
  simp only [List.getD_eq_getElem?_getD, List.getElem?_take, if_pos h]
theorem own_lawA {cs xs ys bs : List Int32} {n co N first last mx tb tz : Int32} (hOS : OS xs n co N bs) (hxs : List.take n.toInt.toNat cs = xs) (hn0 : 0 ≤ n.toInt) (hF : own_FS cs n 0 first) (hL : own_LS cs n 5 last) (hm : mx = (if (last - first) < (0 : Int32) then (0 : Int32) else (last - first))) (htb : own_tb xs n = tb) (htz : own_tz xs n = tz) (hys : own_cut xs tb tz = ys) :
    (tz - tb) = mx ∧ ∀ i : Int32, ¬ (i < (0 : Int32)) → i < (tz - tb) → ¬ ((first + i) < (0 : Int32)) ∧ (first + i) < (5 : Int32) ∧ (List.getD ys (i).toNatClampNeg (0 : Int32)) = (List.getD cs ((first + i)).toNatClampNeg (0 : Int32)) := by
  obtain ⟨hn, h5, hch, -⟩ := hOS
  have z0 : (0 : Int32).toInt = 0 := by decide
  have z5 : (5 : Int32).toInt = 5 := by decide
  obtain ⟨a1, a2, a3, a4⟩ := own_tsS xs (n := n) (by omega) 6 0 (by omega) (by omega) (by omega)
  rw [show own_ts 6 xs 0 n = tb from htb] at a1 a2 a3 a4
  obtain ⟨b1, b2, b3, b4⟩ := own_teS xs (n := n) (b := tb) (by omega) (by omega) 6 n a2 (Int.le_refl _) (by omega)
  rw [show own_te 6 xs tb n = tz by rw [← htz, ← htb]; rfl] at b1 b2 b3 b4
  obtain ⟨f1, f2, f3, f4⟩ := hF
  obtain ⟨l1, l2, l3, l4, l5⟩ := hL
  have at' : ∀ j : Nat, (j : Int) < n.toInt → xs.getD j (0 : Int32) = cs.getD j (0 : Int32) := fun j q => by
    rw [← hxs]
    exact own_takeAt (by omega)
  have eF : first.toInt = tb.toInt := by
    rcases Int.lt_trichotomy first.toInt tb.toInt with q | q | q
    · have u := a3 first.toInt.toNat (by omega) (by omega)
      rw [at' _ (by omega)] at u
      exact absurd (f4 (by omega)) u
    · exact q
    · have u := f3 tb.toInt.toNat (Nat.zero_le _) (by omega)
      have v := a4 (by omega)
      rw [at' _ (by omega)] at v
      exact absurd v u
  have hs := own_sub (f := tb) (z := tz) (by omega) b1 (by omega)
  have sA := c_isub last first
  have sB := rng32 (last - first)
  have hd : (last - first).toInt = last.toInt - first.toInt := by omega
  constructor
  · apply Int32.toInt_inj.mp
    by_cases q : tb.toInt < n.toInt
    · have p0 := a4 q
      rw [at' _ (by omega)] at p0
      have hl : tb.toInt < last.toInt := by
        apply Classical.byContradiction
        intro u
        exact l4 tb.toInt.toNat (by omega) (by omega) (by omega) p0
      have hz : tb.toInt < tz.toInt := by
        apply Classical.byContradiction
        intro u
        have v := b3 tb.toInt.toNat (by omega) (by omega)
        rw [at' _ (by omega)] at v
        exact v p0
      have eL : last.toInt = tz.toInt := by
        rcases Int.lt_trichotomy last.toInt tz.toInt with u | u | u
        · have v := b4 hz
          rw [at' _ (by omega)] at v
          exact absurd v (l4 (tz.toInt - 1).toNat (by omega) (by omega) (by omega))
        · exact u
        · have v := b3 (last.toInt - 1).toNat (by omega) (by omega)
          rw [at' _ (by omega)] at v
          exact absurd (l5 (by omega)) v
      rw [if_neg (by rw [Int32.lt_iff_toInt_lt, z0]; omega)] at hm
      rw [hm]
      omega
    · have eL : last.toInt ≤ first.toInt := by omega
      by_cases v : last.toInt = first.toInt
      · rw [if_neg (by rw [Int32.lt_iff_toInt_lt, z0]; omega)] at hm
        rw [hm]
        omega
      · rw [if_pos (by rw [Int32.lt_iff_toInt_lt, z0]; omega)] at hm
        rw [hm, z0]
        omega
  · intro i hi0 hi1
    have i0 := own_nneg hi0
    have i1 := own_ltI hi1
    have ha := own_add (f := first) (len := i) (by omega) i0 (by omega)
    refine ⟨by rw [Int32.lt_iff_toInt_lt, z0]; omega, by rw [Int32.lt_iff_toInt_lt, z5]; omega, ?_⟩
    rw [← hys, own_tn, own_tn, own_cutAt (by omega) (by omega), at' _ (by omega), ha]
    congr 1
    omega
theorem own_safeNull {Z : State} {EL : List (String × Nat)} {vm : Vm} {h : Heap} {x : Addr} (hal : Z.vm.Alike vm) (E : Exa Z h x "java/lang/String") (F0 : Fld Z h x "java/lang/String" "value" "[B" .null) : Safe Z EL vm h x := fun B => by
  obtain ⟨cell, k, e1, e2, e3, -, -⟩ := E
  obtain ⟨p, -, u, a, -, q, -, F, rfl | rfl⟩ := B
  · obtain ⟨cell', c, k', i, f, g1, g2, g3, g4, g5, g6, g7⟩ := F0
    cases (show h[q.sa]? = some q.sC from F.ha).symm.trans g1
    obtain ⟨cS, ⟨⟨s1, s2, s3, ⟨cv, kv, iv, s4, s4'⟩, ⟨cc, kc, ic, s5, s5'⟩, s6, s7, s8, -⟩, -, -⟩, -⟩ := F
    obtain ⟨kv', z4⟩ := ff_back (U := Wst Z vm h) hal s4
    have e := z4.symm.trans g2
    simp only [Option.some.injEq, Prod.mk.injEq] at e
    rw [← e.2.2.2, s8] at g7
    cases g7
  · cases (show h[q.sd]? = some q.SA from F.hd).symm.trans e1
    obtain ⟨cS, -, -, f, -⟩ := F
    have f' : vm.findClass "[B" = some q.SA.cls := f
    rw [hal.findClass] at f'
    obtain ⟨k1, q1, q2⟩ := Vm.findClass_spec f'
    obtain ⟨k2, q3, q4⟩ := Vm.findClass_spec e2
    cases q1.symm.trans q3
    exact absurd (q2.symm.trans q4) (by decide)
theorem own_wS {Z : State} {a0 : Array Value} (hw : ∀ d ∈ tables_1, d.before a0 Z = true) : ∀ a ∈ Bundle.stringAtoms, a.before a0 Z = true := by
  intro a ha
  simp only [Bundle.stringAtoms, List.mem_cons, List.not_mem_nil, or_false] at ha
  rcases ha with rfl | rfl | rfl | rfl | rfl | rfl | rfl
  · exact (ow hw 11 rfl)
  · exact (ow hw 10 rfl)
  · exact (ow hw 23 rfl)
  · exact (ow hw 24 rfl)
  · exact (ow hw 25 rfl)
  · exact (ow hw 26 rfl)
  · exact (ow hw 27 rfl)
def own_EL : List (String × Nat) := [("java/lang/String", 7), ("java/lang/StringLatin1", 151)]
theorem own_EWs {Z : State} {a0 : Array Value} (hw : ∀ d ∈ tables_1, d.before a0 Z = true) : EW Z a0 own_EL := (EW.cons (text := "") (ow hw 22 rfl) (by decide) (EW.cons (text := "") (ow hw 180 rfl) (by decide) EW.nil))
theorem d18_0 : decode jdk_42_method_56_code 0 = .ok (.aload_n 0, 1) := by decide +kernel
theorem d18_1 : decode jdk_42_method_56_code 1 = .ok (.invokevirtual 492, 3) := by decide +kernel
theorem d18_4 : decode jdk_42_method_56_code 4 = .ok (.ifCond .eq 12, 3) := by decide +kernel
theorem d18_7 : decode jdk_42_method_56_code 7 = .ok (.aload_n 0, 1) := by decide +kernel
theorem d18_8 : decode jdk_42_method_56_code 8 = .ok (.getfield 9, 3) := by decide +kernel
theorem d18_11 : decode jdk_42_method_56_code 11 = .ok (.iload_n 1, 1) := by decide +kernel
theorem d18_12 : decode jdk_42_method_56_code 12 = .ok (.invokestatic 495, 3) := by decide +kernel
theorem d18_15 : decode jdk_42_method_56_code 15 = .ok (.ireturn, 1) := by decide +kernel
theorem d18_16 : decode jdk_42_method_56_code 16 = .ok (.aload_n 0, 1) := by decide +kernel
theorem d18_17 : decode jdk_42_method_56_code 17 = .ok (.getfield 9, 3) := by decide +kernel
theorem d18_20 : decode jdk_42_method_56_code 20 = .ok (.iload_n 1, 1) := by decide +kernel
theorem d18_21 : decode jdk_42_method_56_code 21 = .ok (.invokestatic 498, 3) := by decide +kernel
theorem d18_24 : decode jdk_42_method_56_code 24 = .ok (.ireturn, 1) := by decide +kernel
theorem pn_0 : plainName "java/lang/String" = true := by first | (simp [plainName, overriddenIn]; done) | decide +kernel
theorem pd_0 : parseMethodDescriptor "()Z" = some ⟨[], some .boolean⟩ := by decide +kernel
theorem pd_1 : parseMethodDescriptor "([BI)C" = some ⟨[(.array .byte), .int], some .char⟩ := by decide +kernel
theorem d19_0 : decode jdk_42_method_154_code 0 = .ok (.getstatic 38, 3) := by decide +kernel
theorem d19_3 : decode jdk_42_method_154_code 3 = .ok (.ifCond .eq 14, 3) := by decide +kernel
theorem d19_6 : decode jdk_42_method_154_code 6 = .ok (.aload_n 0, 1) := by decide +kernel
theorem d19_7 : decode jdk_42_method_154_code 7 = .ok (.getfield 15, 3) := by decide +kernel
theorem d19_10 : decode jdk_42_method_154_code 10 = .ok (.ifCond .ne 7, 3) := by decide +kernel
theorem d19_13 : decode jdk_42_method_154_code 13 = .ok (.iconst 1, 1) := by decide +kernel
theorem d19_14 : decode jdk_42_method_154_code 14 = .ok (.goto 4, 3) := by decide +kernel
theorem d19_17 : decode jdk_42_method_154_code 17 = .ok (.iconst 0, 1) := by decide +kernel
theorem d19_18 : decode jdk_42_method_154_code 18 = .ok (.ireturn, 1) := by decide +kernel
theorem ef_19_1 (m : MethodId) (x0 : Addr) : entryFrame m #[(.ref x0)] 1 = mkF m 0 #[.val (.ref x0)] [] := by first | (simp [entryFrame, mkF, argsToLocals, Value.category]; done) | rfl
def Q19_1 (Z : State) (o1 : Addr) (i1 : Int32) (h0 : Heap) (n0 : Nat) (v : Option Value) (h : Heap) (L : List Loc) : Prop := v = some (.int 1) ∧ Fr n0 L ∧ h = h0
set_option maxRecDepth 65536 in
set_option maxHeartbeats 40000000 in
theorem rm19_1 (l : Launch) (Z : State) (a0 : Array Value) (hw : ∀ d ∈ tables_1, d.before a0 Z = true) (ws : List Jvm.Cond) (o1 : Addr) (i1 : Int32) (h0 : Heap) (n0 : Nat) (Z0 : n0 ≤ h0.size) (Sx0 : Sta Z h0 "java/lang/String" "COMPACT_STRINGS" "Z" (.int i1)) (Pm1 : Exa Z h0 o1 "java/lang/String") (Pm2 : Fld Z h0 o1 "java/lang/String" "coder" "B" (.int 0)) (hy3 : ¬ (i1 = (0 : Int32)))  :
    OwnM l Z nM0 jdk_42_method_154_code 1 (some .boolean) ws ({ frames := 0, cells := 0, slots := 0, locals := 0 } : Room) #[(.ref o1)] h0 (Q19_1 Z o1 i1 h0 n0) := by
  refine own_body (plainFor_of_name pn_0) ?_
  intro p e s m below meth c s₁ G hx hby hml hZ hown hnm hret X0 e0 step fin
  replace hown : s.vm.findClass "java/lang/String" = some m.cls := hown
  have N0 := Fr.nil n0
  have KK : OwnK p e below c _ G := ⟨step, hx, hby⟩
  refine step (s₁.setTop (mkF m 0 #[vr o1] [])) (fun t k => castTop (ef_19_1 m o1) k) ?_
  obtain ⟨T1, X1, e1, st1⟩ := getS2 X0 hx hZ hown (host := "") (Or.inl (ow hw 48 rfl)) Via.refl e0 Sx0 (g := (mkF m 0 #[vr o1] [])) rfl (hb hby d19_0)
  refine step (T1.setTop (mkF m 3 #[vr o1] [(.int i1)])) (fun t k => st1 t k) ?_
  have hc3_2 : ¬ (i1 = (0 : Int32)) := hy3
  refine step (T1.setTop (mkF m 6 #[vr o1] [])) (fun t k => XS.ifNo X1.here hx rfl (hb hby d19_3) rfl ((if0 _ _).trans (feq hc3_2).1) k) ?_
  refine oal KK X1 d19_6 (.ref o1) 7 rfl rfl rfl ?_
  obtain ⟨T3, X3, e3, st3⟩ := getF X1 hx hZ hown (host := "") (Or.inl (ow hw 29 rfl)) Via.refl e1 Pm2 (g := (mkF m 7 #[vr o1] [(.ref o1)])) rfl rfl (hb hby d19_7)
  refine step (T3.setTop (mkF m 10 #[vr o1] [(.int 0)])) (fun t k => st3 t k) ?_
  refine step (T3.setTop (mkF m 13 #[vr o1] [])) (fun t k => XS.ifNo X3.here hx rfl (hb hby d19_10) rfl ((if0 _ _).trans (teq (by decide : (0 : Int32) = (0 : Int32))).2) k) ?_
  refine oic KK X3 d19_13 1 14 rfl rfl ?_
  refine ogo KK X3 d19_14 18 (by decide) rfl ?_
  refine fin (v := some (.int (nar .boolean (1 : Int32)))) X3 (fun h => by cases h) ?_ (by decide) (by decide) (fun fs hr => retN X3 hx (t := .boolean) hret (by simp) (hb hby d19_18) hr)
  show Q19_1 Z o1 i1 h0 n0 (some (.int (nar .boolean (1 : Int32)))) T3.heap _
  rw [e3]
  exact ⟨rfl, N0, rfl⟩
theorem d20_0 : decode jdk_43_method_2_code 0 = .ok (.iload_n 1, 1) := by decide +kernel
theorem d20_1 : decode jdk_43_method_2_code 1 = .ok (.aload_n 0, 1) := by decide +kernel
theorem d20_2 : decode jdk_43_method_2_code 2 = .ok (.arraylength, 1) := by decide +kernel
theorem d20_3 : decode jdk_43_method_2_code 3 = .ok (.invokestatic 9, 3) := by decide +kernel
theorem d20_6 : decode jdk_43_method_2_code 6 = .ok (.aload_n 0, 1) := by decide +kernel
theorem d20_7 : decode jdk_43_method_2_code 7 = .ok (.iload_n 1, 1) := by decide +kernel
theorem d20_8 : decode jdk_43_method_2_code 8 = .ok (.baload, 1) := by decide +kernel
theorem d20_9 : decode jdk_43_method_2_code 9 = .ok (.sipush 255, 3) := by decide +kernel
theorem d20_12 : decode jdk_43_method_2_code 12 = .ok (.iand, 1) := by decide +kernel
theorem d20_13 : decode jdk_43_method_2_code 13 = .ok (.i2c, 1) := by decide +kernel
theorem d20_14 : decode jdk_43_method_2_code 14 = .ok (.ireturn, 1) := by decide +kernel
theorem pn_1 : plainName "java/lang/StringLatin1" = true := by first | (simp [plainName, overriddenIn]; done) | decide +kernel
theorem pd_2 : parseMethodDescriptor "(II)V" = some ⟨[.int, .int], none⟩ := by decide +kernel
theorem d21_0 : decode jdk_42_method_155_code 0 = .ok (.iload_n 0, 1) := by decide +kernel
theorem d21_1 : decode jdk_42_method_155_code 1 = .ok (.iload_n 1, 1) := by decide +kernel
theorem d21_2 : decode jdk_42_method_155_code 2 = .ok (.getstatic 1053, 3) := by decide +kernel
theorem d21_5 : decode jdk_42_method_155_code 5 = .ok (.invokestatic 1059, 3) := by decide +kernel
theorem d21_8 : decode jdk_42_method_155_code 8 = .ok (.pop, 1) := by decide +kernel
theorem d21_9 : decode jdk_42_method_155_code 9 = .ok (.return_, 1) := by decide +kernel
theorem pd_3 : parseMethodDescriptor "(IILjava/util/function/BiFunction;)I" = some ⟨[.int, .int, (.object "java/util/function/BiFunction")], some .int⟩ := by decide +kernel
theorem d22_0 : decode jdk_41_method_11_code 0 = .ok (.iload_n 0, 1) := by decide +kernel
theorem d22_1 : decode jdk_41_method_11_code 1 = .ok (.ifCond .lt 8, 3) := by decide +kernel
theorem d22_4 : decode jdk_41_method_11_code 4 = .ok (.iload_n 0, 1) := by decide +kernel
theorem d22_5 : decode jdk_41_method_11_code 5 = .ok (.iload_n 1, 1) := by decide +kernel
theorem d22_6 : decode jdk_41_method_11_code 6 = .ok (.if_icmp .lt 10, 3) := by decide +kernel
theorem d22_9 : decode jdk_41_method_11_code 9 = .ok (.aload_n 2, 1) := by decide +kernel
theorem d22_10 : decode jdk_41_method_11_code 10 = .ok (.iload_n 0, 1) := by decide +kernel
theorem d22_11 : decode jdk_41_method_11_code 11 = .ok (.iload_n 1, 1) := by decide +kernel
theorem d22_12 : decode jdk_41_method_11_code 12 = .ok (.invokestatic 95, 3) := by decide +kernel
theorem d22_15 : decode jdk_41_method_11_code 15 = .ok (.athrow, 1) := by decide +kernel
theorem d22_16 : decode jdk_41_method_11_code 16 = .ok (.iload_n 0, 1) := by decide +kernel
theorem d22_17 : decode jdk_41_method_11_code 17 = .ok (.ireturn, 1) := by decide +kernel
theorem pn_2 : plainName "jdk/internal/util/Preconditions" = true := by first | (simp [plainName, overriddenIn]; done) | decide +kernel
theorem ef_22_4 (m : MethodId) (x0 : Int32) (x1 : Int32) (x2 : Value) (r2 : Value.isRef x2 = true) : entryFrame m #[(.int x0), (.int x1), x2] 3 = mkF m 0 #[.val (.int x0), .val (.int x1), .val x2] [] := by cases x2 <;> first | (cases r2; done) | (simp [entryFrame, mkF, argsToLocals, Value.category])
def Q22_4 (Z : State) (i1 : Int32) (i2 : Int32) (u3 : Value) (h0 : Heap) (n0 : Nat) (v : Option Value) (h : Heap) (L : List Loc) : Prop := v = some (.int i1) ∧ Fr n0 L ∧ h = h0
set_option maxRecDepth 65536 in
set_option maxHeartbeats 40000000 in
theorem rm22_4 (l : Launch) (Z : State) (a0 : Array Value) (hw : ∀ d ∈ tables_1, d.before a0 Z = true) (ws : List Jvm.Cond) (i1 : Int32) (i2 : Int32) (u3 : Value) (h0 : Heap) (n0 : Nat) (Z0 : n0 ≤ h0.size) (ru3 : Value.isRef u3 = true) (hy1 : ¬ (i1 < (0 : Int32))) (hy2 : i1 < i2)  :
    OwnM l Z nM1 jdk_41_method_11_code 3 (some .int) ws ({ frames := 0, cells := 0, slots := 0, locals := 0 } : Room) #[(.int i1), (.int i2), u3] h0 (Q22_4 Z i1 i2 u3 h0 n0) := by
  refine own_body (plainFor_of_name pn_2) ?_
  intro p e s m below meth c s₁ G hx hby hml hZ hown hnm hret X0 e0 step fin
  replace hown : s.vm.findClass "jdk/internal/util/Preconditions" = some m.cls := hown
  have N0 := Fr.nil n0
  have KK : OwnK p e below c _ G := ⟨step, hx, hby⟩
  refine step (s₁.setTop (mkF m 0 #[vi i1, vi i2, .val u3] [])) (fun t k => castTop (ef_22_4 m i1 i2 u3 ru3) k) ?_
  refine oil KK X0 d22_0 i1 1 rfl rfl ?_
  have hc1_1 : ¬ (i1 < (0 : Int32)) := hy1
  refine step (s₁.setTop (mkF m 4 #[vi i1, vi i2, .val u3] [])) (fun t k => XS.ifNo X0.here hx rfl (hb hby d22_1) rfl ((if0 _ _).trans (flt hc1_1).1) k) ?_
  refine oil KK X0 d22_4 i1 5 rfl rfl ?_
  refine oil KK X0 d22_5 i2 6 rfl rfl ?_
  have hc6_2 : i1 < i2 := hy2
  refine oiy KK X0 d22_6 16 (tlt hc6_2).1 (by decide) rfl ?_
  refine oil KK X0 d22_16 i1 17 rfl rfl ?_
  refine fin (v := some (.int i1)) X0 (fun h => by cases h) ?_ (by decide) (by decide) (fun fs hr => retI X0 hx hret (hb hby d22_17) hr)
  show Q22_4 Z i1 i2 u3 h0 n0 (some (.int i1)) s₁.heap _
  rw [e0]
  exact ⟨rfl, N0, rfl⟩
theorem ef_21_3 (m : MethodId) (x0 : Int32) (x1 : Int32) : entryFrame m #[(.int x0), (.int x1)] 2 = mkF m 0 #[.val (.int x0), .val (.int x1)] [] := by first | (simp [entryFrame, mkF, argsToLocals, Value.category]; done) | rfl
def Q21_3 (Z : State) (i1 : Int32) (i2 : Int32) (u3 : Value) (h0 : Heap) (n0 : Nat) (v : Option Value) (h : Heap) (L : List Loc) : Prop := v = none ∧ Fr n0 L ∧ h = h0
set_option maxRecDepth 65536 in
set_option maxHeartbeats 40000000 in
theorem rm21_3 (l : Launch) (Z : State) (a0 : Array Value) (hw : ∀ d ∈ tables_1, d.before a0 Z = true) (ws : List Jvm.Cond) (i1 : Int32) (i2 : Int32) (u3 : Value) (h0 : Heap) (n0 : Nat) (Z0 : n0 ≤ h0.size) (ru3 : Value.isRef u3 = true) (Sx1 : Sta Z h0 "jdk/internal/util/Preconditions" "SIOOBE_FORMATTER" "Ljava/util/function/BiFunction;" u3) (hy2 : ¬ (i1 < (0 : Int32))) (hy3 : i1 < i2)  :
    OwnM l Z nM2 jdk_42_method_155_code 2 none ws ({ frames := 1, cells := 0, slots := 0, locals := 14 } : Room) #[(.int i1), (.int i2)] h0 (Q21_3 Z i1 i2 u3 h0 n0) := by
  refine own_body (plainFor_of_name pn_0) ?_
  intro p e s m below meth c s₁ G hx hby hml hZ hown hnm hret X0 e0 step fin
  replace hown : s.vm.findClass "java/lang/String" = some m.cls := hown
  have N0 := Fr.nil n0
  have KK : OwnK p e below c _ G := ⟨step, hx, hby⟩
  refine step (s₁.setTop (mkF m 0 #[vi i1, vi i2] [])) (fun t k => castTop (ef_21_3 m i1 i2) k) ?_
  refine oil KK X0 d21_0 i1 1 rfl rfl ?_
  refine oil KK X0 d21_1 i2 2 rfl rfl ?_
  obtain ⟨T1, X1, e1, st1⟩ := getS2 X0 hx hZ hown (host := "") (Or.inl (ow hw 58 rfl)) Via.refl e0 Sx1 (g := (mkF m 2 #[vi i1, vi i2] [(.int i2), (.int i1)])) rfl (hb hby d21_2)
  refine step (T1.setTop (mkF m 5 #[vi i1, vi i2] [u3, (.int i2), (.int i1)])) (fun t k => st1 t k) ?_
  obtain ⟨_, _, ⟨T2, L2, k2, n2⟩, -, X2, ⟨Lc2, hQ2, l2, y2, z2⟩, st2⟩ := Jvm.LawKit.callS X1 hx (y := nM1) hown (mvT hZ (ow hw 97 rfl)) (mvT hZ (ow hw 98 rfl)) (mvT hZ (ow hw 59 rfl)) (mvT hZ (ow hw 99 rfl)) (by decide) (backOf (W := 0) (rm22_4 l Z a0 hw [] i1 i2 u3 h0 n0 Z0 ru3 hy2 hy3) hZ (ow hw 99 rfl) (ow hw 59 rfl) (by decide) (by decide)) (g := (mkF m 5 #[vi i1, vi i2] [u3, (.int i2), (.int i1)])) rfl (by rw [hml]; rfl) (argsL := [(.int i1), (.int i2), u3]) (rest := []) (lenOf pd_3 rfl) rfl (omw rfl rfl) (hb hby d21_5) (fun _ _ => ⟨rfl, e1, (by decide : 0 + 0 ≤ _), (by decide : 0 + 0 ≤ _)⟩)
  dsimp only [Pt.U, Pt.locs, Pt.cells, Pt.slots] at X2 l2 y2 z2 st2 hQ2
  subst l2 y2 z2
  obtain ⟨rfl, N2q, e2q⟩ := hQ2
  have N2 := Fr.app N0 N2q
  refine step (T2.setTop (mkF m 8 #[vi i1, vi i2] [(.int i1)])) (fun t k => st2 t k) ?_
  refine step (T2.setTop (mkF m 9 #[vi i1, vi i2] [])) (fun t k => XS.pop X2.here hx rfl (hb hby d21_8) rfl rfl k) ?_
  refine fin (v := none) X2 (fun _ => rfl) ?_ (by decide) (by decide) (fun fs hr => X2.returnOut hx hret (hb hby d21_9) hr)
  show Q21_3 Z i1 i2 u3 h0 n0 (none) T2.heap _
  rw [e2q]
  exact ⟨rfl, N2, rfl⟩
theorem ef_20_2 (m : MethodId) (x0 : Addr) (x1 : Int32) : entryFrame m #[(.ref x0), (.int x1)] 2 = mkF m 0 #[.val (.ref x0), .val (.int x1)] [] := by first | (simp [entryFrame, mkF, argsToLocals, Value.category]; done) | rfl
def Q20_2 (Z : State) (o1 : Addr) (i1 : Int32) (u2 : Value) (kc3 : ClassId) (i4 : Int32) (xs5 : List Int32) (h0 : Heap) (n0 : Nat) (v : Option Value) (h : Heap) (L : List Loc) : Prop := v = some (.int (nar .char (((List.getD xs5 (i1).toNatClampNeg (0 : Int32)) &&& (255 : Int32)).toUInt32.toUInt16.toUInt32.toInt32))) ∧ Fr n0 L ∧ h = h0
set_option maxRecDepth 65536 in
set_option maxHeartbeats 40000000 in
theorem rm20_2 (l : Launch) (Z : State) (a0 : Array Value) (hw : ∀ d ∈ tables_1, d.before a0 Z = true) (ws : List Jvm.Cond) (o1 : Addr) (i1 : Int32) (u2 : Value) (kc3 : ClassId) (i4 : Int32) (xs5 : List Int32) (h0 : Heap) (n0 : Nat) (Z0 : n0 ≤ h0.size) (ru2 : Value.isRef u2 = true) (Sx1 : Sta Z h0 "jdk/internal/util/Preconditions" "SIOOBE_FORMATTER" "Ljava/util/function/BiFunction;" u2) (Pm2 : Arv Z h0 o1 kc3 .byte i4 (List.map Value.int xs5) (.int 0)) (hy3 : ¬ (i1 < (0 : Int32))) (hy4 : i1 < i4)  :
    OwnM l Z nM3 jdk_43_method_2_code 2 (some .char) ws ({ frames := 2, cells := 0, slots := 0, locals := 27 } : Room) #[(.ref o1), (.int i1)] h0 (Q20_2 Z o1 i1 u2 kc3 i4 xs5 h0 n0) := by
  refine own_body (plainFor_of_name pn_1) ?_
  intro p e s m below meth c s₁ G hx hby hml hZ hown hnm hret X0 e0 step fin
  replace hown : s.vm.findClass "java/lang/StringLatin1" = some m.cls := hown
  have N0 := Fr.nil n0
  have KK : OwnK p e below c _ G := ⟨step, hx, hby⟩
  refine step (s₁.setTop (mkF m 0 #[vr o1, vi i1] [])) (fun t k => castTop (ef_20_2 m o1 i1) k) ?_
  refine oil KK X0 d20_0 i1 1 rfl rfl ?_
  refine oal KK X0 d20_1 (.ref o1) 2 rfl rfl rfl ?_
  obtain ⟨cl1, Ar1, q1, S1, N1n, H1, G1⟩ := id Pm2
  refine step (s₁.setTop (mkF m 3 #[vr o1, vi i1] [(.int i4), (.int i1)])) (fun t k => X0.arraylength hx (by rw [e0]; exact Ar1.1) (State.isArrayOf_alike hZ.alike Ar1.2.1) (g := (mkF m 2 #[vr o1, vi i1] [(.ref o1), (.int i1)])) rfl rfl (hb hby d20_2) t (by rw [len_of S1 N1n]; exact k)) ?_
  obtain ⟨_, _, ⟨T2, L2, k2, n2⟩, -, X2, ⟨Lc2, hQ2, l2, y2, z2⟩, st2⟩ := Jvm.LawKit.callS X0 hx (y := nM2) hown (mvT hZ (ow hw 94 rfl)) (mvT hZ (ow hw 95 rfl)) (mvT hZ (ow hw 11 rfl)) (mvT hZ (ow hw 96 rfl)) (by decide) (backOf (W := 0) (rm21_3 l Z a0 hw [] i1 i4 u2 h0 n0 Z0 ru2 Sx1 hy3 hy4) hZ (ow hw 96 rfl) (ow hw 11 rfl) (by decide) (by decide)) (g := (mkF m 3 #[vr o1, vi i1] [(.int i4), (.int i1)])) rfl (by rw [hml]; rfl) (argsL := [(.int i1), (.int i4)]) (rest := []) (lenOf pd_2 rfl) rfl (omw rfl rfl) (hb hby d20_3) (fun _ _ => ⟨rfl, e0, (by decide : 0 + 0 ≤ _), (by decide : 0 + 0 ≤ _)⟩)
  dsimp only [Pt.U, Pt.locs, Pt.cells, Pt.slots] at X2 l2 y2 z2 st2 hQ2
  subst l2 y2 z2
  obtain ⟨rfl, N2q, e2q⟩ := hQ2
  have N2 := Fr.app N0 N2q
  refine step (T2.setTop (mkF m 6 #[vr o1, vi i1] [])) (fun t k => st2 t k) ?_
  refine oal KK X2 d20_6 (.ref o1) 7 rfl rfl rfl ?_
  refine oil KK X2 d20_7 i1 8 rfl rfl ?_
  obtain ⟨cl3, Ar3, q3, S3, N3n, H3, G3⟩ := id Pm2
  have hin3 : ¬ (i1 < 0 ∨ cl3.slots.size ≤ (i1).toNatClampNeg) := inb_of S3 ⟨hy3, hy4⟩
  have hat3 : cl3.slots[(i1).toNatClampNeg]? = some (.int (List.getD xs5 (i1).toNatClampNeg (0 : Int32))) := H3.at hin3 (own_getD xs5 _ _)
  refine step (T2.setTop (mkF m 9 #[vr o1, vi i1] [(.int (List.getD xs5 (i1).toNatClampNeg (0 : Int32)))])) (fun t k => X2.baloadBytes hx (j := i1) (v := (.int (List.getD xs5 (i1).toNatClampNeg (0 : Int32)))) (by rw [e2q]; exact Ar3.1) (State.isArrayOf_alike hZ.alike Ar3.2.1) Ar3.2.2 hin3 hat3 (g := (mkF m 8 #[vr o1, vi i1] [(.int i1), (.ref o1)])) rfl rfl (hb hby d20_8) t k) ?_
  refine osi KK X2 d20_9 255 12 rfl rfl ?_
  refine step (T2.setTop (mkF m 13 #[vr o1, vi i1] [(.int ((List.getD xs5 (i1).toNatClampNeg (0 : Int32)) &&& (255 : Int32)))])) (fun t k => XS.iand X2.here hx rfl (hb hby d20_12) rfl k) ?_
  refine step (T2.setTop (mkF m 14 #[vr o1, vi i1] [(.int (((List.getD xs5 (i1).toNatClampNeg (0 : Int32)) &&& (255 : Int32)).toUInt32.toUInt16.toUInt32.toInt32))])) (fun t k => XS.i2c X2.here hx rfl (hb hby d20_13) rfl k) ?_
  refine fin (v := some (.int (nar .char (((List.getD xs5 (i1).toNatClampNeg (0 : Int32)) &&& (255 : Int32)).toUInt32.toUInt16.toUInt32.toInt32)))) X2 (fun h => by cases h) ?_ (by decide) (by decide) (fun fs hr => retN X2 hx (t := .char) hret (by simp) (hb hby d20_14) hr)
  show Q20_2 Z o1 i1 u2 kc3 i4 xs5 h0 n0 (some (.int (nar .char (((List.getD xs5 (i1).toNatClampNeg (0 : Int32)) &&& (255 : Int32)).toUInt32.toUInt16.toUInt32.toInt32)))) T2.heap _
  rw [e2q]
  exact ⟨rfl, N2, rfl⟩
def Q19_5 (Z : State) (o1 : Addr) (i1 : Int32) (h0 : Heap) (n0 : Nat) (v : Option Value) (h : Heap) (L : List Loc) : Prop := v = some (.int 0) ∧ Fr n0 L ∧ h = h0
set_option maxRecDepth 65536 in
set_option maxHeartbeats 40000000 in
theorem rm19_5 (l : Launch) (Z : State) (a0 : Array Value) (hw : ∀ d ∈ tables_1, d.before a0 Z = true) (ws : List Jvm.Cond) (o1 : Addr) (i1 : Int32) (h0 : Heap) (n0 : Nat) (Z0 : n0 ≤ h0.size) (Sx0 : Sta Z h0 "java/lang/String" "COMPACT_STRINGS" "Z" (.int i1)) (Pm1 : Exa Z h0 o1 "java/lang/String") (Pm2 : Fld Z h0 o1 "java/lang/String" "coder" "B" (.int 1)) (hy3 : ¬ (i1 = (0 : Int32)))  :
    OwnM l Z nM0 jdk_42_method_154_code 1 (some .boolean) ws ({ frames := 0, cells := 0, slots := 0, locals := 0 } : Room) #[(.ref o1)] h0 (Q19_5 Z o1 i1 h0 n0) := by
  refine own_body (plainFor_of_name pn_0) ?_
  intro p e s m below meth c s₁ G hx hby hml hZ hown hnm hret X0 e0 step fin
  replace hown : s.vm.findClass "java/lang/String" = some m.cls := hown
  have N0 := Fr.nil n0
  have KK : OwnK p e below c _ G := ⟨step, hx, hby⟩
  refine step (s₁.setTop (mkF m 0 #[vr o1] [])) (fun t k => castTop (ef_19_1 m o1) k) ?_
  obtain ⟨T1, X1, e1, st1⟩ := getS2 X0 hx hZ hown (host := "") (Or.inl (ow hw 48 rfl)) Via.refl e0 Sx0 (g := (mkF m 0 #[vr o1] [])) rfl (hb hby d19_0)
  refine step (T1.setTop (mkF m 3 #[vr o1] [(.int i1)])) (fun t k => st1 t k) ?_
  have hc3_2 : ¬ (i1 = (0 : Int32)) := hy3
  refine step (T1.setTop (mkF m 6 #[vr o1] [])) (fun t k => XS.ifNo X1.here hx rfl (hb hby d19_3) rfl ((if0 _ _).trans (feq hc3_2).1) k) ?_
  refine oal KK X1 d19_6 (.ref o1) 7 rfl rfl rfl ?_
  obtain ⟨T3, X3, e3, st3⟩ := getF X1 hx hZ hown (host := "") (Or.inl (ow hw 29 rfl)) Via.refl e1 Pm2 (g := (mkF m 7 #[vr o1] [(.ref o1)])) rfl rfl (hb hby d19_7)
  refine step (T3.setTop (mkF m 10 #[vr o1] [(.int 1)])) (fun t k => st3 t k) ?_
  refine step (T3.setTop (mkF m 17 #[vr o1] [])) (fun t k => XS.ifYes X3.here hx rfl (pc0 := 10) (pc' := 17) rfl (hb hby d19_10) rfl ((if0 _ _).trans (feq (by decide : ¬ ((1 : Int32) = (0 : Int32)))).2) (by decide) (by decide) k) ?_
  refine oic KK X3 d19_17 0 18 rfl rfl ?_
  refine fin (v := some (.int (nar .boolean (0 : Int32)))) X3 (fun h => by cases h) ?_ (by decide) (by decide) (fun fs hr => retN X3 hx (t := .boolean) hret (by simp) (hb hby d19_18) hr)
  show Q19_5 Z o1 i1 h0 n0 (some (.int (nar .boolean (0 : Int32)))) T3.heap _
  rw [e3]
  exact ⟨rfl, N0, rfl⟩
theorem d35_0 : decode jdk_52_method_83_code 0 = .ok (.iload_n 1, 1) := by decide +kernel
theorem d35_1 : decode jdk_52_method_83_code 1 = .ok (.aload_n 0, 1) := by decide +kernel
theorem d35_2 : decode jdk_52_method_83_code 2 = .ok (.invokestatic 67, 3) := by decide +kernel
theorem d35_5 : decode jdk_52_method_83_code 5 = .ok (.aload_n 0, 1) := by decide +kernel
theorem d35_6 : decode jdk_52_method_83_code 6 = .ok (.iload_n 1, 1) := by decide +kernel
theorem d35_7 : decode jdk_52_method_83_code 7 = .ok (.invokestatic 71, 3) := by decide +kernel
theorem d35_10 : decode jdk_52_method_83_code 10 = .ok (.ireturn, 1) := by decide +kernel
theorem pn_3 : plainName "java/lang/StringUTF16" = true := by first | (simp [plainName, overriddenIn]; done) | decide +kernel
theorem pd_4 : parseMethodDescriptor "(I[B)V" = some ⟨[.int, (.array .byte)], none⟩ := by decide +kernel
theorem d36_0 : decode jdk_52_method_91_code 0 = .ok (.iload_n 0, 1) := by decide +kernel
theorem d36_1 : decode jdk_52_method_91_code 1 = .ok (.aload_n 1, 1) := by decide +kernel
theorem d36_2 : decode jdk_52_method_91_code 2 = .ok (.invokestatic 48, 3) := by decide +kernel
theorem d36_5 : decode jdk_52_method_91_code 5 = .ok (.invokestatic 414, 3) := by decide +kernel
theorem d36_8 : decode jdk_52_method_91_code 8 = .ok (.return_, 1) := by decide +kernel
theorem pd_5 : parseMethodDescriptor "([B)I" = some ⟨[(.array .byte)], some .int⟩ := by decide +kernel
theorem d37_0 : decode jdk_52_method_6_code 0 = .ok (.aload_n 0, 1) := by decide +kernel
theorem d37_1 : decode jdk_52_method_6_code 1 = .ok (.arraylength, 1) := by decide +kernel
theorem d37_2 : decode jdk_52_method_6_code 2 = .ok (.iconst 1, 1) := by decide +kernel
theorem d37_3 : decode jdk_52_method_6_code 3 = .ok (.ishr, 1) := by decide +kernel
theorem d37_4 : decode jdk_52_method_6_code 4 = .ok (.ireturn, 1) := by decide +kernel
def Q37_8 (Z : State) (o1 : Addr) (kc1 : ClassId) (i2 : Int32) (xs3 : List Int32) (h0 : Heap) (n0 : Nat) (v : Option Value) (h : Heap) (L : List Loc) : Prop := v = some (.int (i2 >>> ((1 : Int32) &&& 31))) ∧ Fr n0 L ∧ h = h0
set_option maxRecDepth 65536 in
set_option maxHeartbeats 40000000 in
theorem rm37_8 (l : Launch) (Z : State) (a0 : Array Value) (hw : ∀ d ∈ tables_1, d.before a0 Z = true) (ws : List Jvm.Cond) (o1 : Addr) (kc1 : ClassId) (i2 : Int32) (xs3 : List Int32) (h0 : Heap) (n0 : Nat) (Z0 : n0 ≤ h0.size) (Pm0 : Arv Z h0 o1 kc1 .byte i2 (List.map Value.int xs3) (.int 0))  :
    OwnM l Z nM4 jdk_52_method_6_code 1 (some .int) ws ({ frames := 0, cells := 0, slots := 0, locals := 0 } : Room) #[(.ref o1)] h0 (Q37_8 Z o1 kc1 i2 xs3 h0 n0) := by
  refine own_body (plainFor_of_name pn_3) ?_
  intro p e s m below meth c s₁ G hx hby hml hZ hown hnm hret X0 e0 step fin
  replace hown : s.vm.findClass "java/lang/StringUTF16" = some m.cls := hown
  have N0 := Fr.nil n0
  have KK : OwnK p e below c _ G := ⟨step, hx, hby⟩
  refine step (s₁.setTop (mkF m 0 #[vr o1] [])) (fun t k => castTop (ef_19_1 m o1) k) ?_
  refine oal KK X0 d37_0 (.ref o1) 1 rfl rfl rfl ?_
  obtain ⟨cl1, Ar1, q1, S1, N1n, H1, G1⟩ := id Pm0
  refine step (s₁.setTop (mkF m 2 #[vr o1] [(.int i2)])) (fun t k => X0.arraylength hx (by rw [e0]; exact Ar1.1) (State.isArrayOf_alike hZ.alike Ar1.2.1) (g := (mkF m 1 #[vr o1] [(.ref o1)])) rfl rfl (hb hby d37_1) t (by rw [len_of S1 N1n]; exact k)) ?_
  refine oic KK X0 d37_2 1 3 rfl rfl ?_
  refine step (s₁.setTop (mkF m 4 #[vr o1] [(.int (i2 >>> ((1 : Int32) &&& 31)))])) (fun t k => XS.ishr X0.here hx rfl (hb hby d37_3) rfl k) ?_
  refine fin (v := some (.int (i2 >>> ((1 : Int32) &&& 31)))) X0 (fun h => by cases h) ?_ (by decide) (by decide) (fun fs hr => retI X0 hx hret (hb hby d37_4) hr)
  show Q37_8 Z o1 kc1 i2 xs3 h0 n0 (some (.int (i2 >>> ((1 : Int32) &&& 31)))) s₁.heap _
  rw [e0]
  exact ⟨rfl, N0, rfl⟩
def Q22_10 (Z : State) (i1 : Int32) (i2 : Int32) (u3 : Value) (h0 : Heap) (n0 : Nat) (v : Option Value) (h : Heap) (L : List Loc) : Prop := v = some (.int i1) ∧ Fr n0 L ∧ h = h0
set_option maxRecDepth 65536 in
set_option maxHeartbeats 40000000 in
theorem rm22_10 (l : Launch) (Z : State) (a0 : Array Value) (hw : ∀ d ∈ tables_1, d.before a0 Z = true) (ws : List Jvm.Cond) (i1 : Int32) (i2 : Int32) (u3 : Value) (h0 : Heap) (n0 : Nat) (Z0 : n0 ≤ h0.size) (ru3 : Value.isRef u3 = true) (hy1 : ¬ (((i1 <<< ((1 : Int32) &&& 31)) + (1 : Int32)) < (0 : Int32))) (hy2 : ¬ ((i1 <<< ((1 : Int32) &&& 31)) < (0 : Int32))) (hy3 : ¬ (i1 < (0 : Int32))) (hy4 : i1 < i2)  :
    OwnM l Z nM1 jdk_41_method_11_code 3 (some .int) ws ({ frames := 0, cells := 0, slots := 0, locals := 0 } : Room) #[(.int i1), (.int i2), u3] h0 (Q22_10 Z i1 i2 u3 h0 n0) := by
  refine own_body (plainFor_of_name pn_2) ?_
  intro p e s m below meth c s₁ G hx hby hml hZ hown hnm hret X0 e0 step fin
  replace hown : s.vm.findClass "jdk/internal/util/Preconditions" = some m.cls := hown
  have N0 := Fr.nil n0
  have KK : OwnK p e below c _ G := ⟨step, hx, hby⟩
  refine step (s₁.setTop (mkF m 0 #[vi i1, vi i2, .val u3] [])) (fun t k => castTop (ef_22_4 m i1 i2 u3 ru3) k) ?_
  refine oil KK X0 d22_0 i1 1 rfl rfl ?_
  have hc1_1 : ¬ (i1 < (0 : Int32)) := hy3
  refine step (s₁.setTop (mkF m 4 #[vi i1, vi i2, .val u3] [])) (fun t k => XS.ifNo X0.here hx rfl (hb hby d22_1) rfl ((if0 _ _).trans (flt hc1_1).1) k) ?_
  refine oil KK X0 d22_4 i1 5 rfl rfl ?_
  refine oil KK X0 d22_5 i2 6 rfl rfl ?_
  have hc6_2 : i1 < i2 := hy4
  refine oiy KK X0 d22_6 16 (tlt hc6_2).1 (by decide) rfl ?_
  refine oil KK X0 d22_16 i1 17 rfl rfl ?_
  refine fin (v := some (.int i1)) X0 (fun h => by cases h) ?_ (by decide) (by decide) (fun fs hr => retI X0 hx hret (hb hby d22_17) hr)
  show Q22_10 Z i1 i2 u3 h0 n0 (some (.int i1)) s₁.heap _
  rw [e0]
  exact ⟨rfl, N0, rfl⟩
def Q21_9 (Z : State) (i1 : Int32) (i2 : Int32) (u3 : Value) (h0 : Heap) (n0 : Nat) (v : Option Value) (h : Heap) (L : List Loc) : Prop := v = none ∧ Fr n0 L ∧ h = h0
set_option maxRecDepth 65536 in
set_option maxHeartbeats 40000000 in
theorem rm21_9 (l : Launch) (Z : State) (a0 : Array Value) (hw : ∀ d ∈ tables_1, d.before a0 Z = true) (ws : List Jvm.Cond) (i1 : Int32) (i2 : Int32) (u3 : Value) (h0 : Heap) (n0 : Nat) (Z0 : n0 ≤ h0.size) (ru3 : Value.isRef u3 = true) (Sx1 : Sta Z h0 "jdk/internal/util/Preconditions" "SIOOBE_FORMATTER" "Ljava/util/function/BiFunction;" u3) (hy2 : ¬ (((i1 <<< ((1 : Int32) &&& 31)) + (1 : Int32)) < (0 : Int32))) (hy3 : ¬ ((i1 <<< ((1 : Int32) &&& 31)) < (0 : Int32))) (hy4 : ¬ (i1 < (0 : Int32))) (hy5 : i1 < i2)  :
    OwnM l Z nM2 jdk_42_method_155_code 2 none ws ({ frames := 1, cells := 0, slots := 0, locals := 14 } : Room) #[(.int i1), (.int i2)] h0 (Q21_9 Z i1 i2 u3 h0 n0) := by
  refine own_body (plainFor_of_name pn_0) ?_
  intro p e s m below meth c s₁ G hx hby hml hZ hown hnm hret X0 e0 step fin
  replace hown : s.vm.findClass "java/lang/String" = some m.cls := hown
  have N0 := Fr.nil n0
  have KK : OwnK p e below c _ G := ⟨step, hx, hby⟩
  refine step (s₁.setTop (mkF m 0 #[vi i1, vi i2] [])) (fun t k => castTop (ef_21_3 m i1 i2) k) ?_
  refine oil KK X0 d21_0 i1 1 rfl rfl ?_
  refine oil KK X0 d21_1 i2 2 rfl rfl ?_
  obtain ⟨T1, X1, e1, st1⟩ := getS2 X0 hx hZ hown (host := "") (Or.inl (ow hw 58 rfl)) Via.refl e0 Sx1 (g := (mkF m 2 #[vi i1, vi i2] [(.int i2), (.int i1)])) rfl (hb hby d21_2)
  refine step (T1.setTop (mkF m 5 #[vi i1, vi i2] [u3, (.int i2), (.int i1)])) (fun t k => st1 t k) ?_
  obtain ⟨_, _, ⟨T2, L2, k2, n2⟩, -, X2, ⟨Lc2, hQ2, l2, y2, z2⟩, st2⟩ := Jvm.LawKit.callS X1 hx (y := nM1) hown (mvT hZ (ow hw 97 rfl)) (mvT hZ (ow hw 98 rfl)) (mvT hZ (ow hw 59 rfl)) (mvT hZ (ow hw 99 rfl)) (by decide) (backOf (W := 0) (rm22_10 l Z a0 hw [] i1 i2 u3 h0 n0 Z0 ru3 hy2 hy3 hy4 hy5) hZ (ow hw 99 rfl) (ow hw 59 rfl) (by decide) (by decide)) (g := (mkF m 5 #[vi i1, vi i2] [u3, (.int i2), (.int i1)])) rfl (by rw [hml]; rfl) (argsL := [(.int i1), (.int i2), u3]) (rest := []) (lenOf pd_3 rfl) rfl (omw rfl rfl) (hb hby d21_5) (fun _ _ => ⟨rfl, e1, (by decide : 0 + 0 ≤ _), (by decide : 0 + 0 ≤ _)⟩)
  dsimp only [Pt.U, Pt.locs, Pt.cells, Pt.slots] at X2 l2 y2 z2 st2 hQ2
  subst l2 y2 z2
  obtain ⟨rfl, N2q, e2q⟩ := hQ2
  have N2 := Fr.app N0 N2q
  refine step (T2.setTop (mkF m 8 #[vi i1, vi i2] [(.int i1)])) (fun t k => st2 t k) ?_
  refine step (T2.setTop (mkF m 9 #[vi i1, vi i2] [])) (fun t k => XS.pop X2.here hx rfl (hb hby d21_8) rfl rfl k) ?_
  refine fin (v := none) X2 (fun _ => rfl) ?_ (by decide) (by decide) (fun fs hr => X2.returnOut hx hret (hb hby d21_9) hr)
  show Q21_9 Z i1 i2 u3 h0 n0 (none) T2.heap _
  rw [e2q]
  exact ⟨rfl, N2, rfl⟩
theorem ef_36_7 (m : MethodId) (x0 : Int32) (x1 : Addr) : entryFrame m #[(.int x0), (.ref x1)] 2 = mkF m 0 #[.val (.int x0), .val (.ref x1)] [] := by first | (simp [entryFrame, mkF, argsToLocals, Value.category]; done) | rfl
def Q36_7 (Z : State) (i1 : Int32) (o1 : Addr) (u2 : Value) (kc3 : ClassId) (i4 : Int32) (xs5 : List Int32) (h0 : Heap) (n0 : Nat) (v : Option Value) (h : Heap) (L : List Loc) : Prop := v = none ∧ Fr n0 L ∧ h = h0
set_option maxRecDepth 65536 in
set_option maxHeartbeats 40000000 in
theorem rm36_7 (l : Launch) (Z : State) (a0 : Array Value) (hw : ∀ d ∈ tables_1, d.before a0 Z = true) (ws : List Jvm.Cond) (i1 : Int32) (o1 : Addr) (u2 : Value) (kc3 : ClassId) (i4 : Int32) (xs5 : List Int32) (h0 : Heap) (n0 : Nat) (Z0 : n0 ≤ h0.size) (ru2 : Value.isRef u2 = true) (Sx1 : Sta Z h0 "jdk/internal/util/Preconditions" "SIOOBE_FORMATTER" "Ljava/util/function/BiFunction;" u2) (Pm2 : Arv Z h0 o1 kc3 .byte i4 (List.map Value.int xs5) (.int 0)) (hy3 : ¬ (((i1 <<< ((1 : Int32) &&& 31)) + (1 : Int32)) < (0 : Int32))) (hy4 : ((i1 <<< ((1 : Int32) &&& 31)) + (1 : Int32)) < i4) (hy5 : ¬ ((i1 <<< ((1 : Int32) &&& 31)) < (0 : Int32))) (hy6 : (i1 <<< ((1 : Int32) &&& 31)) < i4) (hy7 : ¬ (i1 < (0 : Int32))) (hy8 : i1 < (i4 >>> ((1 : Int32) &&& 31)))  :
    OwnM l Z nM5 jdk_52_method_91_code 2 none ws ({ frames := 2, cells := 0, slots := 0, locals := 27 } : Room) #[(.int i1), (.ref o1)] h0 (Q36_7 Z i1 o1 u2 kc3 i4 xs5 h0 n0) := by
  refine own_body (plainFor_of_name pn_3) ?_
  intro p e s m below meth c s₁ G hx hby hml hZ hown hnm hret X0 e0 step fin
  replace hown : s.vm.findClass "java/lang/StringUTF16" = some m.cls := hown
  have N0 := Fr.nil n0
  have KK : OwnK p e below c _ G := ⟨step, hx, hby⟩
  refine step (s₁.setTop (mkF m 0 #[vi i1, vr o1] [])) (fun t k => castTop (ef_36_7 m i1 o1) k) ?_
  refine oil KK X0 d36_0 i1 1 rfl rfl ?_
  refine oal KK X0 d36_1 (.ref o1) 2 rfl rfl rfl ?_
  obtain ⟨_, _, ⟨T1, L1, k1, n1⟩, -, X1, ⟨Lc1, hQ1, l1, y1, z1⟩, st1⟩ := Jvm.LawKit.callS X0 hx (y := nM4) hown (mvT hZ (ow hw 153 rfl)) (mvT hZ (ow hw 154 rfl)) (mvT hZ (ow hw 69 rfl)) (mvT hZ (ow hw 155 rfl)) (by decide) (backOf (W := 1) (rm37_8 l Z a0 hw [] o1 kc3 i4 xs5 h0 n0 Z0 Pm2) hZ (ow hw 155 rfl) (ow hw 69 rfl) (by decide) (by decide)) (g := (mkF m 2 #[vi i1, vr o1] [(.ref o1), (.int i1)])) rfl (by rw [hml]; rfl) (argsL := [(.ref o1)]) (rest := [(.int i1)]) (lenOf pd_5 rfl) rfl (omw rfl rfl) (hb hby d36_2) (fun _ _ => ⟨rfl, e0, (by decide : 0 + 0 ≤ _), (by decide : 0 + 0 ≤ _)⟩)
  dsimp only [Pt.U, Pt.locs, Pt.cells, Pt.slots] at X1 l1 y1 z1 st1 hQ1
  subst l1 y1 z1
  obtain ⟨rfl, N1q, e1q⟩ := hQ1
  have N1 := Fr.app N0 N1q
  refine step (T1.setTop (mkF m 5 #[vi i1, vr o1] [(.int (i4 >>> ((1 : Int32) &&& 31))), (.int i1)])) (fun t k => st1 t k) ?_
  obtain ⟨_, _, ⟨T2, L2, k2, n2⟩, -, X2, ⟨Lc2, hQ2, l2, y2, z2⟩, st2⟩ := Jvm.LawKit.callS X1 hx (y := nM2) hown (mvT hZ (ow hw 156 rfl)) (mvT hZ (ow hw 95 rfl)) (mvT hZ (ow hw 11 rfl)) (mvT hZ (ow hw 96 rfl)) (by decide) (backOf (W := 0) (rm21_9 l Z a0 hw [] i1 (i4 >>> ((1 : Int32) &&& 31)) u2 h0 n0 Z0 ru2 Sx1 hy3 hy5 hy7 hy8) hZ (ow hw 96 rfl) (ow hw 11 rfl) (by decide) (by decide)) (g := (mkF m 5 #[vi i1, vr o1] [(.int (i4 >>> ((1 : Int32) &&& 31))), (.int i1)])) rfl (by rw [hml]; rfl) (argsL := [(.int i1), (.int (i4 >>> ((1 : Int32) &&& 31)))]) (rest := []) (lenOf pd_2 rfl) rfl (omw rfl rfl) (hb hby d36_5) (fun _ _ => ⟨rfl, e1q, (by decide : 0 + 0 ≤ _), (by decide : 0 + 0 ≤ _)⟩)
  dsimp only [Pt.U, Pt.locs, Pt.cells, Pt.slots] at X2 l2 y2 z2 st2 hQ2
  subst l2 y2 z2
  obtain ⟨rfl, N2q, e2q⟩ := hQ2
  have N2 := Fr.app N1 N2q
  refine step (T2.setTop (mkF m 8 #[vi i1, vr o1] [])) (fun t k => st2 t k) ?_
  refine fin (v := none) X2 (fun _ => rfl) ?_ (by decide) (by decide) (fun fs hr => X2.returnOut hx hret (hb hby d36_8) hr)
  show Q36_7 Z i1 o1 u2 kc3 i4 xs5 h0 n0 (none) T2.heap _
  rw [e2q]
  exact ⟨rfl, N2, rfl⟩
theorem d34_0 : decode jdk_52_method_5_code 0 = .ok (.getstatic 44, 3) := by decide +kernel
theorem d34_3 : decode jdk_52_method_5_code 3 = .ok (.ifCond .ne 25, 3) := by decide +kernel
theorem d34_6 : decode jdk_52_method_5_code 6 = .ok (.iload_n 1, 1) := by decide +kernel
theorem d34_7 : decode jdk_52_method_5_code 7 = .ok (.ifCond .lt 11, 3) := by decide +kernel
theorem d34_10 : decode jdk_52_method_5_code 10 = .ok (.iload_n 1, 1) := by decide +kernel
theorem d34_11 : decode jdk_52_method_5_code 11 = .ok (.aload_n 0, 1) := by decide +kernel
theorem d34_12 : decode jdk_52_method_5_code 12 = .ok (.invokestatic 48, 3) := by decide +kernel
theorem d34_15 : decode jdk_52_method_5_code 15 = .ok (.if_icmp .lt 13, 3) := by decide +kernel
theorem d34_18 : decode jdk_52_method_5_code 18 = .ok (.new 52, 3) := by decide +kernel
theorem d34_21 : decode jdk_52_method_5_code 21 = .ok (.dup, 1) := by decide +kernel
theorem d34_22 : decode jdk_52_method_5_code 22 = .ok (.ldc 54, 2) := by decide +kernel
theorem d34_24 : decode jdk_52_method_5_code 24 = .ok (.invokespecial 56, 3) := by decide +kernel
theorem d34_27 : decode jdk_52_method_5_code 27 = .ok (.athrow, 1) := by decide +kernel
theorem d34_28 : decode jdk_52_method_5_code 28 = .ok (.iload_n 1, 1) := by decide +kernel
theorem d34_29 : decode jdk_52_method_5_code 29 = .ok (.iconst 1, 1) := by decide +kernel
theorem d34_30 : decode jdk_52_method_5_code 30 = .ok (.ishl, 1) := by decide +kernel
theorem d34_31 : decode jdk_52_method_5_code 31 = .ok (.istore_n 1, 1) := by decide +kernel
theorem d34_32 : decode jdk_52_method_5_code 32 = .ok (.aload_n 0, 1) := by decide +kernel
theorem d34_33 : decode jdk_52_method_5_code 33 = .ok (.iload_n 1, 1) := by decide +kernel
theorem d34_34 : decode jdk_52_method_5_code 34 = .ok (.iinc 1 1, 3) := by decide +kernel
theorem d34_37 : decode jdk_52_method_5_code 37 = .ok (.baload, 1) := by decide +kernel
theorem d34_38 : decode jdk_52_method_5_code 38 = .ok (.sipush 255, 3) := by decide +kernel
theorem d34_41 : decode jdk_52_method_5_code 41 = .ok (.iand, 1) := by decide +kernel
theorem d34_42 : decode jdk_52_method_5_code 42 = .ok (.getstatic 59, 3) := by decide +kernel
theorem d34_45 : decode jdk_52_method_5_code 45 = .ok (.ishl, 1) := by decide +kernel
theorem d34_46 : decode jdk_52_method_5_code 46 = .ok (.aload_n 0, 1) := by decide +kernel
theorem d34_47 : decode jdk_52_method_5_code 47 = .ok (.iload_n 1, 1) := by decide +kernel
theorem d34_48 : decode jdk_52_method_5_code 48 = .ok (.baload, 1) := by decide +kernel
theorem d34_49 : decode jdk_52_method_5_code 49 = .ok (.sipush 255, 3) := by decide +kernel
theorem d34_52 : decode jdk_52_method_5_code 52 = .ok (.iand, 1) := by decide +kernel
theorem d34_53 : decode jdk_52_method_5_code 53 = .ok (.getstatic 63, 3) := by decide +kernel
theorem d34_56 : decode jdk_52_method_5_code 56 = .ok (.ishl, 1) := by decide +kernel
theorem d34_57 : decode jdk_52_method_5_code 57 = .ok (.ior, 1) := by decide +kernel
theorem d34_58 : decode jdk_52_method_5_code 58 = .ok (.i2c, 1) := by decide +kernel
theorem d34_59 : decode jdk_52_method_5_code 59 = .ok (.ireturn, 1) := by decide +kernel
def Q34_11 (Z : State) (o1 : Addr) (i1 : Int32) (kc2 : ClassId) (i3 : Int32) (xs4 : List Int32) (h0 : Heap) (n0 : Nat) (v : Option Value) (h : Heap) (L : List Loc) : Prop := v = some (.int (nar .char (((((List.getD xs4 ((i1 <<< ((1 : Int32) &&& 31))).toNatClampNeg (0 : Int32)) &&& (255 : Int32)) <<< ((0 : Int32) &&& 31)) ||| (((List.getD xs4 (((i1 <<< ((1 : Int32) &&& 31)) + (1 : Int32))).toNatClampNeg (0 : Int32)) &&& (255 : Int32)) <<< ((8 : Int32) &&& 31))).toUInt32.toUInt16.toUInt32.toInt32))) ∧ Fr n0 L ∧ h = h0
set_option maxRecDepth 65536 in
set_option maxHeartbeats 40000000 in
theorem rm34_11 (l : Launch) (Z : State) (a0 : Array Value) (hw : ∀ d ∈ tables_1, d.before a0 Z = true) (ws : List Jvm.Cond) (o1 : Addr) (i1 : Int32) (kc2 : ClassId) (i3 : Int32) (xs4 : List Int32) (h0 : Heap) (n0 : Nat) (Z0 : n0 ≤ h0.size) (Sx0 : Sta Z h0 "java/lang/StringUTF16" "$assertionsDisabled" "Z" (.int 1)) (Sx1 : Sta Z h0 "java/lang/StringUTF16" "HI_BYTE_SHIFT" "I" (.int 0)) (Sx2 : Sta Z h0 "java/lang/StringUTF16" "LO_BYTE_SHIFT" "I" (.int 8)) (Pm3 : Arv Z h0 o1 kc2 .byte i3 (List.map Value.int xs4) (.int 0)) (hy4 : ¬ (((i1 <<< ((1 : Int32) &&& 31)) + (1 : Int32)) < (0 : Int32))) (hy5 : ((i1 <<< ((1 : Int32) &&& 31)) + (1 : Int32)) < i3) (hy6 : ¬ ((i1 <<< ((1 : Int32) &&& 31)) < (0 : Int32))) (hy7 : (i1 <<< ((1 : Int32) &&& 31)) < i3) (hy8 : ¬ (i1 < (0 : Int32))) (hy9 : i1 < (i3 >>> ((1 : Int32) &&& 31)))  :
    OwnM l Z nM6 jdk_52_method_5_code 2 (some .char) ws ({ frames := 0, cells := 0, slots := 0, locals := 0 } : Room) #[(.ref o1), (.int i1)] h0 (Q34_11 Z o1 i1 kc2 i3 xs4 h0 n0) := by
  refine own_body (plainFor_of_name pn_3) ?_
  intro p e s m below meth c s₁ G hx hby hml hZ hown hnm hret X0 e0 step fin
  replace hown : s.vm.findClass "java/lang/StringUTF16" = some m.cls := hown
  have N0 := Fr.nil n0
  have KK : OwnK p e below c _ G := ⟨step, hx, hby⟩
  refine step (s₁.setTop (mkF m 0 #[vr o1, vi i1] [])) (fun t k => castTop (ef_20_2 m o1 i1) k) ?_
  obtain ⟨T1, X1, e1, st1⟩ := getS2 X0 hx hZ hown (host := "") (Or.inl (ow hw 141 rfl)) Via.refl e0 Sx0 (g := (mkF m 0 #[vr o1, vi i1] [])) rfl (hb hby d34_0)
  refine step (T1.setTop (mkF m 3 #[vr o1, vi i1] [(.int 1)])) (fun t k => st1 t k) ?_
  refine step (T1.setTop (mkF m 28 #[vr o1, vi i1] [])) (fun t k => XS.ifYes X1.here hx rfl (pc0 := 3) (pc' := 28) rfl (hb hby d34_3) rfl ((if0 _ _).trans (feq (by decide : ¬ ((1 : Int32) = (0 : Int32)))).2) (by decide) (by decide) k) ?_
  refine oil KK X1 d34_28 i1 29 rfl rfl ?_
  refine oic KK X1 d34_29 1 30 rfl rfl ?_
  refine step (T1.setTop (mkF m 31 #[vr o1, vi i1] [(.int (i1 <<< ((1 : Int32) &&& 31)))])) (fun t k => XS.ishl X1.here hx rfl (hb hby d34_30) rfl k) ?_
  refine ois KK X1 d34_31 #[vr o1, .val (.int (i1 <<< ((1 : Int32) &&& 31)))] 32 rfl rfl ?_
  refine oal KK X1 d34_32 (.ref o1) 33 rfl rfl rfl ?_
  refine oil KK X1 d34_33 (i1 <<< ((1 : Int32) &&& 31)) 34 rfl rfl ?_
  refine oii KK X1 d34_34 #[vr o1, .val (.int ((i1 <<< ((1 : Int32) &&& 31)) + (1 : Int32)))] 37 rfl rfl rfl ?_
  obtain ⟨cl2, Ar2, q2, S2, N2n, H2, G2⟩ := id Pm3
  have hin2 : ¬ ((i1 <<< ((1 : Int32) &&& 31)) < 0 ∨ cl2.slots.size ≤ ((i1 <<< ((1 : Int32) &&& 31))).toNatClampNeg) := inb_of S2 ⟨hy6, hy7⟩
  have hat2 : cl2.slots[((i1 <<< ((1 : Int32) &&& 31))).toNatClampNeg]? = some (.int (List.getD xs4 ((i1 <<< ((1 : Int32) &&& 31))).toNatClampNeg (0 : Int32))) := H2.at hin2 (own_getD xs4 _ _)
  refine step (T1.setTop (mkF m 38 #[vr o1, .val (.int ((i1 <<< ((1 : Int32) &&& 31)) + (1 : Int32)))] [(.int (List.getD xs4 ((i1 <<< ((1 : Int32) &&& 31))).toNatClampNeg (0 : Int32)))])) (fun t k => X1.baloadBytes hx (j := (i1 <<< ((1 : Int32) &&& 31))) (v := (.int (List.getD xs4 ((i1 <<< ((1 : Int32) &&& 31))).toNatClampNeg (0 : Int32)))) (by rw [e1]; exact Ar2.1) (State.isArrayOf_alike hZ.alike Ar2.2.1) Ar2.2.2 hin2 hat2 (g := (mkF m 37 #[vr o1, .val (.int ((i1 <<< ((1 : Int32) &&& 31)) + (1 : Int32)))] [(.int (i1 <<< ((1 : Int32) &&& 31))), (.ref o1)])) rfl rfl (hb hby d34_37) t k) ?_
  refine osi KK X1 d34_38 255 41 rfl rfl ?_
  refine step (T1.setTop (mkF m 42 #[vr o1, .val (.int ((i1 <<< ((1 : Int32) &&& 31)) + (1 : Int32)))] [(.int ((List.getD xs4 ((i1 <<< ((1 : Int32) &&& 31))).toNatClampNeg (0 : Int32)) &&& (255 : Int32)))])) (fun t k => XS.iand X1.here hx rfl (hb hby d34_41) rfl k) ?_
  obtain ⟨T3, X3, e3, st3⟩ := getS2 X1 hx hZ hown (host := "") (Or.inl (ow hw 142 rfl)) Via.refl e1 Sx1 (g := (mkF m 42 #[vr o1, .val (.int ((i1 <<< ((1 : Int32) &&& 31)) + (1 : Int32)))] [(.int ((List.getD xs4 ((i1 <<< ((1 : Int32) &&& 31))).toNatClampNeg (0 : Int32)) &&& (255 : Int32)))])) rfl (hb hby d34_42)
  refine step (T3.setTop (mkF m 45 #[vr o1, .val (.int ((i1 <<< ((1 : Int32) &&& 31)) + (1 : Int32)))] [(.int 0), (.int ((List.getD xs4 ((i1 <<< ((1 : Int32) &&& 31))).toNatClampNeg (0 : Int32)) &&& (255 : Int32)))])) (fun t k => st3 t k) ?_
  refine step (T3.setTop (mkF m 46 #[vr o1, .val (.int ((i1 <<< ((1 : Int32) &&& 31)) + (1 : Int32)))] [(.int (((List.getD xs4 ((i1 <<< ((1 : Int32) &&& 31))).toNatClampNeg (0 : Int32)) &&& (255 : Int32)) <<< ((0 : Int32) &&& 31)))])) (fun t k => XS.ishl X3.here hx rfl (hb hby d34_45) rfl k) ?_
  refine oal KK X3 d34_46 (.ref o1) 47 rfl rfl rfl ?_
  refine oil KK X3 d34_47 ((i1 <<< ((1 : Int32) &&& 31)) + (1 : Int32)) 48 rfl rfl ?_
  obtain ⟨cl4, Ar4, q4, S4, N4n, H4, G4⟩ := id Pm3
  have hin4 : ¬ (((i1 <<< ((1 : Int32) &&& 31)) + (1 : Int32)) < 0 ∨ cl4.slots.size ≤ (((i1 <<< ((1 : Int32) &&& 31)) + (1 : Int32))).toNatClampNeg) := inb_of S4 ⟨hy4, hy5⟩
  have hat4 : cl4.slots[(((i1 <<< ((1 : Int32) &&& 31)) + (1 : Int32))).toNatClampNeg]? = some (.int (List.getD xs4 (((i1 <<< ((1 : Int32) &&& 31)) + (1 : Int32))).toNatClampNeg (0 : Int32))) := H4.at hin4 (own_getD xs4 _ _)
  refine step (T3.setTop (mkF m 49 #[vr o1, .val (.int ((i1 <<< ((1 : Int32) &&& 31)) + (1 : Int32)))] [(.int (List.getD xs4 (((i1 <<< ((1 : Int32) &&& 31)) + (1 : Int32))).toNatClampNeg (0 : Int32))), (.int (((List.getD xs4 ((i1 <<< ((1 : Int32) &&& 31))).toNatClampNeg (0 : Int32)) &&& (255 : Int32)) <<< ((0 : Int32) &&& 31)))])) (fun t k => X3.baloadBytes hx (j := ((i1 <<< ((1 : Int32) &&& 31)) + (1 : Int32))) (v := (.int (List.getD xs4 (((i1 <<< ((1 : Int32) &&& 31)) + (1 : Int32))).toNatClampNeg (0 : Int32)))) (by rw [e3]; exact Ar4.1) (State.isArrayOf_alike hZ.alike Ar4.2.1) Ar4.2.2 hin4 hat4 (g := (mkF m 48 #[vr o1, .val (.int ((i1 <<< ((1 : Int32) &&& 31)) + (1 : Int32)))] [(.int ((i1 <<< ((1 : Int32) &&& 31)) + (1 : Int32))), (.ref o1), (.int (((List.getD xs4 ((i1 <<< ((1 : Int32) &&& 31))).toNatClampNeg (0 : Int32)) &&& (255 : Int32)) <<< ((0 : Int32) &&& 31)))])) rfl rfl (hb hby d34_48) t k) ?_
  refine osi KK X3 d34_49 255 52 rfl rfl ?_
  refine step (T3.setTop (mkF m 53 #[vr o1, .val (.int ((i1 <<< ((1 : Int32) &&& 31)) + (1 : Int32)))] [(.int ((List.getD xs4 (((i1 <<< ((1 : Int32) &&& 31)) + (1 : Int32))).toNatClampNeg (0 : Int32)) &&& (255 : Int32))), (.int (((List.getD xs4 ((i1 <<< ((1 : Int32) &&& 31))).toNatClampNeg (0 : Int32)) &&& (255 : Int32)) <<< ((0 : Int32) &&& 31)))])) (fun t k => XS.iand X3.here hx rfl (hb hby d34_52) rfl k) ?_
  obtain ⟨T5, X5, e5, st5⟩ := getS2 X3 hx hZ hown (host := "") (Or.inl (ow hw 143 rfl)) Via.refl e3 Sx2 (g := (mkF m 53 #[vr o1, .val (.int ((i1 <<< ((1 : Int32) &&& 31)) + (1 : Int32)))] [(.int ((List.getD xs4 (((i1 <<< ((1 : Int32) &&& 31)) + (1 : Int32))).toNatClampNeg (0 : Int32)) &&& (255 : Int32))), (.int (((List.getD xs4 ((i1 <<< ((1 : Int32) &&& 31))).toNatClampNeg (0 : Int32)) &&& (255 : Int32)) <<< ((0 : Int32) &&& 31)))])) rfl (hb hby d34_53)
  refine step (T5.setTop (mkF m 56 #[vr o1, .val (.int ((i1 <<< ((1 : Int32) &&& 31)) + (1 : Int32)))] [(.int 8), (.int ((List.getD xs4 (((i1 <<< ((1 : Int32) &&& 31)) + (1 : Int32))).toNatClampNeg (0 : Int32)) &&& (255 : Int32))), (.int (((List.getD xs4 ((i1 <<< ((1 : Int32) &&& 31))).toNatClampNeg (0 : Int32)) &&& (255 : Int32)) <<< ((0 : Int32) &&& 31)))])) (fun t k => st5 t k) ?_
  refine step (T5.setTop (mkF m 57 #[vr o1, .val (.int ((i1 <<< ((1 : Int32) &&& 31)) + (1 : Int32)))] [(.int (((List.getD xs4 (((i1 <<< ((1 : Int32) &&& 31)) + (1 : Int32))).toNatClampNeg (0 : Int32)) &&& (255 : Int32)) <<< ((8 : Int32) &&& 31))), (.int (((List.getD xs4 ((i1 <<< ((1 : Int32) &&& 31))).toNatClampNeg (0 : Int32)) &&& (255 : Int32)) <<< ((0 : Int32) &&& 31)))])) (fun t k => XS.ishl X5.here hx rfl (hb hby d34_56) rfl k) ?_
  refine step (T5.setTop (mkF m 58 #[vr o1, .val (.int ((i1 <<< ((1 : Int32) &&& 31)) + (1 : Int32)))] [(.int ((((List.getD xs4 ((i1 <<< ((1 : Int32) &&& 31))).toNatClampNeg (0 : Int32)) &&& (255 : Int32)) <<< ((0 : Int32) &&& 31)) ||| (((List.getD xs4 (((i1 <<< ((1 : Int32) &&& 31)) + (1 : Int32))).toNatClampNeg (0 : Int32)) &&& (255 : Int32)) <<< ((8 : Int32) &&& 31))))])) (fun t k => XS.ior X5.here hx rfl (hb hby d34_57) rfl k) ?_
  refine step (T5.setTop (mkF m 59 #[vr o1, .val (.int ((i1 <<< ((1 : Int32) &&& 31)) + (1 : Int32)))] [(.int (((((List.getD xs4 ((i1 <<< ((1 : Int32) &&& 31))).toNatClampNeg (0 : Int32)) &&& (255 : Int32)) <<< ((0 : Int32) &&& 31)) ||| (((List.getD xs4 (((i1 <<< ((1 : Int32) &&& 31)) + (1 : Int32))).toNatClampNeg (0 : Int32)) &&& (255 : Int32)) <<< ((8 : Int32) &&& 31))).toUInt32.toUInt16.toUInt32.toInt32))])) (fun t k => XS.i2c X5.here hx rfl (hb hby d34_58) rfl k) ?_
  refine fin (v := some (.int (nar .char (((((List.getD xs4 ((i1 <<< ((1 : Int32) &&& 31))).toNatClampNeg (0 : Int32)) &&& (255 : Int32)) <<< ((0 : Int32) &&& 31)) ||| (((List.getD xs4 (((i1 <<< ((1 : Int32) &&& 31)) + (1 : Int32))).toNatClampNeg (0 : Int32)) &&& (255 : Int32)) <<< ((8 : Int32) &&& 31))).toUInt32.toUInt16.toUInt32.toInt32)))) X5 (fun h => by cases h) ?_ (by decide) (by decide) (fun fs hr => retN X5 hx (t := .char) hret (by simp) (hb hby d34_59) hr)
  show Q34_11 Z o1 i1 kc2 i3 xs4 h0 n0 (some (.int (nar .char (((((List.getD xs4 ((i1 <<< ((1 : Int32) &&& 31))).toNatClampNeg (0 : Int32)) &&& (255 : Int32)) <<< ((0 : Int32) &&& 31)) ||| (((List.getD xs4 (((i1 <<< ((1 : Int32) &&& 31)) + (1 : Int32))).toNatClampNeg (0 : Int32)) &&& (255 : Int32)) <<< ((8 : Int32) &&& 31))).toUInt32.toUInt16.toUInt32.toInt32)))) T5.heap _
  rw [e5]
  exact ⟨rfl, N0, rfl⟩
def Q35_6 (Z : State) (o1 : Addr) (i1 : Int32) (u2 : Value) (kc3 : ClassId) (i4 : Int32) (xs5 : List Int32) (h0 : Heap) (n0 : Nat) (v : Option Value) (h : Heap) (L : List Loc) : Prop := v = some (.int (nar .char (nar .char (((((List.getD xs5 ((i1 <<< ((1 : Int32) &&& 31))).toNatClampNeg (0 : Int32)) &&& (255 : Int32)) <<< ((0 : Int32) &&& 31)) ||| (((List.getD xs5 (((i1 <<< ((1 : Int32) &&& 31)) + (1 : Int32))).toNatClampNeg (0 : Int32)) &&& (255 : Int32)) <<< ((8 : Int32) &&& 31))).toUInt32.toUInt16.toUInt32.toInt32)))) ∧ Fr n0 L ∧ h = h0
set_option maxRecDepth 65536 in
set_option maxHeartbeats 40000000 in
theorem rm35_6 (l : Launch) (Z : State) (a0 : Array Value) (hw : ∀ d ∈ tables_1, d.before a0 Z = true) (ws : List Jvm.Cond) (o1 : Addr) (i1 : Int32) (u2 : Value) (kc3 : ClassId) (i4 : Int32) (xs5 : List Int32) (h0 : Heap) (n0 : Nat) (Z0 : n0 ≤ h0.size) (ru2 : Value.isRef u2 = true) (Sx1 : Sta Z h0 "jdk/internal/util/Preconditions" "SIOOBE_FORMATTER" "Ljava/util/function/BiFunction;" u2) (Sx2 : Sta Z h0 "java/lang/StringUTF16" "$assertionsDisabled" "Z" (.int 1)) (Sx3 : Sta Z h0 "java/lang/StringUTF16" "HI_BYTE_SHIFT" "I" (.int 0)) (Sx4 : Sta Z h0 "java/lang/StringUTF16" "LO_BYTE_SHIFT" "I" (.int 8)) (Pm5 : Arv Z h0 o1 kc3 .byte i4 (List.map Value.int xs5) (.int 0)) (hy6 : ¬ (((i1 <<< ((1 : Int32) &&& 31)) + (1 : Int32)) < (0 : Int32))) (hy7 : ((i1 <<< ((1 : Int32) &&& 31)) + (1 : Int32)) < i4) (hy8 : ¬ ((i1 <<< ((1 : Int32) &&& 31)) < (0 : Int32))) (hy9 : (i1 <<< ((1 : Int32) &&& 31)) < i4) (hy10 : ¬ (i1 < (0 : Int32))) (hy11 : i1 < (i4 >>> ((1 : Int32) &&& 31)))  :
    OwnM l Z nM7 jdk_52_method_83_code 2 (some .char) ws ({ frames := 3, cells := 0, slots := 0, locals := 40 } : Room) #[(.ref o1), (.int i1)] h0 (Q35_6 Z o1 i1 u2 kc3 i4 xs5 h0 n0) := by
  refine own_body (plainFor_of_name pn_3) ?_
  intro p e s m below meth c s₁ G hx hby hml hZ hown hnm hret X0 e0 step fin
  replace hown : s.vm.findClass "java/lang/StringUTF16" = some m.cls := hown
  have N0 := Fr.nil n0
  have KK : OwnK p e below c _ G := ⟨step, hx, hby⟩
  refine step (s₁.setTop (mkF m 0 #[vr o1, vi i1] [])) (fun t k => castTop (ef_20_2 m o1 i1) k) ?_
  refine oil KK X0 d35_0 i1 1 rfl rfl ?_
  refine oal KK X0 d35_1 (.ref o1) 2 rfl rfl rfl ?_
  obtain ⟨_, _, ⟨T1, L1, k1, n1⟩, -, X1, ⟨Lc1, hQ1, l1, y1, z1⟩, st1⟩ := Jvm.LawKit.callS X0 hx (y := nM5) hown (mvT hZ (ow hw 150 rfl)) (mvT hZ (ow hw 151 rfl)) (mvT hZ (ow hw 69 rfl)) (mvT hZ (ow hw 152 rfl)) (by decide) (backOf (W := 0) (rm36_7 l Z a0 hw [] i1 o1 u2 kc3 i4 xs5 h0 n0 Z0 ru2 Sx1 Pm5 hy6 hy7 hy8 hy9 hy10 hy11) hZ (ow hw 152 rfl) (ow hw 69 rfl) (by decide) (by decide)) (g := (mkF m 2 #[vr o1, vi i1] [(.ref o1), (.int i1)])) rfl (by rw [hml]; rfl) (argsL := [(.int i1), (.ref o1)]) (rest := []) (lenOf pd_4 rfl) rfl (omw rfl rfl) (hb hby d35_2) (fun _ _ => ⟨rfl, e0, (by decide : 0 + 0 ≤ _), (by decide : 0 + 0 ≤ _)⟩)
  dsimp only [Pt.U, Pt.locs, Pt.cells, Pt.slots] at X1 l1 y1 z1 st1 hQ1
  subst l1 y1 z1
  obtain ⟨rfl, N1q, e1q⟩ := hQ1
  have N1 := Fr.app N0 N1q
  refine step (T1.setTop (mkF m 5 #[vr o1, vi i1] [])) (fun t k => st1 t k) ?_
  refine oal KK X1 d35_5 (.ref o1) 6 rfl rfl rfl ?_
  refine oil KK X1 d35_6 i1 7 rfl rfl ?_
  obtain ⟨_, _, ⟨T2, L2, k2, n2⟩, -, X2, ⟨Lc2, hQ2, l2, y2, z2⟩, st2⟩ := Jvm.LawKit.callS X1 hx (y := nM6) hown (mvT hZ (ow hw 144 rfl)) (mvT hZ (ow hw 145 rfl)) (mvT hZ (ow hw 69 rfl)) (mvT hZ (ow hw 146 rfl)) (by decide) (backOf (W := 0) (rm34_11 l Z a0 hw [] o1 i1 kc3 i4 xs5 h0 n0 Z0 Sx2 Sx3 Sx4 Pm5 hy6 hy7 hy8 hy9 hy10 hy11) hZ (ow hw 146 rfl) (ow hw 69 rfl) (by decide) (by decide)) (g := (mkF m 7 #[vr o1, vi i1] [(.int i1), (.ref o1)])) rfl (by rw [hml]; rfl) (argsL := [(.ref o1), (.int i1)]) (rest := []) (lenOf pd_1 rfl) rfl (omw rfl rfl) (hb hby d35_7) (fun _ _ => ⟨rfl, e1q, (by decide : 0 + 0 ≤ _), (by decide : 0 + 0 ≤ _)⟩)
  dsimp only [Pt.U, Pt.locs, Pt.cells, Pt.slots] at X2 l2 y2 z2 st2 hQ2
  subst l2 y2 z2
  obtain ⟨rfl, N2q, e2q⟩ := hQ2
  have N2 := Fr.app N1 N2q
  refine step (T2.setTop (mkF m 10 #[vr o1, vi i1] [(.int (nar .char (((((List.getD xs5 ((i1 <<< ((1 : Int32) &&& 31))).toNatClampNeg (0 : Int32)) &&& (255 : Int32)) <<< ((0 : Int32) &&& 31)) ||| (((List.getD xs5 (((i1 <<< ((1 : Int32) &&& 31)) + (1 : Int32))).toNatClampNeg (0 : Int32)) &&& (255 : Int32)) <<< ((8 : Int32) &&& 31))).toUInt32.toUInt16.toUInt32.toInt32)))])) (fun t k => st2 t k) ?_
  refine fin (v := some (.int (nar .char (nar .char (((((List.getD xs5 ((i1 <<< ((1 : Int32) &&& 31))).toNatClampNeg (0 : Int32)) &&& (255 : Int32)) <<< ((0 : Int32) &&& 31)) ||| (((List.getD xs5 (((i1 <<< ((1 : Int32) &&& 31)) + (1 : Int32))).toNatClampNeg (0 : Int32)) &&& (255 : Int32)) <<< ((8 : Int32) &&& 31))).toUInt32.toUInt16.toUInt32.toInt32))))) X2 (fun h => by cases h) ?_ (by decide) (by decide) (fun fs hr => retN X2 hx (t := .char) hret (by simp) (hb hby d35_10) hr)
  show Q35_6 Z o1 i1 u2 kc3 i4 xs5 h0 n0 (some (.int (nar .char (nar .char (((((List.getD xs5 ((i1 <<< ((1 : Int32) &&& 31))).toNatClampNeg (0 : Int32)) &&& (255 : Int32)) <<< ((0 : Int32) &&& 31)) ||| (((List.getD xs5 (((i1 <<< ((1 : Int32) &&& 31)) + (1 : Int32))).toNatClampNeg (0 : Int32)) &&& (255 : Int32)) <<< ((8 : Int32) &&& 31))).toUInt32.toUInt16.toUInt32.toInt32))))) T2.heap _
  rw [e2q]
  exact ⟨rfl, N2, rfl⟩
def Q18 (Z : State) (o1 ob : Addr) (kb : ClassId) (xs : List Int32) (n co N : Int32) (bs : List Int32) (i : Int32) (cs : Int32) (fo : Value) (h0 : Heap) (n0 : Nat) (v : Option Value) (h : Heap) (L : List Loc) : Prop := v = some (.int (List.getD xs (i).toNatClampNeg (0 : Int32))) ∧ Fr n0 L ∧ h = h0
set_option maxRecDepth 65536 in
set_option maxHeartbeats 40000000 in
theorem rm18 (l : Launch) (Z : State) (a0 : Array Value) (hw : ∀ d ∈ tables_1, d.before a0 Z = true) (ws : List Jvm.Cond) (o1 ob : Addr) (kb : ClassId) (xs : List Int32) (n co N : Int32) (bs : List Int32) (i : Int32) (cs : Int32) (fo : Value) (h0 : Heap) (n0 : Nat) (Z0 : n0 ≤ h0.size) (Ea : Exa Z h0 o1 "java/lang/String") (Fc : Fld Z h0 o1 "java/lang/String" "coder" "B" (.int co)) (Fv : Fld Z h0 o1 "java/lang/String" "value" "[B" (.ref ob)) (Vb : Arv Z h0 ob kb .byte N (List.map Value.int bs) (.int 0)) (hOS : OS xs n co N bs) (hi0 : ¬ (i < (0 : Int32))) (hin : i < n) (S_cs : Sta Z h0 "java/lang/String" "COMPACT_STRINGS" "Z" (.int cs)) (c_cs : ¬ (cs = (0 : Int32))) (S_fo : Sta Z h0 "jdk/internal/util/Preconditions" "SIOOBE_FORMATTER" "Ljava/util/function/BiFunction;" fo) (r_fo : Value.isRef fo = true) (S_ad : Sta Z h0 "java/lang/StringUTF16" "$assertionsDisabled" "Z" (.int 1)) (S_hi : Sta Z h0 "java/lang/StringUTF16" "HI_BYTE_SHIFT" "I" (.int 0)) (S_lo : Sta Z h0 "java/lang/StringUTF16" "LO_BYTE_SHIFT" "I" (.int 8)) :
    OwnM l Z nM8 jdk_42_method_56_code 2 (some .char) ws ({ frames := 4, cells := 0, slots := 0, locals := 53 } : Room) #[(.ref o1), (.int i)] h0 (Q18 Z o1 ob kb xs n co N bs i cs fo h0 n0) := by
  refine own_body (plainFor_of_name pn_0) ?_
  intro p e s m below meth c s₁ G hx hby hml hZ hown hnm hret X0 e0 step fin
  replace hown : s.vm.findClass "java/lang/String" = some m.cls := hown
  have N0 := Fr.nil n0
  have KK : OwnK p e below c _ G := ⟨step, hx, hby⟩
  refine step (s₁.setTop (mkF m 0 #[vr o1, vi i] [])) (fun t k => castTop (ef_20_2 m o1 i) k) ?_
  have hOS0 := hOS
  obtain ⟨hn, h5, hch, ⟨rfl, rfl, hl, rfl⟩ | ⟨rfl, hN, hu, rfl⟩⟩ := hOS
  ·
    refine oal KK X0 d18_0 (.ref o1) 1 rfl rfl rfl ?_
    obtain ⟨cq1, kq1, q1a, q1b, q1c⟩ := isOf hZ e0 Ea
    obtain ⟨_, _, ⟨T1, L1, k1, n1⟩, -, X1, ⟨Lc1, hQ1, l1, y1, z1⟩, st1⟩ := X0.virtualBack hx (y := nM0) (z := nM0) hown (mvT hZ (ow hw 85 rfl)) (mvT hZ (ow hw 86 rfl)) (notFace_of_selects (args := #[]) (mvT hZ (ow hw 88 rfl))) (mvT hZ (ow hw 88 rfl)) (mvT hZ (ow hw 87 rfl)) (by decide) (backOf (W := 0) (rm19_1 l Z a0 hw [] o1 cs h0 n0 Z0 S_cs Ea Fc c_cs) hZ (ow hw 89 rfl) (ow hw 11 rfl) (by decide) (by decide)) q1a q1c (g := (mkF m 1 #[vr o1, vi i] [(.ref o1)])) rfl (by rw [hml]; rfl) (Steps.refl _) (argsL := []) (rest := []) (lenOf pd_0 rfl) rfl (omw rfl rfl) (hb hby d18_1) (fun _ _ => ⟨rfl, e0, (by decide : 0 + 0 ≤ _), (by decide : 0 + 0 ≤ _)⟩)
    dsimp only [Pt.U, Pt.locs, Pt.cells, Pt.slots] at X1 l1 y1 z1 st1 hQ1
    subst l1 y1 z1
    obtain ⟨rfl, N1q, e1q⟩ := hQ1
    have N1 := Fr.app N0 N1q
    refine step (T1.setTop (mkF m 4 #[vr o1, vi i] [(.int 1)])) (fun t k => st1.trans k) ?_
    refine step (T1.setTop (mkF m 7 #[vr o1, vi i] [])) (fun t k => XS.ifNo X1.here hx rfl (hb hby d18_4) rfl ((if0 _ _).trans (feq (by decide : ¬ ((1 : Int32) = (0 : Int32)))).1) k) ?_
    refine oal KK X1 d18_7 (.ref o1) 8 rfl rfl rfl ?_
    obtain ⟨T2, X2, e2, st2⟩ := getF X1 hx hZ hown (host := "") (Or.inl (ow hw 28 rfl)) Via.refl e1q Fv (g := (mkF m 8 #[vr o1, vi i] [(.ref o1)])) rfl rfl (hb hby d18_8)
    refine step (T2.setTop (mkF m 11 #[vr o1, vi i] [(.ref ob)])) (fun t k => st2 t k) ?_
    refine oil KK X2 d18_11 i 12 rfl rfl ?_
    obtain ⟨_, _, ⟨T3, L3, k3, n3⟩, -, X3, ⟨Lc3, hQ3, l3, y3, z3⟩, st3⟩ := Jvm.LawKit.callS X2 hx (y := nM3) hown (mvT hZ (ow hw 90 rfl)) (mvT hZ (ow hw 91 rfl)) (mvT hZ (ow hw 92 rfl)) (mvT hZ (ow hw 93 rfl)) (by decide) (backOf (W := 0) (rm20_2 l Z a0 hw [] ob i fo kb n (List.map own_lo xs) h0 n0 Z0 r_fo S_fo Vb hi0 hin) hZ (ow hw 93 rfl) (ow hw 92 rfl) (by decide) (by decide)) (g := (mkF m 12 #[vr o1, vi i] [(.int i), (.ref ob)])) rfl (by rw [hml]; rfl) (argsL := [(.ref ob), (.int i)]) (rest := []) (lenOf pd_1 rfl) rfl (omw rfl rfl) (hb hby d18_12) (fun _ _ => ⟨rfl, e2, (by decide : 0 + 0 ≤ _), (by decide : 0 + 0 ≤ _)⟩)
    dsimp only [Pt.U, Pt.locs, Pt.cells, Pt.slots] at X3 l3 y3 z3 st3 hQ3
    subst l3 y3 z3
    obtain ⟨rfl, N3q, e3q⟩ := hQ3
    have N3 := Fr.app N1 N3q
    refine step (T3.setTop (mkF m 15 #[vr o1, vi i] [(.int (nar .char (((List.getD (List.map own_lo xs) (i).toNatClampNeg (0 : Int32)) &&& (255 : Int32)).toUInt32.toUInt16.toUInt32.toInt32)))])) (fun t k => st3 t k) ?_
    refine fin (v := some (.int (nar .char (nar .char (((List.getD (List.map own_lo xs) (i).toNatClampNeg (0 : Int32)) &&& (255 : Int32)).toUInt32.toUInt16.toUInt32.toInt32))))) X3 (fun h => by cases h) ?_ (by decide) (by decide) (fun fs hr => retN X3 hx (t := .char) hret (by simp) (hb hby d18_15) hr)
    show Q18 Z o1 ob kb xs n _ _ _ i cs fo h0 n0 (some (.int (nar .char (nar .char (((List.getD (List.map own_lo xs) (i).toNatClampNeg (0 : Int32)) &&& (255 : Int32)).toUInt32.toUInt16.toUInt32.toInt32))))) T3.heap _
    rw [e3q]
    exact ⟨congrArg (fun z => some (Value.int z)) (own_chL hn h5 hch hl hi0 hin), N3, rfl⟩
  ·
    obtain ⟨lt1, ge2, lt2, ge3, lt3⟩ := own_ix hi0 hin hn h5 hN
    refine oal KK X0 d18_0 (.ref o1) 1 rfl rfl rfl ?_
    obtain ⟨cq4, kq4, q4a, q4b, q4c⟩ := isOf hZ e0 Ea
    obtain ⟨_, _, ⟨T4, L4, k4, n4⟩, -, X4, ⟨Lc4, hQ4, l4, y4, z4⟩, st4⟩ := X0.virtualBack hx (y := nM0) (z := nM0) hown (mvT hZ (ow hw 85 rfl)) (mvT hZ (ow hw 86 rfl)) (notFace_of_selects (args := #[]) (mvT hZ (ow hw 88 rfl))) (mvT hZ (ow hw 88 rfl)) (mvT hZ (ow hw 87 rfl)) (by decide) (backOf (W := 0) (rm19_5 l Z a0 hw [] o1 cs h0 n0 Z0 S_cs Ea Fc c_cs) hZ (ow hw 89 rfl) (ow hw 11 rfl) (by decide) (by decide)) q4a q4c (g := (mkF m 1 #[vr o1, vi i] [(.ref o1)])) rfl (by rw [hml]; rfl) (Steps.refl _) (argsL := []) (rest := []) (lenOf pd_0 rfl) rfl (omw rfl rfl) (hb hby d18_1) (fun _ _ => ⟨rfl, e0, (by decide : 0 + 0 ≤ _), (by decide : 0 + 0 ≤ _)⟩)
    dsimp only [Pt.U, Pt.locs, Pt.cells, Pt.slots] at X4 l4 y4 z4 st4 hQ4
    subst l4 y4 z4
    obtain ⟨rfl, N4q, e4q⟩ := hQ4
    have N4 := Fr.app N0 N4q
    refine step (T4.setTop (mkF m 4 #[vr o1, vi i] [(.int 0)])) (fun t k => st4.trans k) ?_
    refine step (T4.setTop (mkF m 16 #[vr o1, vi i] [])) (fun t k => XS.ifYes X4.here hx rfl (pc0 := 4) (pc' := 16) rfl (hb hby d18_4) rfl ((if0 _ _).trans (teq (by decide : (0 : Int32) = (0 : Int32))).1) (by decide) (by decide) k) ?_
    refine oal KK X4 d18_16 (.ref o1) 17 rfl rfl rfl ?_
    obtain ⟨T5, X5, e5, st5⟩ := getF X4 hx hZ hown (host := "") (Or.inl (ow hw 28 rfl)) Via.refl e4q Fv (g := (mkF m 17 #[vr o1, vi i] [(.ref o1)])) rfl rfl (hb hby d18_17)
    refine step (T5.setTop (mkF m 20 #[vr o1, vi i] [(.ref ob)])) (fun t k => st5 t k) ?_
    refine oil KK X5 d18_20 i 21 rfl rfl ?_
    obtain ⟨_, _, ⟨T6, L6, k6, n6⟩, -, X6, ⟨Lc6, hQ6, l6, y6, z6⟩, st6⟩ := Jvm.LawKit.callS X5 hx (y := nM7) hown (mvT hZ (ow hw 147 rfl)) (mvT hZ (ow hw 148 rfl)) (mvT hZ (ow hw 69 rfl)) (mvT hZ (ow hw 149 rfl)) (by decide) (backOf (W := 0) (rm35_6 l Z a0 hw [] ob i fo kb N (own_u xs) h0 n0 Z0 r_fo S_fo S_ad S_hi S_lo Vb ge3 lt3 ge2 lt2 hi0 lt1) hZ (ow hw 149 rfl) (ow hw 69 rfl) (by decide) (by decide)) (g := (mkF m 21 #[vr o1, vi i] [(.int i), (.ref ob)])) rfl (by rw [hml]; rfl) (argsL := [(.ref ob), (.int i)]) (rest := []) (lenOf pd_1 rfl) rfl (omw rfl rfl) (hb hby d18_21) (fun _ _ => ⟨rfl, e5, (by decide : 0 + 0 ≤ _), (by decide : 0 + 0 ≤ _)⟩)
    dsimp only [Pt.U, Pt.locs, Pt.cells, Pt.slots] at X6 l6 y6 z6 st6 hQ6
    subst l6 y6 z6
    obtain ⟨rfl, N6q, e6q⟩ := hQ6
    have N6 := Fr.app N4 N6q
    refine step (T6.setTop (mkF m 24 #[vr o1, vi i] [(.int (nar .char (nar .char (((((List.getD (own_u xs) ((i <<< ((1 : Int32) &&& 31))).toNatClampNeg (0 : Int32)) &&& (255 : Int32)) <<< ((0 : Int32) &&& 31)) ||| (((List.getD (own_u xs) (((i <<< ((1 : Int32) &&& 31)) + (1 : Int32))).toNatClampNeg (0 : Int32)) &&& (255 : Int32)) <<< ((8 : Int32) &&& 31))).toUInt32.toUInt16.toUInt32.toInt32))))])) (fun t k => st6 t k) ?_
    refine fin (v := some (.int (nar .char (nar .char (nar .char (((((List.getD (own_u xs) ((i <<< ((1 : Int32) &&& 31))).toNatClampNeg (0 : Int32)) &&& (255 : Int32)) <<< ((0 : Int32) &&& 31)) ||| (((List.getD (own_u xs) (((i <<< ((1 : Int32) &&& 31)) + (1 : Int32))).toNatClampNeg (0 : Int32)) &&& (255 : Int32)) <<< ((8 : Int32) &&& 31))).toUInt32.toUInt16.toUInt32.toInt32)))))) X6 (fun h => by cases h) ?_ (by decide) (by decide) (fun fs hr => retN X6 hx (t := .char) hret (by simp) (hb hby d18_24) hr)
    show Q18 Z o1 ob kb xs n _ _ _ i cs fo h0 n0 (some (.int (nar .char (nar .char (nar .char (((((List.getD (own_u xs) ((i <<< ((1 : Int32) &&& 31))).toNatClampNeg (0 : Int32)) &&& (255 : Int32)) <<< ((0 : Int32) &&& 31)) ||| (((List.getD (own_u xs) (((i <<< ((1 : Int32) &&& 31)) + (1 : Int32))).toNatClampNeg (0 : Int32)) &&& (255 : Int32)) <<< ((8 : Int32) &&& 31))).toUInt32.toUInt16.toUInt32.toInt32)))))) T6.heap _
    rw [e6q]
    exact ⟨congrArg (fun z => some (Value.int z)) (own_chU hn h5 hch hi0 hin), N6, rfl⟩
theorem d8_0 : decode jdk_42_method_54_code 0 = .ok (.aload_n 0, 1) := by decide +kernel
theorem d8_1 : decode jdk_42_method_54_code 1 = .ok (.getfield 9, 3) := by decide +kernel
theorem d8_4 : decode jdk_42_method_54_code 4 = .ok (.arraylength, 1) := by decide +kernel
theorem d8_5 : decode jdk_42_method_54_code 5 = .ok (.aload_n 0, 1) := by decide +kernel
theorem d8_6 : decode jdk_42_method_54_code 6 = .ok (.invokevirtual 335, 3) := by decide +kernel
theorem d8_9 : decode jdk_42_method_54_code 9 = .ok (.ishr, 1) := by decide +kernel
theorem d8_10 : decode jdk_42_method_54_code 10 = .ok (.ireturn, 1) := by decide +kernel
theorem pd_6 : parseMethodDescriptor "()B" = some ⟨[], some .byte⟩ := by decide +kernel
theorem d9_0 : decode jdk_42_method_152_code 0 = .ok (.getstatic 38, 3) := by decide +kernel
theorem d9_3 : decode jdk_42_method_152_code 3 = .ok (.ifCond .eq 10, 3) := by decide +kernel
theorem d9_6 : decode jdk_42_method_152_code 6 = .ok (.aload_n 0, 1) := by decide +kernel
theorem d9_7 : decode jdk_42_method_152_code 7 = .ok (.getfield 15, 3) := by decide +kernel
theorem d9_10 : decode jdk_42_method_152_code 10 = .ok (.goto 4, 3) := by decide +kernel
theorem d9_13 : decode jdk_42_method_152_code 13 = .ok (.iconst 1, 1) := by decide +kernel
theorem d9_14 : decode jdk_42_method_152_code 14 = .ok (.ireturn, 1) := by decide +kernel
def Q9_12 (Z : State) (o1 : Addr) (i1 : Int32) (i2 : Int32) (h0 : Heap) (n0 : Nat) (v : Option Value) (h : Heap) (L : List Loc) : Prop := v = some (.int (nar .byte i2)) ∧ Fr n0 L ∧ h = h0
set_option maxRecDepth 65536 in
set_option maxHeartbeats 40000000 in
theorem rm9_12 (l : Launch) (Z : State) (a0 : Array Value) (hw : ∀ d ∈ tables_1, d.before a0 Z = true) (ws : List Jvm.Cond) (o1 : Addr) (i1 : Int32) (i2 : Int32) (h0 : Heap) (n0 : Nat) (Z0 : n0 ≤ h0.size) (Sx0 : Sta Z h0 "java/lang/String" "COMPACT_STRINGS" "Z" (.int i1)) (Pm1 : Exa Z h0 o1 "java/lang/String") (Pm2 : Fld Z h0 o1 "java/lang/String" "coder" "B" (.int i2)) (hy3 : ¬ (i1 = (0 : Int32)))  :
    OwnM l Z nM9 jdk_42_method_152_code 1 (some .byte) ws ({ frames := 0, cells := 0, slots := 0, locals := 0 } : Room) #[(.ref o1)] h0 (Q9_12 Z o1 i1 i2 h0 n0) := by
  refine own_body (plainFor_of_name pn_0) ?_
  intro p e s m below meth c s₁ G hx hby hml hZ hown hnm hret X0 e0 step fin
  replace hown : s.vm.findClass "java/lang/String" = some m.cls := hown
  have N0 := Fr.nil n0
  have KK : OwnK p e below c _ G := ⟨step, hx, hby⟩
  refine step (s₁.setTop (mkF m 0 #[vr o1] [])) (fun t k => castTop (ef_19_1 m o1) k) ?_
  obtain ⟨T1, X1, e1, st1⟩ := getS2 X0 hx hZ hown (host := "") (Or.inl (ow hw 48 rfl)) Via.refl e0 Sx0 (g := (mkF m 0 #[vr o1] [])) rfl (hb hby d9_0)
  refine step (T1.setTop (mkF m 3 #[vr o1] [(.int i1)])) (fun t k => st1 t k) ?_
  have hc3_2 : ¬ (i1 = (0 : Int32)) := hy3
  refine step (T1.setTop (mkF m 6 #[vr o1] [])) (fun t k => XS.ifNo X1.here hx rfl (hb hby d9_3) rfl ((if0 _ _).trans (feq hc3_2).1) k) ?_
  refine oal KK X1 d9_6 (.ref o1) 7 rfl rfl rfl ?_
  obtain ⟨T3, X3, e3, st3⟩ := getF X1 hx hZ hown (host := "") (Or.inl (ow hw 29 rfl)) Via.refl e1 Pm2 (g := (mkF m 7 #[vr o1] [(.ref o1)])) rfl rfl (hb hby d9_7)
  refine step (T3.setTop (mkF m 10 #[vr o1] [(.int i2)])) (fun t k => st3 t k) ?_
  refine ogo KK X3 d9_10 14 (by decide) rfl ?_
  refine fin (v := some (.int (nar .byte i2))) X3 (fun h => by cases h) ?_ (by decide) (by decide) (fun fs hr => retN X3 hx (t := .byte) hret (by simp) (hb hby d9_14) hr)
  show Q9_12 Z o1 i1 i2 h0 n0 (some (.int (nar .byte i2))) T3.heap _
  rw [e3]
  exact ⟨rfl, N0, rfl⟩
def Q8 (Z : State) (o1 ob : Addr) (kb : ClassId) (xs : List Int32) (n co N : Int32) (bs : List Int32) (cs : Int32) (fo : Value) (h0 : Heap) (n0 : Nat) (v : Option Value) (h : Heap) (L : List Loc) : Prop := v = some (.int n) ∧ Fr n0 L ∧ h = h0
set_option maxRecDepth 65536 in
set_option maxHeartbeats 40000000 in
theorem rm8 (l : Launch) (Z : State) (a0 : Array Value) (hw : ∀ d ∈ tables_1, d.before a0 Z = true) (ws : List Jvm.Cond) (o1 ob : Addr) (kb : ClassId) (xs : List Int32) (n co N : Int32) (bs : List Int32) (cs : Int32) (fo : Value) (h0 : Heap) (n0 : Nat) (Z0 : n0 ≤ h0.size) (Ea : Exa Z h0 o1 "java/lang/String") (Fc : Fld Z h0 o1 "java/lang/String" "coder" "B" (.int co)) (Fv : Fld Z h0 o1 "java/lang/String" "value" "[B" (.ref ob)) (Vb : Arv Z h0 ob kb .byte N (List.map Value.int bs) (.int 0)) (hOS : OS xs n co N bs) (S_cs : Sta Z h0 "java/lang/String" "COMPACT_STRINGS" "Z" (.int cs)) (c_cs : ¬ (cs = (0 : Int32))) (S_fo : Sta Z h0 "jdk/internal/util/Preconditions" "SIOOBE_FORMATTER" "Ljava/util/function/BiFunction;" fo) (r_fo : Value.isRef fo = true) (S_ad : Sta Z h0 "java/lang/StringUTF16" "$assertionsDisabled" "Z" (.int 1)) (S_hi : Sta Z h0 "java/lang/StringUTF16" "HI_BYTE_SHIFT" "I" (.int 0)) (S_lo : Sta Z h0 "java/lang/StringUTF16" "LO_BYTE_SHIFT" "I" (.int 8)) :
    OwnM l Z nM10 jdk_42_method_54_code 1 (some .int) ws ({ frames := 1, cells := 0, slots := 0, locals := 13 } : Room) #[(.ref o1)] h0 (Q8 Z o1 ob kb xs n co N bs cs fo h0 n0) := by
  refine own_body (plainFor_of_name pn_0) ?_
  intro p e s m below meth c s₁ G hx hby hml hZ hown hnm hret X0 e0 step fin
  replace hown : s.vm.findClass "java/lang/String" = some m.cls := hown
  have N0 := Fr.nil n0
  have KK : OwnK p e below c _ G := ⟨step, hx, hby⟩
  refine step (s₁.setTop (mkF m 0 #[vr o1] [])) (fun t k => castTop (ef_19_1 m o1) k) ?_
  refine oal KK X0 d8_0 (.ref o1) 1 rfl rfl rfl ?_
  obtain ⟨T1, X1, e1, st1⟩ := getF X0 hx hZ hown (host := "") (Or.inl (ow hw 28 rfl)) Via.refl e0 Fv (g := (mkF m 1 #[vr o1] [(.ref o1)])) rfl rfl (hb hby d8_1)
  refine step (T1.setTop (mkF m 4 #[vr o1] [(.ref ob)])) (fun t k => st1 t k) ?_
  obtain ⟨cl2, Ar2, q2, S2, N2n, H2, G2⟩ := id Vb
  refine step (T1.setTop (mkF m 5 #[vr o1] [(.int N)])) (fun t k => X1.arraylength hx (by rw [e1]; exact Ar2.1) (State.isArrayOf_alike hZ.alike Ar2.2.1) (g := (mkF m 4 #[vr o1] [(.ref ob)])) rfl rfl (hb hby d8_4) t (by rw [len_of S2 N2n]; exact k)) ?_
  refine oal KK X1 d8_5 (.ref o1) 6 rfl rfl rfl ?_
  obtain ⟨cq3, kq3, q3a, q3b, q3c⟩ := isOf hZ e1 Ea
  obtain ⟨_, _, ⟨T3, L3, k3, n3⟩, -, X3, ⟨Lc3, hQ3, l3, y3, z3⟩, st3⟩ := X1.virtualBack hx (y := nM9) (z := nM9) hown (mvT hZ (ow hw 43 rfl)) (mvT hZ (ow hw 44 rfl)) (notFace_of_selects (args := #[]) (mvT hZ (ow hw 46 rfl))) (mvT hZ (ow hw 46 rfl)) (mvT hZ (ow hw 45 rfl)) (by decide) (backOf (W := 1) (rm9_12 l Z a0 hw [] o1 cs co h0 n0 Z0 S_cs Ea Fc c_cs) hZ (ow hw 47 rfl) (ow hw 11 rfl) (by decide) (by decide)) q3a q3c (g := (mkF m 6 #[vr o1] [(.ref o1), (.int N)])) rfl (by rw [hml]; rfl) (Steps.refl _) (argsL := []) (rest := [(.int N)]) (lenOf pd_6 rfl) rfl (omw rfl rfl) (hb hby d8_6) (fun _ _ => ⟨rfl, e1, (by decide : 0 + 0 ≤ _), (by decide : 0 + 0 ≤ _)⟩)
  dsimp only [Pt.U, Pt.locs, Pt.cells, Pt.slots] at X3 l3 y3 z3 st3 hQ3
  subst l3 y3 z3
  obtain ⟨rfl, N3q, e3q⟩ := hQ3
  have N3 := Fr.app N0 N3q
  refine step (T3.setTop (mkF m 9 #[vr o1] [(.int (nar .byte co)), (.int N)])) (fun t k => st3.trans k) ?_
  refine step (T3.setTop (mkF m 10 #[vr o1] [(.int (N >>> ((nar .byte co) &&& 31)))])) (fun t k => XS.ishr X3.here hx rfl (hb hby d8_9) rfl k) ?_
  refine fin (v := some (.int (N >>> ((nar .byte co) &&& 31)))) X3 (fun h => by cases h) ?_ (by decide) (by decide) (fun fs hr => retI X3 hx hret (hb hby d8_10) hr)
  show Q8 Z o1 ob kb xs n co N bs cs fo h0 n0 (some (.int (N >>> ((nar .byte co) &&& 31)))) T3.heap _
  rw [e3q]
  exact ⟨congrArg (fun z => some (Value.int z)) (own_lenOS hOS), N3, rfl⟩
theorem d23_0 : decode prog_10_method_19_code 0 = .ok (.iload_n 0, 1) := by decide +kernel
theorem d23_1 : decode prog_10_method_19_code 1 = .ok (.bipush 32, 2) := by decide +kernel
theorem d23_3 : decode prog_10_method_19_code 3 = .ok (.if_icmp .eq 21, 3) := by decide +kernel
theorem d23_6 : decode prog_10_method_19_code 6 = .ok (.iload_n 0, 1) := by decide +kernel
theorem d23_7 : decode prog_10_method_19_code 7 = .ok (.bipush 9, 2) := by decide +kernel
theorem d23_9 : decode prog_10_method_19_code 9 = .ok (.if_icmp .eq 15, 3) := by decide +kernel
theorem d23_12 : decode prog_10_method_19_code 12 = .ok (.iload_n 0, 1) := by decide +kernel
theorem d23_13 : decode prog_10_method_19_code 13 = .ok (.bipush 13, 2) := by decide +kernel
theorem d23_15 : decode prog_10_method_19_code 15 = .ok (.if_icmp .eq 9, 3) := by decide +kernel
theorem d23_18 : decode prog_10_method_19_code 18 = .ok (.iload_n 0, 1) := by decide +kernel
theorem d23_19 : decode prog_10_method_19_code 19 = .ok (.bipush 10, 2) := by decide +kernel
theorem d23_21 : decode prog_10_method_19_code 21 = .ok (.if_icmp .ne 7, 3) := by decide +kernel
theorem d23_24 : decode prog_10_method_19_code 24 = .ok (.iconst 1, 1) := by decide +kernel
theorem d23_25 : decode prog_10_method_19_code 25 = .ok (.goto 4, 3) := by decide +kernel
theorem d23_28 : decode prog_10_method_19_code 28 = .ok (.iconst 0, 1) := by decide +kernel
theorem d23_29 : decode prog_10_method_19_code 29 = .ok (.ireturn, 1) := by decide +kernel
theorem pn_4 : plainName "org/vouchsafe/Dom" = true := by first | (simp [plainName, overriddenIn]; done) | decide +kernel
theorem ef_23 (m : MethodId) (x0 : Int32) : entryFrame m #[(.int x0)] 1 = mkF m 0 #[.val (.int x0)] [] := by first | (simp [entryFrame, mkF, argsToLocals, Value.category]; done) | rfl
def Q23 (Z : State) (ci : Int32) (h0 : Heap) (n0 : Nat) (v : Option Value) (h : Heap) (L : List Loc) : Prop := v = some (.int (own_xs ci)) ∧ Fr n0 L ∧ h = h0
set_option maxRecDepth 65536 in
set_option maxHeartbeats 40000000 in
theorem rm23 (l : Launch) (Z : State) (a0 : Array Value) (hw : ∀ d ∈ tables_1, d.before a0 Z = true) (ws : List Jvm.Cond) (ci : Int32) (h0 : Heap) (n0 : Nat) (Z0 : n0 ≤ h0.size)  :
    OwnM l Z nM11 prog_10_method_19_code 1 (some .boolean) ws ({ frames := 0, cells := 0, slots := 0, locals := 0 } : Room) #[(.int ci)] h0 (Q23 Z ci h0 n0) := by
  refine own_body (plainFor_of_name pn_4) ?_
  intro p e s m below meth c s₁ G hx hby hml hZ hown hnm hret X0 e0 step fin
  replace hown : s.vm.findClass "org/vouchsafe/Dom" = some m.cls := hown
  have N0 := Fr.nil n0
  have KK : OwnK p e below c _ G := ⟨step, hx, hby⟩
  refine step (s₁.setTop (mkF m 0 #[vi ci] [])) (fun t k => castTop (ef_23 m ci) k) ?_
  refine oil KK X0 d23_0 ci 1 rfl rfl ?_
  refine obi KK X0 d23_1 32 3 rfl rfl ?_
  suffices J29_2 : ∀ (z29_1 : Int32), z29_1 = (if ci = (32 : Int32) then (1 : Int32) else (if ci = (9 : Int32) then (1 : Int32) else (if ci = (13 : Int32) then (1 : Int32) else (if ci = (10 : Int32) then (1 : Int32) else (0 : Int32))))) → G (s₁.setTop (mkF m 29 #[vi ci] [(.int z29_1)])) by
    by_cases hc3_3 : ci = (32 : Int32)
    · -- 3 True
      refine oiy KK X0 d23_3 24 (teq hc3_3).1 (by decide) rfl ?_
      refine oic KK X0 d23_24 1 25 rfl rfl ?_
      refine ogo KK X0 d23_25 29 (by decide) rfl ?_
      exact J29_2 _ (by simp only [if_pos hc3_3, if_true, if_false] <;> rfl)
    · -- 3 False
      refine oin KK X0 d23_3 6 rfl (feq hc3_3).1 ?_
      refine oil KK X0 d23_6 ci 7 rfl rfl ?_
      refine obi KK X0 d23_7 9 9 rfl rfl ?_
      by_cases hc9_4 : ci = (9 : Int32)
      · -- 9 True
        refine oiy KK X0 d23_9 24 (teq hc9_4).1 (by decide) rfl ?_
        refine oic KK X0 d23_24 1 25 rfl rfl ?_
        refine ogo KK X0 d23_25 29 (by decide) rfl ?_
        exact J29_2 _ (by simp only [if_neg hc3_3, if_pos hc9_4, if_true, if_false] <;> rfl)
      · -- 9 False
        refine oin KK X0 d23_9 12 rfl (feq hc9_4).1 ?_
        refine oil KK X0 d23_12 ci 13 rfl rfl ?_
        refine obi KK X0 d23_13 13 15 rfl rfl ?_
        by_cases hc15_5 : ci = (13 : Int32)
        · -- 15 True
          refine oiy KK X0 d23_15 24 (teq hc15_5).1 (by decide) rfl ?_
          refine oic KK X0 d23_24 1 25 rfl rfl ?_
          refine ogo KK X0 d23_25 29 (by decide) rfl ?_
          exact J29_2 _ (by simp only [if_neg hc3_3, if_neg hc9_4, if_pos hc15_5, if_true, if_false] <;> rfl)
        · -- 15 False
          refine oin KK X0 d23_15 18 rfl (feq hc15_5).1 ?_
          refine oil KK X0 d23_18 ci 19 rfl rfl ?_
          refine obi KK X0 d23_19 10 21 rfl rfl ?_
          by_cases hc21_6 : ci = (10 : Int32)
          · -- 21 True
            refine oin KK X0 d23_21 24 rfl (teq hc21_6).2 ?_
            refine oic KK X0 d23_24 1 25 rfl rfl ?_
            refine ogo KK X0 d23_25 29 (by decide) rfl ?_
            exact J29_2 _ (by simp only [if_neg hc3_3, if_neg hc9_4, if_neg hc15_5, if_pos hc21_6, if_true, if_false] <;> rfl)
          · -- 21 False
            refine oiy KK X0 d23_21 28 (feq hc21_6).2 (by decide) rfl ?_
            refine oic KK X0 d23_28 0 29 rfl rfl ?_
            exact J29_2 _ (by simp only [if_neg hc3_3, if_neg hc9_4, if_neg hc15_5, if_neg hc21_6, if_true, if_false] <;> rfl)
  intro z29_1 hz29_1
  refine fin (v := some (.int (nar .boolean z29_1))) X0 (fun h => by cases h) ?_ (by decide) (by decide) (fun fs hr => retN X0 hx (t := .boolean) hret (by simp) (hb hby d23_29) hr)
  show Q23 Z ci h0 n0 (some (.int (nar .boolean z29_1))) s₁.heap _
  rw [e0]
  exact ⟨congrArg (fun z => some (Value.int z)) (by rw [hz29_1]; unfold own_xs; (repeat' split) <;> rfl), N0, rfl⟩
theorem own_nneg' {i : Int32} (h : 0 ≤ i.toInt) : ¬ (i < (0 : Int32)) := by
  rw [Int32.lt_iff_toInt_lt, show (0 : Int32).toInt = 0 by decide]
  omega
theorem d26_0 : decode jdk_65_method_133_code 0 = .ok (.iload_n 1, 1) := by decide +kernel
theorem d26_1 : decode jdk_65_method_133_code 1 = .ok (.iload_n 2, 1) := by decide +kernel
theorem d26_2 : decode jdk_65_method_133_code 2 = .ok (.invokestatic 343, 3) := by decide +kernel
theorem d26_5 : decode jdk_65_method_133_code 5 = .ok (.iload_n 2, 1) := by decide +kernel
theorem d26_6 : decode jdk_65_method_133_code 6 = .ok (.iload_n 1, 1) := by decide +kernel
theorem d26_7 : decode jdk_65_method_133_code 7 = .ok (.isub, 1) := by decide +kernel
theorem d26_8 : decode jdk_65_method_133_code 8 = .ok (.istore_n 3, 1) := by decide +kernel
theorem d26_9 : decode jdk_65_method_133_code 9 = .ok (.iload_n 3, 1) := by decide +kernel
theorem d26_10 : decode jdk_65_method_133_code 10 = .ok (.newarray .byte, 2) := by decide +kernel
theorem d26_12 : decode jdk_65_method_133_code 12 = .ok (.astore 4, 2) := by decide +kernel
theorem d26_14 : decode jdk_65_method_133_code 14 = .ok (.aload_n 0, 1) := by decide +kernel
theorem d26_15 : decode jdk_65_method_133_code 15 = .ok (.iload_n 1, 1) := by decide +kernel
theorem d26_16 : decode jdk_65_method_133_code 16 = .ok (.aload 4, 2) := by decide +kernel
theorem d26_18 : decode jdk_65_method_133_code 18 = .ok (.iconst 0, 1) := by decide +kernel
theorem d26_19 : decode jdk_65_method_133_code 19 = .ok (.aload_n 0, 1) := by decide +kernel
theorem d26_20 : decode jdk_65_method_133_code 20 = .ok (.arraylength, 1) := by decide +kernel
theorem d26_21 : decode jdk_65_method_133_code 21 = .ok (.iload_n 1, 1) := by decide +kernel
theorem d26_22 : decode jdk_65_method_133_code 22 = .ok (.isub, 1) := by decide +kernel
theorem d26_23 : decode jdk_65_method_133_code 23 = .ok (.iload_n 3, 1) := by decide +kernel
theorem d26_24 : decode jdk_65_method_133_code 24 = .ok (.invokestatic 304, 3) := by decide +kernel
theorem d26_27 : decode jdk_65_method_133_code 27 = .ok (.invokestatic 150, 3) := by decide +kernel
theorem d26_30 : decode jdk_65_method_133_code 30 = .ok (.aload 4, 2) := by decide +kernel
theorem d26_32 : decode jdk_65_method_133_code 32 = .ok (.areturn, 1) := by decide +kernel
theorem pn_5 : plainName "java/util/Arrays" = true := by first | (simp [plainName, overriddenIn]; done) | decide +kernel
theorem pd_7 : parseMethodDescriptor "(II)I" = some ⟨[.int, .int], some .int⟩ := by decide +kernel
theorem pd_8 : parseMethodDescriptor "(Ljava/lang/Object;ILjava/lang/Object;II)V" = some ⟨[(.object "java/lang/Object"), .int, (.object "java/lang/Object"), .int, .int], none⟩ := by decide +kernel
theorem d27_0 : decode jdk_65_method_131_code 0 = .ok (.iload_n 1, 1) := by decide +kernel
theorem d27_1 : decode jdk_65_method_131_code 1 = .ok (.iload_n 0, 1) := by decide +kernel
theorem d27_2 : decode jdk_65_method_131_code 2 = .ok (.if_icmp .ge 35, 3) := by decide +kernel
theorem d27_5 : decode jdk_65_method_131_code 5 = .ok (.new 43, 3) := by decide +kernel
theorem d27_8 : decode jdk_65_method_131_code 8 = .ok (.dup, 1) := by decide +kernel
theorem d27_9 : decode jdk_65_method_131_code 9 = .ok (.new 45, 3) := by decide +kernel
theorem d27_12 : decode jdk_65_method_131_code 12 = .ok (.dup, 1) := by decide +kernel
theorem d27_13 : decode jdk_65_method_131_code 13 = .ok (.invokespecial 47, 3) := by decide +kernel
theorem d27_16 : decode jdk_65_method_131_code 16 = .ok (.iload_n 0, 1) := by decide +kernel
theorem d27_17 : decode jdk_65_method_131_code 17 = .ok (.invokevirtual 54, 3) := by decide +kernel
theorem d27_20 : decode jdk_65_method_131_code 20 = .ok (.ldc_w 337, 3) := by decide +kernel
theorem d27_23 : decode jdk_65_method_131_code 23 = .ok (.invokevirtual 50, 3) := by decide +kernel
theorem d27_26 : decode jdk_65_method_131_code 26 = .ok (.iload_n 1, 1) := by decide +kernel
theorem d27_27 : decode jdk_65_method_131_code 27 = .ok (.invokevirtual 54, 3) := by decide +kernel
theorem d27_30 : decode jdk_65_method_131_code 30 = .ok (.invokevirtual 61, 3) := by decide +kernel
theorem d27_33 : decode jdk_65_method_131_code 33 = .ok (.invokespecial 65, 3) := by decide +kernel
theorem d27_36 : decode jdk_65_method_131_code 36 = .ok (.athrow, 1) := by decide +kernel
theorem d27_37 : decode jdk_65_method_131_code 37 = .ok (.return_, 1) := by decide +kernel
def Q27_13 (Z : State) (i1 : Int32) (i2 : Int32) (h0 : Heap) (n0 : Nat) (v : Option Value) (h : Heap) (L : List Loc) : Prop := v = none ∧ Fr n0 L ∧ h = h0
set_option maxRecDepth 65536 in
set_option maxHeartbeats 40000000 in
theorem rm27_13 (l : Launch) (Z : State) (a0 : Array Value) (hw : ∀ d ∈ tables_1, d.before a0 Z = true) (ws : List Jvm.Cond) (i1 : Int32) (i2 : Int32) (h0 : Heap) (n0 : Nat) (Z0 : n0 ≤ h0.size) (hy0 : ¬ (i2 < i1))  :
    OwnM l Z nM12 jdk_65_method_131_code 2 none ws ({ frames := 0, cells := 0, slots := 0, locals := 0 } : Room) #[(.int i1), (.int i2)] h0 (Q27_13 Z i1 i2 h0 n0) := by
  refine own_body (plainFor_of_name pn_5) ?_
  intro p e s m below meth c s₁ G hx hby hml hZ hown hnm hret X0 e0 step fin
  replace hown : s.vm.findClass "java/util/Arrays" = some m.cls := hown
  have N0 := Fr.nil n0
  have KK : OwnK p e below c _ G := ⟨step, hx, hby⟩
  refine step (s₁.setTop (mkF m 0 #[vi i1, vi i2] [])) (fun t k => castTop (ef_21_3 m i1 i2) k) ?_
  refine oil KK X0 d27_0 i2 1 rfl rfl ?_
  refine oil KK X0 d27_1 i1 2 rfl rfl ?_
  have hc2_1 : ¬ (i2 < i1) := hy0
  refine oiy KK X0 d27_2 37 (flt hc2_1).2.1 (by decide) rfl ?_
  refine fin (v := none) X0 (fun _ => rfl) ?_ (by decide) (by decide) (fun fs hr => X0.returnOut hx hret (hb hby d27_37) hr)
  show Q27_13 Z i1 i2 h0 n0 (none) s₁.heap _
  rw [e0]
  exact ⟨rfl, N0, rfl⟩
theorem d28_0 : decode jdk_29_method_69_code 0 = .ok (.iload_n 0, 1) := by decide +kernel
theorem d28_1 : decode jdk_29_method_69_code 1 = .ok (.iload_n 1, 1) := by decide +kernel
theorem d28_2 : decode jdk_29_method_69_code 2 = .ok (.if_icmp .gt 7, 3) := by decide +kernel
theorem d28_5 : decode jdk_29_method_69_code 5 = .ok (.iload_n 0, 1) := by decide +kernel
theorem d28_6 : decode jdk_29_method_69_code 6 = .ok (.goto 4, 3) := by decide +kernel
theorem d28_9 : decode jdk_29_method_69_code 9 = .ok (.iload_n 1, 1) := by decide +kernel
theorem d28_10 : decode jdk_29_method_69_code 10 = .ok (.ireturn, 1) := by decide +kernel
def Q28_14 (Z : State) (i1 : Int32) (i2 : Int32) (h0 : Heap) (n0 : Nat) (v : Option Value) (h : Heap) (L : List Loc) : Prop := ∃ (z10_1 : Int32), v = some (.int z10_1) ∧ Fr n0 L ∧ h = h0 ∧ z10_1 = (if i2 < i1 then i2 else i1)
set_option maxRecDepth 65536 in
set_option maxHeartbeats 40000000 in
theorem rm28_14 (l : Launch) (Z : State) (a0 : Array Value) (hw : ∀ d ∈ tables_1, d.before a0 Z = true) (ws : List Jvm.Cond) (i1 : Int32) (i2 : Int32) (h0 : Heap) (n0 : Nat) (Z0 : n0 ≤ h0.size)  :
    OwnM l Z nM13 jdk_29_method_69_code 2 (some .int) ws ({ frames := 0, cells := 0, slots := 0, locals := 0 } : Room) #[(.int i1), (.int i2)] h0 (Q28_14 Z i1 i2 h0 n0) := by
  refine own_body (Jvm.Free.JP.mathPlain rfl (by decide +kernel)) ?_
  intro p e s m below meth c s₁ G hx hby hml hZ hown hnm hret X0 e0 step fin
  replace hown : s.vm.findClass "java/lang/Math" = some m.cls := hown
  have N0 := Fr.nil n0
  have KK : OwnK p e below c _ G := ⟨step, hx, hby⟩
  refine step (s₁.setTop (mkF m 0 #[vi i1, vi i2] [])) (fun t k => castTop (ef_21_3 m i1 i2) k) ?_
  refine oil KK X0 d28_0 i1 1 rfl rfl ?_
  refine oil KK X0 d28_1 i2 2 rfl rfl ?_
  suffices J10_2 : ∀ (z10_1 : Int32), z10_1 = (if i2 < i1 then i2 else i1) → G (s₁.setTop (mkF m 10 #[vi i1, vi i2] [(.int z10_1)])) by
    by_cases hc2_3 : i2 < i1
    · -- 2 True
      refine oiy KK X0 d28_2 9 (tlt hc2_3).2.2.1 (by decide) rfl ?_
      refine oil KK X0 d28_9 i2 10 rfl rfl ?_
      exact J10_2 _ (by simp only [if_pos hc2_3, if_true, if_false] <;> rfl)
    · -- 2 False
      refine oin KK X0 d28_2 5 rfl (flt hc2_3).2.2.1 ?_
      refine oil KK X0 d28_5 i1 6 rfl rfl ?_
      refine ogo KK X0 d28_6 10 (by decide) rfl ?_
      exact J10_2 _ (by simp only [if_neg hc2_3, if_true, if_false] <;> rfl)
  intro z10_1 hz10_1
  refine fin (v := some (.int z10_1)) X0 (fun h => by cases h) ?_ (by decide) (by decide) (fun fs hr => retI X0 hx hret (hb hby d28_10) hr)
  show Q28_14 Z i1 i2 h0 n0 (some (.int z10_1)) s₁.heap _
  rw [e0]
  exact ⟨z10_1, rfl, N0, rfl, hz10_1⟩
theorem ef_26 (m : MethodId) (x0 : Addr) (x1 : Int32) (x2 : Int32) : entryFrame m #[(.ref x0), (.int x1), (.int x2)] 5 = mkF m 0 #[.val (.ref x0), .val (.int x1), .val (.int x2), .unset, .unset] [] := by first | (simp [entryFrame, mkF, argsToLocals, Value.category]; done) | rfl
def Q26 (Z : State) (ob : Addr) (kb : ClassId) (N : Int32) (bs : List Int32) (f z : Int32) (cs : Int32) (fo : Value) (h0 : Heap) (n0 : Nat) (v : Option Value) (h : Heap) (L : List Loc) : Prop := ∃ (rb : Addr) (rk : ClassId), v = some (.ref rb) ∧ Fr n0 L ∧ Keep h0 h [] ∧ h0.size ≤ rb ∧ Arv Z h rb rk .byte (z - f) (List.map Value.int (own_cut bs f z)) (.int 0)
set_option maxRecDepth 65536 in
set_option maxHeartbeats 40000000 in
theorem rm26 (l : Launch) (Z : State) (a0 : Array Value) (hw : ∀ d ∈ tables_1, d.before a0 Z = true) (ws : List Jvm.Cond) (ob : Addr) (kb : ClassId) (N : Int32) (bs : List Int32) (f z : Int32) (cs : Int32) (fo : Value) (h0 : Heap) (n0 : Nat) (Z0 : n0 ≤ h0.size) (Vb : Arv Z h0 ob kb .byte N (List.map Value.int bs) (.int 0)) (hNl : N.toInt = bs.length) (hN10 : N.toInt ≤ 10) (hf0 : 0 ≤ f.toInt) (hfz : f.toInt ≤ z.toInt) (hzN : z.toInt ≤ N.toInt) (S_cs : Sta Z h0 "java/lang/String" "COMPACT_STRINGS" "Z" (.int cs)) (c_cs : ¬ (cs = (0 : Int32))) (S_fo : Sta Z h0 "jdk/internal/util/Preconditions" "SIOOBE_FORMATTER" "Ljava/util/function/BiFunction;" fo) (r_fo : Value.isRef fo = true) (S_ad : Sta Z h0 "java/lang/StringUTF16" "$assertionsDisabled" "Z" (.int 1)) (S_hi : Sta Z h0 "java/lang/StringUTF16" "HI_BYTE_SHIFT" "I" (.int 0)) (S_lo : Sta Z h0 "java/lang/StringUTF16" "LO_BYTE_SHIFT" "I" (.int 8)) :
    OwnM l Z nM14 jdk_65_method_133_code 5 (some (.array .byte)) ws ({ frames := 1, cells := 1, slots := 10, locals := 18 } : Room) #[(.ref ob), (.int f), (.int z)] h0 (Q26 Z ob kb N bs f z cs fo h0 n0) := by
  refine own_body (plainFor_of_name pn_5) ?_
  intro p e s m below meth c s₁ G hx hby hml hZ hown hnm hret X0 e0 step fin
  replace hown : s.vm.findClass "java/util/Arrays" = some m.cls := hown
  have N0 := Fr.nil n0
  have KK : OwnK p e below c _ G := ⟨step, hx, hby⟩
  refine step (s₁.setTop (mkF m 0 #[vr ob, vi f, vi z, .unset, .unset] [])) (fun t k => castTop (ef_26 m ob f z) k) ?_
  have hzf : ¬ (z < f) := by rw [Int32.lt_iff_toInt_lt]; omega
  have hs := own_sub hf0 hfz (by omega)
  have hs0 : ¬ ((z - f) < (0 : Int32)) := by rw [Int32.lt_iff_toInt_lt, show (0 : Int32).toInt = 0 by decide]; omega
  have hs1 : (z - f).toNatClampNeg ≤ 10 := by rw [own_tn]; omega
  refine oil KK X0 d26_0 f 1 rfl rfl ?_
  refine oil KK X0 d26_1 z 2 rfl rfl ?_
  obtain ⟨_, _, ⟨T1, L1, k1, n1⟩, -, X1, ⟨Lc1, hQ1, l1, y1, z1⟩, st1⟩ := Jvm.LawKit.callS X0 hx (y := nM12) hown (mvT hZ (ow hw 114 rfl)) (mvT hZ (ow hw 115 rfl)) (mvT hZ (ow hw 109 rfl)) (mvT hZ (ow hw 116 rfl)) (by decide) (backOf (W := 0) (rm27_13 l Z a0 hw [] f z h0 n0 Z0 hzf) hZ (ow hw 116 rfl) (ow hw 109 rfl) (by decide) (by decide)) (g := (mkF m 2 #[vr ob, vi f, vi z, .unset, .unset] [(.int z), (.int f)])) rfl (by rw [hml]; rfl) (argsL := [(.int f), (.int z)]) (rest := []) (lenOf pd_2 rfl) rfl (omw rfl rfl) (hb hby d26_2) (fun _ _ => ⟨rfl, e0, (by decide : 0 + 0 ≤ _), (by decide : 0 + 0 ≤ _)⟩)
  dsimp only [Pt.U, Pt.locs, Pt.cells, Pt.slots] at X1 l1 y1 z1 st1 hQ1
  subst l1 y1 z1
  obtain ⟨rfl, N1q, e1q⟩ := hQ1
  have N1 := Fr.app N0 N1q
  refine step (T1.setTop (mkF m 5 #[vr ob, vi f, vi z, .unset, .unset] [])) (fun t k => st1 t k) ?_
  refine oil KK X1 d26_5 z 6 rfl rfl ?_
  refine oil KK X1 d26_6 f 7 rfl rfl ?_
  refine step (T1.setTop (mkF m 8 #[vr ob, vi f, vi z, .unset, .unset] [(.int (z - f))])) (fun t k => XS.isub X1.here hx rfl (hb hby d26_7) rfl k) ?_
  refine ois KK X1 d26_8 #[vr ob, vi f, vi z, .val (.int (z - f)), .unset] 9 rfl rfl ?_
  refine oil KK X1 d26_9 (z - f) 10 rfl rfl ?_
  obtain ⟨T2, h2, k2, X2, e2, E2, A2, st2⟩ := newP X1 hx hZ (ow hw 23 rfl) e1q (g := (mkF m 10 #[vr ob, vi f, vi z, .val (.int (z - f)), .unset] [(.int (z - f))])) rfl (hb hby d26_10) rfl hs0 (cap := 10) hs1 (by decide) (by decide) (by decide)
  obtain ⟨b2, g2⟩ : ∃ z, z = h0.size := ⟨_, rfl⟩
  rw [← g2] at A2 st2
  have ne_ob_b2 : ob ≠ b2 := Nat.ne_of_lt (Nat.lt_of_lt_of_le Vb.lt (Nat.le_of_eq g2.symm))
  have gn_b2 : n0 ≤ b2 := Nat.le_trans Z0 (Nat.le_of_eq g2.symm)
  have sz_b2 : h0.size ≤ b2 := Nat.le_of_eq g2.symm
  have K2 : Keep h0 h2 [] := (Keep.refl h0 []).ext E2
  have V2 : Arv Z h2 b2 k2 .byte (z - f) (List.map Value.int []) (.int 0) := Arv.new A2 hs0
  refine step (T2.setTop (mkF m 12 #[vr ob, vi f, vi z, .val (.int (z - f)), .unset] [(.ref b2)])) (fun t k => st2 t k) ?_
  refine step (T2.setTop (mkF m 14 #[vr ob, vi f, vi z, .val (.int (z - f)), vr b2] [])) (fun t k => XS.astore X2.here hx rfl (hb hby d26_12) rfl rfl (l' := #[vr ob, vi f, vi z, .val (.int (z - f)), vr b2]) rfl k) ?_
  refine oal KK X2 d26_14 (.ref ob) 15 rfl rfl rfl ?_
  refine oil KK X2 d26_15 f 16 rfl rfl ?_
  refine oaL KK X2 d26_16 (.ref b2) 18 rfl rfl rfl ?_
  refine oic KK X2 d26_18 0 19 rfl rfl ?_
  refine oal KK X2 d26_19 (.ref ob) 20 rfl rfl rfl ?_
  have f3 := (Vb.ext E2)
  obtain ⟨cl4, Ar4, q4, S4, N4n, H4, G4⟩ := id f3
  refine step (T2.setTop (mkF m 21 #[vr ob, vi f, vi z, .val (.int (z - f)), vr b2] [(.int N), (.int 0), (.ref b2), (.int f), (.ref ob)])) (fun t k => X2.arraylength hx (by rw [e2]; exact Ar4.1) (State.isArrayOf_alike hZ.alike Ar4.2.1) (g := (mkF m 20 #[vr ob, vi f, vi z, .val (.int (z - f)), vr b2] [(.ref ob), (.int 0), (.ref b2), (.int f), (.ref ob)])) rfl rfl (hb hby d26_20) t (by rw [len_of S4 N4n]; exact k)) ?_
  refine oil KK X2 d26_21 f 22 rfl rfl ?_
  refine step (T2.setTop (mkF m 23 #[vr ob, vi f, vi z, .val (.int (z - f)), vr b2] [(.int (N - f)), (.int 0), (.ref b2), (.int f), (.ref ob)])) (fun t k => XS.isub X2.here hx rfl (hb hby d26_22) rfl k) ?_
  refine oil KK X2 d26_23 (z - f) 24 rfl rfl ?_
  obtain ⟨_, _, ⟨T5, L5, k5, n5⟩, -, X5, ⟨Lc5, hQ5, l5, y5, z5⟩, st5⟩ := Jvm.LawKit.callS X2 hx (y := nM13) hown (mvT hZ (ow hw 117 rfl)) (mvT hZ (ow hw 118 rfl)) (mvT hZ (ow hw 32 rfl)) (mvT hZ (ow hw 119 rfl)) (by decide) (backOf (W := 4) (rm28_14 l Z a0 hw [] (N - f) (z - f) h2 n0 (Nat.le_trans Z0 K2.1) ) hZ (ow hw 119 rfl) (ow hw 32 rfl) (by decide) (by decide)) (g := (mkF m 24 #[vr ob, vi f, vi z, .val (.int (z - f)), vr b2] [(.int (z - f)), (.int (N - f)), (.int 0), (.ref b2), (.int f), (.ref ob)])) rfl (by rw [hml]; rfl) (argsL := [(.int (N - f)), (.int (z - f))]) (rest := [(.int 0), (.ref b2), (.int f), (.ref ob)]) (lenOf pd_7 rfl) rfl (omw rfl rfl) (hb hby d26_24) (fun _ _ => ⟨rfl, e2, (by decide : 1 + 0 ≤ _), (by decide : 10 + 0 ≤ _)⟩)
  dsimp only [Pt.U, Pt.locs, Pt.cells, Pt.slots] at X5 l5 y5 z5 st5 hQ5
  subst l5 y5 z5
  obtain ⟨z10_1_5, rfl, N5q, e5q, hz10_1_5⟩ := hQ5
  have N5 := Fr.app N1 N5q
  refine step (T5.setTop (mkF m 27 #[vr ob, vi f, vi z, .val (.int (z - f)), vr b2] [(.int z10_1_5), (.int 0), (.ref b2), (.int f), (.ref ob)])) (fun t k => st5 t k) ?_
  obtain rfl := own_minE hf0 hfz hzN hN10 hz10_1_5
  obtain ⟨T6, h6, L6, X6, e6, N6, K6q, Vq6, st6⟩ := cpA X5 hx hZ hown (ow hw 120 rfl) (ow hw 123 rfl) (ow hw 121 rfl) (ow hw 122 rfl) e5q f3 (Arv.pad V2 (pad_rep [] (.int 0) (z - f).toNatClampNeg)) (Or.inl ⟨rfl, rfl⟩) (own_nneg' hf0) (by decide) hs0 (by simp only [own_tn]; omega) (by rw [show (0 : Int32).toNatClampNeg = 0 by decide, Nat.zero_add]; exact Nat.le_refl _) rfl (by rw [show (0 : Int32).toNatClampNeg = 0 by decide, List.nil_append, List.length_replicate, Nat.zero_add]; exact Nat.le_refl _) N5 gn_b2 (g := (mkF m 27 #[vr ob, vi f, vi z, .val (.int (z - f)), vr b2] [(.int (z - f)), (.int 0), (.ref b2), (.int f), (.ref ob)])) rfl (by rw [hml]; rfl) (rest := []) rfl (hb hby d26_27) (by decide) (W := 0) (omw rfl rfl) (by decide)
  have f7 := (S_cs.ext E2)
  have f8 := (S_fo.ext E2)
  have f9 := (S_ad.ext E2)
  have f10 := (S_hi.ext E2)
  have f11 := (S_lo.ext E2)
  have K6 : Keep h0 h6 [] := K2.trans K6q (allS (Or.inr sz_b2) all0)
  have V6 : Arv Z h6 b2 k2 .byte (z - f) (List.map Value.int (own_cut bs f z)) (.int 0) := own_arvC hf0 hs (by omega) Vq6
  refine step (T6.setTop (mkF m 30 #[vr ob, vi f, vi z, .val (.int (z - f)), vr b2] [])) (fun t k => st6 t k) ?_
  refine oaL KK X6 d26_30 (.ref b2) 32 rfl rfl rfl ?_
  refine fin (v := some (.ref b2)) X6 (fun h => by cases h) ?_ (by decide) (by decide) (fun fs hr => X6.areturnOut hx rfl hret rfl (hb hby d26_32) hr)
  show Q26 Z ob kb N bs f z cs fo h0 n0 (some (.ref b2)) T6.heap _
  rw [e6]
  exact ⟨b2, k2, rfl, N6, K6, sz_b2, V6⟩
theorem d25_0 : decode jdk_65_method_132_code 0 = .ok (.iload_n 1, 1) := by decide +kernel
theorem d25_1 : decode jdk_65_method_132_code 1 = .ok (.ifCond .ne 9, 3) := by decide +kernel
theorem d25_4 : decode jdk_65_method_132_code 4 = .ok (.iload_n 2, 1) := by decide +kernel
theorem d25_5 : decode jdk_65_method_132_code 5 = .ok (.aload_n 0, 1) := by decide +kernel
theorem d25_6 : decode jdk_65_method_132_code 6 = .ok (.arraylength, 1) := by decide +kernel
theorem d25_7 : decode jdk_65_method_132_code 7 = .ok (.if_icmp .eq 10, 3) := by decide +kernel
theorem d25_10 : decode jdk_65_method_132_code 10 = .ok (.aload_n 0, 1) := by decide +kernel
theorem d25_11 : decode jdk_65_method_132_code 11 = .ok (.iload_n 1, 1) := by decide +kernel
theorem d25_12 : decode jdk_65_method_132_code 12 = .ok (.iload_n 2, 1) := by decide +kernel
theorem d25_13 : decode jdk_65_method_132_code 13 = .ok (.invokestatic 339, 3) := by decide +kernel
theorem d25_16 : decode jdk_65_method_132_code 16 = .ok (.areturn, 1) := by decide +kernel
theorem d25_17 : decode jdk_65_method_132_code 17 = .ok (.aload_n 0, 1) := by decide +kernel
theorem d25_18 : decode jdk_65_method_132_code 18 = .ok (.invokevirtual 310, 3) := by decide +kernel
theorem d25_21 : decode jdk_65_method_132_code 21 = .ok (.checkcast 311, 3) := by decide +kernel
theorem d25_24 : decode jdk_65_method_132_code 24 = .ok (.areturn, 1) := by decide +kernel
theorem pd_9 : parseMethodDescriptor "([BII)[B" = some ⟨[(.array .byte), .int, .int], some (.array .byte)⟩ := by decide +kernel
theorem ef_25 (m : MethodId) (x0 : Addr) (x1 : Int32) (x2 : Int32) : entryFrame m #[(.ref x0), (.int x1), (.int x2)] 3 = mkF m 0 #[.val (.ref x0), .val (.int x1), .val (.int x2)] [] := by first | (simp [entryFrame, mkF, argsToLocals, Value.category]; done) | rfl
def Q25 (Z : State) (ob : Addr) (kb : ClassId) (N : Int32) (bs : List Int32) (f z : Int32) (cs : Int32) (fo : Value) (h0 : Heap) (n0 : Nat) (v : Option Value) (h : Heap) (L : List Loc) : Prop := ∃ (rb : Addr) (rk : ClassId), v = some (.ref rb) ∧ Fr n0 L ∧ Keep h0 h [] ∧ h0.size ≤ rb ∧ Arv Z h rb rk .byte (z - f) (List.map Value.int (own_cut bs f z)) (.int 0)
set_option maxRecDepth 65536 in
set_option maxHeartbeats 40000000 in
theorem rm25 (l : Launch) (Z : State) (a0 : Array Value) (hw : ∀ d ∈ tables_1, d.before a0 Z = true) (ws : List Jvm.Cond) (ob : Addr) (kb : ClassId) (N : Int32) (bs : List Int32) (f z : Int32) (cs : Int32) (fo : Value) (h0 : Heap) (n0 : Nat) (Z0 : n0 ≤ h0.size) (Vb : Arv Z h0 ob kb .byte N (List.map Value.int bs) (.int 0)) (hNl : N.toInt = bs.length) (hN10 : N.toInt ≤ 10) (hf0 : 0 ≤ f.toInt) (hfz : f.toInt ≤ z.toInt) (hzN : z.toInt ≤ N.toInt) (hne : ¬ (f = (0 : Int32) ∧ z = N)) (S_cs : Sta Z h0 "java/lang/String" "COMPACT_STRINGS" "Z" (.int cs)) (c_cs : ¬ (cs = (0 : Int32))) (S_fo : Sta Z h0 "jdk/internal/util/Preconditions" "SIOOBE_FORMATTER" "Ljava/util/function/BiFunction;" fo) (r_fo : Value.isRef fo = true) (S_ad : Sta Z h0 "java/lang/StringUTF16" "$assertionsDisabled" "Z" (.int 1)) (S_hi : Sta Z h0 "java/lang/StringUTF16" "HI_BYTE_SHIFT" "I" (.int 0)) (S_lo : Sta Z h0 "java/lang/StringUTF16" "LO_BYTE_SHIFT" "I" (.int 8)) :
    OwnM l Z nM15 jdk_65_method_132_code 3 (some (.array .byte)) ws ({ frames := 2, cells := 1, slots := 10, locals := 34 } : Room) #[(.ref ob), (.int f), (.int z)] h0 (Q25 Z ob kb N bs f z cs fo h0 n0) := by
  refine own_body (plainFor_of_name pn_5) ?_
  intro p e s m below meth c s₁ G hx hby hml hZ hown hnm hret X0 e0 step fin
  replace hown : s.vm.findClass "java/util/Arrays" = some m.cls := hown
  have N0 := Fr.nil n0
  have KK : OwnK p e below c _ G := ⟨step, hx, hby⟩
  refine step (s₁.setTop (mkF m 0 #[vr ob, vi f, vi z] [])) (fun t k => castTop (ef_25 m ob f z) k) ?_
  refine oil KK X0 d25_0 f 1 rfl rfl ?_
  by_cases hc1_1 : f = (0 : Int32)
  · -- pc 1: f = (0 : Int32) True
    refine step (s₁.setTop (mkF m 4 #[vr ob, vi f, vi z] [])) (fun t k => XS.ifNo X0.here hx rfl (hb hby d25_1) rfl ((if0 _ _).trans (teq hc1_1).2) k) ?_
    refine oil KK X0 d25_4 z 5 rfl rfl ?_
    refine oal KK X0 d25_5 (.ref ob) 6 rfl rfl rfl ?_
    obtain ⟨cl2, Ar2, q2, S2, N2n, H2, G2⟩ := id Vb
    refine step (s₁.setTop (mkF m 7 #[vr ob, vi f, vi z] [(.int N), (.int z)])) (fun t k => X0.arraylength hx (by rw [e0]; exact Ar2.1) (State.isArrayOf_alike hZ.alike Ar2.2.1) (g := (mkF m 6 #[vr ob, vi f, vi z] [(.ref ob), (.int z)])) rfl rfl (hb hby d25_6) t (by rw [len_of S2 N2n]; exact k)) ?_
    have hc7_3 : ¬ (z = N) := fun q => hne ⟨hc1_1, q⟩
    refine oin KK X0 d25_7 10 rfl (feq hc7_3).1 ?_
    refine oal KK X0 d25_10 (.ref ob) 11 rfl rfl rfl ?_
    refine oil KK X0 d25_11 f 12 rfl rfl ?_
    refine oil KK X0 d25_12 z 13 rfl rfl ?_
    obtain ⟨_, _, ⟨T4, L4, k4, n4⟩, -, X4, ⟨Lc4, hQ4, l4, y4, z4⟩, st4⟩ := Jvm.LawKit.callS X0 hx (y := nM14) hown (mvT hZ (ow hw 111 rfl)) (mvT hZ (ow hw 112 rfl)) (mvT hZ (ow hw 109 rfl)) (mvT hZ (ow hw 113 rfl)) (by decide) (backOf (W := 0) (rm26 l Z a0 hw [] ob kb N bs f z cs fo h0 n0 Z0 Vb hNl hN10 hf0 hfz hzN S_cs c_cs S_fo r_fo S_ad S_hi S_lo) hZ (ow hw 113 rfl) (ow hw 109 rfl) (by decide) (by decide)) (g := (mkF m 13 #[vr ob, vi f, vi z] [(.int z), (.int f), (.ref ob)])) rfl (by rw [hml]; rfl) (argsL := [(.ref ob), (.int f), (.int z)]) (rest := []) (lenOf pd_9 rfl) rfl (omw rfl rfl) (hb hby d25_13) (fun _ _ => ⟨rfl, e0, (by decide : 0 + 1 ≤ _), (by decide : 0 + 10 ≤ _)⟩)
    dsimp only [Pt.U, Pt.locs, Pt.cells, Pt.slots] at X4 l4 y4 z4 st4 hQ4
    subst l4 y4 z4
    obtain ⟨h4, e4⟩ : ∃ z, T4.heap = z := ⟨_, rfl⟩
    rw [e4] at hQ4
    obtain ⟨rb4, rk4, rfl, N4q, K4q, sz_rb4, Vr4⟩ := hQ4
    have N4 := Fr.app N0 N4q
    have lt4_ob := Vb.lt
    have ne_ob_rb4 : ob ≠ rb4 := Nat.ne_of_lt (Nat.lt_of_lt_of_le lt4_ob sz_rb4)
    have gn_rb4 : n0 ≤ rb4 := Nat.le_trans Z0 sz_rb4
    have K4 : Keep h0 h4 [] := (Keep.refl h0 []).trans K4q all0
    have f5 := own_staK S_cs K4q all0
    have f6 := own_staK S_fo K4q all0
    have f7 := own_staK S_ad K4q all0
    have f8 := own_staK S_hi K4q all0
    have f9 := own_staK S_lo K4q all0
    refine step (T4.setTop (mkF m 16 #[vr ob, vi f, vi z] [(.ref rb4)])) (fun t k => st4 t k) ?_
    refine fin (v := some (.ref rb4)) X4 (fun h => by cases h) ?_ (by decide) (by decide) (fun fs hr => X4.areturnOut hx rfl hret rfl (hb hby d25_16) hr)
    show Q25 Z ob kb N bs f z cs fo h0 n0 (some (.ref rb4)) T4.heap _
    rw [e4]
    exact ⟨rb4, rk4, rfl, N4, K4, sz_rb4, Vr4⟩
  · -- pc 1: f = (0 : Int32) False
    refine step (s₁.setTop (mkF m 10 #[vr ob, vi f, vi z] [])) (fun t k => XS.ifYes X0.here hx rfl (pc0 := 1) (pc' := 10) rfl (hb hby d25_1) rfl ((if0 _ _).trans (feq hc1_1).2) (by decide) (by decide) k) ?_
    refine oal KK X0 d25_10 (.ref ob) 11 rfl rfl rfl ?_
    refine oil KK X0 d25_11 f 12 rfl rfl ?_
    refine oil KK X0 d25_12 z 13 rfl rfl ?_
    obtain ⟨_, _, ⟨T10, L10, k10, n10⟩, -, X10, ⟨Lc10, hQ10, l10, y10, z10⟩, st10⟩ := Jvm.LawKit.callS X0 hx (y := nM14) hown (mvT hZ (ow hw 111 rfl)) (mvT hZ (ow hw 112 rfl)) (mvT hZ (ow hw 109 rfl)) (mvT hZ (ow hw 113 rfl)) (by decide) (backOf (W := 0) (rm26 l Z a0 hw [] ob kb N bs f z cs fo h0 n0 Z0 Vb hNl hN10 hf0 hfz hzN S_cs c_cs S_fo r_fo S_ad S_hi S_lo) hZ (ow hw 113 rfl) (ow hw 109 rfl) (by decide) (by decide)) (g := (mkF m 13 #[vr ob, vi f, vi z] [(.int z), (.int f), (.ref ob)])) rfl (by rw [hml]; rfl) (argsL := [(.ref ob), (.int f), (.int z)]) (rest := []) (lenOf pd_9 rfl) rfl (omw rfl rfl) (hb hby d25_13) (fun _ _ => ⟨rfl, e0, (by decide : 0 + 1 ≤ _), (by decide : 0 + 10 ≤ _)⟩)
    dsimp only [Pt.U, Pt.locs, Pt.cells, Pt.slots] at X10 l10 y10 z10 st10 hQ10
    subst l10 y10 z10
    obtain ⟨h10, e10⟩ : ∃ z, T10.heap = z := ⟨_, rfl⟩
    rw [e10] at hQ10
    obtain ⟨rb10, rk10, rfl, N10q, K10q, sz_rb10, Vr10⟩ := hQ10
    have N10 := Fr.app N0 N10q
    have lt10_ob := Vb.lt
    have ne_ob_rb10 : ob ≠ rb10 := Nat.ne_of_lt (Nat.lt_of_lt_of_le lt10_ob sz_rb10)
    have gn_rb10 : n0 ≤ rb10 := Nat.le_trans Z0 sz_rb10
    have K10 : Keep h0 h10 [] := (Keep.refl h0 []).trans K10q all0
    have f11 := own_staK S_cs K10q all0
    have f12 := own_staK S_fo K10q all0
    have f13 := own_staK S_ad K10q all0
    have f14 := own_staK S_hi K10q all0
    have f15 := own_staK S_lo K10q all0
    refine step (T10.setTop (mkF m 16 #[vr ob, vi f, vi z] [(.ref rb10)])) (fun t k => st10 t k) ?_
    refine fin (v := some (.ref rb10)) X10 (fun h => by cases h) ?_ (by decide) (by decide) (fun fs hr => X10.areturnOut hx rfl hret rfl (hb hby d25_16) hr)
    show Q25 Z ob kb N bs f z cs fo h0 n0 (some (.ref rb10)) T10.heap _
    rw [e10]
    exact ⟨rb10, rk10, rfl, N10, K10, sz_rb10, Vr10⟩
def Q34 (Z : State) (ob : Addr) (kb : ClassId) (xs : List Int32) (n N : Int32) (i : Int32) (cs : Int32) (fo : Value) (h0 : Heap) (n0 : Nat) (v : Option Value) (h : Heap) (L : List Loc) : Prop := v = some (.int (List.getD xs (i).toNatClampNeg (0 : Int32))) ∧ Fr n0 L ∧ h = h0
set_option maxRecDepth 65536 in
set_option maxHeartbeats 40000000 in
theorem rm34 (l : Launch) (Z : State) (a0 : Array Value) (hw : ∀ d ∈ tables_1, d.before a0 Z = true) (ws : List Jvm.Cond) (ob : Addr) (kb : ClassId) (xs : List Int32) (n N : Int32) (i : Int32) (cs : Int32) (fo : Value) (h0 : Heap) (n0 : Nat) (Z0 : n0 ≤ h0.size) (Vb : Arv Z h0 ob kb .byte N (List.map Value.int (own_u xs)) (.int 0)) (hn : n.toInt = xs.length) (h5 : xs.length ≤ 5) (hch : ∀ c ∈ xs, 0 ≤ c.toInt ∧ c.toInt < 65536) (hN : N.toInt = 2 * xs.length) (hi0 : ¬ (i < (0 : Int32))) (hin : i < n) (S_cs : Sta Z h0 "java/lang/String" "COMPACT_STRINGS" "Z" (.int cs)) (c_cs : ¬ (cs = (0 : Int32))) (S_fo : Sta Z h0 "jdk/internal/util/Preconditions" "SIOOBE_FORMATTER" "Ljava/util/function/BiFunction;" fo) (r_fo : Value.isRef fo = true) (S_ad : Sta Z h0 "java/lang/StringUTF16" "$assertionsDisabled" "Z" (.int 1)) (S_hi : Sta Z h0 "java/lang/StringUTF16" "HI_BYTE_SHIFT" "I" (.int 0)) (S_lo : Sta Z h0 "java/lang/StringUTF16" "LO_BYTE_SHIFT" "I" (.int 8)) :
    OwnM l Z nM6 jdk_52_method_5_code 2 (some .char) ws ({ frames := 0, cells := 0, slots := 0, locals := 0 } : Room) #[(.ref ob), (.int i)] h0 (Q34 Z ob kb xs n N i cs fo h0 n0) := by
  refine own_body (plainFor_of_name pn_3) ?_
  intro p e s m below meth c s₁ G hx hby hml hZ hown hnm hret X0 e0 step fin
  replace hown : s.vm.findClass "java/lang/StringUTF16" = some m.cls := hown
  have N0 := Fr.nil n0
  have KK : OwnK p e below c _ G := ⟨step, hx, hby⟩
  refine step (s₁.setTop (mkF m 0 #[vr ob, vi i] [])) (fun t k => castTop (ef_20_2 m ob i) k) ?_
  obtain ⟨lt1, ge2, lt2, ge3, lt3⟩ := own_ix hi0 hin hn h5 hN
  obtain ⟨T1, X1, e1, st1⟩ := getS2 X0 hx hZ hown (host := "") (Or.inl (ow hw 141 rfl)) Via.refl e0 S_ad (g := (mkF m 0 #[vr ob, vi i] [])) rfl (hb hby d34_0)
  refine step (T1.setTop (mkF m 3 #[vr ob, vi i] [(.int 1)])) (fun t k => st1 t k) ?_
  refine step (T1.setTop (mkF m 28 #[vr ob, vi i] [])) (fun t k => XS.ifYes X1.here hx rfl (pc0 := 3) (pc' := 28) rfl (hb hby d34_3) rfl ((if0 _ _).trans (feq (by decide : ¬ ((1 : Int32) = (0 : Int32)))).2) (by decide) (by decide) k) ?_
  refine oil KK X1 d34_28 i 29 rfl rfl ?_
  refine oic KK X1 d34_29 1 30 rfl rfl ?_
  refine step (T1.setTop (mkF m 31 #[vr ob, vi i] [(.int (i <<< ((1 : Int32) &&& 31)))])) (fun t k => XS.ishl X1.here hx rfl (hb hby d34_30) rfl k) ?_
  refine ois KK X1 d34_31 #[vr ob, .val (.int (i <<< ((1 : Int32) &&& 31)))] 32 rfl rfl ?_
  refine oal KK X1 d34_32 (.ref ob) 33 rfl rfl rfl ?_
  refine oil KK X1 d34_33 (i <<< ((1 : Int32) &&& 31)) 34 rfl rfl ?_
  refine oii KK X1 d34_34 #[vr ob, .val (.int ((i <<< ((1 : Int32) &&& 31)) + (1 : Int32)))] 37 rfl rfl rfl ?_
  obtain ⟨cl2, Ar2, q2, S2, N2n, H2, G2⟩ := id Vb
  have hin2 : ¬ ((i <<< ((1 : Int32) &&& 31)) < 0 ∨ cl2.slots.size ≤ ((i <<< ((1 : Int32) &&& 31))).toNatClampNeg) := inb_of S2 ⟨ge2, lt2⟩
  have hat2 : cl2.slots[((i <<< ((1 : Int32) &&& 31))).toNatClampNeg]? = some (.int (List.getD (own_u xs) ((i <<< ((1 : Int32) &&& 31))).toNatClampNeg (0 : Int32))) := H2.at hin2 (own_getD (own_u xs) _ _)
  refine step (T1.setTop (mkF m 38 #[vr ob, .val (.int ((i <<< ((1 : Int32) &&& 31)) + (1 : Int32)))] [(.int (List.getD (own_u xs) ((i <<< ((1 : Int32) &&& 31))).toNatClampNeg (0 : Int32)))])) (fun t k => X1.baloadBytes hx (j := (i <<< ((1 : Int32) &&& 31))) (v := (.int (List.getD (own_u xs) ((i <<< ((1 : Int32) &&& 31))).toNatClampNeg (0 : Int32)))) (by rw [e1]; exact Ar2.1) (State.isArrayOf_alike hZ.alike Ar2.2.1) Ar2.2.2 hin2 hat2 (g := (mkF m 37 #[vr ob, .val (.int ((i <<< ((1 : Int32) &&& 31)) + (1 : Int32)))] [(.int (i <<< ((1 : Int32) &&& 31))), (.ref ob)])) rfl rfl (hb hby d34_37) t k) ?_
  refine osi KK X1 d34_38 255 41 rfl rfl ?_
  refine step (T1.setTop (mkF m 42 #[vr ob, .val (.int ((i <<< ((1 : Int32) &&& 31)) + (1 : Int32)))] [(.int ((List.getD (own_u xs) ((i <<< ((1 : Int32) &&& 31))).toNatClampNeg (0 : Int32)) &&& (255 : Int32)))])) (fun t k => XS.iand X1.here hx rfl (hb hby d34_41) rfl k) ?_
  obtain ⟨T3, X3, e3, st3⟩ := getS2 X1 hx hZ hown (host := "") (Or.inl (ow hw 142 rfl)) Via.refl e1 S_hi (g := (mkF m 42 #[vr ob, .val (.int ((i <<< ((1 : Int32) &&& 31)) + (1 : Int32)))] [(.int ((List.getD (own_u xs) ((i <<< ((1 : Int32) &&& 31))).toNatClampNeg (0 : Int32)) &&& (255 : Int32)))])) rfl (hb hby d34_42)
  refine step (T3.setTop (mkF m 45 #[vr ob, .val (.int ((i <<< ((1 : Int32) &&& 31)) + (1 : Int32)))] [(.int 0), (.int ((List.getD (own_u xs) ((i <<< ((1 : Int32) &&& 31))).toNatClampNeg (0 : Int32)) &&& (255 : Int32)))])) (fun t k => st3 t k) ?_
  refine step (T3.setTop (mkF m 46 #[vr ob, .val (.int ((i <<< ((1 : Int32) &&& 31)) + (1 : Int32)))] [(.int (((List.getD (own_u xs) ((i <<< ((1 : Int32) &&& 31))).toNatClampNeg (0 : Int32)) &&& (255 : Int32)) <<< ((0 : Int32) &&& 31)))])) (fun t k => XS.ishl X3.here hx rfl (hb hby d34_45) rfl k) ?_
  refine oal KK X3 d34_46 (.ref ob) 47 rfl rfl rfl ?_
  refine oil KK X3 d34_47 ((i <<< ((1 : Int32) &&& 31)) + (1 : Int32)) 48 rfl rfl ?_
  obtain ⟨cl4, Ar4, q4, S4, N4n, H4, G4⟩ := id Vb
  have hin4 : ¬ (((i <<< ((1 : Int32) &&& 31)) + (1 : Int32)) < 0 ∨ cl4.slots.size ≤ (((i <<< ((1 : Int32) &&& 31)) + (1 : Int32))).toNatClampNeg) := inb_of S4 ⟨ge3, lt3⟩
  have hat4 : cl4.slots[(((i <<< ((1 : Int32) &&& 31)) + (1 : Int32))).toNatClampNeg]? = some (.int (List.getD (own_u xs) (((i <<< ((1 : Int32) &&& 31)) + (1 : Int32))).toNatClampNeg (0 : Int32))) := H4.at hin4 (own_getD (own_u xs) _ _)
  refine step (T3.setTop (mkF m 49 #[vr ob, .val (.int ((i <<< ((1 : Int32) &&& 31)) + (1 : Int32)))] [(.int (List.getD (own_u xs) (((i <<< ((1 : Int32) &&& 31)) + (1 : Int32))).toNatClampNeg (0 : Int32))), (.int (((List.getD (own_u xs) ((i <<< ((1 : Int32) &&& 31))).toNatClampNeg (0 : Int32)) &&& (255 : Int32)) <<< ((0 : Int32) &&& 31)))])) (fun t k => X3.baloadBytes hx (j := ((i <<< ((1 : Int32) &&& 31)) + (1 : Int32))) (v := (.int (List.getD (own_u xs) (((i <<< ((1 : Int32) &&& 31)) + (1 : Int32))).toNatClampNeg (0 : Int32)))) (by rw [e3]; exact Ar4.1) (State.isArrayOf_alike hZ.alike Ar4.2.1) Ar4.2.2 hin4 hat4 (g := (mkF m 48 #[vr ob, .val (.int ((i <<< ((1 : Int32) &&& 31)) + (1 : Int32)))] [(.int ((i <<< ((1 : Int32) &&& 31)) + (1 : Int32))), (.ref ob), (.int (((List.getD (own_u xs) ((i <<< ((1 : Int32) &&& 31))).toNatClampNeg (0 : Int32)) &&& (255 : Int32)) <<< ((0 : Int32) &&& 31)))])) rfl rfl (hb hby d34_48) t k) ?_
  refine osi KK X3 d34_49 255 52 rfl rfl ?_
  refine step (T3.setTop (mkF m 53 #[vr ob, .val (.int ((i <<< ((1 : Int32) &&& 31)) + (1 : Int32)))] [(.int ((List.getD (own_u xs) (((i <<< ((1 : Int32) &&& 31)) + (1 : Int32))).toNatClampNeg (0 : Int32)) &&& (255 : Int32))), (.int (((List.getD (own_u xs) ((i <<< ((1 : Int32) &&& 31))).toNatClampNeg (0 : Int32)) &&& (255 : Int32)) <<< ((0 : Int32) &&& 31)))])) (fun t k => XS.iand X3.here hx rfl (hb hby d34_52) rfl k) ?_
  obtain ⟨T5, X5, e5, st5⟩ := getS2 X3 hx hZ hown (host := "") (Or.inl (ow hw 143 rfl)) Via.refl e3 S_lo (g := (mkF m 53 #[vr ob, .val (.int ((i <<< ((1 : Int32) &&& 31)) + (1 : Int32)))] [(.int ((List.getD (own_u xs) (((i <<< ((1 : Int32) &&& 31)) + (1 : Int32))).toNatClampNeg (0 : Int32)) &&& (255 : Int32))), (.int (((List.getD (own_u xs) ((i <<< ((1 : Int32) &&& 31))).toNatClampNeg (0 : Int32)) &&& (255 : Int32)) <<< ((0 : Int32) &&& 31)))])) rfl (hb hby d34_53)
  refine step (T5.setTop (mkF m 56 #[vr ob, .val (.int ((i <<< ((1 : Int32) &&& 31)) + (1 : Int32)))] [(.int 8), (.int ((List.getD (own_u xs) (((i <<< ((1 : Int32) &&& 31)) + (1 : Int32))).toNatClampNeg (0 : Int32)) &&& (255 : Int32))), (.int (((List.getD (own_u xs) ((i <<< ((1 : Int32) &&& 31))).toNatClampNeg (0 : Int32)) &&& (255 : Int32)) <<< ((0 : Int32) &&& 31)))])) (fun t k => st5 t k) ?_
  refine step (T5.setTop (mkF m 57 #[vr ob, .val (.int ((i <<< ((1 : Int32) &&& 31)) + (1 : Int32)))] [(.int (((List.getD (own_u xs) (((i <<< ((1 : Int32) &&& 31)) + (1 : Int32))).toNatClampNeg (0 : Int32)) &&& (255 : Int32)) <<< ((8 : Int32) &&& 31))), (.int (((List.getD (own_u xs) ((i <<< ((1 : Int32) &&& 31))).toNatClampNeg (0 : Int32)) &&& (255 : Int32)) <<< ((0 : Int32) &&& 31)))])) (fun t k => XS.ishl X5.here hx rfl (hb hby d34_56) rfl k) ?_
  refine step (T5.setTop (mkF m 58 #[vr ob, .val (.int ((i <<< ((1 : Int32) &&& 31)) + (1 : Int32)))] [(.int ((((List.getD (own_u xs) ((i <<< ((1 : Int32) &&& 31))).toNatClampNeg (0 : Int32)) &&& (255 : Int32)) <<< ((0 : Int32) &&& 31)) ||| (((List.getD (own_u xs) (((i <<< ((1 : Int32) &&& 31)) + (1 : Int32))).toNatClampNeg (0 : Int32)) &&& (255 : Int32)) <<< ((8 : Int32) &&& 31))))])) (fun t k => XS.ior X5.here hx rfl (hb hby d34_57) rfl k) ?_
  refine step (T5.setTop (mkF m 59 #[vr ob, .val (.int ((i <<< ((1 : Int32) &&& 31)) + (1 : Int32)))] [(.int (((((List.getD (own_u xs) ((i <<< ((1 : Int32) &&& 31))).toNatClampNeg (0 : Int32)) &&& (255 : Int32)) <<< ((0 : Int32) &&& 31)) ||| (((List.getD (own_u xs) (((i <<< ((1 : Int32) &&& 31)) + (1 : Int32))).toNatClampNeg (0 : Int32)) &&& (255 : Int32)) <<< ((8 : Int32) &&& 31))).toUInt32.toUInt16.toUInt32.toInt32))])) (fun t k => XS.i2c X5.here hx rfl (hb hby d34_58) rfl k) ?_
  refine fin (v := some (.int (nar .char (((((List.getD (own_u xs) ((i <<< ((1 : Int32) &&& 31))).toNatClampNeg (0 : Int32)) &&& (255 : Int32)) <<< ((0 : Int32) &&& 31)) ||| (((List.getD (own_u xs) (((i <<< ((1 : Int32) &&& 31)) + (1 : Int32))).toNatClampNeg (0 : Int32)) &&& (255 : Int32)) <<< ((8 : Int32) &&& 31))).toUInt32.toUInt16.toUInt32.toInt32)))) X5 (fun h => by cases h) ?_ (by decide) (by decide) (fun fs hr => retN X5 hx (t := .char) hret (by simp) (hb hby d34_59) hr)
  show Q34 Z ob kb xs n N i cs fo h0 n0 (some (.int (nar .char (((((List.getD (own_u xs) ((i <<< ((1 : Int32) &&& 31))).toNatClampNeg (0 : Int32)) &&& (255 : Int32)) <<< ((0 : Int32) &&& 31)) ||| (((List.getD (own_u xs) (((i <<< ((1 : Int32) &&& 31)) + (1 : Int32))).toNatClampNeg (0 : Int32)) &&& (255 : Int32)) <<< ((8 : Int32) &&& 31))).toUInt32.toUInt16.toUInt32.toInt32)))) T5.heap _
  rw [e5]
  exact ⟨congrArg (fun z => some (Value.int z)) (own_gcAt hn h5 hch hi0 hin), N0, rfl⟩
theorem d40_0 : decode jdk_52_method_22_code 0 = .ok (.iload_n 1, 1) := by decide +kernel
theorem d40_1 : decode jdk_52_method_22_code 1 = .ok (.iload 4, 2) := by decide +kernel
theorem d40_3 : decode jdk_52_method_22_code 3 = .ok (.aload_n 0, 1) := by decide +kernel
theorem d40_4 : decode jdk_52_method_22_code 4 = .ok (.invokestatic 173, 3) := by decide +kernel
theorem d40_7 : decode jdk_52_method_22_code 7 = .ok (.iconst 0, 1) := by decide +kernel
theorem d40_8 : decode jdk_52_method_22_code 8 = .ok (.istore 5, 2) := by decide +kernel
theorem d40_10 : decode jdk_52_method_22_code 10 = .ok (.iload 5, 2) := by decide +kernel
theorem d40_12 : decode jdk_52_method_22_code 12 = .ok (.iload 4, 2) := by decide +kernel
theorem d40_14 : decode jdk_52_method_22_code 14 = .ok (.if_icmp .ge 39, 3) := by decide +kernel
theorem d40_17 : decode jdk_52_method_22_code 17 = .ok (.aload_n 0, 1) := by decide +kernel
theorem d40_18 : decode jdk_52_method_22_code 18 = .ok (.iload_n 1, 1) := by decide +kernel
theorem d40_19 : decode jdk_52_method_22_code 19 = .ok (.invokestatic 71, 3) := by decide +kernel
theorem d40_22 : decode jdk_52_method_22_code 22 = .ok (.istore 6, 2) := by decide +kernel
theorem d40_24 : decode jdk_52_method_22_code 24 = .ok (.iload 6, 2) := by decide +kernel
theorem d40_26 : decode jdk_52_method_22_code 26 = .ok (.sipush 255, 3) := by decide +kernel
theorem d40_29 : decode jdk_52_method_22_code 29 = .ok (.if_icmp .le 6, 3) := by decide +kernel
theorem d40_32 : decode jdk_52_method_22_code 32 = .ok (.iload 5, 2) := by decide +kernel
theorem d40_34 : decode jdk_52_method_22_code 34 = .ok (.ireturn, 1) := by decide +kernel
theorem d40_35 : decode jdk_52_method_22_code 35 = .ok (.aload_n 2, 1) := by decide +kernel
theorem d40_36 : decode jdk_52_method_22_code 36 = .ok (.iload_n 3, 1) := by decide +kernel
theorem d40_37 : decode jdk_52_method_22_code 37 = .ok (.iload 6, 2) := by decide +kernel
theorem d40_39 : decode jdk_52_method_22_code 39 = .ok (.i2b, 1) := by decide +kernel
theorem d40_40 : decode jdk_52_method_22_code 40 = .ok (.bastore, 1) := by decide +kernel
theorem d40_41 : decode jdk_52_method_22_code 41 = .ok (.iinc 1 1, 3) := by decide +kernel
theorem d40_44 : decode jdk_52_method_22_code 44 = .ok (.iinc 3 1, 3) := by decide +kernel
theorem d40_47 : decode jdk_52_method_22_code 47 = .ok (.iinc 5 1, 3) := by decide +kernel
theorem d40_50 : decode jdk_52_method_22_code 50 = .ok (.goto (-40), 3) := by decide +kernel
theorem d40_53 : decode jdk_52_method_22_code 53 = .ok (.iload 4, 2) := by decide +kernel
theorem d40_55 : decode jdk_52_method_22_code 55 = .ok (.ireturn, 1) := by decide +kernel
theorem pd_10 : parseMethodDescriptor "(II[B)V" = some ⟨[.int, .int, (.array .byte)], none⟩ := by decide +kernel
theorem d41_0 : decode jdk_52_method_94_code 0 = .ok (.iload_n 0, 1) := by decide +kernel
theorem d41_1 : decode jdk_52_method_94_code 1 = .ok (.iload_n 1, 1) := by decide +kernel
theorem d41_2 : decode jdk_52_method_94_code 2 = .ok (.aload_n 2, 1) := by decide +kernel
theorem d41_3 : decode jdk_52_method_94_code 3 = .ok (.invokestatic 48, 3) := by decide +kernel
theorem d41_6 : decode jdk_52_method_94_code 6 = .ok (.invokestatic 419, 3) := by decide +kernel
theorem d41_9 : decode jdk_52_method_94_code 9 = .ok (.pop, 1) := by decide +kernel
theorem d41_10 : decode jdk_52_method_94_code 10 = .ok (.return_, 1) := by decide +kernel
theorem pd_11 : parseMethodDescriptor "(III)I" = some ⟨[.int, .int, .int], some .int⟩ := by decide +kernel
theorem d42_0 : decode jdk_42_method_157_code 0 = .ok (.iload_n 0, 1) := by decide +kernel
theorem d42_1 : decode jdk_42_method_157_code 1 = .ok (.iload_n 1, 1) := by decide +kernel
theorem d42_2 : decode jdk_42_method_157_code 2 = .ok (.iload_n 2, 1) := by decide +kernel
theorem d42_3 : decode jdk_42_method_157_code 3 = .ok (.getstatic 1053, 3) := by decide +kernel
theorem d42_6 : decode jdk_42_method_157_code 6 = .ok (.invokestatic 1065, 3) := by decide +kernel
theorem d42_9 : decode jdk_42_method_157_code 9 = .ok (.ireturn, 1) := by decide +kernel
theorem pd_12 : parseMethodDescriptor "(IIILjava/util/function/BiFunction;)I" = some ⟨[.int, .int, .int, (.object "java/util/function/BiFunction")], some .int⟩ := by decide +kernel
theorem d43_0 : decode jdk_41_method_13_code 0 = .ok (.iload_n 2, 1) := by decide +kernel
theorem d43_1 : decode jdk_41_method_13_code 1 = .ok (.iload_n 0, 1) := by decide +kernel
theorem d43_2 : decode jdk_41_method_13_code 2 = .ok (.ior, 1) := by decide +kernel
theorem d43_3 : decode jdk_41_method_13_code 3 = .ok (.iload_n 1, 1) := by decide +kernel
theorem d43_4 : decode jdk_41_method_13_code 4 = .ok (.ior, 1) := by decide +kernel
theorem d43_5 : decode jdk_41_method_13_code 5 = .ok (.ifCond .lt 10, 3) := by decide +kernel
theorem d43_8 : decode jdk_41_method_13_code 8 = .ok (.iload_n 1, 1) := by decide +kernel
theorem d43_9 : decode jdk_41_method_13_code 9 = .ok (.iload_n 2, 1) := by decide +kernel
theorem d43_10 : decode jdk_41_method_13_code 10 = .ok (.iload_n 0, 1) := by decide +kernel
theorem d43_11 : decode jdk_41_method_13_code 11 = .ok (.isub, 1) := by decide +kernel
theorem d43_12 : decode jdk_41_method_13_code 12 = .ok (.if_icmp .le 11, 3) := by decide +kernel
theorem d43_15 : decode jdk_41_method_13_code 15 = .ok (.aload_n 3, 1) := by decide +kernel
theorem d43_16 : decode jdk_41_method_13_code 16 = .ok (.iload_n 0, 1) := by decide +kernel
theorem d43_17 : decode jdk_41_method_13_code 17 = .ok (.iload_n 1, 1) := by decide +kernel
theorem d43_18 : decode jdk_41_method_13_code 18 = .ok (.iload_n 2, 1) := by decide +kernel
theorem d43_19 : decode jdk_41_method_13_code 19 = .ok (.invokestatic 103, 3) := by decide +kernel
theorem d43_22 : decode jdk_41_method_13_code 22 = .ok (.athrow, 1) := by decide +kernel
theorem d43_23 : decode jdk_41_method_13_code 23 = .ok (.iload_n 0, 1) := by decide +kernel
theorem d43_24 : decode jdk_41_method_13_code 24 = .ok (.ireturn, 1) := by decide +kernel
theorem ef_43_17 (m : MethodId) (x0 : Int32) (x1 : Int32) (x2 : Int32) (x3 : Value) (r3 : Value.isRef x3 = true) : entryFrame m #[(.int x0), (.int x1), (.int x2), x3] 4 = mkF m 0 #[.val (.int x0), .val (.int x1), .val (.int x2), .val x3] [] := by cases x3 <;> first | (cases r3; done) | (simp [entryFrame, mkF, argsToLocals, Value.category])
def Q43_17 (Z : State) (i1 : Int32) (i2 : Int32) (i3 : Int32) (u4 : Value) (h0 : Heap) (n0 : Nat) (v : Option Value) (h : Heap) (L : List Loc) : Prop := v = some (.int i1) ∧ Fr n0 L ∧ h = h0
set_option maxRecDepth 65536 in
set_option maxHeartbeats 40000000 in
theorem rm43_17 (l : Launch) (Z : State) (a0 : Array Value) (hw : ∀ d ∈ tables_1, d.before a0 Z = true) (ws : List Jvm.Cond) (i1 : Int32) (i2 : Int32) (i3 : Int32) (u4 : Value) (h0 : Heap) (n0 : Nat) (Z0 : n0 ≤ h0.size) (ru4 : Value.isRef u4 = true) (hy1 : ¬ (((i3 ||| i1) ||| i2) < (0 : Int32))) (hy2 : ¬ ((i3 - i1) < i2))  :
    OwnM l Z nM16 jdk_41_method_13_code 4 (some .int) ws ({ frames := 0, cells := 0, slots := 0, locals := 0 } : Room) #[(.int i1), (.int i2), (.int i3), u4] h0 (Q43_17 Z i1 i2 i3 u4 h0 n0) := by
  refine own_body (plainFor_of_name pn_2) ?_
  intro p e s m below meth c s₁ G hx hby hml hZ hown hnm hret X0 e0 step fin
  replace hown : s.vm.findClass "jdk/internal/util/Preconditions" = some m.cls := hown
  have N0 := Fr.nil n0
  have KK : OwnK p e below c _ G := ⟨step, hx, hby⟩
  refine step (s₁.setTop (mkF m 0 #[vi i1, vi i2, vi i3, .val u4] [])) (fun t k => castTop (ef_43_17 m i1 i2 i3 u4 ru4) k) ?_
  refine oil KK X0 d43_0 i3 1 rfl rfl ?_
  refine oil KK X0 d43_1 i1 2 rfl rfl ?_
  refine step (s₁.setTop (mkF m 3 #[vi i1, vi i2, vi i3, .val u4] [(.int (i3 ||| i1))])) (fun t k => XS.ior X0.here hx rfl (hb hby d43_2) rfl k) ?_
  refine oil KK X0 d43_3 i2 4 rfl rfl ?_
  refine step (s₁.setTop (mkF m 5 #[vi i1, vi i2, vi i3, .val u4] [(.int ((i3 ||| i1) ||| i2))])) (fun t k => XS.ior X0.here hx rfl (hb hby d43_4) rfl k) ?_
  have hc5_1 : ¬ (((i3 ||| i1) ||| i2) < (0 : Int32)) := hy1
  refine step (s₁.setTop (mkF m 8 #[vi i1, vi i2, vi i3, .val u4] [])) (fun t k => XS.ifNo X0.here hx rfl (hb hby d43_5) rfl ((if0 _ _).trans (flt hc5_1).1) k) ?_
  refine oil KK X0 d43_8 i2 9 rfl rfl ?_
  refine oil KK X0 d43_9 i3 10 rfl rfl ?_
  refine oil KK X0 d43_10 i1 11 rfl rfl ?_
  refine step (s₁.setTop (mkF m 12 #[vi i1, vi i2, vi i3, .val u4] [(.int (i3 - i1)), (.int i2)])) (fun t k => XS.isub X0.here hx rfl (hb hby d43_11) rfl k) ?_
  have hc12_2 : ¬ ((i3 - i1) < i2) := hy2
  refine oiy KK X0 d43_12 23 (flt hc12_2).2.2.2 (by decide) rfl ?_
  refine oil KK X0 d43_23 i1 24 rfl rfl ?_
  refine fin (v := some (.int i1)) X0 (fun h => by cases h) ?_ (by decide) (by decide) (fun fs hr => retI X0 hx hret (hb hby d43_24) hr)
  show Q43_17 Z i1 i2 i3 u4 h0 n0 (some (.int i1)) s₁.heap _
  rw [e0]
  exact ⟨rfl, N0, rfl⟩
theorem ef_42_16 (m : MethodId) (x0 : Int32) (x1 : Int32) (x2 : Int32) : entryFrame m #[(.int x0), (.int x1), (.int x2)] 3 = mkF m 0 #[.val (.int x0), .val (.int x1), .val (.int x2)] [] := by first | (simp [entryFrame, mkF, argsToLocals, Value.category]; done) | rfl
def Q42_16 (Z : State) (i1 : Int32) (i2 : Int32) (i3 : Int32) (u4 : Value) (h0 : Heap) (n0 : Nat) (v : Option Value) (h : Heap) (L : List Loc) : Prop := v = some (.int i1) ∧ Fr n0 L ∧ h = h0
set_option maxRecDepth 65536 in
set_option maxHeartbeats 40000000 in
theorem rm42_16 (l : Launch) (Z : State) (a0 : Array Value) (hw : ∀ d ∈ tables_1, d.before a0 Z = true) (ws : List Jvm.Cond) (i1 : Int32) (i2 : Int32) (i3 : Int32) (u4 : Value) (h0 : Heap) (n0 : Nat) (Z0 : n0 ≤ h0.size) (ru4 : Value.isRef u4 = true) (Sx1 : Sta Z h0 "jdk/internal/util/Preconditions" "SIOOBE_FORMATTER" "Ljava/util/function/BiFunction;" u4) (hy2 : ¬ (((i3 ||| i1) ||| i2) < (0 : Int32))) (hy3 : ¬ ((i3 - i1) < i2))  :
    OwnM l Z nM17 jdk_42_method_157_code 3 (some .int) ws ({ frames := 1, cells := 0, slots := 0, locals := 15 } : Room) #[(.int i1), (.int i2), (.int i3)] h0 (Q42_16 Z i1 i2 i3 u4 h0 n0) := by
  refine own_body (plainFor_of_name pn_0) ?_
  intro p e s m below meth c s₁ G hx hby hml hZ hown hnm hret X0 e0 step fin
  replace hown : s.vm.findClass "java/lang/String" = some m.cls := hown
  have N0 := Fr.nil n0
  have KK : OwnK p e below c _ G := ⟨step, hx, hby⟩
  refine step (s₁.setTop (mkF m 0 #[vi i1, vi i2, vi i3] [])) (fun t k => castTop (ef_42_16 m i1 i2 i3) k) ?_
  refine oil KK X0 d42_0 i1 1 rfl rfl ?_
  refine oil KK X0 d42_1 i2 2 rfl rfl ?_
  refine oil KK X0 d42_2 i3 3 rfl rfl ?_
  obtain ⟨T1, X1, e1, st1⟩ := getS2 X0 hx hZ hown (host := "") (Or.inl (ow hw 58 rfl)) Via.refl e0 Sx1 (g := (mkF m 3 #[vi i1, vi i2, vi i3] [(.int i3), (.int i2), (.int i1)])) rfl (hb hby d42_3)
  refine step (T1.setTop (mkF m 6 #[vi i1, vi i2, vi i3] [u4, (.int i3), (.int i2), (.int i1)])) (fun t k => st1 t k) ?_
  obtain ⟨_, _, ⟨T2, L2, k2, n2⟩, -, X2, ⟨Lc2, hQ2, l2, y2, z2⟩, st2⟩ := Jvm.LawKit.callS X1 hx (y := nM16) hown (mvT hZ (ow hw 173 rfl)) (mvT hZ (ow hw 174 rfl)) (mvT hZ (ow hw 59 rfl)) (mvT hZ (ow hw 175 rfl)) (by decide) (backOf (W := 0) (rm43_17 l Z a0 hw [] i1 i2 i3 u4 h0 n0 Z0 ru4 hy2 hy3) hZ (ow hw 175 rfl) (ow hw 59 rfl) (by decide) (by decide)) (g := (mkF m 6 #[vi i1, vi i2, vi i3] [u4, (.int i3), (.int i2), (.int i1)])) rfl (by rw [hml]; rfl) (argsL := [(.int i1), (.int i2), (.int i3), u4]) (rest := []) (lenOf pd_12 rfl) rfl (omw rfl rfl) (hb hby d42_6) (fun _ _ => ⟨rfl, e1, (by decide : 0 + 0 ≤ _), (by decide : 0 + 0 ≤ _)⟩)
  dsimp only [Pt.U, Pt.locs, Pt.cells, Pt.slots] at X2 l2 y2 z2 st2 hQ2
  subst l2 y2 z2
  obtain ⟨rfl, N2q, e2q⟩ := hQ2
  have N2 := Fr.app N0 N2q
  refine step (T2.setTop (mkF m 9 #[vi i1, vi i2, vi i3] [(.int i1)])) (fun t k => st2 t k) ?_
  refine fin (v := some (.int i1)) X2 (fun h => by cases h) ?_ (by decide) (by decide) (fun fs hr => retI X2 hx hret (hb hby d42_9) hr)
  show Q42_16 Z i1 i2 i3 u4 h0 n0 (some (.int i1)) T2.heap _
  rw [e2q]
  exact ⟨rfl, N2, rfl⟩
theorem ef_41_15 (m : MethodId) (x0 : Int32) (x1 : Int32) (x2 : Addr) : entryFrame m #[(.int x0), (.int x1), (.ref x2)] 3 = mkF m 0 #[.val (.int x0), .val (.int x1), .val (.ref x2)] [] := by first | (simp [entryFrame, mkF, argsToLocals, Value.category]; done) | rfl
def Q41_15 (Z : State) (i1 : Int32) (i2 : Int32) (o1 : Addr) (u3 : Value) (kc4 : ClassId) (i5 : Int32) (xs6 : List Int32) (h0 : Heap) (n0 : Nat) (v : Option Value) (h : Heap) (L : List Loc) : Prop := v = none ∧ Fr n0 L ∧ h = h0
set_option maxRecDepth 65536 in
set_option maxHeartbeats 40000000 in
theorem rm41_15 (l : Launch) (Z : State) (a0 : Array Value) (hw : ∀ d ∈ tables_1, d.before a0 Z = true) (ws : List Jvm.Cond) (i1 : Int32) (i2 : Int32) (o1 : Addr) (u3 : Value) (kc4 : ClassId) (i5 : Int32) (xs6 : List Int32) (h0 : Heap) (n0 : Nat) (Z0 : n0 ≤ h0.size) (ru3 : Value.isRef u3 = true) (Sx1 : Sta Z h0 "jdk/internal/util/Preconditions" "SIOOBE_FORMATTER" "Ljava/util/function/BiFunction;" u3) (Pm2 : Arv Z h0 o1 kc4 .byte i5 (List.map Value.int xs6) (.int 0)) (hy3 : ¬ ((((i5 >>> ((1 : Int32) &&& 31)) ||| i1) ||| i2) < (0 : Int32))) (hy4 : ¬ (((i5 >>> ((1 : Int32) &&& 31)) - i1) < i2))  :
    OwnM l Z nM18 jdk_52_method_94_code 3 none ws ({ frames := 2, cells := 0, slots := 0, locals := 29 } : Room) #[(.int i1), (.int i2), (.ref o1)] h0 (Q41_15 Z i1 i2 o1 u3 kc4 i5 xs6 h0 n0) := by
  refine own_body (plainFor_of_name pn_3) ?_
  intro p e s m below meth c s₁ G hx hby hml hZ hown hnm hret X0 e0 step fin
  replace hown : s.vm.findClass "java/lang/StringUTF16" = some m.cls := hown
  have N0 := Fr.nil n0
  have KK : OwnK p e below c _ G := ⟨step, hx, hby⟩
  refine step (s₁.setTop (mkF m 0 #[vi i1, vi i2, vr o1] [])) (fun t k => castTop (ef_41_15 m i1 i2 o1) k) ?_
  refine oil KK X0 d41_0 i1 1 rfl rfl ?_
  refine oil KK X0 d41_1 i2 2 rfl rfl ?_
  refine oal KK X0 d41_2 (.ref o1) 3 rfl rfl rfl ?_
  obtain ⟨_, _, ⟨T1, L1, k1, n1⟩, -, X1, ⟨Lc1, hQ1, l1, y1, z1⟩, st1⟩ := Jvm.LawKit.callS X0 hx (y := nM4) hown (mvT hZ (ow hw 153 rfl)) (mvT hZ (ow hw 154 rfl)) (mvT hZ (ow hw 69 rfl)) (mvT hZ (ow hw 155 rfl)) (by decide) (backOf (W := 2) (rm37_8 l Z a0 hw [] o1 kc4 i5 xs6 h0 n0 Z0 Pm2) hZ (ow hw 155 rfl) (ow hw 69 rfl) (by decide) (by decide)) (g := (mkF m 3 #[vi i1, vi i2, vr o1] [(.ref o1), (.int i2), (.int i1)])) rfl (by rw [hml]; rfl) (argsL := [(.ref o1)]) (rest := [(.int i2), (.int i1)]) (lenOf pd_5 rfl) rfl (omw rfl rfl) (hb hby d41_3) (fun _ _ => ⟨rfl, e0, (by decide : 0 + 0 ≤ _), (by decide : 0 + 0 ≤ _)⟩)
  dsimp only [Pt.U, Pt.locs, Pt.cells, Pt.slots] at X1 l1 y1 z1 st1 hQ1
  subst l1 y1 z1
  obtain ⟨rfl, N1q, e1q⟩ := hQ1
  have N1 := Fr.app N0 N1q
  refine step (T1.setTop (mkF m 6 #[vi i1, vi i2, vr o1] [(.int (i5 >>> ((1 : Int32) &&& 31))), (.int i2), (.int i1)])) (fun t k => st1 t k) ?_
  obtain ⟨_, _, ⟨T2, L2, k2, n2⟩, -, X2, ⟨Lc2, hQ2, l2, y2, z2⟩, st2⟩ := Jvm.LawKit.callS X1 hx (y := nM17) hown (mvT hZ (ow hw 170 rfl)) (mvT hZ (ow hw 171 rfl)) (mvT hZ (ow hw 11 rfl)) (mvT hZ (ow hw 172 rfl)) (by decide) (backOf (W := 0) (rm42_16 l Z a0 hw [] i1 i2 (i5 >>> ((1 : Int32) &&& 31)) u3 h0 n0 Z0 ru3 Sx1 hy3 hy4) hZ (ow hw 172 rfl) (ow hw 11 rfl) (by decide) (by decide)) (g := (mkF m 6 #[vi i1, vi i2, vr o1] [(.int (i5 >>> ((1 : Int32) &&& 31))), (.int i2), (.int i1)])) rfl (by rw [hml]; rfl) (argsL := [(.int i1), (.int i2), (.int (i5 >>> ((1 : Int32) &&& 31)))]) (rest := []) (lenOf pd_11 rfl) rfl (omw rfl rfl) (hb hby d41_6) (fun _ _ => ⟨rfl, e1q, (by decide : 0 + 0 ≤ _), (by decide : 0 + 0 ≤ _)⟩)
  dsimp only [Pt.U, Pt.locs, Pt.cells, Pt.slots] at X2 l2 y2 z2 st2 hQ2
  subst l2 y2 z2
  obtain ⟨rfl, N2q, e2q⟩ := hQ2
  have N2 := Fr.app N1 N2q
  refine step (T2.setTop (mkF m 9 #[vi i1, vi i2, vr o1] [(.int i1)])) (fun t k => st2 t k) ?_
  refine step (T2.setTop (mkF m 10 #[vi i1, vi i2, vr o1] [])) (fun t k => XS.pop X2.here hx rfl (hb hby d41_9) rfl rfl k) ?_
  refine fin (v := none) X2 (fun _ => rfl) ?_ (by decide) (by decide) (fun fs hr => X2.returnOut hx hret (hb hby d41_10) hr)
  show Q41_15 Z i1 i2 o1 u3 kc4 i5 xs6 h0 n0 (none) T2.heap _
  rw [e2q]
  exact ⟨rfl, N2, rfl⟩
theorem ef_40 (m : MethodId) (x0 : Addr) (x1 : Int32) (x2 : Addr) (x4 : Int32) : entryFrame m #[(.ref x0), (.int x1), (.ref x2), (.int 0), (.int x4)] 7 = mkF m 0 #[.val (.ref x0), .val (.int x1), .val (.ref x2), .val (.int 0), .val (.int x4), .unset, .unset] [] := by first | (simp [entryFrame, mkF, argsToLocals, Value.category]; done) | rfl
def Q40 (Z : State) (ob : Addr) (kb : ClassId) (xs : List Int32) (n N : Int32) (f len : Int32) (o2 : Addr) (k2 : ClassId) (cs : Int32) (fo : Value) (h0 : Heap) (n0 : Nat) (v : Option Value) (h : Heap) (L : List Loc) : Prop := ∃ j : Int32, v = some (.int j) ∧ Fr n0 L ∧ Keep h0 h [o2] ∧ 0 ≤ j.toInt ∧ j.toInt < len.toInt ∧ 255 < (xs.getD (f.toInt + j.toInt).toNat (0 : Int32)).toInt
set_option maxRecDepth 65536 in
set_option maxHeartbeats 40000000 in
theorem rm40 (l : Launch) (Z : State) (a0 : Array Value) (hw : ∀ d ∈ tables_1, d.before a0 Z = true) (ws : List Jvm.Cond) (ob : Addr) (kb : ClassId) (xs : List Int32) (n N : Int32) (f len : Int32) (o2 : Addr) (k2 : ClassId) (cs : Int32) (fo : Value) (h0 : Heap) (n0 : Nat) (Z0 : n0 ≤ h0.size) (Vb : Arv Z h0 ob kb .byte N (List.map Value.int (own_u xs)) (.int 0)) (hn : n.toInt = xs.length) (h5 : xs.length ≤ 5) (hch : ∀ c ∈ xs, 0 ≤ c.toInt ∧ c.toInt < 65536) (hN : N.toInt = 2 * xs.length) (hf0 : 0 ≤ f.toInt) (hl0 : 0 ≤ len.toInt) (hfl : f.toInt + len.toInt ≤ xs.length) (hU : ∃ j : Nat, (0 : Int32).toInt ≤ j ∧ j < len.toInt ∧ 255 < (xs.getD (f.toInt + j).toNat (0 : Int32)).toInt) (V2 : Arv Z h0 o2 k2 .byte len (List.map Value.int []) (.int 0)) (ne12 : ob ≠ o2) (gn_o2 : n0 ≤ o2) (S_cs : Sta Z h0 "java/lang/String" "COMPACT_STRINGS" "Z" (.int cs)) (c_cs : ¬ (cs = (0 : Int32))) (S_fo : Sta Z h0 "jdk/internal/util/Preconditions" "SIOOBE_FORMATTER" "Ljava/util/function/BiFunction;" fo) (r_fo : Value.isRef fo = true) (S_ad : Sta Z h0 "java/lang/StringUTF16" "$assertionsDisabled" "Z" (.int 1)) (S_hi : Sta Z h0 "java/lang/StringUTF16" "HI_BYTE_SHIFT" "I" (.int 0)) (S_lo : Sta Z h0 "java/lang/StringUTF16" "LO_BYTE_SHIFT" "I" (.int 8)) :
    OwnM l Z nM19 jdk_52_method_22_code 7 (some .int) ws ({ frames := 3, cells := 0, slots := 0, locals := 43 } : Room) #[(.ref ob), (.int f), (.ref o2), (.int 0), (.int len)] h0 (Q40 Z ob kb xs n N f len o2 k2 cs fo h0 n0) := by
  refine own_body (plainFor_of_name pn_3) ?_
  intro p e s m below meth c s₁ G hx hby hml hZ hown hnm hret X0 e0 step fin
  replace hown : s.vm.findClass "java/lang/StringUTF16" = some m.cls := hown
  have N0 := Fr.nil n0
  have KK : OwnK p e below c _ G := ⟨step, hx, hby⟩
  refine step (s₁.setTop (mkF m 0 #[vr ob, vi f, vr o2, vi 0, vi len, .unset, .unset] [])) (fun t k => castTop (ef_40 m ob f o2 len) k) ?_
  obtain ⟨bd1, bd2⟩ := own_bnd hN h5 hf0 hl0 hfl
  refine oil KK X0 d40_0 f 1 rfl rfl ?_
  refine oiL KK X0 d40_1 len 3 rfl rfl ?_
  refine oal KK X0 d40_3 (.ref ob) 4 rfl rfl rfl ?_
  obtain ⟨_, _, ⟨T1, L1, k1, n1⟩, -, X1, ⟨Lc1, hQ1, l1, y1, z1⟩, st1⟩ := Jvm.LawKit.callS X0 hx (y := nM18) hown (mvT hZ (ow hw 167 rfl)) (mvT hZ (ow hw 168 rfl)) (mvT hZ (ow hw 69 rfl)) (mvT hZ (ow hw 169 rfl)) (by decide) (backOf (W := 0) (rm41_15 l Z a0 hw [] f len ob fo kb N (own_u xs) h0 n0 Z0 r_fo S_fo Vb bd1 bd2) hZ (ow hw 169 rfl) (ow hw 69 rfl) (by decide) (by decide)) (g := (mkF m 4 #[vr ob, vi f, vr o2, vi 0, vi len, .unset, .unset] [(.ref ob), (.int len), (.int f)])) rfl (by rw [hml]; rfl) (argsL := [(.int f), (.int len), (.ref ob)]) (rest := []) (lenOf pd_10 rfl) rfl (omw rfl rfl) (hb hby d40_4) (fun _ _ => ⟨rfl, e0, (by decide : 0 + 0 ≤ _), (by decide : 0 + 0 ≤ _)⟩)
  dsimp only [Pt.U, Pt.locs, Pt.cells, Pt.slots] at X1 l1 y1 z1 st1 hQ1
  subst l1 y1 z1
  obtain ⟨rfl, N1q, e1q⟩ := hQ1
  have N1 := Fr.app N0 N1q
  refine step (T1.setTop (mkF m 7 #[vr ob, vi f, vr o2, vi 0, vi len, .unset, .unset] [])) (fun t k => st1 t k) ?_
  refine oic KK X1 d40_7 0 8 rfl rfl ?_
  refine oiS KK X1 d40_8 #[vr ob, vi f, vr o2, vi 0, vi len, vi 0, .unset] 10 rfl rfl ?_
  suffices loop : ∀ (kk : Nat) (i q : Int32) (ds : List Int32) (sl : Slot) (T : State) (LL : List Loc) (hh : Heap), Stand p l e ({ frames := 3, cells := 0, slots := 0, locals := 43 } : Room) s m #[.ref ob, .int f, .ref o2, .int 0, .int len] below meth c T LL 0 0 → T.heap = hh → Fr n0 LL → Keep h0 hh [o2] → Arv Z hh o2 k2 .byte len (List.map Value.int ds) (.int 0) → (ds.length : Int) = i.toInt → q.toInt = f.toInt + i.toInt → (sl = .unset ∨ ∃ c : Int32, sl = vi c) → len.toInt ≤ i.toInt + kk → (∃ j : Nat, i.toInt ≤ j ∧ j < len.toInt ∧ 255 < (xs.getD (f.toInt + j).toNat (0 : Int32)).toInt) → G (T.setTop (mkF m 10 #[vr ob, vi q, vr o2, vi i, vi len, vi i, sl] [])) by exact loop 6 0 f [] .unset _ _ _ X1 e1q N1 (Keep.refl h0 [o2]) V2 rfl (by rw [show (0 : Int32).toInt = 0 by decide]; omega) (Or.inl rfl) (by rw [show (0 : Int32).toInt = 0 by decide]; omega) hU
  intro kk
  induction kk with
  | zero => intro i q ds sl T LL hh XX eT NN KQ VV hl hq hsl hk hj; obtain ⟨j, j1, j2, j3⟩ := hj; exact absurd hk (by omega)
  | succ kk ih =>
    intro i q ds sl T LL hh XX eT NN KQ VV hl hq hsl hk hj
    have j0 := hj
    obtain ⟨j, j1, j2, j3⟩ := j0
    have hil : i < len := by rw [Int32.lt_iff_toInt_lt]; omega
    have hi0 : ¬ (i < (0 : Int32)) := own_nneg' (by omega)
    have hq0 : ¬ (q < (0 : Int32)) := own_nneg' (by omega)
    have hqn : q < n := by rw [Int32.lt_iff_toInt_lt]; omega
    have L_S_cs := own_staK S_cs KQ (allS (own_arvP V2) all0)
    have L_S_fo := own_staK S_fo KQ (allS (own_arvP V2) all0)
    have L_S_ad := own_staK S_ad KQ (allS (own_arvP V2) all0)
    have L_S_hi := own_staK S_hi KQ (allS (own_arvP V2) all0)
    have L_S_lo := own_staK S_lo KQ (allS (own_arvP V2) all0)
    have L_Vb := Vb.keep KQ (ninS ne12 nin0)
    refine oiL KK XX d40_10 i 12 rfl rfl ?_
    refine oiL KK XX d40_12 len 14 rfl rfl ?_
    have hc14_2 : i < len := hil
    refine oin KK XX d40_14 17 rfl (tlt hc14_2).2.1 ?_
    refine oal KK XX d40_17 (.ref ob) 18 rfl rfl rfl ?_
    refine oil KK XX d40_18 q 19 rfl rfl ?_
    obtain ⟨_, _, ⟨T3, L3, k3, n3⟩, -, X3, ⟨Lc3, hQ3, l3, y3, z3⟩, st3⟩ := Jvm.LawKit.callS XX hx (y := nM6) hown (mvT hZ (ow hw 144 rfl)) (mvT hZ (ow hw 145 rfl)) (mvT hZ (ow hw 69 rfl)) (mvT hZ (ow hw 146 rfl)) (by decide) (backOf (W := 0) (rm34 l Z a0 hw [] ob kb xs n N q cs fo hh n0 (Nat.le_trans Z0 KQ.1) L_Vb hn h5 hch hN hq0 hqn L_S_cs c_cs L_S_fo r_fo L_S_ad L_S_hi L_S_lo) hZ (ow hw 146 rfl) (ow hw 69 rfl) (by decide) (by decide)) (g := (mkF m 19 #[vr ob, vi q, vr o2, vi i, vi len, vi i, sl] [(.int q), (.ref ob)])) rfl (by rw [hml]; rfl) (argsL := [(.ref ob), (.int q)]) (rest := []) (lenOf pd_1 rfl) rfl (omw rfl rfl) (hb hby d40_19) (fun _ _ => ⟨rfl, eT, (by decide : 0 + 0 ≤ _), (by decide : 0 + 0 ≤ _)⟩)
    dsimp only [Pt.U, Pt.locs, Pt.cells, Pt.slots] at X3 l3 y3 z3 st3 hQ3
    subst l3 y3 z3
    obtain ⟨rfl, N3q, e3q⟩ := hQ3
    have N3 := Fr.app NN N3q
    refine step (T3.setTop (mkF m 22 #[vr ob, vi q, vr o2, vi i, vi len, vi i, sl] [(.int (List.getD xs (q).toNatClampNeg (0 : Int32)))])) (fun t k => st3 t k) ?_
    refine step (T3.setTop (mkF m 24 #[vr ob, vi q, vr o2, vi i, vi len, vi i, .val (.int (List.getD xs (q).toNatClampNeg (0 : Int32)))] [])) (fun t k => XS.istore X3.here hx rfl (hb hby d40_22) rfl (l' := #[vr ob, vi q, vr o2, vi i, vi len, vi i, .val (.int (List.getD xs (q).toNatClampNeg (0 : Int32)))]) (by rcases hsl with q | ⟨_, q⟩ <;> rw [q] <;> rfl) k) ?_
    refine oiL KK X3 d40_24 (List.getD xs (q).toNatClampNeg (0 : Int32)) 26 rfl rfl ?_
    refine osi KK X3 d40_26 255 29 rfl rfl ?_
    by_cases hc29_4 : (255 : Int32) < (List.getD xs (q).toNatClampNeg (0 : Int32))
    · -- pc 29: (255 : Int32) < (List.getD xs (q).toNatClampNeg (0 : Int32)) True
      refine oin KK X3 d40_29 32 rfl (tlt hc29_4).2.2.2 ?_
      refine oiL KK X3 d40_32 i 34 rfl rfl ?_
      refine fin (v := some (.int i)) X3 (fun h => by cases h) ?_ (by decide) (by decide) (fun fs hr => retI X3 hx hret (hb hby d40_34) hr)
      show Q40 Z ob kb xs n N f len o2 k2 cs fo h0 n0 (some (.int i)) T3.heap _
      rw [e3q]
      refine ⟨i, rfl, N3, KQ, by omega, by omega, ?_⟩
      have u := hc29_4
      rw [Int32.lt_iff_toInt_lt, own_tn, show (255 : Int32).toInt = 255 by decide, hq] at u
      exact u
    · -- pc 29: (255 : Int32) < (List.getD xs (q).toNatClampNeg (0 : Int32)) False
      refine oiy KK X3 d40_29 35 (flt hc29_4).2.2.2 (by decide) rfl ?_
      refine oal KK X3 d40_35 (.ref o2) 36 rfl rfl rfl ?_
      refine oil KK X3 d40_36 i 37 rfl rfl ?_
      refine oiL KK X3 d40_37 (List.getD xs (q).toNatClampNeg (0 : Int32)) 39 rfl rfl ?_
      refine step (T3.setTop (mkF m 40 #[vr ob, vi q, vr o2, vi i, vi len, vi i, .val (.int (List.getD xs (q).toNatClampNeg (0 : Int32)))] [(.int ((List.getD xs (q).toNatClampNeg (0 : Int32)).toInt8.toInt32)), (.int i), (.ref o2)])) (fun t k => XS.i2b X3.here hx rfl (hb hby d40_39) rfl k) ?_
      obtain ⟨cl5, Ar5, q5, S5, N5n, H5, G5⟩ := id VV
      have hin5 : ¬ (i < 0 ∨ cl5.slots.size ≤ (i).toNatClampNeg) := inb_of S5 ⟨hi0, hil⟩
      obtain ⟨T5, h5, X5, e5, W5, st5⟩ := stB X3 hx hZ e3q Ar5 (j := i) hin5 (g := (mkF m 40 #[vr ob, vi q, vr o2, vi i, vi len, vi i, .val (.int (List.getD xs (q).toNatClampNeg (0 : Int32)))] [(.int ((List.getD xs (q).toNatClampNeg (0 : Int32)).toInt8.toInt32)), (.int i), (.ref o2)])) rfl rfl (hb hby d40_40)
      have N5 := Fr.snoc X5 N3 gn_o2
      have K5 : Keep h0 h5 [o2] := KQ.wr W5 (Or.inl (List.mem_of_getElem? (i := 0) rfl))
      have V5 : Arv Z h5 o2 k2 .byte len (List.map Value.int (ds ++ [(nar .byte ((List.getD xs (q).toNatClampNeg (0 : Int32)).toInt8.toInt32))])) (.int 0) := own_push Ar5 q5 S5 N5n H5 G5 (fits_nar_byte ((List.getD xs (q).toNatClampNeg (0 : Int32)).toInt8.toInt32)) W5 (by rw [own_tn]; omega)
      refine step (T5.setTop (mkF m 41 #[vr ob, vi q, vr o2, vi i, vi len, vi i, .val (.int (List.getD xs (q).toNatClampNeg (0 : Int32)))] [])) (fun t k => st5 t k) ?_
      refine oii KK X5 d40_41 #[vr ob, .val (.int (q + (1 : Int32))), vr o2, vi i, vi len, vi i, .val (.int (List.getD xs (q).toNatClampNeg (0 : Int32)))] 44 rfl rfl rfl ?_
      refine oii KK X5 d40_44 #[vr ob, .val (.int (q + (1 : Int32))), vr o2, .val (.int (i + (1 : Int32))), vi len, vi i, .val (.int (List.getD xs (q).toNatClampNeg (0 : Int32)))] 47 rfl rfl rfl ?_
      refine oii KK X5 d40_47 #[vr ob, .val (.int (q + (1 : Int32))), vr o2, .val (.int (i + (1 : Int32))), vi len, .val (.int (i + (1 : Int32))), .val (.int (List.getD xs (q).toNatClampNeg (0 : Int32)))] 50 rfl rfl rfl ?_
      refine ogo KK X5 d40_50 10 (by decide) rfl ?_
      have i1 := own_i1 (i := i) (by omega) (by omega)
      have q1 := own_i1 (i := q) (by omega) (by omega)
      refine ih _ _ _ _ _ _ _ X5 e5 N5 K5 V5 (by rw [List.length_append, i1]; show ((ds.length + 1 : Nat) : Int) = _; omega) (by omega) (Or.inr ⟨_, rfl⟩) (by omega) ⟨j, ?_, j2, j3⟩
      have hne : (j : Int) ≠ i.toInt := fun e => hc29_4 (by rw [Int32.lt_iff_toInt_lt, own_tn, show (255 : Int32).toInt = 255 by decide, hq, ← e]; exact j3)
      omega
theorem d39_0 : decode jdk_52_method_17_code 0 = .ok (.iload_n 2, 1) := by decide +kernel
theorem d39_1 : decode jdk_52_method_17_code 1 = .ok (.newarray .byte, 2) := by decide +kernel
theorem d39_3 : decode jdk_52_method_17_code 3 = .ok (.astore_n 3, 1) := by decide +kernel
theorem d39_4 : decode jdk_52_method_17_code 4 = .ok (.aload_n 0, 1) := by decide +kernel
theorem d39_5 : decode jdk_52_method_17_code 5 = .ok (.iload_n 1, 1) := by decide +kernel
theorem d39_6 : decode jdk_52_method_17_code 6 = .ok (.aload_n 3, 1) := by decide +kernel
theorem d39_7 : decode jdk_52_method_17_code 7 = .ok (.iconst 0, 1) := by decide +kernel
theorem d39_8 : decode jdk_52_method_17_code 8 = .ok (.iload_n 2, 1) := by decide +kernel
theorem d39_9 : decode jdk_52_method_17_code 9 = .ok (.invokestatic 123, 3) := by decide +kernel
theorem d39_12 : decode jdk_52_method_17_code 12 = .ok (.istore 4, 2) := by decide +kernel
theorem d39_14 : decode jdk_52_method_17_code 14 = .ok (.iload 4, 2) := by decide +kernel
theorem d39_16 : decode jdk_52_method_17_code 16 = .ok (.iload_n 2, 1) := by decide +kernel
theorem d39_17 : decode jdk_52_method_17_code 17 = .ok (.if_icmp .eq 47, 3) := by decide +kernel
theorem d39_20 : decode jdk_52_method_17_code 20 = .ok (.aload_n 0, 1) := by decide +kernel
theorem d39_21 : decode jdk_52_method_17_code 21 = .ok (.iload_n 1, 1) := by decide +kernel
theorem d39_22 : decode jdk_52_method_17_code 22 = .ok (.iconst 1, 1) := by decide +kernel
theorem d39_23 : decode jdk_52_method_17_code 23 = .ok (.ishl, 1) := by decide +kernel
theorem d39_24 : decode jdk_52_method_17_code 24 = .ok (.iload_n 1, 1) := by decide +kernel
theorem d39_25 : decode jdk_52_method_17_code 25 = .ok (.iload_n 2, 1) := by decide +kernel
theorem d39_26 : decode jdk_52_method_17_code 26 = .ok (.iadd, 1) := by decide +kernel
theorem d39_27 : decode jdk_52_method_17_code 27 = .ok (.invokestatic 11, 3) := by decide +kernel
theorem d39_30 : decode jdk_52_method_17_code 30 = .ok (.invokestatic 126, 3) := by decide +kernel
theorem d39_33 : decode jdk_52_method_17_code 33 = .ok (.astore 5, 2) := by decide +kernel
theorem d39_35 : decode jdk_52_method_17_code 35 = .ok (.aload 5, 2) := by decide +kernel
theorem d39_37 : decode jdk_52_method_17_code 37 = .ok (.iload 4, 2) := by decide +kernel
theorem d39_39 : decode jdk_52_method_17_code 39 = .ok (.invokestatic 71, 3) := by decide +kernel
theorem d39_42 : decode jdk_52_method_17_code 42 = .ok (.sipush 255, 3) := by decide +kernel
theorem d39_45 : decode jdk_52_method_17_code 45 = .ok (.if_icmp .gt 16, 3) := by decide +kernel
theorem d39_48 : decode jdk_52_method_17_code 48 = .ok (.aload 5, 2) := by decide +kernel
theorem d39_50 : decode jdk_52_method_17_code 50 = .ok (.iconst 0, 1) := by decide +kernel
theorem d39_51 : decode jdk_52_method_17_code 51 = .ok (.aload_n 3, 1) := by decide +kernel
theorem d39_52 : decode jdk_52_method_17_code 52 = .ok (.iconst 0, 1) := by decide +kernel
theorem d39_53 : decode jdk_52_method_17_code 53 = .ok (.iload_n 2, 1) := by decide +kernel
theorem d39_54 : decode jdk_52_method_17_code 54 = .ok (.invokestatic 123, 3) := by decide +kernel
theorem d39_57 : decode jdk_52_method_17_code 57 = .ok (.iload_n 2, 1) := by decide +kernel
theorem d39_58 : decode jdk_52_method_17_code 58 = .ok (.if_icmp .eq 6, 3) := by decide +kernel
theorem d39_61 : decode jdk_52_method_17_code 61 = .ok (.aload 5, 2) := by decide +kernel
theorem d39_63 : decode jdk_52_method_17_code 63 = .ok (.areturn, 1) := by decide +kernel
theorem d39_64 : decode jdk_52_method_17_code 64 = .ok (.aload_n 3, 1) := by decide +kernel
theorem d39_65 : decode jdk_52_method_17_code 65 = .ok (.areturn, 1) := by decide +kernel
theorem pd_13 : parseMethodDescriptor "([BI[BII)I" = some ⟨[(.array .byte), .int, (.array .byte), .int, .int], some .int⟩ := by decide +kernel
theorem pd_14 : parseMethodDescriptor "(I)I" = some ⟨[.int], some .int⟩ := by decide +kernel
theorem d32_0 : decode jdk_52_method_3_code 0 = .ok (.iload_n 0, 1) := by decide +kernel
theorem d32_1 : decode jdk_52_method_3_code 1 = .ok (.ifCond .ge 11, 3) := by decide +kernel
theorem d32_4 : decode jdk_52_method_3_code 4 = .ok (.new 17, 3) := by decide +kernel
theorem d32_7 : decode jdk_52_method_3_code 7 = .ok (.dup, 1) := by decide +kernel
theorem d32_8 : decode jdk_52_method_3_code 8 = .ok (.invokespecial 19, 3) := by decide +kernel
theorem d32_11 : decode jdk_52_method_3_code 11 = .ok (.athrow, 1) := by decide +kernel
theorem d32_12 : decode jdk_52_method_3_code 12 = .ok (.iload_n 0, 1) := by decide +kernel
theorem d32_13 : decode jdk_52_method_3_code 13 = .ok (.ldc 20, 2) := by decide +kernel
theorem d32_15 : decode jdk_52_method_3_code 15 = .ok (.if_icmp .lt 40, 3) := by decide +kernel
theorem d32_18 : decode jdk_52_method_3_code 18 = .ok (.new 21, 3) := by decide +kernel
theorem d32_21 : decode jdk_52_method_3_code 21 = .ok (.dup, 1) := by decide +kernel
theorem d32_22 : decode jdk_52_method_3_code 22 = .ok (.new 23, 3) := by decide +kernel
theorem d32_25 : decode jdk_52_method_3_code 25 = .ok (.dup, 1) := by decide +kernel
theorem d32_26 : decode jdk_52_method_3_code 26 = .ok (.invokespecial 25, 3) := by decide +kernel
theorem d32_29 : decode jdk_52_method_3_code 29 = .ok (.ldc 26, 2) := by decide +kernel
theorem d32_31 : decode jdk_52_method_3_code 31 = .ok (.invokevirtual 28, 3) := by decide +kernel
theorem d32_34 : decode jdk_52_method_3_code 34 = .ok (.iload_n 0, 1) := by decide +kernel
theorem d32_35 : decode jdk_52_method_3_code 35 = .ok (.invokevirtual 32, 3) := by decide +kernel
theorem d32_38 : decode jdk_52_method_3_code 38 = .ok (.ldc 35, 2) := by decide +kernel
theorem d32_40 : decode jdk_52_method_3_code 40 = .ok (.invokevirtual 28, 3) := by decide +kernel
theorem d32_43 : decode jdk_52_method_3_code 43 = .ok (.ldc 20, 2) := by decide +kernel
theorem d32_45 : decode jdk_52_method_3_code 45 = .ok (.invokevirtual 32, 3) := by decide +kernel
theorem d32_48 : decode jdk_52_method_3_code 48 = .ok (.invokevirtual 37, 3) := by decide +kernel
theorem d32_51 : decode jdk_52_method_3_code 51 = .ok (.invokespecial 41, 3) := by decide +kernel
theorem d32_54 : decode jdk_52_method_3_code 54 = .ok (.athrow, 1) := by decide +kernel
theorem d32_55 : decode jdk_52_method_3_code 55 = .ok (.iload_n 0, 1) := by decide +kernel
theorem d32_56 : decode jdk_52_method_3_code 56 = .ok (.iconst 1, 1) := by decide +kernel
theorem d32_57 : decode jdk_52_method_3_code 57 = .ok (.ishl, 1) := by decide +kernel
theorem d32_58 : decode jdk_52_method_3_code 58 = .ok (.ireturn, 1) := by decide +kernel
def Q32_18 (Z : State) (i1 : Int32) (h0 : Heap) (n0 : Nat) (v : Option Value) (h : Heap) (L : List Loc) : Prop := v = some (.int (i1 <<< ((1 : Int32) &&& 31))) ∧ Fr n0 L ∧ h = h0
set_option maxRecDepth 65536 in
set_option maxHeartbeats 40000000 in
theorem rm32_18 (l : Launch) (Z : State) (a0 : Array Value) (hw : ∀ d ∈ tables_1, d.before a0 Z = true) (ws : List Jvm.Cond) (i1 : Int32) (h0 : Heap) (n0 : Nat) (Z0 : n0 ≤ h0.size) (hy0 : ¬ (i1 < (0 : Int32))) (hy1 : i1 < (1073741823 : Int32))  :
    OwnM l Z nM20 jdk_52_method_3_code 1 (some .int) ws ({ frames := 0, cells := 0, slots := 0, locals := 0 } : Room) #[(.int i1)] h0 (Q32_18 Z i1 h0 n0) := by
  refine own_body (plainFor_of_name pn_3) ?_
  intro p e s m below meth c s₁ G hx hby hml hZ hown hnm hret X0 e0 step fin
  replace hown : s.vm.findClass "java/lang/StringUTF16" = some m.cls := hown
  have N0 := Fr.nil n0
  have KK : OwnK p e below c _ G := ⟨step, hx, hby⟩
  refine step (s₁.setTop (mkF m 0 #[vi i1] [])) (fun t k => castTop (ef_23 m i1) k) ?_
  refine oil KK X0 d32_0 i1 1 rfl rfl ?_
  have hc1_1 : ¬ (i1 < (0 : Int32)) := hy0
  refine step (s₁.setTop (mkF m 12 #[vi i1] [])) (fun t k => XS.ifYes X0.here hx rfl (pc0 := 1) (pc' := 12) rfl (hb hby d32_1) rfl ((if0 _ _).trans (flt hc1_1).2.1) (by decide) (by decide) k) ?_
  refine oil KK X0 d32_12 i1 13 rfl rfl ?_
  refine step (s₁.setTop (mkF m 15 #[vi i1] [(.int 1073741823), (.int i1)])) (fun t k => X0.ldcInt hx hown (mvT hZ (ow hw 137 rfl)) (g := (mkF m 13 #[vi i1] [(.int i1)])) rfl (hb hby d32_13) t k) ?_
  have hc15_2 : i1 < (1073741823 : Int32) := hy1
  refine oiy KK X0 d32_15 55 (tlt hc15_2).1 (by decide) rfl ?_
  refine oil KK X0 d32_55 i1 56 rfl rfl ?_
  refine oic KK X0 d32_56 1 57 rfl rfl ?_
  refine step (s₁.setTop (mkF m 58 #[vi i1] [(.int (i1 <<< ((1 : Int32) &&& 31)))])) (fun t k => XS.ishl X0.here hx rfl (hb hby d32_57) rfl k) ?_
  refine fin (v := some (.int (i1 <<< ((1 : Int32) &&& 31)))) X0 (fun h => by cases h) ?_ (by decide) (by decide) (fun fs hr => retI X0 hx hret (hb hby d32_58) hr)
  show Q32_18 Z i1 h0 n0 (some (.int (i1 <<< ((1 : Int32) &&& 31)))) s₁.heap _
  rw [e0]
  exact ⟨rfl, N0, rfl⟩
theorem ef_39 (m : MethodId) (x0 : Addr) (x1 : Int32) (x2 : Int32) : entryFrame m #[(.ref x0), (.int x1), (.int x2)] 6 = mkF m 0 #[.val (.ref x0), .val (.int x1), .val (.int x2), .unset, .unset, .unset] [] := by first | (simp [entryFrame, mkF, argsToLocals, Value.category]; done) | rfl
def Q39 (Z : State) (ob : Addr) (kb : ClassId) (xs : List Int32) (n N : Int32) (f len : Int32) (cs : Int32) (fo : Value) (h0 : Heap) (n0 : Nat) (v : Option Value) (h : Heap) (L : List Loc) : Prop := ∃ (rb : Addr) (rk : ClassId) (rN : Int32), v = some (.ref rb) ∧ Fr n0 L ∧ Keep h0 h [] ∧ h0.size ≤ rb ∧ Arv Z h rb rk .byte rN (List.map Value.int (own_u (own_cut xs f (f + len)))) (.int 0) ∧ rN.toInt = 2 * (own_cut xs f (f + len)).length
set_option maxRecDepth 65536 in
set_option maxHeartbeats 40000000 in
theorem rm39 (l : Launch) (Z : State) (a0 : Array Value) (hw : ∀ d ∈ tables_1, d.before a0 Z = true) (ws : List Jvm.Cond) (ob : Addr) (kb : ClassId) (xs : List Int32) (n N : Int32) (f len : Int32) (cs : Int32) (fo : Value) (h0 : Heap) (n0 : Nat) (Z0 : n0 ≤ h0.size) (Vb : Arv Z h0 ob kb .byte N (List.map Value.int (own_u xs)) (.int 0)) (hn : n.toInt = xs.length) (h5 : xs.length ≤ 5) (hch : ∀ c ∈ xs, 0 ≤ c.toInt ∧ c.toInt < 65536) (hN : N.toInt = 2 * xs.length) (hf0 : 0 ≤ f.toInt) (hl0 : 0 ≤ len.toInt) (hfl : f.toInt + len.toInt ≤ xs.length) (hU : ∃ j : Nat, (0 : Int32).toInt ≤ j ∧ j < len.toInt ∧ 255 < (xs.getD (f.toInt + j).toNat (0 : Int32)).toInt) (hne : ¬ (f = (0 : Int32) ∧ f.toInt + len.toInt = xs.length)) (S_cs : Sta Z h0 "java/lang/String" "COMPACT_STRINGS" "Z" (.int cs)) (c_cs : ¬ (cs = (0 : Int32))) (S_fo : Sta Z h0 "jdk/internal/util/Preconditions" "SIOOBE_FORMATTER" "Ljava/util/function/BiFunction;" fo) (r_fo : Value.isRef fo = true) (S_ad : Sta Z h0 "java/lang/StringUTF16" "$assertionsDisabled" "Z" (.int 1)) (S_hi : Sta Z h0 "java/lang/StringUTF16" "HI_BYTE_SHIFT" "I" (.int 0)) (S_lo : Sta Z h0 "java/lang/StringUTF16" "LO_BYTE_SHIFT" "I" (.int 8)) :
    OwnM l Z nM21 jdk_52_method_17_code 6 (some (.array .byte)) ws ({ frames := 4, cells := 2, slots := 15, locals := 61 } : Room) #[(.ref ob), (.int f), (.int len)] h0 (Q39 Z ob kb xs n N f len cs fo h0 n0) := by
  refine own_body (plainFor_of_name pn_3) ?_
  intro p e s m below meth c s₁ G hx hby hml hZ hown hnm hret X0 e0 step fin
  replace hown : s.vm.findClass "java/lang/StringUTF16" = some m.cls := hown
  have N0 := Fr.nil n0
  have KK : OwnK p e below c _ G := ⟨step, hx, hby⟩
  refine step (s₁.setTop (mkF m 0 #[vr ob, vi f, vi len, .unset, .unset, .unset] [])) (fun t k => castTop (ef_39 m ob f len) k) ?_
  have ha := own_add hf0 hl0 (by omega)
  have hfd := own_dbl hf0 (by omega)
  have had := own_dbl (x := f + len) (by omega) (by omega)
  have hl5 : ¬ (len < (0 : Int32)) := own_nneg' hl0
  have hl6 : len.toNatClampNeg ≤ 5 := by rw [own_tn]; omega
  have hp1 : ¬ ((f + len) < (0 : Int32)) := own_nneg' (by omega)
  have hp2 : (f + len) < (1073741823 : Int32) := by rw [Int32.lt_iff_toInt_lt, show (1073741823 : Int32).toInt = 1073741823 by decide]; omega
  have hcl := own_cutLen (xs := xs) (f := f) (z := f + len) hf0 (by omega) (by omega)
  refine oil KK X0 d39_0 len 1 rfl rfl ?_
  obtain ⟨T1, h1, k1, X1, e1, E1, A1, st1⟩ := newP X0 hx hZ (ow hw 23 rfl) e0 (g := (mkF m 1 #[vr ob, vi f, vi len, .unset, .unset, .unset] [(.int len)])) rfl (hb hby d39_1) rfl hl5 (cap := 5) hl6 (by decide) (by decide) (by decide)
  obtain ⟨b1, g1⟩ : ∃ z, z = h0.size := ⟨_, rfl⟩
  rw [← g1] at A1 st1
  have ne_ob_b1 : ob ≠ b1 := Nat.ne_of_lt (Nat.lt_of_lt_of_le Vb.lt (Nat.le_of_eq g1.symm))
  have gn_b1 : n0 ≤ b1 := Nat.le_trans Z0 (Nat.le_of_eq g1.symm)
  have sz_b1 : h0.size ≤ b1 := Nat.le_of_eq g1.symm
  have K1 : Keep h0 h1 [] := (Keep.refl h0 []).ext E1
  have V1 : Arv Z h1 b1 k1 .byte len (List.map Value.int []) (.int 0) := Arv.new A1 hl5
  refine step (T1.setTop (mkF m 3 #[vr ob, vi f, vi len, .unset, .unset, .unset] [(.ref b1)])) (fun t k => st1 t k) ?_
  refine step (T1.setTop (mkF m 4 #[vr ob, vi f, vi len, vr b1, .unset, .unset] [])) (fun t k => XS.astoreN X1.here hx rfl (hb hby d39_3) rfl rfl (l' := #[vr ob, vi f, vi len, vr b1, .unset, .unset]) rfl k) ?_
  refine oal KK X1 d39_4 (.ref ob) 5 rfl rfl rfl ?_
  refine oil KK X1 d39_5 f 6 rfl rfl ?_
  refine oal KK X1 d39_6 (.ref b1) 7 rfl rfl rfl ?_
  refine oic KK X1 d39_7 0 8 rfl rfl ?_
  refine oil KK X1 d39_8 len 9 rfl rfl ?_
  have f2 := (Vb.ext E1)
  have f3 := (S_cs.ext E1)
  have f4 := (S_fo.ext E1)
  have f5 := (S_ad.ext E1)
  have f6 := (S_hi.ext E1)
  have f7 := (S_lo.ext E1)
  obtain ⟨_, _, ⟨T8, L8, k8, n8⟩, -, X8, ⟨Lc8, hQ8, l8, y8, z8⟩, st8⟩ := Jvm.LawKit.callS X1 hx (y := nM19) hown (mvT hZ (ow hw 164 rfl)) (mvT hZ (ow hw 165 rfl)) (mvT hZ (ow hw 69 rfl)) (mvT hZ (ow hw 166 rfl)) (by decide) (backOf (W := 0) (rm40 l Z a0 hw [] ob kb xs n N f len b1 k1 cs fo h1 n0 (Nat.le_trans Z0 K1.1) f2 hn h5 hch hN hf0 hl0 hfl hU V1 ne_ob_b1 gn_b1 f3 c_cs f4 r_fo f5 f6 f7) hZ (ow hw 166 rfl) (ow hw 69 rfl) (by decide) (by decide)) (g := (mkF m 9 #[vr ob, vi f, vi len, vr b1, .unset, .unset] [(.int len), (.int 0), (.ref b1), (.int f), (.ref ob)])) rfl (by rw [hml]; rfl) (argsL := [(.ref ob), (.int f), (.ref b1), (.int 0), (.int len)]) (rest := []) (lenOf pd_13 rfl) rfl (omw rfl rfl) (hb hby d39_9) (fun _ _ => ⟨rfl, e1, (by decide : 1 + 0 ≤ _), (by decide : 5 + 0 ≤ _)⟩)
  dsimp only [Pt.U, Pt.locs, Pt.cells, Pt.slots] at X8 l8 y8 z8 st8 hQ8
  subst l8 y8 z8
  obtain ⟨h8, e8⟩ : ∃ z, T8.heap = z := ⟨_, rfl⟩
  rw [e8] at hQ8
  obtain ⟨jj8, rfl, N8q, K8q, jg8, jl8, jh8⟩ := hQ8
  have N8 := Fr.app N0 N8q
  have K8 : Keep h0 h8 [] := K1.trans K8q (allS (Or.inr sz_b1) all0)
  have f9 := own_staK f3 K8q (allS (own_arvP V1) all0)
  have f10 := own_staK f4 K8q (allS (own_arvP V1) all0)
  have f11 := own_staK f5 K8q (allS (own_arvP V1) all0)
  have f12 := own_staK f6 K8q (allS (own_arvP V1) all0)
  have f13 := own_staK f7 K8q (allS (own_arvP V1) all0)
  refine step (T8.setTop (mkF m 12 #[vr ob, vi f, vi len, vr b1, .unset, .unset] [(.int jj8)])) (fun t k => st8 t k) ?_
  refine oiS KK X8 d39_12 #[vr ob, vi f, vi len, vr b1, vi jj8, .unset] 14 rfl rfl ?_
  refine oiL KK X8 d39_14 jj8 16 rfl rfl ?_
  refine oil KK X8 d39_16 len 17 rfl rfl ?_
  have hc17_14 : ¬ (jj8 = len) := fun q => by rw [q] at jl8; omega
  refine oin KK X8 d39_17 20 rfl (feq hc17_14).1 ?_
  refine oal KK X8 d39_20 (.ref ob) 21 rfl rfl rfl ?_
  refine oil KK X8 d39_21 f 22 rfl rfl ?_
  refine oic KK X8 d39_22 1 23 rfl rfl ?_
  refine step (T8.setTop (mkF m 24 #[vr ob, vi f, vi len, vr b1, vi jj8, .unset] [(.int (f <<< ((1 : Int32) &&& 31))), (.ref ob)])) (fun t k => XS.ishl X8.here hx rfl (hb hby d39_23) rfl k) ?_
  refine oil KK X8 d39_24 f 25 rfl rfl ?_
  refine oil KK X8 d39_25 len 26 rfl rfl ?_
  refine step (T8.setTop (mkF m 27 #[vr ob, vi f, vi len, vr b1, vi jj8, .unset] [(.int (f + len)), (.int (f <<< ((1 : Int32) &&& 31))), (.ref ob)])) (fun t k => XS.iadd X8.here hx rfl (hb hby d39_26) rfl k) ?_
  obtain ⟨_, _, ⟨T15, L15, k15, n15⟩, -, X15, ⟨Lc15, hQ15, l15, y15, z15⟩, st15⟩ := Jvm.LawKit.callS X8 hx (y := nM20) hown (mvT hZ (ow hw 134 rfl)) (mvT hZ (ow hw 135 rfl)) (mvT hZ (ow hw 69 rfl)) (mvT hZ (ow hw 136 rfl)) (by decide) (backOf (W := 2) (rm32_18 l Z a0 hw [] (f + len) h8 n0 (Nat.le_trans Z0 K8.1) hp1 hp2) hZ (ow hw 136 rfl) (ow hw 69 rfl) (by decide) (by decide)) (g := (mkF m 27 #[vr ob, vi f, vi len, vr b1, vi jj8, .unset] [(.int (f + len)), (.int (f <<< ((1 : Int32) &&& 31))), (.ref ob)])) rfl (by rw [hml]; rfl) (argsL := [(.int (f + len))]) (rest := [(.int (f <<< ((1 : Int32) &&& 31))), (.ref ob)]) (lenOf pd_14 rfl) rfl (omw rfl rfl) (hb hby d39_27) (fun _ _ => ⟨rfl, e8, (by decide : 1 + 0 ≤ _), (by decide : 5 + 0 ≤ _)⟩)
  dsimp only [Pt.U, Pt.locs, Pt.cells, Pt.slots] at X15 l15 y15 z15 st15 hQ15
  subst l15 y15 z15
  obtain ⟨rfl, N15q, e15q⟩ := hQ15
  have N15 := Fr.app N8 N15q
  refine step (T15.setTop (mkF m 30 #[vr ob, vi f, vi len, vr b1, vi jj8, .unset] [(.int ((f + len) <<< ((1 : Int32) &&& 31))), (.int (f <<< ((1 : Int32) &&& 31))), (.ref ob)])) (fun t k => st15 t k) ?_
  have hne2 : ¬ ((f <<< ((1 : Int32) &&& 31)) = (0 : Int32) ∧ ((f + len) <<< ((1 : Int32) &&& 31)) = N) := fun q => hne ⟨Int32.toInt_inj.mp (by have := congrArg Int32.toInt q.1; rw [show (0 : Int32).toInt = 0 by decide] at *; omega), by have := congrArg Int32.toInt q.2; omega⟩
  have f16 := (f2.keep K8q (ninS ne_ob_b1 nin0))
  obtain ⟨_, _, ⟨T17, L17, k17, n17⟩, -, X17, ⟨Lc17, hQ17, l17, y17, z17⟩, st17⟩ := Jvm.LawKit.callS X15 hx (y := nM15) hown (mvT hZ (ow hw 176 rfl)) (mvT hZ (ow hw 108 rfl)) (mvT hZ (ow hw 109 rfl)) (mvT hZ (ow hw 110 rfl)) (by decide) (backOf (W := 0) (rm25 l Z a0 hw [] ob kb N (own_u xs) (f <<< ((1 : Int32) &&& 31)) ((f + len) <<< ((1 : Int32) &&& 31)) cs fo h8 n0 (Nat.le_trans Z0 K8.1) f16 (by rw [own_uLen]; omega) (by omega) (by omega) (by omega) (by omega) hne2 f9 c_cs f10 r_fo f11 f12 f13) hZ (ow hw 110 rfl) (ow hw 109 rfl) (by decide) (by decide)) (g := (mkF m 30 #[vr ob, vi f, vi len, vr b1, vi jj8, .unset] [(.int ((f + len) <<< ((1 : Int32) &&& 31))), (.int (f <<< ((1 : Int32) &&& 31))), (.ref ob)])) rfl (by rw [hml]; rfl) (argsL := [(.ref ob), (.int (f <<< ((1 : Int32) &&& 31))), (.int ((f + len) <<< ((1 : Int32) &&& 31)))]) (rest := []) (lenOf pd_9 rfl) rfl (omw rfl rfl) (hb hby d39_30) (fun _ _ => ⟨rfl, e15q, (by decide : 1 + 1 ≤ _), (by decide : 5 + 10 ≤ _)⟩)
  dsimp only [Pt.U, Pt.locs, Pt.cells, Pt.slots] at X17 l17 y17 z17 st17 hQ17
  subst l17 y17 z17
  obtain ⟨h17, e17⟩ : ∃ z, T17.heap = z := ⟨_, rfl⟩
  rw [e17] at hQ17
  obtain ⟨rb17, rk17, rfl, N17q, K17q, sz_rb17, Vr17⟩ := hQ17
  have N17 := Fr.app N15 N17q
  have lt17_ob := f16.lt
  have ne_ob_rb17 : ob ≠ rb17 := Nat.ne_of_lt (Nat.lt_of_lt_of_le lt17_ob sz_rb17)
  have gn_rb17 : n0 ≤ rb17 := Nat.le_trans (Nat.le_trans Z0 K8.1) sz_rb17
  replace sz_rb17 := Nat.le_trans K8.1 sz_rb17
  have K17 : Keep h0 h17 [] := K8.trans K17q all0
  have f18 := own_staK f9 K17q all0
  have f19 := own_staK f10 K17q all0
  have f20 := own_staK f11 K17q all0
  have f21 := own_staK f12 K17q all0
  have f22 := own_staK f13 K17q all0
  refine step (T17.setTop (mkF m 33 #[vr ob, vi f, vi len, vr b1, vi jj8, .unset] [(.ref rb17)])) (fun t k => st17 t k) ?_
  have f23 := Vr17
  rw [own_cutU2 (xs := xs) (f := f) (z := f + len) hf0 (by omega) hfd had] at f23
  have hN2 : (((f + len) <<< ((1 : Int32) &&& 31)) - (f <<< ((1 : Int32) &&& 31))).toInt = 2 * (own_cut xs f (f + len)).length := by rw [own_sub (f := (f <<< ((1 : Int32) &&& 31))) (z := ((f + len) <<< ((1 : Int32) &&& 31))) (by omega) (by omega) (by omega)]; omega
  have hjn : jj8 < len := by rw [Int32.lt_iff_toInt_lt]; exact jl8
  have hj0 : ¬ (jj8 < (0 : Int32)) := own_nneg' jg8
  refine step (T17.setTop (mkF m 35 #[vr ob, vi f, vi len, vr b1, vi jj8, vr rb17] [])) (fun t k => XS.astore X17.here hx rfl (hb hby d39_33) rfl rfl (l' := #[vr ob, vi f, vi len, vr b1, vi jj8, vr rb17]) rfl k) ?_
  refine oaL KK X17 d39_35 (.ref rb17) 37 rfl rfl rfl ?_
  refine oiL KK X17 d39_37 jj8 39 rfl rfl ?_
  obtain ⟨_, _, ⟨T24, L24, k24, n24⟩, -, X24, ⟨Lc24, hQ24, l24, y24, z24⟩, st24⟩ := Jvm.LawKit.callS X17 hx (y := nM6) hown (mvT hZ (ow hw 144 rfl)) (mvT hZ (ow hw 145 rfl)) (mvT hZ (ow hw 69 rfl)) (mvT hZ (ow hw 146 rfl)) (by decide) (backOf (W := 0) (rm34 l Z a0 hw [] rb17 rk17 (own_cut xs f (f + len)) len (((f + len) <<< ((1 : Int32) &&& 31)) - (f <<< ((1 : Int32) &&& 31))) jj8 cs fo h17 n0 (Nat.le_trans Z0 K17.1) f23 (by omega) (by omega) (fun c q => hch c (own_cutMem q)) hN2 hj0 hjn f18 c_cs f19 r_fo f20 f21 f22) hZ (ow hw 146 rfl) (ow hw 69 rfl) (by decide) (by decide)) (g := (mkF m 39 #[vr ob, vi f, vi len, vr b1, vi jj8, vr rb17] [(.int jj8), (.ref rb17)])) rfl (by rw [hml]; rfl) (argsL := [(.ref rb17), (.int jj8)]) (rest := []) (lenOf pd_1 rfl) rfl (omw rfl rfl) (hb hby d39_39) (fun _ _ => ⟨rfl, e17, (by decide : 2 + 0 ≤ _), (by decide : 15 + 0 ≤ _)⟩)
  dsimp only [Pt.U, Pt.locs, Pt.cells, Pt.slots] at X24 l24 y24 z24 st24 hQ24
  subst l24 y24 z24
  obtain ⟨rfl, N24q, e24q⟩ := hQ24
  have N24 := Fr.app N17 N24q
  refine step (T24.setTop (mkF m 42 #[vr ob, vi f, vi len, vr b1, vi jj8, vr rb17] [(.int (List.getD (own_cut xs f (f + len)) (jj8).toNatClampNeg (0 : Int32)))])) (fun t k => st24 t k) ?_
  refine osi KK X24 d39_42 255 45 rfl rfl ?_
  have hc45_25 : (255 : Int32) < (List.getD (own_cut xs f (f + len)) (jj8).toNatClampNeg (0 : Int32)) := by rw [Int32.lt_iff_toInt_lt, show (255 : Int32).toInt = 255 by decide, own_tn, own_cutAt hf0 (by omega), show (f.toInt + ((jj8.toInt.toNat : Nat) : Int)) = f.toInt + jj8.toInt by omega]; exact jh8
  refine oiy KK X24 d39_45 61 (tlt hc45_25).2.2.1 (by decide) rfl ?_
  refine oaL KK X24 d39_61 (.ref rb17) 63 rfl rfl rfl ?_
  refine fin (v := some (.ref rb17)) X24 (fun h => by cases h) ?_ (by decide) (by decide) (fun fs hr => X24.areturnOut hx rfl hret rfl (hb hby d39_63) hr)
  show Q39 Z ob kb xs n N f len cs fo h0 n0 (some (.ref rb17)) T24.heap _
  rw [e24q]
  exact ⟨rb17, rk17, _, rfl, N24, K17, sz_rb17, f23, hN2⟩
theorem d38_0 : decode jdk_52_method_69_code 0 = .ok (.iload_n 2, 1) := by decide +kernel
theorem d38_1 : decode jdk_52_method_69_code 1 = .ok (.ifCond .ne 7, 3) := by decide +kernel
theorem d38_4 : decode jdk_52_method_69_code 4 = .ok (.ldc_w 295, 3) := by decide +kernel
theorem d38_7 : decode jdk_52_method_69_code 7 = .ok (.areturn, 1) := by decide +kernel
theorem d38_8 : decode jdk_52_method_69_code 8 = .ok (.getstatic 251, 3) := by decide +kernel
theorem d38_11 : decode jdk_52_method_69_code 11 = .ok (.ifCond .eq 28, 3) := by decide +kernel
theorem d38_14 : decode jdk_52_method_69_code 14 = .ok (.aload_n 0, 1) := by decide +kernel
theorem d38_15 : decode jdk_52_method_69_code 15 = .ok (.iload_n 1, 1) := by decide +kernel
theorem d38_16 : decode jdk_52_method_69_code 16 = .ok (.iload_n 2, 1) := by decide +kernel
theorem d38_17 : decode jdk_52_method_69_code 17 = .ok (.invokestatic 257, 3) := by decide +kernel
theorem d38_20 : decode jdk_52_method_69_code 20 = .ok (.astore_n 3, 1) := by decide +kernel
theorem d38_21 : decode jdk_52_method_69_code 21 = .ok (.aload_n 3, 1) := by decide +kernel
theorem d38_22 : decode jdk_52_method_69_code 22 = .ok (.iload_n 2, 1) := by decide +kernel
theorem d38_23 : decode jdk_52_method_69_code 23 = .ok (.invokestatic 259, 3) := by decide +kernel
theorem d38_26 : decode jdk_52_method_69_code 26 = .ok (.istore 4, 2) := by decide +kernel
theorem d38_28 : decode jdk_52_method_69_code 28 = .ok (.new 3, 3) := by decide +kernel
theorem d38_31 : decode jdk_52_method_69_code 31 = .ok (.dup, 1) := by decide +kernel
theorem d38_32 : decode jdk_52_method_69_code 32 = .ok (.aload_n 3, 1) := by decide +kernel
theorem d38_33 : decode jdk_52_method_69_code 33 = .ok (.iload 4, 2) := by decide +kernel
theorem d38_35 : decode jdk_52_method_69_code 35 = .ok (.invokespecial 263, 3) := by decide +kernel
theorem d38_38 : decode jdk_52_method_69_code 38 = .ok (.areturn, 1) := by decide +kernel
theorem d38_39 : decode jdk_52_method_69_code 39 = .ok (.iload_n 1, 1) := by decide +kernel
theorem d38_40 : decode jdk_52_method_69_code 40 = .ok (.iload_n 2, 1) := by decide +kernel
theorem d38_41 : decode jdk_52_method_69_code 41 = .ok (.iadd, 1) := by decide +kernel
theorem d38_42 : decode jdk_52_method_69_code 42 = .ok (.istore_n 3, 1) := by decide +kernel
theorem d38_43 : decode jdk_52_method_69_code 43 = .ok (.new 3, 3) := by decide +kernel
theorem d38_46 : decode jdk_52_method_69_code 46 = .ok (.dup, 1) := by decide +kernel
theorem d38_47 : decode jdk_52_method_69_code 47 = .ok (.aload_n 0, 1) := by decide +kernel
theorem d38_48 : decode jdk_52_method_69_code 48 = .ok (.iload_n 1, 1) := by decide +kernel
theorem d38_49 : decode jdk_52_method_69_code 49 = .ok (.iconst 1, 1) := by decide +kernel
theorem d38_50 : decode jdk_52_method_69_code 50 = .ok (.ishl, 1) := by decide +kernel
theorem d38_51 : decode jdk_52_method_69_code 51 = .ok (.iload_n 3, 1) := by decide +kernel
theorem d38_52 : decode jdk_52_method_69_code 52 = .ok (.iconst 1, 1) := by decide +kernel
theorem d38_53 : decode jdk_52_method_69_code 53 = .ok (.ishl, 1) := by decide +kernel
theorem d38_54 : decode jdk_52_method_69_code 54 = .ok (.invokestatic 126, 3) := by decide +kernel
theorem d38_57 : decode jdk_52_method_69_code 57 = .ok (.iconst 1, 1) := by decide +kernel
theorem d38_58 : decode jdk_52_method_69_code 58 = .ok (.invokespecial 263, 3) := by decide +kernel
theorem d38_61 : decode jdk_52_method_69_code 61 = .ok (.areturn, 1) := by decide +kernel
theorem pd_15 : parseMethodDescriptor "([BI)B" = some ⟨[(.array .byte), .int], some .byte⟩ := by decide +kernel
theorem pd_16 : parseMethodDescriptor "([BB)V" = some ⟨[(.array .byte), .byte], none⟩ := by decide +kernel
theorem d16_0 : decode jdk_52_method_15_code 0 = .ok (.iload_n 1, 1) := by decide +kernel
theorem d16_1 : decode jdk_52_method_15_code 1 = .ok (.aload_n 0, 1) := by decide +kernel
theorem d16_2 : decode jdk_52_method_15_code 2 = .ok (.arraylength, 1) := by decide +kernel
theorem d16_3 : decode jdk_52_method_15_code 3 = .ok (.isub, 1) := by decide +kernel
theorem d16_4 : decode jdk_52_method_15_code 4 = .ok (.bipush 31, 2) := by decide +kernel
theorem d16_6 : decode jdk_52_method_15_code 6 = .ok (.iushr, 1) := by decide +kernel
theorem d16_7 : decode jdk_52_method_15_code 7 = .ok (.i2b, 1) := by decide +kernel
theorem d16_8 : decode jdk_52_method_15_code 8 = .ok (.ireturn, 1) := by decide +kernel
def Q16_19 (Z : State) (o1 : Addr) (i1 : Int32) (kc2 : ClassId) (i3 : Int32) (xs4 : List Int32) (h0 : Heap) (n0 : Nat) (v : Option Value) (h : Heap) (L : List Loc) : Prop := v = some (.int (nar .byte ((((i1 - i3).toUInt32 >>> ((31 : Int32) &&& 31).toUInt32).toInt32).toInt8.toInt32))) ∧ Fr n0 L ∧ h = h0
set_option maxRecDepth 65536 in
set_option maxHeartbeats 40000000 in
theorem rm16_19 (l : Launch) (Z : State) (a0 : Array Value) (hw : ∀ d ∈ tables_1, d.before a0 Z = true) (ws : List Jvm.Cond) (o1 : Addr) (i1 : Int32) (kc2 : ClassId) (i3 : Int32) (xs4 : List Int32) (h0 : Heap) (n0 : Nat) (Z0 : n0 ≤ h0.size) (Pm0 : Arv Z h0 o1 kc2 .byte i3 (List.map Value.int xs4) (.int 0)) (gn_o1 : n0 ≤ o1)  :
    OwnM l Z nM22 jdk_52_method_15_code 2 (some .byte) ws ({ frames := 0, cells := 0, slots := 0, locals := 0 } : Room) #[(.ref o1), (.int i1)] h0 (Q16_19 Z o1 i1 kc2 i3 xs4 h0 n0) := by
  refine own_body (plainFor_of_name pn_3) ?_
  intro p e s m below meth c s₁ G hx hby hml hZ hown hnm hret X0 e0 step fin
  replace hown : s.vm.findClass "java/lang/StringUTF16" = some m.cls := hown
  have N0 := Fr.nil n0
  have KK : OwnK p e below c _ G := ⟨step, hx, hby⟩
  refine step (s₁.setTop (mkF m 0 #[vr o1, vi i1] [])) (fun t k => castTop (ef_20_2 m o1 i1) k) ?_
  refine oil KK X0 d16_0 i1 1 rfl rfl ?_
  refine oal KK X0 d16_1 (.ref o1) 2 rfl rfl rfl ?_
  obtain ⟨cl1, Ar1, q1, S1, N1n, H1, G1⟩ := id Pm0
  refine step (s₁.setTop (mkF m 3 #[vr o1, vi i1] [(.int i3), (.int i1)])) (fun t k => X0.arraylength hx (by rw [e0]; exact Ar1.1) (State.isArrayOf_alike hZ.alike Ar1.2.1) (g := (mkF m 2 #[vr o1, vi i1] [(.ref o1), (.int i1)])) rfl rfl (hb hby d16_2) t (by rw [len_of S1 N1n]; exact k)) ?_
  refine step (s₁.setTop (mkF m 4 #[vr o1, vi i1] [(.int (i1 - i3))])) (fun t k => XS.isub X0.here hx rfl (hb hby d16_3) rfl k) ?_
  refine obi KK X0 d16_4 31 6 rfl rfl ?_
  refine step (s₁.setTop (mkF m 7 #[vr o1, vi i1] [(.int (((i1 - i3).toUInt32 >>> ((31 : Int32) &&& 31).toUInt32).toInt32))])) (fun t k => XS.iushr X0.here hx rfl (hb hby d16_6) rfl k) ?_
  refine step (s₁.setTop (mkF m 8 #[vr o1, vi i1] [(.int ((((i1 - i3).toUInt32 >>> ((31 : Int32) &&& 31).toUInt32).toInt32).toInt8.toInt32))])) (fun t k => XS.i2b X0.here hx rfl (hb hby d16_7) rfl k) ?_
  refine fin (v := some (.int (nar .byte ((((i1 - i3).toUInt32 >>> ((31 : Int32) &&& 31).toUInt32).toInt32).toInt8.toInt32)))) X0 (fun h => by cases h) ?_ (by decide) (by decide) (fun fs hr => retN X0 hx (t := .byte) hret (by simp) (hb hby d16_8) hr)
  show Q16_19 Z o1 i1 kc2 i3 xs4 h0 n0 (some (.int (nar .byte ((((i1 - i3).toUInt32 >>> ((31 : Int32) &&& 31).toUInt32).toInt32).toInt8.toInt32)))) s₁.heap _
  rw [e0]
  exact ⟨rfl, N0, rfl⟩
theorem d29_0 : decode jdk_42_method_151_code 0 = .ok (.aload_n 0, 1) := by decide +kernel
theorem d29_1 : decode jdk_42_method_151_code 1 = .ok (.invokespecial 1, 3) := by decide +kernel
theorem d29_4 : decode jdk_42_method_151_code 4 = .ok (.aload_n 0, 1) := by decide +kernel
theorem d29_5 : decode jdk_42_method_151_code 5 = .ok (.aload_n 1, 1) := by decide +kernel
theorem d29_6 : decode jdk_42_method_151_code 6 = .ok (.putfield 9, 3) := by decide +kernel
theorem d29_9 : decode jdk_42_method_151_code 9 = .ok (.aload_n 0, 1) := by decide +kernel
theorem d29_10 : decode jdk_42_method_151_code 10 = .ok (.iload_n 2, 1) := by decide +kernel
theorem d29_11 : decode jdk_42_method_151_code 11 = .ok (.putfield 15, 3) := by decide +kernel
theorem d29_14 : decode jdk_42_method_151_code 14 = .ok (.return_, 1) := by decide +kernel
theorem pd_17 : parseMethodDescriptor "()V" = some ⟨[], none⟩ := by decide +kernel
theorem ef_29_20 (m : MethodId) (x0 : Addr) (x1 : Addr) : entryFrame m #[(.ref x0), (.ref x1), (.int 1)] 3 = mkF m 0 #[.val (.ref x0), .val (.ref x1), .val (.int 1)] [] := by first | (simp [entryFrame, mkF, argsToLocals, Value.category]; done) | rfl
def Q29_20 (Z : State) (o1 : Addr) (o2 : Addr) (h0 : Heap) (n0 : Nat) (v : Option Value) (h : Heap) (L : List Loc) : Prop := v = none ∧ Fr n0 L ∧ Keep h0 h [o1] ∧ Fld Z h o1 "java/lang/String" "coder" "B" (.int 1) ∧ Fld Z h o1 "java/lang/String" "value" "[B" (.ref o2)
set_option maxRecDepth 65536 in
set_option maxHeartbeats 40000000 in
theorem rm29_20 (l : Launch) (Z : State) (a0 : Array Value) (hw : ∀ d ∈ tables_1, d.before a0 Z = true) (ws : List Jvm.Cond) (o1 : Addr) (o2 : Addr) (h0 : Heap) (n0 : Nat) (Z0 : n0 ≤ h0.size) (Pm0 : Exa Z h0 o1 "java/lang/String") (Pm1 : Fld Z h0 o1 "java/lang/String" "coder" "B" (.int 0)) (Pm2 : Fld Z h0 o1 "java/lang/String" "value" "[B" .null) (gn_o1 : n0 ≤ o1) (ne_o1_o2 : o1 ≠ o2) (gn_o2 : n0 ≤ o2)  :
    OwnM l Z nM23 jdk_42_method_151_code 3 none ws ({ frames := 1, cells := 0, slots := 0, locals := 12 } : Room) #[(.ref o1), (.ref o2), (.int 1)] h0 (Q29_20 Z o1 o2 h0 n0) := by
  refine own_body (plainFor_of_name pn_0) ?_
  intro p e s m below meth c s₁ G hx hby hml hZ hown hnm hret X0 e0 step fin
  replace hown : s.vm.findClass "java/lang/String" = some m.cls := hown
  have N0 := Fr.nil n0
  have KK : OwnK p e below c _ G := ⟨step, hx, hby⟩
  refine step (s₁.setTop (mkF m 0 #[vr o1, vr o2, vi 1] [])) (fun t k => castTop (ef_29_20 m o1 o2) k) ?_
  refine oal KK X0 d29_0 (.ref o1) 1 rfl rfl rfl ?_
  obtain ⟨T1, X1, e1, st1⟩ := initO X0 hx hZ hown (ow hw 19 rfl) (ow hw 20 rfl) (ow hw 21 rfl) e0 (g := (mkF m 1 #[vr o1, vr o2, vi 1] [(.ref o1)])) rfl (by rw [hml]; rfl) rfl (hb hby d29_1) (by decide) (W := 0) (omw rfl rfl) (by decide)
  refine step (T1.setTop (mkF m 4 #[vr o1, vr o2, vi 1] [])) (fun t k => st1 t k) ?_
  refine oal KK X1 d29_4 (.ref o1) 5 rfl rfl rfl ?_
  refine oal KK X1 d29_5 (.ref o2) 6 rfl rfl rfl ?_
  obtain ⟨T2, h2, X2, e2, W2, st2⟩ := putF X1 hx hZ hown (host := "") (Or.inl (ow hw 28 rfl)) Via.refl e1 Pm2 Pm0 (Or.inr ⟨(ow hw 24 rfl), rfl, hnm⟩) (ow hw 10 rfl) (ty := (.array .byte)) (by decide) rfl rfl (g := (mkF m 6 #[vr o1, vr o2, vi 1] [(.ref o2), (.ref o1)])) rfl rfl (hb hby d29_6)
  have N2 := Fr.snoc X2 N0 gn_o1
  have K2 : Keep h0 h2 [o1] := (Keep.refl h0 [o1]).wr W2 (Or.inl (List.mem_of_getElem? (i := 0) rfl))
  have F2 := Pm2.same W2
  refine step (T2.setTop (mkF m 9 #[vr o1, vr o2, vi 1] [])) (fun t k => st2 t k) ?_
  refine oal KK X2 d29_9 (.ref o1) 10 rfl rfl rfl ?_
  refine oil KK X2 d29_10 (1 : Int32) 11 rfl rfl ?_
  have f3 := (Pm0.wr W2)
  have f4 := (Pm1.other W2 (Or.inr (slot_ne (Or.inr (ow hw 25 rfl)) (Or.inr (ow hw 24 rfl)) (by decide) (t := .byte) (t' := (.array .byte)) (by decide) (by decide))))
  obtain ⟨T5, h5, X5, e5, W5, st5⟩ := putFN X2 hx hZ hown (ow hw 29 rfl) Via.refl e2 f4 f3 (Or.inr ⟨(ow hw 25 rfl), rfl, hnm⟩) (ow hw 10 rfl) (ty := .byte) (v' := (.int 1)) (by decide) rfl (fits_nar_byte (1 : Int32)) (g := (mkF m 11 #[vr o1, vr o2, vi 1] [(.int 1), (.ref o1)])) rfl rfl (hb hby d29_11)
  have N5 := Fr.snoc X5 N2 gn_o1
  have K5 : Keep h0 h5 [o1] := K2.wr W5 (Or.inl (List.mem_of_getElem? (i := 0) rfl))
  have F5 := f4.same W5
  refine step (T5.setTop (mkF m 14 #[vr o1, vr o2, vi 1] [])) (fun t k => st5 t k) ?_
  have f6 := (F2.other W5 (Or.inr (slot_ne (Or.inr (ow hw 24 rfl)) (Or.inr (ow hw 25 rfl)) (by decide) (t := (.array .byte)) (t' := .byte) (by decide) (by decide))))
  refine fin (v := none) X5 (fun _ => rfl) ?_ (by decide) (by decide) (fun fs hr => X5.returnOut hx hret (hb hby d29_14) hr)
  show Q29_20 Z o1 o2 h0 n0 (none) T5.heap _
  rw [e5]
  exact ⟨rfl, N5, K5, F5, f6⟩
def Q38 (Z : State) (ob : Addr) (kb : ClassId) (xs : List Int32) (n N : Int32) (f len : Int32) (cs : Int32) (fo : Value) (h0 : Heap) (n0 : Nat) (v : Option Value) (h : Heap) (L : List Loc) : Prop := ∃ (r rb : Addr) (rk : ClassId) (rco rN : Int32) (rbs : List Int32), v = some (.ref r) ∧ Fr n0 L ∧ Keep h0 h [] ∧ Exa Z h r "java/lang/String" ∧ Fld Z h r "java/lang/String" "coder" "B" (.int rco) ∧ Fld Z h r "java/lang/String" "value" "[B" (.ref rb) ∧ Arv Z h rb rk .byte rN (List.map Value.int rbs) (.int 0) ∧ OS (own_cut xs f (f + len)) len rco rN rbs
set_option maxRecDepth 65536 in
set_option maxHeartbeats 40000000 in
theorem rm38 (l : Launch) (Z : State) (a0 : Array Value) (hw : ∀ d ∈ tables_1, d.before a0 Z = true) (ws : List Jvm.Cond) (ob : Addr) (kb : ClassId) (xs : List Int32) (n N : Int32) (f len : Int32) (cs : Int32) (fo : Value) (h0 : Heap) (n0 : Nat) (Z0 : n0 ≤ h0.size) (Vb : Arv Z h0 ob kb .byte N (List.map Value.int (own_u xs)) (.int 0)) (hn : n.toInt = xs.length) (h5 : xs.length ≤ 5) (hch : ∀ c ∈ xs, 0 ≤ c.toInt ∧ c.toInt < 65536) (hN : N.toInt = 2 * xs.length) (hf0 : 0 ≤ f.toInt) (hl0 : 0 ≤ len.toInt) (hfl : f.toInt + len.toInt ≤ xs.length) (hU : ∃ j : Nat, (0 : Int32).toInt ≤ j ∧ j < len.toInt ∧ 255 < (xs.getD (f.toInt + j).toNat (0 : Int32)).toInt) (hne : ¬ (f = (0 : Int32) ∧ f.toInt + len.toInt = xs.length)) (hlp : 0 < len.toInt) (S_cs : Sta Z h0 "java/lang/String" "COMPACT_STRINGS" "Z" (.int cs)) (c_cs : ¬ (cs = (0 : Int32))) (S_fo : Sta Z h0 "jdk/internal/util/Preconditions" "SIOOBE_FORMATTER" "Ljava/util/function/BiFunction;" fo) (r_fo : Value.isRef fo = true) (S_ad : Sta Z h0 "java/lang/StringUTF16" "$assertionsDisabled" "Z" (.int 1)) (S_hi : Sta Z h0 "java/lang/StringUTF16" "HI_BYTE_SHIFT" "I" (.int 0)) (S_lo : Sta Z h0 "java/lang/StringUTF16" "LO_BYTE_SHIFT" "I" (.int 8)) :
    OwnM l Z nM24 jdk_52_method_69_code 5 (some (.object "java/lang/String")) ws ({ frames := 5, cells := 3, slots := 19, locals := 78 } : Room) #[(.ref ob), (.int f), (.int len)] h0 (Q38 Z ob kb xs n N f len cs fo h0 n0) := by
  refine own_body (plainFor_of_name pn_3) ?_
  intro p e s m below meth c s₁ G hx hby hml hZ hown hnm hret X0 e0 step fin
  replace hown : s.vm.findClass "java/lang/StringUTF16" = some m.cls := hown
  have N0 := Fr.nil n0
  have KK : OwnK p e below c _ G := ⟨step, hx, hby⟩
  refine step (s₁.setTop (mkF m 0 #[vr ob, vi f, vi len, .unset, .unset] [])) (fun t k => castTop (ef_26 m ob f len) k) ?_
  refine oil KK X0 d38_0 len 1 rfl rfl ?_
  have hc1_1 : ¬ (len = (0 : Int32)) := fun q => by rw [q, show (0 : Int32).toInt = 0 by decide] at hlp; omega
  refine step (s₁.setTop (mkF m 8 #[vr ob, vi f, vi len, .unset, .unset] [])) (fun t k => XS.ifYes X0.here hx rfl (pc0 := 1) (pc' := 8) rfl (hb hby d38_1) rfl ((if0 _ _).trans (feq hc1_1).2) (by decide) (by decide) k) ?_
  obtain ⟨T2, X2, e2, st2⟩ := getS2 X0 hx hZ hown (host := "") (Or.inl (ow hw 160 rfl)) Via.refl e0 S_cs (g := (mkF m 8 #[vr ob, vi f, vi len, .unset, .unset] [])) rfl (hb hby d38_8)
  refine step (T2.setTop (mkF m 11 #[vr ob, vi f, vi len, .unset, .unset] [(.int cs)])) (fun t k => st2 t k) ?_
  have hc11_3 : ¬ (cs = (0 : Int32)) := c_cs
  refine step (T2.setTop (mkF m 14 #[vr ob, vi f, vi len, .unset, .unset] [])) (fun t k => XS.ifNo X2.here hx rfl (hb hby d38_11) rfl ((if0 _ _).trans (feq hc11_3).1) k) ?_
  refine oal KK X2 d38_14 (.ref ob) 15 rfl rfl rfl ?_
  refine oil KK X2 d38_15 f 16 rfl rfl ?_
  refine oil KK X2 d38_16 len 17 rfl rfl ?_
  obtain ⟨_, _, ⟨T4, L4, k4, n4⟩, -, X4, ⟨Lc4, hQ4, l4, y4, z4⟩, st4⟩ := Jvm.LawKit.callS X2 hx (y := nM21) hown (mvT hZ (ow hw 161 rfl)) (mvT hZ (ow hw 162 rfl)) (mvT hZ (ow hw 69 rfl)) (mvT hZ (ow hw 163 rfl)) (by decide) (backOf (W := 0) (rm39 l Z a0 hw [] ob kb xs n N f len cs fo h0 n0 Z0 Vb hn h5 hch hN hf0 hl0 hfl hU hne S_cs c_cs S_fo r_fo S_ad S_hi S_lo) hZ (ow hw 163 rfl) (ow hw 69 rfl) (by decide) (by decide)) (g := (mkF m 17 #[vr ob, vi f, vi len, .unset, .unset] [(.int len), (.int f), (.ref ob)])) rfl (by rw [hml]; rfl) (argsL := [(.ref ob), (.int f), (.int len)]) (rest := []) (lenOf pd_9 rfl) rfl (omw rfl rfl) (hb hby d38_17) (fun _ _ => ⟨rfl, e2, (by decide : 0 + 2 ≤ _), (by decide : 0 + 15 ≤ _)⟩)
  dsimp only [Pt.U, Pt.locs, Pt.cells, Pt.slots] at X4 l4 y4 z4 st4 hQ4
  subst l4 y4 z4
  obtain ⟨h4, e4⟩ : ∃ z, T4.heap = z := ⟨_, rfl⟩
  rw [e4] at hQ4
  obtain ⟨rb4, rk4, rN4, rfl, N4q, K4q, sz_rb4, Vr4, hN4⟩ := hQ4
  have N4 := Fr.app N0 N4q
  have lt4_ob := Vb.lt
  have ne_ob_rb4 : ob ≠ rb4 := Nat.ne_of_lt (Nat.lt_of_lt_of_le lt4_ob sz_rb4)
  have gn_rb4 : n0 ≤ rb4 := Nat.le_trans Z0 sz_rb4
  have K4 : Keep h0 h4 [] := (Keep.refl h0 []).trans K4q all0
  have f5 := own_staK S_cs K4q all0
  have f6 := own_staK S_fo K4q all0
  have f7 := own_staK S_ad K4q all0
  have f8 := own_staK S_hi K4q all0
  have f9 := own_staK S_lo K4q all0
  refine step (T4.setTop (mkF m 20 #[vr ob, vi f, vi len, .unset, .unset] [(.ref rb4)])) (fun t k => st4 t k) ?_
  refine step (T4.setTop (mkF m 21 #[vr ob, vi f, vi len, vr rb4, .unset] [])) (fun t k => XS.astoreN X4.here hx rfl (hb hby d38_20) rfl rfl (l' := #[vr ob, vi f, vi len, vr rb4, .unset]) rfl k) ?_
  refine oal KK X4 d38_21 (.ref rb4) 22 rfl rfl rfl ?_
  refine oil KK X4 d38_22 len 23 rfl rfl ?_
  obtain ⟨_, _, ⟨T10, L10, k10, n10⟩, -, X10, ⟨Lc10, hQ10, l10, y10, z10⟩, st10⟩ := Jvm.LawKit.callS X4 hx (y := nM22) hown (mvT hZ (ow hw 177 rfl)) (mvT hZ (ow hw 75 rfl)) (mvT hZ (ow hw 69 rfl)) (mvT hZ (ow hw 76 rfl)) (by decide) (backOf (W := 0) (rm16_19 l Z a0 hw [] rb4 len rk4 rN4 (own_u (own_cut xs f (f + len))) h4 n0 (Nat.le_trans Z0 K4.1) Vr4 gn_rb4) hZ (ow hw 76 rfl) (ow hw 69 rfl) (by decide) (by decide)) (g := (mkF m 23 #[vr ob, vi f, vi len, vr rb4, .unset] [(.int len), (.ref rb4)])) rfl (by rw [hml]; rfl) (argsL := [(.ref rb4), (.int len)]) (rest := []) (lenOf pd_15 rfl) rfl (omw rfl rfl) (hb hby d38_23) (fun _ _ => ⟨rfl, e4, (by decide : 2 + 0 ≤ _), (by decide : 15 + 0 ≤ _)⟩)
  dsimp only [Pt.U, Pt.locs, Pt.cells, Pt.slots] at X10 l10 y10 z10 st10 hQ10
  subst l10 y10 z10
  obtain ⟨rfl, N10q, e10q⟩ := hQ10
  have N10 := Fr.app N4 N10q
  refine step (T10.setTop (mkF m 26 #[vr ob, vi f, vi len, vr rb4, .unset] [(.int (nar .byte ((((len - rN4).toUInt32 >>> ((31 : Int32) &&& 31).toUInt32).toInt32).toInt8.toInt32)))])) (fun t k => st10 t k) ?_
  have hal := own_add hf0 hl0 (by omega)
  have hcl := own_cutLen (xs := xs) (f := f) (z := f + len) hf0 (by omega) (by omega)
  have hcod := own_codU (len := len) (ys := own_cut xs f (f + len)) (by omega) (by omega) (by omega) hN4
  rw [hcod]
  refine oiS KK X10 d38_26 #[vr ob, vi f, vi len, vr rb4, vi 1] 28 rfl rfl ?_
  obtain ⟨T11, h11, X11, e11, E11, A11, D11, -, st11⟩ := newO X10 hx hZ hown (ow hw 178 rfl) (ow hw 10 rfl) (ow hw 11 rfl) e10q (g := (mkF m 28 #[vr ob, vi f, vi len, vr rb4, vi 1] [])) rfl (hb hby d38_28) (by decide) (by decide)
  obtain ⟨b11, g11⟩ : ∃ z, z = h4.size := ⟨_, rfl⟩
  rw [← g11] at A11 D11 st11
  have f12 := (Vb.keep K4q nin0)
  have ne_ob_b11 : ob ≠ b11 := Nat.ne_of_lt (Nat.lt_of_lt_of_le f12.lt (Nat.le_of_eq g11.symm))
  have ne_rb4_b11 : rb4 ≠ b11 := Nat.ne_of_lt (Nat.lt_of_lt_of_le Vr4.lt (Nat.le_of_eq g11.symm))
  have gn_b11 : n0 ≤ b11 := Nat.le_trans (Nat.le_trans Z0 K4.1) (Nat.le_of_eq g11.symm)
  have sz_b11 : h0.size ≤ b11 := Nat.le_trans K4.1 (Nat.le_of_eq g11.symm)
  have K11 : Keep h0 h11 [] := K4.ext E11
  have F_value_b11 : Fld Z h11 b11 "java/lang/String" "value" "[B" .null := D11 (Or.inr (ow hw 24 rfl)) (ty := (.array .byte)) (by decide)
  have F_coder_b11 : Fld Z h11 b11 "java/lang/String" "coder" "B" (.int 0) := D11 (Or.inr (ow hw 25 rfl)) (ty := .byte) (by decide)
  refine step (T11.setTop (mkF m 31 #[vr ob, vi f, vi len, vr rb4, vi 1] [(.ref b11)])) (fun t k => st11 t k) ?_
  refine odu KK X11 d38_31 32 rfl rfl ?_
  refine oal KK X11 d38_32 (.ref rb4) 33 rfl rfl rfl ?_
  refine oiL KK X11 d38_33 (1 : Int32) 35 rfl rfl ?_
  obtain ⟨_, _, ⟨T13, L13, k13, n13⟩, -, X13, ⟨Lc13, hQ13, l13, y13, z13⟩, st13⟩ := X11.specialBack hx (y := nM23) rfl hown (mvT hZ (ow hw 179 rfl)) (mvT hZ (ow hw 125 rfl)) (mvT hZ (ow hw 126 rfl)) (by decide) (backOf (W := 1) (rm29_20 l Z a0 hw [] b11 rb4 h11 n0 (Nat.le_trans Z0 K11.1) A11 F_coder_b11 F_value_b11 gn_b11 (Ne.symm ne_rb4_b11) gn_rb4) hZ (ow hw 126 rfl) (ow hw 11 rfl) (by decide) (by decide)) (g := (mkF m 35 #[vr ob, vi f, vi len, vr rb4, vi 1] [(.int 1), (.ref rb4), (.ref b11), (.ref b11)])) rfl (by rw [hml]; rfl) (Steps.refl _) (a := b11) (argsL := [(.ref rb4), (.int 1)]) (rest := [(.ref b11)]) (lenOf pd_16 rfl) rfl (omw rfl rfl) (hb hby d38_35) (fun _ _ => ⟨rfl, e11, (by decide : 3 + 0 ≤ _), (by decide : 19 + 0 ≤ _)⟩)
  dsimp only [Pt.U, Pt.locs, Pt.cells, Pt.slots] at X13 l13 y13 z13 st13 hQ13
  subst l13 y13 z13
  obtain ⟨h13, e13⟩ : ∃ z, T13.heap = z := ⟨_, rfl⟩
  rw [e13] at hQ13
  obtain ⟨rfl, N13q, K13q, q0_13, q1_13⟩ := hQ13
  have N13 := Fr.app N10 N13q
  have f14 := (f5.ext E11)
  have f15 := (f6.ext E11)
  have f16 := (f7.ext E11)
  have f17 := (f8.ext E11)
  have f18 := (f9.ext E11)
  have K13 : Keep h0 h13 [] := K11.trans K13q (allS (Or.inr sz_b11) all0)
  have f19 := own_staK f14 K13q (allS (own_exaP A11) all0)
  have f20 := own_staK f15 K13q (allS (own_exaP A11) all0)
  have f21 := own_staK f16 K13q (allS (own_exaP A11) all0)
  have f22 := own_staK f17 K13q (allS (own_exaP A11) all0)
  have f23 := own_staK f18 K13q (allS (own_exaP A11) all0)
  refine step (T13.setTop (mkF m 38 #[vr ob, vi f, vi len, vr rb4, vi 1] [(.ref b11)])) (fun t k => st13.trans k) ?_
  refine fin (v := some (.ref b11)) X13 (fun h => by cases h) ?_ (by decide) (by decide) (fun fs hr => X13.areturnOut hx rfl hret rfl (hb hby d38_38) hr)
  show Q38 Z ob kb xs n N f len cs fo h0 n0 (some (.ref b11)) T13.heap _
  rw [e13]
  have f24 := (A11.keep K13q)
  have f25 := ((Vr4.ext E11).keep K13q (ninS ne_rb4_b11 nin0))
  exact ⟨b11, rb4, rk4, (1 : Int32), rN4, (own_u (own_cut xs f (f + len))), rfl, N13, K13, f24, q0_13, q1_13, f25, own_osU h5 hch hf0 hl0 hfl hU hN4⟩
theorem d24_0 : decode jdk_43_method_47_code 0 = .ok (.iload_n 2, 1) := by decide +kernel
theorem d24_1 : decode jdk_43_method_47_code 1 = .ok (.ifCond .ne 6, 3) := by decide +kernel
theorem d24_4 : decode jdk_43_method_47_code 4 = .ok (.ldc 151, 2) := by decide +kernel
theorem d24_6 : decode jdk_43_method_47_code 6 = .ok (.areturn, 1) := by decide +kernel
theorem d24_7 : decode jdk_43_method_47_code 7 = .ok (.new 1, 3) := by decide +kernel
theorem d24_10 : decode jdk_43_method_47_code 10 = .ok (.dup, 1) := by decide +kernel
theorem d24_11 : decode jdk_43_method_47_code 11 = .ok (.aload_n 0, 1) := by decide +kernel
theorem d24_12 : decode jdk_43_method_47_code 12 = .ok (.iload_n 1, 1) := by decide +kernel
theorem d24_13 : decode jdk_43_method_47_code 13 = .ok (.iload_n 1, 1) := by decide +kernel
theorem d24_14 : decode jdk_43_method_47_code 14 = .ok (.iload_n 2, 1) := by decide +kernel
theorem d24_15 : decode jdk_43_method_47_code 15 = .ok (.iadd, 1) := by decide +kernel
theorem d24_16 : decode jdk_43_method_47_code 16 = .ok (.invokestatic 232, 3) := by decide +kernel
theorem d24_19 : decode jdk_43_method_47_code 19 = .ok (.iconst 0, 1) := by decide +kernel
theorem d24_20 : decode jdk_43_method_47_code 20 = .ok (.invokespecial 112, 3) := by decide +kernel
theorem d24_23 : decode jdk_43_method_47_code 23 = .ok (.areturn, 1) := by decide +kernel
theorem ef_29_21 (m : MethodId) (x0 : Addr) (x1 : Addr) : entryFrame m #[(.ref x0), (.ref x1), (.int 0)] 3 = mkF m 0 #[.val (.ref x0), .val (.ref x1), .val (.int 0)] [] := by first | (simp [entryFrame, mkF, argsToLocals, Value.category]; done) | rfl
def Q29_21 (Z : State) (o1 : Addr) (o2 : Addr) (h0 : Heap) (n0 : Nat) (v : Option Value) (h : Heap) (L : List Loc) : Prop := v = none ∧ Fr n0 L ∧ Keep h0 h [o1] ∧ Fld Z h o1 "java/lang/String" "coder" "B" (.int 0) ∧ Fld Z h o1 "java/lang/String" "value" "[B" (.ref o2)
set_option maxRecDepth 65536 in
set_option maxHeartbeats 40000000 in
theorem rm29_21 (l : Launch) (Z : State) (a0 : Array Value) (hw : ∀ d ∈ tables_1, d.before a0 Z = true) (ws : List Jvm.Cond) (o1 : Addr) (o2 : Addr) (h0 : Heap) (n0 : Nat) (Z0 : n0 ≤ h0.size) (Pm0 : Exa Z h0 o1 "java/lang/String") (Pm1 : Fld Z h0 o1 "java/lang/String" "coder" "B" (.int 0)) (Pm2 : Fld Z h0 o1 "java/lang/String" "value" "[B" .null) (gn_o1 : n0 ≤ o1) (ne_o1_o2 : o1 ≠ o2) (gn_o2 : n0 ≤ o2)  :
    OwnM l Z nM23 jdk_42_method_151_code 3 none ws ({ frames := 1, cells := 0, slots := 0, locals := 12 } : Room) #[(.ref o1), (.ref o2), (.int 0)] h0 (Q29_21 Z o1 o2 h0 n0) := by
  refine own_body (plainFor_of_name pn_0) ?_
  intro p e s m below meth c s₁ G hx hby hml hZ hown hnm hret X0 e0 step fin
  replace hown : s.vm.findClass "java/lang/String" = some m.cls := hown
  have N0 := Fr.nil n0
  have KK : OwnK p e below c _ G := ⟨step, hx, hby⟩
  refine step (s₁.setTop (mkF m 0 #[vr o1, vr o2, vi 0] [])) (fun t k => castTop (ef_29_21 m o1 o2) k) ?_
  refine oal KK X0 d29_0 (.ref o1) 1 rfl rfl rfl ?_
  obtain ⟨T1, X1, e1, st1⟩ := initO X0 hx hZ hown (ow hw 19 rfl) (ow hw 20 rfl) (ow hw 21 rfl) e0 (g := (mkF m 1 #[vr o1, vr o2, vi 0] [(.ref o1)])) rfl (by rw [hml]; rfl) rfl (hb hby d29_1) (by decide) (W := 0) (omw rfl rfl) (by decide)
  refine step (T1.setTop (mkF m 4 #[vr o1, vr o2, vi 0] [])) (fun t k => st1 t k) ?_
  refine oal KK X1 d29_4 (.ref o1) 5 rfl rfl rfl ?_
  refine oal KK X1 d29_5 (.ref o2) 6 rfl rfl rfl ?_
  obtain ⟨T2, h2, X2, e2, W2, st2⟩ := putF X1 hx hZ hown (host := "") (Or.inl (ow hw 28 rfl)) Via.refl e1 Pm2 Pm0 (Or.inr ⟨(ow hw 24 rfl), rfl, hnm⟩) (ow hw 10 rfl) (ty := (.array .byte)) (by decide) rfl rfl (g := (mkF m 6 #[vr o1, vr o2, vi 0] [(.ref o2), (.ref o1)])) rfl rfl (hb hby d29_6)
  have N2 := Fr.snoc X2 N0 gn_o1
  have K2 : Keep h0 h2 [o1] := (Keep.refl h0 [o1]).wr W2 (Or.inl (List.mem_of_getElem? (i := 0) rfl))
  have F2 := Pm2.same W2
  refine step (T2.setTop (mkF m 9 #[vr o1, vr o2, vi 0] [])) (fun t k => st2 t k) ?_
  refine oal KK X2 d29_9 (.ref o1) 10 rfl rfl rfl ?_
  refine oil KK X2 d29_10 (0 : Int32) 11 rfl rfl ?_
  have f3 := (Pm0.wr W2)
  have f4 := (Pm1.other W2 (Or.inr (slot_ne (Or.inr (ow hw 25 rfl)) (Or.inr (ow hw 24 rfl)) (by decide) (t := .byte) (t' := (.array .byte)) (by decide) (by decide))))
  obtain ⟨T5, h5, X5, e5, W5, st5⟩ := putFN X2 hx hZ hown (ow hw 29 rfl) Via.refl e2 f4 f3 (Or.inr ⟨(ow hw 25 rfl), rfl, hnm⟩) (ow hw 10 rfl) (ty := .byte) (v' := (.int 0)) (by decide) rfl (fits_nar_byte (0 : Int32)) (g := (mkF m 11 #[vr o1, vr o2, vi 0] [(.int 0), (.ref o1)])) rfl rfl (hb hby d29_11)
  have N5 := Fr.snoc X5 N2 gn_o1
  have K5 : Keep h0 h5 [o1] := K2.wr W5 (Or.inl (List.mem_of_getElem? (i := 0) rfl))
  have F5 := f4.same W5
  refine step (T5.setTop (mkF m 14 #[vr o1, vr o2, vi 0] [])) (fun t k => st5 t k) ?_
  have f6 := (F2.other W5 (Or.inr (slot_ne (Or.inr (ow hw 24 rfl)) (Or.inr (ow hw 25 rfl)) (by decide) (t := (.array .byte)) (t' := .byte) (by decide) (by decide))))
  refine fin (v := none) X5 (fun _ => rfl) ?_ (by decide) (by decide) (fun fs hr => X5.returnOut hx hret (hb hby d29_14) hr)
  show Q29_21 Z o1 o2 h0 n0 (none) T5.heap _
  rw [e5]
  exact ⟨rfl, N5, K5, F5, f6⟩
def Q24 (Z : State) (ob : Addr) (kb : ClassId) (xs : List Int32) (n : Int32) (f len : Int32) (cs : Int32) (fo : Value) (h0 : Heap) (n0 : Nat) (v : Option Value) (h : Heap) (L : List Loc) : Prop := ∃ (r rb : Addr) (rk : ClassId) (rco rN : Int32) (rbs : List Int32), v = some (.ref r) ∧ Fr n0 L ∧ Keep h0 h [] ∧ Exa Z h r "java/lang/String" ∧ Fld Z h r "java/lang/String" "coder" "B" (.int rco) ∧ Fld Z h r "java/lang/String" "value" "[B" (.ref rb) ∧ Arv Z h rb rk .byte rN (List.map Value.int rbs) (.int 0) ∧ OS (own_cut xs f (f + len)) len rco rN rbs
set_option maxRecDepth 65536 in
set_option maxHeartbeats 40000000 in
theorem rm24 (l : Launch) (Z : State) (a0 : Array Value) (hw : ∀ d ∈ tables_1, d.before a0 Z = true) (ws : List Jvm.Cond) (ob : Addr) (kb : ClassId) (xs : List Int32) (n : Int32) (f len : Int32) (cs : Int32) (fo : Value) (h0 : Heap) (n0 : Nat) (Z0 : n0 ≤ h0.size) (Vb : Arv Z h0 ob kb .byte n (List.map Value.int (List.map own_lo xs)) (.int 0)) (hn : n.toInt = xs.length) (h5 : xs.length ≤ 5) (hch : ∀ c ∈ xs, 0 ≤ c.toInt ∧ c.toInt < 65536) (hl : ∀ c ∈ xs, c.toInt ≤ 255) (hf0 : 0 ≤ f.toInt) (hl0 : 0 ≤ len.toInt) (hfl : f.toInt + len.toInt ≤ xs.length) (hne : ¬ (f = (0 : Int32) ∧ f.toInt + len.toInt = xs.length)) (S_cs : Sta Z h0 "java/lang/String" "COMPACT_STRINGS" "Z" (.int cs)) (c_cs : ¬ (cs = (0 : Int32))) (S_fo : Sta Z h0 "jdk/internal/util/Preconditions" "SIOOBE_FORMATTER" "Ljava/util/function/BiFunction;" fo) (r_fo : Value.isRef fo = true) (S_ad : Sta Z h0 "java/lang/StringUTF16" "$assertionsDisabled" "Z" (.int 1)) (S_hi : Sta Z h0 "java/lang/StringUTF16" "HI_BYTE_SHIFT" "I" (.int 0)) (S_lo : Sta Z h0 "java/lang/StringUTF16" "LO_BYTE_SHIFT" "I" (.int 8)) :
    OwnMH l Z nM25 jdk_43_method_47_code 3 (some (.object "java/lang/String")) ws ({ frames := 3, cells := 2, slots := 14, locals := 50 } : Room) #[(.ref ob), (.int f), (.int len)] h0 own_EL (Q24 Z ob kb xs n f len cs fo h0 n0) := by
  refine own_bodyH (own_EWs hw) (plainFor_of_name pn_1) ?_
  intro p e s m below meth c s₁ G vm0 k0 hx hby hml hZ hown hnm hret hS hk hCH0 X0 e0 step fin
  replace hown : vm0.findClass "java/lang/StringLatin1" = some m.cls := hown
  have N0 := Fr.nil n0
  have KK : OwnK p e below c _ G := ⟨step, hx, hby⟩
  have C0 := CHr.refl hCH0
  refine step (s₁.setTop (mkF m 0 #[vr ob, vi f, vi len] [])) (fun t k => castTop (ef_25 m ob f len) k) ?_
  refine oil KK X0 d24_0 len 1 rfl rfl ?_
  by_cases hc1_1 : len = (0 : Int32)
  · -- pc 1: len = (0 : Int32) True
    refine step (s₁.setTop (mkF m 4 #[vr ob, vi f, vi len] [])) (fun t k => XS.ifNo X0.here hx rfl (hb hby d24_1) rfl ((if0 _ _).trans (teq hc1_1).2) k) ?_
    obtain ⟨a2, T2, h2, kk2, bb2, kb2, X2, e2, E2, hS2, hk2, hZ2, hown2, Ex2, Fc2, Fv2, Va2, -, -, hC2, -, hne2, st2⟩ := ldcCH X0 hx hZ hown (ow hw 180 rfl) (own_wS hw) e0 hS hk (own_EWs hw) (List.mem_of_getElem? (i := 1) rfl) C0.1 (vs := []) (z := (0 : Int32)) ⟨by decide, rfl⟩ (by decide) rfl (g := (mkF m 4 #[vr ob, vi f, vi len] [])) rfl (hb hby d24_4) (n := 0) (by decide) (by decide) (by decide) (by decide)
    replace hS := hS2
    replace hZ : Z.Warmed39 T2.vm := hZ2
    replace hown : T2.vm.findClass "java/lang/StringLatin1" = some m.cls := hown2
    have K2 : Keep h0 h2 [] := (Keep.refl h0 []).ext E2
    have C2 := C0.trans hC2
    refine step (T2.setTop (mkF m 6 #[vr ob, vi f, vi len] [(.ref a2)])) (fun t k => st2 t k) ?_
    refine fin (v := some (.ref a2)) X2 hS (Nat.le_trans hk2 (Nat.le_of_eq (congrArg Array.size e2.symm))) hZ (by rw [e2]; exact C2) (fun h => by cases h) ?_ (by decide) (by decide) (fun fs hr => X2.areturnOut hx rfl hret rfl (hb hby d24_6) hr)
    show Q24 Z ob kb xs n f len cs fo h0 n0 (some (.ref a2)) T2.heap _
    rw [e2]
    exact ⟨a2, bb2, kb2, (0 : Int32), (0 : Int32), [], rfl, N0, K2, Ex2, Fc2, Fv2, Va2, own_os0 hf0 hc1_1 (by omega)⟩
  · -- pc 1: len = (0 : Int32) False
    refine step (s₁.setTop (mkF m 7 #[vr ob, vi f, vi len] [])) (fun t k => XS.ifYes X0.here hx rfl (pc0 := 1) (pc' := 7) rfl (hb hby d24_1) rfl ((if0 _ _).trans (feq hc1_1).2) (by decide) (by decide) k) ?_
    obtain ⟨T3, h3, X3, e3, E3, A3, D3, -, st3⟩ := newO X0 hx hZ hown (ow hw 106 rfl) (ow hw 10 rfl) (ow hw 11 rfl) e0 (g := (mkF m 7 #[vr ob, vi f, vi len] [])) rfl (hb hby d24_7) (by decide) (by decide)
    obtain ⟨b3, g3⟩ : ∃ z, z = h0.size := ⟨_, rfl⟩
    rw [← g3] at A3 D3 st3
    have ne_ob_b3 : ob ≠ b3 := Nat.ne_of_lt (Nat.lt_of_lt_of_le Vb.lt (Nat.le_of_eq g3.symm))
    have gn_b3 : n0 ≤ b3 := Nat.le_trans Z0 (Nat.le_of_eq g3.symm)
    have sz_b3 : h0.size ≤ b3 := Nat.le_of_eq g3.symm
    have Sf3_b3 : Safe Z own_EL vm0 h0 b3 := Safe.new (Nat.le_of_eq g3.symm)
    have K3 : Keep h0 h3 [] := (Keep.refl h0 []).ext E3
    have F_value_b3 : Fld Z h3 b3 "java/lang/String" "value" "[B" .null := D3 (Or.inr (ow hw 24 rfl)) (ty := (.array .byte)) (by decide)
    have F_coder_b3 : Fld Z h3 b3 "java/lang/String" "coder" "B" (.int 0) := D3 (Or.inr (ow hw 25 rfl)) (ty := .byte) (by decide)
    refine step (T3.setTop (mkF m 10 #[vr ob, vi f, vi len] [(.ref b3)])) (fun t k => st3 t k) ?_
    refine odu KK X3 d24_10 11 rfl rfl ?_
    refine oal KK X3 d24_11 (.ref ob) 12 rfl rfl rfl ?_
    refine oil KK X3 d24_12 f 13 rfl rfl ?_
    refine oil KK X3 d24_13 f 14 rfl rfl ?_
    refine oil KK X3 d24_14 len 15 rfl rfl ?_
    refine step (T3.setTop (mkF m 16 #[vr ob, vi f, vi len] [(.int (f + len)), (.int f), (.ref ob), (.ref b3), (.ref b3)])) (fun t k => XS.iadd X3.here hx rfl (hb hby d24_15) rfl k) ?_
    have f4 := (Vb.ext E3)
    have f5 := (S_cs.ext E3)
    have f6 := (S_fo.ext E3)
    have f7 := (S_ad.ext E3)
    have f8 := (S_hi.ext E3)
    have f9 := (S_lo.ext E3)
    have C11 := C0.trans (CHr.ext E3 C0.1)
    have Sf11_b3 := Safe.ext E3 C0.1 Sf3_b3
    obtain ⟨_, _, ⟨T10, L10, k10, n10⟩, -, X10, ⟨Lc10, hQ10, l10, y10, z10⟩, st10⟩ := Jvm.LawKit.callS X3 hx (y := nM15) hown (mvT hZ (ow hw 107 rfl)) (mvT hZ (ow hw 108 rfl)) (mvT hZ (ow hw 109 rfl)) (mvT hZ (ow hw 110 rfl)) (by decide) (backOf (W := 2) (rm25 l Z a0 hw [] ob kb n (List.map own_lo xs) f (f + len) cs fo h3 n0 (Nat.le_trans Z0 K3.1) f4 (by rw [List.length_map]; exact hn) (by omega) hf0 (by have := own_add hf0 hl0 (by omega); omega) (by have := own_add hf0 hl0 (by omega); omega) (fun q => hne ⟨q.1, by have := own_add hf0 hl0 (by omega); rw [q.2] at this; omega⟩) f5 c_cs f6 r_fo f7 f8 f9) hZ (ow hw 110 rfl) (ow hw 109 rfl) (by decide) (by decide)) (g := (mkF m 16 #[vr ob, vi f, vi len] [(.int (f + len)), (.int f), (.ref ob), (.ref b3), (.ref b3)])) rfl (by rw [hml]; rfl) (argsL := [(.ref ob), (.int f), (.int (f + len))]) (rest := [(.ref b3), (.ref b3)]) (lenOf pd_9 rfl) rfl (omw rfl rfl) (hb hby d24_16) (fun _ _ => ⟨rfl, e3, (by decide : 1 + 1 ≤ _), (by decide : 4 + 10 ≤ _)⟩)
    dsimp only [Pt.U, Pt.locs, Pt.cells, Pt.slots] at X10 l10 y10 z10 st10 hQ10
    subst l10 y10 z10
    obtain ⟨h10, e10⟩ : ∃ z, T10.heap = z := ⟨_, rfl⟩
    rw [e10] at hQ10
    obtain ⟨rb10, rk10, rfl, N10q, K10q, sz_rb10, Vr10⟩ := hQ10
    have N10 := Fr.app N0 N10q
    have lt10_ob := f4.lt
    have lt10_b3 := A3.lt
    have Sf10_rb10 : Safe Z own_EL vm0 h3 rb10 := Safe.new sz_rb10
    have ne_ob_rb10 : ob ≠ rb10 := Nat.ne_of_lt (Nat.lt_of_lt_of_le lt10_ob sz_rb10)
    have ne_b3_rb10 : b3 ≠ rb10 := Nat.ne_of_lt (Nat.lt_of_lt_of_le lt10_b3 sz_rb10)
    have gn_rb10 : n0 ≤ rb10 := Nat.le_trans (Nat.le_trans Z0 K3.1) sz_rb10
    replace sz_rb10 := Nat.le_trans K3.1 sz_rb10
    have K10 : Keep h0 h10 [] := K3.trans K10q all0
    have f12 := own_staK f5 K10q all0
    have f13 := own_staK f6 K10q all0
    have f14 := own_staK f7 K10q all0
    have f15 := own_staK f8 K10q all0
    have f16 := own_staK f9 K10q all0
    refine step (T10.setTop (mkF m 19 #[vr ob, vi f, vi len] [(.ref rb10), (.ref b3), (.ref b3)])) (fun t k => st10 t k) ?_
    refine oic KK X10 d24_19 0 20 rfl rfl ?_
    have f17 := (A3.keep K10q)
    have f18 := (F_coder_b3.keep K10q nin0)
    have f19 := (F_value_b3.keep K10q nin0)
    have C21 := C11.trans (CHr.keep K10q all0 C11.1)
    have Sf21_b3 := Safe.keep K10q all0 C11.1 Sf11_b3
    have Sf21_rb10 := Safe.keep K10q all0 C11.1 Sf10_rb10
    obtain ⟨_, _, ⟨T20, L20, k20, n20⟩, -, X20, ⟨Lc20, hQ20, l20, y20, z20⟩, st20⟩ := X10.specialBack hx (y := nM23) rfl hown (mvT hZ (ow hw 124 rfl)) (mvT hZ (ow hw 125 rfl)) (mvT hZ (ow hw 126 rfl)) (by decide) (backOf (W := 1) (rm29_21 l Z a0 hw [] b3 rb10 h10 n0 (Nat.le_trans Z0 K10.1) f17 f18 f19 gn_b3 ne_b3_rb10 gn_rb10) hZ (ow hw 126 rfl) (ow hw 11 rfl) (by decide) (by decide)) (g := (mkF m 20 #[vr ob, vi f, vi len] [(.int 0), (.ref rb10), (.ref b3), (.ref b3)])) rfl (by rw [hml]; rfl) (Steps.refl _) (a := b3) (argsL := [(.ref rb10), (.int 0)]) (rest := [(.ref b3)]) (lenOf pd_16 rfl) rfl (omw rfl rfl) (hb hby d24_20) (fun _ _ => ⟨rfl, e10, (by decide : 2 + 0 ≤ _), (by decide : 14 + 0 ≤ _)⟩)
    dsimp only [Pt.U, Pt.locs, Pt.cells, Pt.slots] at X20 l20 y20 z20 st20 hQ20
    subst l20 y20 z20
    obtain ⟨h20, e20⟩ : ∃ z, T20.heap = z := ⟨_, rfl⟩
    rw [e20] at hQ20
    obtain ⟨rfl, N20q, K20q, q0_20, q1_20⟩ := hQ20
    have N20 := Fr.app N10 N20q
    have K20 : Keep h0 h20 [] := K10.trans K20q (allS (Or.inr sz_b3) all0)
    have f22 := own_staK f12 K20q (allS (own_exaP f17) all0)
    have f23 := own_staK f13 K20q (allS (own_exaP f17) all0)
    have f24 := own_staK f14 K20q (allS (own_exaP f17) all0)
    have f25 := own_staK f15 K20q (allS (own_exaP f17) all0)
    have f26 := own_staK f16 K20q (allS (own_exaP f17) all0)
    refine step (T20.setTop (mkF m 23 #[vr ob, vi f, vi len] [(.ref b3)])) (fun t k => st20.trans k) ?_
    have C27 := C21.trans (CHr.keep K20q (allS Sf21_b3 all0) C21.1)
    have Sf27_b3 := Safe.keep K20q (allS Sf21_b3 all0) C21.1 Sf21_b3
    have Sf27_rb10 := Safe.keep K20q (allS Sf21_b3 all0) C21.1 Sf21_rb10
    refine fin (v := some (.ref b3)) X20 hS (Nat.le_trans (Nat.le_trans (Nat.le_trans (Nat.le_trans hk E3.1) K10q.1) K20q.1) (Nat.le_of_eq (congrArg Array.size e20.symm))) hZ (by rw [e20]; exact C27) (fun h => by cases h) ?_ (by decide) (by decide) (fun fs hr => X20.areturnOut hx rfl hret rfl (hb hby d24_23) hr)
    show Q24 Z ob kb xs n f len cs fo h0 n0 (some (.ref b3)) T20.heap _
    rw [e20]
    have f28 := (f17.keep K20q)
    have f29 := (Vr10.keep K20q (ninS (Ne.symm ne_b3_rb10) nin0))
    exact ⟨b3, rb10, rk10, (0 : Int32), ((f + len) - f), (own_cut (List.map own_lo xs) f (f + len)), rfl, N20, K20, f28, q0_20, q1_20, f29, own_osL h5 hch hl hf0 hl0 hfl⟩
theorem d10_0 : decode jdk_42_method_92_code 0 = .ok (.aload_n 0, 1) := by decide +kernel
theorem d10_1 : decode jdk_42_method_92_code 1 = .ok (.invokevirtual 505, 3) := by decide +kernel
theorem d10_4 : decode jdk_42_method_92_code 4 = .ok (.istore_n 3, 1) := by decide +kernel
theorem d10_5 : decode jdk_42_method_92_code 5 = .ok (.iload_n 1, 1) := by decide +kernel
theorem d10_6 : decode jdk_42_method_92_code 6 = .ok (.iload_n 2, 1) := by decide +kernel
theorem d10_7 : decode jdk_42_method_92_code 7 = .ok (.iload_n 3, 1) := by decide +kernel
theorem d10_8 : decode jdk_42_method_92_code 8 = .ok (.invokestatic 521, 3) := by decide +kernel
theorem d10_11 : decode jdk_42_method_92_code 11 = .ok (.iload_n 1, 1) := by decide +kernel
theorem d10_12 : decode jdk_42_method_92_code 12 = .ok (.ifCond .ne 10, 3) := by decide +kernel
theorem d10_15 : decode jdk_42_method_92_code 15 = .ok (.iload_n 2, 1) := by decide +kernel
theorem d10_16 : decode jdk_42_method_92_code 16 = .ok (.iload_n 3, 1) := by decide +kernel
theorem d10_17 : decode jdk_42_method_92_code 17 = .ok (.if_icmp .ne 5, 3) := by decide +kernel
theorem d10_20 : decode jdk_42_method_92_code 20 = .ok (.aload_n 0, 1) := by decide +kernel
theorem d10_21 : decode jdk_42_method_92_code 21 = .ok (.areturn, 1) := by decide +kernel
theorem d10_22 : decode jdk_42_method_92_code 22 = .ok (.iload_n 2, 1) := by decide +kernel
theorem d10_23 : decode jdk_42_method_92_code 23 = .ok (.iload_n 1, 1) := by decide +kernel
theorem d10_24 : decode jdk_42_method_92_code 24 = .ok (.isub, 1) := by decide +kernel
theorem d10_25 : decode jdk_42_method_92_code 25 = .ok (.istore 4, 2) := by decide +kernel
theorem d10_27 : decode jdk_42_method_92_code 27 = .ok (.aload_n 0, 1) := by decide +kernel
theorem d10_28 : decode jdk_42_method_92_code 28 = .ok (.invokevirtual 492, 3) := by decide +kernel
theorem d10_31 : decode jdk_42_method_92_code 31 = .ok (.ifCond .eq 16, 3) := by decide +kernel
theorem d10_34 : decode jdk_42_method_92_code 34 = .ok (.aload_n 0, 1) := by decide +kernel
theorem d10_35 : decode jdk_42_method_92_code 35 = .ok (.getfield 9, 3) := by decide +kernel
theorem d10_38 : decode jdk_42_method_92_code 38 = .ok (.iload_n 1, 1) := by decide +kernel
theorem d10_39 : decode jdk_42_method_92_code 39 = .ok (.iload 4, 2) := by decide +kernel
theorem d10_41 : decode jdk_42_method_92_code 41 = .ok (.invokestatic 685, 3) := by decide +kernel
theorem d10_44 : decode jdk_42_method_92_code 44 = .ok (.goto 13, 3) := by decide +kernel
theorem d10_47 : decode jdk_42_method_92_code 47 = .ok (.aload_n 0, 1) := by decide +kernel
theorem d10_48 : decode jdk_42_method_92_code 48 = .ok (.getfield 9, 3) := by decide +kernel
theorem d10_51 : decode jdk_42_method_92_code 51 = .ok (.iload_n 1, 1) := by decide +kernel
theorem d10_52 : decode jdk_42_method_92_code 52 = .ok (.iload 4, 2) := by decide +kernel
theorem d10_54 : decode jdk_42_method_92_code 54 = .ok (.invokestatic 689, 3) := by decide +kernel
theorem d10_57 : decode jdk_42_method_92_code 57 = .ok (.areturn, 1) := by decide +kernel
theorem pd_18 : parseMethodDescriptor "()I" = some ⟨[], some .int⟩ := by decide +kernel
theorem pd_19 : parseMethodDescriptor "(III)V" = some ⟨[.int, .int, .int], none⟩ := by decide +kernel
theorem pd_20 : parseMethodDescriptor "([BII)Ljava/lang/String;" = some ⟨[(.array .byte), .int, .int], some (.object "java/lang/String")⟩ := by decide +kernel
theorem d11_0 : decode jdk_42_method_158_code 0 = .ok (.iload_n 0, 1) := by decide +kernel
theorem d11_1 : decode jdk_42_method_158_code 1 = .ok (.iload_n 1, 1) := by decide +kernel
theorem d11_2 : decode jdk_42_method_158_code 2 = .ok (.iload_n 2, 1) := by decide +kernel
theorem d11_3 : decode jdk_42_method_158_code 3 = .ok (.getstatic 1053, 3) := by decide +kernel
theorem d11_6 : decode jdk_42_method_158_code 6 = .ok (.invokestatic 1062, 3) := by decide +kernel
theorem d11_9 : decode jdk_42_method_158_code 9 = .ok (.pop, 1) := by decide +kernel
theorem d11_10 : decode jdk_42_method_158_code 10 = .ok (.return_, 1) := by decide +kernel
theorem d12_0 : decode jdk_41_method_12_code 0 = .ok (.iload_n 0, 1) := by decide +kernel
theorem d12_1 : decode jdk_41_method_12_code 1 = .ok (.ifCond .lt 13, 3) := by decide +kernel
theorem d12_4 : decode jdk_41_method_12_code 4 = .ok (.iload_n 0, 1) := by decide +kernel
theorem d12_5 : decode jdk_41_method_12_code 5 = .ok (.iload_n 1, 1) := by decide +kernel
theorem d12_6 : decode jdk_41_method_12_code 6 = .ok (.if_icmp .gt 8, 3) := by decide +kernel
theorem d12_9 : decode jdk_41_method_12_code 9 = .ok (.iload_n 1, 1) := by decide +kernel
theorem d12_10 : decode jdk_41_method_12_code 10 = .ok (.iload_n 2, 1) := by decide +kernel
theorem d12_11 : decode jdk_41_method_12_code 11 = .ok (.if_icmp .le 11, 3) := by decide +kernel
theorem d12_14 : decode jdk_41_method_12_code 14 = .ok (.aload_n 3, 1) := by decide +kernel
theorem d12_15 : decode jdk_41_method_12_code 15 = .ok (.iload_n 0, 1) := by decide +kernel
theorem d12_16 : decode jdk_41_method_12_code 16 = .ok (.iload_n 1, 1) := by decide +kernel
theorem d12_17 : decode jdk_41_method_12_code 17 = .ok (.iload_n 2, 1) := by decide +kernel
theorem d12_18 : decode jdk_41_method_12_code 18 = .ok (.invokestatic 99, 3) := by decide +kernel
theorem d12_21 : decode jdk_41_method_12_code 21 = .ok (.athrow, 1) := by decide +kernel
theorem d12_22 : decode jdk_41_method_12_code 22 = .ok (.iload_n 0, 1) := by decide +kernel
theorem d12_23 : decode jdk_41_method_12_code 23 = .ok (.ireturn, 1) := by decide +kernel
def Q12_23 (Z : State) (i1 : Int32) (i2 : Int32) (i3 : Int32) (u4 : Value) (h0 : Heap) (n0 : Nat) (v : Option Value) (h : Heap) (L : List Loc) : Prop := v = some (.int i1) ∧ Fr n0 L ∧ h = h0
set_option maxRecDepth 65536 in
set_option maxHeartbeats 40000000 in
theorem rm12_23 (l : Launch) (Z : State) (a0 : Array Value) (hw : ∀ d ∈ tables_1, d.before a0 Z = true) (ws : List Jvm.Cond) (i1 : Int32) (i2 : Int32) (i3 : Int32) (u4 : Value) (h0 : Heap) (n0 : Nat) (Z0 : n0 ≤ h0.size) (ru4 : Value.isRef u4 = true) (hy1 : ¬ (i1 < (0 : Int32))) (hy2 : ¬ (i2 < i1)) (hy3 : ¬ (i3 < i2))  :
    OwnM l Z nM26 jdk_41_method_12_code 4 (some .int) ws ({ frames := 0, cells := 0, slots := 0, locals := 0 } : Room) #[(.int i1), (.int i2), (.int i3), u4] h0 (Q12_23 Z i1 i2 i3 u4 h0 n0) := by
  refine own_body (plainFor_of_name pn_2) ?_
  intro p e s m below meth c s₁ G hx hby hml hZ hown hnm hret X0 e0 step fin
  replace hown : s.vm.findClass "jdk/internal/util/Preconditions" = some m.cls := hown
  have N0 := Fr.nil n0
  have KK : OwnK p e below c _ G := ⟨step, hx, hby⟩
  refine step (s₁.setTop (mkF m 0 #[vi i1, vi i2, vi i3, .val u4] [])) (fun t k => castTop (ef_43_17 m i1 i2 i3 u4 ru4) k) ?_
  refine oil KK X0 d12_0 i1 1 rfl rfl ?_
  have hc1_1 : ¬ (i1 < (0 : Int32)) := hy1
  refine step (s₁.setTop (mkF m 4 #[vi i1, vi i2, vi i3, .val u4] [])) (fun t k => XS.ifNo X0.here hx rfl (hb hby d12_1) rfl ((if0 _ _).trans (flt hc1_1).1) k) ?_
  refine oil KK X0 d12_4 i1 5 rfl rfl ?_
  refine oil KK X0 d12_5 i2 6 rfl rfl ?_
  have hc6_2 : ¬ (i2 < i1) := hy2
  refine oin KK X0 d12_6 9 rfl (flt hc6_2).2.2.1 ?_
  refine oil KK X0 d12_9 i2 10 rfl rfl ?_
  refine oil KK X0 d12_10 i3 11 rfl rfl ?_
  have hc11_3 : ¬ (i3 < i2) := hy3
  refine oiy KK X0 d12_11 22 (flt hc11_3).2.2.2 (by decide) rfl ?_
  refine oil KK X0 d12_22 i1 23 rfl rfl ?_
  refine fin (v := some (.int i1)) X0 (fun h => by cases h) ?_ (by decide) (by decide) (fun fs hr => retI X0 hx hret (hb hby d12_23) hr)
  show Q12_23 Z i1 i2 i3 u4 h0 n0 (some (.int i1)) s₁.heap _
  rw [e0]
  exact ⟨rfl, N0, rfl⟩
def Q11_22 (Z : State) (i1 : Int32) (i2 : Int32) (i3 : Int32) (u4 : Value) (h0 : Heap) (n0 : Nat) (v : Option Value) (h : Heap) (L : List Loc) : Prop := v = none ∧ Fr n0 L ∧ h = h0
set_option maxRecDepth 65536 in
set_option maxHeartbeats 40000000 in
theorem rm11_22 (l : Launch) (Z : State) (a0 : Array Value) (hw : ∀ d ∈ tables_1, d.before a0 Z = true) (ws : List Jvm.Cond) (i1 : Int32) (i2 : Int32) (i3 : Int32) (u4 : Value) (h0 : Heap) (n0 : Nat) (Z0 : n0 ≤ h0.size) (ru4 : Value.isRef u4 = true) (Sx1 : Sta Z h0 "jdk/internal/util/Preconditions" "SIOOBE_FORMATTER" "Ljava/util/function/BiFunction;" u4) (hy2 : ¬ (i1 < (0 : Int32))) (hy3 : ¬ (i2 < i1)) (hy4 : ¬ (i3 < i2))  :
    OwnM l Z nM27 jdk_42_method_158_code 3 none ws ({ frames := 1, cells := 0, slots := 0, locals := 15 } : Room) #[(.int i1), (.int i2), (.int i3)] h0 (Q11_22 Z i1 i2 i3 u4 h0 n0) := by
  refine own_body (plainFor_of_name pn_0) ?_
  intro p e s m below meth c s₁ G hx hby hml hZ hown hnm hret X0 e0 step fin
  replace hown : s.vm.findClass "java/lang/String" = some m.cls := hown
  have N0 := Fr.nil n0
  have KK : OwnK p e below c _ G := ⟨step, hx, hby⟩
  refine step (s₁.setTop (mkF m 0 #[vi i1, vi i2, vi i3] [])) (fun t k => castTop (ef_42_16 m i1 i2 i3) k) ?_
  refine oil KK X0 d11_0 i1 1 rfl rfl ?_
  refine oil KK X0 d11_1 i2 2 rfl rfl ?_
  refine oil KK X0 d11_2 i3 3 rfl rfl ?_
  obtain ⟨T1, X1, e1, st1⟩ := getS2 X0 hx hZ hown (host := "") (Or.inl (ow hw 58 rfl)) Via.refl e0 Sx1 (g := (mkF m 3 #[vi i1, vi i2, vi i3] [(.int i3), (.int i2), (.int i1)])) rfl (hb hby d11_3)
  refine step (T1.setTop (mkF m 6 #[vi i1, vi i2, vi i3] [u4, (.int i3), (.int i2), (.int i1)])) (fun t k => st1 t k) ?_
  obtain ⟨_, _, ⟨T2, L2, k2, n2⟩, -, X2, ⟨Lc2, hQ2, l2, y2, z2⟩, st2⟩ := Jvm.LawKit.callS X1 hx (y := nM26) hown (mvT hZ (ow hw 60 rfl)) (mvT hZ (ow hw 61 rfl)) (mvT hZ (ow hw 59 rfl)) (mvT hZ (ow hw 62 rfl)) (by decide) (backOf (W := 0) (rm12_23 l Z a0 hw [] i1 i2 i3 u4 h0 n0 Z0 ru4 hy2 hy3 hy4) hZ (ow hw 62 rfl) (ow hw 59 rfl) (by decide) (by decide)) (g := (mkF m 6 #[vi i1, vi i2, vi i3] [u4, (.int i3), (.int i2), (.int i1)])) rfl (by rw [hml]; rfl) (argsL := [(.int i1), (.int i2), (.int i3), u4]) (rest := []) (lenOf pd_12 rfl) rfl (omw rfl rfl) (hb hby d11_6) (fun _ _ => ⟨rfl, e1, (by decide : 0 + 0 ≤ _), (by decide : 0 + 0 ≤ _)⟩)
  dsimp only [Pt.U, Pt.locs, Pt.cells, Pt.slots] at X2 l2 y2 z2 st2 hQ2
  subst l2 y2 z2
  obtain ⟨rfl, N2q, e2q⟩ := hQ2
  have N2 := Fr.app N0 N2q
  refine step (T2.setTop (mkF m 9 #[vi i1, vi i2, vi i3] [(.int i1)])) (fun t k => st2 t k) ?_
  refine step (T2.setTop (mkF m 10 #[vi i1, vi i2, vi i3] [])) (fun t k => XS.pop X2.here hx rfl (hb hby d11_9) rfl rfl k) ?_
  refine fin (v := none) X2 (fun _ => rfl) ?_ (by decide) (by decide) (fun fs hr => X2.returnOut hx hret (hb hby d11_10) hr)
  show Q11_22 Z i1 i2 i3 u4 h0 n0 (none) T2.heap _
  rw [e2q]
  exact ⟨rfl, N2, rfl⟩
def Q10 (Z : State) (o1 ob : Addr) (kb : ClassId) (xs : List Int32) (n co N : Int32) (bs : List Int32) (bi ei : Int32) (cs : Int32) (fo : Value) (h0 : Heap) (n0 : Nat) (v : Option Value) (h : Heap) (L : List Loc) : Prop := ∃ (r rb : Addr) (rk : ClassId) (rco rN : Int32) (rbs : List Int32), v = some (.ref r) ∧ Fr n0 L ∧ Keep h0 h [] ∧ Exa Z h r "java/lang/String" ∧ Fld Z h r "java/lang/String" "coder" "B" (.int rco) ∧ Fld Z h r "java/lang/String" "value" "[B" (.ref rb) ∧ Arv Z h rb rk .byte rN (List.map Value.int rbs) (.int 0) ∧ OS (own_cut xs bi ei) (ei - bi) rco rN rbs
set_option maxRecDepth 65536 in
set_option maxHeartbeats 40000000 in
theorem rm10 (l : Launch) (Z : State) (a0 : Array Value) (hw : ∀ d ∈ tables_1, d.before a0 Z = true) (ws : List Jvm.Cond) (o1 ob : Addr) (kb : ClassId) (xs : List Int32) (n co N : Int32) (bs : List Int32) (bi ei : Int32) (cs : Int32) (fo : Value) (h0 : Heap) (n0 : Nat) (Z0 : n0 ≤ h0.size) (Ea : Exa Z h0 o1 "java/lang/String") (Fc : Fld Z h0 o1 "java/lang/String" "coder" "B" (.int co)) (Fv : Fld Z h0 o1 "java/lang/String" "value" "[B" (.ref ob)) (Vb : Arv Z h0 ob kb .byte N (List.map Value.int bs) (.int 0)) (hOS : OS xs n co N bs) (hbi : 0 ≤ bi.toInt) (hbe : bi.toInt ≤ ei.toInt) (hen : ei.toInt ≤ n.toInt) (hUU : co = (1 : Int32) → ∃ j : Nat, bi.toInt ≤ j ∧ j < ei.toInt ∧ 255 < (xs.getD j (0 : Int32)).toInt) (S_cs : Sta Z h0 "java/lang/String" "COMPACT_STRINGS" "Z" (.int cs)) (c_cs : ¬ (cs = (0 : Int32))) (S_fo : Sta Z h0 "jdk/internal/util/Preconditions" "SIOOBE_FORMATTER" "Ljava/util/function/BiFunction;" fo) (r_fo : Value.isRef fo = true) (S_ad : Sta Z h0 "java/lang/StringUTF16" "$assertionsDisabled" "Z" (.int 1)) (S_hi : Sta Z h0 "java/lang/StringUTF16" "HI_BYTE_SHIFT" "I" (.int 0)) (S_lo : Sta Z h0 "java/lang/StringUTF16" "LO_BYTE_SHIFT" "I" (.int 8)) :
    OwnMH l Z nM28 jdk_42_method_92_code 5 (some (.object "java/lang/String")) ws ({ frames := 6, cells := 3, slots := 19, locals := 94 } : Room) #[(.ref o1), (.int bi), (.int ei)] h0 own_EL (Q10 Z o1 ob kb xs n co N bs bi ei cs fo h0 n0) := by
  refine own_bodyH (own_EWs hw) (plainFor_of_name pn_0) ?_
  intro p e s m below meth c s₁ G vm0 k0 hx hby hml hZ hown hnm hret hS hk hCH0 X0 e0 step fin
  replace hown : vm0.findClass "java/lang/String" = some m.cls := hown
  have N0 := Fr.nil n0
  have KK : OwnK p e below c _ G := ⟨step, hx, hby⟩
  have C0 := CHr.refl hCH0
  refine step (s₁.setTop (mkF m 0 #[vr o1, vi bi, vi ei, .unset, .unset] [])) (fun t k => castTop (ef_26 m o1 bi ei) k) ?_
  have hOS0 := hOS
  obtain ⟨hn, h5, hch, ⟨rfl, rfl, hl, rfl⟩ | ⟨rfl, hN, hu, rfl⟩⟩ := hOS
  ·
    have hb0 : ¬ (bi < (0 : Int32)) := own_nneg' hbi
    have hb1 : ¬ (ei < bi) := by rw [Int32.lt_iff_toInt_lt]; omega
    have hb2 : ¬ (n < ei) := by rw [Int32.lt_iff_toInt_lt]; omega
    have hes := own_sub hbi hbe (by omega)
    have hea := own_bes hbi hbe (by omega)
    refine oal KK X0 d10_0 (.ref o1) 1 rfl rfl rfl ?_
    obtain ⟨cq1, kq1, q1a, q1b, q1c⟩ := isOf (s := s.setVm vm0) hZ e0 Ea
    obtain ⟨_, _, ⟨T1, L1, k1, n1⟩, -, X1, ⟨Lc1, hQ1, l1, y1, z1⟩, st1⟩ := X0.virtualBack hx (y := nM10) (z := nM10) hown (mvT hZ (ow hw 54 rfl)) (mvT hZ (ow hw 39 rfl)) (notFace_of_selects (args := #[]) (mvT hZ (ow hw 41 rfl))) (mvT hZ (ow hw 41 rfl)) (mvT hZ (ow hw 40 rfl)) (by decide) (backOf (W := 0) (rm8 l Z a0 hw [] o1 ob kb xs n (0 : Int32) n (List.map own_lo xs) cs fo h0 n0 Z0 Ea Fc Fv Vb hOS0 S_cs c_cs S_fo r_fo S_ad S_hi S_lo) hZ (ow hw 42 rfl) (ow hw 11 rfl) (by decide) (by decide)) q1a q1c (g := (mkF m 1 #[vr o1, vi bi, vi ei, .unset, .unset] [(.ref o1)])) rfl (by rw [hml]; rfl) (Steps.refl _) (argsL := []) (rest := []) (lenOf pd_18 rfl) rfl (omw rfl rfl) (hb hby d10_1) (fun _ _ => ⟨rfl, e0, (by decide : 0 + 0 ≤ _), (by decide : 0 + 0 ≤ _)⟩)
    dsimp only [Pt.U, Pt.locs, Pt.cells, Pt.slots] at X1 l1 y1 z1 st1 hQ1
    subst l1 y1 z1
    obtain ⟨rfl, N1q, e1q⟩ := hQ1
    have N1 := Fr.app N0 N1q
    refine step (T1.setTop (mkF m 4 #[vr o1, vi bi, vi ei, .unset, .unset] [(.int n)])) (fun t k => st1.trans k) ?_
    refine ois KK X1 d10_4 #[vr o1, vi bi, vi ei, vi n, .unset] 5 rfl rfl ?_
    refine oil KK X1 d10_5 bi 6 rfl rfl ?_
    refine oil KK X1 d10_6 ei 7 rfl rfl ?_
    refine oil KK X1 d10_7 n 8 rfl rfl ?_
    obtain ⟨_, _, ⟨T2, L2, k2, n2⟩, -, X2, ⟨Lc2, hQ2, l2, y2, z2⟩, st2⟩ := Jvm.LawKit.callS X1 hx (y := nM27) hown (mvT hZ (ow hw 55 rfl)) (mvT hZ (ow hw 56 rfl)) (mvT hZ (ow hw 11 rfl)) (mvT hZ (ow hw 57 rfl)) (by decide) (backOf (W := 0) (rm11_22 l Z a0 hw [] bi ei n fo h0 n0 Z0 r_fo S_fo hb0 hb1 hb2) hZ (ow hw 57 rfl) (ow hw 11 rfl) (by decide) (by decide)) (g := (mkF m 8 #[vr o1, vi bi, vi ei, vi n, .unset] [(.int n), (.int ei), (.int bi)])) rfl (by rw [hml]; rfl) (argsL := [(.int bi), (.int ei), (.int n)]) (rest := []) (lenOf pd_19 rfl) rfl (omw rfl rfl) (hb hby d10_8) (fun _ _ => ⟨rfl, e1q, (by decide : 0 + 0 ≤ _), (by decide : 0 + 0 ≤ _)⟩)
    dsimp only [Pt.U, Pt.locs, Pt.cells, Pt.slots] at X2 l2 y2 z2 st2 hQ2
    subst l2 y2 z2
    obtain ⟨rfl, N2q, e2q⟩ := hQ2
    have N2 := Fr.app N1 N2q
    refine step (T2.setTop (mkF m 11 #[vr o1, vi bi, vi ei, vi n, .unset] [])) (fun t k => st2 t k) ?_
    refine oil KK X2 d10_11 bi 12 rfl rfl ?_
    by_cases hc12_3 : bi = (0 : Int32)
    · -- pc 12: bi = (0 : Int32) True
      refine step (T2.setTop (mkF m 15 #[vr o1, vi bi, vi ei, vi n, .unset] [])) (fun t k => XS.ifNo X2.here hx rfl (hb hby d10_12) rfl ((if0 _ _).trans (teq hc12_3).2) k) ?_
      refine oil KK X2 d10_15 ei 16 rfl rfl ?_
      refine oil KK X2 d10_16 n 17 rfl rfl ?_
      by_cases hc17_4 : ei = n
      · -- pc 17: ei = n True
        refine oin KK X2 d10_17 20 rfl (teq hc17_4).2 ?_
        refine oal KK X2 d10_20 (.ref o1) 21 rfl rfl rfl ?_
        refine fin (v := some (.ref o1)) X2 hS (Nat.le_trans hk (Nat.le_of_eq (congrArg Array.size e2q.symm))) hZ (by rw [e2q]; exact C0) (fun h => by cases h) ?_ (by decide) (by decide) (fun fs hr => X2.areturnOut hx rfl hret rfl (hb hby d10_21) hr)
        show Q10 Z o1 ob kb xs n _ _ _ bi ei cs fo h0 n0 (some (.ref o1)) T2.heap _
        rw [e2q]
        exact ⟨o1, ob, kb, (0 : Int32), n, (List.map own_lo xs), rfl, N2, (Keep.refl _ _), Ea, Fc, Fv, Vb, own_osAll hOS0 hc12_3 hc17_4⟩
      · -- pc 17: ei = n False
        refine oiy KK X2 d10_17 22 (feq hc17_4).2 (by decide) rfl ?_
        refine oil KK X2 d10_22 ei 23 rfl rfl ?_
        refine oil KK X2 d10_23 bi 24 rfl rfl ?_
        refine step (T2.setTop (mkF m 25 #[vr o1, vi bi, vi ei, vi n, .unset] [(.int (ei - bi))])) (fun t k => XS.isub X2.here hx rfl (hb hby d10_24) rfl k) ?_
        refine oiS KK X2 d10_25 #[vr o1, vi bi, vi ei, vi n, .val (.int (ei - bi))] 27 rfl rfl ?_
        refine oal KK X2 d10_27 (.ref o1) 28 rfl rfl rfl ?_
        obtain ⟨cq5, kq5, q5a, q5b, q5c⟩ := isOf (s := s.setVm vm0) hZ e2q Ea
        obtain ⟨_, _, ⟨T5, L5, k5, n5⟩, -, X5, ⟨Lc5, hQ5, l5, y5, z5⟩, st5⟩ := X2.virtualBack hx (y := nM0) (z := nM0) hown (mvT hZ (ow hw 85 rfl)) (mvT hZ (ow hw 86 rfl)) (notFace_of_selects (args := #[]) (mvT hZ (ow hw 88 rfl))) (mvT hZ (ow hw 88 rfl)) (mvT hZ (ow hw 87 rfl)) (by decide) (backOf (W := 0) (rm19_1 l Z a0 hw [] o1 cs h0 n0 Z0 S_cs Ea Fc c_cs) hZ (ow hw 89 rfl) (ow hw 11 rfl) (by decide) (by decide)) q5a q5c (g := (mkF m 28 #[vr o1, vi bi, vi ei, vi n, .val (.int (ei - bi))] [(.ref o1)])) rfl (by rw [hml]; rfl) (Steps.refl _) (argsL := []) (rest := []) (lenOf pd_0 rfl) rfl (omw rfl rfl) (hb hby d10_28) (fun _ _ => ⟨rfl, e2q, (by decide : 0 + 0 ≤ _), (by decide : 0 + 0 ≤ _)⟩)
        dsimp only [Pt.U, Pt.locs, Pt.cells, Pt.slots] at X5 l5 y5 z5 st5 hQ5
        subst l5 y5 z5
        obtain ⟨rfl, N5q, e5q⟩ := hQ5
        have N5 := Fr.app N2 N5q
        refine step (T5.setTop (mkF m 31 #[vr o1, vi bi, vi ei, vi n, .val (.int (ei - bi))] [(.int 1)])) (fun t k => st5.trans k) ?_
        refine step (T5.setTop (mkF m 34 #[vr o1, vi bi, vi ei, vi n, .val (.int (ei - bi))] [])) (fun t k => XS.ifNo X5.here hx rfl (hb hby d10_31) rfl ((if0 _ _).trans (feq (by decide : ¬ ((1 : Int32) = (0 : Int32)))).1) k) ?_
        refine oal KK X5 d10_34 (.ref o1) 35 rfl rfl rfl ?_
        obtain ⟨T6, X6, e6, st6⟩ := getF X5 hx hZ hown (host := "") (Or.inl (ow hw 28 rfl)) Via.refl e5q Fv (g := (mkF m 35 #[vr o1, vi bi, vi ei, vi n, .val (.int (ei - bi))] [(.ref o1)])) rfl rfl (hb hby d10_35)
        refine step (T6.setTop (mkF m 38 #[vr o1, vi bi, vi ei, vi n, .val (.int (ei - bi))] [(.ref ob)])) (fun t k => st6 t k) ?_
        refine oil KK X6 d10_38 bi 39 rfl rfl ?_
        refine oiL KK X6 d10_39 (ei - bi) 41 rfl rfl ?_
        obtain ⟨_, _, ⟨T7, L7, k7, n7⟩, -, X7', hS7', hg7, ⟨Lc7, hQ7, l7, y7, z7, hC7⟩, st7⟩ := callSS X6 hx (y := nM25) hown (mvT hZ (ow hw 103 rfl)) (mvT hZ (ow hw 104 rfl)) (mvT hZ (ow hw 92 rfl)) (mvT hZ (ow hw 105 rfl)) (by decide) (backOfSH (W := 0) (rm24 l Z a0 hw [] ob kb xs n bi (ei - bi) cs fo h0 n0 Z0 Vb hn h5 hch hl hbi (by omega) (by omega) (fun q => hc17_4 (Int32.toInt_inj.mp (by have := q.2; omega))) S_cs c_cs S_fo r_fo S_ad S_hi S_lo) hZ (ow hw 105 rfl) (ow hw 92 rfl) (by decide) (by decide) (own_EWs hw) C0.1) (g := (mkF m 41 #[vr o1, vi bi, vi ei, vi n, .val (.int (ei - bi))] [(.int (ei - bi)), (.int bi), (.ref ob)])) rfl (by rw [hml]; rfl) (argsL := [(.ref ob), (.int bi), (.int (ei - bi))]) (rest := []) (lenOf pd_20 rfl) rfl (omw rfl rfl) (hb hby d10_41) (fun _ _ => ⟨rfl, e6, (by decide : 0 + 2 ≤ _), (by decide : 0 + 14 ≤ _)⟩)
        dsimp only [Pt.U, Pt.locs, Pt.cells, Pt.slots] at X7' hS7' hg7 l7 y7 z7 st7 hQ7 hC7
        subst l7 y7 z7
        obtain ⟨X7, hS7, hZ7, hown7⟩ := rebS hS (Nat.le_trans hk (Nat.le_of_eq (congrArg Array.size e6.symm))) X7' hS7' hg7 hZ hown
        replace hS := hS7
        replace hZ : Z.Warmed39 T7.vm := hZ7
        replace hown : T7.vm.findClass "java/lang/String" = some m.cls := hown7
        obtain ⟨h7, e7⟩ : ∃ z, T7.heap = z := ⟨_, rfl⟩
        rw [e7] at hQ7
        obtain ⟨r7, rb7, rk7, rco7, rN7, rbs7, rfl, N7q, K7q, Er7, Fr7, Fw7, Vr7, os7⟩ := hQ7
        have N7 := Fr.app N5 N7q
        have K7 : Keep h0 h7 [] := (Keep.refl h0 []).trans K7q all0
        have f8 := own_staK S_cs K7q all0
        have f9 := own_staK S_fo K7q all0
        have f10 := own_staK S_ad K7q all0
        have f11 := own_staK S_hi K7q all0
        have f12 := own_staK S_lo K7q all0
        rw [e7] at hC7
        have C7 := C0.trans hC7
        have hk7 : T7.heap.size ≤ h7.size := Nat.le_of_eq (congrArg Array.size e7)
        refine step (T7.setTop (mkF m 44 #[vr o1, vi bi, vi ei, vi n, .val (.int (ei - bi))] [(.ref r7)])) (fun t k => st7.trans k) ?_
        refine ogo KK X7 d10_44 57 (by decide) rfl ?_
        refine fin (v := some (.ref r7)) X7 hS (Nat.le_trans hk7 (Nat.le_of_eq (congrArg Array.size e7.symm))) hZ (by rw [e7]; exact C7) (fun h => by cases h) ?_ (by decide) (by decide) (fun fs hr => X7.areturnOut hx rfl hret rfl (hb hby d10_57) hr)
        show Q10 Z o1 ob kb xs n _ _ _ bi ei cs fo h0 n0 (some (.ref r7)) T7.heap _
        rw [e7]
        exact ⟨r7, rb7, rk7, rco7, rN7, rbs7, rfl, N7, K7, Er7, Fr7, Fw7, Vr7, (by have q := os7; rw [hea] at q; exact q)⟩
    · -- pc 12: bi = (0 : Int32) False
      refine step (T2.setTop (mkF m 22 #[vr o1, vi bi, vi ei, vi n, .unset] [])) (fun t k => XS.ifYes X2.here hx rfl (pc0 := 12) (pc' := 22) rfl (hb hby d10_12) rfl ((if0 _ _).trans (feq hc12_3).2) (by decide) (by decide) k) ?_
      refine oil KK X2 d10_22 ei 23 rfl rfl ?_
      refine oil KK X2 d10_23 bi 24 rfl rfl ?_
      refine step (T2.setTop (mkF m 25 #[vr o1, vi bi, vi ei, vi n, .unset] [(.int (ei - bi))])) (fun t k => XS.isub X2.here hx rfl (hb hby d10_24) rfl k) ?_
      refine oiS KK X2 d10_25 #[vr o1, vi bi, vi ei, vi n, .val (.int (ei - bi))] 27 rfl rfl ?_
      refine oal KK X2 d10_27 (.ref o1) 28 rfl rfl rfl ?_
      obtain ⟨cq13, kq13, q13a, q13b, q13c⟩ := isOf (s := s.setVm vm0) hZ e2q Ea
      obtain ⟨_, _, ⟨T13, L13, k13, n13⟩, -, X13, ⟨Lc13, hQ13, l13, y13, z13⟩, st13⟩ := X2.virtualBack hx (y := nM0) (z := nM0) hown (mvT hZ (ow hw 85 rfl)) (mvT hZ (ow hw 86 rfl)) (notFace_of_selects (args := #[]) (mvT hZ (ow hw 88 rfl))) (mvT hZ (ow hw 88 rfl)) (mvT hZ (ow hw 87 rfl)) (by decide) (backOf (W := 0) (rm19_1 l Z a0 hw [] o1 cs h0 n0 Z0 S_cs Ea Fc c_cs) hZ (ow hw 89 rfl) (ow hw 11 rfl) (by decide) (by decide)) q13a q13c (g := (mkF m 28 #[vr o1, vi bi, vi ei, vi n, .val (.int (ei - bi))] [(.ref o1)])) rfl (by rw [hml]; rfl) (Steps.refl _) (argsL := []) (rest := []) (lenOf pd_0 rfl) rfl (omw rfl rfl) (hb hby d10_28) (fun _ _ => ⟨rfl, e2q, (by decide : 0 + 0 ≤ _), (by decide : 0 + 0 ≤ _)⟩)
      dsimp only [Pt.U, Pt.locs, Pt.cells, Pt.slots] at X13 l13 y13 z13 st13 hQ13
      subst l13 y13 z13
      obtain ⟨rfl, N13q, e13q⟩ := hQ13
      have N13 := Fr.app N2 N13q
      refine step (T13.setTop (mkF m 31 #[vr o1, vi bi, vi ei, vi n, .val (.int (ei - bi))] [(.int 1)])) (fun t k => st13.trans k) ?_
      refine step (T13.setTop (mkF m 34 #[vr o1, vi bi, vi ei, vi n, .val (.int (ei - bi))] [])) (fun t k => XS.ifNo X13.here hx rfl (hb hby d10_31) rfl ((if0 _ _).trans (feq (by decide : ¬ ((1 : Int32) = (0 : Int32)))).1) k) ?_
      refine oal KK X13 d10_34 (.ref o1) 35 rfl rfl rfl ?_
      obtain ⟨T14, X14, e14, st14⟩ := getF X13 hx hZ hown (host := "") (Or.inl (ow hw 28 rfl)) Via.refl e13q Fv (g := (mkF m 35 #[vr o1, vi bi, vi ei, vi n, .val (.int (ei - bi))] [(.ref o1)])) rfl rfl (hb hby d10_35)
      refine step (T14.setTop (mkF m 38 #[vr o1, vi bi, vi ei, vi n, .val (.int (ei - bi))] [(.ref ob)])) (fun t k => st14 t k) ?_
      refine oil KK X14 d10_38 bi 39 rfl rfl ?_
      refine oiL KK X14 d10_39 (ei - bi) 41 rfl rfl ?_
      obtain ⟨_, _, ⟨T15, L15, k15, n15⟩, -, X15', hS15', hg15, ⟨Lc15, hQ15, l15, y15, z15, hC15⟩, st15⟩ := callSS X14 hx (y := nM25) hown (mvT hZ (ow hw 103 rfl)) (mvT hZ (ow hw 104 rfl)) (mvT hZ (ow hw 92 rfl)) (mvT hZ (ow hw 105 rfl)) (by decide) (backOfSH (W := 0) (rm24 l Z a0 hw [] ob kb xs n bi (ei - bi) cs fo h0 n0 Z0 Vb hn h5 hch hl hbi (by omega) (by omega) (fun q => hc12_3 q.1) S_cs c_cs S_fo r_fo S_ad S_hi S_lo) hZ (ow hw 105 rfl) (ow hw 92 rfl) (by decide) (by decide) (own_EWs hw) C0.1) (g := (mkF m 41 #[vr o1, vi bi, vi ei, vi n, .val (.int (ei - bi))] [(.int (ei - bi)), (.int bi), (.ref ob)])) rfl (by rw [hml]; rfl) (argsL := [(.ref ob), (.int bi), (.int (ei - bi))]) (rest := []) (lenOf pd_20 rfl) rfl (omw rfl rfl) (hb hby d10_41) (fun _ _ => ⟨rfl, e14, (by decide : 0 + 2 ≤ _), (by decide : 0 + 14 ≤ _)⟩)
      dsimp only [Pt.U, Pt.locs, Pt.cells, Pt.slots] at X15' hS15' hg15 l15 y15 z15 st15 hQ15 hC15
      subst l15 y15 z15
      obtain ⟨X15, hS15, hZ15, hown15⟩ := rebS hS (Nat.le_trans hk (Nat.le_of_eq (congrArg Array.size e14.symm))) X15' hS15' hg15 hZ hown
      replace hS := hS15
      replace hZ : Z.Warmed39 T15.vm := hZ15
      replace hown : T15.vm.findClass "java/lang/String" = some m.cls := hown15
      obtain ⟨h15, e15⟩ : ∃ z, T15.heap = z := ⟨_, rfl⟩
      rw [e15] at hQ15
      obtain ⟨r15, rb15, rk15, rco15, rN15, rbs15, rfl, N15q, K15q, Er15, Fr15, Fw15, Vr15, os15⟩ := hQ15
      have N15 := Fr.app N13 N15q
      have K15 : Keep h0 h15 [] := (Keep.refl h0 []).trans K15q all0
      have f16 := own_staK S_cs K15q all0
      have f17 := own_staK S_fo K15q all0
      have f18 := own_staK S_ad K15q all0
      have f19 := own_staK S_hi K15q all0
      have f20 := own_staK S_lo K15q all0
      rw [e15] at hC15
      have C15 := C0.trans hC15
      have hk15 : T15.heap.size ≤ h15.size := Nat.le_of_eq (congrArg Array.size e15)
      refine step (T15.setTop (mkF m 44 #[vr o1, vi bi, vi ei, vi n, .val (.int (ei - bi))] [(.ref r15)])) (fun t k => st15.trans k) ?_
      refine ogo KK X15 d10_44 57 (by decide) rfl ?_
      refine fin (v := some (.ref r15)) X15 hS (Nat.le_trans hk15 (Nat.le_of_eq (congrArg Array.size e15.symm))) hZ (by rw [e15]; exact C15) (fun h => by cases h) ?_ (by decide) (by decide) (fun fs hr => X15.areturnOut hx rfl hret rfl (hb hby d10_57) hr)
      show Q10 Z o1 ob kb xs n _ _ _ bi ei cs fo h0 n0 (some (.ref r15)) T15.heap _
      rw [e15]
      exact ⟨r15, rb15, rk15, rco15, rN15, rbs15, rfl, N15, K15, Er15, Fr15, Fw15, Vr15, (by have q := os15; rw [hea] at q; exact q)⟩
  ·
    have hb0 : ¬ (bi < (0 : Int32)) := own_nneg' hbi
    have hb1 : ¬ (ei < bi) := by rw [Int32.lt_iff_toInt_lt]; omega
    have hb2 : ¬ (n < ei) := by rw [Int32.lt_iff_toInt_lt]; omega
    have hes := own_sub hbi hbe (by omega)
    have hea := own_bes hbi hbe (by omega)
    refine oal KK X0 d10_0 (.ref o1) 1 rfl rfl rfl ?_
    obtain ⟨cq21, kq21, q21a, q21b, q21c⟩ := isOf (s := s.setVm vm0) hZ e0 Ea
    obtain ⟨_, _, ⟨T21, L21, k21, n21⟩, -, X21, ⟨Lc21, hQ21, l21, y21, z21⟩, st21⟩ := X0.virtualBack hx (y := nM10) (z := nM10) hown (mvT hZ (ow hw 54 rfl)) (mvT hZ (ow hw 39 rfl)) (notFace_of_selects (args := #[]) (mvT hZ (ow hw 41 rfl))) (mvT hZ (ow hw 41 rfl)) (mvT hZ (ow hw 40 rfl)) (by decide) (backOf (W := 0) (rm8 l Z a0 hw [] o1 ob kb xs n (1 : Int32) N (own_u xs) cs fo h0 n0 Z0 Ea Fc Fv Vb hOS0 S_cs c_cs S_fo r_fo S_ad S_hi S_lo) hZ (ow hw 42 rfl) (ow hw 11 rfl) (by decide) (by decide)) q21a q21c (g := (mkF m 1 #[vr o1, vi bi, vi ei, .unset, .unset] [(.ref o1)])) rfl (by rw [hml]; rfl) (Steps.refl _) (argsL := []) (rest := []) (lenOf pd_18 rfl) rfl (omw rfl rfl) (hb hby d10_1) (fun _ _ => ⟨rfl, e0, (by decide : 0 + 0 ≤ _), (by decide : 0 + 0 ≤ _)⟩)
    dsimp only [Pt.U, Pt.locs, Pt.cells, Pt.slots] at X21 l21 y21 z21 st21 hQ21
    subst l21 y21 z21
    obtain ⟨rfl, N21q, e21q⟩ := hQ21
    have N21 := Fr.app N0 N21q
    refine step (T21.setTop (mkF m 4 #[vr o1, vi bi, vi ei, .unset, .unset] [(.int n)])) (fun t k => st21.trans k) ?_
    refine ois KK X21 d10_4 #[vr o1, vi bi, vi ei, vi n, .unset] 5 rfl rfl ?_
    refine oil KK X21 d10_5 bi 6 rfl rfl ?_
    refine oil KK X21 d10_6 ei 7 rfl rfl ?_
    refine oil KK X21 d10_7 n 8 rfl rfl ?_
    obtain ⟨_, _, ⟨T22, L22, k22, n22⟩, -, X22, ⟨Lc22, hQ22, l22, y22, z22⟩, st22⟩ := Jvm.LawKit.callS X21 hx (y := nM27) hown (mvT hZ (ow hw 55 rfl)) (mvT hZ (ow hw 56 rfl)) (mvT hZ (ow hw 11 rfl)) (mvT hZ (ow hw 57 rfl)) (by decide) (backOf (W := 0) (rm11_22 l Z a0 hw [] bi ei n fo h0 n0 Z0 r_fo S_fo hb0 hb1 hb2) hZ (ow hw 57 rfl) (ow hw 11 rfl) (by decide) (by decide)) (g := (mkF m 8 #[vr o1, vi bi, vi ei, vi n, .unset] [(.int n), (.int ei), (.int bi)])) rfl (by rw [hml]; rfl) (argsL := [(.int bi), (.int ei), (.int n)]) (rest := []) (lenOf pd_19 rfl) rfl (omw rfl rfl) (hb hby d10_8) (fun _ _ => ⟨rfl, e21q, (by decide : 0 + 0 ≤ _), (by decide : 0 + 0 ≤ _)⟩)
    dsimp only [Pt.U, Pt.locs, Pt.cells, Pt.slots] at X22 l22 y22 z22 st22 hQ22
    subst l22 y22 z22
    obtain ⟨rfl, N22q, e22q⟩ := hQ22
    have N22 := Fr.app N21 N22q
    refine step (T22.setTop (mkF m 11 #[vr o1, vi bi, vi ei, vi n, .unset] [])) (fun t k => st22 t k) ?_
    refine oil KK X22 d10_11 bi 12 rfl rfl ?_
    by_cases hc12_23 : bi = (0 : Int32)
    · -- pc 12: bi = (0 : Int32) True
      refine step (T22.setTop (mkF m 15 #[vr o1, vi bi, vi ei, vi n, .unset] [])) (fun t k => XS.ifNo X22.here hx rfl (hb hby d10_12) rfl ((if0 _ _).trans (teq hc12_23).2) k) ?_
      refine oil KK X22 d10_15 ei 16 rfl rfl ?_
      refine oil KK X22 d10_16 n 17 rfl rfl ?_
      by_cases hc17_24 : ei = n
      · -- pc 17: ei = n True
        refine oin KK X22 d10_17 20 rfl (teq hc17_24).2 ?_
        refine oal KK X22 d10_20 (.ref o1) 21 rfl rfl rfl ?_
        refine fin (v := some (.ref o1)) X22 hS (Nat.le_trans hk (Nat.le_of_eq (congrArg Array.size e22q.symm))) hZ (by rw [e22q]; exact C0) (fun h => by cases h) ?_ (by decide) (by decide) (fun fs hr => X22.areturnOut hx rfl hret rfl (hb hby d10_21) hr)
        show Q10 Z o1 ob kb xs n _ _ _ bi ei cs fo h0 n0 (some (.ref o1)) T22.heap _
        rw [e22q]
        exact ⟨o1, ob, kb, (1 : Int32), N, (own_u xs), rfl, N22, (Keep.refl _ _), Ea, Fc, Fv, Vb, own_osAll hOS0 hc12_23 hc17_24⟩
      · -- pc 17: ei = n False
        refine oiy KK X22 d10_17 22 (feq hc17_24).2 (by decide) rfl ?_
        refine oil KK X22 d10_22 ei 23 rfl rfl ?_
        refine oil KK X22 d10_23 bi 24 rfl rfl ?_
        refine step (T22.setTop (mkF m 25 #[vr o1, vi bi, vi ei, vi n, .unset] [(.int (ei - bi))])) (fun t k => XS.isub X22.here hx rfl (hb hby d10_24) rfl k) ?_
        refine oiS KK X22 d10_25 #[vr o1, vi bi, vi ei, vi n, .val (.int (ei - bi))] 27 rfl rfl ?_
        refine oal KK X22 d10_27 (.ref o1) 28 rfl rfl rfl ?_
        obtain ⟨cq25, kq25, q25a, q25b, q25c⟩ := isOf (s := s.setVm vm0) hZ e22q Ea
        obtain ⟨_, _, ⟨T25, L25, k25, n25⟩, -, X25, ⟨Lc25, hQ25, l25, y25, z25⟩, st25⟩ := X22.virtualBack hx (y := nM0) (z := nM0) hown (mvT hZ (ow hw 85 rfl)) (mvT hZ (ow hw 86 rfl)) (notFace_of_selects (args := #[]) (mvT hZ (ow hw 88 rfl))) (mvT hZ (ow hw 88 rfl)) (mvT hZ (ow hw 87 rfl)) (by decide) (backOf (W := 0) (rm19_5 l Z a0 hw [] o1 cs h0 n0 Z0 S_cs Ea Fc c_cs) hZ (ow hw 89 rfl) (ow hw 11 rfl) (by decide) (by decide)) q25a q25c (g := (mkF m 28 #[vr o1, vi bi, vi ei, vi n, .val (.int (ei - bi))] [(.ref o1)])) rfl (by rw [hml]; rfl) (Steps.refl _) (argsL := []) (rest := []) (lenOf pd_0 rfl) rfl (omw rfl rfl) (hb hby d10_28) (fun _ _ => ⟨rfl, e22q, (by decide : 0 + 0 ≤ _), (by decide : 0 + 0 ≤ _)⟩)
        dsimp only [Pt.U, Pt.locs, Pt.cells, Pt.slots] at X25 l25 y25 z25 st25 hQ25
        subst l25 y25 z25
        obtain ⟨rfl, N25q, e25q⟩ := hQ25
        have N25 := Fr.app N22 N25q
        refine step (T25.setTop (mkF m 31 #[vr o1, vi bi, vi ei, vi n, .val (.int (ei - bi))] [(.int 0)])) (fun t k => st25.trans k) ?_
        refine step (T25.setTop (mkF m 47 #[vr o1, vi bi, vi ei, vi n, .val (.int (ei - bi))] [])) (fun t k => XS.ifYes X25.here hx rfl (pc0 := 31) (pc' := 47) rfl (hb hby d10_31) rfl ((if0 _ _).trans (teq (by decide : (0 : Int32) = (0 : Int32))).1) (by decide) (by decide) k) ?_
        refine oal KK X25 d10_47 (.ref o1) 48 rfl rfl rfl ?_
        obtain ⟨T26, X26, e26, st26⟩ := getF X25 hx hZ hown (host := "") (Or.inl (ow hw 28 rfl)) Via.refl e25q Fv (g := (mkF m 48 #[vr o1, vi bi, vi ei, vi n, .val (.int (ei - bi))] [(.ref o1)])) rfl rfl (hb hby d10_48)
        refine step (T26.setTop (mkF m 51 #[vr o1, vi bi, vi ei, vi n, .val (.int (ei - bi))] [(.ref ob)])) (fun t k => st26 t k) ?_
        refine oil KK X26 d10_51 bi 52 rfl rfl ?_
        refine oiL KK X26 d10_52 (ei - bi) 54 rfl rfl ?_
        obtain ⟨jx, jx1, jx2, jx3⟩ := hUU rfl
        have hUj : ∃ j : Nat, (0 : Int32).toInt ≤ j ∧ j < (ei - bi).toInt ∧ 255 < (xs.getD (bi.toInt + j).toNat (0 : Int32)).toInt := ⟨jx - bi.toInt.toNat, by rw [show (0 : Int32).toInt = 0 by decide]; omega, by omega, by rw [show (bi.toInt + ((jx - bi.toInt.toNat : Nat) : Int)).toNat = jx by omega]; exact jx3⟩
        obtain ⟨_, _, ⟨T27, L27, k27, n27⟩, -, X27, ⟨Lc27, hQ27, l27, y27, z27⟩, st27⟩ := Jvm.LawKit.callS X26 hx (y := nM24) hown (mvT hZ (ow hw 157 rfl)) (mvT hZ (ow hw 158 rfl)) (mvT hZ (ow hw 69 rfl)) (mvT hZ (ow hw 159 rfl)) (by decide) (backOf (W := 0) (rm38 l Z a0 hw [] ob kb xs n N bi (ei - bi) cs fo h0 n0 Z0 Vb hn h5 hch hN hbi (by omega) (by omega) hUj (fun q => hc17_24 (Int32.toInt_inj.mp (by have := q.2; omega))) (by omega) S_cs c_cs S_fo r_fo S_ad S_hi S_lo) hZ (ow hw 159 rfl) (ow hw 69 rfl) (by decide) (by decide)) (g := (mkF m 54 #[vr o1, vi bi, vi ei, vi n, .val (.int (ei - bi))] [(.int (ei - bi)), (.int bi), (.ref ob)])) rfl (by rw [hml]; rfl) (argsL := [(.ref ob), (.int bi), (.int (ei - bi))]) (rest := []) (lenOf pd_20 rfl) rfl (omw rfl rfl) (hb hby d10_54) (fun _ _ => ⟨rfl, e26, (by decide : 0 + 3 ≤ _), (by decide : 0 + 19 ≤ _)⟩)
        dsimp only [Pt.U, Pt.locs, Pt.cells, Pt.slots] at X27 l27 y27 z27 st27 hQ27
        subst l27 y27 z27
        obtain ⟨h27, e27⟩ : ∃ z, T27.heap = z := ⟨_, rfl⟩
        rw [e27] at hQ27
        obtain ⟨r27, rb27, rk27, rco27, rN27, rbs27, rfl, N27q, K27q, Er27, Fr27, Fw27, Vr27, os27⟩ := hQ27
        have N27 := Fr.app N25 N27q
        have K27 : Keep h0 h27 [] := (Keep.refl h0 []).trans K27q all0
        have f28 := own_staK S_cs K27q all0
        have f29 := own_staK S_fo K27q all0
        have f30 := own_staK S_ad K27q all0
        have f31 := own_staK S_hi K27q all0
        have f32 := own_staK S_lo K27q all0
        refine step (T27.setTop (mkF m 57 #[vr o1, vi bi, vi ei, vi n, .val (.int (ei - bi))] [(.ref r27)])) (fun t k => st27 t k) ?_
        have C33 := C0.trans (CHr.keep K27q all0 C0.1)
        refine fin (v := some (.ref r27)) X27 hS (Nat.le_trans (Nat.le_trans hk K27q.1) (Nat.le_of_eq (congrArg Array.size e27.symm))) hZ (by rw [e27]; exact C33) (fun h => by cases h) ?_ (by decide) (by decide) (fun fs hr => X27.areturnOut hx rfl hret rfl (hb hby d10_57) hr)
        show Q10 Z o1 ob kb xs n _ _ _ bi ei cs fo h0 n0 (some (.ref r27)) T27.heap _
        rw [e27]
        exact ⟨r27, rb27, rk27, rco27, rN27, rbs27, rfl, N27, K27, Er27, Fr27, Fw27, Vr27, (by have q := os27; rw [hea] at q; exact q)⟩
    · -- pc 12: bi = (0 : Int32) False
      refine step (T22.setTop (mkF m 22 #[vr o1, vi bi, vi ei, vi n, .unset] [])) (fun t k => XS.ifYes X22.here hx rfl (pc0 := 12) (pc' := 22) rfl (hb hby d10_12) rfl ((if0 _ _).trans (feq hc12_23).2) (by decide) (by decide) k) ?_
      refine oil KK X22 d10_22 ei 23 rfl rfl ?_
      refine oil KK X22 d10_23 bi 24 rfl rfl ?_
      refine step (T22.setTop (mkF m 25 #[vr o1, vi bi, vi ei, vi n, .unset] [(.int (ei - bi))])) (fun t k => XS.isub X22.here hx rfl (hb hby d10_24) rfl k) ?_
      refine oiS KK X22 d10_25 #[vr o1, vi bi, vi ei, vi n, .val (.int (ei - bi))] 27 rfl rfl ?_
      refine oal KK X22 d10_27 (.ref o1) 28 rfl rfl rfl ?_
      obtain ⟨cq34, kq34, q34a, q34b, q34c⟩ := isOf (s := s.setVm vm0) hZ e22q Ea
      obtain ⟨_, _, ⟨T34, L34, k34, n34⟩, -, X34, ⟨Lc34, hQ34, l34, y34, z34⟩, st34⟩ := X22.virtualBack hx (y := nM0) (z := nM0) hown (mvT hZ (ow hw 85 rfl)) (mvT hZ (ow hw 86 rfl)) (notFace_of_selects (args := #[]) (mvT hZ (ow hw 88 rfl))) (mvT hZ (ow hw 88 rfl)) (mvT hZ (ow hw 87 rfl)) (by decide) (backOf (W := 0) (rm19_5 l Z a0 hw [] o1 cs h0 n0 Z0 S_cs Ea Fc c_cs) hZ (ow hw 89 rfl) (ow hw 11 rfl) (by decide) (by decide)) q34a q34c (g := (mkF m 28 #[vr o1, vi bi, vi ei, vi n, .val (.int (ei - bi))] [(.ref o1)])) rfl (by rw [hml]; rfl) (Steps.refl _) (argsL := []) (rest := []) (lenOf pd_0 rfl) rfl (omw rfl rfl) (hb hby d10_28) (fun _ _ => ⟨rfl, e22q, (by decide : 0 + 0 ≤ _), (by decide : 0 + 0 ≤ _)⟩)
      dsimp only [Pt.U, Pt.locs, Pt.cells, Pt.slots] at X34 l34 y34 z34 st34 hQ34
      subst l34 y34 z34
      obtain ⟨rfl, N34q, e34q⟩ := hQ34
      have N34 := Fr.app N22 N34q
      refine step (T34.setTop (mkF m 31 #[vr o1, vi bi, vi ei, vi n, .val (.int (ei - bi))] [(.int 0)])) (fun t k => st34.trans k) ?_
      refine step (T34.setTop (mkF m 47 #[vr o1, vi bi, vi ei, vi n, .val (.int (ei - bi))] [])) (fun t k => XS.ifYes X34.here hx rfl (pc0 := 31) (pc' := 47) rfl (hb hby d10_31) rfl ((if0 _ _).trans (teq (by decide : (0 : Int32) = (0 : Int32))).1) (by decide) (by decide) k) ?_
      refine oal KK X34 d10_47 (.ref o1) 48 rfl rfl rfl ?_
      obtain ⟨T35, X35, e35, st35⟩ := getF X34 hx hZ hown (host := "") (Or.inl (ow hw 28 rfl)) Via.refl e34q Fv (g := (mkF m 48 #[vr o1, vi bi, vi ei, vi n, .val (.int (ei - bi))] [(.ref o1)])) rfl rfl (hb hby d10_48)
      refine step (T35.setTop (mkF m 51 #[vr o1, vi bi, vi ei, vi n, .val (.int (ei - bi))] [(.ref ob)])) (fun t k => st35 t k) ?_
      refine oil KK X35 d10_51 bi 52 rfl rfl ?_
      refine oiL KK X35 d10_52 (ei - bi) 54 rfl rfl ?_
      obtain ⟨jx, jx1, jx2, jx3⟩ := hUU rfl
      have hUj : ∃ j : Nat, (0 : Int32).toInt ≤ j ∧ j < (ei - bi).toInt ∧ 255 < (xs.getD (bi.toInt + j).toNat (0 : Int32)).toInt := ⟨jx - bi.toInt.toNat, by rw [show (0 : Int32).toInt = 0 by decide]; omega, by omega, by rw [show (bi.toInt + ((jx - bi.toInt.toNat : Nat) : Int)).toNat = jx by omega]; exact jx3⟩
      obtain ⟨_, _, ⟨T36, L36, k36, n36⟩, -, X36, ⟨Lc36, hQ36, l36, y36, z36⟩, st36⟩ := Jvm.LawKit.callS X35 hx (y := nM24) hown (mvT hZ (ow hw 157 rfl)) (mvT hZ (ow hw 158 rfl)) (mvT hZ (ow hw 69 rfl)) (mvT hZ (ow hw 159 rfl)) (by decide) (backOf (W := 0) (rm38 l Z a0 hw [] ob kb xs n N bi (ei - bi) cs fo h0 n0 Z0 Vb hn h5 hch hN hbi (by omega) (by omega) hUj (fun q => hc12_23 q.1) (by omega) S_cs c_cs S_fo r_fo S_ad S_hi S_lo) hZ (ow hw 159 rfl) (ow hw 69 rfl) (by decide) (by decide)) (g := (mkF m 54 #[vr o1, vi bi, vi ei, vi n, .val (.int (ei - bi))] [(.int (ei - bi)), (.int bi), (.ref ob)])) rfl (by rw [hml]; rfl) (argsL := [(.ref ob), (.int bi), (.int (ei - bi))]) (rest := []) (lenOf pd_20 rfl) rfl (omw rfl rfl) (hb hby d10_54) (fun _ _ => ⟨rfl, e35, (by decide : 0 + 3 ≤ _), (by decide : 0 + 19 ≤ _)⟩)
      dsimp only [Pt.U, Pt.locs, Pt.cells, Pt.slots] at X36 l36 y36 z36 st36 hQ36
      subst l36 y36 z36
      obtain ⟨h36, e36⟩ : ∃ z, T36.heap = z := ⟨_, rfl⟩
      rw [e36] at hQ36
      obtain ⟨r36, rb36, rk36, rco36, rN36, rbs36, rfl, N36q, K36q, Er36, Fr36, Fw36, Vr36, os36⟩ := hQ36
      have N36 := Fr.app N34 N36q
      have K36 : Keep h0 h36 [] := (Keep.refl h0 []).trans K36q all0
      have f37 := own_staK S_cs K36q all0
      have f38 := own_staK S_fo K36q all0
      have f39 := own_staK S_ad K36q all0
      have f40 := own_staK S_hi K36q all0
      have f41 := own_staK S_lo K36q all0
      refine step (T36.setTop (mkF m 57 #[vr o1, vi bi, vi ei, vi n, .val (.int (ei - bi))] [(.ref r36)])) (fun t k => st36 t k) ?_
      have C42 := C0.trans (CHr.keep K36q all0 C0.1)
      refine fin (v := some (.ref r36)) X36 hS (Nat.le_trans (Nat.le_trans hk K36q.1) (Nat.le_of_eq (congrArg Array.size e36.symm))) hZ (by rw [e36]; exact C42) (fun h => by cases h) ?_ (by decide) (by decide) (fun fs hr => X36.areturnOut hx rfl hret rfl (hb hby d10_57) hr)
      show Q10 Z o1 ob kb xs n _ _ _ bi ei cs fo h0 n0 (some (.ref r36)) T36.heap _
      rw [e36]
      exact ⟨r36, rb36, rk36, rco36, rN36, rbs36, rfl, N36, K36, Er36, Fr36, Fw36, Vr36, (by have q := os36; rw [hea] at q; exact q)⟩
theorem d7_0 : decode prog_10_method_18_code 0 = .ok (.iconst 0, 1) := by decide +kernel
theorem d7_1 : decode prog_10_method_18_code 1 = .ok (.istore_n 1, 1) := by decide +kernel
theorem d7_2 : decode prog_10_method_18_code 2 = .ok (.aload_n 0, 1) := by decide +kernel
theorem d7_3 : decode prog_10_method_18_code 3 = .ok (.invokevirtual 133, 3) := by decide +kernel
theorem d7_6 : decode prog_10_method_18_code 6 = .ok (.istore_n 2, 1) := by decide +kernel
theorem d7_7 : decode prog_10_method_18_code 7 = .ok (.iload_n 1, 1) := by decide +kernel
theorem d7_8 : decode prog_10_method_18_code 8 = .ok (.iload_n 2, 1) := by decide +kernel
theorem d7_9 : decode prog_10_method_18_code 9 = .ok (.if_icmp .ge 20, 3) := by decide +kernel
theorem d7_12 : decode prog_10_method_18_code 12 = .ok (.aload_n 0, 1) := by decide +kernel
theorem d7_13 : decode prog_10_method_18_code 13 = .ok (.iload_n 1, 1) := by decide +kernel
theorem d7_14 : decode prog_10_method_18_code 14 = .ok (.invokevirtual 115, 3) := by decide +kernel
theorem d7_17 : decode prog_10_method_18_code 17 = .ok (.invokestatic 202, 3) := by decide +kernel
theorem d7_20 : decode prog_10_method_18_code 20 = .ok (.ifCond .eq 9, 3) := by decide +kernel
theorem d7_23 : decode prog_10_method_18_code 23 = .ok (.iinc 1 1, 3) := by decide +kernel
theorem d7_26 : decode prog_10_method_18_code 26 = .ok (.goto (-19), 3) := by decide +kernel
theorem d7_29 : decode prog_10_method_18_code 29 = .ok (.iload_n 2, 1) := by decide +kernel
theorem d7_30 : decode prog_10_method_18_code 30 = .ok (.iload_n 1, 1) := by decide +kernel
theorem d7_31 : decode prog_10_method_18_code 31 = .ok (.if_icmp .le 22, 3) := by decide +kernel
theorem d7_34 : decode prog_10_method_18_code 34 = .ok (.aload_n 0, 1) := by decide +kernel
theorem d7_35 : decode prog_10_method_18_code 35 = .ok (.iload_n 2, 1) := by decide +kernel
theorem d7_36 : decode prog_10_method_18_code 36 = .ok (.iconst 1, 1) := by decide +kernel
theorem d7_37 : decode prog_10_method_18_code 37 = .ok (.isub, 1) := by decide +kernel
theorem d7_38 : decode prog_10_method_18_code 38 = .ok (.invokevirtual 115, 3) := by decide +kernel
theorem d7_41 : decode prog_10_method_18_code 41 = .ok (.invokestatic 202, 3) := by decide +kernel
theorem d7_44 : decode prog_10_method_18_code 44 = .ok (.ifCond .eq 9, 3) := by decide +kernel
theorem d7_47 : decode prog_10_method_18_code 47 = .ok (.iinc 2 (-1), 3) := by decide +kernel
theorem d7_50 : decode prog_10_method_18_code 50 = .ok (.goto (-21), 3) := by decide +kernel
theorem d7_53 : decode prog_10_method_18_code 53 = .ok (.aload_n 0, 1) := by decide +kernel
theorem d7_54 : decode prog_10_method_18_code 54 = .ok (.iload_n 1, 1) := by decide +kernel
theorem d7_55 : decode prog_10_method_18_code 55 = .ok (.iload_n 2, 1) := by decide +kernel
theorem d7_56 : decode prog_10_method_18_code 56 = .ok (.invokevirtual 205, 3) := by decide +kernel
theorem d7_59 : decode prog_10_method_18_code 59 = .ok (.areturn, 1) := by decide +kernel
theorem pd_21 : parseMethodDescriptor "(I)C" = some ⟨[.int], some .char⟩ := by decide +kernel
theorem pd_22 : parseMethodDescriptor "(C)Z" = some ⟨[.char], some .boolean⟩ := by decide +kernel
theorem pd_23 : parseMethodDescriptor "(II)Ljava/lang/String;" = some ⟨[.int, .int], some (.object "java/lang/String")⟩ := by decide +kernel
theorem ef_7 (m : MethodId) (x0 : Addr) : entryFrame m #[(.ref x0)] 3 = mkF m 0 #[.val (.ref x0), .unset, .unset] [] := by first | (simp [entryFrame, mkF, argsToLocals, Value.category]; done) | rfl
def Q7 (Z : State) (o1 ob : Addr) (kb : ClassId) (xs : List Int32) (n co N : Int32) (bs : List Int32) (cs : Int32) (fo : Value) (h0 : Heap) (n0 : Nat) (v : Option Value) (h : Heap) (L : List Loc) : Prop := ∃ (r rb : Addr) (rk : ClassId) (rco rN : Int32) (rbs : List Int32), v = some (.ref r) ∧ Fr n0 L ∧ Keep h0 h [] ∧ Exa Z h r "java/lang/String" ∧ Fld Z h r "java/lang/String" "coder" "B" (.int rco) ∧ Fld Z h r "java/lang/String" "value" "[B" (.ref rb) ∧ Arv Z h rb rk .byte rN (List.map Value.int rbs) (.int 0) ∧ OS (own_cut xs (own_tb xs n) (own_tz xs n)) ((own_tz xs n) - (own_tb xs n)) rco rN rbs
set_option maxRecDepth 65536 in
set_option maxHeartbeats 40000000 in
theorem rm7 (l : Launch) (Z : State) (a0 : Array Value) (hw : ∀ d ∈ tables_1, d.before a0 Z = true) (ws : List Jvm.Cond) (o1 ob : Addr) (kb : ClassId) (xs : List Int32) (n co N : Int32) (bs : List Int32) (cs : Int32) (fo : Value) (h0 : Heap) (n0 : Nat) (Z0 : n0 ≤ h0.size) (Ea : Exa Z h0 o1 "java/lang/String") (Fc : Fld Z h0 o1 "java/lang/String" "coder" "B" (.int co)) (Fv : Fld Z h0 o1 "java/lang/String" "value" "[B" (.ref ob)) (Vb : Arv Z h0 ob kb .byte N (List.map Value.int bs) (.int 0)) (hOS : OS xs n co N bs) (S_cs : Sta Z h0 "java/lang/String" "COMPACT_STRINGS" "Z" (.int cs)) (c_cs : ¬ (cs = (0 : Int32))) (S_fo : Sta Z h0 "jdk/internal/util/Preconditions" "SIOOBE_FORMATTER" "Ljava/util/function/BiFunction;" fo) (r_fo : Value.isRef fo = true) (S_ad : Sta Z h0 "java/lang/StringUTF16" "$assertionsDisabled" "Z" (.int 1)) (S_hi : Sta Z h0 "java/lang/StringUTF16" "HI_BYTE_SHIFT" "I" (.int 0)) (S_lo : Sta Z h0 "java/lang/StringUTF16" "LO_BYTE_SHIFT" "I" (.int 8)) :
    OwnMH l Z nM29 prog_10_method_18_code 3 (some (.object "java/lang/String")) ws ({ frames := 7, cells := 3, slots := 19, locals := 110 } : Room) #[(.ref o1)] h0 own_EL (Q7 Z o1 ob kb xs n co N bs cs fo h0 n0) := by
  refine own_bodyH (own_EWs hw) (plainFor_of_name pn_4) ?_
  intro p e s m below meth c s₁ G vm0 k0 hx hby hml hZ hown hnm hret hS hk hCH0 X0 e0 step fin
  replace hown : vm0.findClass "org/vouchsafe/Dom" = some m.cls := hown
  have N0 := Fr.nil n0
  have KK : OwnK p e below c _ G := ⟨step, hx, hby⟩
  have C0 := CHr.refl hCH0
  refine step (s₁.setTop (mkF m 0 #[vr o1, .unset, .unset] [])) (fun t k => castTop (ef_7 m o1) k) ?_
  refine oic KK X0 d7_0 0 1 rfl rfl ?_
  refine ois KK X0 d7_1 #[vr o1, vi 0, .unset] 2 rfl rfl ?_
  refine oal KK X0 d7_2 (.ref o1) 3 rfl rfl rfl ?_
  obtain ⟨cq1, kq1, q1a, q1b, q1c⟩ := isOf (s := s.setVm vm0) hZ e0 Ea
  obtain ⟨_, _, ⟨T1, L1, k1, n1⟩, -, X1, ⟨Lc1, hQ1, l1, y1, z1⟩, st1⟩ := X0.virtualBack hx (y := nM10) (z := nM10) hown (mvT hZ (ow hw 38 rfl)) (mvT hZ (ow hw 39 rfl)) (notFace_of_selects (args := #[]) (mvT hZ (ow hw 41 rfl))) (mvT hZ (ow hw 41 rfl)) (mvT hZ (ow hw 40 rfl)) (by decide) (backOf (W := 0) (rm8 l Z a0 hw [] o1 ob kb xs n co N bs cs fo h0 n0 Z0 Ea Fc Fv Vb hOS S_cs c_cs S_fo r_fo S_ad S_hi S_lo) hZ (ow hw 42 rfl) (ow hw 11 rfl) (by decide) (by decide)) q1a q1c (g := (mkF m 3 #[vr o1, vi 0, .unset] [(.ref o1)])) rfl (by rw [hml]; rfl) (Steps.refl _) (argsL := []) (rest := []) (lenOf pd_18 rfl) rfl (omw rfl rfl) (hb hby d7_3) (fun _ _ => ⟨rfl, e0, (by decide : 0 + 0 ≤ _), (by decide : 0 + 0 ≤ _)⟩)
  dsimp only [Pt.U, Pt.locs, Pt.cells, Pt.slots] at X1 l1 y1 z1 st1 hQ1
  subst l1 y1 z1
  obtain ⟨rfl, N1q, e1q⟩ := hQ1
  have N1 := Fr.app N0 N1q
  refine step (T1.setTop (mkF m 6 #[vr o1, vi 0, .unset] [(.int n)])) (fun t k => st1.trans k) ?_
  refine ois KK X1 d7_6 #[vr o1, vi 0, vi n] 7 rfl rfl ?_
  obtain ⟨hn, h5, -, -⟩ := id hOS
  have hn5 : n.toInt ≤ 5 := by omega
  obtain ⟨B0, B1, B2, B3⟩ := own_trimB hOS
  obtain ⟨tb, htb⟩ : ∃ z, own_tb xs n = z := ⟨_, rfl⟩
  obtain ⟨tz, htz⟩ : ∃ z, own_tz xs n = z := ⟨_, rfl⟩
  have hR2 : own_te 6 xs tb n = tz := by rw [← htz]; unfold own_tz; rw [htb]
  have hR1 : own_ts 6 xs (0 : Int32) n = tb := htb
  rw [htb, htz] at B1 B3
  rw [htb] at B0
  rw [htz] at B2
  have A53 : ∀ (T : State) (LL : List Loc), Stand p l e ({ frames := 7, cells := 3, slots := 19, locals := 110 } : Room) (s.setVm vm0) m #[.ref o1] below meth c T LL 0 0 → T.heap = h0 → Fr n0 LL → G (T.setTop (mkF m 53 #[vr o1, vi tb, vi tz] [])) := by
    intro T LL XX eT NN
    refine oal KK XX d7_53 (.ref o1) 54 rfl rfl rfl ?_
    refine oil KK XX d7_54 tb 55 rfl rfl ?_
    refine oil KK XX d7_55 tz 56 rfl rfl ?_
    obtain ⟨cq2, kq2, q2a, q2b, q2c⟩ := isOf (s := s.setVm vm0) hZ eT Ea
    obtain ⟨_, _, ⟨T2, L2, k2, n2⟩, -, X2', hS2', hg2, ⟨Lc2, hQ2, l2, y2, z2, hC2⟩, st2⟩ := XX.virtualBackS hx (y := nM28) (z := nM28) hown (mvT hZ (ow hw 49 rfl)) (mvT hZ (ow hw 50 rfl)) (notFace_of_selects (args := #[]) (mvT hZ (ow hw 52 rfl))) (mvT hZ (ow hw 52 rfl)) (mvT hZ (ow hw 51 rfl)) (by decide) (backOfSH (W := 0) (rm10 l Z a0 hw [] o1 ob kb xs n co N bs tb tz cs fo h0 n0 Z0 Ea Fc Fv Vb hOS B0 B1 B2 B3 S_cs c_cs S_fo r_fo S_ad S_hi S_lo) hZ (ow hw 53 rfl) (ow hw 11 rfl) (by decide) (by decide) (own_EWs hw) C0.1) q2a q2c (g := (mkF m 56 #[vr o1, vi tb, vi tz] [(.int tz), (.int tb), (.ref o1)])) rfl (by rw [hml]; rfl) (Steps.refl _) (argsL := [(.int tb), (.int tz)]) (rest := []) (lenOf pd_23 rfl) rfl (omw rfl rfl) (hb hby d7_56) (fun _ _ => ⟨rfl, eT, (by decide : 0 + 3 ≤ _), (by decide : 0 + 19 ≤ _)⟩)
    dsimp only [Pt.U, Pt.locs, Pt.cells, Pt.slots] at X2' hS2' hg2 l2 y2 z2 st2 hQ2 hC2
    subst l2 y2 z2
    obtain ⟨X2, hS2, hZ2, hown2⟩ := rebS hS (Nat.le_trans hk (Nat.le_of_eq (congrArg Array.size eT.symm))) X2' hS2' hg2 hZ hown
    replace hS := hS2
    replace hZ : Z.Warmed39 T2.vm := hZ2
    replace hown : T2.vm.findClass "org/vouchsafe/Dom" = some m.cls := hown2
    obtain ⟨h2, e2⟩ : ∃ z, T2.heap = z := ⟨_, rfl⟩
    rw [e2] at hQ2
    obtain ⟨r2, rb2, rk2, rco2, rN2, rbs2, rfl, N2q, K2q, Er2, Fr2, Fw2, Vr2, os2⟩ := hQ2
    have N2 := Fr.app NN N2q
    have K2 : Keep h0 h2 [] := (Keep.refl h0 []).trans K2q all0
    have f3 := own_staK S_cs K2q all0
    have f4 := own_staK S_fo K2q all0
    have f5 := own_staK S_ad K2q all0
    have f6 := own_staK S_hi K2q all0
    have f7 := own_staK S_lo K2q all0
    rw [e2] at hC2
    have C2 := C0.trans hC2
    have hk2 : T2.heap.size ≤ h2.size := Nat.le_of_eq (congrArg Array.size e2)
    refine step (T2.setTop (mkF m 59 #[vr o1, vi tb, vi tz] [(.ref r2)])) (fun t k => st2.trans k) ?_
    refine fin (v := some (.ref r2)) X2 hS (Nat.le_trans hk2 (Nat.le_of_eq (congrArg Array.size e2.symm))) hZ (by rw [e2]; exact C2) (fun h => by cases h) ?_ (by decide) (by decide) (fun fs hr => X2.areturnOut hx rfl hret rfl (hb hby d7_59) hr)
    show Q7 Z o1 ob kb xs n co N bs cs fo h0 n0 (some (.ref r2)) T2.heap _
    rw [e2]
    exact ⟨r2, rb2, rk2, rco2, rN2, rbs2, rfl, N2, K2, Er2, Fr2, Fw2, Vr2, (by subst htb; subst htz; exact os2)⟩
  have A29 : ∀ (kk : Nat) (z : Int32) (T : State) (LL : List Loc), Stand p l e ({ frames := 7, cells := 3, slots := 19, locals := 110 } : Room) (s.setVm vm0) m #[.ref o1] below meth c T LL 0 0 → T.heap = h0 → Fr n0 LL → tb.toInt ≤ z.toInt → z.toInt ≤ n.toInt → z.toInt ≤ tb.toInt + kk → own_te kk xs tb z = tz → G (T.setTop (mkF m 29 #[vr o1, vi tb, vi z] [])) := by
    intro kk
    induction kk with
    | zero =>
      intro z T LL XX eT NN hz1 hz2 hz3 hR
      refine oil KK XX d7_29 z 30 rfl rfl ?_
      refine oil KK XX d7_30 tb 31 rfl rfl ?_
      have hc31_8 : ¬ (tb < z) := own_nlt hz3
      refine oiy KK XX d7_31 53 (flt hc31_8).2.2.2 (by decide) rfl ?_
      have hz : z = tz := by rw [← hR]; rfl
      subst hz
      exact A53 T _ XX eT NN
    | succ kk ih =>
      intro z T LL XX eT NN hz1 hz2 hz3 hR
      refine oil KK XX d7_29 z 30 rfl rfl ?_
      refine oil KK XX d7_30 tb 31 rfl rfl ?_
      by_cases hc31_9 : tb < z
      · -- pc 31: tb < z True
        refine oin KK XX d7_31 34 rfl (tlt hc31_9).2.2.2 ?_
        obtain ⟨y0, y1, -⟩ := own_l2 B0 hc31_9 hz2 hn5
        obtain ⟨o1', o2', o3'⟩ := own_l3 B0 hc31_9 hz2 hn5 hz3
        refine oal KK XX d7_34 (.ref o1) 35 rfl rfl rfl ?_
        refine oil KK XX d7_35 z 36 rfl rfl ?_
        refine oic KK XX d7_36 1 37 rfl rfl ?_
        refine step (T.setTop (mkF m 38 #[vr o1, vi tb, vi z] [(.int (z - (1 : Int32))), (.ref o1)])) (fun t k => XS.isub XX.here hx rfl (hb hby d7_37) rfl k) ?_
        obtain ⟨cq10, kq10, q10a, q10b, q10c⟩ := isOf (s := s.setVm vm0) hZ eT Ea
        obtain ⟨_, _, ⟨T10, L10, k10, n10⟩, -, X10, ⟨Lc10, hQ10, l10, y10, z10⟩, st10⟩ := XX.virtualBack hx (y := nM8) (z := nM8) hown (mvT hZ (ow hw 80 rfl)) (mvT hZ (ow hw 81 rfl)) (notFace_of_selects (args := #[]) (mvT hZ (ow hw 83 rfl))) (mvT hZ (ow hw 83 rfl)) (mvT hZ (ow hw 82 rfl)) (by decide) (backOf (W := 0) (rm18 l Z a0 hw [] o1 ob kb xs n co N bs (z - (1 : Int32)) cs fo h0 n0 Z0 Ea Fc Fv Vb hOS y0 y1 S_cs c_cs S_fo r_fo S_ad S_hi S_lo) hZ (ow hw 84 rfl) (ow hw 11 rfl) (by decide) (by decide)) q10a q10c (g := (mkF m 38 #[vr o1, vi tb, vi z] [(.int (z - (1 : Int32))), (.ref o1)])) rfl (by rw [hml]; rfl) (Steps.refl _) (argsL := [(.int (z - (1 : Int32)))]) (rest := []) (lenOf pd_21 rfl) rfl (omw rfl rfl) (hb hby d7_38) (fun _ _ => ⟨rfl, eT, (by decide : 0 + 0 ≤ _), (by decide : 0 + 0 ≤ _)⟩)
        dsimp only [Pt.U, Pt.locs, Pt.cells, Pt.slots] at X10 l10 y10 z10 st10 hQ10
        subst l10 y10 z10
        obtain ⟨rfl, N10q, e10q⟩ := hQ10
        have N10 := Fr.app NN N10q
        refine step (T10.setTop (mkF m 41 #[vr o1, vi tb, vi z] [(.int (List.getD xs ((z - (1 : Int32))).toNatClampNeg (0 : Int32)))])) (fun t k => st10.trans k) ?_
        obtain ⟨_, _, ⟨T11, L11, k11, n11⟩, -, X11, ⟨Lc11, hQ11, l11, y11, z11⟩, st11⟩ := Jvm.LawKit.callS X10 hx (y := nM11) hown (mvT hZ (ow hw 100 rfl)) (mvT hZ (ow hw 101 rfl)) (mvT hZ (ow hw 36 rfl)) (mvT hZ (ow hw 102 rfl)) (by decide) (backOf (W := 0) (rm23 l Z a0 hw [] (List.getD xs ((z - (1 : Int32))).toNatClampNeg (0 : Int32)) h0 n0 Z0) hZ (ow hw 102 rfl) (ow hw 36 rfl) (by decide) (by decide)) (g := (mkF m 41 #[vr o1, vi tb, vi z] [(.int (List.getD xs ((z - (1 : Int32))).toNatClampNeg (0 : Int32)))])) rfl (by rw [hml]; rfl) (argsL := [(.int (List.getD xs ((z - (1 : Int32))).toNatClampNeg (0 : Int32)))]) (rest := []) (lenOf pd_22 rfl) rfl (omw rfl rfl) (hb hby d7_41) (fun _ _ => ⟨rfl, e10q, (by decide : 0 + 0 ≤ _), (by decide : 0 + 0 ≤ _)⟩)
        dsimp only [Pt.U, Pt.locs, Pt.cells, Pt.slots] at X11 l11 y11 z11 st11 hQ11
        subst l11 y11 z11
        obtain ⟨rfl, N11q, e11q⟩ := hQ11
        have N11 := Fr.app N10 N11q
        refine step (T11.setTop (mkF m 44 #[vr o1, vi tb, vi z] [(.int (own_xs (List.getD xs ((z - (1 : Int32))).toNatClampNeg (0 : Int32))))])) (fun t k => st11 t k) ?_
        by_cases hc44_12 : (own_xs (List.getD xs ((z - (1 : Int32))).toNatClampNeg (0 : Int32))) = (0 : Int32)
        · -- pc 44: (own_xs (List.getD xs ((z - (1 : Int32))).toNatClampNeg (0 : Int32))) = (0 : Int32) True
          refine step (T11.setTop (mkF m 53 #[vr o1, vi tb, vi z] [])) (fun t k => XS.ifYes X11.here hx rfl (pc0 := 44) (pc' := 53) rfl (hb hby d7_44) rfl ((if0 _ _).trans (teq hc44_12).1) (by decide) (by decide) k) ?_
          have hz : z = tz := by rw [← hR]; simp only [own_te, if_pos hc31_9, if_pos hc44_12]
          subst hz
          exact A53 T11 _ X11 e11q N11
        · -- pc 44: (own_xs (List.getD xs ((z - (1 : Int32))).toNatClampNeg (0 : Int32))) = (0 : Int32) False
          refine step (T11.setTop (mkF m 47 #[vr o1, vi tb, vi z] [])) (fun t k => XS.ifNo X11.here hx rfl (hb hby d7_44) rfl ((if0 _ _).trans (feq hc44_12).1) k) ?_
          refine oii KK X11 d7_47 #[vr o1, vi tb, .val (.int (z + (Int32.ofInt (-1))))] 50 rfl rfl rfl ?_
          refine ogo KK X11 d7_50 29 (by decide) rfl ?_
          exact ih _ _ _ X11 e11q N11 o1' o2' o3' (by rw [← hR]; simp only [own_te, if_pos hc31_9, if_neg hc44_12])
      · -- pc 31: tb < z False
        refine oiy KK XX d7_31 53 (flt hc31_9).2.2.2 (by decide) rfl ?_
        have hz : z = tz := by rw [← hR]; simp only [own_te, if_neg hc31_9]
        subst hz
        exact A53 T _ XX eT NN
  suffices loop : ∀ (kk : Nat) (i : Int32) (T : State) (LL : List Loc), Stand p l e ({ frames := 7, cells := 3, slots := 19, locals := 110 } : Room) (s.setVm vm0) m #[.ref o1] below meth c T LL 0 0 → T.heap = h0 → Fr n0 LL → 0 ≤ i.toInt → i.toInt ≤ n.toInt → n.toInt ≤ i.toInt + kk → own_ts kk xs i n = tb → G (T.setTop (mkF m 7 #[vr o1, vi i, vi n] [])) by exact loop 6 0 _ _ X1 e1q N1 (by decide) (by rw [show (0 : Int32).toInt = 0 by decide]; omega) (by rw [show (0 : Int32).toInt = 0 by decide]; omega) hR1
  intro kk
  induction kk with
  | zero =>
    intro i T LL XX eT NN hi0' hi1 hi2 hR
    have hi0 : ¬ (i < (0 : Int32)) := own_nneg' hi0'
    refine oil KK XX d7_7 i 8 rfl rfl ?_
    refine oil KK XX d7_8 n 9 rfl rfl ?_
    have hc9_13 : ¬ (i < n) := own_nlt hi2
    refine oiy KK XX d7_9 29 (flt hc9_13).2.1 (by decide) rfl ?_
    have hz : i = tb := by rw [← hR]; rfl
    subst hz
    exact A29 6 n T _ XX eT NN (by omega) (Int.le_refl _) (by omega) hR2
  | succ kk ih =>
    intro i T LL XX eT NN hi0' hi1 hi2 hR
    have hi0 : ¬ (i < (0 : Int32)) := own_nneg' hi0'
    refine oil KK XX d7_7 i 8 rfl rfl ?_
    refine oil KK XX d7_8 n 9 rfl rfl ?_
    by_cases hc9_14 : i < n
    · -- pc 9: i < n True
      refine oin KK XX d7_9 12 rfl (tlt hc9_14).2.1 ?_
      refine oal KK XX d7_12 (.ref o1) 13 rfl rfl rfl ?_
      refine oil KK XX d7_13 i 14 rfl rfl ?_
      obtain ⟨cq15, kq15, q15a, q15b, q15c⟩ := isOf (s := s.setVm vm0) hZ eT Ea
      obtain ⟨_, _, ⟨T15, L15, k15, n15⟩, -, X15, ⟨Lc15, hQ15, l15, y15, z15⟩, st15⟩ := XX.virtualBack hx (y := nM8) (z := nM8) hown (mvT hZ (ow hw 80 rfl)) (mvT hZ (ow hw 81 rfl)) (notFace_of_selects (args := #[]) (mvT hZ (ow hw 83 rfl))) (mvT hZ (ow hw 83 rfl)) (mvT hZ (ow hw 82 rfl)) (by decide) (backOf (W := 0) (rm18 l Z a0 hw [] o1 ob kb xs n co N bs i cs fo h0 n0 Z0 Ea Fc Fv Vb hOS hi0 hc9_14 S_cs c_cs S_fo r_fo S_ad S_hi S_lo) hZ (ow hw 84 rfl) (ow hw 11 rfl) (by decide) (by decide)) q15a q15c (g := (mkF m 14 #[vr o1, vi i, vi n] [(.int i), (.ref o1)])) rfl (by rw [hml]; rfl) (Steps.refl _) (argsL := [(.int i)]) (rest := []) (lenOf pd_21 rfl) rfl (omw rfl rfl) (hb hby d7_14) (fun _ _ => ⟨rfl, eT, (by decide : 0 + 0 ≤ _), (by decide : 0 + 0 ≤ _)⟩)
      dsimp only [Pt.U, Pt.locs, Pt.cells, Pt.slots] at X15 l15 y15 z15 st15 hQ15
      subst l15 y15 z15
      obtain ⟨rfl, N15q, e15q⟩ := hQ15
      have N15 := Fr.app NN N15q
      refine step (T15.setTop (mkF m 17 #[vr o1, vi i, vi n] [(.int (List.getD xs (i).toNatClampNeg (0 : Int32)))])) (fun t k => st15.trans k) ?_
      obtain ⟨_, _, ⟨T16, L16, k16, n16⟩, -, X16, ⟨Lc16, hQ16, l16, y16, z16⟩, st16⟩ := Jvm.LawKit.callS X15 hx (y := nM11) hown (mvT hZ (ow hw 100 rfl)) (mvT hZ (ow hw 101 rfl)) (mvT hZ (ow hw 36 rfl)) (mvT hZ (ow hw 102 rfl)) (by decide) (backOf (W := 0) (rm23 l Z a0 hw [] (List.getD xs (i).toNatClampNeg (0 : Int32)) h0 n0 Z0) hZ (ow hw 102 rfl) (ow hw 36 rfl) (by decide) (by decide)) (g := (mkF m 17 #[vr o1, vi i, vi n] [(.int (List.getD xs (i).toNatClampNeg (0 : Int32)))])) rfl (by rw [hml]; rfl) (argsL := [(.int (List.getD xs (i).toNatClampNeg (0 : Int32)))]) (rest := []) (lenOf pd_22 rfl) rfl (omw rfl rfl) (hb hby d7_17) (fun _ _ => ⟨rfl, e15q, (by decide : 0 + 0 ≤ _), (by decide : 0 + 0 ≤ _)⟩)
      dsimp only [Pt.U, Pt.locs, Pt.cells, Pt.slots] at X16 l16 y16 z16 st16 hQ16
      subst l16 y16 z16
      obtain ⟨rfl, N16q, e16q⟩ := hQ16
      have N16 := Fr.app N15 N16q
      refine step (T16.setTop (mkF m 20 #[vr o1, vi i, vi n] [(.int (own_xs (List.getD xs (i).toNatClampNeg (0 : Int32))))])) (fun t k => st16 t k) ?_
      by_cases hc20_17 : (own_xs (List.getD xs (i).toNatClampNeg (0 : Int32))) = (0 : Int32)
      · -- pc 20: (own_xs (List.getD xs (i).toNatClampNeg (0 : Int32))) = (0 : Int32) True
        refine step (T16.setTop (mkF m 29 #[vr o1, vi i, vi n] [])) (fun t k => XS.ifYes X16.here hx rfl (pc0 := 20) (pc' := 29) rfl (hb hby d7_20) rfl ((if0 _ _).trans (teq hc20_17).1) (by decide) (by decide) k) ?_
        have hz : i = tb := by rw [← hR]; simp only [own_ts, if_pos hc9_14, if_pos hc20_17]
        subst hz
        exact A29 6 n T16 _ X16 e16q N16 (by omega) (Int.le_refl _) (by omega) hR2
      · -- pc 20: (own_xs (List.getD xs (i).toNatClampNeg (0 : Int32))) = (0 : Int32) False
        refine step (T16.setTop (mkF m 23 #[vr o1, vi i, vi n] [])) (fun t k => XS.ifNo X16.here hx rfl (hb hby d7_20) rfl ((if0 _ _).trans (feq hc20_17).1) k) ?_
        refine oii KK X16 d7_23 #[vr o1, .val (.int (i + (1 : Int32))), vi n] 26 rfl rfl rfl ?_
        refine ogo KK X16 d7_26 7 (by decide) rfl ?_
        have hlt := own_ltI hc9_14
        have e1 := own_i1 (i := i) hi0' (by omega)
        exact ih _ _ _ X16 e16q N16 (by omega) (by omega) (by omega) (by rw [← hR]; simp only [own_ts, if_pos hc9_14, if_neg hc20_17])
    · -- pc 9: i < n False
      refine oiy KK XX d7_9 29 (flt hc9_14).2.1 (by decide) rfl ?_
      have hz : i = tb := by rw [← hR]; simp only [own_ts, if_neg hc9_14]
      subst hz
      exact A29 6 n T _ XX eT NN (by omega) (Int.le_refl _) (by omega) hR2
theorem d15_0 : decode jdk_52_method_21_code 0 = .ok (.iconst 0, 1) := by decide +kernel
theorem d15_1 : decode jdk_52_method_21_code 1 = .ok (.istore 5, 2) := by decide +kernel
theorem d15_3 : decode jdk_52_method_21_code 3 = .ok (.iload 5, 2) := by decide +kernel
theorem d15_5 : decode jdk_52_method_21_code 5 = .ok (.iload 4, 2) := by decide +kernel
theorem d15_7 : decode jdk_52_method_21_code 7 = .ok (.if_icmp .ge 37, 3) := by decide +kernel
theorem d15_10 : decode jdk_52_method_21_code 10 = .ok (.aload_n 0, 1) := by decide +kernel
theorem d15_11 : decode jdk_52_method_21_code 11 = .ok (.iload_n 1, 1) := by decide +kernel
theorem d15_12 : decode jdk_52_method_21_code 12 = .ok (.caload, 1) := by decide +kernel
theorem d15_13 : decode jdk_52_method_21_code 13 = .ok (.istore 6, 2) := by decide +kernel
theorem d15_15 : decode jdk_52_method_21_code 15 = .ok (.iload 6, 2) := by decide +kernel
theorem d15_17 : decode jdk_52_method_21_code 17 = .ok (.sipush 255, 3) := by decide +kernel
theorem d15_20 : decode jdk_52_method_21_code 20 = .ok (.if_icmp .le 6, 3) := by decide +kernel
theorem d15_23 : decode jdk_52_method_21_code 23 = .ok (.iload 5, 2) := by decide +kernel
theorem d15_25 : decode jdk_52_method_21_code 25 = .ok (.ireturn, 1) := by decide +kernel
theorem d15_26 : decode jdk_52_method_21_code 26 = .ok (.aload_n 2, 1) := by decide +kernel
theorem d15_27 : decode jdk_52_method_21_code 27 = .ok (.iload_n 3, 1) := by decide +kernel
theorem d15_28 : decode jdk_52_method_21_code 28 = .ok (.iload 6, 2) := by decide +kernel
theorem d15_30 : decode jdk_52_method_21_code 30 = .ok (.i2b, 1) := by decide +kernel
theorem d15_31 : decode jdk_52_method_21_code 31 = .ok (.bastore, 1) := by decide +kernel
theorem d15_32 : decode jdk_52_method_21_code 32 = .ok (.iinc 1 1, 3) := by decide +kernel
theorem d15_35 : decode jdk_52_method_21_code 35 = .ok (.iinc 3 1, 3) := by decide +kernel
theorem d15_38 : decode jdk_52_method_21_code 38 = .ok (.iinc 5 1, 3) := by decide +kernel
theorem d15_41 : decode jdk_52_method_21_code 41 = .ok (.goto (-38), 3) := by decide +kernel
theorem d15_44 : decode jdk_52_method_21_code 44 = .ok (.iload 4, 2) := by decide +kernel
theorem d15_46 : decode jdk_52_method_21_code 46 = .ok (.ireturn, 1) := by decide +kernel
theorem ef_15 (m : MethodId) (x0 : Addr) (x2 : Addr) (x4 : Int32) : entryFrame m #[(.ref x0), (.int 0), (.ref x2), (.int 0), (.int x4)] 7 = mkF m 0 #[.val (.ref x0), .val (.int 0), .val (.ref x2), .val (.int 0), .val (.int x4), .unset, .unset] [] := by first | (simp [entryFrame, mkF, argsToLocals, Value.category]; done) | rfl
def Q15 (Z : State) (oc : Addr) (kd : ClassId) (xs : List Int32) (n : Int32) (o2 : Addr) (k2 : ClassId) (h0 : Heap) (n0 : Nat) (v : Option Value) (h : Heap) (L : List Loc) : Prop := ∃ j : Int32, v = some (.int j) ∧ Fr n0 L ∧ Keep h0 h [o2] ∧ ((n = j ∧ (∀ c ∈ xs, c.toInt ≤ 255) ∧ Arv Z h o2 k2 .byte n (List.map Value.int (List.map own_lo xs)) (.int 0)) ∨ (0 ≤ j.toInt ∧ j.toInt < n.toInt ∧ 255 < (xs.getD j.toInt.toNat (0 : Int32)).toInt))
set_option maxRecDepth 65536 in
set_option maxHeartbeats 40000000 in
theorem rm15 (l : Launch) (Z : State) (a0 : Array Value) (hw : ∀ d ∈ tables_1, d.before a0 Z = true) (ws : List Jvm.Cond) (oc : Addr) (kd : ClassId) (xs : List Int32) (n : Int32) (o2 : Addr) (k2 : ClassId) (h0 : Heap) (n0 : Nat) (Z0 : n0 ≤ h0.size) (Vc : Arv Z h0 oc kd .char n (List.map Value.int xs) (.int 0)) (hn : n.toInt = xs.length) (h5 : xs.length ≤ 5) (hch : ∀ c ∈ xs, 0 ≤ c.toInt ∧ c.toInt < 65536) (V2 : Arv Z h0 o2 k2 .byte n (List.map Value.int []) (.int 0)) (ne12 : oc ≠ o2) (gn_o2 : n0 ≤ o2) :
    OwnM l Z nM30 jdk_52_method_21_code 7 (some .int) ws ({ frames := 0, cells := 0, slots := 0, locals := 0 } : Room) #[(.ref oc), (.int 0), (.ref o2), (.int 0), (.int n)] h0 (Q15 Z oc kd xs n o2 k2 h0 n0) := by
  refine own_body (plainFor_of_name pn_3) ?_
  intro p e s m below meth c s₁ G hx hby hml hZ hown hnm hret X0 e0 step fin
  replace hown : s.vm.findClass "java/lang/StringUTF16" = some m.cls := hown
  have N0 := Fr.nil n0
  have KK : OwnK p e below c _ G := ⟨step, hx, hby⟩
  refine step (s₁.setTop (mkF m 0 #[vr oc, vi 0, vr o2, vi 0, vi n, .unset, .unset] [])) (fun t k => castTop (ef_15 m oc o2 n) k) ?_
  refine oic KK X0 d15_0 0 1 rfl rfl ?_
  refine oiS KK X0 d15_1 #[vr oc, vi 0, vr o2, vi 0, vi n, vi 0, .unset] 3 rfl rfl ?_
  have z0 : (0 : Int32).toInt = 0 := by decide
  suffices loop : ∀ (kk : Nat) (i : Int32) (ds : List Int32) (sl : Slot) (T : State) (LL : List Loc) (hh : Heap), Stand p l e ({ frames := 0, cells := 0, slots := 0, locals := 0 } : Room) s m #[.ref oc, .int 0, .ref o2, .int 0, .int n] below meth c T LL 0 0 → T.heap = hh → Fr n0 LL → Keep h0 hh [o2] → Arv Z hh o2 k2 .byte n (List.map Value.int ds) (.int 0) → 0 ≤ i.toInt → i.toInt ≤ n.toInt → ds = List.map own_lo (xs.take i.toInt.toNat) → (∀ j : Nat, (j : Int) < i.toInt → (xs.getD j (0 : Int32)).toInt ≤ 255) → (sl = .unset ∨ ∃ c : Int32, sl = vi c) → n.toInt < i.toInt + kk → G (T.setTop (mkF m 3 #[vr oc, vi i, vr o2, vi i, vi n, vi i, sl] [])) by exact loop 6 0 [] .unset _ _ _ X0 e0 N0 (Keep.refl h0 [o2]) V2 (by rw [z0]; omega) (by rw [z0]; omega) (by rw [z0]; rfl) (fun j q => absurd q (by rw [z0]; omega)) (Or.inl rfl) (by rw [z0]; omega)
  intro kk
  induction kk with
  | zero => intro i ds sl T LL hh XX eT NN KQ VV hi0' hin hds hall hsl hk; exact absurd hk (by omega)
  | succ kk ih =>
    intro i ds sl T LL hh XX eT NN KQ VV hi0' hin hds hall hsl hk
    have hi0 : ¬ (i < (0 : Int32)) := own_nneg' hi0'
    have hdl : (ds.length : Int) = i.toInt := by rw [hds, List.length_map, List.length_take]; omega
    have L_Vc := Vc.keep KQ (ninS ne12 nin0)
    refine oiL KK XX d15_3 i 5 rfl rfl ?_
    refine oiL KK XX d15_5 n 7 rfl rfl ?_
    by_cases hc7_1 : i < n
    · -- pc 7: i < n True
      refine oin KK XX d15_7 10 rfl (tlt hc7_1).2.1 ?_
      refine oal KK XX d15_10 (.ref oc) 11 rfl rfl rfl ?_
      refine oil KK XX d15_11 i 12 rfl rfl ?_
      obtain ⟨cl2, Ar2, q2, S2, N2n, H2, G2⟩ := id L_Vc
      have hin2 : ¬ (i < 0 ∨ cl2.slots.size ≤ (i).toNatClampNeg) := inb_of S2 ⟨hi0, hc7_1⟩
      have hat2 : cl2.slots[(i).toNatClampNeg]? = some (.int (List.getD xs (i).toNatClampNeg (0 : Int32))) := H2.at hin2 (own_getD xs _ _)
      refine step (T.setTop (mkF m 13 #[vr oc, vi i, vr o2, vi i, vi n, vi i, sl] [(.int (List.getD xs (i).toNatClampNeg (0 : Int32)))])) (fun t k => XX.caload hx (j := i) (v := (.int (List.getD xs (i).toNatClampNeg (0 : Int32)))) (by rw [eT]; exact Ar2.1) (State.isArrayOf_alike hZ.alike Ar2.2.1) Ar2.2.2 hin2 hat2 (g := (mkF m 12 #[vr oc, vi i, vr o2, vi i, vi n, vi i, sl] [(.int i), (.ref oc)])) rfl rfl (hb hby d15_12) t k) ?_
      refine step (T.setTop (mkF m 15 #[vr oc, vi i, vr o2, vi i, vi n, vi i, .val (.int (List.getD xs (i).toNatClampNeg (0 : Int32)))] [])) (fun t k => XS.istore XX.here hx rfl (hb hby d15_13) rfl (l' := #[vr oc, vi i, vr o2, vi i, vi n, vi i, .val (.int (List.getD xs (i).toNatClampNeg (0 : Int32)))]) (by rcases hsl with q | ⟨_, q⟩ <;> rw [q] <;> rfl) k) ?_
      refine oiL KK XX d15_15 (List.getD xs (i).toNatClampNeg (0 : Int32)) 17 rfl rfl ?_
      refine osi KK XX d15_17 255 20 rfl rfl ?_
      by_cases hc20_3 : (255 : Int32) < (List.getD xs (i).toNatClampNeg (0 : Int32))
      · -- pc 20: (255 : Int32) < (List.getD xs (i).toNatClampNeg (0 : Int32)) True
        refine oin KK XX d15_20 23 rfl (tlt hc20_3).2.2.2 ?_
        refine oiL KK XX d15_23 i 25 rfl rfl ?_
        refine fin (v := some (.int i)) XX (fun h => by cases h) ?_ (by decide) (by decide) (fun fs hr => retI XX hx hret (hb hby d15_25) hr)
        show Q15 Z oc kd xs n o2 k2 h0 n0 (some (.int i)) T.heap _
        rw [eT]
        refine ⟨i, rfl, NN, KQ, Or.inr ⟨hi0', own_ltI hc7_1, ?_⟩⟩
        have u := hc20_3
        rw [Int32.lt_iff_toInt_lt, own_tn, show (255 : Int32).toInt = 255 by decide] at u
        exact u
      · -- pc 20: (255 : Int32) < (List.getD xs (i).toNatClampNeg (0 : Int32)) False
        refine oiy KK XX d15_20 26 (flt hc20_3).2.2.2 (by decide) rfl ?_
        refine oal KK XX d15_26 (.ref o2) 27 rfl rfl rfl ?_
        refine oil KK XX d15_27 i 28 rfl rfl ?_
        refine oiL KK XX d15_28 (List.getD xs (i).toNatClampNeg (0 : Int32)) 30 rfl rfl ?_
        refine step (T.setTop (mkF m 31 #[vr oc, vi i, vr o2, vi i, vi n, vi i, .val (.int (List.getD xs (i).toNatClampNeg (0 : Int32)))] [(.int ((List.getD xs (i).toNatClampNeg (0 : Int32)).toInt8.toInt32)), (.int i), (.ref o2)])) (fun t k => XS.i2b XX.here hx rfl (hb hby d15_30) rfl k) ?_
        obtain ⟨cl4, Ar4, q4, S4, N4n, H4, G4⟩ := id VV
        have hin4 : ¬ (i < 0 ∨ cl4.slots.size ≤ (i).toNatClampNeg) := inb_of S4 ⟨hi0, hc7_1⟩
        obtain ⟨T4, h4, X4, e4, W4, st4⟩ := stB XX hx hZ eT Ar4 (j := i) hin4 (g := (mkF m 31 #[vr oc, vi i, vr o2, vi i, vi n, vi i, .val (.int (List.getD xs (i).toNatClampNeg (0 : Int32)))] [(.int ((List.getD xs (i).toNatClampNeg (0 : Int32)).toInt8.toInt32)), (.int i), (.ref o2)])) rfl rfl (hb hby d15_31)
        have N4 := Fr.snoc X4 NN gn_o2
        have K4 : Keep h0 h4 [o2] := KQ.wr W4 (Or.inl (List.mem_of_getElem? (i := 0) rfl))
        have V4 : Arv Z h4 o2 k2 .byte n (List.map Value.int (ds ++ [(nar .byte ((List.getD xs (i).toNatClampNeg (0 : Int32)).toInt8.toInt32))])) (.int 0) := own_push Ar4 q4 S4 N4n H4 G4 (fits_nar_byte ((List.getD xs (i).toNatClampNeg (0 : Int32)).toInt8.toInt32)) W4 (by rw [own_tn]; omega)
        refine step (T4.setTop (mkF m 32 #[vr oc, vi i, vr o2, vi i, vi n, vi i, .val (.int (List.getD xs (i).toNatClampNeg (0 : Int32)))] [])) (fun t k => st4 t k) ?_
        refine oii KK X4 d15_32 #[vr oc, .val (.int (i + (1 : Int32))), vr o2, vi i, vi n, vi i, .val (.int (List.getD xs (i).toNatClampNeg (0 : Int32)))] 35 rfl rfl rfl ?_
        refine oii KK X4 d15_35 #[vr oc, .val (.int (i + (1 : Int32))), vr o2, .val (.int (i + (1 : Int32))), vi n, vi i, .val (.int (List.getD xs (i).toNatClampNeg (0 : Int32)))] 38 rfl rfl rfl ?_
        refine oii KK X4 d15_38 #[vr oc, .val (.int (i + (1 : Int32))), vr o2, .val (.int (i + (1 : Int32))), vi n, .val (.int (i + (1 : Int32))), .val (.int (List.getD xs (i).toNatClampNeg (0 : Int32)))] 41 rfl rfl rfl ?_
        refine ogo KK X4 d15_41 3 (by decide) rfl ?_
        have hlt := own_ltI hc7_1
        have i1 := own_i1 (i := i) hi0' (by omega)
        refine ih (i + (1 : Int32)) _ _ _ _ _ X4 e4 N4 K4 V4 (by omega) (by omega) ?_ ?_ (Or.inr ⟨_, rfl⟩) (by omega)
        · rw [i1, show (i.toInt + 1).toNat = i.toInt.toNat + 1 by omega, hds]
          exact own_tkMap own_lo xs (by omega)
        · intro j q
          by_cases hj : (j : Int) = i.toInt
          · have u := hc20_3
            rw [Int32.lt_iff_toInt_lt, own_tn, show (255 : Int32).toInt = 255 by decide, ← hj, Int.toNat_natCast] at u
            omega
          · exact hall j (by omega)
    · -- pc 7: i < n False
      refine oiy KK XX d15_7 44 (flt hc7_1).2.1 (by decide) rfl ?_
      refine oiL KK XX d15_44 n 46 rfl rfl ?_
      refine fin (v := some (.int n)) XX (fun h => by cases h) ?_ (by decide) (by decide) (fun fs hr => retI XX hx hret (hb hby d15_46) hr)
      show Q15 Z oc kd xs n o2 k2 h0 n0 (some (.int n)) T.heap _
      rw [eT]
      have hie := own_nltI hc7_1
      refine ⟨n, rfl, NN, KQ, Or.inl ⟨rfl, fun c hc => ?_, ?_⟩⟩
      · obtain ⟨j, hj, rfl⟩ := List.getElem_of_mem hc
        have u := hall j (by omega)
        rw [List.getD_eq_getElem?_getD, List.getElem?_eq_getElem hj] at u
        exact u
      · have f := VV
        rw [hds, show i.toInt.toNat = xs.length by omega, List.take_length] at f
        exact f
theorem d33_0 : decode jdk_52_method_4_code 0 = .ok (.getstatic 44, 3) := by decide +kernel
theorem d33_3 : decode jdk_52_method_4_code 3 = .ok (.ifCond .ne 25, 3) := by decide +kernel
theorem d33_6 : decode jdk_52_method_4_code 6 = .ok (.iload_n 1, 1) := by decide +kernel
theorem d33_7 : decode jdk_52_method_4_code 7 = .ok (.ifCond .lt 11, 3) := by decide +kernel
theorem d33_10 : decode jdk_52_method_4_code 10 = .ok (.iload_n 1, 1) := by decide +kernel
theorem d33_11 : decode jdk_52_method_4_code 11 = .ok (.aload_n 0, 1) := by decide +kernel
theorem d33_12 : decode jdk_52_method_4_code 12 = .ok (.invokestatic 48, 3) := by decide +kernel
theorem d33_15 : decode jdk_52_method_4_code 15 = .ok (.if_icmp .lt 13, 3) := by decide +kernel
theorem d33_18 : decode jdk_52_method_4_code 18 = .ok (.new 52, 3) := by decide +kernel
theorem d33_21 : decode jdk_52_method_4_code 21 = .ok (.dup, 1) := by decide +kernel
theorem d33_22 : decode jdk_52_method_4_code 22 = .ok (.ldc 54, 2) := by decide +kernel
theorem d33_24 : decode jdk_52_method_4_code 24 = .ok (.invokespecial 56, 3) := by decide +kernel
theorem d33_27 : decode jdk_52_method_4_code 27 = .ok (.athrow, 1) := by decide +kernel
theorem d33_28 : decode jdk_52_method_4_code 28 = .ok (.iload_n 1, 1) := by decide +kernel
theorem d33_29 : decode jdk_52_method_4_code 29 = .ok (.iconst 1, 1) := by decide +kernel
theorem d33_30 : decode jdk_52_method_4_code 30 = .ok (.ishl, 1) := by decide +kernel
theorem d33_31 : decode jdk_52_method_4_code 31 = .ok (.istore_n 1, 1) := by decide +kernel
theorem d33_32 : decode jdk_52_method_4_code 32 = .ok (.aload_n 0, 1) := by decide +kernel
theorem d33_33 : decode jdk_52_method_4_code 33 = .ok (.iload_n 1, 1) := by decide +kernel
theorem d33_34 : decode jdk_52_method_4_code 34 = .ok (.iinc 1 1, 3) := by decide +kernel
theorem d33_37 : decode jdk_52_method_4_code 37 = .ok (.iload_n 2, 1) := by decide +kernel
theorem d33_38 : decode jdk_52_method_4_code 38 = .ok (.getstatic 59, 3) := by decide +kernel
theorem d33_41 : decode jdk_52_method_4_code 41 = .ok (.ishr, 1) := by decide +kernel
theorem d33_42 : decode jdk_52_method_4_code 42 = .ok (.i2b, 1) := by decide +kernel
theorem d33_43 : decode jdk_52_method_4_code 43 = .ok (.bastore, 1) := by decide +kernel
theorem d33_44 : decode jdk_52_method_4_code 44 = .ok (.aload_n 0, 1) := by decide +kernel
theorem d33_45 : decode jdk_52_method_4_code 45 = .ok (.iload_n 1, 1) := by decide +kernel
theorem d33_46 : decode jdk_52_method_4_code 46 = .ok (.iload_n 2, 1) := by decide +kernel
theorem d33_47 : decode jdk_52_method_4_code 47 = .ok (.getstatic 63, 3) := by decide +kernel
theorem d33_50 : decode jdk_52_method_4_code 50 = .ok (.ishr, 1) := by decide +kernel
theorem d33_51 : decode jdk_52_method_4_code 51 = .ok (.i2b, 1) := by decide +kernel
theorem d33_52 : decode jdk_52_method_4_code 52 = .ok (.bastore, 1) := by decide +kernel
theorem d33_53 : decode jdk_52_method_4_code 53 = .ok (.return_, 1) := by decide +kernel
def Q33 (Z : State) (o2 : Addr) (k2 : ClassId) (N : Int32) (ds : List Int32) (i ci : Int32) (cs : Int32) (fo : Value) (h0 : Heap) (n0 : Nat) (v : Option Value) (h : Heap) (L : List Loc) : Prop := v = none ∧ Fr n0 L ∧ Keep h0 h [o2] ∧ Arv Z h o2 k2 .byte N (List.map Value.int (ds ++ [own_b0 ci] ++ [own_b1 ci])) (.int 0)
set_option maxRecDepth 65536 in
set_option maxHeartbeats 40000000 in
theorem rm33 (l : Launch) (Z : State) (a0 : Array Value) (hw : ∀ d ∈ tables_1, d.before a0 Z = true) (ws : List Jvm.Cond) (o2 : Addr) (k2 : ClassId) (N : Int32) (ds : List Int32) (i ci : Int32) (cs : Int32) (fo : Value) (h0 : Heap) (n0 : Nat) (Z0 : n0 ≤ h0.size) (V2 : Arv Z h0 o2 k2 .byte N (List.map Value.int ds) (.int 0)) (hi0' : 0 ≤ i.toInt) (hi4 : i.toInt ≤ 4) (hN2 : 2 * i.toInt + 2 ≤ N.toInt) (hdl : (ds.length : Int) = 2 * i.toInt) (gn_o2 : n0 ≤ o2) (S_cs : Sta Z h0 "java/lang/String" "COMPACT_STRINGS" "Z" (.int cs)) (c_cs : ¬ (cs = (0 : Int32))) (S_fo : Sta Z h0 "jdk/internal/util/Preconditions" "SIOOBE_FORMATTER" "Ljava/util/function/BiFunction;" fo) (r_fo : Value.isRef fo = true) (S_ad : Sta Z h0 "java/lang/StringUTF16" "$assertionsDisabled" "Z" (.int 1)) (S_hi : Sta Z h0 "java/lang/StringUTF16" "HI_BYTE_SHIFT" "I" (.int 0)) (S_lo : Sta Z h0 "java/lang/StringUTF16" "LO_BYTE_SHIFT" "I" (.int 8)) :
    OwnM l Z nM31 jdk_52_method_4_code 3 none ws ({ frames := 0, cells := 0, slots := 0, locals := 0 } : Room) #[(.ref o2), (.int i), (.int ci)] h0 (Q33 Z o2 k2 N ds i ci cs fo h0 n0) := by
  refine own_body (plainFor_of_name pn_3) ?_
  intro p e s m below meth c s₁ G hx hby hml hZ hown hnm hret X0 e0 step fin
  replace hown : s.vm.findClass "java/lang/StringUTF16" = some m.cls := hown
  have N0 := Fr.nil n0
  have KK : OwnK p e below c _ G := ⟨step, hx, hby⟩
  refine step (s₁.setTop (mkF m 0 #[vr o2, vi i, vi ci] [])) (fun t k => castTop (ef_25 m o2 i ci) k) ?_
  have hd := own_dbl hi0' (by omega)
  have hd1 := own_i1 (i := (i <<< ((1 : Int32) &&& 31))) (by omega) (by omega)
  obtain ⟨T1, X1, e1, st1⟩ := getS2 X0 hx hZ hown (host := "") (Or.inl (ow hw 141 rfl)) Via.refl e0 S_ad (g := (mkF m 0 #[vr o2, vi i, vi ci] [])) rfl (hb hby d33_0)
  refine step (T1.setTop (mkF m 3 #[vr o2, vi i, vi ci] [(.int 1)])) (fun t k => st1 t k) ?_
  refine step (T1.setTop (mkF m 28 #[vr o2, vi i, vi ci] [])) (fun t k => XS.ifYes X1.here hx rfl (pc0 := 3) (pc' := 28) rfl (hb hby d33_3) rfl ((if0 _ _).trans (feq (by decide : ¬ ((1 : Int32) = (0 : Int32)))).2) (by decide) (by decide) k) ?_
  refine oil KK X1 d33_28 i 29 rfl rfl ?_
  refine oic KK X1 d33_29 1 30 rfl rfl ?_
  refine step (T1.setTop (mkF m 31 #[vr o2, vi i, vi ci] [(.int (i <<< ((1 : Int32) &&& 31)))])) (fun t k => XS.ishl X1.here hx rfl (hb hby d33_30) rfl k) ?_
  refine ois KK X1 d33_31 #[vr o2, .val (.int (i <<< ((1 : Int32) &&& 31))), vi ci] 32 rfl rfl ?_
  refine oal KK X1 d33_32 (.ref o2) 33 rfl rfl rfl ?_
  refine oil KK X1 d33_33 (i <<< ((1 : Int32) &&& 31)) 34 rfl rfl ?_
  refine oii KK X1 d33_34 #[vr o2, .val (.int ((i <<< ((1 : Int32) &&& 31)) + (1 : Int32))), vi ci] 37 rfl rfl rfl ?_
  refine oil KK X1 d33_37 ci 38 rfl rfl ?_
  obtain ⟨T2, X2, e2, st2⟩ := getS2 X1 hx hZ hown (host := "") (Or.inl (ow hw 142 rfl)) Via.refl e1 S_hi (g := (mkF m 38 #[vr o2, .val (.int ((i <<< ((1 : Int32) &&& 31)) + (1 : Int32))), vi ci] [(.int ci), (.int (i <<< ((1 : Int32) &&& 31))), (.ref o2)])) rfl (hb hby d33_38)
  refine step (T2.setTop (mkF m 41 #[vr o2, .val (.int ((i <<< ((1 : Int32) &&& 31)) + (1 : Int32))), vi ci] [(.int 0), (.int ci), (.int (i <<< ((1 : Int32) &&& 31))), (.ref o2)])) (fun t k => st2 t k) ?_
  refine step (T2.setTop (mkF m 42 #[vr o2, .val (.int ((i <<< ((1 : Int32) &&& 31)) + (1 : Int32))), vi ci] [(.int (ci >>> ((0 : Int32) &&& 31))), (.int (i <<< ((1 : Int32) &&& 31))), (.ref o2)])) (fun t k => XS.ishr X2.here hx rfl (hb hby d33_41) rfl k) ?_
  refine step (T2.setTop (mkF m 43 #[vr o2, .val (.int ((i <<< ((1 : Int32) &&& 31)) + (1 : Int32))), vi ci] [(.int ((ci >>> ((0 : Int32) &&& 31)).toInt8.toInt32)), (.int (i <<< ((1 : Int32) &&& 31))), (.ref o2)])) (fun t k => XS.i2b X2.here hx rfl (hb hby d33_42) rfl k) ?_
  obtain ⟨cl3, Ar3, q3, S3, N3n, H3, G3⟩ := id V2
  have hin3 : ¬ ((i <<< ((1 : Int32) &&& 31)) < 0 ∨ cl3.slots.size ≤ ((i <<< ((1 : Int32) &&& 31))).toNatClampNeg) := inb_of S3 ⟨own_nneg' (by omega), by rw [Int32.lt_iff_toInt_lt]; omega⟩
  obtain ⟨T3, h3, X3, e3, W3, st3⟩ := stB X2 hx hZ e2 Ar3 (j := (i <<< ((1 : Int32) &&& 31))) hin3 (g := (mkF m 43 #[vr o2, .val (.int ((i <<< ((1 : Int32) &&& 31)) + (1 : Int32))), vi ci] [(.int ((ci >>> ((0 : Int32) &&& 31)).toInt8.toInt32)), (.int (i <<< ((1 : Int32) &&& 31))), (.ref o2)])) rfl rfl (hb hby d33_43)
  have N3 := Fr.snoc X3 N0 gn_o2
  have K3 : Keep h0 h3 [o2] := (Keep.refl h0 [o2]).wr W3 (Or.inl (List.mem_of_getElem? (i := 0) rfl))
  have V3 : Arv Z h3 o2 k2 .byte N (List.map Value.int (ds ++ [(nar .byte ((ci >>> ((0 : Int32) &&& 31)).toInt8.toInt32))])) (.int 0) := own_push Ar3 q3 S3 N3n H3 G3 (fits_nar_byte ((ci >>> ((0 : Int32) &&& 31)).toInt8.toInt32)) W3 (by rw [own_tn]; omega)
  refine step (T3.setTop (mkF m 44 #[vr o2, .val (.int ((i <<< ((1 : Int32) &&& 31)) + (1 : Int32))), vi ci] [])) (fun t k => st3 t k) ?_
  refine oal KK X3 d33_44 (.ref o2) 45 rfl rfl rfl ?_
  refine oil KK X3 d33_45 ((i <<< ((1 : Int32) &&& 31)) + (1 : Int32)) 46 rfl rfl ?_
  refine oil KK X3 d33_46 ci 47 rfl rfl ?_
  have f4 := (S_lo.wr W3)
  obtain ⟨T5, X5, e5, st5⟩ := getS2 X3 hx hZ hown (host := "") (Or.inl (ow hw 143 rfl)) Via.refl e3 f4 (g := (mkF m 47 #[vr o2, .val (.int ((i <<< ((1 : Int32) &&& 31)) + (1 : Int32))), vi ci] [(.int ci), (.int ((i <<< ((1 : Int32) &&& 31)) + (1 : Int32))), (.ref o2)])) rfl (hb hby d33_47)
  refine step (T5.setTop (mkF m 50 #[vr o2, .val (.int ((i <<< ((1 : Int32) &&& 31)) + (1 : Int32))), vi ci] [(.int 8), (.int ci), (.int ((i <<< ((1 : Int32) &&& 31)) + (1 : Int32))), (.ref o2)])) (fun t k => st5 t k) ?_
  refine step (T5.setTop (mkF m 51 #[vr o2, .val (.int ((i <<< ((1 : Int32) &&& 31)) + (1 : Int32))), vi ci] [(.int (ci >>> ((8 : Int32) &&& 31))), (.int ((i <<< ((1 : Int32) &&& 31)) + (1 : Int32))), (.ref o2)])) (fun t k => XS.ishr X5.here hx rfl (hb hby d33_50) rfl k) ?_
  refine step (T5.setTop (mkF m 52 #[vr o2, .val (.int ((i <<< ((1 : Int32) &&& 31)) + (1 : Int32))), vi ci] [(.int ((ci >>> ((8 : Int32) &&& 31)).toInt8.toInt32)), (.int ((i <<< ((1 : Int32) &&& 31)) + (1 : Int32))), (.ref o2)])) (fun t k => XS.i2b X5.here hx rfl (hb hby d33_51) rfl k) ?_
  obtain ⟨cl6, Ar6, q6, S6, N6n, H6, G6⟩ := id V3
  have hin6 : ¬ (((i <<< ((1 : Int32) &&& 31)) + (1 : Int32)) < 0 ∨ cl6.slots.size ≤ (((i <<< ((1 : Int32) &&& 31)) + (1 : Int32))).toNatClampNeg) := inb_of S6 ⟨own_nneg' (by omega), by rw [Int32.lt_iff_toInt_lt]; omega⟩
  obtain ⟨T6, h6, X6, e6, W6, st6⟩ := stB X5 hx hZ e5 Ar6 (j := ((i <<< ((1 : Int32) &&& 31)) + (1 : Int32))) hin6 (g := (mkF m 52 #[vr o2, .val (.int ((i <<< ((1 : Int32) &&& 31)) + (1 : Int32))), vi ci] [(.int ((ci >>> ((8 : Int32) &&& 31)).toInt8.toInt32)), (.int ((i <<< ((1 : Int32) &&& 31)) + (1 : Int32))), (.ref o2)])) rfl rfl (hb hby d33_52)
  have N6 := Fr.snoc X6 N3 gn_o2
  have K6 : Keep h0 h6 [o2] := K3.wr W6 (Or.inl (List.mem_of_getElem? (i := 0) rfl))
  have V6 : Arv Z h6 o2 k2 .byte N (List.map Value.int ((ds ++ [(nar .byte ((ci >>> ((0 : Int32) &&& 31)).toInt8.toInt32))]) ++ [(nar .byte ((ci >>> ((8 : Int32) &&& 31)).toInt8.toInt32))])) (.int 0) := own_push Ar6 q6 S6 N6n H6 G6 (fits_nar_byte ((ci >>> ((8 : Int32) &&& 31)).toInt8.toInt32)) W6 (by rw [own_tn, List.length_append]; show _ = ds.length + 1; omega)
  refine step (T6.setTop (mkF m 53 #[vr o2, .val (.int ((i <<< ((1 : Int32) &&& 31)) + (1 : Int32))), vi ci] [])) (fun t k => st6 t k) ?_
  refine fin (v := none) X6 (fun _ => rfl) ?_ (by decide) (by decide) (fun fs hr => X6.returnOut hx hret (hb hby d33_53) hr)
  show Q33 Z o2 k2 N ds i ci cs fo h0 n0 (none) T6.heap _
  rw [e6]
  exact ⟨rfl, N6, K6, V6⟩
theorem d31_0 : decode jdk_52_method_2_code 0 = .ok (.iload_n 0, 1) := by decide +kernel
theorem d31_1 : decode jdk_52_method_2_code 1 = .ok (.invokestatic 11, 3) := by decide +kernel
theorem d31_4 : decode jdk_52_method_2_code 4 = .ok (.newarray .byte, 2) := by decide +kernel
theorem d31_6 : decode jdk_52_method_2_code 6 = .ok (.areturn, 1) := by decide +kernel
def Q31 (Z : State) (n : Int32) (h0 : Heap) (n0 : Nat) (v : Option Value) (h : Heap) (L : List Loc) : Prop := ∃ (rb : Addr) (rk : ClassId), v = some (.ref rb) ∧ Fr n0 L ∧ Keep h0 h [] ∧ h0.size ≤ rb ∧ Arv Z h rb rk .byte (n <<< ((1 : Int32) &&& 31)) (List.map Value.int []) (.int 0)
set_option maxRecDepth 65536 in
set_option maxHeartbeats 40000000 in
theorem rm31 (l : Launch) (Z : State) (a0 : Array Value) (hw : ∀ d ∈ tables_1, d.before a0 Z = true) (ws : List Jvm.Cond) (n : Int32) (h0 : Heap) (n0 : Nat) (Z0 : n0 ≤ h0.size) (hn0 : 0 ≤ n.toInt) (hn5 : n.toInt ≤ 5) :
    OwnM l Z nM32 jdk_52_method_2_code 1 (some (.array .byte)) ws ({ frames := 1, cells := 1, slots := 10, locals := 12 } : Room) #[(.int n)] h0 (Q31 Z n h0 n0) := by
  refine own_body (plainFor_of_name pn_3) ?_
  intro p e s m below meth c s₁ G hx hby hml hZ hown hnm hret X0 e0 step fin
  replace hown : s.vm.findClass "java/lang/StringUTF16" = some m.cls := hown
  have N0 := Fr.nil n0
  have KK : OwnK p e below c _ G := ⟨step, hx, hby⟩
  refine step (s₁.setTop (mkF m 0 #[vi n] [])) (fun t k => castTop (ef_23 m n) k) ?_
  have hd := own_dbl hn0 (by omega)
  have hz0 : ¬ ((n <<< ((1 : Int32) &&& 31)) < (0 : Int32)) := own_nneg' (by omega)
  have hz1 : ((n <<< ((1 : Int32) &&& 31))).toNatClampNeg ≤ 10 := by rw [own_tn]; omega
  have hy0 : ¬ (n < (0 : Int32)) := own_nneg' hn0
  have hy1 : n < (1073741823 : Int32) := by rw [Int32.lt_iff_toInt_lt, show (1073741823 : Int32).toInt = 1073741823 by decide]; omega
  refine oil KK X0 d31_0 n 1 rfl rfl ?_
  obtain ⟨_, _, ⟨T1, L1, k1, n1⟩, -, X1, ⟨Lc1, hQ1, l1, y1, z1⟩, st1⟩ := Jvm.LawKit.callS X0 hx (y := nM20) hown (mvT hZ (ow hw 134 rfl)) (mvT hZ (ow hw 135 rfl)) (mvT hZ (ow hw 69 rfl)) (mvT hZ (ow hw 136 rfl)) (by decide) (backOf (W := 0) (rm32_18 l Z a0 hw [] n h0 n0 Z0 hy0 hy1) hZ (ow hw 136 rfl) (ow hw 69 rfl) (by decide) (by decide)) (g := (mkF m 1 #[vi n] [(.int n)])) rfl (by rw [hml]; rfl) (argsL := [(.int n)]) (rest := []) (lenOf pd_14 rfl) rfl (omw rfl rfl) (hb hby d31_1) (fun _ _ => ⟨rfl, e0, (by decide : 0 + 0 ≤ _), (by decide : 0 + 0 ≤ _)⟩)
  dsimp only [Pt.U, Pt.locs, Pt.cells, Pt.slots] at X1 l1 y1 z1 st1 hQ1
  subst l1 y1 z1
  obtain ⟨rfl, N1q, e1q⟩ := hQ1
  have N1 := Fr.app N0 N1q
  refine step (T1.setTop (mkF m 4 #[vi n] [(.int (n <<< ((1 : Int32) &&& 31)))])) (fun t k => st1 t k) ?_
  obtain ⟨T2, h2, k2, X2, e2, E2, A2, st2⟩ := newP X1 hx hZ (ow hw 23 rfl) e1q (g := (mkF m 4 #[vi n] [(.int (n <<< ((1 : Int32) &&& 31)))])) rfl (hb hby d31_4) rfl hz0 (cap := 10) hz1 (by decide) (by decide) (by decide)
  obtain ⟨b2, g2⟩ : ∃ z, z = h0.size := ⟨_, rfl⟩
  rw [← g2] at A2 st2
  have gn_b2 : n0 ≤ b2 := Nat.le_trans Z0 (Nat.le_of_eq g2.symm)
  have sz_b2 : h0.size ≤ b2 := Nat.le_of_eq g2.symm
  have K2 : Keep h0 h2 [] := (Keep.refl h0 []).ext E2
  have V2 : Arv Z h2 b2 k2 .byte (n <<< ((1 : Int32) &&& 31)) (List.map Value.int []) (.int 0) := Arv.new A2 hz0
  refine step (T2.setTop (mkF m 6 #[vi n] [(.ref b2)])) (fun t k => st2 t k) ?_
  refine fin (v := some (.ref b2)) X2 (fun h => by cases h) ?_ (by decide) (by decide) (fun fs hr => X2.areturnOut hx rfl hret rfl (hb hby d31_6) hr)
  show Q31 Z n h0 n0 (some (.ref b2)) T2.heap _
  rw [e2]
  exact ⟨b2, k2, rfl, N1, K2, sz_b2, V2⟩
theorem d30_0 : decode jdk_52_method_14_code 0 = .ok (.iload_n 2, 1) := by decide +kernel
theorem d30_1 : decode jdk_52_method_14_code 1 = .ok (.invokestatic 107, 3) := by decide +kernel
theorem d30_4 : decode jdk_52_method_14_code 4 = .ok (.astore_n 3, 1) := by decide +kernel
theorem d30_5 : decode jdk_52_method_14_code 5 = .ok (.iconst 0, 1) := by decide +kernel
theorem d30_6 : decode jdk_52_method_14_code 6 = .ok (.istore 4, 2) := by decide +kernel
theorem d30_8 : decode jdk_52_method_14_code 8 = .ok (.iload 4, 2) := by decide +kernel
theorem d30_10 : decode jdk_52_method_14_code 10 = .ok (.iload_n 2, 1) := by decide +kernel
theorem d30_11 : decode jdk_52_method_14_code 11 = .ok (.if_icmp .ge 21, 3) := by decide +kernel
theorem d30_14 : decode jdk_52_method_14_code 14 = .ok (.aload_n 3, 1) := by decide +kernel
theorem d30_15 : decode jdk_52_method_14_code 15 = .ok (.iload 4, 2) := by decide +kernel
theorem d30_17 : decode jdk_52_method_14_code 17 = .ok (.aload_n 0, 1) := by decide +kernel
theorem d30_18 : decode jdk_52_method_14_code 18 = .ok (.iload_n 1, 1) := by decide +kernel
theorem d30_19 : decode jdk_52_method_14_code 19 = .ok (.caload, 1) := by decide +kernel
theorem d30_20 : decode jdk_52_method_14_code 20 = .ok (.invokestatic 111, 3) := by decide +kernel
theorem d30_23 : decode jdk_52_method_14_code 23 = .ok (.iinc 1 1, 3) := by decide +kernel
theorem d30_26 : decode jdk_52_method_14_code 26 = .ok (.iinc 4 1, 3) := by decide +kernel
theorem d30_29 : decode jdk_52_method_14_code 29 = .ok (.goto (-21), 3) := by decide +kernel
theorem d30_32 : decode jdk_52_method_14_code 32 = .ok (.aload_n 3, 1) := by decide +kernel
theorem d30_33 : decode jdk_52_method_14_code 33 = .ok (.areturn, 1) := by decide +kernel
theorem pd_24 : parseMethodDescriptor "(I)[B" = some ⟨[.int], some (.array .byte)⟩ := by decide +kernel
theorem pd_25 : parseMethodDescriptor "([BII)V" = some ⟨[(.array .byte), .int, .int], none⟩ := by decide +kernel
theorem ef_30 (m : MethodId) (x0 : Addr) (x2 : Int32) : entryFrame m #[(.ref x0), (.int 0), (.int x2)] 5 = mkF m 0 #[.val (.ref x0), .val (.int 0), .val (.int x2), .unset, .unset] [] := by first | (simp [entryFrame, mkF, argsToLocals, Value.category]; done) | rfl
def Q30 (Z : State) (oc : Addr) (kd : ClassId) (xs : List Int32) (n : Int32) (cs : Int32) (fo : Value) (h0 : Heap) (n0 : Nat) (v : Option Value) (h : Heap) (L : List Loc) : Prop := ∃ (rb : Addr) (rk : ClassId) (rN : Int32), v = some (.ref rb) ∧ Fr n0 L ∧ Keep h0 h [] ∧ h0.size ≤ rb ∧ Arv Z h rb rk .byte rN (List.map Value.int (own_u xs)) (.int 0) ∧ rN.toInt = 2 * xs.length
set_option maxRecDepth 65536 in
set_option maxHeartbeats 40000000 in
theorem rm30 (l : Launch) (Z : State) (a0 : Array Value) (hw : ∀ d ∈ tables_1, d.before a0 Z = true) (ws : List Jvm.Cond) (oc : Addr) (kd : ClassId) (xs : List Int32) (n : Int32) (cs : Int32) (fo : Value) (h0 : Heap) (n0 : Nat) (Z0 : n0 ≤ h0.size) (Vc : Arv Z h0 oc kd .char n (List.map Value.int xs) (.int 0)) (hn : n.toInt = xs.length) (h5 : xs.length ≤ 5) (hch : ∀ c ∈ xs, 0 ≤ c.toInt ∧ c.toInt < 65536) (S_cs : Sta Z h0 "java/lang/String" "COMPACT_STRINGS" "Z" (.int cs)) (c_cs : ¬ (cs = (0 : Int32))) (S_fo : Sta Z h0 "jdk/internal/util/Preconditions" "SIOOBE_FORMATTER" "Ljava/util/function/BiFunction;" fo) (r_fo : Value.isRef fo = true) (S_ad : Sta Z h0 "java/lang/StringUTF16" "$assertionsDisabled" "Z" (.int 1)) (S_hi : Sta Z h0 "java/lang/StringUTF16" "HI_BYTE_SHIFT" "I" (.int 0)) (S_lo : Sta Z h0 "java/lang/StringUTF16" "LO_BYTE_SHIFT" "I" (.int 8)) :
    OwnM l Z nM33 jdk_52_method_14_code 5 (some (.array .byte)) ws ({ frames := 2, cells := 1, slots := 10, locals := 24 } : Room) #[(.ref oc), (.int 0), (.int n)] h0 (Q30 Z oc kd xs n cs fo h0 n0) := by
  refine own_body (plainFor_of_name pn_3) ?_
  intro p e s m below meth c s₁ G hx hby hml hZ hown hnm hret X0 e0 step fin
  replace hown : s.vm.findClass "java/lang/StringUTF16" = some m.cls := hown
  have N0 := Fr.nil n0
  have KK : OwnK p e below c _ G := ⟨step, hx, hby⟩
  refine step (s₁.setTop (mkF m 0 #[vr oc, vi 0, vi n, .unset, .unset] [])) (fun t k => castTop (ef_30 m oc n) k) ?_
  refine oil KK X0 d30_0 n 1 rfl rfl ?_
  obtain ⟨_, _, ⟨T1, L1, k1, n1⟩, -, X1, ⟨Lc1, hQ1, l1, y1, z1⟩, st1⟩ := Jvm.LawKit.callS X0 hx (y := nM32) hown (mvT hZ (ow hw 131 rfl)) (mvT hZ (ow hw 132 rfl)) (mvT hZ (ow hw 69 rfl)) (mvT hZ (ow hw 133 rfl)) (by decide) (backOf (W := 0) (rm31 l Z a0 hw [] n h0 n0 Z0 (by omega) (by omega)) hZ (ow hw 133 rfl) (ow hw 69 rfl) (by decide) (by decide)) (g := (mkF m 1 #[vr oc, vi 0, vi n, .unset, .unset] [(.int n)])) rfl (by rw [hml]; rfl) (argsL := [(.int n)]) (rest := []) (lenOf pd_24 rfl) rfl (omw rfl rfl) (hb hby d30_1) (fun _ _ => ⟨rfl, e0, (by decide : 0 + 1 ≤ _), (by decide : 0 + 10 ≤ _)⟩)
  dsimp only [Pt.U, Pt.locs, Pt.cells, Pt.slots] at X1 l1 y1 z1 st1 hQ1
  subst l1 y1 z1
  obtain ⟨h1, e1⟩ : ∃ z, T1.heap = z := ⟨_, rfl⟩
  rw [e1] at hQ1
  obtain ⟨rb1, rk1, rfl, N1q, K1q, sz_rb1, Vr1⟩ := hQ1
  have N1 := Fr.app N0 N1q
  have lt1_oc := Vc.lt
  have ne_oc_rb1 : oc ≠ rb1 := Nat.ne_of_lt (Nat.lt_of_lt_of_le lt1_oc sz_rb1)
  have gn_rb1 : n0 ≤ rb1 := Nat.le_trans Z0 sz_rb1
  have K1 : Keep h0 h1 [] := (Keep.refl h0 []).trans K1q all0
  have f2 := own_staK S_cs K1q all0
  have f3 := own_staK S_fo K1q all0
  have f4 := own_staK S_ad K1q all0
  have f5 := own_staK S_hi K1q all0
  have f6 := own_staK S_lo K1q all0
  refine step (T1.setTop (mkF m 4 #[vr oc, vi 0, vi n, .unset, .unset] [(.ref rb1)])) (fun t k => st1 t k) ?_
  refine step (T1.setTop (mkF m 5 #[vr oc, vi 0, vi n, vr rb1, .unset] [])) (fun t k => XS.astoreN X1.here hx rfl (hb hby d30_4) rfl rfl (l' := #[vr oc, vi 0, vi n, vr rb1, .unset]) rfl k) ?_
  refine oic KK X1 d30_5 0 6 rfl rfl ?_
  refine oiS KK X1 d30_6 #[vr oc, vi 0, vi n, vr rb1, vi 0] 8 rfl rfl ?_
  have z0 : (0 : Int32).toInt = 0 := by decide
  have hd := own_dbl (x := n) (by omega) (by omega)
  suffices loop : ∀ (kk : Nat) (i : Int32) (ds : List Int32) (T : State) (LL : List Loc) (hh : Heap), Stand p l e ({ frames := 2, cells := 1, slots := 10, locals := 24 } : Room) s m #[.ref oc, .int 0, .int n] below meth c T LL 1 10 → T.heap = hh → Fr n0 LL → Keep h0 hh [] → Arv Z hh rb1 rk1 .byte (n <<< ((1 : Int32) &&& 31)) (List.map Value.int ds) (.int 0) → 0 ≤ i.toInt → i.toInt ≤ n.toInt → ds = own_u (xs.take i.toInt.toNat) → n.toInt < i.toInt + kk → G (T.setTop (mkF m 8 #[vr oc, vi i, vi n, vr rb1, vi i] [])) by exact loop 6 0 [] _ _ _ X1 e1 N1 K1 Vr1 (by rw [z0]; omega) (by rw [z0]; omega) (by rw [z0]; rfl) (by rw [z0]; omega)
  intro kk
  induction kk with
  | zero => intro i ds T LL hh XX eT NN KQ VV hi0' hin hds hk; exact absurd hk (by omega)
  | succ kk ih =>
    intro i ds T LL hh XX eT NN KQ VV hi0' hin hds hk
    have hi0 : ¬ (i < (0 : Int32)) := own_nneg' hi0'
    have hdl : (ds.length : Int) = 2 * i.toInt := by rw [hds, own_uLen, List.length_take]; omega
    have L_S_cs := own_staK S_cs KQ all0
    have L_S_fo := own_staK S_fo KQ all0
    have L_S_ad := own_staK S_ad KQ all0
    have L_S_hi := own_staK S_hi KQ all0
    have L_S_lo := own_staK S_lo KQ all0
    have L_Vc := Vc.keep KQ nin0
    refine oiL KK XX d30_8 i 10 rfl rfl ?_
    refine oil KK XX d30_10 n 11 rfl rfl ?_
    by_cases hc11_7 : i < n
    · -- pc 11: i < n True
      refine oin KK XX d30_11 14 rfl (tlt hc11_7).2.1 ?_
      have hlt := own_ltI hc11_7
      refine oal KK XX d30_14 (.ref rb1) 15 rfl rfl rfl ?_
      refine oiL KK XX d30_15 i 17 rfl rfl ?_
      refine oal KK XX d30_17 (.ref oc) 18 rfl rfl rfl ?_
      refine oil KK XX d30_18 i 19 rfl rfl ?_
      obtain ⟨cl8, Ar8, q8, S8, N8n, H8, G8⟩ := id L_Vc
      have hin8 : ¬ (i < 0 ∨ cl8.slots.size ≤ (i).toNatClampNeg) := inb_of S8 ⟨hi0, hc11_7⟩
      have hat8 : cl8.slots[(i).toNatClampNeg]? = some (.int (List.getD xs (i).toNatClampNeg (0 : Int32))) := H8.at hin8 (own_getD xs _ _)
      refine step (T.setTop (mkF m 20 #[vr oc, vi i, vi n, vr rb1, vi i] [(.int (List.getD xs (i).toNatClampNeg (0 : Int32))), (.int i), (.ref rb1)])) (fun t k => XX.caload hx (j := i) (v := (.int (List.getD xs (i).toNatClampNeg (0 : Int32)))) (by rw [eT]; exact Ar8.1) (State.isArrayOf_alike hZ.alike Ar8.2.1) Ar8.2.2 hin8 hat8 (g := (mkF m 19 #[vr oc, vi i, vi n, vr rb1, vi i] [(.int i), (.ref oc), (.int i), (.ref rb1)])) rfl rfl (hb hby d30_19) t k) ?_
      obtain ⟨_, _, ⟨T9, L9, k9, n9⟩, -, X9, ⟨Lc9, hQ9, l9, y9, z9⟩, st9⟩ := Jvm.LawKit.callS XX hx (y := nM31) hown (mvT hZ (ow hw 138 rfl)) (mvT hZ (ow hw 139 rfl)) (mvT hZ (ow hw 69 rfl)) (mvT hZ (ow hw 140 rfl)) (by decide) (backOf (W := 0) (rm33 l Z a0 hw [] rb1 rk1 (n <<< ((1 : Int32) &&& 31)) ds i (List.getD xs (i).toNatClampNeg (0 : Int32)) cs fo hh n0 (Nat.le_trans Z0 KQ.1) VV hi0' (by omega) (by omega) hdl gn_rb1 L_S_cs c_cs L_S_fo r_fo L_S_ad L_S_hi L_S_lo) hZ (ow hw 140 rfl) (ow hw 69 rfl) (by decide) (by decide)) (g := (mkF m 20 #[vr oc, vi i, vi n, vr rb1, vi i] [(.int (List.getD xs (i).toNatClampNeg (0 : Int32))), (.int i), (.ref rb1)])) rfl (by rw [hml]; rfl) (argsL := [(.ref rb1), (.int i), (.int (List.getD xs (i).toNatClampNeg (0 : Int32)))]) (rest := []) (lenOf pd_25 rfl) rfl (omw rfl rfl) (hb hby d30_20) (fun _ _ => ⟨rfl, eT, (by decide : 1 + 0 ≤ _), (by decide : 10 + 0 ≤ _)⟩)
      dsimp only [Pt.U, Pt.locs, Pt.cells, Pt.slots] at X9 l9 y9 z9 st9 hQ9
      subst l9 y9 z9
      obtain ⟨h9, e9⟩ : ∃ z, T9.heap = z := ⟨_, rfl⟩
      rw [e9] at hQ9
      obtain ⟨rfl, N9q, K9q, Vp9⟩ := hQ9
      have N9 := Fr.app NN N9q
      have K9 : Keep h0 h9 [] := KQ.trans K9q (allS (Or.inr sz_rb1) all0)
      have f10 := own_staK L_S_cs K9q (allS (own_arvP VV) all0)
      have f11 := own_staK L_S_fo K9q (allS (own_arvP VV) all0)
      have f12 := own_staK L_S_ad K9q (allS (own_arvP VV) all0)
      have f13 := own_staK L_S_hi K9q (allS (own_arvP VV) all0)
      have f14 := own_staK L_S_lo K9q (allS (own_arvP VV) all0)
      refine step (T9.setTop (mkF m 23 #[vr oc, vi i, vi n, vr rb1, vi i] [])) (fun t k => st9 t k) ?_
      refine oii KK X9 d30_23 #[vr oc, .val (.int (i + (1 : Int32))), vi n, vr rb1, vi i] 26 rfl rfl rfl ?_
      refine oii KK X9 d30_26 #[vr oc, .val (.int (i + (1 : Int32))), vi n, vr rb1, .val (.int (i + (1 : Int32)))] 29 rfl rfl rfl ?_
      refine ogo KK X9 d30_29 8 (by decide) rfl ?_
      have i1 := own_i1 (i := i) hi0' (by omega)
      refine ih (i + (1 : Int32)) _ _ _ _ X9 e9 N9 K9 Vp9 (by omega) (by omega) ?_ (by omega)
      rw [i1, show (i.toInt + 1).toNat = i.toInt.toNat + 1 by omega, hds]
      exact own_tkU xs (by omega)
    · -- pc 11: i < n False
      refine oiy KK XX d30_11 32 (flt hc11_7).2.1 (by decide) rfl ?_
      refine oal KK XX d30_32 (.ref rb1) 33 rfl rfl rfl ?_
      refine fin (v := some (.ref rb1)) XX (fun h => by cases h) ?_ (by decide) (by decide) (fun fs hr => XX.areturnOut hx rfl hret rfl (hb hby d30_33) hr)
      show Q30 Z oc kd xs n cs fo h0 n0 (some (.ref rb1)) T.heap _
      rw [eT]
      have hie := own_nltI hc11_7
      have f := VV
      rw [hds, show i.toInt.toNat = xs.length by omega, List.take_length] at f
      exact ⟨rb1, rk1, _, rfl, NN, KQ, sz_rb1, f, by omega⟩
theorem d14_0 : decode jdk_52_method_16_code 0 = .ok (.iload_n 2, 1) := by decide +kernel
theorem d14_1 : decode jdk_52_method_16_code 1 = .ok (.newarray .byte, 2) := by decide +kernel
theorem d14_3 : decode jdk_52_method_16_code 3 = .ok (.astore_n 3, 1) := by decide +kernel
theorem d14_4 : decode jdk_52_method_16_code 4 = .ok (.aload_n 0, 1) := by decide +kernel
theorem d14_5 : decode jdk_52_method_16_code 5 = .ok (.iload_n 1, 1) := by decide +kernel
theorem d14_6 : decode jdk_52_method_16_code 6 = .ok (.aload_n 3, 1) := by decide +kernel
theorem d14_7 : decode jdk_52_method_16_code 7 = .ok (.iconst 0, 1) := by decide +kernel
theorem d14_8 : decode jdk_52_method_16_code 8 = .ok (.iload_n 2, 1) := by decide +kernel
theorem d14_9 : decode jdk_52_method_16_code 9 = .ok (.invokestatic 115, 3) := by decide +kernel
theorem d14_12 : decode jdk_52_method_16_code 12 = .ok (.istore 4, 2) := by decide +kernel
theorem d14_14 : decode jdk_52_method_16_code 14 = .ok (.iload 4, 2) := by decide +kernel
theorem d14_16 : decode jdk_52_method_16_code 16 = .ok (.iload_n 2, 1) := by decide +kernel
theorem d14_17 : decode jdk_52_method_16_code 17 = .ok (.if_icmp .eq 40, 3) := by decide +kernel
theorem d14_20 : decode jdk_52_method_16_code 20 = .ok (.aload_n 0, 1) := by decide +kernel
theorem d14_21 : decode jdk_52_method_16_code 21 = .ok (.iload_n 1, 1) := by decide +kernel
theorem d14_22 : decode jdk_52_method_16_code 22 = .ok (.iload_n 2, 1) := by decide +kernel
theorem d14_23 : decode jdk_52_method_16_code 23 = .ok (.invokestatic 119, 3) := by decide +kernel
theorem d14_26 : decode jdk_52_method_16_code 26 = .ok (.astore 5, 2) := by decide +kernel
theorem d14_28 : decode jdk_52_method_16_code 28 = .ok (.aload 5, 2) := by decide +kernel
theorem d14_30 : decode jdk_52_method_16_code 30 = .ok (.iload 4, 2) := by decide +kernel
theorem d14_32 : decode jdk_52_method_16_code 32 = .ok (.invokestatic 71, 3) := by decide +kernel
theorem d14_35 : decode jdk_52_method_16_code 35 = .ok (.sipush 255, 3) := by decide +kernel
theorem d14_38 : decode jdk_52_method_16_code 38 = .ok (.if_icmp .gt 16, 3) := by decide +kernel
theorem d14_41 : decode jdk_52_method_16_code 41 = .ok (.aload 5, 2) := by decide +kernel
theorem d14_43 : decode jdk_52_method_16_code 43 = .ok (.iconst 0, 1) := by decide +kernel
theorem d14_44 : decode jdk_52_method_16_code 44 = .ok (.aload_n 3, 1) := by decide +kernel
theorem d14_45 : decode jdk_52_method_16_code 45 = .ok (.iconst 0, 1) := by decide +kernel
theorem d14_46 : decode jdk_52_method_16_code 46 = .ok (.iload_n 2, 1) := by decide +kernel
theorem d14_47 : decode jdk_52_method_16_code 47 = .ok (.invokestatic 123, 3) := by decide +kernel
theorem d14_50 : decode jdk_52_method_16_code 50 = .ok (.iload_n 2, 1) := by decide +kernel
theorem d14_51 : decode jdk_52_method_16_code 51 = .ok (.if_icmp .eq 6, 3) := by decide +kernel
theorem d14_54 : decode jdk_52_method_16_code 54 = .ok (.aload 5, 2) := by decide +kernel
theorem d14_56 : decode jdk_52_method_16_code 56 = .ok (.areturn, 1) := by decide +kernel
theorem d14_57 : decode jdk_52_method_16_code 57 = .ok (.aload_n 3, 1) := by decide +kernel
theorem d14_58 : decode jdk_52_method_16_code 58 = .ok (.areturn, 1) := by decide +kernel
theorem pd_26 : parseMethodDescriptor "([CI[BII)I" = some ⟨[(.array .char), .int, (.array .byte), .int, .int], some .int⟩ := by decide +kernel
theorem pd_27 : parseMethodDescriptor "([CII)[B" = some ⟨[(.array .char), .int, .int], some (.array .byte)⟩ := by decide +kernel
theorem ef_14 (m : MethodId) (x0 : Addr) (x2 : Int32) : entryFrame m #[(.ref x0), (.int 0), (.int x2)] 6 = mkF m 0 #[.val (.ref x0), .val (.int 0), .val (.int x2), .unset, .unset, .unset] [] := by first | (simp [entryFrame, mkF, argsToLocals, Value.category]; done) | rfl
def Q14 (Z : State) (oc : Addr) (kd : ClassId) (xs : List Int32) (n : Int32) (cs : Int32) (fo : Value) (h0 : Heap) (n0 : Nat) (v : Option Value) (h : Heap) (L : List Loc) : Prop := ∃ (rb : Addr) (rk : ClassId) (rco rN : Int32) (rbs : List Int32), v = some (.ref rb) ∧ Fr n0 L ∧ Keep h0 h [] ∧ h0.size ≤ rb ∧ Arv Z h rb rk .byte rN (List.map Value.int rbs) (.int 0) ∧ OS xs n rco rN rbs
set_option maxRecDepth 65536 in
set_option maxHeartbeats 40000000 in
theorem rm14 (l : Launch) (Z : State) (a0 : Array Value) (hw : ∀ d ∈ tables_1, d.before a0 Z = true) (ws : List Jvm.Cond) (oc : Addr) (kd : ClassId) (xs : List Int32) (n : Int32) (cs : Int32) (fo : Value) (h0 : Heap) (n0 : Nat) (Z0 : n0 ≤ h0.size) (Vc : Arv Z h0 oc kd .char n (List.map Value.int xs) (.int 0)) (hn : n.toInt = xs.length) (h5 : xs.length ≤ 5) (hch : ∀ c ∈ xs, 0 ≤ c.toInt ∧ c.toInt < 65536) (S_cs : Sta Z h0 "java/lang/String" "COMPACT_STRINGS" "Z" (.int cs)) (c_cs : ¬ (cs = (0 : Int32))) (S_fo : Sta Z h0 "jdk/internal/util/Preconditions" "SIOOBE_FORMATTER" "Ljava/util/function/BiFunction;" fo) (r_fo : Value.isRef fo = true) (S_ad : Sta Z h0 "java/lang/StringUTF16" "$assertionsDisabled" "Z" (.int 1)) (S_hi : Sta Z h0 "java/lang/StringUTF16" "HI_BYTE_SHIFT" "I" (.int 0)) (S_lo : Sta Z h0 "java/lang/StringUTF16" "LO_BYTE_SHIFT" "I" (.int 8)) :
    OwnM l Z nM34 jdk_52_method_16_code 6 (some (.array .byte)) ws ({ frames := 3, cells := 2, slots := 15, locals := 40 } : Room) #[(.ref oc), (.int 0), (.int n)] h0 (Q14 Z oc kd xs n cs fo h0 n0) := by
  refine own_body (plainFor_of_name pn_3) ?_
  intro p e s m below meth c s₁ G hx hby hml hZ hown hnm hret X0 e0 step fin
  replace hown : s.vm.findClass "java/lang/StringUTF16" = some m.cls := hown
  have N0 := Fr.nil n0
  have KK : OwnK p e below c _ G := ⟨step, hx, hby⟩
  refine step (s₁.setTop (mkF m 0 #[vr oc, vi 0, vi n, .unset, .unset, .unset] [])) (fun t k => castTop (ef_14 m oc n) k) ?_
  have hl5 : ¬ (n < (0 : Int32)) := own_nneg' (by omega)
  have hl6 : n.toNatClampNeg ≤ 5 := by rw [own_tn]; omega
  refine oil KK X0 d14_0 n 1 rfl rfl ?_
  obtain ⟨T1, h1, k1, X1, e1, E1, A1, st1⟩ := newP X0 hx hZ (ow hw 23 rfl) e0 (g := (mkF m 1 #[vr oc, vi 0, vi n, .unset, .unset, .unset] [(.int n)])) rfl (hb hby d14_1) rfl hl5 (cap := 5) hl6 (by decide) (by decide) (by decide)
  obtain ⟨b1, g1⟩ : ∃ z, z = h0.size := ⟨_, rfl⟩
  rw [← g1] at A1 st1
  have ne_oc_b1 : oc ≠ b1 := Nat.ne_of_lt (Nat.lt_of_lt_of_le Vc.lt (Nat.le_of_eq g1.symm))
  have gn_b1 : n0 ≤ b1 := Nat.le_trans Z0 (Nat.le_of_eq g1.symm)
  have sz_b1 : h0.size ≤ b1 := Nat.le_of_eq g1.symm
  have K1 : Keep h0 h1 [] := (Keep.refl h0 []).ext E1
  have V1 : Arv Z h1 b1 k1 .byte n (List.map Value.int []) (.int 0) := Arv.new A1 hl5
  refine step (T1.setTop (mkF m 3 #[vr oc, vi 0, vi n, .unset, .unset, .unset] [(.ref b1)])) (fun t k => st1 t k) ?_
  refine step (T1.setTop (mkF m 4 #[vr oc, vi 0, vi n, vr b1, .unset, .unset] [])) (fun t k => XS.astoreN X1.here hx rfl (hb hby d14_3) rfl rfl (l' := #[vr oc, vi 0, vi n, vr b1, .unset, .unset]) rfl k) ?_
  refine oal KK X1 d14_4 (.ref oc) 5 rfl rfl rfl ?_
  refine oil KK X1 d14_5 (0 : Int32) 6 rfl rfl ?_
  refine oal KK X1 d14_6 (.ref b1) 7 rfl rfl rfl ?_
  refine oic KK X1 d14_7 0 8 rfl rfl ?_
  refine oil KK X1 d14_8 n 9 rfl rfl ?_
  have f2 := (Vc.ext E1)
  obtain ⟨_, _, ⟨T3, L3, k3, n3⟩, -, X3, ⟨Lc3, hQ3, l3, y3, z3⟩, st3⟩ := Jvm.LawKit.callS X1 hx (y := nM30) hown (mvT hZ (ow hw 71 rfl)) (mvT hZ (ow hw 72 rfl)) (mvT hZ (ow hw 69 rfl)) (mvT hZ (ow hw 73 rfl)) (by decide) (backOf (W := 0) (rm15 l Z a0 hw [] oc kd xs n b1 k1 h1 n0 (Nat.le_trans Z0 K1.1) f2 hn h5 hch V1 ne_oc_b1 gn_b1) hZ (ow hw 73 rfl) (ow hw 69 rfl) (by decide) (by decide)) (g := (mkF m 9 #[vr oc, vi 0, vi n, vr b1, .unset, .unset] [(.int n), (.int 0), (.ref b1), (.int 0), (.ref oc)])) rfl (by rw [hml]; rfl) (argsL := [(.ref oc), (.int 0), (.ref b1), (.int 0), (.int n)]) (rest := []) (lenOf pd_26 rfl) rfl (omw rfl rfl) (hb hby d14_9) (fun _ _ => ⟨rfl, e1, (by decide : 1 + 0 ≤ _), (by decide : 5 + 0 ≤ _)⟩)
  dsimp only [Pt.U, Pt.locs, Pt.cells, Pt.slots] at X3 l3 y3 z3 st3 hQ3
  subst l3 y3 z3
  obtain ⟨h3, e3⟩ : ∃ z, T3.heap = z := ⟨_, rfl⟩
  rw [e3] at hQ3
  obtain ⟨jj3, rfl, N3q, K3q, jd3⟩ := hQ3
  have N3 := Fr.app N0 N3q
  have f4 := (S_cs.ext E1)
  have f5 := (S_fo.ext E1)
  have f6 := (S_ad.ext E1)
  have f7 := (S_hi.ext E1)
  have f8 := (S_lo.ext E1)
  have K3 : Keep h0 h3 [] := K1.trans K3q (allS (Or.inr sz_b1) all0)
  have f9 := own_staK f4 K3q (allS (own_arvP V1) all0)
  have f10 := own_staK f5 K3q (allS (own_arvP V1) all0)
  have f11 := own_staK f6 K3q (allS (own_arvP V1) all0)
  have f12 := own_staK f7 K3q (allS (own_arvP V1) all0)
  have f13 := own_staK f8 K3q (allS (own_arvP V1) all0)
  refine step (T3.setTop (mkF m 12 #[vr oc, vi 0, vi n, vr b1, .unset, .unset] [(.int jj3)])) (fun t k => st3 t k) ?_
  refine oiS KK X3 d14_12 #[vr oc, vi 0, vi n, vr b1, vi jj3, .unset] 14 rfl rfl ?_
  rcases jd3 with ⟨rfl, jl, jV⟩ | ⟨j0, j1, j2⟩
  ·
    refine oiL KK X3 d14_14 n 16 rfl rfl ?_
    refine oil KK X3 d14_16 n 17 rfl rfl ?_
    refine oiy KK X3 d14_17 57 (teq (rfl : n = n)).1 (by decide) rfl ?_
    refine oal KK X3 d14_57 (.ref b1) 58 rfl rfl rfl ?_
    refine fin (v := some (.ref b1)) X3 (fun h => by cases h) ?_ (by decide) (by decide) (fun fs hr => X3.areturnOut hx rfl hret rfl (hb hby d14_58) hr)
    show Q14 Z oc kd xs n cs fo h0 n0 (some (.ref b1)) T3.heap _
    rw [e3]
    exact ⟨b1, k1, 0, n, List.map own_lo xs, rfl, N3, K3, sz_b1, jV, ⟨hn, h5, hch, Or.inl ⟨rfl, rfl, jl, rfl⟩⟩⟩
  ·
    have hj0 : ¬ (jj3 < (0 : Int32)) := own_nneg' j0
    have hj1 : jj3 < n := by rw [Int32.lt_iff_toInt_lt]; exact j1
    refine oiL KK X3 d14_14 jj3 16 rfl rfl ?_
    refine oil KK X3 d14_16 n 17 rfl rfl ?_
    have hc17_14 : ¬ (jj3 = n) := fun q => by rw [q] at j1; omega
    refine oin KK X3 d14_17 20 rfl (feq hc17_14).1 ?_
    refine oal KK X3 d14_20 (.ref oc) 21 rfl rfl rfl ?_
    refine oil KK X3 d14_21 (0 : Int32) 22 rfl rfl ?_
    refine oil KK X3 d14_22 n 23 rfl rfl ?_
    have f15 := (f2.keep K3q (ninS ne_oc_b1 nin0))
    obtain ⟨_, _, ⟨T16, L16, k16, n16⟩, -, X16, ⟨Lc16, hQ16, l16, y16, z16⟩, st16⟩ := Jvm.LawKit.callS X3 hx (y := nM33) hown (mvT hZ (ow hw 128 rfl)) (mvT hZ (ow hw 129 rfl)) (mvT hZ (ow hw 69 rfl)) (mvT hZ (ow hw 130 rfl)) (by decide) (backOf (W := 0) (rm30 l Z a0 hw [] oc kd xs n cs fo h3 n0 (Nat.le_trans Z0 K3.1) f15 hn h5 hch f9 c_cs f10 r_fo f11 f12 f13) hZ (ow hw 130 rfl) (ow hw 69 rfl) (by decide) (by decide)) (g := (mkF m 23 #[vr oc, vi 0, vi n, vr b1, vi jj3, .unset] [(.int n), (.int 0), (.ref oc)])) rfl (by rw [hml]; rfl) (argsL := [(.ref oc), (.int 0), (.int n)]) (rest := []) (lenOf pd_27 rfl) rfl (omw rfl rfl) (hb hby d14_23) (fun _ _ => ⟨rfl, e3, (by decide : 1 + 1 ≤ _), (by decide : 5 + 10 ≤ _)⟩)
    dsimp only [Pt.U, Pt.locs, Pt.cells, Pt.slots] at X16 l16 y16 z16 st16 hQ16
    subst l16 y16 z16
    obtain ⟨h16, e16⟩ : ∃ z, T16.heap = z := ⟨_, rfl⟩
    rw [e16] at hQ16
    obtain ⟨rb16, rk16, rN16, rfl, N16q, K16q, sz_rb16, Vr16, hN16⟩ := hQ16
    have N16 := Fr.app N3 N16q
    have lt16_oc := f15.lt
    have ne_oc_rb16 : oc ≠ rb16 := Nat.ne_of_lt (Nat.lt_of_lt_of_le lt16_oc sz_rb16)
    have gn_rb16 : n0 ≤ rb16 := Nat.le_trans (Nat.le_trans Z0 K3.1) sz_rb16
    replace sz_rb16 := Nat.le_trans K3.1 sz_rb16
    have K16 : Keep h0 h16 [] := K3.trans K16q all0
    have f17 := own_staK f9 K16q all0
    have f18 := own_staK f10 K16q all0
    have f19 := own_staK f11 K16q all0
    have f20 := own_staK f12 K16q all0
    have f21 := own_staK f13 K16q all0
    refine step (T16.setTop (mkF m 26 #[vr oc, vi 0, vi n, vr b1, vi jj3, .unset] [(.ref rb16)])) (fun t k => st16 t k) ?_
    refine step (T16.setTop (mkF m 28 #[vr oc, vi 0, vi n, vr b1, vi jj3, vr rb16] [])) (fun t k => XS.astore X16.here hx rfl (hb hby d14_26) rfl rfl (l' := #[vr oc, vi 0, vi n, vr b1, vi jj3, vr rb16]) rfl k) ?_
    refine oaL KK X16 d14_28 (.ref rb16) 30 rfl rfl rfl ?_
    refine oiL KK X16 d14_30 jj3 32 rfl rfl ?_
    obtain ⟨_, _, ⟨T22, L22, k22, n22⟩, -, X22, ⟨Lc22, hQ22, l22, y22, z22⟩, st22⟩ := Jvm.LawKit.callS X16 hx (y := nM6) hown (mvT hZ (ow hw 144 rfl)) (mvT hZ (ow hw 145 rfl)) (mvT hZ (ow hw 69 rfl)) (mvT hZ (ow hw 146 rfl)) (by decide) (backOf (W := 0) (rm34 l Z a0 hw [] rb16 rk16 xs n rN16 jj3 cs fo h16 n0 (Nat.le_trans Z0 K16.1) Vr16 hn h5 hch hN16 hj0 hj1 f17 c_cs f18 r_fo f19 f20 f21) hZ (ow hw 146 rfl) (ow hw 69 rfl) (by decide) (by decide)) (g := (mkF m 32 #[vr oc, vi 0, vi n, vr b1, vi jj3, vr rb16] [(.int jj3), (.ref rb16)])) rfl (by rw [hml]; rfl) (argsL := [(.ref rb16), (.int jj3)]) (rest := []) (lenOf pd_1 rfl) rfl (omw rfl rfl) (hb hby d14_32) (fun _ _ => ⟨rfl, e16, (by decide : 2 + 0 ≤ _), (by decide : 15 + 0 ≤ _)⟩)
    dsimp only [Pt.U, Pt.locs, Pt.cells, Pt.slots] at X22 l22 y22 z22 st22 hQ22
    subst l22 y22 z22
    obtain ⟨rfl, N22q, e22q⟩ := hQ22
    have N22 := Fr.app N16 N22q
    refine step (T22.setTop (mkF m 35 #[vr oc, vi 0, vi n, vr b1, vi jj3, vr rb16] [(.int (List.getD xs (jj3).toNatClampNeg (0 : Int32)))])) (fun t k => st22 t k) ?_
    refine osi KK X22 d14_35 255 38 rfl rfl ?_
    have hc38_23 : (255 : Int32) < (List.getD xs (jj3).toNatClampNeg (0 : Int32)) := by rw [Int32.lt_iff_toInt_lt, show (255 : Int32).toInt = 255 by decide, own_tn]; exact j2
    refine oiy KK X22 d14_38 54 (tlt hc38_23).2.2.1 (by decide) rfl ?_
    refine oaL KK X22 d14_54 (.ref rb16) 56 rfl rfl rfl ?_
    refine fin (v := some (.ref rb16)) X22 (fun h => by cases h) ?_ (by decide) (by decide) (fun fs hr => X22.areturnOut hx rfl hret rfl (hb hby d14_56) hr)
    show Q14 Z oc kd xs n cs fo h0 n0 (some (.ref rb16)) T22.heap _
    rw [e22q]
    exact ⟨rb16, rk16, 1, rN16, own_u xs, rfl, N22, K16, sz_rb16, Vr16, ⟨hn, h5, hch, Or.inr ⟨rfl, hN16, ⟨_, own_mem (by omega), j2⟩, rfl⟩⟩⟩
theorem d4_0 : decode jdk_42_method_149_code 0 = .ok (.aload_n 0, 1) := by decide +kernel
theorem d4_1 : decode jdk_42_method_149_code 1 = .ok (.invokespecial 1, 3) := by decide +kernel
theorem d4_4 : decode jdk_42_method_149_code 4 = .ok (.iload_n 3, 1) := by decide +kernel
theorem d4_5 : decode jdk_42_method_149_code 5 = .ok (.ifCond .ne 22, 3) := by decide +kernel
theorem d4_8 : decode jdk_42_method_149_code 8 = .ok (.aload_n 0, 1) := by decide +kernel
theorem d4_9 : decode jdk_42_method_149_code 9 = .ok (.ldc 7, 2) := by decide +kernel
theorem d4_11 : decode jdk_42_method_149_code 11 = .ok (.getfield 9, 3) := by decide +kernel
theorem d4_14 : decode jdk_42_method_149_code 14 = .ok (.putfield 9, 3) := by decide +kernel
theorem d4_17 : decode jdk_42_method_149_code 17 = .ok (.aload_n 0, 1) := by decide +kernel
theorem d4_18 : decode jdk_42_method_149_code 18 = .ok (.ldc 7, 2) := by decide +kernel
theorem d4_20 : decode jdk_42_method_149_code 20 = .ok (.getfield 15, 3) := by decide +kernel
theorem d4_23 : decode jdk_42_method_149_code 23 = .ok (.putfield 15, 3) := by decide +kernel
theorem d4_26 : decode jdk_42_method_149_code 26 = .ok (.return_, 1) := by decide +kernel
theorem d4_27 : decode jdk_42_method_149_code 27 = .ok (.getstatic 38, 3) := by decide +kernel
theorem d4_30 : decode jdk_42_method_149_code 30 = .ok (.ifCond .eq 28, 3) := by decide +kernel
theorem d4_33 : decode jdk_42_method_149_code 33 = .ok (.aload_n 1, 1) := by decide +kernel
theorem d4_34 : decode jdk_42_method_149_code 34 = .ok (.iload_n 2, 1) := by decide +kernel
theorem d4_35 : decode jdk_42_method_149_code 35 = .ok (.iload_n 3, 1) := by decide +kernel
theorem d4_36 : decode jdk_42_method_149_code 36 = .ok (.invokestatic 177, 3) := by decide +kernel
theorem d4_39 : decode jdk_42_method_149_code 39 = .ok (.astore 5, 2) := by decide +kernel
theorem d4_41 : decode jdk_42_method_149_code 41 = .ok (.aload_n 0, 1) := by decide +kernel
theorem d4_42 : decode jdk_42_method_149_code 42 = .ok (.aload 5, 2) := by decide +kernel
theorem d4_44 : decode jdk_42_method_149_code 44 = .ok (.iload_n 3, 1) := by decide +kernel
theorem d4_45 : decode jdk_42_method_149_code 45 = .ok (.invokestatic 47, 3) := by decide +kernel
theorem d4_48 : decode jdk_42_method_149_code 48 = .ok (.putfield 15, 3) := by decide +kernel
theorem d4_51 : decode jdk_42_method_149_code 51 = .ok (.aload_n 0, 1) := by decide +kernel
theorem d4_52 : decode jdk_42_method_149_code 52 = .ok (.aload 5, 2) := by decide +kernel
theorem d4_54 : decode jdk_42_method_149_code 54 = .ok (.putfield 9, 3) := by decide +kernel
theorem d4_57 : decode jdk_42_method_149_code 57 = .ok (.return_, 1) := by decide +kernel
theorem d4_58 : decode jdk_42_method_149_code 58 = .ok (.aload_n 0, 1) := by decide +kernel
theorem d4_59 : decode jdk_42_method_149_code 59 = .ok (.iconst 1, 1) := by decide +kernel
theorem d4_60 : decode jdk_42_method_149_code 60 = .ok (.putfield 15, 3) := by decide +kernel
theorem d4_63 : decode jdk_42_method_149_code 63 = .ok (.aload_n 0, 1) := by decide +kernel
theorem d4_64 : decode jdk_42_method_149_code 64 = .ok (.aload_n 1, 1) := by decide +kernel
theorem d4_65 : decode jdk_42_method_149_code 65 = .ok (.iload_n 2, 1) := by decide +kernel
theorem d4_66 : decode jdk_42_method_149_code 66 = .ok (.iload_n 3, 1) := by decide +kernel
theorem d4_67 : decode jdk_42_method_149_code 67 = .ok (.invokestatic 180, 3) := by decide +kernel
theorem d4_70 : decode jdk_42_method_149_code 70 = .ok (.putfield 9, 3) := by decide +kernel
theorem d4_73 : decode jdk_42_method_149_code 73 = .ok (.return_, 1) := by decide +kernel
def Q16_24 (Z : State) (o1 : Addr) (i1 : Int32) (kc2 : ClassId) (i3 : Int32) (xs4 : List Int32) (h0 : Heap) (n0 : Nat) (v : Option Value) (h : Heap) (L : List Loc) : Prop := v = some (.int (nar .byte ((((i1 - i3).toUInt32 >>> ((31 : Int32) &&& 31).toUInt32).toInt32).toInt8.toInt32))) ∧ Fr n0 L ∧ h = h0
set_option maxRecDepth 65536 in
set_option maxHeartbeats 40000000 in
theorem rm16_24 (l : Launch) (Z : State) (a0 : Array Value) (hw : ∀ d ∈ tables_1, d.before a0 Z = true) (ws : List Jvm.Cond) (o1 : Addr) (i1 : Int32) (kc2 : ClassId) (i3 : Int32) (xs4 : List Int32) (h0 : Heap) (n0 : Nat) (Z0 : n0 ≤ h0.size) (Pm0 : Arv Z h0 o1 kc2 .byte i3 (List.map Value.int xs4) (.int 0)) (gn_o1 : n0 ≤ o1) (hy2 : ¬ (i1 = (0 : Int32)))  :
    OwnM l Z nM22 jdk_52_method_15_code 2 (some .byte) ws ({ frames := 0, cells := 0, slots := 0, locals := 0 } : Room) #[(.ref o1), (.int i1)] h0 (Q16_24 Z o1 i1 kc2 i3 xs4 h0 n0) := by
  refine own_body (plainFor_of_name pn_3) ?_
  intro p e s m below meth c s₁ G hx hby hml hZ hown hnm hret X0 e0 step fin
  replace hown : s.vm.findClass "java/lang/StringUTF16" = some m.cls := hown
  have N0 := Fr.nil n0
  have KK : OwnK p e below c _ G := ⟨step, hx, hby⟩
  refine step (s₁.setTop (mkF m 0 #[vr o1, vi i1] [])) (fun t k => castTop (ef_20_2 m o1 i1) k) ?_
  refine oil KK X0 d16_0 i1 1 rfl rfl ?_
  refine oal KK X0 d16_1 (.ref o1) 2 rfl rfl rfl ?_
  obtain ⟨cl1, Ar1, q1, S1, N1n, H1, G1⟩ := id Pm0
  refine step (s₁.setTop (mkF m 3 #[vr o1, vi i1] [(.int i3), (.int i1)])) (fun t k => X0.arraylength hx (by rw [e0]; exact Ar1.1) (State.isArrayOf_alike hZ.alike Ar1.2.1) (g := (mkF m 2 #[vr o1, vi i1] [(.ref o1), (.int i1)])) rfl rfl (hb hby d16_2) t (by rw [len_of S1 N1n]; exact k)) ?_
  refine step (s₁.setTop (mkF m 4 #[vr o1, vi i1] [(.int (i1 - i3))])) (fun t k => XS.isub X0.here hx rfl (hb hby d16_3) rfl k) ?_
  refine obi KK X0 d16_4 31 6 rfl rfl ?_
  refine step (s₁.setTop (mkF m 7 #[vr o1, vi i1] [(.int (((i1 - i3).toUInt32 >>> ((31 : Int32) &&& 31).toUInt32).toInt32))])) (fun t k => XS.iushr X0.here hx rfl (hb hby d16_6) rfl k) ?_
  refine step (s₁.setTop (mkF m 8 #[vr o1, vi i1] [(.int ((((i1 - i3).toUInt32 >>> ((31 : Int32) &&& 31).toUInt32).toInt32).toInt8.toInt32))])) (fun t k => XS.i2b X0.here hx rfl (hb hby d16_7) rfl k) ?_
  refine fin (v := some (.int (nar .byte ((((i1 - i3).toUInt32 >>> ((31 : Int32) &&& 31).toUInt32).toInt32).toInt8.toInt32)))) X0 (fun h => by cases h) ?_ (by decide) (by decide) (fun fs hr => retN X0 hx (t := .byte) hret (by simp) (hb hby d16_8) hr)
  show Q16_24 Z o1 i1 kc2 i3 xs4 h0 n0 (some (.int (nar .byte ((((i1 - i3).toUInt32 >>> ((31 : Int32) &&& 31).toUInt32).toInt32).toInt8.toInt32)))) s₁.heap _
  rw [e0]
  exact ⟨rfl, N0, rfl⟩
theorem ef_4 (m : MethodId) (x0 : Addr) (x1 : Addr) (x3 : Int32) : entryFrame m #[(.ref x0), (.ref x1), (.int 0), (.int x3), .null] 6 = mkF m 0 #[.val (.ref x0), .val (.ref x1), .val (.int 0), .val (.int x3), .val .null, .unset] [] := by first | (simp [entryFrame, mkF, argsToLocals, Value.category]; done) | rfl
def Q4 (Z : State) (o1 : Addr) (oc : Addr) (kd : ClassId) (xs : List Int32) (n : Int32) (cs : Int32) (fo : Value) (h0 : Heap) (n0 : Nat) (v : Option Value) (h : Heap) (L : List Loc) : Prop := ∃ (rb : Addr) (rk : ClassId) (rco rN : Int32) (rbs : List Int32), v = none ∧ Fr n0 L ∧ Keep h0 h [o1] ∧ Fld Z h o1 "java/lang/String" "coder" "B" (.int rco) ∧ Fld Z h o1 "java/lang/String" "value" "[B" (.ref rb) ∧ Arv Z h rb rk .byte rN (List.map Value.int rbs) (.int 0) ∧ OS xs n rco rN rbs
set_option maxRecDepth 65536 in
set_option maxHeartbeats 40000000 in
theorem rm4 (l : Launch) (Z : State) (a0 : Array Value) (hw : ∀ d ∈ tables_1, d.before a0 Z = true) (ws : List Jvm.Cond) (o1 : Addr) (oc : Addr) (kd : ClassId) (xs : List Int32) (n : Int32) (cs : Int32) (fo : Value) (h0 : Heap) (n0 : Nat) (Z0 : n0 ≤ h0.size) (Vc : Arv Z h0 oc kd .char n (List.map Value.int xs) (.int 0)) (hn : n.toInt = xs.length) (h5 : xs.length ≤ 5) (hch : ∀ c ∈ xs, 0 ≤ c.toInt ∧ c.toInt < 65536) (E1 : Exa Z h0 o1 "java/lang/String") (Fc1 : Fld Z h0 o1 "java/lang/String" "coder" "B" (.int 0)) (Fv1 : Fld Z h0 o1 "java/lang/String" "value" "[B" .null) (gn_o1 : n0 ≤ o1) (ne1c : o1 ≠ oc) (hn0 : ¬ (n = (0 : Int32))) (S_cs : Sta Z h0 "java/lang/String" "COMPACT_STRINGS" "Z" (.int cs)) (c_cs : ¬ (cs = (0 : Int32))) (S_fo : Sta Z h0 "jdk/internal/util/Preconditions" "SIOOBE_FORMATTER" "Ljava/util/function/BiFunction;" fo) (r_fo : Value.isRef fo = true) (S_ad : Sta Z h0 "java/lang/StringUTF16" "$assertionsDisabled" "Z" (.int 1)) (S_hi : Sta Z h0 "java/lang/StringUTF16" "HI_BYTE_SHIFT" "I" (.int 0)) (S_lo : Sta Z h0 "java/lang/StringUTF16" "LO_BYTE_SHIFT" "I" (.int 8)) :
    OwnM l Z nM35 jdk_42_method_149_code 6 none ws ({ frames := 4, cells := 2, slots := 15, locals := 57 } : Room) #[(.ref o1), (.ref oc), (.int 0), (.int n), .null] h0 (Q4 Z o1 oc kd xs n cs fo h0 n0) := by
  refine own_body (plainFor_of_name pn_0) ?_
  intro p e s m below meth c s₁ G hx hby hml hZ hown hnm hret X0 e0 step fin
  replace hown : s.vm.findClass "java/lang/String" = some m.cls := hown
  have N0 := Fr.nil n0
  have KK : OwnK p e below c _ G := ⟨step, hx, hby⟩
  refine step (s₁.setTop (mkF m 0 #[vr o1, vr oc, vi 0, vi n, .val .null, .unset] [])) (fun t k => castTop (ef_4 m o1 oc n) k) ?_
  refine oal KK X0 d4_0 (.ref o1) 1 rfl rfl rfl ?_
  obtain ⟨T1, X1, e1, st1⟩ := initO X0 hx hZ hown (ow hw 19 rfl) (ow hw 20 rfl) (ow hw 21 rfl) e0 (g := (mkF m 1 #[vr o1, vr oc, vi 0, vi n, .val .null, .unset] [(.ref o1)])) rfl (by rw [hml]; rfl) rfl (hb hby d4_1) (by decide) (W := 0) (omw rfl rfl) (by decide)
  refine step (T1.setTop (mkF m 4 #[vr o1, vr oc, vi 0, vi n, .val .null, .unset] [])) (fun t k => st1 t k) ?_
  refine oil KK X1 d4_4 n 5 rfl rfl ?_
  have hc5_2 : ¬ (n = (0 : Int32)) := hn0
  refine step (T1.setTop (mkF m 27 #[vr o1, vr oc, vi 0, vi n, .val .null, .unset] [])) (fun t k => XS.ifYes X1.here hx rfl (pc0 := 5) (pc' := 27) rfl (hb hby d4_5) rfl ((if0 _ _).trans (feq hc5_2).2) (by decide) (by decide) k) ?_
  obtain ⟨T3, X3, e3, st3⟩ := getS2 X1 hx hZ hown (host := "") (Or.inl (ow hw 48 rfl)) Via.refl e1 S_cs (g := (mkF m 27 #[vr o1, vr oc, vi 0, vi n, .val .null, .unset] [])) rfl (hb hby d4_27)
  refine step (T3.setTop (mkF m 30 #[vr o1, vr oc, vi 0, vi n, .val .null, .unset] [(.int cs)])) (fun t k => st3 t k) ?_
  have hc30_4 : ¬ (cs = (0 : Int32)) := c_cs
  refine step (T3.setTop (mkF m 33 #[vr o1, vr oc, vi 0, vi n, .val .null, .unset] [])) (fun t k => XS.ifNo X3.here hx rfl (hb hby d4_30) rfl ((if0 _ _).trans (feq hc30_4).1) k) ?_
  refine oal KK X3 d4_33 (.ref oc) 34 rfl rfl rfl ?_
  refine oil KK X3 d4_34 (0 : Int32) 35 rfl rfl ?_
  refine oil KK X3 d4_35 n 36 rfl rfl ?_
  obtain ⟨_, _, ⟨T5, L5, k5, n5⟩, -, X5, ⟨Lc5, hQ5, l5, y5, z5⟩, st5⟩ := Jvm.LawKit.callS X3 hx (y := nM34) hown (mvT hZ (ow hw 67 rfl)) (mvT hZ (ow hw 68 rfl)) (mvT hZ (ow hw 69 rfl)) (mvT hZ (ow hw 70 rfl)) (by decide) (backOf (W := 0) (rm14 l Z a0 hw [] oc kd xs n cs fo h0 n0 Z0 Vc hn h5 hch S_cs c_cs S_fo r_fo S_ad S_hi S_lo) hZ (ow hw 70 rfl) (ow hw 69 rfl) (by decide) (by decide)) (g := (mkF m 36 #[vr o1, vr oc, vi 0, vi n, .val .null, .unset] [(.int n), (.int 0), (.ref oc)])) rfl (by rw [hml]; rfl) (argsL := [(.ref oc), (.int 0), (.int n)]) (rest := []) (lenOf pd_27 rfl) rfl (omw rfl rfl) (hb hby d4_36) (fun _ _ => ⟨rfl, e3, (by decide : 0 + 2 ≤ _), (by decide : 0 + 15 ≤ _)⟩)
  dsimp only [Pt.U, Pt.locs, Pt.cells, Pt.slots] at X5 l5 y5 z5 st5 hQ5
  subst l5 y5 z5
  obtain ⟨h5, e5⟩ : ∃ z, T5.heap = z := ⟨_, rfl⟩
  rw [e5] at hQ5
  obtain ⟨rb5, rk5, rco5, rN5, rbs5, rfl, N5q, K5q, sz_rb5, Vr5, os5⟩ := hQ5
  have N5 := Fr.app N0 N5q
  have lt5_oc := Vc.lt
  have lt5_o1 := E1.lt
  have ne_oc_rb5 : oc ≠ rb5 := Nat.ne_of_lt (Nat.lt_of_lt_of_le lt5_oc sz_rb5)
  have ne_o1_rb5 : o1 ≠ rb5 := Nat.ne_of_lt (Nat.lt_of_lt_of_le lt5_o1 sz_rb5)
  have gn_rb5 : n0 ≤ rb5 := Nat.le_trans Z0 sz_rb5
  have K5 : Keep h0 h5 [o1] := (Keep.refl h0 [o1]).trans K5q all0
  have f6 := own_staK S_cs K5q all0
  have f7 := own_staK S_fo K5q all0
  have f8 := own_staK S_ad K5q all0
  have f9 := own_staK S_hi K5q all0
  have f10 := own_staK S_lo K5q all0
  refine step (T5.setTop (mkF m 39 #[vr o1, vr oc, vi 0, vi n, .val .null, .unset] [(.ref rb5)])) (fun t k => st5 t k) ?_
  refine step (T5.setTop (mkF m 41 #[vr o1, vr oc, vi 0, vi n, .val .null, vr rb5] [])) (fun t k => XS.astore X5.here hx rfl (hb hby d4_39) rfl rfl (l' := #[vr o1, vr oc, vi 0, vi n, .val .null, vr rb5]) rfl k) ?_
  refine oal KK X5 d4_41 (.ref o1) 42 rfl rfl rfl ?_
  refine oaL KK X5 d4_42 (.ref rb5) 44 rfl rfl rfl ?_
  refine oil KK X5 d4_44 n 45 rfl rfl ?_
  obtain ⟨_, _, ⟨T11, L11, k11, n11⟩, -, X11, ⟨Lc11, hQ11, l11, y11, z11⟩, st11⟩ := Jvm.LawKit.callS X5 hx (y := nM22) hown (mvT hZ (ow hw 74 rfl)) (mvT hZ (ow hw 75 rfl)) (mvT hZ (ow hw 69 rfl)) (mvT hZ (ow hw 76 rfl)) (by decide) (backOf (W := 1) (rm16_24 l Z a0 hw [] rb5 n rk5 rN5 rbs5 h5 n0 (Nat.le_trans Z0 K5.1) Vr5 gn_rb5 hn0) hZ (ow hw 76 rfl) (ow hw 69 rfl) (by decide) (by decide)) (g := (mkF m 45 #[vr o1, vr oc, vi 0, vi n, .val .null, vr rb5] [(.int n), (.ref rb5), (.ref o1)])) rfl (by rw [hml]; rfl) (argsL := [(.ref rb5), (.int n)]) (rest := [(.ref o1)]) (lenOf pd_15 rfl) rfl (omw rfl rfl) (hb hby d4_45) (fun _ _ => ⟨rfl, e5, (by decide : 2 + 0 ≤ _), (by decide : 15 + 0 ≤ _)⟩)
  dsimp only [Pt.U, Pt.locs, Pt.cells, Pt.slots] at X11 l11 y11 z11 st11 hQ11
  subst l11 y11 z11
  obtain ⟨rfl, N11q, e11q⟩ := hQ11
  have N11 := Fr.app N5 N11q
  refine step (T11.setTop (mkF m 48 #[vr o1, vr oc, vi 0, vi n, .val .null, vr rb5] [(.int (nar .byte ((((n - rN5).toUInt32 >>> ((31 : Int32) &&& 31).toUInt32).toInt32).toInt8.toInt32))), (.ref o1)])) (fun t k => st11 t k) ?_
  have hpos : 0 < xs.length := Nat.pos_of_ne_zero fun q => hn0 (Int32.toInt_inj.mp (by rw [hn, q]; decide))
  rw [own_codOS os5 hpos]
  have f12 := (E1.keep K5q)
  have f13 := (Fc1.keep K5q nin0)
  obtain ⟨T14, h14, X14, e14, W14, st14⟩ := putFN X11 hx hZ hown (ow hw 29 rfl) Via.refl e11q f13 f12 (Or.inr ⟨(ow hw 25 rfl), rfl, hnm⟩) (ow hw 10 rfl) (ty := .byte) (v' := (.int (nar .byte rco5))) (by decide) rfl (fits_nar_byte rco5) (g := (mkF m 48 #[vr o1, vr oc, vi 0, vi n, .val .null, vr rb5] [(.int rco5), (.ref o1)])) rfl rfl (hb hby d4_48)
  have N14 := Fr.snoc X14 N11 gn_o1
  have K14 : Keep h0 h14 [o1] := K5.wr W14 (Or.inl (List.mem_of_getElem? (i := 0) rfl))
  have F14 := f13.same W14
  refine step (T14.setTop (mkF m 51 #[vr o1, vr oc, vi 0, vi n, .val .null, vr rb5] [])) (fun t k => st14 t k) ?_
  refine oal KK X14 d4_51 (.ref o1) 52 rfl rfl rfl ?_
  refine oaL KK X14 d4_52 (.ref rb5) 54 rfl rfl rfl ?_
  have f15 := (f12.wr W14)
  have f16 := ((Fv1.keep K5q nin0).other W14 (Or.inr (slot_ne (Or.inr (ow hw 24 rfl)) (Or.inr (ow hw 25 rfl)) (by decide) (t := (.array .byte)) (t' := .byte) (by decide) (by decide))))
  obtain ⟨T17, h17, X17, e17, W17, st17⟩ := putF X14 hx hZ hown (host := "") (Or.inl (ow hw 28 rfl)) Via.refl e14 f16 f15 (Or.inr ⟨(ow hw 24 rfl), rfl, hnm⟩) (ow hw 10 rfl) (ty := (.array .byte)) (by decide) rfl rfl (g := (mkF m 54 #[vr o1, vr oc, vi 0, vi n, .val .null, vr rb5] [(.ref rb5), (.ref o1)])) rfl rfl (hb hby d4_54)
  have N17 := Fr.snoc X17 N14 gn_o1
  have K17 : Keep h0 h17 [o1] := K14.wr W17 (Or.inl (List.mem_of_getElem? (i := 0) rfl))
  have F17 := f16.same W17
  refine step (T17.setTop (mkF m 57 #[vr o1, vr oc, vi 0, vi n, .val .null, vr rb5] [])) (fun t k => st17 t k) ?_
  refine fin (v := none) X17 (fun _ => rfl) ?_ (by decide) (by decide) (fun fs hr => X17.returnOut hx hret (hb hby d4_57) hr)
  show Q4 Z o1 oc kd xs n cs fo h0 n0 (none) T17.heap _
  rw [e17]
  have f18 := (F14.other W17 (Or.inr (slot_ne (Or.inr (ow hw 25 rfl)) (Or.inr (ow hw 24 rfl)) (by decide) (t := .byte) (t' := (.array .byte)) (by decide) (by decide))))
  have FcR := f18
  rw [own_nbOS os5] at FcR
  have f19 := ((Vr5.other W14 (Ne.symm ne_o1_rb5)).other W17 (Ne.symm ne_o1_rb5))
  exact ⟨rb5, rk5, rco5, rN5, rbs5, rfl, N17, K17, FcR, F17, f19, os5⟩
theorem d3_0 : decode jdk_42_method_3_code 0 = .ok (.aload_n 0, 1) := by decide +kernel
theorem d3_1 : decode jdk_42_method_3_code 1 = .ok (.aload_n 1, 1) := by decide +kernel
theorem d3_2 : decode jdk_42_method_3_code 2 = .ok (.iconst 0, 1) := by decide +kernel
theorem d3_3 : decode jdk_42_method_3_code 3 = .ok (.aload_n 1, 1) := by decide +kernel
theorem d3_4 : decode jdk_42_method_3_code 4 = .ok (.arraylength, 1) := by decide +kernel
theorem d3_5 : decode jdk_42_method_3_code 5 = .ok (.aconst_null, 1) := by decide +kernel
theorem d3_6 : decode jdk_42_method_3_code 6 = .ok (.invokespecial 27, 3) := by decide +kernel
theorem d3_9 : decode jdk_42_method_3_code 9 = .ok (.return_, 1) := by decide +kernel
theorem pd_28 : parseMethodDescriptor "([CIILjava/lang/Void;)V" = some ⟨[(.array .char), .int, .int, (.object "java/lang/Void")], none⟩ := by decide +kernel
theorem ef_3 (m : MethodId) (x0 : Addr) (x1 : Addr) : entryFrame m #[(.ref x0), (.ref x1)] 2 = mkF m 0 #[.val (.ref x0), .val (.ref x1)] [] := by first | (simp [entryFrame, mkF, argsToLocals, Value.category]; done) | rfl
def Q3 (Z : State) (o1 : Addr) (oc : Addr) (kd : ClassId) (xs : List Int32) (n : Int32) (cs : Int32) (fo : Value) (h0 : Heap) (n0 : Nat) (v : Option Value) (h : Heap) (L : List Loc) : Prop := ∃ (rb : Addr) (rk : ClassId) (rco rN : Int32) (rbs : List Int32), v = none ∧ Fr n0 L ∧ Keep h0 h [o1] ∧ Fld Z h o1 "java/lang/String" "coder" "B" (.int rco) ∧ Fld Z h o1 "java/lang/String" "value" "[B" (.ref rb) ∧ Arv Z h rb rk .byte rN (List.map Value.int rbs) (.int 0) ∧ OS xs n rco rN rbs
set_option maxRecDepth 65536 in
set_option maxHeartbeats 40000000 in
theorem rm3 (l : Launch) (Z : State) (a0 : Array Value) (hw : ∀ d ∈ tables_1, d.before a0 Z = true) (ws : List Jvm.Cond) (o1 : Addr) (oc : Addr) (kd : ClassId) (xs : List Int32) (n : Int32) (cs : Int32) (fo : Value) (h0 : Heap) (n0 : Nat) (Z0 : n0 ≤ h0.size) (Vc : Arv Z h0 oc kd .char n (List.map Value.int xs) (.int 0)) (hn : n.toInt = xs.length) (h5 : xs.length ≤ 5) (hch : ∀ c ∈ xs, 0 ≤ c.toInt ∧ c.toInt < 65536) (E1 : Exa Z h0 o1 "java/lang/String") (Fc1 : Fld Z h0 o1 "java/lang/String" "coder" "B" (.int 0)) (Fv1 : Fld Z h0 o1 "java/lang/String" "value" "[B" .null) (gn_o1 : n0 ≤ o1) (ne1c : o1 ≠ oc) (hn0 : ¬ (n = (0 : Int32))) (S_cs : Sta Z h0 "java/lang/String" "COMPACT_STRINGS" "Z" (.int cs)) (c_cs : ¬ (cs = (0 : Int32))) (S_fo : Sta Z h0 "jdk/internal/util/Preconditions" "SIOOBE_FORMATTER" "Ljava/util/function/BiFunction;" fo) (r_fo : Value.isRef fo = true) (S_ad : Sta Z h0 "java/lang/StringUTF16" "$assertionsDisabled" "Z" (.int 1)) (S_hi : Sta Z h0 "java/lang/StringUTF16" "HI_BYTE_SHIFT" "I" (.int 0)) (S_lo : Sta Z h0 "java/lang/StringUTF16" "LO_BYTE_SHIFT" "I" (.int 8)) :
    OwnM l Z nM36 jdk_42_method_3_code 2 none ws ({ frames := 5, cells := 2, slots := 15, locals := 74 } : Room) #[(.ref o1), (.ref oc)] h0 (Q3 Z o1 oc kd xs n cs fo h0 n0) := by
  refine own_body (plainFor_of_name pn_0) ?_
  intro p e s m below meth c s₁ G hx hby hml hZ hown hnm hret X0 e0 step fin
  replace hown : s.vm.findClass "java/lang/String" = some m.cls := hown
  have N0 := Fr.nil n0
  have KK : OwnK p e below c _ G := ⟨step, hx, hby⟩
  refine step (s₁.setTop (mkF m 0 #[vr o1, vr oc] [])) (fun t k => castTop (ef_3 m o1 oc) k) ?_
  refine oal KK X0 d3_0 (.ref o1) 1 rfl rfl rfl ?_
  refine oal KK X0 d3_1 (.ref oc) 2 rfl rfl rfl ?_
  refine oic KK X0 d3_2 0 3 rfl rfl ?_
  refine oal KK X0 d3_3 (.ref oc) 4 rfl rfl rfl ?_
  obtain ⟨cl1, Ar1, q1, S1, N1n, H1, G1⟩ := id Vc
  refine step (s₁.setTop (mkF m 5 #[vr o1, vr oc] [(.int n), (.int 0), (.ref oc), (.ref o1)])) (fun t k => X0.arraylength hx (by rw [e0]; exact Ar1.1) (State.isArrayOf_alike hZ.alike Ar1.2.1) (g := (mkF m 4 #[vr o1, vr oc] [(.ref oc), (.int 0), (.ref oc), (.ref o1)])) rfl rfl (hb hby d3_4) t (by rw [len_of S1 N1n]; exact k)) ?_
  refine step (s₁.setTop (mkF m 6 #[vr o1, vr oc] [.null, (.int n), (.int 0), (.ref oc), (.ref o1)])) (fun t k => XS.aconstNull X0.here hx rfl (hb hby d3_5) k) ?_
  obtain ⟨_, _, ⟨T2, L2, k2, n2⟩, -, X2, ⟨Lc2, hQ2, l2, y2, z2⟩, st2⟩ := X0.specialBack hx (y := nM35) rfl hown (mvT hZ (ow hw 15 rfl)) (mvT hZ (ow hw 16 rfl)) (mvT hZ (ow hw 18 rfl)) (by decide) (backOf (W := 0) (rm4 l Z a0 hw [] o1 oc kd xs n cs fo h0 n0 Z0 Vc hn h5 hch E1 Fc1 Fv1 gn_o1 ne1c hn0 S_cs c_cs S_fo r_fo S_ad S_hi S_lo) hZ (ow hw 18 rfl) (ow hw 11 rfl) (by decide) (by decide)) (g := (mkF m 6 #[vr o1, vr oc] [.null, (.int n), (.int 0), (.ref oc), (.ref o1)])) rfl (by rw [hml]; rfl) (Steps.refl _) (a := o1) (argsL := [(.ref oc), (.int 0), (.int n), .null]) (rest := []) (lenOf pd_28 rfl) rfl (omw rfl rfl) (hb hby d3_6) (fun _ _ => ⟨rfl, e0, (by decide : 0 + 2 ≤ _), (by decide : 0 + 15 ≤ _)⟩)
  dsimp only [Pt.U, Pt.locs, Pt.cells, Pt.slots] at X2 l2 y2 z2 st2 hQ2
  subst l2 y2 z2
  obtain ⟨h2, e2⟩ : ∃ z, T2.heap = z := ⟨_, rfl⟩
  rw [e2] at hQ2
  obtain ⟨rb2, rk2, rco2, rN2, rbs2, rfl, N2q, K2q, Fr2, Fw2, Vr2, os2⟩ := hQ2
  have N2 := Fr.app N0 N2q
  have K2 : Keep h0 h2 [o1] := (Keep.refl h0 [o1]).trans K2q (allS (Or.inl (List.mem_of_getElem? (i := 0) rfl)) all0)
  have f3 := own_staK S_cs K2q (allS (own_exaP E1) all0)
  have f4 := own_staK S_fo K2q (allS (own_exaP E1) all0)
  have f5 := own_staK S_ad K2q (allS (own_exaP E1) all0)
  have f6 := own_staK S_hi K2q (allS (own_exaP E1) all0)
  have f7 := own_staK S_lo K2q (allS (own_exaP E1) all0)
  refine step (T2.setTop (mkF m 9 #[vr o1, vr oc] [])) (fun t k => st2.trans k) ?_
  refine fin (v := none) X2 (fun _ => rfl) ?_ (by decide) (by decide) (fun fs hr => X2.returnOut hx hret (hb hby d3_9) hr)
  show Q3 Z o1 oc kd xs n cs fo h0 n0 (none) T2.heap _
  rw [e2]
  exact ⟨rb2, rk2, rco2, rN2, rbs2, rfl, N2, K2, Fr2, Fw2, Vr2, os2⟩
theorem ef_4z (m : MethodId) (x0 : Addr) (x1 : Addr) : entryFrame m #[(.ref x0), (.ref x1), (.int 0), (.int 0), .null] 6 = mkF m 0 #[.val (.ref x0), .val (.ref x1), .val (.int 0), .val (.int 0), .val .null, .unset] [] := by first | (simp [entryFrame, mkF, argsToLocals, Value.category]; done) | rfl
def Q4z (Z : State) (o1 : Addr) (oc : Addr) (cs : Int32) (fo : Value) (h0 : Heap) (n0 : Nat) (v : Option Value) (h : Heap) (L : List Loc) : Prop := ∃ (rb : Addr) (rk : ClassId) (rco rN : Int32) (rbs : List Int32), v = none ∧ Fr n0 L ∧ Keep h0 h [o1] ∧ Fld Z h o1 "java/lang/String" "coder" "B" (.int rco) ∧ Fld Z h o1 "java/lang/String" "value" "[B" (.ref rb) ∧ Arv Z h rb rk .byte rN (List.map Value.int rbs) (.int 0) ∧ OS [] (0 : Int32) rco rN rbs
set_option maxRecDepth 65536 in
set_option maxHeartbeats 40000000 in
theorem rm4z (l : Launch) (Z : State) (a0 : Array Value) (hw : ∀ d ∈ tables_1, d.before a0 Z = true) (ws : List Jvm.Cond) (o1 : Addr) (oc : Addr) (cs : Int32) (fo : Value) (h0 : Heap) (n0 : Nat) (Z0 : n0 ≤ h0.size) (E1 : Exa Z h0 o1 "java/lang/String") (Fc1 : Fld Z h0 o1 "java/lang/String" "coder" "B" (.int 0)) (Fv1 : Fld Z h0 o1 "java/lang/String" "value" "[B" .null) (gn_o1 : n0 ≤ o1) (S_cs : Sta Z h0 "java/lang/String" "COMPACT_STRINGS" "Z" (.int cs)) (c_cs : ¬ (cs = (0 : Int32))) (S_fo : Sta Z h0 "jdk/internal/util/Preconditions" "SIOOBE_FORMATTER" "Ljava/util/function/BiFunction;" fo) (r_fo : Value.isRef fo = true) (S_ad : Sta Z h0 "java/lang/StringUTF16" "$assertionsDisabled" "Z" (.int 1)) (S_hi : Sta Z h0 "java/lang/StringUTF16" "HI_BYTE_SHIFT" "I" (.int 0)) (S_lo : Sta Z h0 "java/lang/StringUTF16" "LO_BYTE_SHIFT" "I" (.int 8)) :
    OwnMH l Z nM35 jdk_42_method_149_code 6 none ws ({ frames := 1, cells := 4, slots := 8, locals := 12 } : Room) #[(.ref o1), (.ref oc), (.int 0), (.int 0), .null] h0 own_EL (Q4z Z o1 oc cs fo h0 n0) := by
  refine own_bodyH (own_EWs hw) (plainFor_of_name pn_0) ?_
  intro p e s m below meth c s₁ G vm0 k0 hx hby hml hZ hown hnm hret hS hk hCH0 X0 e0 step fin
  replace hown : vm0.findClass "java/lang/String" = some m.cls := hown
  have N0 := Fr.nil n0
  have KK : OwnK p e below c _ G := ⟨step, hx, hby⟩
  have C0 := CHr.refl hCH0
  refine step (s₁.setTop (mkF m 0 #[vr o1, vr oc, vi 0, vi 0, .val .null, .unset] [])) (fun t k => castTop (ef_4z m o1 oc) k) ?_
  have Sf_o1 : Safe Z own_EL vm0 h0 o1 := own_safeNull hZ.alike E1 Fv1
  refine oal KK X0 d4_0 (.ref o1) 1 rfl rfl rfl ?_
  obtain ⟨T1, X1, e1, st1⟩ := initO X0 hx hZ hown (ow hw 19 rfl) (ow hw 20 rfl) (ow hw 21 rfl) e0 (g := (mkF m 1 #[vr o1, vr oc, vi 0, vi 0, .val .null, .unset] [(.ref o1)])) rfl (by rw [hml]; rfl) rfl (hb hby d4_1) (by decide) (W := 0) (omw rfl rfl) (by decide)
  refine step (T1.setTop (mkF m 4 #[vr o1, vr oc, vi 0, vi 0, .val .null, .unset] [])) (fun t k => st1 t k) ?_
  refine oil KK X1 d4_4 (0 : Int32) 5 rfl rfl ?_
  refine step (T1.setTop (mkF m 8 #[vr o1, vr oc, vi 0, vi 0, .val .null, .unset] [])) (fun t k => XS.ifNo X1.here hx rfl (hb hby d4_5) rfl ((if0 _ _).trans (teq (by decide : (0 : Int32) = (0 : Int32))).2) k) ?_
  refine oal KK X1 d4_8 (.ref o1) 9 rfl rfl rfl ?_
  have hl2_o1 := E1.lt
  obtain ⟨a2, T2, h2, kk2, bb2, kb2, X2, e2, E2, hS2, hk2, hZ2, hown2, Ex2, Fc2, Fv2, Va2, -, -, hC2, -, hne2, st2⟩ := ldcCH X1 hx hZ hown (ow hw 22 rfl) (own_wS hw) e1 hS hk (own_EWs hw) (List.mem_of_getElem? (i := 0) rfl) C0.1 (vs := []) (z := (0 : Int32)) ⟨by decide, rfl⟩ (by decide) rfl (g := (mkF m 9 #[vr o1, vr oc, vi 0, vi 0, .val .null, .unset] [(.ref o1)])) rfl (hb hby d4_9) (n := 0) (by decide) (by decide) (by decide) (by decide)
  replace hS := hS2
  replace hZ : Z.Warmed39 T2.vm := hZ2
  replace hown : T2.vm.findClass "java/lang/String" = some m.cls := hown2
  have K2 : Keep h0 h2 [o1] := (Keep.refl h0 [o1]).ext E2
  have C2 := C0.trans hC2
  have Sf2_o1 := hC2.safe hl2_o1 Sf_o1
  have ne_o1_a2 := (hne2 o1 Sf2_o1).1
  have ne_o1_bb2 := (hne2 o1 Sf2_o1).2
  refine step (T2.setTop (mkF m 11 #[vr o1, vr oc, vi 0, vi 0, .val .null, .unset] [(.ref a2), (.ref o1)])) (fun t k => st2 t k) ?_
  obtain ⟨T3, X3, e3, st3⟩ := getF X2 hx hZ hown (host := "") (Or.inl (ow hw 28 rfl)) Via.refl e2 Fv2 (g := (mkF m 11 #[vr o1, vr oc, vi 0, vi 0, .val .null, .unset] [(.ref a2), (.ref o1)])) rfl rfl (hb hby d4_11)
  refine step (T3.setTop (mkF m 14 #[vr o1, vr oc, vi 0, vi 0, .val .null, .unset] [(.ref bb2), (.ref o1)])) (fun t k => st3 t k) ?_
  have f4 := (E1.ext E2)
  have f5 := (Fv1.ext E2)
  obtain ⟨T6, h6, X6, e6, W6, st6⟩ := putF X3 hx hZ hown (host := "") (Or.inl (ow hw 28 rfl)) Via.refl e3 f5 f4 (Or.inr ⟨(ow hw 24 rfl), rfl, hnm⟩) (ow hw 10 rfl) (ty := (.array .byte)) (by decide) rfl rfl (g := (mkF m 14 #[vr o1, vr oc, vi 0, vi 0, .val .null, .unset] [(.ref bb2), (.ref o1)])) rfl rfl (hb hby d4_14)
  have N6 := Fr.snoc X6 N0 gn_o1
  have K6 : Keep h0 h6 [o1] := K2.wr W6 (Or.inl (List.mem_of_getElem? (i := 0) rfl))
  have F6 := f5.same W6
  refine step (T6.setTop (mkF m 17 #[vr o1, vr oc, vi 0, vi 0, .val .null, .unset] [])) (fun t k => st6 t k) ?_
  refine oal KK X6 d4_17 (.ref o1) 18 rfl rfl rfl ?_
  have C8 := C2.trans (CHr.wr W6 Sf2_o1 C2.1)
  have Sf8_o1 := Safe.wr W6 Sf2_o1 C2.1 Sf2_o1
  have f9 := (f4.wr W6)
  have hl7_o1 := f9.lt
  obtain ⟨a7, T7, h7, kk7, bb7, kb7, X7, e7, E7, hS7, hk7, hZ7, hown7, Ex7, Fc7, Fv7, Va7, -, -, hC7, -, hne7, st7⟩ := ldcCH X6 hx hZ hown (ow hw 22 rfl) (own_wS hw) e6 hS (Nat.le_trans hk2 (Keep.of_wr W6).1) (own_EWs hw) (List.mem_of_getElem? (i := 0) rfl) C8.1 (vs := []) (z := (0 : Int32)) ⟨by decide, rfl⟩ (by decide) rfl (g := (mkF m 18 #[vr o1, vr oc, vi 0, vi 0, .val .null, .unset] [(.ref o1)])) rfl (hb hby d4_18) (n := 0) (by decide) (by decide) (by decide) (by decide)
  replace hS := hS7
  replace hZ : Z.Warmed39 T7.vm := hZ7
  replace hown : T7.vm.findClass "java/lang/String" = some m.cls := hown7
  have K7 : Keep h0 h7 [o1] := K6.ext E7
  have C7 := C8.trans hC7
  have Sf7_o1 := hC7.safe hl7_o1 Sf8_o1
  have ne_o1_a7 := (hne7 o1 Sf7_o1).1
  have ne_o1_bb7 := (hne7 o1 Sf7_o1).2
  refine step (T7.setTop (mkF m 20 #[vr o1, vr oc, vi 0, vi 0, .val .null, .unset] [(.ref a7), (.ref o1)])) (fun t k => st7 t k) ?_
  obtain ⟨T10, X10, e10, st10⟩ := getF X7 hx hZ hown (host := "") (Or.inl (ow hw 29 rfl)) Via.refl e7 Fc7 (g := (mkF m 20 #[vr o1, vr oc, vi 0, vi 0, .val .null, .unset] [(.ref a7), (.ref o1)])) rfl rfl (hb hby d4_20)
  refine step (T10.setTop (mkF m 23 #[vr o1, vr oc, vi 0, vi 0, .val .null, .unset] [(.int 0), (.ref o1)])) (fun t k => st10 t k) ?_
  have f11 := (f9.ext E7)
  have f12 := (((Fc1.ext E2).other W6 (Or.inr (slot_ne (Or.inr (ow hw 25 rfl)) (Or.inr (ow hw 24 rfl)) (by decide) (t := .byte) (t' := (.array .byte)) (by decide) (by decide)))).ext E7)
  obtain ⟨T13, h13, X13, e13, W13, st13⟩ := putFN X10 hx hZ hown (ow hw 29 rfl) Via.refl e10 f12 f11 (Or.inr ⟨(ow hw 25 rfl), rfl, hnm⟩) (ow hw 10 rfl) (ty := .byte) (v' := (.int 0)) (by decide) rfl (fits_nar_byte (0 : Int32)) (g := (mkF m 23 #[vr o1, vr oc, vi 0, vi 0, .val .null, .unset] [(.int 0), (.ref o1)])) rfl rfl (hb hby d4_23)
  have N13 := Fr.snoc X13 N6 gn_o1
  have K13 : Keep h0 h13 [o1] := K7.wr W13 (Or.inl (List.mem_of_getElem? (i := 0) rfl))
  have F13 := f12.same W13
  refine step (T13.setTop (mkF m 26 #[vr o1, vr oc, vi 0, vi 0, .val .null, .unset] [])) (fun t k => st13 t k) ?_
  have C14 := C7.trans (CHr.wr W13 Sf7_o1 C7.1)
  have Sf14_o1 := Safe.wr W13 Sf7_o1 C7.1 Sf7_o1
  refine fin (v := none) X13 hS (Nat.le_trans (Nat.le_trans hk7 (Keep.of_wr W13).1) (Nat.le_of_eq (congrArg Array.size e13.symm))) hZ (by rw [e13]; exact C14) (fun _ => rfl) ?_ (by decide) (by decide) (fun fs hr => X13.returnOut hx hret (hb hby d4_26) hr)
  show Q4z Z o1 oc cs fo h0 n0 (none) T13.heap _
  rw [e13]
  have f15 := ((F6.ext E7).other W13 (Or.inr (slot_ne (Or.inr (ow hw 24 rfl)) (Or.inr (ow hw 25 rfl)) (by decide) (t := (.array .byte)) (t' := .byte) (by decide) (by decide))))
  have f16 := (((Va2.other W6 (Ne.symm ne_o1_bb2)).ext E7).other W13 (Ne.symm ne_o1_bb2))
  exact ⟨bb2, kb2, 0, 0, [], rfl, N13, K13, F13, f15, f16, own_os00⟩
def Q3z (Z : State) (o1 : Addr) (oc : Addr) (kd : ClassId) (cs : Int32) (fo : Value) (h0 : Heap) (n0 : Nat) (v : Option Value) (h : Heap) (L : List Loc) : Prop := ∃ (rb : Addr) (rk : ClassId) (rco rN : Int32) (rbs : List Int32), v = none ∧ Fr n0 L ∧ Keep h0 h [o1] ∧ Fld Z h o1 "java/lang/String" "coder" "B" (.int rco) ∧ Fld Z h o1 "java/lang/String" "value" "[B" (.ref rb) ∧ Arv Z h rb rk .byte rN (List.map Value.int rbs) (.int 0) ∧ OS [] (0 : Int32) rco rN rbs
set_option maxRecDepth 65536 in
set_option maxHeartbeats 40000000 in
theorem rm3z (l : Launch) (Z : State) (a0 : Array Value) (hw : ∀ d ∈ tables_1, d.before a0 Z = true) (ws : List Jvm.Cond) (o1 : Addr) (oc : Addr) (kd : ClassId) (cs : Int32) (fo : Value) (h0 : Heap) (n0 : Nat) (Z0 : n0 ≤ h0.size) (Vc : Arv Z h0 oc kd .char (0 : Int32) [] (.int 0)) (E1 : Exa Z h0 o1 "java/lang/String") (Fc1 : Fld Z h0 o1 "java/lang/String" "coder" "B" (.int 0)) (Fv1 : Fld Z h0 o1 "java/lang/String" "value" "[B" .null) (gn_o1 : n0 ≤ o1) (ne1c : o1 ≠ oc) (S_cs : Sta Z h0 "java/lang/String" "COMPACT_STRINGS" "Z" (.int cs)) (c_cs : ¬ (cs = (0 : Int32))) (S_fo : Sta Z h0 "jdk/internal/util/Preconditions" "SIOOBE_FORMATTER" "Ljava/util/function/BiFunction;" fo) (r_fo : Value.isRef fo = true) (S_ad : Sta Z h0 "java/lang/StringUTF16" "$assertionsDisabled" "Z" (.int 1)) (S_hi : Sta Z h0 "java/lang/StringUTF16" "HI_BYTE_SHIFT" "I" (.int 0)) (S_lo : Sta Z h0 "java/lang/StringUTF16" "LO_BYTE_SHIFT" "I" (.int 8)) :
    OwnMH l Z nM36 jdk_42_method_3_code 2 none ws ({ frames := 2, cells := 4, slots := 8, locals := 29 } : Room) #[(.ref o1), (.ref oc)] h0 own_EL (Q3z Z o1 oc kd cs fo h0 n0) := by
  refine own_bodyH (own_EWs hw) (plainFor_of_name pn_0) ?_
  intro p e s m below meth c s₁ G vm0 k0 hx hby hml hZ hown hnm hret hS hk hCH0 X0 e0 step fin
  replace hown : vm0.findClass "java/lang/String" = some m.cls := hown
  have N0 := Fr.nil n0
  have KK : OwnK p e below c _ G := ⟨step, hx, hby⟩
  have C0 := CHr.refl hCH0
  refine step (s₁.setTop (mkF m 0 #[vr o1, vr oc] [])) (fun t k => castTop (ef_3 m o1 oc) k) ?_
  have Sf_o1 : Safe Z own_EL vm0 h0 o1 := own_safeNull hZ.alike E1 Fv1
  refine oal KK X0 d3_0 (.ref o1) 1 rfl rfl rfl ?_
  refine oal KK X0 d3_1 (.ref oc) 2 rfl rfl rfl ?_
  refine oic KK X0 d3_2 0 3 rfl rfl ?_
  refine oal KK X0 d3_3 (.ref oc) 4 rfl rfl rfl ?_
  obtain ⟨cl1, Ar1, q1, S1, N1n, H1, G1⟩ := id Vc
  refine step (s₁.setTop (mkF m 5 #[vr o1, vr oc] [(.int 0), (.int 0), (.ref oc), (.ref o1)])) (fun t k => X0.arraylength hx (by rw [e0]; exact Ar1.1) (State.isArrayOf_alike hZ.alike Ar1.2.1) (g := (mkF m 4 #[vr o1, vr oc] [(.ref oc), (.int 0), (.ref oc), (.ref o1)])) rfl rfl (hb hby d3_4) t (by rw [len_of S1 N1n]; exact k)) ?_
  refine step (s₁.setTop (mkF m 6 #[vr o1, vr oc] [.null, (.int 0), (.int 0), (.ref oc), (.ref o1)])) (fun t k => XS.aconstNull X0.here hx rfl (hb hby d3_5) k) ?_
  have hl2_o1 := E1.lt
  obtain ⟨_, _, ⟨T2, L2, k2, n2⟩, -, X2', hS2', hg2, ⟨Lc2, hQ2, l2, y2, z2, hC2⟩, st2⟩ := X0.specialBackS hx (y := nM35) rfl hown (mvT hZ (ow hw 15 rfl)) (mvT hZ (ow hw 16 rfl)) (mvT hZ (ow hw 18 rfl)) (by decide) (backOfSH (W := 0) (rm4z l Z a0 hw [] o1 oc cs fo h0 n0 Z0 E1 Fc1 Fv1 gn_o1 S_cs c_cs S_fo r_fo S_ad S_hi S_lo) hZ (ow hw 18 rfl) (ow hw 11 rfl) (by decide) (by decide) (own_EWs hw) C0.1) (g := (mkF m 6 #[vr o1, vr oc] [.null, (.int 0), (.int 0), (.ref oc), (.ref o1)])) rfl (by rw [hml]; rfl) (Steps.refl _) (a := o1) (argsL := [(.ref oc), (.int 0), (.int 0), .null]) (rest := []) (lenOf pd_28 rfl) rfl (omw rfl rfl) (hb hby d3_6) (fun _ _ => ⟨rfl, e0, (by decide : 0 + 4 ≤ _), (by decide : 0 + 8 ≤ _)⟩)
  dsimp only [Pt.U, Pt.locs, Pt.cells, Pt.slots] at X2' hS2' hg2 l2 y2 z2 st2 hQ2 hC2
  subst l2 y2 z2
  obtain ⟨X2, hS2, hZ2, hown2⟩ := rebS hS (Nat.le_trans hk (Nat.le_of_eq (congrArg Array.size e0.symm))) X2' hS2' hg2 hZ hown
  replace hS := hS2
  replace hZ : Z.Warmed39 T2.vm := hZ2
  replace hown : T2.vm.findClass "java/lang/String" = some m.cls := hown2
  obtain ⟨h2, e2⟩ : ∃ z, T2.heap = z := ⟨_, rfl⟩
  rw [e2] at hQ2
  obtain ⟨rb2, rk2, rco2, rN2, rbs2, rfl, N2q, K2q, Fr2, Fw2, Vr2, os2⟩ := hQ2
  have N2 := Fr.app N0 N2q
  have K2 : Keep h0 h2 [o1] := (Keep.refl h0 [o1]).trans K2q (allS (Or.inl (List.mem_of_getElem? (i := 0) rfl)) all0)
  have f3 := own_staK S_cs K2q (allS (own_exaP E1) all0)
  have f4 := own_staK S_fo K2q (allS (own_exaP E1) all0)
  have f5 := own_staK S_ad K2q (allS (own_exaP E1) all0)
  have f6 := own_staK S_hi K2q (allS (own_exaP E1) all0)
  have f7 := own_staK S_lo K2q (allS (own_exaP E1) all0)
  rw [e2] at hC2
  have C2 := C0.trans hC2
  have Sf2_o1 := hC2.safe hl2_o1 Sf_o1
  have hk2 : T2.heap.size ≤ h2.size := Nat.le_of_eq (congrArg Array.size e2)
  refine step (T2.setTop (mkF m 9 #[vr o1, vr oc] [])) (fun t k => st2.trans k) ?_
  refine fin (v := none) X2 hS (Nat.le_trans hk2 (Nat.le_of_eq (congrArg Array.size e2.symm))) hZ (by rw [e2]; exact C2) (fun _ => rfl) ?_ (by decide) (by decide) (fun fs hr => X2.returnOut hx hret (hb hby d3_9) hr)
  show Q3z Z o1 oc kd cs fo h0 n0 (none) T2.heap _
  rw [e2]
  exact ⟨rb2, rk2, rco2, rN2, rbs2, rfl, N2, K2, Fr2, Fw2, Vr2, os2⟩
theorem d2_0 : decode method_4_code 0 = .ok (.iload_n 0, 1) := by decide +kernel
theorem d2_1 : decode method_4_code 1 = .ok (.ifCond .ne 14, 3) := by decide +kernel
theorem d2_4 : decode method_4_code 4 = .ok (.new 8, 3) := by decide +kernel
theorem d2_7 : decode method_4_code 7 = .ok (.dup, 1) := by decide +kernel
theorem d2_8 : decode method_4_code 8 = .ok (.iconst 0, 1) := by decide +kernel
theorem d2_9 : decode method_4_code 9 = .ok (.newarray .char, 2) := by decide +kernel
theorem d2_11 : decode method_4_code 11 = .ok (.invokespecial 10, 3) := by decide +kernel
theorem d2_14 : decode method_4_code 14 = .ok (.areturn, 1) := by decide +kernel
theorem d2_15 : decode method_4_code 15 = .ok (.iload_n 0, 1) := by decide +kernel
theorem d2_16 : decode method_4_code 16 = .ok (.iconst 1, 1) := by decide +kernel
theorem d2_17 : decode method_4_code 17 = .ok (.if_icmp .ne 20, 3) := by decide +kernel
theorem d2_20 : decode method_4_code 20 = .ok (.new 8, 3) := by decide +kernel
theorem d2_23 : decode method_4_code 23 = .ok (.dup, 1) := by decide +kernel
theorem d2_24 : decode method_4_code 24 = .ok (.iconst 1, 1) := by decide +kernel
theorem d2_25 : decode method_4_code 25 = .ok (.newarray .char, 2) := by decide +kernel
theorem d2_27 : decode method_4_code 27 = .ok (.dup, 1) := by decide +kernel
theorem d2_28 : decode method_4_code 28 = .ok (.iconst 0, 1) := by decide +kernel
theorem d2_29 : decode method_4_code 29 = .ok (.aload_n 1, 1) := by decide +kernel
theorem d2_30 : decode method_4_code 30 = .ok (.iconst 0, 1) := by decide +kernel
theorem d2_31 : decode method_4_code 31 = .ok (.caload, 1) := by decide +kernel
theorem d2_32 : decode method_4_code 32 = .ok (.castore, 1) := by decide +kernel
theorem d2_33 : decode method_4_code 33 = .ok (.invokespecial 10, 3) := by decide +kernel
theorem d2_36 : decode method_4_code 36 = .ok (.areturn, 1) := by decide +kernel
theorem d2_37 : decode method_4_code 37 = .ok (.iload_n 0, 1) := by decide +kernel
theorem d2_38 : decode method_4_code 38 = .ok (.iconst 2, 1) := by decide +kernel
theorem d2_39 : decode method_4_code 39 = .ok (.if_icmp .ne 26, 3) := by decide +kernel
theorem d2_42 : decode method_4_code 42 = .ok (.new 8, 3) := by decide +kernel
theorem d2_45 : decode method_4_code 45 = .ok (.dup, 1) := by decide +kernel
theorem d2_46 : decode method_4_code 46 = .ok (.iconst 2, 1) := by decide +kernel
theorem d2_47 : decode method_4_code 47 = .ok (.newarray .char, 2) := by decide +kernel
theorem d2_49 : decode method_4_code 49 = .ok (.dup, 1) := by decide +kernel
theorem d2_50 : decode method_4_code 50 = .ok (.iconst 0, 1) := by decide +kernel
theorem d2_51 : decode method_4_code 51 = .ok (.aload_n 1, 1) := by decide +kernel
theorem d2_52 : decode method_4_code 52 = .ok (.iconst 0, 1) := by decide +kernel
theorem d2_53 : decode method_4_code 53 = .ok (.caload, 1) := by decide +kernel
theorem d2_54 : decode method_4_code 54 = .ok (.castore, 1) := by decide +kernel
theorem d2_55 : decode method_4_code 55 = .ok (.dup, 1) := by decide +kernel
theorem d2_56 : decode method_4_code 56 = .ok (.iconst 1, 1) := by decide +kernel
theorem d2_57 : decode method_4_code 57 = .ok (.aload_n 1, 1) := by decide +kernel
theorem d2_58 : decode method_4_code 58 = .ok (.iconst 1, 1) := by decide +kernel
theorem d2_59 : decode method_4_code 59 = .ok (.caload, 1) := by decide +kernel
theorem d2_60 : decode method_4_code 60 = .ok (.castore, 1) := by decide +kernel
theorem d2_61 : decode method_4_code 61 = .ok (.invokespecial 10, 3) := by decide +kernel
theorem d2_64 : decode method_4_code 64 = .ok (.areturn, 1) := by decide +kernel
theorem d2_65 : decode method_4_code 65 = .ok (.iload_n 0, 1) := by decide +kernel
theorem d2_66 : decode method_4_code 66 = .ok (.iconst 3, 1) := by decide +kernel
theorem d2_67 : decode method_4_code 67 = .ok (.if_icmp .ne 32, 3) := by decide +kernel
theorem d2_70 : decode method_4_code 70 = .ok (.new 8, 3) := by decide +kernel
theorem d2_73 : decode method_4_code 73 = .ok (.dup, 1) := by decide +kernel
theorem d2_74 : decode method_4_code 74 = .ok (.iconst 3, 1) := by decide +kernel
theorem d2_75 : decode method_4_code 75 = .ok (.newarray .char, 2) := by decide +kernel
theorem d2_77 : decode method_4_code 77 = .ok (.dup, 1) := by decide +kernel
theorem d2_78 : decode method_4_code 78 = .ok (.iconst 0, 1) := by decide +kernel
theorem d2_79 : decode method_4_code 79 = .ok (.aload_n 1, 1) := by decide +kernel
theorem d2_80 : decode method_4_code 80 = .ok (.iconst 0, 1) := by decide +kernel
theorem d2_81 : decode method_4_code 81 = .ok (.caload, 1) := by decide +kernel
theorem d2_82 : decode method_4_code 82 = .ok (.castore, 1) := by decide +kernel
theorem d2_83 : decode method_4_code 83 = .ok (.dup, 1) := by decide +kernel
theorem d2_84 : decode method_4_code 84 = .ok (.iconst 1, 1) := by decide +kernel
theorem d2_85 : decode method_4_code 85 = .ok (.aload_n 1, 1) := by decide +kernel
theorem d2_86 : decode method_4_code 86 = .ok (.iconst 1, 1) := by decide +kernel
theorem d2_87 : decode method_4_code 87 = .ok (.caload, 1) := by decide +kernel
theorem d2_88 : decode method_4_code 88 = .ok (.castore, 1) := by decide +kernel
theorem d2_89 : decode method_4_code 89 = .ok (.dup, 1) := by decide +kernel
theorem d2_90 : decode method_4_code 90 = .ok (.iconst 2, 1) := by decide +kernel
theorem d2_91 : decode method_4_code 91 = .ok (.aload_n 1, 1) := by decide +kernel
theorem d2_92 : decode method_4_code 92 = .ok (.iconst 2, 1) := by decide +kernel
theorem d2_93 : decode method_4_code 93 = .ok (.caload, 1) := by decide +kernel
theorem d2_94 : decode method_4_code 94 = .ok (.castore, 1) := by decide +kernel
theorem d2_95 : decode method_4_code 95 = .ok (.invokespecial 10, 3) := by decide +kernel
theorem d2_98 : decode method_4_code 98 = .ok (.areturn, 1) := by decide +kernel
theorem d2_99 : decode method_4_code 99 = .ok (.iload_n 0, 1) := by decide +kernel
theorem d2_100 : decode method_4_code 100 = .ok (.iconst 4, 1) := by decide +kernel
theorem d2_101 : decode method_4_code 101 = .ok (.if_icmp .ne 38, 3) := by decide +kernel
theorem d2_104 : decode method_4_code 104 = .ok (.new 8, 3) := by decide +kernel
theorem d2_107 : decode method_4_code 107 = .ok (.dup, 1) := by decide +kernel
theorem d2_108 : decode method_4_code 108 = .ok (.iconst 4, 1) := by decide +kernel
theorem d2_109 : decode method_4_code 109 = .ok (.newarray .char, 2) := by decide +kernel
theorem d2_111 : decode method_4_code 111 = .ok (.dup, 1) := by decide +kernel
theorem d2_112 : decode method_4_code 112 = .ok (.iconst 0, 1) := by decide +kernel
theorem d2_113 : decode method_4_code 113 = .ok (.aload_n 1, 1) := by decide +kernel
theorem d2_114 : decode method_4_code 114 = .ok (.iconst 0, 1) := by decide +kernel
theorem d2_115 : decode method_4_code 115 = .ok (.caload, 1) := by decide +kernel
theorem d2_116 : decode method_4_code 116 = .ok (.castore, 1) := by decide +kernel
theorem d2_117 : decode method_4_code 117 = .ok (.dup, 1) := by decide +kernel
theorem d2_118 : decode method_4_code 118 = .ok (.iconst 1, 1) := by decide +kernel
theorem d2_119 : decode method_4_code 119 = .ok (.aload_n 1, 1) := by decide +kernel
theorem d2_120 : decode method_4_code 120 = .ok (.iconst 1, 1) := by decide +kernel
theorem d2_121 : decode method_4_code 121 = .ok (.caload, 1) := by decide +kernel
theorem d2_122 : decode method_4_code 122 = .ok (.castore, 1) := by decide +kernel
theorem d2_123 : decode method_4_code 123 = .ok (.dup, 1) := by decide +kernel
theorem d2_124 : decode method_4_code 124 = .ok (.iconst 2, 1) := by decide +kernel
theorem d2_125 : decode method_4_code 125 = .ok (.aload_n 1, 1) := by decide +kernel
theorem d2_126 : decode method_4_code 126 = .ok (.iconst 2, 1) := by decide +kernel
theorem d2_127 : decode method_4_code 127 = .ok (.caload, 1) := by decide +kernel
theorem d2_128 : decode method_4_code 128 = .ok (.castore, 1) := by decide +kernel
theorem d2_129 : decode method_4_code 129 = .ok (.dup, 1) := by decide +kernel
theorem d2_130 : decode method_4_code 130 = .ok (.iconst 3, 1) := by decide +kernel
theorem d2_131 : decode method_4_code 131 = .ok (.aload_n 1, 1) := by decide +kernel
theorem d2_132 : decode method_4_code 132 = .ok (.iconst 3, 1) := by decide +kernel
theorem d2_133 : decode method_4_code 133 = .ok (.caload, 1) := by decide +kernel
theorem d2_134 : decode method_4_code 134 = .ok (.castore, 1) := by decide +kernel
theorem d2_135 : decode method_4_code 135 = .ok (.invokespecial 10, 3) := by decide +kernel
theorem d2_138 : decode method_4_code 138 = .ok (.areturn, 1) := by decide +kernel
theorem d2_139 : decode method_4_code 139 = .ok (.new 8, 3) := by decide +kernel
theorem d2_142 : decode method_4_code 142 = .ok (.dup, 1) := by decide +kernel
theorem d2_143 : decode method_4_code 143 = .ok (.iconst 5, 1) := by decide +kernel
theorem d2_144 : decode method_4_code 144 = .ok (.newarray .char, 2) := by decide +kernel
theorem d2_146 : decode method_4_code 146 = .ok (.dup, 1) := by decide +kernel
theorem d2_147 : decode method_4_code 147 = .ok (.iconst 0, 1) := by decide +kernel
theorem d2_148 : decode method_4_code 148 = .ok (.aload_n 1, 1) := by decide +kernel
theorem d2_149 : decode method_4_code 149 = .ok (.iconst 0, 1) := by decide +kernel
theorem d2_150 : decode method_4_code 150 = .ok (.caload, 1) := by decide +kernel
theorem d2_151 : decode method_4_code 151 = .ok (.castore, 1) := by decide +kernel
theorem d2_152 : decode method_4_code 152 = .ok (.dup, 1) := by decide +kernel
theorem d2_153 : decode method_4_code 153 = .ok (.iconst 1, 1) := by decide +kernel
theorem d2_154 : decode method_4_code 154 = .ok (.aload_n 1, 1) := by decide +kernel
theorem d2_155 : decode method_4_code 155 = .ok (.iconst 1, 1) := by decide +kernel
theorem d2_156 : decode method_4_code 156 = .ok (.caload, 1) := by decide +kernel
theorem d2_157 : decode method_4_code 157 = .ok (.castore, 1) := by decide +kernel
theorem d2_158 : decode method_4_code 158 = .ok (.dup, 1) := by decide +kernel
theorem d2_159 : decode method_4_code 159 = .ok (.iconst 2, 1) := by decide +kernel
theorem d2_160 : decode method_4_code 160 = .ok (.aload_n 1, 1) := by decide +kernel
theorem d2_161 : decode method_4_code 161 = .ok (.iconst 2, 1) := by decide +kernel
theorem d2_162 : decode method_4_code 162 = .ok (.caload, 1) := by decide +kernel
theorem d2_163 : decode method_4_code 163 = .ok (.castore, 1) := by decide +kernel
theorem d2_164 : decode method_4_code 164 = .ok (.dup, 1) := by decide +kernel
theorem d2_165 : decode method_4_code 165 = .ok (.iconst 3, 1) := by decide +kernel
theorem d2_166 : decode method_4_code 166 = .ok (.aload_n 1, 1) := by decide +kernel
theorem d2_167 : decode method_4_code 167 = .ok (.iconst 3, 1) := by decide +kernel
theorem d2_168 : decode method_4_code 168 = .ok (.caload, 1) := by decide +kernel
theorem d2_169 : decode method_4_code 169 = .ok (.castore, 1) := by decide +kernel
theorem d2_170 : decode method_4_code 170 = .ok (.dup, 1) := by decide +kernel
theorem d2_171 : decode method_4_code 171 = .ok (.iconst 4, 1) := by decide +kernel
theorem d2_172 : decode method_4_code 172 = .ok (.aload_n 1, 1) := by decide +kernel
theorem d2_173 : decode method_4_code 173 = .ok (.iconst 4, 1) := by decide +kernel
theorem d2_174 : decode method_4_code 174 = .ok (.caload, 1) := by decide +kernel
theorem d2_175 : decode method_4_code 175 = .ok (.castore, 1) := by decide +kernel
theorem d2_176 : decode method_4_code 176 = .ok (.invokespecial 10, 3) := by decide +kernel
theorem d2_179 : decode method_4_code 179 = .ok (.areturn, 1) := by decide +kernel
theorem pn_6 : plainName "org/vouchsafe/DomTrimmedPinLaw" = true := by first | (simp [plainName, overriddenIn]; done) | decide +kernel
theorem pd_29 : parseMethodDescriptor "([C)V" = some ⟨[(.array .char)], none⟩ := by decide +kernel
def Q2 (Z : State) (n : Int32) (oc : Addr) (kd : ClassId) (c0 c1 c2 c3 c4 : Int32) (cs : Int32) (fo : Value) (h0 : Heap) (n0 : Nat) (v : Option Value) (h : Heap) (L : List Loc) : Prop := ∃ (r rb : Addr) (rk : ClassId) (rco rN : Int32) (rbs : List Int32), v = some (.ref r) ∧ Fr n0 L ∧ Keep h0 h [] ∧ Exa Z h r "java/lang/String" ∧ Fld Z h r "java/lang/String" "coder" "B" (.int rco) ∧ Fld Z h r "java/lang/String" "value" "[B" (.ref rb) ∧ Arv Z h rb rk .byte rN (List.map Value.int rbs) (.int 0) ∧ OS (List.take n.toInt.toNat [c0, c1, c2, c3, c4]) n rco rN rbs
set_option maxRecDepth 65536 in
set_option maxHeartbeats 40000000 in
theorem rm2 (l : Launch) (Z : State) (a0 : Array Value) (hw : ∀ d ∈ tables_1, d.before a0 Z = true) (ws : List Jvm.Cond) (n : Int32) (oc : Addr) (kd : ClassId) (c0 c1 c2 c3 c4 : Int32) (cs : Int32) (fo : Value) (h0 : Heap) (n0 : Nat) (Z0 : n0 ≤ h0.size) (Vc : Arv Z h0 oc kd .char (5 : Int32) [.int c0, .int c1, .int c2, .int c3, .int c4] (.int 0)) (hn6 : n = (0 : Int32) ∨ n = (1 : Int32) ∨ n = (2 : Int32) ∨ n = (3 : Int32) ∨ n = (4 : Int32) ∨ n = (5 : Int32)) (hc0 : 0 ≤ c0.toInt ∧ c0.toInt < 65536) (hc1 : 0 ≤ c1.toInt ∧ c1.toInt < 65536) (hc2 : 0 ≤ c2.toInt ∧ c2.toInt < 65536) (hc3 : 0 ≤ c3.toInt ∧ c3.toInt < 65536) (hc4 : 0 ≤ c4.toInt ∧ c4.toInt < 65536) (S_cs : Sta Z h0 "java/lang/String" "COMPACT_STRINGS" "Z" (.int cs)) (c_cs : ¬ (cs = (0 : Int32))) (S_fo : Sta Z h0 "jdk/internal/util/Preconditions" "SIOOBE_FORMATTER" "Ljava/util/function/BiFunction;" fo) (r_fo : Value.isRef fo = true) (S_ad : Sta Z h0 "java/lang/StringUTF16" "$assertionsDisabled" "Z" (.int 1)) (S_hi : Sta Z h0 "java/lang/StringUTF16" "HI_BYTE_SHIFT" "I" (.int 0)) (S_lo : Sta Z h0 "java/lang/StringUTF16" "LO_BYTE_SHIFT" "I" (.int 8)) :
    OwnMH l Z nM37 method_4_code 2 (some (.object "java/lang/String")) ws ({ frames := 6, cells := 6, slots := 24, locals := 88 } : Room) #[(.int n), (.ref oc)] h0 own_EL (Q2 Z n oc kd c0 c1 c2 c3 c4 cs fo h0 n0) := by
  refine own_bodyH (own_EWs hw) (plainFor_of_name pn_6) ?_
  intro p e s m below meth c s₁ G vm0 k0 hx hby hml hZ hown hnm hret hS hk hCH0 X0 e0 step fin
  replace hown : vm0.findClass "org/vouchsafe/DomTrimmedPinLaw" = some m.cls := hown
  have N0 := Fr.nil n0
  have KK : OwnK p e below c _ G := ⟨step, hx, hby⟩
  have C0 := CHr.refl hCH0
  refine step (s₁.setTop (mkF m 0 #[vi n, vr oc] [])) (fun t k => castTop (ef_36_7 m n oc) k) ?_
  rcases hn6 with hnk | hnk | hnk | hnk | hnk | hnk
  · -- n = 0
    refine oil KK X0 d2_0 n 1 rfl rfl ?_
    have hc1_1 : n = (0 : Int32) := hnk
    refine step (s₁.setTop (mkF m 4 #[vi n, vr oc] [])) (fun t k => XS.ifNo X0.here hx rfl (hb hby d2_1) rfl ((if0 _ _).trans (teq hc1_1).2) k) ?_
    obtain ⟨T2, h2, X2, e2, E2, A2, D2, -, st2⟩ := newO X0 hx hZ hown (ow hw 9 rfl) (ow hw 10 rfl) (ow hw 11 rfl) e0 (g := (mkF m 4 #[vi n, vr oc] [])) rfl (hb hby d2_4) (by decide) (by decide)
    obtain ⟨b2, g2⟩ : ∃ z, z = h0.size := ⟨_, rfl⟩
    rw [← g2] at A2 D2 st2
    have ne_oc_b2 : oc ≠ b2 := Nat.ne_of_lt (Nat.lt_of_lt_of_le Vc.lt (Nat.le_of_eq g2.symm))
    have gn_b2 : n0 ≤ b2 := Nat.le_trans Z0 (Nat.le_of_eq g2.symm)
    have sz_b2 : h0.size ≤ b2 := Nat.le_of_eq g2.symm
    have Sf2_b2 : Safe Z own_EL vm0 h0 b2 := Safe.new (Nat.le_of_eq g2.symm)
    have K2 : Keep h0 h2 [] := (Keep.refl h0 []).ext E2
    have F_value_b2 : Fld Z h2 b2 "java/lang/String" "value" "[B" .null := D2 (Or.inr (ow hw 24 rfl)) (ty := (.array .byte)) (by decide)
    have F_coder_b2 : Fld Z h2 b2 "java/lang/String" "coder" "B" (.int 0) := D2 (Or.inr (ow hw 25 rfl)) (ty := .byte) (by decide)
    refine step (T2.setTop (mkF m 7 #[vi n, vr oc] [(.ref b2)])) (fun t k => st2 t k) ?_
    refine odu KK X2 d2_7 8 rfl rfl ?_
    refine oic KK X2 d2_8 0 9 rfl rfl ?_
    obtain ⟨T3, h3, k3, X3, e3, E3, A3, st3⟩ := newP X2 hx hZ (ow hw 0 rfl) e2 (g := (mkF m 9 #[vi n, vr oc] [(.int 0), (.ref b2), (.ref b2)])) rfl (hb hby d2_9) rfl (by decide) (cap := 0) (by decide) (by decide) (by decide) (by decide)
    obtain ⟨b3, g3⟩ : ∃ z, z = h2.size := ⟨_, rfl⟩
    rw [← g3] at A3 st3
    have f4 := (Vc.ext E2)
    have ne_oc_b3 : oc ≠ b3 := Nat.ne_of_lt (Nat.lt_of_lt_of_le f4.lt (Nat.le_of_eq g3.symm))
    have ne_b2_b3 : b2 ≠ b3 := Nat.ne_of_lt (Nat.lt_of_lt_of_le A2.lt (Nat.le_of_eq g3.symm))
    have gn_b3 : n0 ≤ b3 := Nat.le_trans (Nat.le_trans Z0 K2.1) (Nat.le_of_eq g3.symm)
    have sz_b3 : h0.size ≤ b3 := Nat.le_trans K2.1 (Nat.le_of_eq g3.symm)
    have C5 := C0.trans (CHr.ext E2 C0.1)
    have Sf5_b2 := Safe.ext E2 C0.1 Sf2_b2
    have Sf3_b3 : Safe Z own_EL vm0 h2 b3 := Safe.new (Nat.le_of_eq g3.symm)
    have K3 : Keep h0 h3 [] := K2.ext E3
    have V3 : Arv Z h3 b3 k3 .char (0 : Int32) [] (.int 0) := (Arv.new A3 (by decide)).pad (pad_rep [] (.int 0) 0)
    refine step (T3.setTop (mkF m 11 #[vi n, vr oc] [(.ref b3), (.ref b2), (.ref b2)])) (fun t k => st3 t k) ?_
    have f6 := (A2.ext E3)
    have f7 := (F_coder_b2.ext E3)
    have f8 := (F_value_b2.ext E3)
    have f9 := ((S_cs.ext E2).ext E3)
    have f10 := ((S_fo.ext E2).ext E3)
    have f11 := ((S_ad.ext E2).ext E3)
    have f12 := ((S_hi.ext E2).ext E3)
    have f13 := ((S_lo.ext E2).ext E3)
    have C15 := C5.trans (CHr.ext E3 C5.1)
    have Sf15_b2 := Safe.ext E3 C5.1 Sf5_b2
    have Sf15_b3 := Safe.ext E3 C5.1 Sf3_b3
    have hl14_b2 := f6.lt
    have hl14_b3 := V3.lt
    obtain ⟨_, _, ⟨T14, L14, k14, n14⟩, -, X14', hS14', hg14, ⟨Lc14, hQ14, l14, y14, z14, hC14⟩, st14⟩ := X3.specialBackS hx (y := nM36) rfl hown (mvT hZ (ow hw 12 rfl)) (mvT hZ (ow hw 13 rfl)) (mvT hZ (ow hw 14 rfl)) (by decide) (backOfSH (W := 1) (rm3z l Z a0 hw [] b2 b3 k3 cs fo h3 n0 (Nat.le_trans Z0 K3.1) V3 f6 f7 f8 gn_b2 ne_b2_b3 f9 c_cs f10 r_fo f11 f12 f13) hZ (ow hw 14 rfl) (ow hw 11 rfl) (by decide) (by decide) (own_EWs hw) C15.1) (g := (mkF m 11 #[vi n, vr oc] [(.ref b3), (.ref b2), (.ref b2)])) rfl (by rw [hml]; rfl) (Steps.refl _) (a := b2) (argsL := [(.ref b3)]) (rest := [(.ref b2)]) (lenOf pd_29 rfl) rfl (omw rfl rfl) (hb hby d2_11) (fun _ _ => ⟨rfl, e3, (by decide : 2 + 4 ≤ _), (by decide : 4 + 8 ≤ _)⟩)
    dsimp only [Pt.U, Pt.locs, Pt.cells, Pt.slots] at X14' hS14' hg14 l14 y14 z14 st14 hQ14 hC14
    subst l14 y14 z14
    obtain ⟨X14, hS14, hZ14, hown14⟩ := rebS hS (Nat.le_trans (Nat.le_trans (Nat.le_trans hk E2.1) E3.1) (Nat.le_of_eq (congrArg Array.size e3.symm))) X14' hS14' hg14 hZ hown
    replace hS := hS14
    replace hZ : Z.Warmed39 T14.vm := hZ14
    replace hown : T14.vm.findClass "org/vouchsafe/DomTrimmedPinLaw" = some m.cls := hown14
    obtain ⟨h14, e14⟩ : ∃ z, T14.heap = z := ⟨_, rfl⟩
    rw [e14] at hQ14
    obtain ⟨rb14, rk14, rco14, rN14, rbs14, rfl, N14q, K14q, Fr14, Fw14, Vr14, os14⟩ := hQ14
    have N14 := Fr.app N0 N14q
    have K14 : Keep h0 h14 [] := K3.trans K14q (allS (Or.inr sz_b2) all0)
    have f16 := own_staK f9 K14q (allS (own_exaP f6) all0)
    have f17 := own_staK f10 K14q (allS (own_exaP f6) all0)
    have f18 := own_staK f11 K14q (allS (own_exaP f6) all0)
    have f19 := own_staK f12 K14q (allS (own_exaP f6) all0)
    have f20 := own_staK f13 K14q (allS (own_exaP f6) all0)
    rw [e14] at hC14
    have C14 := C15.trans hC14
    have Sf14_b2 := hC14.safe hl14_b2 Sf15_b2
    have Sf14_b3 := hC14.safe hl14_b3 Sf15_b3
    have hk14 : T14.heap.size ≤ h14.size := Nat.le_of_eq (congrArg Array.size e14)
    refine step (T14.setTop (mkF m 14 #[vi n, vr oc] [(.ref b2)])) (fun t k => st14.trans k) ?_
    refine fin (v := some (.ref b2)) X14 hS (Nat.le_trans hk14 (Nat.le_of_eq (congrArg Array.size e14.symm))) hZ (by rw [e14]; exact C14) (fun h => by cases h) ?_ (by decide) (by decide) (fun fs hr => X14.areturnOut hx rfl hret rfl (hb hby d2_14) hr)
    show Q2 Z n oc kd c0 c1 c2 c3 c4 cs fo h0 n0 (some (.ref b2)) T14.heap _
    rw [e14]
    have f21 := (f6.keep K14q)
    exact ⟨b2, rb14, rk14, rco14, rN14, rbs14, rfl, N14, K14, f21, Fr14, Fw14, Vr14, (own_osT hnk (by rw [show (0 : Int32).toInt.toNat = 0 by decide]; rfl) os14)⟩
  · -- n = 1
    refine oil KK X0 d2_0 n 1 rfl rfl ?_
    have hc1_22 : ¬ (n = (0 : Int32)) := (by rw [hnk]; decide)
    refine step (s₁.setTop (mkF m 15 #[vi n, vr oc] [])) (fun t k => XS.ifYes X0.here hx rfl (pc0 := 1) (pc' := 15) rfl (hb hby d2_1) rfl ((if0 _ _).trans (feq hc1_22).2) (by decide) (by decide) k) ?_
    refine oil KK X0 d2_15 n 16 rfl rfl ?_
    refine oic KK X0 d2_16 1 17 rfl rfl ?_
    have hc17_23 : n = (1 : Int32) := hnk
    refine oin KK X0 d2_17 20 rfl (teq hc17_23).2 ?_
    obtain ⟨T24, h24, X24, e24, E24, A24, D24, -, st24⟩ := newO X0 hx hZ hown (ow hw 9 rfl) (ow hw 10 rfl) (ow hw 11 rfl) e0 (g := (mkF m 20 #[vi n, vr oc] [])) rfl (hb hby d2_20) (by decide) (by decide)
    obtain ⟨b24, g24⟩ : ∃ z, z = h0.size := ⟨_, rfl⟩
    rw [← g24] at A24 D24 st24
    have ne_oc_b24 : oc ≠ b24 := Nat.ne_of_lt (Nat.lt_of_lt_of_le Vc.lt (Nat.le_of_eq g24.symm))
    have gn_b24 : n0 ≤ b24 := Nat.le_trans Z0 (Nat.le_of_eq g24.symm)
    have sz_b24 : h0.size ≤ b24 := Nat.le_of_eq g24.symm
    have Sf24_b24 : Safe Z own_EL vm0 h0 b24 := Safe.new (Nat.le_of_eq g24.symm)
    have K24 : Keep h0 h24 [] := (Keep.refl h0 []).ext E24
    have F_value_b24 : Fld Z h24 b24 "java/lang/String" "value" "[B" .null := D24 (Or.inr (ow hw 24 rfl)) (ty := (.array .byte)) (by decide)
    have F_coder_b24 : Fld Z h24 b24 "java/lang/String" "coder" "B" (.int 0) := D24 (Or.inr (ow hw 25 rfl)) (ty := .byte) (by decide)
    refine step (T24.setTop (mkF m 23 #[vi n, vr oc] [(.ref b24)])) (fun t k => st24 t k) ?_
    refine odu KK X24 d2_23 24 rfl rfl ?_
    refine oic KK X24 d2_24 1 25 rfl rfl ?_
    obtain ⟨T25, h25, k25, X25, e25, E25, A25, st25⟩ := newP X24 hx hZ (ow hw 0 rfl) e24 (g := (mkF m 25 #[vi n, vr oc] [(.int 1), (.ref b24), (.ref b24)])) rfl (hb hby d2_25) rfl (by decide) (cap := 1) (by decide) (by decide) (by decide) (by decide)
    obtain ⟨b25, g25⟩ : ∃ z, z = h24.size := ⟨_, rfl⟩
    rw [← g25] at A25 st25
    have f26 := (Vc.ext E24)
    have ne_oc_b25 : oc ≠ b25 := Nat.ne_of_lt (Nat.lt_of_lt_of_le f26.lt (Nat.le_of_eq g25.symm))
    have ne_b24_b25 : b24 ≠ b25 := Nat.ne_of_lt (Nat.lt_of_lt_of_le A24.lt (Nat.le_of_eq g25.symm))
    have gn_b25 : n0 ≤ b25 := Nat.le_trans (Nat.le_trans Z0 K24.1) (Nat.le_of_eq g25.symm)
    have sz_b25 : h0.size ≤ b25 := Nat.le_trans K24.1 (Nat.le_of_eq g25.symm)
    have C27 := C0.trans (CHr.ext E24 C0.1)
    have Sf27_b24 := Safe.ext E24 C0.1 Sf24_b24
    have Sf25_b25 : Safe Z own_EL vm0 h24 b25 := Safe.new (Nat.le_of_eq g25.symm)
    have K25 : Keep h0 h25 [] := K24.ext E25
    have V25 : Arv Z h25 b25 k25 .char (1 : Int32) [(.int 0)] (.int 0) := (Arv.new A25 (by decide)).pad (pad_rep [] (.int 0) 1)
    refine step (T25.setTop (mkF m 27 #[vi n, vr oc] [(.ref b25), (.ref b24), (.ref b24)])) (fun t k => st25 t k) ?_
    refine odu KK X25 d2_27 28 rfl rfl ?_
    refine oic KK X25 d2_28 0 29 rfl rfl ?_
    refine oal KK X25 d2_29 (.ref oc) 30 rfl rfl rfl ?_
    refine oic KK X25 d2_30 0 31 rfl rfl ?_
    have f28 := (f26.ext E25)
    obtain ⟨cl29, Ar29, q29, S29, N29n, H29, G29⟩ := id f28
    have hin29 : ¬ ((0 : Int32) < 0 ∨ cl29.slots.size ≤ ((0 : Int32)).toNatClampNeg) := inb_of S29 ⟨by decide, by decide⟩
    have hat29 : cl29.slots[((0 : Int32)).toNatClampNeg]? = some (.int c0) := H29.at hin29 rfl
    refine step (T25.setTop (mkF m 32 #[vi n, vr oc] [(.int c0), (.int 0), (.ref b25), (.ref b25), (.ref b24), (.ref b24)])) (fun t k => X25.caload hx (j := (0 : Int32)) (v := (.int c0)) (by rw [e25]; exact Ar29.1) (State.isArrayOf_alike hZ.alike Ar29.2.1) Ar29.2.2 hin29 hat29 (g := (mkF m 31 #[vi n, vr oc] [(.int 0), (.ref oc), (.int 0), (.ref b25), (.ref b25), (.ref b24), (.ref b24)])) rfl rfl (hb hby d2_31) t k) ?_
    obtain ⟨cl30, Ar30, q30, S30, N30n, H30, G30⟩ := id V25
    have hin30 : ¬ ((0 : Int32) < 0 ∨ cl30.slots.size ≤ ((0 : Int32)).toNatClampNeg) := inb_of S30 ⟨by decide, by decide⟩
    obtain ⟨T30, h30, X30, e30, W30, st30⟩ := stC X25 hx hZ e25 Ar30 (j := (0 : Int32)) hin30 (g := (mkF m 32 #[vi n, vr oc] [(.int c0), (.int 0), (.ref b25), (.ref b25), (.ref b24), (.ref b24)])) rfl rfl (hb hby d2_32)
    have N30 := Fr.snoc X30 N0 gn_b25
    have K30 : Keep h0 h30 [] := K25.wr W30 (Or.inr sz_b25)
    have V30 : Arv Z h30 b25 k25 .char (1 : Int32) [(.int (nar .char c0))] (.int 0) := Arv.set Ar30 q30 S30 N30n H30 G30 (fits_nar_char c0) W30 0 rfl (Nat.le_of_ble_eq_true rfl)
    refine step (T30.setTop (mkF m 33 #[vi n, vr oc] [(.ref b25), (.ref b24), (.ref b24)])) (fun t k => st30 t k) ?_
    have Vc31 : Arv Z h30 b25 k25 .char (1 : Int32) (List.map Value.int [c0]) (.int 0) := by
      have q := V30
      rw [own_narC hc0] at q
      exact q
    have f32 := ((A24.ext E25).wr W30)
    have f33 := ((F_coder_b24.ext E25).other W30 (Or.inl ne_b24_b25))
    have f34 := ((F_value_b24.ext E25).other W30 (Or.inl ne_b24_b25))
    have f35 := (((S_cs.ext E24).ext E25).wr W30)
    have f36 := (((S_fo.ext E24).ext E25).wr W30)
    have f37 := (((S_ad.ext E24).ext E25).wr W30)
    have f38 := (((S_hi.ext E24).ext E25).wr W30)
    have f39 := (((S_lo.ext E24).ext E25).wr W30)
    have C41 := C27.trans (CHr.ext E25 C27.1)
    have Sf41_b24 := Safe.ext E25 C27.1 Sf27_b24
    have Sf41_b25 := Safe.ext E25 C27.1 Sf25_b25
    have C42 := C41.trans (CHr.wr W30 Sf41_b25 C41.1)
    have Sf42_b24 := Safe.wr W30 Sf41_b25 C41.1 Sf41_b24
    have Sf42_b25 := Safe.wr W30 Sf41_b25 C41.1 Sf41_b25
    obtain ⟨_, _, ⟨T40, L40, k40, n40⟩, -, X40, ⟨Lc40, hQ40, l40, y40, z40⟩, st40⟩ := X30.specialBack hx (y := nM36) rfl hown (mvT hZ (ow hw 12 rfl)) (mvT hZ (ow hw 13 rfl)) (mvT hZ (ow hw 14 rfl)) (by decide) (backOf (W := 1) (rm3 l Z a0 hw [] b24 b25 k25 [c0] (1 : Int32) cs fo h30 n0 (Nat.le_trans Z0 K30.1) Vc31 (show (1 : Int32).toInt = 1 by decide) (show 1 ≤ 5 by decide) (List.forall_mem_cons.mpr ⟨hc0, (fun _ q => nomatch q)⟩) f32 f33 f34 gn_b24 ne_b24_b25 (by decide) f35 c_cs f36 r_fo f37 f38 f39) hZ (ow hw 14 rfl) (ow hw 11 rfl) (by decide) (by decide)) (g := (mkF m 33 #[vi n, vr oc] [(.ref b25), (.ref b24), (.ref b24)])) rfl (by rw [hml]; rfl) (Steps.refl _) (a := b24) (argsL := [(.ref b25)]) (rest := [(.ref b24)]) (lenOf pd_29 rfl) rfl (omw rfl rfl) (hb hby d2_33) (fun _ _ => ⟨rfl, e30, (by decide : 2 + 2 ≤ _), (by decide : 5 + 15 ≤ _)⟩)
    dsimp only [Pt.U, Pt.locs, Pt.cells, Pt.slots] at X40 l40 y40 z40 st40 hQ40
    subst l40 y40 z40
    obtain ⟨h40, e40⟩ : ∃ z, T40.heap = z := ⟨_, rfl⟩
    rw [e40] at hQ40
    obtain ⟨rb40, rk40, rco40, rN40, rbs40, rfl, N40q, K40q, Fr40, Fw40, Vr40, os40⟩ := hQ40
    have N40 := Fr.app N30 N40q
    have K40 : Keep h0 h40 [] := K30.trans K40q (allS (Or.inr sz_b24) all0)
    have f43 := own_staK f35 K40q (allS (own_exaP f32) all0)
    have f44 := own_staK f36 K40q (allS (own_exaP f32) all0)
    have f45 := own_staK f37 K40q (allS (own_exaP f32) all0)
    have f46 := own_staK f38 K40q (allS (own_exaP f32) all0)
    have f47 := own_staK f39 K40q (allS (own_exaP f32) all0)
    refine step (T40.setTop (mkF m 36 #[vi n, vr oc] [(.ref b24)])) (fun t k => st40.trans k) ?_
    have C48 := C42.trans (CHr.keep K40q (allS Sf42_b24 all0) C42.1)
    have Sf48_b24 := Safe.keep K40q (allS Sf42_b24 all0) C42.1 Sf42_b24
    have Sf48_b25 := Safe.keep K40q (allS Sf42_b24 all0) C42.1 Sf42_b25
    refine fin (v := some (.ref b24)) X40 hS (Nat.le_trans (Nat.le_trans (Nat.le_trans (Nat.le_trans (Nat.le_trans hk E24.1) E25.1) (Keep.of_wr W30).1) K40q.1) (Nat.le_of_eq (congrArg Array.size e40.symm))) hZ (by rw [e40]; exact C48) (fun h => by cases h) ?_ (by decide) (by decide) (fun fs hr => X40.areturnOut hx rfl hret rfl (hb hby d2_36) hr)
    show Q2 Z n oc kd c0 c1 c2 c3 c4 cs fo h0 n0 (some (.ref b24)) T40.heap _
    rw [e40]
    have f49 := (f32.keep K40q)
    exact ⟨b24, rb40, rk40, rco40, rN40, rbs40, rfl, N40, K40, f49, Fr40, Fw40, Vr40, (own_osT hnk (by rw [show (1 : Int32).toInt.toNat = 1 by decide]; rfl) os40)⟩
  · -- n = 2
    refine oil KK X0 d2_0 n 1 rfl rfl ?_
    have hc1_50 : ¬ (n = (0 : Int32)) := (by rw [hnk]; decide)
    refine step (s₁.setTop (mkF m 15 #[vi n, vr oc] [])) (fun t k => XS.ifYes X0.here hx rfl (pc0 := 1) (pc' := 15) rfl (hb hby d2_1) rfl ((if0 _ _).trans (feq hc1_50).2) (by decide) (by decide) k) ?_
    refine oil KK X0 d2_15 n 16 rfl rfl ?_
    refine oic KK X0 d2_16 1 17 rfl rfl ?_
    have hc17_51 : ¬ (n = (1 : Int32)) := (by rw [hnk]; decide)
    refine oiy KK X0 d2_17 37 (feq hc17_51).2 (by decide) rfl ?_
    refine oil KK X0 d2_37 n 38 rfl rfl ?_
    refine oic KK X0 d2_38 2 39 rfl rfl ?_
    have hc39_52 : n = (2 : Int32) := hnk
    refine oin KK X0 d2_39 42 rfl (teq hc39_52).2 ?_
    obtain ⟨T53, h53, X53, e53, E53, A53, D53, -, st53⟩ := newO X0 hx hZ hown (ow hw 9 rfl) (ow hw 10 rfl) (ow hw 11 rfl) e0 (g := (mkF m 42 #[vi n, vr oc] [])) rfl (hb hby d2_42) (by decide) (by decide)
    obtain ⟨b53, g53⟩ : ∃ z, z = h0.size := ⟨_, rfl⟩
    rw [← g53] at A53 D53 st53
    have ne_oc_b53 : oc ≠ b53 := Nat.ne_of_lt (Nat.lt_of_lt_of_le Vc.lt (Nat.le_of_eq g53.symm))
    have gn_b53 : n0 ≤ b53 := Nat.le_trans Z0 (Nat.le_of_eq g53.symm)
    have sz_b53 : h0.size ≤ b53 := Nat.le_of_eq g53.symm
    have Sf53_b53 : Safe Z own_EL vm0 h0 b53 := Safe.new (Nat.le_of_eq g53.symm)
    have K53 : Keep h0 h53 [] := (Keep.refl h0 []).ext E53
    have F_value_b53 : Fld Z h53 b53 "java/lang/String" "value" "[B" .null := D53 (Or.inr (ow hw 24 rfl)) (ty := (.array .byte)) (by decide)
    have F_coder_b53 : Fld Z h53 b53 "java/lang/String" "coder" "B" (.int 0) := D53 (Or.inr (ow hw 25 rfl)) (ty := .byte) (by decide)
    refine step (T53.setTop (mkF m 45 #[vi n, vr oc] [(.ref b53)])) (fun t k => st53 t k) ?_
    refine odu KK X53 d2_45 46 rfl rfl ?_
    refine oic KK X53 d2_46 2 47 rfl rfl ?_
    obtain ⟨T54, h54, k54, X54, e54, E54, A54, st54⟩ := newP X53 hx hZ (ow hw 0 rfl) e53 (g := (mkF m 47 #[vi n, vr oc] [(.int 2), (.ref b53), (.ref b53)])) rfl (hb hby d2_47) rfl (by decide) (cap := 2) (by decide) (by decide) (by decide) (by decide)
    obtain ⟨b54, g54⟩ : ∃ z, z = h53.size := ⟨_, rfl⟩
    rw [← g54] at A54 st54
    have f55 := (Vc.ext E53)
    have ne_oc_b54 : oc ≠ b54 := Nat.ne_of_lt (Nat.lt_of_lt_of_le f55.lt (Nat.le_of_eq g54.symm))
    have ne_b53_b54 : b53 ≠ b54 := Nat.ne_of_lt (Nat.lt_of_lt_of_le A53.lt (Nat.le_of_eq g54.symm))
    have gn_b54 : n0 ≤ b54 := Nat.le_trans (Nat.le_trans Z0 K53.1) (Nat.le_of_eq g54.symm)
    have sz_b54 : h0.size ≤ b54 := Nat.le_trans K53.1 (Nat.le_of_eq g54.symm)
    have C56 := C0.trans (CHr.ext E53 C0.1)
    have Sf56_b53 := Safe.ext E53 C0.1 Sf53_b53
    have Sf54_b54 : Safe Z own_EL vm0 h53 b54 := Safe.new (Nat.le_of_eq g54.symm)
    have K54 : Keep h0 h54 [] := K53.ext E54
    have V54 : Arv Z h54 b54 k54 .char (2 : Int32) [(.int 0), (.int 0)] (.int 0) := (Arv.new A54 (by decide)).pad (pad_rep [] (.int 0) 2)
    refine step (T54.setTop (mkF m 49 #[vi n, vr oc] [(.ref b54), (.ref b53), (.ref b53)])) (fun t k => st54 t k) ?_
    refine odu KK X54 d2_49 50 rfl rfl ?_
    refine oic KK X54 d2_50 0 51 rfl rfl ?_
    refine oal KK X54 d2_51 (.ref oc) 52 rfl rfl rfl ?_
    refine oic KK X54 d2_52 0 53 rfl rfl ?_
    have f57 := (f55.ext E54)
    obtain ⟨cl58, Ar58, q58, S58, N58n, H58, G58⟩ := id f57
    have hin58 : ¬ ((0 : Int32) < 0 ∨ cl58.slots.size ≤ ((0 : Int32)).toNatClampNeg) := inb_of S58 ⟨by decide, by decide⟩
    have hat58 : cl58.slots[((0 : Int32)).toNatClampNeg]? = some (.int c0) := H58.at hin58 rfl
    refine step (T54.setTop (mkF m 54 #[vi n, vr oc] [(.int c0), (.int 0), (.ref b54), (.ref b54), (.ref b53), (.ref b53)])) (fun t k => X54.caload hx (j := (0 : Int32)) (v := (.int c0)) (by rw [e54]; exact Ar58.1) (State.isArrayOf_alike hZ.alike Ar58.2.1) Ar58.2.2 hin58 hat58 (g := (mkF m 53 #[vi n, vr oc] [(.int 0), (.ref oc), (.int 0), (.ref b54), (.ref b54), (.ref b53), (.ref b53)])) rfl rfl (hb hby d2_53) t k) ?_
    obtain ⟨cl59, Ar59, q59, S59, N59n, H59, G59⟩ := id V54
    have hin59 : ¬ ((0 : Int32) < 0 ∨ cl59.slots.size ≤ ((0 : Int32)).toNatClampNeg) := inb_of S59 ⟨by decide, by decide⟩
    obtain ⟨T59, h59, X59, e59, W59, st59⟩ := stC X54 hx hZ e54 Ar59 (j := (0 : Int32)) hin59 (g := (mkF m 54 #[vi n, vr oc] [(.int c0), (.int 0), (.ref b54), (.ref b54), (.ref b53), (.ref b53)])) rfl rfl (hb hby d2_54)
    have N59 := Fr.snoc X59 N0 gn_b54
    have K59 : Keep h0 h59 [] := K54.wr W59 (Or.inr sz_b54)
    have V59 : Arv Z h59 b54 k54 .char (2 : Int32) [(.int (nar .char c0)), (.int 0)] (.int 0) := Arv.set Ar59 q59 S59 N59n H59 G59 (fits_nar_char c0) W59 0 rfl (Nat.le_of_ble_eq_true rfl)
    refine step (T59.setTop (mkF m 55 #[vi n, vr oc] [(.ref b54), (.ref b53), (.ref b53)])) (fun t k => st59 t k) ?_
    refine odu KK X59 d2_55 56 rfl rfl ?_
    refine oic KK X59 d2_56 1 57 rfl rfl ?_
    refine oal KK X59 d2_57 (.ref oc) 58 rfl rfl rfl ?_
    refine oic KK X59 d2_58 1 59 rfl rfl ?_
    have f60 := (f57.other W59 ne_oc_b54)
    obtain ⟨cl61, Ar61, q61, S61, N61n, H61, G61⟩ := id f60
    have hin61 : ¬ ((1 : Int32) < 0 ∨ cl61.slots.size ≤ ((1 : Int32)).toNatClampNeg) := inb_of S61 ⟨by decide, by decide⟩
    have hat61 : cl61.slots[((1 : Int32)).toNatClampNeg]? = some (.int c1) := H61.at hin61 rfl
    refine step (T59.setTop (mkF m 60 #[vi n, vr oc] [(.int c1), (.int 1), (.ref b54), (.ref b54), (.ref b53), (.ref b53)])) (fun t k => X59.caload hx (j := (1 : Int32)) (v := (.int c1)) (by rw [e59]; exact Ar61.1) (State.isArrayOf_alike hZ.alike Ar61.2.1) Ar61.2.2 hin61 hat61 (g := (mkF m 59 #[vi n, vr oc] [(.int 1), (.ref oc), (.int 1), (.ref b54), (.ref b54), (.ref b53), (.ref b53)])) rfl rfl (hb hby d2_59) t k) ?_
    obtain ⟨cl62, Ar62, q62, S62, N62n, H62, G62⟩ := id V59
    have hin62 : ¬ ((1 : Int32) < 0 ∨ cl62.slots.size ≤ ((1 : Int32)).toNatClampNeg) := inb_of S62 ⟨by decide, by decide⟩
    obtain ⟨T62, h62, X62, e62, W62, st62⟩ := stC X59 hx hZ e59 Ar62 (j := (1 : Int32)) hin62 (g := (mkF m 60 #[vi n, vr oc] [(.int c1), (.int 1), (.ref b54), (.ref b54), (.ref b53), (.ref b53)])) rfl rfl (hb hby d2_60)
    have N62 := Fr.snoc X62 N59 gn_b54
    have K62 : Keep h0 h62 [] := K59.wr W62 (Or.inr sz_b54)
    have V62 : Arv Z h62 b54 k54 .char (2 : Int32) [(.int (nar .char c0)), (.int (nar .char c1))] (.int 0) := Arv.set Ar62 q62 S62 N62n H62 G62 (fits_nar_char c1) W62 1 rfl (Nat.le_of_ble_eq_true rfl)
    refine step (T62.setTop (mkF m 61 #[vi n, vr oc] [(.ref b54), (.ref b53), (.ref b53)])) (fun t k => st62 t k) ?_
    have Vc63 : Arv Z h62 b54 k54 .char (2 : Int32) (List.map Value.int [c0, c1]) (.int 0) := by
      have q := V62
      rw [own_narC hc0, own_narC hc1] at q
      exact q
    have f64 := (((A53.ext E54).wr W59).wr W62)
    have f65 := (((F_coder_b53.ext E54).other W59 (Or.inl ne_b53_b54)).other W62 (Or.inl ne_b53_b54))
    have f66 := (((F_value_b53.ext E54).other W59 (Or.inl ne_b53_b54)).other W62 (Or.inl ne_b53_b54))
    have f67 := ((((S_cs.ext E53).ext E54).wr W59).wr W62)
    have f68 := ((((S_fo.ext E53).ext E54).wr W59).wr W62)
    have f69 := ((((S_ad.ext E53).ext E54).wr W59).wr W62)
    have f70 := ((((S_hi.ext E53).ext E54).wr W59).wr W62)
    have f71 := ((((S_lo.ext E53).ext E54).wr W59).wr W62)
    have C73 := C56.trans (CHr.ext E54 C56.1)
    have Sf73_b53 := Safe.ext E54 C56.1 Sf56_b53
    have Sf73_b54 := Safe.ext E54 C56.1 Sf54_b54
    have C74 := C73.trans (CHr.wr W59 Sf73_b54 C73.1)
    have Sf74_b53 := Safe.wr W59 Sf73_b54 C73.1 Sf73_b53
    have Sf74_b54 := Safe.wr W59 Sf73_b54 C73.1 Sf73_b54
    have C75 := C74.trans (CHr.wr W62 Sf74_b54 C74.1)
    have Sf75_b53 := Safe.wr W62 Sf74_b54 C74.1 Sf74_b53
    have Sf75_b54 := Safe.wr W62 Sf74_b54 C74.1 Sf74_b54
    obtain ⟨_, _, ⟨T72, L72, k72, n72⟩, -, X72, ⟨Lc72, hQ72, l72, y72, z72⟩, st72⟩ := X62.specialBack hx (y := nM36) rfl hown (mvT hZ (ow hw 12 rfl)) (mvT hZ (ow hw 13 rfl)) (mvT hZ (ow hw 14 rfl)) (by decide) (backOf (W := 1) (rm3 l Z a0 hw [] b53 b54 k54 [c0, c1] (2 : Int32) cs fo h62 n0 (Nat.le_trans Z0 K62.1) Vc63 (show (2 : Int32).toInt = 2 by decide) (show 2 ≤ 5 by decide) (List.forall_mem_cons.mpr ⟨hc0, (List.forall_mem_cons.mpr ⟨hc1, (fun _ q => nomatch q)⟩)⟩) f64 f65 f66 gn_b53 ne_b53_b54 (by decide) f67 c_cs f68 r_fo f69 f70 f71) hZ (ow hw 14 rfl) (ow hw 11 rfl) (by decide) (by decide)) (g := (mkF m 61 #[vi n, vr oc] [(.ref b54), (.ref b53), (.ref b53)])) rfl (by rw [hml]; rfl) (Steps.refl _) (a := b53) (argsL := [(.ref b54)]) (rest := [(.ref b53)]) (lenOf pd_29 rfl) rfl (omw rfl rfl) (hb hby d2_61) (fun _ _ => ⟨rfl, e62, (by decide : 2 + 2 ≤ _), (by decide : 6 + 15 ≤ _)⟩)
    dsimp only [Pt.U, Pt.locs, Pt.cells, Pt.slots] at X72 l72 y72 z72 st72 hQ72
    subst l72 y72 z72
    obtain ⟨h72, e72⟩ : ∃ z, T72.heap = z := ⟨_, rfl⟩
    rw [e72] at hQ72
    obtain ⟨rb72, rk72, rco72, rN72, rbs72, rfl, N72q, K72q, Fr72, Fw72, Vr72, os72⟩ := hQ72
    have N72 := Fr.app N62 N72q
    have K72 : Keep h0 h72 [] := K62.trans K72q (allS (Or.inr sz_b53) all0)
    have f76 := own_staK f67 K72q (allS (own_exaP f64) all0)
    have f77 := own_staK f68 K72q (allS (own_exaP f64) all0)
    have f78 := own_staK f69 K72q (allS (own_exaP f64) all0)
    have f79 := own_staK f70 K72q (allS (own_exaP f64) all0)
    have f80 := own_staK f71 K72q (allS (own_exaP f64) all0)
    refine step (T72.setTop (mkF m 64 #[vi n, vr oc] [(.ref b53)])) (fun t k => st72.trans k) ?_
    have C81 := C75.trans (CHr.keep K72q (allS Sf75_b53 all0) C75.1)
    have Sf81_b53 := Safe.keep K72q (allS Sf75_b53 all0) C75.1 Sf75_b53
    have Sf81_b54 := Safe.keep K72q (allS Sf75_b53 all0) C75.1 Sf75_b54
    refine fin (v := some (.ref b53)) X72 hS (Nat.le_trans (Nat.le_trans (Nat.le_trans (Nat.le_trans (Nat.le_trans (Nat.le_trans hk E53.1) E54.1) (Keep.of_wr W59).1) (Keep.of_wr W62).1) K72q.1) (Nat.le_of_eq (congrArg Array.size e72.symm))) hZ (by rw [e72]; exact C81) (fun h => by cases h) ?_ (by decide) (by decide) (fun fs hr => X72.areturnOut hx rfl hret rfl (hb hby d2_64) hr)
    show Q2 Z n oc kd c0 c1 c2 c3 c4 cs fo h0 n0 (some (.ref b53)) T72.heap _
    rw [e72]
    have f82 := (f64.keep K72q)
    exact ⟨b53, rb72, rk72, rco72, rN72, rbs72, rfl, N72, K72, f82, Fr72, Fw72, Vr72, (own_osT hnk (by rw [show (2 : Int32).toInt.toNat = 2 by decide]; rfl) os72)⟩
  · -- n = 3
    refine oil KK X0 d2_0 n 1 rfl rfl ?_
    have hc1_83 : ¬ (n = (0 : Int32)) := (by rw [hnk]; decide)
    refine step (s₁.setTop (mkF m 15 #[vi n, vr oc] [])) (fun t k => XS.ifYes X0.here hx rfl (pc0 := 1) (pc' := 15) rfl (hb hby d2_1) rfl ((if0 _ _).trans (feq hc1_83).2) (by decide) (by decide) k) ?_
    refine oil KK X0 d2_15 n 16 rfl rfl ?_
    refine oic KK X0 d2_16 1 17 rfl rfl ?_
    have hc17_84 : ¬ (n = (1 : Int32)) := (by rw [hnk]; decide)
    refine oiy KK X0 d2_17 37 (feq hc17_84).2 (by decide) rfl ?_
    refine oil KK X0 d2_37 n 38 rfl rfl ?_
    refine oic KK X0 d2_38 2 39 rfl rfl ?_
    have hc39_85 : ¬ (n = (2 : Int32)) := (by rw [hnk]; decide)
    refine oiy KK X0 d2_39 65 (feq hc39_85).2 (by decide) rfl ?_
    refine oil KK X0 d2_65 n 66 rfl rfl ?_
    refine oic KK X0 d2_66 3 67 rfl rfl ?_
    have hc67_86 : n = (3 : Int32) := hnk
    refine oin KK X0 d2_67 70 rfl (teq hc67_86).2 ?_
    obtain ⟨T87, h87, X87, e87, E87, A87, D87, -, st87⟩ := newO X0 hx hZ hown (ow hw 9 rfl) (ow hw 10 rfl) (ow hw 11 rfl) e0 (g := (mkF m 70 #[vi n, vr oc] [])) rfl (hb hby d2_70) (by decide) (by decide)
    obtain ⟨b87, g87⟩ : ∃ z, z = h0.size := ⟨_, rfl⟩
    rw [← g87] at A87 D87 st87
    have ne_oc_b87 : oc ≠ b87 := Nat.ne_of_lt (Nat.lt_of_lt_of_le Vc.lt (Nat.le_of_eq g87.symm))
    have gn_b87 : n0 ≤ b87 := Nat.le_trans Z0 (Nat.le_of_eq g87.symm)
    have sz_b87 : h0.size ≤ b87 := Nat.le_of_eq g87.symm
    have Sf87_b87 : Safe Z own_EL vm0 h0 b87 := Safe.new (Nat.le_of_eq g87.symm)
    have K87 : Keep h0 h87 [] := (Keep.refl h0 []).ext E87
    have F_value_b87 : Fld Z h87 b87 "java/lang/String" "value" "[B" .null := D87 (Or.inr (ow hw 24 rfl)) (ty := (.array .byte)) (by decide)
    have F_coder_b87 : Fld Z h87 b87 "java/lang/String" "coder" "B" (.int 0) := D87 (Or.inr (ow hw 25 rfl)) (ty := .byte) (by decide)
    refine step (T87.setTop (mkF m 73 #[vi n, vr oc] [(.ref b87)])) (fun t k => st87 t k) ?_
    refine odu KK X87 d2_73 74 rfl rfl ?_
    refine oic KK X87 d2_74 3 75 rfl rfl ?_
    obtain ⟨T88, h88, k88, X88, e88, E88, A88, st88⟩ := newP X87 hx hZ (ow hw 0 rfl) e87 (g := (mkF m 75 #[vi n, vr oc] [(.int 3), (.ref b87), (.ref b87)])) rfl (hb hby d2_75) rfl (by decide) (cap := 3) (by decide) (by decide) (by decide) (by decide)
    obtain ⟨b88, g88⟩ : ∃ z, z = h87.size := ⟨_, rfl⟩
    rw [← g88] at A88 st88
    have f89 := (Vc.ext E87)
    have ne_oc_b88 : oc ≠ b88 := Nat.ne_of_lt (Nat.lt_of_lt_of_le f89.lt (Nat.le_of_eq g88.symm))
    have ne_b87_b88 : b87 ≠ b88 := Nat.ne_of_lt (Nat.lt_of_lt_of_le A87.lt (Nat.le_of_eq g88.symm))
    have gn_b88 : n0 ≤ b88 := Nat.le_trans (Nat.le_trans Z0 K87.1) (Nat.le_of_eq g88.symm)
    have sz_b88 : h0.size ≤ b88 := Nat.le_trans K87.1 (Nat.le_of_eq g88.symm)
    have C90 := C0.trans (CHr.ext E87 C0.1)
    have Sf90_b87 := Safe.ext E87 C0.1 Sf87_b87
    have Sf88_b88 : Safe Z own_EL vm0 h87 b88 := Safe.new (Nat.le_of_eq g88.symm)
    have K88 : Keep h0 h88 [] := K87.ext E88
    have V88 : Arv Z h88 b88 k88 .char (3 : Int32) [(.int 0), (.int 0), (.int 0)] (.int 0) := (Arv.new A88 (by decide)).pad (pad_rep [] (.int 0) 3)
    refine step (T88.setTop (mkF m 77 #[vi n, vr oc] [(.ref b88), (.ref b87), (.ref b87)])) (fun t k => st88 t k) ?_
    refine odu KK X88 d2_77 78 rfl rfl ?_
    refine oic KK X88 d2_78 0 79 rfl rfl ?_
    refine oal KK X88 d2_79 (.ref oc) 80 rfl rfl rfl ?_
    refine oic KK X88 d2_80 0 81 rfl rfl ?_
    have f91 := (f89.ext E88)
    obtain ⟨cl92, Ar92, q92, S92, N92n, H92, G92⟩ := id f91
    have hin92 : ¬ ((0 : Int32) < 0 ∨ cl92.slots.size ≤ ((0 : Int32)).toNatClampNeg) := inb_of S92 ⟨by decide, by decide⟩
    have hat92 : cl92.slots[((0 : Int32)).toNatClampNeg]? = some (.int c0) := H92.at hin92 rfl
    refine step (T88.setTop (mkF m 82 #[vi n, vr oc] [(.int c0), (.int 0), (.ref b88), (.ref b88), (.ref b87), (.ref b87)])) (fun t k => X88.caload hx (j := (0 : Int32)) (v := (.int c0)) (by rw [e88]; exact Ar92.1) (State.isArrayOf_alike hZ.alike Ar92.2.1) Ar92.2.2 hin92 hat92 (g := (mkF m 81 #[vi n, vr oc] [(.int 0), (.ref oc), (.int 0), (.ref b88), (.ref b88), (.ref b87), (.ref b87)])) rfl rfl (hb hby d2_81) t k) ?_
    obtain ⟨cl93, Ar93, q93, S93, N93n, H93, G93⟩ := id V88
    have hin93 : ¬ ((0 : Int32) < 0 ∨ cl93.slots.size ≤ ((0 : Int32)).toNatClampNeg) := inb_of S93 ⟨by decide, by decide⟩
    obtain ⟨T93, h93, X93, e93, W93, st93⟩ := stC X88 hx hZ e88 Ar93 (j := (0 : Int32)) hin93 (g := (mkF m 82 #[vi n, vr oc] [(.int c0), (.int 0), (.ref b88), (.ref b88), (.ref b87), (.ref b87)])) rfl rfl (hb hby d2_82)
    have N93 := Fr.snoc X93 N0 gn_b88
    have K93 : Keep h0 h93 [] := K88.wr W93 (Or.inr sz_b88)
    have V93 : Arv Z h93 b88 k88 .char (3 : Int32) [(.int (nar .char c0)), (.int 0), (.int 0)] (.int 0) := Arv.set Ar93 q93 S93 N93n H93 G93 (fits_nar_char c0) W93 0 rfl (Nat.le_of_ble_eq_true rfl)
    refine step (T93.setTop (mkF m 83 #[vi n, vr oc] [(.ref b88), (.ref b87), (.ref b87)])) (fun t k => st93 t k) ?_
    refine odu KK X93 d2_83 84 rfl rfl ?_
    refine oic KK X93 d2_84 1 85 rfl rfl ?_
    refine oal KK X93 d2_85 (.ref oc) 86 rfl rfl rfl ?_
    refine oic KK X93 d2_86 1 87 rfl rfl ?_
    have f94 := (f91.other W93 ne_oc_b88)
    obtain ⟨cl95, Ar95, q95, S95, N95n, H95, G95⟩ := id f94
    have hin95 : ¬ ((1 : Int32) < 0 ∨ cl95.slots.size ≤ ((1 : Int32)).toNatClampNeg) := inb_of S95 ⟨by decide, by decide⟩
    have hat95 : cl95.slots[((1 : Int32)).toNatClampNeg]? = some (.int c1) := H95.at hin95 rfl
    refine step (T93.setTop (mkF m 88 #[vi n, vr oc] [(.int c1), (.int 1), (.ref b88), (.ref b88), (.ref b87), (.ref b87)])) (fun t k => X93.caload hx (j := (1 : Int32)) (v := (.int c1)) (by rw [e93]; exact Ar95.1) (State.isArrayOf_alike hZ.alike Ar95.2.1) Ar95.2.2 hin95 hat95 (g := (mkF m 87 #[vi n, vr oc] [(.int 1), (.ref oc), (.int 1), (.ref b88), (.ref b88), (.ref b87), (.ref b87)])) rfl rfl (hb hby d2_87) t k) ?_
    obtain ⟨cl96, Ar96, q96, S96, N96n, H96, G96⟩ := id V93
    have hin96 : ¬ ((1 : Int32) < 0 ∨ cl96.slots.size ≤ ((1 : Int32)).toNatClampNeg) := inb_of S96 ⟨by decide, by decide⟩
    obtain ⟨T96, h96, X96, e96, W96, st96⟩ := stC X93 hx hZ e93 Ar96 (j := (1 : Int32)) hin96 (g := (mkF m 88 #[vi n, vr oc] [(.int c1), (.int 1), (.ref b88), (.ref b88), (.ref b87), (.ref b87)])) rfl rfl (hb hby d2_88)
    have N96 := Fr.snoc X96 N93 gn_b88
    have K96 : Keep h0 h96 [] := K93.wr W96 (Or.inr sz_b88)
    have V96 : Arv Z h96 b88 k88 .char (3 : Int32) [(.int (nar .char c0)), (.int (nar .char c1)), (.int 0)] (.int 0) := Arv.set Ar96 q96 S96 N96n H96 G96 (fits_nar_char c1) W96 1 rfl (Nat.le_of_ble_eq_true rfl)
    refine step (T96.setTop (mkF m 89 #[vi n, vr oc] [(.ref b88), (.ref b87), (.ref b87)])) (fun t k => st96 t k) ?_
    refine odu KK X96 d2_89 90 rfl rfl ?_
    refine oic KK X96 d2_90 2 91 rfl rfl ?_
    refine oal KK X96 d2_91 (.ref oc) 92 rfl rfl rfl ?_
    refine oic KK X96 d2_92 2 93 rfl rfl ?_
    have f97 := (f94.other W96 ne_oc_b88)
    obtain ⟨cl98, Ar98, q98, S98, N98n, H98, G98⟩ := id f97
    have hin98 : ¬ ((2 : Int32) < 0 ∨ cl98.slots.size ≤ ((2 : Int32)).toNatClampNeg) := inb_of S98 ⟨by decide, by decide⟩
    have hat98 : cl98.slots[((2 : Int32)).toNatClampNeg]? = some (.int c2) := H98.at hin98 rfl
    refine step (T96.setTop (mkF m 94 #[vi n, vr oc] [(.int c2), (.int 2), (.ref b88), (.ref b88), (.ref b87), (.ref b87)])) (fun t k => X96.caload hx (j := (2 : Int32)) (v := (.int c2)) (by rw [e96]; exact Ar98.1) (State.isArrayOf_alike hZ.alike Ar98.2.1) Ar98.2.2 hin98 hat98 (g := (mkF m 93 #[vi n, vr oc] [(.int 2), (.ref oc), (.int 2), (.ref b88), (.ref b88), (.ref b87), (.ref b87)])) rfl rfl (hb hby d2_93) t k) ?_
    obtain ⟨cl99, Ar99, q99, S99, N99n, H99, G99⟩ := id V96
    have hin99 : ¬ ((2 : Int32) < 0 ∨ cl99.slots.size ≤ ((2 : Int32)).toNatClampNeg) := inb_of S99 ⟨by decide, by decide⟩
    obtain ⟨T99, h99, X99, e99, W99, st99⟩ := stC X96 hx hZ e96 Ar99 (j := (2 : Int32)) hin99 (g := (mkF m 94 #[vi n, vr oc] [(.int c2), (.int 2), (.ref b88), (.ref b88), (.ref b87), (.ref b87)])) rfl rfl (hb hby d2_94)
    have N99 := Fr.snoc X99 N96 gn_b88
    have K99 : Keep h0 h99 [] := K96.wr W99 (Or.inr sz_b88)
    have V99 : Arv Z h99 b88 k88 .char (3 : Int32) [(.int (nar .char c0)), (.int (nar .char c1)), (.int (nar .char c2))] (.int 0) := Arv.set Ar99 q99 S99 N99n H99 G99 (fits_nar_char c2) W99 2 rfl (Nat.le_of_ble_eq_true rfl)
    refine step (T99.setTop (mkF m 95 #[vi n, vr oc] [(.ref b88), (.ref b87), (.ref b87)])) (fun t k => st99 t k) ?_
    have Vc100 : Arv Z h99 b88 k88 .char (3 : Int32) (List.map Value.int [c0, c1, c2]) (.int 0) := by
      have q := V99
      rw [own_narC hc0, own_narC hc1, own_narC hc2] at q
      exact q
    have f101 := ((((A87.ext E88).wr W93).wr W96).wr W99)
    have f102 := ((((F_coder_b87.ext E88).other W93 (Or.inl ne_b87_b88)).other W96 (Or.inl ne_b87_b88)).other W99 (Or.inl ne_b87_b88))
    have f103 := ((((F_value_b87.ext E88).other W93 (Or.inl ne_b87_b88)).other W96 (Or.inl ne_b87_b88)).other W99 (Or.inl ne_b87_b88))
    have f104 := (((((S_cs.ext E87).ext E88).wr W93).wr W96).wr W99)
    have f105 := (((((S_fo.ext E87).ext E88).wr W93).wr W96).wr W99)
    have f106 := (((((S_ad.ext E87).ext E88).wr W93).wr W96).wr W99)
    have f107 := (((((S_hi.ext E87).ext E88).wr W93).wr W96).wr W99)
    have f108 := (((((S_lo.ext E87).ext E88).wr W93).wr W96).wr W99)
    have C110 := C90.trans (CHr.ext E88 C90.1)
    have Sf110_b87 := Safe.ext E88 C90.1 Sf90_b87
    have Sf110_b88 := Safe.ext E88 C90.1 Sf88_b88
    have C111 := C110.trans (CHr.wr W93 Sf110_b88 C110.1)
    have Sf111_b87 := Safe.wr W93 Sf110_b88 C110.1 Sf110_b87
    have Sf111_b88 := Safe.wr W93 Sf110_b88 C110.1 Sf110_b88
    have C112 := C111.trans (CHr.wr W96 Sf111_b88 C111.1)
    have Sf112_b87 := Safe.wr W96 Sf111_b88 C111.1 Sf111_b87
    have Sf112_b88 := Safe.wr W96 Sf111_b88 C111.1 Sf111_b88
    have C113 := C112.trans (CHr.wr W99 Sf112_b88 C112.1)
    have Sf113_b87 := Safe.wr W99 Sf112_b88 C112.1 Sf112_b87
    have Sf113_b88 := Safe.wr W99 Sf112_b88 C112.1 Sf112_b88
    obtain ⟨_, _, ⟨T109, L109, k109, n109⟩, -, X109, ⟨Lc109, hQ109, l109, y109, z109⟩, st109⟩ := X99.specialBack hx (y := nM36) rfl hown (mvT hZ (ow hw 12 rfl)) (mvT hZ (ow hw 13 rfl)) (mvT hZ (ow hw 14 rfl)) (by decide) (backOf (W := 1) (rm3 l Z a0 hw [] b87 b88 k88 [c0, c1, c2] (3 : Int32) cs fo h99 n0 (Nat.le_trans Z0 K99.1) Vc100 (show (3 : Int32).toInt = 3 by decide) (show 3 ≤ 5 by decide) (List.forall_mem_cons.mpr ⟨hc0, (List.forall_mem_cons.mpr ⟨hc1, (List.forall_mem_cons.mpr ⟨hc2, (fun _ q => nomatch q)⟩)⟩)⟩) f101 f102 f103 gn_b87 ne_b87_b88 (by decide) f104 c_cs f105 r_fo f106 f107 f108) hZ (ow hw 14 rfl) (ow hw 11 rfl) (by decide) (by decide)) (g := (mkF m 95 #[vi n, vr oc] [(.ref b88), (.ref b87), (.ref b87)])) rfl (by rw [hml]; rfl) (Steps.refl _) (a := b87) (argsL := [(.ref b88)]) (rest := [(.ref b87)]) (lenOf pd_29 rfl) rfl (omw rfl rfl) (hb hby d2_95) (fun _ _ => ⟨rfl, e99, (by decide : 2 + 2 ≤ _), (by decide : 7 + 15 ≤ _)⟩)
    dsimp only [Pt.U, Pt.locs, Pt.cells, Pt.slots] at X109 l109 y109 z109 st109 hQ109
    subst l109 y109 z109
    obtain ⟨h109, e109⟩ : ∃ z, T109.heap = z := ⟨_, rfl⟩
    rw [e109] at hQ109
    obtain ⟨rb109, rk109, rco109, rN109, rbs109, rfl, N109q, K109q, Fr109, Fw109, Vr109, os109⟩ := hQ109
    have N109 := Fr.app N99 N109q
    have K109 : Keep h0 h109 [] := K99.trans K109q (allS (Or.inr sz_b87) all0)
    have f114 := own_staK f104 K109q (allS (own_exaP f101) all0)
    have f115 := own_staK f105 K109q (allS (own_exaP f101) all0)
    have f116 := own_staK f106 K109q (allS (own_exaP f101) all0)
    have f117 := own_staK f107 K109q (allS (own_exaP f101) all0)
    have f118 := own_staK f108 K109q (allS (own_exaP f101) all0)
    refine step (T109.setTop (mkF m 98 #[vi n, vr oc] [(.ref b87)])) (fun t k => st109.trans k) ?_
    have C119 := C113.trans (CHr.keep K109q (allS Sf113_b87 all0) C113.1)
    have Sf119_b87 := Safe.keep K109q (allS Sf113_b87 all0) C113.1 Sf113_b87
    have Sf119_b88 := Safe.keep K109q (allS Sf113_b87 all0) C113.1 Sf113_b88
    refine fin (v := some (.ref b87)) X109 hS (Nat.le_trans (Nat.le_trans (Nat.le_trans (Nat.le_trans (Nat.le_trans (Nat.le_trans (Nat.le_trans hk E87.1) E88.1) (Keep.of_wr W93).1) (Keep.of_wr W96).1) (Keep.of_wr W99).1) K109q.1) (Nat.le_of_eq (congrArg Array.size e109.symm))) hZ (by rw [e109]; exact C119) (fun h => by cases h) ?_ (by decide) (by decide) (fun fs hr => X109.areturnOut hx rfl hret rfl (hb hby d2_98) hr)
    show Q2 Z n oc kd c0 c1 c2 c3 c4 cs fo h0 n0 (some (.ref b87)) T109.heap _
    rw [e109]
    have f120 := (f101.keep K109q)
    exact ⟨b87, rb109, rk109, rco109, rN109, rbs109, rfl, N109, K109, f120, Fr109, Fw109, Vr109, (own_osT hnk (by rw [show (3 : Int32).toInt.toNat = 3 by decide]; rfl) os109)⟩
  · -- n = 4
    refine oil KK X0 d2_0 n 1 rfl rfl ?_
    have hc1_121 : ¬ (n = (0 : Int32)) := (by rw [hnk]; decide)
    refine step (s₁.setTop (mkF m 15 #[vi n, vr oc] [])) (fun t k => XS.ifYes X0.here hx rfl (pc0 := 1) (pc' := 15) rfl (hb hby d2_1) rfl ((if0 _ _).trans (feq hc1_121).2) (by decide) (by decide) k) ?_
    refine oil KK X0 d2_15 n 16 rfl rfl ?_
    refine oic KK X0 d2_16 1 17 rfl rfl ?_
    have hc17_122 : ¬ (n = (1 : Int32)) := (by rw [hnk]; decide)
    refine oiy KK X0 d2_17 37 (feq hc17_122).2 (by decide) rfl ?_
    refine oil KK X0 d2_37 n 38 rfl rfl ?_
    refine oic KK X0 d2_38 2 39 rfl rfl ?_
    have hc39_123 : ¬ (n = (2 : Int32)) := (by rw [hnk]; decide)
    refine oiy KK X0 d2_39 65 (feq hc39_123).2 (by decide) rfl ?_
    refine oil KK X0 d2_65 n 66 rfl rfl ?_
    refine oic KK X0 d2_66 3 67 rfl rfl ?_
    have hc67_124 : ¬ (n = (3 : Int32)) := (by rw [hnk]; decide)
    refine oiy KK X0 d2_67 99 (feq hc67_124).2 (by decide) rfl ?_
    refine oil KK X0 d2_99 n 100 rfl rfl ?_
    refine oic KK X0 d2_100 4 101 rfl rfl ?_
    have hc101_125 : n = (4 : Int32) := hnk
    refine oin KK X0 d2_101 104 rfl (teq hc101_125).2 ?_
    obtain ⟨T126, h126, X126, e126, E126, A126, D126, -, st126⟩ := newO X0 hx hZ hown (ow hw 9 rfl) (ow hw 10 rfl) (ow hw 11 rfl) e0 (g := (mkF m 104 #[vi n, vr oc] [])) rfl (hb hby d2_104) (by decide) (by decide)
    obtain ⟨b126, g126⟩ : ∃ z, z = h0.size := ⟨_, rfl⟩
    rw [← g126] at A126 D126 st126
    have ne_oc_b126 : oc ≠ b126 := Nat.ne_of_lt (Nat.lt_of_lt_of_le Vc.lt (Nat.le_of_eq g126.symm))
    have gn_b126 : n0 ≤ b126 := Nat.le_trans Z0 (Nat.le_of_eq g126.symm)
    have sz_b126 : h0.size ≤ b126 := Nat.le_of_eq g126.symm
    have Sf126_b126 : Safe Z own_EL vm0 h0 b126 := Safe.new (Nat.le_of_eq g126.symm)
    have K126 : Keep h0 h126 [] := (Keep.refl h0 []).ext E126
    have F_value_b126 : Fld Z h126 b126 "java/lang/String" "value" "[B" .null := D126 (Or.inr (ow hw 24 rfl)) (ty := (.array .byte)) (by decide)
    have F_coder_b126 : Fld Z h126 b126 "java/lang/String" "coder" "B" (.int 0) := D126 (Or.inr (ow hw 25 rfl)) (ty := .byte) (by decide)
    refine step (T126.setTop (mkF m 107 #[vi n, vr oc] [(.ref b126)])) (fun t k => st126 t k) ?_
    refine odu KK X126 d2_107 108 rfl rfl ?_
    refine oic KK X126 d2_108 4 109 rfl rfl ?_
    obtain ⟨T127, h127, k127, X127, e127, E127, A127, st127⟩ := newP X126 hx hZ (ow hw 0 rfl) e126 (g := (mkF m 109 #[vi n, vr oc] [(.int 4), (.ref b126), (.ref b126)])) rfl (hb hby d2_109) rfl (by decide) (cap := 4) (by decide) (by decide) (by decide) (by decide)
    obtain ⟨b127, g127⟩ : ∃ z, z = h126.size := ⟨_, rfl⟩
    rw [← g127] at A127 st127
    have f128 := (Vc.ext E126)
    have ne_oc_b127 : oc ≠ b127 := Nat.ne_of_lt (Nat.lt_of_lt_of_le f128.lt (Nat.le_of_eq g127.symm))
    have ne_b126_b127 : b126 ≠ b127 := Nat.ne_of_lt (Nat.lt_of_lt_of_le A126.lt (Nat.le_of_eq g127.symm))
    have gn_b127 : n0 ≤ b127 := Nat.le_trans (Nat.le_trans Z0 K126.1) (Nat.le_of_eq g127.symm)
    have sz_b127 : h0.size ≤ b127 := Nat.le_trans K126.1 (Nat.le_of_eq g127.symm)
    have C129 := C0.trans (CHr.ext E126 C0.1)
    have Sf129_b126 := Safe.ext E126 C0.1 Sf126_b126
    have Sf127_b127 : Safe Z own_EL vm0 h126 b127 := Safe.new (Nat.le_of_eq g127.symm)
    have K127 : Keep h0 h127 [] := K126.ext E127
    have V127 : Arv Z h127 b127 k127 .char (4 : Int32) [(.int 0), (.int 0), (.int 0), (.int 0)] (.int 0) := (Arv.new A127 (by decide)).pad (pad_rep [] (.int 0) 4)
    refine step (T127.setTop (mkF m 111 #[vi n, vr oc] [(.ref b127), (.ref b126), (.ref b126)])) (fun t k => st127 t k) ?_
    refine odu KK X127 d2_111 112 rfl rfl ?_
    refine oic KK X127 d2_112 0 113 rfl rfl ?_
    refine oal KK X127 d2_113 (.ref oc) 114 rfl rfl rfl ?_
    refine oic KK X127 d2_114 0 115 rfl rfl ?_
    have f130 := (f128.ext E127)
    obtain ⟨cl131, Ar131, q131, S131, N131n, H131, G131⟩ := id f130
    have hin131 : ¬ ((0 : Int32) < 0 ∨ cl131.slots.size ≤ ((0 : Int32)).toNatClampNeg) := inb_of S131 ⟨by decide, by decide⟩
    have hat131 : cl131.slots[((0 : Int32)).toNatClampNeg]? = some (.int c0) := H131.at hin131 rfl
    refine step (T127.setTop (mkF m 116 #[vi n, vr oc] [(.int c0), (.int 0), (.ref b127), (.ref b127), (.ref b126), (.ref b126)])) (fun t k => X127.caload hx (j := (0 : Int32)) (v := (.int c0)) (by rw [e127]; exact Ar131.1) (State.isArrayOf_alike hZ.alike Ar131.2.1) Ar131.2.2 hin131 hat131 (g := (mkF m 115 #[vi n, vr oc] [(.int 0), (.ref oc), (.int 0), (.ref b127), (.ref b127), (.ref b126), (.ref b126)])) rfl rfl (hb hby d2_115) t k) ?_
    obtain ⟨cl132, Ar132, q132, S132, N132n, H132, G132⟩ := id V127
    have hin132 : ¬ ((0 : Int32) < 0 ∨ cl132.slots.size ≤ ((0 : Int32)).toNatClampNeg) := inb_of S132 ⟨by decide, by decide⟩
    obtain ⟨T132, h132, X132, e132, W132, st132⟩ := stC X127 hx hZ e127 Ar132 (j := (0 : Int32)) hin132 (g := (mkF m 116 #[vi n, vr oc] [(.int c0), (.int 0), (.ref b127), (.ref b127), (.ref b126), (.ref b126)])) rfl rfl (hb hby d2_116)
    have N132 := Fr.snoc X132 N0 gn_b127
    have K132 : Keep h0 h132 [] := K127.wr W132 (Or.inr sz_b127)
    have V132 : Arv Z h132 b127 k127 .char (4 : Int32) [(.int (nar .char c0)), (.int 0), (.int 0), (.int 0)] (.int 0) := Arv.set Ar132 q132 S132 N132n H132 G132 (fits_nar_char c0) W132 0 rfl (Nat.le_of_ble_eq_true rfl)
    refine step (T132.setTop (mkF m 117 #[vi n, vr oc] [(.ref b127), (.ref b126), (.ref b126)])) (fun t k => st132 t k) ?_
    refine odu KK X132 d2_117 118 rfl rfl ?_
    refine oic KK X132 d2_118 1 119 rfl rfl ?_
    refine oal KK X132 d2_119 (.ref oc) 120 rfl rfl rfl ?_
    refine oic KK X132 d2_120 1 121 rfl rfl ?_
    have f133 := (f130.other W132 ne_oc_b127)
    obtain ⟨cl134, Ar134, q134, S134, N134n, H134, G134⟩ := id f133
    have hin134 : ¬ ((1 : Int32) < 0 ∨ cl134.slots.size ≤ ((1 : Int32)).toNatClampNeg) := inb_of S134 ⟨by decide, by decide⟩
    have hat134 : cl134.slots[((1 : Int32)).toNatClampNeg]? = some (.int c1) := H134.at hin134 rfl
    refine step (T132.setTop (mkF m 122 #[vi n, vr oc] [(.int c1), (.int 1), (.ref b127), (.ref b127), (.ref b126), (.ref b126)])) (fun t k => X132.caload hx (j := (1 : Int32)) (v := (.int c1)) (by rw [e132]; exact Ar134.1) (State.isArrayOf_alike hZ.alike Ar134.2.1) Ar134.2.2 hin134 hat134 (g := (mkF m 121 #[vi n, vr oc] [(.int 1), (.ref oc), (.int 1), (.ref b127), (.ref b127), (.ref b126), (.ref b126)])) rfl rfl (hb hby d2_121) t k) ?_
    obtain ⟨cl135, Ar135, q135, S135, N135n, H135, G135⟩ := id V132
    have hin135 : ¬ ((1 : Int32) < 0 ∨ cl135.slots.size ≤ ((1 : Int32)).toNatClampNeg) := inb_of S135 ⟨by decide, by decide⟩
    obtain ⟨T135, h135, X135, e135, W135, st135⟩ := stC X132 hx hZ e132 Ar135 (j := (1 : Int32)) hin135 (g := (mkF m 122 #[vi n, vr oc] [(.int c1), (.int 1), (.ref b127), (.ref b127), (.ref b126), (.ref b126)])) rfl rfl (hb hby d2_122)
    have N135 := Fr.snoc X135 N132 gn_b127
    have K135 : Keep h0 h135 [] := K132.wr W135 (Or.inr sz_b127)
    have V135 : Arv Z h135 b127 k127 .char (4 : Int32) [(.int (nar .char c0)), (.int (nar .char c1)), (.int 0), (.int 0)] (.int 0) := Arv.set Ar135 q135 S135 N135n H135 G135 (fits_nar_char c1) W135 1 rfl (Nat.le_of_ble_eq_true rfl)
    refine step (T135.setTop (mkF m 123 #[vi n, vr oc] [(.ref b127), (.ref b126), (.ref b126)])) (fun t k => st135 t k) ?_
    refine odu KK X135 d2_123 124 rfl rfl ?_
    refine oic KK X135 d2_124 2 125 rfl rfl ?_
    refine oal KK X135 d2_125 (.ref oc) 126 rfl rfl rfl ?_
    refine oic KK X135 d2_126 2 127 rfl rfl ?_
    have f136 := (f133.other W135 ne_oc_b127)
    obtain ⟨cl137, Ar137, q137, S137, N137n, H137, G137⟩ := id f136
    have hin137 : ¬ ((2 : Int32) < 0 ∨ cl137.slots.size ≤ ((2 : Int32)).toNatClampNeg) := inb_of S137 ⟨by decide, by decide⟩
    have hat137 : cl137.slots[((2 : Int32)).toNatClampNeg]? = some (.int c2) := H137.at hin137 rfl
    refine step (T135.setTop (mkF m 128 #[vi n, vr oc] [(.int c2), (.int 2), (.ref b127), (.ref b127), (.ref b126), (.ref b126)])) (fun t k => X135.caload hx (j := (2 : Int32)) (v := (.int c2)) (by rw [e135]; exact Ar137.1) (State.isArrayOf_alike hZ.alike Ar137.2.1) Ar137.2.2 hin137 hat137 (g := (mkF m 127 #[vi n, vr oc] [(.int 2), (.ref oc), (.int 2), (.ref b127), (.ref b127), (.ref b126), (.ref b126)])) rfl rfl (hb hby d2_127) t k) ?_
    obtain ⟨cl138, Ar138, q138, S138, N138n, H138, G138⟩ := id V135
    have hin138 : ¬ ((2 : Int32) < 0 ∨ cl138.slots.size ≤ ((2 : Int32)).toNatClampNeg) := inb_of S138 ⟨by decide, by decide⟩
    obtain ⟨T138, h138, X138, e138, W138, st138⟩ := stC X135 hx hZ e135 Ar138 (j := (2 : Int32)) hin138 (g := (mkF m 128 #[vi n, vr oc] [(.int c2), (.int 2), (.ref b127), (.ref b127), (.ref b126), (.ref b126)])) rfl rfl (hb hby d2_128)
    have N138 := Fr.snoc X138 N135 gn_b127
    have K138 : Keep h0 h138 [] := K135.wr W138 (Or.inr sz_b127)
    have V138 : Arv Z h138 b127 k127 .char (4 : Int32) [(.int (nar .char c0)), (.int (nar .char c1)), (.int (nar .char c2)), (.int 0)] (.int 0) := Arv.set Ar138 q138 S138 N138n H138 G138 (fits_nar_char c2) W138 2 rfl (Nat.le_of_ble_eq_true rfl)
    refine step (T138.setTop (mkF m 129 #[vi n, vr oc] [(.ref b127), (.ref b126), (.ref b126)])) (fun t k => st138 t k) ?_
    refine odu KK X138 d2_129 130 rfl rfl ?_
    refine oic KK X138 d2_130 3 131 rfl rfl ?_
    refine oal KK X138 d2_131 (.ref oc) 132 rfl rfl rfl ?_
    refine oic KK X138 d2_132 3 133 rfl rfl ?_
    have f139 := (f136.other W138 ne_oc_b127)
    obtain ⟨cl140, Ar140, q140, S140, N140n, H140, G140⟩ := id f139
    have hin140 : ¬ ((3 : Int32) < 0 ∨ cl140.slots.size ≤ ((3 : Int32)).toNatClampNeg) := inb_of S140 ⟨by decide, by decide⟩
    have hat140 : cl140.slots[((3 : Int32)).toNatClampNeg]? = some (.int c3) := H140.at hin140 rfl
    refine step (T138.setTop (mkF m 134 #[vi n, vr oc] [(.int c3), (.int 3), (.ref b127), (.ref b127), (.ref b126), (.ref b126)])) (fun t k => X138.caload hx (j := (3 : Int32)) (v := (.int c3)) (by rw [e138]; exact Ar140.1) (State.isArrayOf_alike hZ.alike Ar140.2.1) Ar140.2.2 hin140 hat140 (g := (mkF m 133 #[vi n, vr oc] [(.int 3), (.ref oc), (.int 3), (.ref b127), (.ref b127), (.ref b126), (.ref b126)])) rfl rfl (hb hby d2_133) t k) ?_
    obtain ⟨cl141, Ar141, q141, S141, N141n, H141, G141⟩ := id V138
    have hin141 : ¬ ((3 : Int32) < 0 ∨ cl141.slots.size ≤ ((3 : Int32)).toNatClampNeg) := inb_of S141 ⟨by decide, by decide⟩
    obtain ⟨T141, h141, X141, e141, W141, st141⟩ := stC X138 hx hZ e138 Ar141 (j := (3 : Int32)) hin141 (g := (mkF m 134 #[vi n, vr oc] [(.int c3), (.int 3), (.ref b127), (.ref b127), (.ref b126), (.ref b126)])) rfl rfl (hb hby d2_134)
    have N141 := Fr.snoc X141 N138 gn_b127
    have K141 : Keep h0 h141 [] := K138.wr W141 (Or.inr sz_b127)
    have V141 : Arv Z h141 b127 k127 .char (4 : Int32) [(.int (nar .char c0)), (.int (nar .char c1)), (.int (nar .char c2)), (.int (nar .char c3))] (.int 0) := Arv.set Ar141 q141 S141 N141n H141 G141 (fits_nar_char c3) W141 3 rfl (Nat.le_of_ble_eq_true rfl)
    refine step (T141.setTop (mkF m 135 #[vi n, vr oc] [(.ref b127), (.ref b126), (.ref b126)])) (fun t k => st141 t k) ?_
    have Vc142 : Arv Z h141 b127 k127 .char (4 : Int32) (List.map Value.int [c0, c1, c2, c3]) (.int 0) := by
      have q := V141
      rw [own_narC hc0, own_narC hc1, own_narC hc2, own_narC hc3] at q
      exact q
    have f143 := (((((A126.ext E127).wr W132).wr W135).wr W138).wr W141)
    have f144 := (((((F_coder_b126.ext E127).other W132 (Or.inl ne_b126_b127)).other W135 (Or.inl ne_b126_b127)).other W138 (Or.inl ne_b126_b127)).other W141 (Or.inl ne_b126_b127))
    have f145 := (((((F_value_b126.ext E127).other W132 (Or.inl ne_b126_b127)).other W135 (Or.inl ne_b126_b127)).other W138 (Or.inl ne_b126_b127)).other W141 (Or.inl ne_b126_b127))
    have f146 := ((((((S_cs.ext E126).ext E127).wr W132).wr W135).wr W138).wr W141)
    have f147 := ((((((S_fo.ext E126).ext E127).wr W132).wr W135).wr W138).wr W141)
    have f148 := ((((((S_ad.ext E126).ext E127).wr W132).wr W135).wr W138).wr W141)
    have f149 := ((((((S_hi.ext E126).ext E127).wr W132).wr W135).wr W138).wr W141)
    have f150 := ((((((S_lo.ext E126).ext E127).wr W132).wr W135).wr W138).wr W141)
    have C152 := C129.trans (CHr.ext E127 C129.1)
    have Sf152_b126 := Safe.ext E127 C129.1 Sf129_b126
    have Sf152_b127 := Safe.ext E127 C129.1 Sf127_b127
    have C153 := C152.trans (CHr.wr W132 Sf152_b127 C152.1)
    have Sf153_b126 := Safe.wr W132 Sf152_b127 C152.1 Sf152_b126
    have Sf153_b127 := Safe.wr W132 Sf152_b127 C152.1 Sf152_b127
    have C154 := C153.trans (CHr.wr W135 Sf153_b127 C153.1)
    have Sf154_b126 := Safe.wr W135 Sf153_b127 C153.1 Sf153_b126
    have Sf154_b127 := Safe.wr W135 Sf153_b127 C153.1 Sf153_b127
    have C155 := C154.trans (CHr.wr W138 Sf154_b127 C154.1)
    have Sf155_b126 := Safe.wr W138 Sf154_b127 C154.1 Sf154_b126
    have Sf155_b127 := Safe.wr W138 Sf154_b127 C154.1 Sf154_b127
    have C156 := C155.trans (CHr.wr W141 Sf155_b127 C155.1)
    have Sf156_b126 := Safe.wr W141 Sf155_b127 C155.1 Sf155_b126
    have Sf156_b127 := Safe.wr W141 Sf155_b127 C155.1 Sf155_b127
    obtain ⟨_, _, ⟨T151, L151, k151, n151⟩, -, X151, ⟨Lc151, hQ151, l151, y151, z151⟩, st151⟩ := X141.specialBack hx (y := nM36) rfl hown (mvT hZ (ow hw 12 rfl)) (mvT hZ (ow hw 13 rfl)) (mvT hZ (ow hw 14 rfl)) (by decide) (backOf (W := 1) (rm3 l Z a0 hw [] b126 b127 k127 [c0, c1, c2, c3] (4 : Int32) cs fo h141 n0 (Nat.le_trans Z0 K141.1) Vc142 (show (4 : Int32).toInt = 4 by decide) (show 4 ≤ 5 by decide) (List.forall_mem_cons.mpr ⟨hc0, (List.forall_mem_cons.mpr ⟨hc1, (List.forall_mem_cons.mpr ⟨hc2, (List.forall_mem_cons.mpr ⟨hc3, (fun _ q => nomatch q)⟩)⟩)⟩)⟩) f143 f144 f145 gn_b126 ne_b126_b127 (by decide) f146 c_cs f147 r_fo f148 f149 f150) hZ (ow hw 14 rfl) (ow hw 11 rfl) (by decide) (by decide)) (g := (mkF m 135 #[vi n, vr oc] [(.ref b127), (.ref b126), (.ref b126)])) rfl (by rw [hml]; rfl) (Steps.refl _) (a := b126) (argsL := [(.ref b127)]) (rest := [(.ref b126)]) (lenOf pd_29 rfl) rfl (omw rfl rfl) (hb hby d2_135) (fun _ _ => ⟨rfl, e141, (by decide : 2 + 2 ≤ _), (by decide : 8 + 15 ≤ _)⟩)
    dsimp only [Pt.U, Pt.locs, Pt.cells, Pt.slots] at X151 l151 y151 z151 st151 hQ151
    subst l151 y151 z151
    obtain ⟨h151, e151⟩ : ∃ z, T151.heap = z := ⟨_, rfl⟩
    rw [e151] at hQ151
    obtain ⟨rb151, rk151, rco151, rN151, rbs151, rfl, N151q, K151q, Fr151, Fw151, Vr151, os151⟩ := hQ151
    have N151 := Fr.app N141 N151q
    have K151 : Keep h0 h151 [] := K141.trans K151q (allS (Or.inr sz_b126) all0)
    have f157 := own_staK f146 K151q (allS (own_exaP f143) all0)
    have f158 := own_staK f147 K151q (allS (own_exaP f143) all0)
    have f159 := own_staK f148 K151q (allS (own_exaP f143) all0)
    have f160 := own_staK f149 K151q (allS (own_exaP f143) all0)
    have f161 := own_staK f150 K151q (allS (own_exaP f143) all0)
    refine step (T151.setTop (mkF m 138 #[vi n, vr oc] [(.ref b126)])) (fun t k => st151.trans k) ?_
    have C162 := C156.trans (CHr.keep K151q (allS Sf156_b126 all0) C156.1)
    have Sf162_b126 := Safe.keep K151q (allS Sf156_b126 all0) C156.1 Sf156_b126
    have Sf162_b127 := Safe.keep K151q (allS Sf156_b126 all0) C156.1 Sf156_b127
    refine fin (v := some (.ref b126)) X151 hS (Nat.le_trans (Nat.le_trans (Nat.le_trans (Nat.le_trans (Nat.le_trans (Nat.le_trans (Nat.le_trans (Nat.le_trans hk E126.1) E127.1) (Keep.of_wr W132).1) (Keep.of_wr W135).1) (Keep.of_wr W138).1) (Keep.of_wr W141).1) K151q.1) (Nat.le_of_eq (congrArg Array.size e151.symm))) hZ (by rw [e151]; exact C162) (fun h => by cases h) ?_ (by decide) (by decide) (fun fs hr => X151.areturnOut hx rfl hret rfl (hb hby d2_138) hr)
    show Q2 Z n oc kd c0 c1 c2 c3 c4 cs fo h0 n0 (some (.ref b126)) T151.heap _
    rw [e151]
    have f163 := (f143.keep K151q)
    exact ⟨b126, rb151, rk151, rco151, rN151, rbs151, rfl, N151, K151, f163, Fr151, Fw151, Vr151, (own_osT hnk (by rw [show (4 : Int32).toInt.toNat = 4 by decide]; rfl) os151)⟩
  · -- n = 5
    refine oil KK X0 d2_0 n 1 rfl rfl ?_
    have hc1_164 : ¬ (n = (0 : Int32)) := (by rw [hnk]; decide)
    refine step (s₁.setTop (mkF m 15 #[vi n, vr oc] [])) (fun t k => XS.ifYes X0.here hx rfl (pc0 := 1) (pc' := 15) rfl (hb hby d2_1) rfl ((if0 _ _).trans (feq hc1_164).2) (by decide) (by decide) k) ?_
    refine oil KK X0 d2_15 n 16 rfl rfl ?_
    refine oic KK X0 d2_16 1 17 rfl rfl ?_
    have hc17_165 : ¬ (n = (1 : Int32)) := (by rw [hnk]; decide)
    refine oiy KK X0 d2_17 37 (feq hc17_165).2 (by decide) rfl ?_
    refine oil KK X0 d2_37 n 38 rfl rfl ?_
    refine oic KK X0 d2_38 2 39 rfl rfl ?_
    have hc39_166 : ¬ (n = (2 : Int32)) := (by rw [hnk]; decide)
    refine oiy KK X0 d2_39 65 (feq hc39_166).2 (by decide) rfl ?_
    refine oil KK X0 d2_65 n 66 rfl rfl ?_
    refine oic KK X0 d2_66 3 67 rfl rfl ?_
    have hc67_167 : ¬ (n = (3 : Int32)) := (by rw [hnk]; decide)
    refine oiy KK X0 d2_67 99 (feq hc67_167).2 (by decide) rfl ?_
    refine oil KK X0 d2_99 n 100 rfl rfl ?_
    refine oic KK X0 d2_100 4 101 rfl rfl ?_
    have hc101_168 : ¬ (n = (4 : Int32)) := (by rw [hnk]; decide)
    refine oiy KK X0 d2_101 139 (feq hc101_168).2 (by decide) rfl ?_
    obtain ⟨T169, h169, X169, e169, E169, A169, D169, -, st169⟩ := newO X0 hx hZ hown (ow hw 9 rfl) (ow hw 10 rfl) (ow hw 11 rfl) e0 (g := (mkF m 139 #[vi n, vr oc] [])) rfl (hb hby d2_139) (by decide) (by decide)
    obtain ⟨b169, g169⟩ : ∃ z, z = h0.size := ⟨_, rfl⟩
    rw [← g169] at A169 D169 st169
    have ne_oc_b169 : oc ≠ b169 := Nat.ne_of_lt (Nat.lt_of_lt_of_le Vc.lt (Nat.le_of_eq g169.symm))
    have gn_b169 : n0 ≤ b169 := Nat.le_trans Z0 (Nat.le_of_eq g169.symm)
    have sz_b169 : h0.size ≤ b169 := Nat.le_of_eq g169.symm
    have Sf169_b169 : Safe Z own_EL vm0 h0 b169 := Safe.new (Nat.le_of_eq g169.symm)
    have K169 : Keep h0 h169 [] := (Keep.refl h0 []).ext E169
    have F_value_b169 : Fld Z h169 b169 "java/lang/String" "value" "[B" .null := D169 (Or.inr (ow hw 24 rfl)) (ty := (.array .byte)) (by decide)
    have F_coder_b169 : Fld Z h169 b169 "java/lang/String" "coder" "B" (.int 0) := D169 (Or.inr (ow hw 25 rfl)) (ty := .byte) (by decide)
    refine step (T169.setTop (mkF m 142 #[vi n, vr oc] [(.ref b169)])) (fun t k => st169 t k) ?_
    refine odu KK X169 d2_142 143 rfl rfl ?_
    refine oic KK X169 d2_143 5 144 rfl rfl ?_
    obtain ⟨T170, h170, k170, X170, e170, E170, A170, st170⟩ := newP X169 hx hZ (ow hw 0 rfl) e169 (g := (mkF m 144 #[vi n, vr oc] [(.int 5), (.ref b169), (.ref b169)])) rfl (hb hby d2_144) rfl (by decide) (cap := 5) (by decide) (by decide) (by decide) (by decide)
    obtain ⟨b170, g170⟩ : ∃ z, z = h169.size := ⟨_, rfl⟩
    rw [← g170] at A170 st170
    have f171 := (Vc.ext E169)
    have ne_oc_b170 : oc ≠ b170 := Nat.ne_of_lt (Nat.lt_of_lt_of_le f171.lt (Nat.le_of_eq g170.symm))
    have ne_b169_b170 : b169 ≠ b170 := Nat.ne_of_lt (Nat.lt_of_lt_of_le A169.lt (Nat.le_of_eq g170.symm))
    have gn_b170 : n0 ≤ b170 := Nat.le_trans (Nat.le_trans Z0 K169.1) (Nat.le_of_eq g170.symm)
    have sz_b170 : h0.size ≤ b170 := Nat.le_trans K169.1 (Nat.le_of_eq g170.symm)
    have C172 := C0.trans (CHr.ext E169 C0.1)
    have Sf172_b169 := Safe.ext E169 C0.1 Sf169_b169
    have Sf170_b170 : Safe Z own_EL vm0 h169 b170 := Safe.new (Nat.le_of_eq g170.symm)
    have K170 : Keep h0 h170 [] := K169.ext E170
    have V170 : Arv Z h170 b170 k170 .char (5 : Int32) [(.int 0), (.int 0), (.int 0), (.int 0), (.int 0)] (.int 0) := (Arv.new A170 (by decide)).pad (pad_rep [] (.int 0) 5)
    refine step (T170.setTop (mkF m 146 #[vi n, vr oc] [(.ref b170), (.ref b169), (.ref b169)])) (fun t k => st170 t k) ?_
    refine odu KK X170 d2_146 147 rfl rfl ?_
    refine oic KK X170 d2_147 0 148 rfl rfl ?_
    refine oal KK X170 d2_148 (.ref oc) 149 rfl rfl rfl ?_
    refine oic KK X170 d2_149 0 150 rfl rfl ?_
    have f173 := (f171.ext E170)
    obtain ⟨cl174, Ar174, q174, S174, N174n, H174, G174⟩ := id f173
    have hin174 : ¬ ((0 : Int32) < 0 ∨ cl174.slots.size ≤ ((0 : Int32)).toNatClampNeg) := inb_of S174 ⟨by decide, by decide⟩
    have hat174 : cl174.slots[((0 : Int32)).toNatClampNeg]? = some (.int c0) := H174.at hin174 rfl
    refine step (T170.setTop (mkF m 151 #[vi n, vr oc] [(.int c0), (.int 0), (.ref b170), (.ref b170), (.ref b169), (.ref b169)])) (fun t k => X170.caload hx (j := (0 : Int32)) (v := (.int c0)) (by rw [e170]; exact Ar174.1) (State.isArrayOf_alike hZ.alike Ar174.2.1) Ar174.2.2 hin174 hat174 (g := (mkF m 150 #[vi n, vr oc] [(.int 0), (.ref oc), (.int 0), (.ref b170), (.ref b170), (.ref b169), (.ref b169)])) rfl rfl (hb hby d2_150) t k) ?_
    obtain ⟨cl175, Ar175, q175, S175, N175n, H175, G175⟩ := id V170
    have hin175 : ¬ ((0 : Int32) < 0 ∨ cl175.slots.size ≤ ((0 : Int32)).toNatClampNeg) := inb_of S175 ⟨by decide, by decide⟩
    obtain ⟨T175, h175, X175, e175, W175, st175⟩ := stC X170 hx hZ e170 Ar175 (j := (0 : Int32)) hin175 (g := (mkF m 151 #[vi n, vr oc] [(.int c0), (.int 0), (.ref b170), (.ref b170), (.ref b169), (.ref b169)])) rfl rfl (hb hby d2_151)
    have N175 := Fr.snoc X175 N0 gn_b170
    have K175 : Keep h0 h175 [] := K170.wr W175 (Or.inr sz_b170)
    have V175 : Arv Z h175 b170 k170 .char (5 : Int32) [(.int (nar .char c0)), (.int 0), (.int 0), (.int 0), (.int 0)] (.int 0) := Arv.set Ar175 q175 S175 N175n H175 G175 (fits_nar_char c0) W175 0 rfl (Nat.le_of_ble_eq_true rfl)
    refine step (T175.setTop (mkF m 152 #[vi n, vr oc] [(.ref b170), (.ref b169), (.ref b169)])) (fun t k => st175 t k) ?_
    refine odu KK X175 d2_152 153 rfl rfl ?_
    refine oic KK X175 d2_153 1 154 rfl rfl ?_
    refine oal KK X175 d2_154 (.ref oc) 155 rfl rfl rfl ?_
    refine oic KK X175 d2_155 1 156 rfl rfl ?_
    have f176 := (f173.other W175 ne_oc_b170)
    obtain ⟨cl177, Ar177, q177, S177, N177n, H177, G177⟩ := id f176
    have hin177 : ¬ ((1 : Int32) < 0 ∨ cl177.slots.size ≤ ((1 : Int32)).toNatClampNeg) := inb_of S177 ⟨by decide, by decide⟩
    have hat177 : cl177.slots[((1 : Int32)).toNatClampNeg]? = some (.int c1) := H177.at hin177 rfl
    refine step (T175.setTop (mkF m 157 #[vi n, vr oc] [(.int c1), (.int 1), (.ref b170), (.ref b170), (.ref b169), (.ref b169)])) (fun t k => X175.caload hx (j := (1 : Int32)) (v := (.int c1)) (by rw [e175]; exact Ar177.1) (State.isArrayOf_alike hZ.alike Ar177.2.1) Ar177.2.2 hin177 hat177 (g := (mkF m 156 #[vi n, vr oc] [(.int 1), (.ref oc), (.int 1), (.ref b170), (.ref b170), (.ref b169), (.ref b169)])) rfl rfl (hb hby d2_156) t k) ?_
    obtain ⟨cl178, Ar178, q178, S178, N178n, H178, G178⟩ := id V175
    have hin178 : ¬ ((1 : Int32) < 0 ∨ cl178.slots.size ≤ ((1 : Int32)).toNatClampNeg) := inb_of S178 ⟨by decide, by decide⟩
    obtain ⟨T178, h178, X178, e178, W178, st178⟩ := stC X175 hx hZ e175 Ar178 (j := (1 : Int32)) hin178 (g := (mkF m 157 #[vi n, vr oc] [(.int c1), (.int 1), (.ref b170), (.ref b170), (.ref b169), (.ref b169)])) rfl rfl (hb hby d2_157)
    have N178 := Fr.snoc X178 N175 gn_b170
    have K178 : Keep h0 h178 [] := K175.wr W178 (Or.inr sz_b170)
    have V178 : Arv Z h178 b170 k170 .char (5 : Int32) [(.int (nar .char c0)), (.int (nar .char c1)), (.int 0), (.int 0), (.int 0)] (.int 0) := Arv.set Ar178 q178 S178 N178n H178 G178 (fits_nar_char c1) W178 1 rfl (Nat.le_of_ble_eq_true rfl)
    refine step (T178.setTop (mkF m 158 #[vi n, vr oc] [(.ref b170), (.ref b169), (.ref b169)])) (fun t k => st178 t k) ?_
    refine odu KK X178 d2_158 159 rfl rfl ?_
    refine oic KK X178 d2_159 2 160 rfl rfl ?_
    refine oal KK X178 d2_160 (.ref oc) 161 rfl rfl rfl ?_
    refine oic KK X178 d2_161 2 162 rfl rfl ?_
    have f179 := (f176.other W178 ne_oc_b170)
    obtain ⟨cl180, Ar180, q180, S180, N180n, H180, G180⟩ := id f179
    have hin180 : ¬ ((2 : Int32) < 0 ∨ cl180.slots.size ≤ ((2 : Int32)).toNatClampNeg) := inb_of S180 ⟨by decide, by decide⟩
    have hat180 : cl180.slots[((2 : Int32)).toNatClampNeg]? = some (.int c2) := H180.at hin180 rfl
    refine step (T178.setTop (mkF m 163 #[vi n, vr oc] [(.int c2), (.int 2), (.ref b170), (.ref b170), (.ref b169), (.ref b169)])) (fun t k => X178.caload hx (j := (2 : Int32)) (v := (.int c2)) (by rw [e178]; exact Ar180.1) (State.isArrayOf_alike hZ.alike Ar180.2.1) Ar180.2.2 hin180 hat180 (g := (mkF m 162 #[vi n, vr oc] [(.int 2), (.ref oc), (.int 2), (.ref b170), (.ref b170), (.ref b169), (.ref b169)])) rfl rfl (hb hby d2_162) t k) ?_
    obtain ⟨cl181, Ar181, q181, S181, N181n, H181, G181⟩ := id V178
    have hin181 : ¬ ((2 : Int32) < 0 ∨ cl181.slots.size ≤ ((2 : Int32)).toNatClampNeg) := inb_of S181 ⟨by decide, by decide⟩
    obtain ⟨T181, h181, X181, e181, W181, st181⟩ := stC X178 hx hZ e178 Ar181 (j := (2 : Int32)) hin181 (g := (mkF m 163 #[vi n, vr oc] [(.int c2), (.int 2), (.ref b170), (.ref b170), (.ref b169), (.ref b169)])) rfl rfl (hb hby d2_163)
    have N181 := Fr.snoc X181 N178 gn_b170
    have K181 : Keep h0 h181 [] := K178.wr W181 (Or.inr sz_b170)
    have V181 : Arv Z h181 b170 k170 .char (5 : Int32) [(.int (nar .char c0)), (.int (nar .char c1)), (.int (nar .char c2)), (.int 0), (.int 0)] (.int 0) := Arv.set Ar181 q181 S181 N181n H181 G181 (fits_nar_char c2) W181 2 rfl (Nat.le_of_ble_eq_true rfl)
    refine step (T181.setTop (mkF m 164 #[vi n, vr oc] [(.ref b170), (.ref b169), (.ref b169)])) (fun t k => st181 t k) ?_
    refine odu KK X181 d2_164 165 rfl rfl ?_
    refine oic KK X181 d2_165 3 166 rfl rfl ?_
    refine oal KK X181 d2_166 (.ref oc) 167 rfl rfl rfl ?_
    refine oic KK X181 d2_167 3 168 rfl rfl ?_
    have f182 := (f179.other W181 ne_oc_b170)
    obtain ⟨cl183, Ar183, q183, S183, N183n, H183, G183⟩ := id f182
    have hin183 : ¬ ((3 : Int32) < 0 ∨ cl183.slots.size ≤ ((3 : Int32)).toNatClampNeg) := inb_of S183 ⟨by decide, by decide⟩
    have hat183 : cl183.slots[((3 : Int32)).toNatClampNeg]? = some (.int c3) := H183.at hin183 rfl
    refine step (T181.setTop (mkF m 169 #[vi n, vr oc] [(.int c3), (.int 3), (.ref b170), (.ref b170), (.ref b169), (.ref b169)])) (fun t k => X181.caload hx (j := (3 : Int32)) (v := (.int c3)) (by rw [e181]; exact Ar183.1) (State.isArrayOf_alike hZ.alike Ar183.2.1) Ar183.2.2 hin183 hat183 (g := (mkF m 168 #[vi n, vr oc] [(.int 3), (.ref oc), (.int 3), (.ref b170), (.ref b170), (.ref b169), (.ref b169)])) rfl rfl (hb hby d2_168) t k) ?_
    obtain ⟨cl184, Ar184, q184, S184, N184n, H184, G184⟩ := id V181
    have hin184 : ¬ ((3 : Int32) < 0 ∨ cl184.slots.size ≤ ((3 : Int32)).toNatClampNeg) := inb_of S184 ⟨by decide, by decide⟩
    obtain ⟨T184, h184, X184, e184, W184, st184⟩ := stC X181 hx hZ e181 Ar184 (j := (3 : Int32)) hin184 (g := (mkF m 169 #[vi n, vr oc] [(.int c3), (.int 3), (.ref b170), (.ref b170), (.ref b169), (.ref b169)])) rfl rfl (hb hby d2_169)
    have N184 := Fr.snoc X184 N181 gn_b170
    have K184 : Keep h0 h184 [] := K181.wr W184 (Or.inr sz_b170)
    have V184 : Arv Z h184 b170 k170 .char (5 : Int32) [(.int (nar .char c0)), (.int (nar .char c1)), (.int (nar .char c2)), (.int (nar .char c3)), (.int 0)] (.int 0) := Arv.set Ar184 q184 S184 N184n H184 G184 (fits_nar_char c3) W184 3 rfl (Nat.le_of_ble_eq_true rfl)
    refine step (T184.setTop (mkF m 170 #[vi n, vr oc] [(.ref b170), (.ref b169), (.ref b169)])) (fun t k => st184 t k) ?_
    refine odu KK X184 d2_170 171 rfl rfl ?_
    refine oic KK X184 d2_171 4 172 rfl rfl ?_
    refine oal KK X184 d2_172 (.ref oc) 173 rfl rfl rfl ?_
    refine oic KK X184 d2_173 4 174 rfl rfl ?_
    have f185 := (f182.other W184 ne_oc_b170)
    obtain ⟨cl186, Ar186, q186, S186, N186n, H186, G186⟩ := id f185
    have hin186 : ¬ ((4 : Int32) < 0 ∨ cl186.slots.size ≤ ((4 : Int32)).toNatClampNeg) := inb_of S186 ⟨by decide, by decide⟩
    have hat186 : cl186.slots[((4 : Int32)).toNatClampNeg]? = some (.int c4) := H186.at hin186 rfl
    refine step (T184.setTop (mkF m 175 #[vi n, vr oc] [(.int c4), (.int 4), (.ref b170), (.ref b170), (.ref b169), (.ref b169)])) (fun t k => X184.caload hx (j := (4 : Int32)) (v := (.int c4)) (by rw [e184]; exact Ar186.1) (State.isArrayOf_alike hZ.alike Ar186.2.1) Ar186.2.2 hin186 hat186 (g := (mkF m 174 #[vi n, vr oc] [(.int 4), (.ref oc), (.int 4), (.ref b170), (.ref b170), (.ref b169), (.ref b169)])) rfl rfl (hb hby d2_174) t k) ?_
    obtain ⟨cl187, Ar187, q187, S187, N187n, H187, G187⟩ := id V184
    have hin187 : ¬ ((4 : Int32) < 0 ∨ cl187.slots.size ≤ ((4 : Int32)).toNatClampNeg) := inb_of S187 ⟨by decide, by decide⟩
    obtain ⟨T187, h187, X187, e187, W187, st187⟩ := stC X184 hx hZ e184 Ar187 (j := (4 : Int32)) hin187 (g := (mkF m 175 #[vi n, vr oc] [(.int c4), (.int 4), (.ref b170), (.ref b170), (.ref b169), (.ref b169)])) rfl rfl (hb hby d2_175)
    have N187 := Fr.snoc X187 N184 gn_b170
    have K187 : Keep h0 h187 [] := K184.wr W187 (Or.inr sz_b170)
    have V187 : Arv Z h187 b170 k170 .char (5 : Int32) [(.int (nar .char c0)), (.int (nar .char c1)), (.int (nar .char c2)), (.int (nar .char c3)), (.int (nar .char c4))] (.int 0) := Arv.set Ar187 q187 S187 N187n H187 G187 (fits_nar_char c4) W187 4 rfl (Nat.le_of_ble_eq_true rfl)
    refine step (T187.setTop (mkF m 176 #[vi n, vr oc] [(.ref b170), (.ref b169), (.ref b169)])) (fun t k => st187 t k) ?_
    have Vc188 : Arv Z h187 b170 k170 .char (5 : Int32) (List.map Value.int [c0, c1, c2, c3, c4]) (.int 0) := by
      have q := V187
      rw [own_narC hc0, own_narC hc1, own_narC hc2, own_narC hc3, own_narC hc4] at q
      exact q
    have f189 := ((((((A169.ext E170).wr W175).wr W178).wr W181).wr W184).wr W187)
    have f190 := ((((((F_coder_b169.ext E170).other W175 (Or.inl ne_b169_b170)).other W178 (Or.inl ne_b169_b170)).other W181 (Or.inl ne_b169_b170)).other W184 (Or.inl ne_b169_b170)).other W187 (Or.inl ne_b169_b170))
    have f191 := ((((((F_value_b169.ext E170).other W175 (Or.inl ne_b169_b170)).other W178 (Or.inl ne_b169_b170)).other W181 (Or.inl ne_b169_b170)).other W184 (Or.inl ne_b169_b170)).other W187 (Or.inl ne_b169_b170))
    have f192 := (((((((S_cs.ext E169).ext E170).wr W175).wr W178).wr W181).wr W184).wr W187)
    have f193 := (((((((S_fo.ext E169).ext E170).wr W175).wr W178).wr W181).wr W184).wr W187)
    have f194 := (((((((S_ad.ext E169).ext E170).wr W175).wr W178).wr W181).wr W184).wr W187)
    have f195 := (((((((S_hi.ext E169).ext E170).wr W175).wr W178).wr W181).wr W184).wr W187)
    have f196 := (((((((S_lo.ext E169).ext E170).wr W175).wr W178).wr W181).wr W184).wr W187)
    have C198 := C172.trans (CHr.ext E170 C172.1)
    have Sf198_b169 := Safe.ext E170 C172.1 Sf172_b169
    have Sf198_b170 := Safe.ext E170 C172.1 Sf170_b170
    have C199 := C198.trans (CHr.wr W175 Sf198_b170 C198.1)
    have Sf199_b169 := Safe.wr W175 Sf198_b170 C198.1 Sf198_b169
    have Sf199_b170 := Safe.wr W175 Sf198_b170 C198.1 Sf198_b170
    have C200 := C199.trans (CHr.wr W178 Sf199_b170 C199.1)
    have Sf200_b169 := Safe.wr W178 Sf199_b170 C199.1 Sf199_b169
    have Sf200_b170 := Safe.wr W178 Sf199_b170 C199.1 Sf199_b170
    have C201 := C200.trans (CHr.wr W181 Sf200_b170 C200.1)
    have Sf201_b169 := Safe.wr W181 Sf200_b170 C200.1 Sf200_b169
    have Sf201_b170 := Safe.wr W181 Sf200_b170 C200.1 Sf200_b170
    have C202 := C201.trans (CHr.wr W184 Sf201_b170 C201.1)
    have Sf202_b169 := Safe.wr W184 Sf201_b170 C201.1 Sf201_b169
    have Sf202_b170 := Safe.wr W184 Sf201_b170 C201.1 Sf201_b170
    have C203 := C202.trans (CHr.wr W187 Sf202_b170 C202.1)
    have Sf203_b169 := Safe.wr W187 Sf202_b170 C202.1 Sf202_b169
    have Sf203_b170 := Safe.wr W187 Sf202_b170 C202.1 Sf202_b170
    obtain ⟨_, _, ⟨T197, L197, k197, n197⟩, -, X197, ⟨Lc197, hQ197, l197, y197, z197⟩, st197⟩ := X187.specialBack hx (y := nM36) rfl hown (mvT hZ (ow hw 12 rfl)) (mvT hZ (ow hw 13 rfl)) (mvT hZ (ow hw 14 rfl)) (by decide) (backOf (W := 1) (rm3 l Z a0 hw [] b169 b170 k170 [c0, c1, c2, c3, c4] (5 : Int32) cs fo h187 n0 (Nat.le_trans Z0 K187.1) Vc188 (show (5 : Int32).toInt = 5 by decide) (show 5 ≤ 5 by decide) (List.forall_mem_cons.mpr ⟨hc0, (List.forall_mem_cons.mpr ⟨hc1, (List.forall_mem_cons.mpr ⟨hc2, (List.forall_mem_cons.mpr ⟨hc3, (List.forall_mem_cons.mpr ⟨hc4, (fun _ q => nomatch q)⟩)⟩)⟩)⟩)⟩) f189 f190 f191 gn_b169 ne_b169_b170 (by decide) f192 c_cs f193 r_fo f194 f195 f196) hZ (ow hw 14 rfl) (ow hw 11 rfl) (by decide) (by decide)) (g := (mkF m 176 #[vi n, vr oc] [(.ref b170), (.ref b169), (.ref b169)])) rfl (by rw [hml]; rfl) (Steps.refl _) (a := b169) (argsL := [(.ref b170)]) (rest := [(.ref b169)]) (lenOf pd_29 rfl) rfl (omw rfl rfl) (hb hby d2_176) (fun _ _ => ⟨rfl, e187, (by decide : 2 + 2 ≤ _), (by decide : 9 + 15 ≤ _)⟩)
    dsimp only [Pt.U, Pt.locs, Pt.cells, Pt.slots] at X197 l197 y197 z197 st197 hQ197
    subst l197 y197 z197
    obtain ⟨h197, e197⟩ : ∃ z, T197.heap = z := ⟨_, rfl⟩
    rw [e197] at hQ197
    obtain ⟨rb197, rk197, rco197, rN197, rbs197, rfl, N197q, K197q, Fr197, Fw197, Vr197, os197⟩ := hQ197
    have N197 := Fr.app N187 N197q
    have K197 : Keep h0 h197 [] := K187.trans K197q (allS (Or.inr sz_b169) all0)
    have f204 := own_staK f192 K197q (allS (own_exaP f189) all0)
    have f205 := own_staK f193 K197q (allS (own_exaP f189) all0)
    have f206 := own_staK f194 K197q (allS (own_exaP f189) all0)
    have f207 := own_staK f195 K197q (allS (own_exaP f189) all0)
    have f208 := own_staK f196 K197q (allS (own_exaP f189) all0)
    refine step (T197.setTop (mkF m 179 #[vi n, vr oc] [(.ref b169)])) (fun t k => st197.trans k) ?_
    have C209 := C203.trans (CHr.keep K197q (allS Sf203_b169 all0) C203.1)
    have Sf209_b169 := Safe.keep K197q (allS Sf203_b169 all0) C203.1 Sf203_b169
    have Sf209_b170 := Safe.keep K197q (allS Sf203_b169 all0) C203.1 Sf203_b170
    refine fin (v := some (.ref b169)) X197 hS (Nat.le_trans (Nat.le_trans (Nat.le_trans (Nat.le_trans (Nat.le_trans (Nat.le_trans (Nat.le_trans (Nat.le_trans (Nat.le_trans hk E169.1) E170.1) (Keep.of_wr W175).1) (Keep.of_wr W178).1) (Keep.of_wr W181).1) (Keep.of_wr W184).1) (Keep.of_wr W187).1) K197q.1) (Nat.le_of_eq (congrArg Array.size e197.symm))) hZ (by rw [e197]; exact C209) (fun h => by cases h) ?_ (by decide) (by decide) (fun fs hr => X197.areturnOut hx rfl hret rfl (hb hby d2_179) hr)
    show Q2 Z n oc kd c0 c1 c2 c3 c4 cs fo h0 n0 (some (.ref b169)) T197.heap _
    rw [e197]
    have f210 := (f189.keep K197q)
    exact ⟨b169, rb197, rk197, rco197, rN197, rbs197, rfl, N197, K197, f210, Fr197, Fw197, Vr197, (own_osT hnk (by rw [show (5 : Int32).toInt.toNat = 5 by decide]; rfl) os197)⟩
theorem d1_0 : decode method_3_code 0 = .ok (.iload_n 0, 1) := by decide +kernel
theorem d1_1 : decode method_3_code 1 = .ok (.bipush 8, 2) := by decide +kernel
theorem d1_3 : decode method_3_code 3 = .ok (.iand, 1) := by decide +kernel
theorem d1_4 : decode method_3_code 4 = .ok (.ifCond .eq 33, 3) := by decide +kernel
theorem d1_7 : decode method_3_code 7 = .ok (.iload_n 0, 1) := by decide +kernel
theorem d1_8 : decode method_3_code 8 = .ok (.iconst 3, 1) := by decide +kernel
theorem d1_9 : decode method_3_code 9 = .ok (.iand, 1) := by decide +kernel
theorem d1_10 : decode method_3_code 10 = .ok (.istore_n 1, 1) := by decide +kernel
theorem d1_11 : decode method_3_code 11 = .ok (.iload_n 1, 1) := by decide +kernel
theorem d1_12 : decode method_3_code 12 = .ok (.ifCond .ne 6, 3) := by decide +kernel
theorem d1_15 : decode method_3_code 15 = .ok (.bipush 32, 2) := by decide +kernel
theorem d1_17 : decode method_3_code 17 = .ok (.ireturn, 1) := by decide +kernel
theorem d1_18 : decode method_3_code 18 = .ok (.iload_n 1, 1) := by decide +kernel
theorem d1_19 : decode method_3_code 19 = .ok (.iconst 1, 1) := by decide +kernel
theorem d1_20 : decode method_3_code 20 = .ok (.if_icmp .ne 6, 3) := by decide +kernel
theorem d1_23 : decode method_3_code 23 = .ok (.bipush 9, 2) := by decide +kernel
theorem d1_25 : decode method_3_code 25 = .ok (.ireturn, 1) := by decide +kernel
theorem d1_26 : decode method_3_code 26 = .ok (.iload_n 1, 1) := by decide +kernel
theorem d1_27 : decode method_3_code 27 = .ok (.iconst 2, 1) := by decide +kernel
theorem d1_28 : decode method_3_code 28 = .ok (.if_icmp .ne 6, 3) := by decide +kernel
theorem d1_31 : decode method_3_code 31 = .ok (.bipush 13, 2) := by decide +kernel
theorem d1_33 : decode method_3_code 33 = .ok (.ireturn, 1) := by decide +kernel
theorem d1_34 : decode method_3_code 34 = .ok (.bipush 10, 2) := by decide +kernel
theorem d1_36 : decode method_3_code 36 = .ok (.ireturn, 1) := by decide +kernel
theorem d1_37 : decode method_3_code 37 = .ok (.iload_n 0, 1) := by decide +kernel
theorem d1_38 : decode method_3_code 38 = .ok (.iconst 4, 1) := by decide +kernel
theorem d1_39 : decode method_3_code 39 = .ok (.iushr, 1) := by decide +kernel
theorem d1_40 : decode method_3_code 40 = .ok (.ldc 7, 2) := by decide +kernel
theorem d1_42 : decode method_3_code 42 = .ok (.iand, 1) := by decide +kernel
theorem d1_43 : decode method_3_code 43 = .ok (.i2c, 1) := by decide +kernel
theorem d1_44 : decode method_3_code 44 = .ok (.ireturn, 1) := by decide +kernel
theorem ef_1 (m : MethodId) (x0 : Int32) : entryFrame m #[(.int x0)] 2 = mkF m 0 #[.val (.int x0), .unset] [] := by first | (simp [entryFrame, mkF, argsToLocals, Value.category]; done) | rfl
def Q1 (Z : State) (x : Int32) (h0 : Heap) (n0 : Nat) (v : Option Value) (h : Heap) (L : List Loc) : Prop := ∃ ci : Int32, v = some (.int ci) ∧ Fr n0 L ∧ h = h0 ∧ (0 ≤ ci.toInt ∧ ci.toInt < 65536)
set_option maxRecDepth 65536 in
set_option maxHeartbeats 40000000 in
theorem rm1 (l : Launch) (Z : State) (a0 : Array Value) (hw : ∀ d ∈ tables_1, d.before a0 Z = true) (ws : List Jvm.Cond) (x : Int32) (h0 : Heap) (n0 : Nat) (Z0 : n0 ≤ h0.size)  :
    OwnM l Z nM38 method_3_code 2 (some .char) ws ({ frames := 0, cells := 0, slots := 0, locals := 0 } : Room) #[(.int x)] h0 (Q1 Z x h0 n0) := by
  refine own_body (plainFor_of_name pn_6) ?_
  intro p e s m below meth c s₁ G hx hby hml hZ hown hnm hret X0 e0 step fin
  replace hown : s.vm.findClass "org/vouchsafe/DomTrimmedPinLaw" = some m.cls := hown
  have N0 := Fr.nil n0
  have KK : OwnK p e below c _ G := ⟨step, hx, hby⟩
  refine step (s₁.setTop (mkF m 0 #[vi x, .unset] [])) (fun t k => castTop (ef_1 m x) k) ?_
  refine oil KK X0 d1_0 x 1 rfl rfl ?_
  refine obi KK X0 d1_1 8 3 rfl rfl ?_
  refine step (s₁.setTop (mkF m 4 #[vi x, .unset] [(.int (x &&& (8 : Int32)))])) (fun t k => XS.iand X0.here hx rfl (hb hby d1_3) rfl k) ?_
  by_cases hc4_1 : (x &&& (8 : Int32)) = (0 : Int32)
  · -- pc 4: (x &&& (8 : Int32)) = (0 : Int32) True
    refine step (s₁.setTop (mkF m 37 #[vi x, .unset] [])) (fun t k => XS.ifYes X0.here hx rfl (pc0 := 4) (pc' := 37) rfl (hb hby d1_4) rfl ((if0 _ _).trans (teq hc4_1).1) (by decide) (by decide) k) ?_
    refine oil KK X0 d1_37 x 38 rfl rfl ?_
    refine oic KK X0 d1_38 4 39 rfl rfl ?_
    refine step (s₁.setTop (mkF m 40 #[vi x, .unset] [(.int ((x.toUInt32 >>> ((4 : Int32) &&& 31).toUInt32).toInt32))])) (fun t k => XS.iushr X0.here hx rfl (hb hby d1_39) rfl k) ?_
    refine step (s₁.setTop (mkF m 42 #[vi x, .unset] [(.int 65535), (.int ((x.toUInt32 >>> ((4 : Int32) &&& 31).toUInt32).toInt32))])) (fun t k => X0.ldcInt hx hown (mvT hZ (ow hw 5 rfl)) (g := (mkF m 40 #[vi x, .unset] [(.int ((x.toUInt32 >>> ((4 : Int32) &&& 31).toUInt32).toInt32))])) rfl (hb hby d1_40) t k) ?_
    refine step (s₁.setTop (mkF m 43 #[vi x, .unset] [(.int (((x.toUInt32 >>> ((4 : Int32) &&& 31).toUInt32).toInt32) &&& (65535 : Int32)))])) (fun t k => XS.iand X0.here hx rfl (hb hby d1_42) rfl k) ?_
    refine step (s₁.setTop (mkF m 44 #[vi x, .unset] [(.int ((((x.toUInt32 >>> ((4 : Int32) &&& 31).toUInt32).toInt32) &&& (65535 : Int32)).toUInt32.toUInt16.toUInt32.toInt32))])) (fun t k => XS.i2c X0.here hx rfl (hb hby d1_43) rfl k) ?_
    refine fin (v := some (.int (nar .char ((((x.toUInt32 >>> ((4 : Int32) &&& 31).toUInt32).toInt32) &&& (65535 : Int32)).toUInt32.toUInt16.toUInt32.toInt32)))) X0 (fun h => by cases h) ?_ (by decide) (by decide) (fun fs hr => retN X0 hx (t := .char) hret (by simp) (hb hby d1_44) hr)
    show Q1 Z x h0 n0 (some (.int (nar .char ((((x.toUInt32 >>> ((4 : Int32) &&& 31).toUInt32).toInt32) &&& (65535 : Int32)).toUInt32.toUInt16.toUInt32.toInt32)))) s₁.heap _
    rw [e0]
    exact ⟨_, rfl, N0, rfl, own_narR _⟩
  · -- pc 4: (x &&& (8 : Int32)) = (0 : Int32) False
    refine step (s₁.setTop (mkF m 7 #[vi x, .unset] [])) (fun t k => XS.ifNo X0.here hx rfl (hb hby d1_4) rfl ((if0 _ _).trans (feq hc4_1).1) k) ?_
    refine oil KK X0 d1_7 x 8 rfl rfl ?_
    refine oic KK X0 d1_8 3 9 rfl rfl ?_
    refine step (s₁.setTop (mkF m 10 #[vi x, .unset] [(.int (x &&& (3 : Int32)))])) (fun t k => XS.iand X0.here hx rfl (hb hby d1_9) rfl k) ?_
    refine ois KK X0 d1_10 #[vi x, .val (.int (x &&& (3 : Int32)))] 11 rfl rfl ?_
    refine oil KK X0 d1_11 (x &&& (3 : Int32)) 12 rfl rfl ?_
    by_cases hc12_2 : (x &&& (3 : Int32)) = (0 : Int32)
    · -- pc 12: (x &&& (3 : Int32)) = (0 : Int32) True
      refine step (s₁.setTop (mkF m 15 #[vi x, .val (.int (x &&& (3 : Int32)))] [])) (fun t k => XS.ifNo X0.here hx rfl (hb hby d1_12) rfl ((if0 _ _).trans (teq hc12_2).2) k) ?_
      refine obi KK X0 d1_15 32 17 rfl rfl ?_
      refine fin (v := some (.int (nar .char (32 : Int32)))) X0 (fun h => by cases h) ?_ (by decide) (by decide) (fun fs hr => retN X0 hx (t := .char) hret (by simp) (hb hby d1_17) hr)
      show Q1 Z x h0 n0 (some (.int (nar .char (32 : Int32)))) s₁.heap _
      rw [e0]
      exact ⟨_, rfl, N0, rfl, own_narR _⟩
    · -- pc 12: (x &&& (3 : Int32)) = (0 : Int32) False
      refine step (s₁.setTop (mkF m 18 #[vi x, .val (.int (x &&& (3 : Int32)))] [])) (fun t k => XS.ifYes X0.here hx rfl (pc0 := 12) (pc' := 18) rfl (hb hby d1_12) rfl ((if0 _ _).trans (feq hc12_2).2) (by decide) (by decide) k) ?_
      refine oil KK X0 d1_18 (x &&& (3 : Int32)) 19 rfl rfl ?_
      refine oic KK X0 d1_19 1 20 rfl rfl ?_
      by_cases hc20_3 : (x &&& (3 : Int32)) = (1 : Int32)
      · -- pc 20: (x &&& (3 : Int32)) = (1 : Int32) True
        refine oin KK X0 d1_20 23 rfl (teq hc20_3).2 ?_
        refine obi KK X0 d1_23 9 25 rfl rfl ?_
        refine fin (v := some (.int (nar .char (9 : Int32)))) X0 (fun h => by cases h) ?_ (by decide) (by decide) (fun fs hr => retN X0 hx (t := .char) hret (by simp) (hb hby d1_25) hr)
        show Q1 Z x h0 n0 (some (.int (nar .char (9 : Int32)))) s₁.heap _
        rw [e0]
        exact ⟨_, rfl, N0, rfl, own_narR _⟩
      · -- pc 20: (x &&& (3 : Int32)) = (1 : Int32) False
        refine oiy KK X0 d1_20 26 (feq hc20_3).2 (by decide) rfl ?_
        refine oil KK X0 d1_26 (x &&& (3 : Int32)) 27 rfl rfl ?_
        refine oic KK X0 d1_27 2 28 rfl rfl ?_
        by_cases hc28_4 : (x &&& (3 : Int32)) = (2 : Int32)
        · -- pc 28: (x &&& (3 : Int32)) = (2 : Int32) True
          refine oin KK X0 d1_28 31 rfl (teq hc28_4).2 ?_
          refine obi KK X0 d1_31 13 33 rfl rfl ?_
          refine fin (v := some (.int (nar .char (13 : Int32)))) X0 (fun h => by cases h) ?_ (by decide) (by decide) (fun fs hr => retN X0 hx (t := .char) hret (by simp) (hb hby d1_33) hr)
          show Q1 Z x h0 n0 (some (.int (nar .char (13 : Int32)))) s₁.heap _
          rw [e0]
          exact ⟨_, rfl, N0, rfl, own_narR _⟩
        · -- pc 28: (x &&& (3 : Int32)) = (2 : Int32) False
          refine oiy KK X0 d1_28 34 (feq hc28_4).2 (by decide) rfl ?_
          refine obi KK X0 d1_34 10 36 rfl rfl ?_
          refine fin (v := some (.int (nar .char (10 : Int32)))) X0 (fun h => by cases h) ?_ (by decide) (by decide) (fun fs hr => retN X0 hx (t := .char) hret (by simp) (hb hby d1_36) hr)
          show Q1 Z x h0 n0 (some (.int (nar .char (10 : Int32)))) s₁.heap _
          rw [e0]
          exact ⟨_, rfl, N0, rfl, own_narR _⟩
theorem d17_0 : decode method_2_code 0 = .ok (.iload_n 0, 1) := by decide +kernel
theorem d17_1 : decode method_2_code 1 = .ok (.bipush 32, 2) := by decide +kernel
theorem d17_3 : decode method_2_code 3 = .ok (.if_icmp .eq 21, 3) := by decide +kernel
theorem d17_6 : decode method_2_code 6 = .ok (.iload_n 0, 1) := by decide +kernel
theorem d17_7 : decode method_2_code 7 = .ok (.bipush 9, 2) := by decide +kernel
theorem d17_9 : decode method_2_code 9 = .ok (.if_icmp .eq 15, 3) := by decide +kernel
theorem d17_12 : decode method_2_code 12 = .ok (.iload_n 0, 1) := by decide +kernel
theorem d17_13 : decode method_2_code 13 = .ok (.bipush 13, 2) := by decide +kernel
theorem d17_15 : decode method_2_code 15 = .ok (.if_icmp .eq 9, 3) := by decide +kernel
theorem d17_18 : decode method_2_code 18 = .ok (.iload_n 0, 1) := by decide +kernel
theorem d17_19 : decode method_2_code 19 = .ok (.bipush 10, 2) := by decide +kernel
theorem d17_21 : decode method_2_code 21 = .ok (.if_icmp .ne 7, 3) := by decide +kernel
theorem d17_24 : decode method_2_code 24 = .ok (.iconst 1, 1) := by decide +kernel
theorem d17_25 : decode method_2_code 25 = .ok (.goto 4, 3) := by decide +kernel
theorem d17_28 : decode method_2_code 28 = .ok (.iconst 0, 1) := by decide +kernel
theorem d17_29 : decode method_2_code 29 = .ok (.ireturn, 1) := by decide +kernel
def Q17 (Z : State) (ci : Int32) (h0 : Heap) (n0 : Nat) (v : Option Value) (h : Heap) (L : List Loc) : Prop := v = some (.int (own_xs ci)) ∧ Fr n0 L ∧ h = h0
set_option maxRecDepth 65536 in
set_option maxHeartbeats 40000000 in
theorem rm17 (l : Launch) (Z : State) (a0 : Array Value) (hw : ∀ d ∈ tables_1, d.before a0 Z = true) (ws : List Jvm.Cond) (ci : Int32) (h0 : Heap) (n0 : Nat) (Z0 : n0 ≤ h0.size)  :
    OwnM l Z nM39 method_2_code 1 (some .boolean) ws ({ frames := 0, cells := 0, slots := 0, locals := 0 } : Room) #[(.int ci)] h0 (Q17 Z ci h0 n0) := by
  refine own_body (plainFor_of_name pn_6) ?_
  intro p e s m below meth c s₁ G hx hby hml hZ hown hnm hret X0 e0 step fin
  replace hown : s.vm.findClass "org/vouchsafe/DomTrimmedPinLaw" = some m.cls := hown
  have N0 := Fr.nil n0
  have KK : OwnK p e below c _ G := ⟨step, hx, hby⟩
  refine step (s₁.setTop (mkF m 0 #[vi ci] [])) (fun t k => castTop (ef_23 m ci) k) ?_
  refine oil KK X0 d17_0 ci 1 rfl rfl ?_
  refine obi KK X0 d17_1 32 3 rfl rfl ?_
  suffices J29_2 : ∀ (z29_1 : Int32), z29_1 = (if ci = (32 : Int32) then (1 : Int32) else (if ci = (9 : Int32) then (1 : Int32) else (if ci = (13 : Int32) then (1 : Int32) else (if ci = (10 : Int32) then (1 : Int32) else (0 : Int32))))) → G (s₁.setTop (mkF m 29 #[vi ci] [(.int z29_1)])) by
    by_cases hc3_3 : ci = (32 : Int32)
    · -- 3 True
      refine oiy KK X0 d17_3 24 (teq hc3_3).1 (by decide) rfl ?_
      refine oic KK X0 d17_24 1 25 rfl rfl ?_
      refine ogo KK X0 d17_25 29 (by decide) rfl ?_
      exact J29_2 _ (by simp only [if_pos hc3_3, if_true, if_false] <;> rfl)
    · -- 3 False
      refine oin KK X0 d17_3 6 rfl (feq hc3_3).1 ?_
      refine oil KK X0 d17_6 ci 7 rfl rfl ?_
      refine obi KK X0 d17_7 9 9 rfl rfl ?_
      by_cases hc9_4 : ci = (9 : Int32)
      · -- 9 True
        refine oiy KK X0 d17_9 24 (teq hc9_4).1 (by decide) rfl ?_
        refine oic KK X0 d17_24 1 25 rfl rfl ?_
        refine ogo KK X0 d17_25 29 (by decide) rfl ?_
        exact J29_2 _ (by simp only [if_neg hc3_3, if_pos hc9_4, if_true, if_false] <;> rfl)
      · -- 9 False
        refine oin KK X0 d17_9 12 rfl (feq hc9_4).1 ?_
        refine oil KK X0 d17_12 ci 13 rfl rfl ?_
        refine obi KK X0 d17_13 13 15 rfl rfl ?_
        by_cases hc15_5 : ci = (13 : Int32)
        · -- 15 True
          refine oiy KK X0 d17_15 24 (teq hc15_5).1 (by decide) rfl ?_
          refine oic KK X0 d17_24 1 25 rfl rfl ?_
          refine ogo KK X0 d17_25 29 (by decide) rfl ?_
          exact J29_2 _ (by simp only [if_neg hc3_3, if_neg hc9_4, if_pos hc15_5, if_true, if_false] <;> rfl)
        · -- 15 False
          refine oin KK X0 d17_15 18 rfl (feq hc15_5).1 ?_
          refine oil KK X0 d17_18 ci 19 rfl rfl ?_
          refine obi KK X0 d17_19 10 21 rfl rfl ?_
          by_cases hc21_6 : ci = (10 : Int32)
          · -- 21 True
            refine oin KK X0 d17_21 24 rfl (teq hc21_6).2 ?_
            refine oic KK X0 d17_24 1 25 rfl rfl ?_
            refine ogo KK X0 d17_25 29 (by decide) rfl ?_
            exact J29_2 _ (by simp only [if_neg hc3_3, if_neg hc9_4, if_neg hc15_5, if_pos hc21_6, if_true, if_false] <;> rfl)
          · -- 21 False
            refine oiy KK X0 d17_21 28 (feq hc21_6).2 (by decide) rfl ?_
            refine oic KK X0 d17_28 0 29 rfl rfl ?_
            exact J29_2 _ (by simp only [if_neg hc3_3, if_neg hc9_4, if_neg hc15_5, if_neg hc21_6, if_true, if_false] <;> rfl)
  intro z29_1 hz29_1
  refine fin (v := some (.int (nar .boolean z29_1))) X0 (fun h => by cases h) ?_ (by decide) (by decide) (fun fs hr => retN X0 hx (t := .boolean) hret (by simp) (hb hby d17_29) hr)
  show Q17 Z ci h0 n0 (some (.int (nar .boolean z29_1))) s₁.heap _
  rw [e0]
  exact ⟨congrArg (fun z => some (Value.int z)) (by rw [hz29_1]; unfold own_xs; (repeat' split) <;> rfl), N0, rfl⟩
theorem d13_0 : decode method_5_code 0 = .ok (.iload_n 1, 1) := by decide +kernel
theorem d13_1 : decode method_5_code 1 = .ok (.aload_n 0, 1) := by decide +kernel
theorem d13_2 : decode method_5_code 2 = .ok (.invokevirtual 13, 3) := by decide +kernel
theorem d13_5 : decode method_5_code 5 = .ok (.if_icmp .ge 16, 3) := by decide +kernel
theorem d13_8 : decode method_5_code 8 = .ok (.aload_n 0, 1) := by decide +kernel
theorem d13_9 : decode method_5_code 9 = .ok (.iload_n 1, 1) := by decide +kernel
theorem d13_10 : decode method_5_code 10 = .ok (.invokevirtual 17, 3) := by decide +kernel
theorem d13_13 : decode method_5_code 13 = .ok (.aload_n 2, 1) := by decide +kernel
theorem d13_14 : decode method_5_code 14 = .ok (.iload_n 3, 1) := by decide +kernel
theorem d13_15 : decode method_5_code 15 = .ok (.iload_n 1, 1) := by decide +kernel
theorem d13_16 : decode method_5_code 16 = .ok (.iadd, 1) := by decide +kernel
theorem d13_17 : decode method_5_code 17 = .ok (.caload, 1) := by decide +kernel
theorem d13_18 : decode method_5_code 18 = .ok (.if_icmp .ne 7, 3) := by decide +kernel
theorem d13_21 : decode method_5_code 21 = .ok (.iconst 1, 1) := by decide +kernel
theorem d13_22 : decode method_5_code 22 = .ok (.goto 4, 3) := by decide +kernel
theorem d13_25 : decode method_5_code 25 = .ok (.iconst 0, 1) := by decide +kernel
theorem d13_26 : decode method_5_code 26 = .ok (.ireturn, 1) := by decide +kernel
theorem ef_13 (m : MethodId) (x0 : Addr) (x1 : Int32) (x2 : Addr) (x3 : Int32) : entryFrame m #[(.ref x0), (.int x1), (.ref x2), (.int x3)] 4 = mkF m 0 #[.val (.ref x0), .val (.int x1), .val (.ref x2), .val (.int x3)] [] := by first | (simp [entryFrame, mkF, argsToLocals, Value.category]; done) | rfl
def Q13 (Z : State) (o1 ob : Addr) (kb : ClassId) (xs : List Int32) (n co N : Int32) (bs : List Int32) (oa : Addr) (ka : ClassId) (ys : List Int32) (i ff : Int32) (cs : Int32) (fo : Value) (h0 : Heap) (n0 : Nat) (v : Option Value) (h : Heap) (L : List Loc) : Prop := v = some (.int 1) ∧ Fr n0 L ∧ h = h0
set_option maxRecDepth 65536 in
set_option maxHeartbeats 40000000 in
theorem rm13 (l : Launch) (Z : State) (a0 : Array Value) (hw : ∀ d ∈ tables_1, d.before a0 Z = true) (ws : List Jvm.Cond) (o1 ob : Addr) (kb : ClassId) (xs : List Int32) (n co N : Int32) (bs : List Int32) (oa : Addr) (ka : ClassId) (ys : List Int32) (i ff : Int32) (cs : Int32) (fo : Value) (h0 : Heap) (n0 : Nat) (Z0 : n0 ≤ h0.size) (Ea : Exa Z h0 o1 "java/lang/String") (Fc : Fld Z h0 o1 "java/lang/String" "coder" "B" (.int co)) (Fv : Fld Z h0 o1 "java/lang/String" "value" "[B" (.ref ob)) (Vb : Arv Z h0 ob kb .byte N (List.map Value.int bs) (.int 0)) (hOS : OS xs n co N bs) (Va : Arv Z h0 oa ka .char (5 : Int32) (List.map Value.int ys) (.int 0)) (hi0 : ¬ (i < (0 : Int32))) (hsm : i < n → ¬ ((ff + i) < (0 : Int32)) ∧ (ff + i) < (5 : Int32) ∧ (List.getD xs (i).toNatClampNeg (0 : Int32)) = (List.getD ys ((ff + i)).toNatClampNeg (0 : Int32))) (S_cs : Sta Z h0 "java/lang/String" "COMPACT_STRINGS" "Z" (.int cs)) (c_cs : ¬ (cs = (0 : Int32))) (S_fo : Sta Z h0 "jdk/internal/util/Preconditions" "SIOOBE_FORMATTER" "Ljava/util/function/BiFunction;" fo) (r_fo : Value.isRef fo = true) (S_ad : Sta Z h0 "java/lang/StringUTF16" "$assertionsDisabled" "Z" (.int 1)) (S_hi : Sta Z h0 "java/lang/StringUTF16" "HI_BYTE_SHIFT" "I" (.int 0)) (S_lo : Sta Z h0 "java/lang/StringUTF16" "LO_BYTE_SHIFT" "I" (.int 8)) :
    OwnM l Z nM40 method_5_code 4 (some .boolean) ws ({ frames := 5, cells := 0, slots := 0, locals := 66 } : Room) #[(.ref o1), (.int i), (.ref oa), (.int ff)] h0 (Q13 Z o1 ob kb xs n co N bs oa ka ys i ff cs fo h0 n0) := by
  refine own_body (plainFor_of_name pn_6) ?_
  intro p e s m below meth c s₁ G hx hby hml hZ hown hnm hret X0 e0 step fin
  replace hown : s.vm.findClass "org/vouchsafe/DomTrimmedPinLaw" = some m.cls := hown
  have N0 := Fr.nil n0
  have KK : OwnK p e below c _ G := ⟨step, hx, hby⟩
  refine step (s₁.setTop (mkF m 0 #[vr o1, vi i, vr oa, vi ff] [])) (fun t k => castTop (ef_13 m o1 i oa ff) k) ?_
  refine oil KK X0 d13_0 i 1 rfl rfl ?_
  refine oal KK X0 d13_1 (.ref o1) 2 rfl rfl rfl ?_
  obtain ⟨cq1, kq1, q1a, q1b, q1c⟩ := isOf hZ e0 Ea
  obtain ⟨_, _, ⟨T1, L1, k1, n1⟩, -, X1, ⟨Lc1, hQ1, l1, y1, z1⟩, st1⟩ := X0.virtualBack hx (y := nM10) (z := nM10) hown (mvT hZ (ow hw 63 rfl)) (mvT hZ (ow hw 39 rfl)) (notFace_of_selects (args := #[]) (mvT hZ (ow hw 41 rfl))) (mvT hZ (ow hw 41 rfl)) (mvT hZ (ow hw 40 rfl)) (by decide) (backOf (W := 1) (rm8 l Z a0 hw [] o1 ob kb xs n co N bs cs fo h0 n0 Z0 Ea Fc Fv Vb hOS S_cs c_cs S_fo r_fo S_ad S_hi S_lo) hZ (ow hw 42 rfl) (ow hw 11 rfl) (by decide) (by decide)) q1a q1c (g := (mkF m 2 #[vr o1, vi i, vr oa, vi ff] [(.ref o1), (.int i)])) rfl (by rw [hml]; rfl) (Steps.refl _) (argsL := []) (rest := [(.int i)]) (lenOf pd_18 rfl) rfl (omw rfl rfl) (hb hby d13_2) (fun _ _ => ⟨rfl, e0, (by decide : 0 + 0 ≤ _), (by decide : 0 + 0 ≤ _)⟩)
  dsimp only [Pt.U, Pt.locs, Pt.cells, Pt.slots] at X1 l1 y1 z1 st1 hQ1
  subst l1 y1 z1
  obtain ⟨rfl, N1q, e1q⟩ := hQ1
  have N1 := Fr.app N0 N1q
  refine step (T1.setTop (mkF m 5 #[vr o1, vi i, vr oa, vi ff] [(.int n), (.int i)])) (fun t k => st1.trans k) ?_
  by_cases hc5_2 : i < n
  · -- pc 5: i < n True
    refine oin KK X1 d13_5 8 rfl (tlt hc5_2).2.1 ?_
    obtain ⟨sm1, sm2, sm3⟩ := hsm hc5_2
    refine oal KK X1 d13_8 (.ref o1) 9 rfl rfl rfl ?_
    refine oil KK X1 d13_9 i 10 rfl rfl ?_
    obtain ⟨cq3, kq3, q3a, q3b, q3c⟩ := isOf hZ e1q Ea
    obtain ⟨_, _, ⟨T3, L3, k3, n3⟩, -, X3, ⟨Lc3, hQ3, l3, y3, z3⟩, st3⟩ := X1.virtualBack hx (y := nM8) (z := nM8) hown (mvT hZ (ow hw 127 rfl)) (mvT hZ (ow hw 81 rfl)) (notFace_of_selects (args := #[]) (mvT hZ (ow hw 83 rfl))) (mvT hZ (ow hw 83 rfl)) (mvT hZ (ow hw 82 rfl)) (by decide) (backOf (W := 0) (rm18 l Z a0 hw [] o1 ob kb xs n co N bs i cs fo h0 n0 Z0 Ea Fc Fv Vb hOS hi0 hc5_2 S_cs c_cs S_fo r_fo S_ad S_hi S_lo) hZ (ow hw 84 rfl) (ow hw 11 rfl) (by decide) (by decide)) q3a q3c (g := (mkF m 10 #[vr o1, vi i, vr oa, vi ff] [(.int i), (.ref o1)])) rfl (by rw [hml]; rfl) (Steps.refl _) (argsL := [(.int i)]) (rest := []) (lenOf pd_21 rfl) rfl (omw rfl rfl) (hb hby d13_10) (fun _ _ => ⟨rfl, e1q, (by decide : 0 + 0 ≤ _), (by decide : 0 + 0 ≤ _)⟩)
    dsimp only [Pt.U, Pt.locs, Pt.cells, Pt.slots] at X3 l3 y3 z3 st3 hQ3
    subst l3 y3 z3
    obtain ⟨rfl, N3q, e3q⟩ := hQ3
    have N3 := Fr.app N1 N3q
    refine step (T3.setTop (mkF m 13 #[vr o1, vi i, vr oa, vi ff] [(.int (List.getD xs (i).toNatClampNeg (0 : Int32)))])) (fun t k => st3.trans k) ?_
    refine oal KK X3 d13_13 (.ref oa) 14 rfl rfl rfl ?_
    refine oil KK X3 d13_14 ff 15 rfl rfl ?_
    refine oil KK X3 d13_15 i 16 rfl rfl ?_
    refine step (T3.setTop (mkF m 17 #[vr o1, vi i, vr oa, vi ff] [(.int (ff + i)), (.ref oa), (.int (List.getD xs (i).toNatClampNeg (0 : Int32)))])) (fun t k => XS.iadd X3.here hx rfl (hb hby d13_16) rfl k) ?_
    obtain ⟨cl4, Ar4, q4, S4, N4n, H4, G4⟩ := id Va
    have hin4 : ¬ ((ff + i) < 0 ∨ cl4.slots.size ≤ ((ff + i)).toNatClampNeg) := inb_of S4 ⟨sm1, sm2⟩
    have hat4 : cl4.slots[((ff + i)).toNatClampNeg]? = some (.int (List.getD ys ((ff + i)).toNatClampNeg (0 : Int32))) := H4.at hin4 (own_getD ys _ _)
    refine step (T3.setTop (mkF m 18 #[vr o1, vi i, vr oa, vi ff] [(.int (List.getD ys ((ff + i)).toNatClampNeg (0 : Int32))), (.int (List.getD xs (i).toNatClampNeg (0 : Int32)))])) (fun t k => X3.caload hx (j := (ff + i)) (v := (.int (List.getD ys ((ff + i)).toNatClampNeg (0 : Int32)))) (by rw [e3q]; exact Ar4.1) (State.isArrayOf_alike hZ.alike Ar4.2.1) Ar4.2.2 hin4 hat4 (g := (mkF m 17 #[vr o1, vi i, vr oa, vi ff] [(.int (ff + i)), (.ref oa), (.int (List.getD xs (i).toNatClampNeg (0 : Int32)))])) rfl rfl (hb hby d13_17) t k) ?_
    have hc18_5 : (List.getD xs (i).toNatClampNeg (0 : Int32)) = (List.getD ys ((ff + i)).toNatClampNeg (0 : Int32)) := sm3
    refine oin KK X3 d13_18 21 rfl (teq hc18_5).2 ?_
    refine oic KK X3 d13_21 1 22 rfl rfl ?_
    refine ogo KK X3 d13_22 26 (by decide) rfl ?_
    refine fin (v := some (.int (nar .boolean (1 : Int32)))) X3 (fun h => by cases h) ?_ (by decide) (by decide) (fun fs hr => retN X3 hx (t := .boolean) hret (by simp) (hb hby d13_26) hr)
    show Q13 Z o1 ob kb xs n co N bs oa ka ys i ff cs fo h0 n0 (some (.int (nar .boolean (1 : Int32)))) T3.heap _
    rw [e3q]
    exact ⟨own_fin rfl, N3, rfl⟩
  · -- pc 5: i < n False
    refine oiy KK X1 d13_5 21 (flt hc5_2).2.1 (by decide) rfl ?_
    refine oic KK X1 d13_21 1 22 rfl rfl ?_
    refine ogo KK X1 d13_22 26 (by decide) rfl ?_
    refine fin (v := some (.int (nar .boolean (1 : Int32)))) X1 (fun h => by cases h) ?_ (by decide) (by decide) (fun fs hr => retN X1 hx (t := .boolean) hret (by simp) (hb hby d13_26) hr)
    show Q13 Z o1 ob kb xs n co N bs oa ka ys i ff cs fo h0 n0 (some (.int (nar .boolean (1 : Int32)))) T1.heap _
    rw [e1q]
    exact ⟨own_fin rfl, N1, rfl⟩
theorem pd_30 : parseMethodDescriptor "(I[C)Ljava/lang/String;" = some ⟨[.int, (.array .char)], some (.object "java/lang/String")⟩ := by decide +kernel
theorem pd_31 : parseMethodDescriptor "(Ljava/lang/String;)Ljava/lang/String;" = some ⟨[(.object "java/lang/String")], some (.object "java/lang/String")⟩ := by decide +kernel
theorem pd_32 : parseMethodDescriptor "(Ljava/lang/String;I[CI)Z" = some ⟨[(.object "java/lang/String"), .int, (.array .char), .int], some .boolean⟩ := by decide +kernel
theorem d6_0 : decode jdk_29_method_65_code 0 = .ok (.iload_n 0, 1) := by decide +kernel
theorem d6_1 : decode jdk_29_method_65_code 1 = .ok (.iload_n 1, 1) := by decide +kernel
theorem d6_2 : decode jdk_29_method_65_code 2 = .ok (.if_icmp .lt 7, 3) := by decide +kernel
theorem d6_5 : decode jdk_29_method_65_code 5 = .ok (.iload_n 0, 1) := by decide +kernel
theorem d6_6 : decode jdk_29_method_65_code 6 = .ok (.goto 4, 3) := by decide +kernel
theorem d6_9 : decode jdk_29_method_65_code 9 = .ok (.iload_n 1, 1) := by decide +kernel
theorem d6_10 : decode jdk_29_method_65_code 10 = .ok (.ireturn, 1) := by decide +kernel
theorem ef_6_25 (m : MethodId) (x0 : Int32) : entryFrame m #[(.int x0), (.int 0)] 2 = mkF m 0 #[.val (.int x0), .val (.int 0)] [] := by first | (simp [entryFrame, mkF, argsToLocals, Value.category]; done) | rfl
def Q6_25 (Z : State) (i1 : Int32) (h0 : Heap) (n0 : Nat) (v : Option Value) (h : Heap) (L : List Loc) : Prop := ∃ (z10_1 : Int32), v = some (.int z10_1) ∧ Fr n0 L ∧ h = h0 ∧ z10_1 = (if i1 < (0 : Int32) then (0 : Int32) else i1)
set_option maxRecDepth 65536 in
set_option maxHeartbeats 40000000 in
theorem rm6_25 (l : Launch) (Z : State) (a0 : Array Value) (hw : ∀ d ∈ tables_1, d.before a0 Z = true) (ws : List Jvm.Cond) (i1 : Int32) (h0 : Heap) (n0 : Nat) (Z0 : n0 ≤ h0.size)  :
    OwnM l Z nM41 jdk_29_method_65_code 2 (some .int) ws ({ frames := 0, cells := 0, slots := 0, locals := 0 } : Room) #[(.int i1), (.int 0)] h0 (Q6_25 Z i1 h0 n0) := by
  refine own_body (Jvm.Free.JP.mathPlain rfl (by decide +kernel)) ?_
  intro p e s m below meth c s₁ G hx hby hml hZ hown hnm hret X0 e0 step fin
  replace hown : s.vm.findClass "java/lang/Math" = some m.cls := hown
  have N0 := Fr.nil n0
  have KK : OwnK p e below c _ G := ⟨step, hx, hby⟩
  refine step (s₁.setTop (mkF m 0 #[vi i1, vi 0] [])) (fun t k => castTop (ef_6_25 m i1) k) ?_
  refine oil KK X0 d6_0 i1 1 rfl rfl ?_
  refine oil KK X0 d6_1 (0 : Int32) 2 rfl rfl ?_
  suffices J10_2 : ∀ (z10_1 : Int32), z10_1 = (if i1 < (0 : Int32) then (0 : Int32) else i1) → G (s₁.setTop (mkF m 10 #[vi i1, vi 0] [(.int z10_1)])) by
    by_cases hc2_3 : i1 < (0 : Int32)
    · -- 2 True
      refine oiy KK X0 d6_2 9 (tlt hc2_3).1 (by decide) rfl ?_
      refine oil KK X0 d6_9 (0 : Int32) 10 rfl rfl ?_
      exact J10_2 _ (by simp only [if_pos hc2_3, if_true, if_false] <;> rfl)
    · -- 2 False
      refine oin KK X0 d6_2 5 rfl (flt hc2_3).1 ?_
      refine oil KK X0 d6_5 i1 6 rfl rfl ?_
      refine ogo KK X0 d6_6 10 (by decide) rfl ?_
      exact J10_2 _ (by simp only [if_neg hc2_3, if_true, if_false] <;> rfl)
  intro z10_1 hz10_1
  refine fin (v := some (.int z10_1)) X0 (fun h => by cases h) ?_ (by decide) (by decide) (fun fs hr => retI X0 hx hret (hb hby d6_10) hr)
  show Q6_25 Z i1 h0 n0 (some (.int z10_1)) s₁.heap _
  rw [e0]
  exact ⟨z10_1, rfl, N0, rfl, hz10_1⟩
theorem ef_0 (m : MethodId) (x0 : Int32) (x1 : Int32) (x2 : Int32) (x3 : Int32) (x4 : Int32) (x5 : Int32) : entryFrame m #[(.int x0), (.int x1), (.int x2), (.int x3), (.int x4), (.int x5)] maxLocals = mkF m 0 #[.val (.int x0), .val (.int x1), .val (.int x2), .val (.int x3), .val (.int x4), .val (.int x5), .unset, .unset, .unset, .unset, .unset, .unset, .unset] [] := by first | (simp [entryFrame, mkF, argsToLocals, Value.category, maxLocals]; done) | rfl
def Q0 (Z : State) (p0 p1 p2 p3 p4 p5 : Int32) (cs : Int32) (fo : Value) (h0 : Heap) (n0 : Nat) (v : Option Value) (h : Heap) (L : List Loc) : Prop := v = some (.int 1) ∧ Fr n0 L
set_option maxRecDepth 65536 in
set_option maxHeartbeats 40000000 in
theorem rm0 (l : Launch) (Z : State) (a0 : Array Value) (hw : ∀ d ∈ tables_1, d.before a0 Z = true) (ws : List Jvm.Cond) (p0 p1 p2 p3 p4 p5 : Int32) (cs : Int32) (fo : Value) (h0 : Heap) (n0 : Nat) (Z0 : n0 ≤ h0.size) (S_cs : Sta Z h0 "java/lang/String" "COMPACT_STRINGS" "Z" (.int cs)) (c_cs : ¬ (cs = (0 : Int32))) (S_fo : Sta Z h0 "jdk/internal/util/Preconditions" "SIOOBE_FORMATTER" "Ljava/util/function/BiFunction;" fo) (r_fo : Value.isRef fo = true) (S_ad : Sta Z h0 "java/lang/StringUTF16" "$assertionsDisabled" "Z" (.int 1)) (S_hi : Sta Z h0 "java/lang/StringUTF16" "HI_BYTE_SHIFT" "I" (.int 0)) (S_lo : Sta Z h0 "java/lang/StringUTF16" "LO_BYTE_SHIFT" "I" (.int 8)) :
    MetFree l x (head1 (Jvm.Cond.code x code maxLocals ret :: ws) room_1) (fun a U => a = #[(.int p0), (.int p1), (.int p2), (.int p3), (.int p4), (.int p5)] ∧ Z.Warmed39 U.vm ∧ U.heap = h0 ∧ CHv Z own_EL U.vm h0) (fun _ _ _ _ _ => True) (fun _ U o U' => ∃ v L, o = .returned v ∧ Q0 Z p0 p1 p2 p3 p4 p5 cs fo h0 n0 v U'.heap L ∧ CHr Z own_EL U.vm U.heap U'.vm U'.heap ∧ ReturnedEndW U o U' L room_1.cells room_1.slots) := by
  refine own_bodyH (own_EWs hw) (plainFor_of_name pn_6) ?_
  intro p e s m below meth c s₁ G vm0 k0 hx hby hml hZ hown hnm hret hS hk hCH0 X0 e0 step fin
  replace hown : vm0.findClass "org/vouchsafe/DomTrimmedPinLaw" = some m.cls := hown
  replace hnm : meth.name = "law" := hnm
  replace hret : meth.sig.returnType = some .boolean := hret
  replace hml : c.maxLocals = 13 := hml
  have N0 := Fr.nil n0
  have KK : OwnK p e below c _ G := ⟨step, hx, hby⟩
  have C0 := CHr.refl hCH0
  refine step (s₁.setTop (mkF m 0 #[vi p0, vi p1, vi p2, vi p3, vi p4, vi p5, .unset, .unset, .unset, .unset, .unset, .unset, .unset] [])) (fun t k => castTop (ef_0 m p0 p1 p2 p3 p4 p5) k) ?_
  refine oil KK X0 at_0 p0 1 rfl rfl ?_
  refine obi KK X0 at_1 7 3 rfl rfl ?_
  refine step (s₁.setTop (mkF m 4 #[vi p0, vi p1, vi p2, vi p3, vi p4, vi p5, .unset, .unset, .unset, .unset, .unset, .unset, .unset] [(.int (p0 &&& (7 : Int32)))])) (fun t k => XS.iand X0.here hx rfl (hb hby at_3) rfl k) ?_
  refine obi KK X0 at_4 6 6 rfl rfl ?_
  refine step (s₁.setTop (mkF m 7 #[vi p0, vi p1, vi p2, vi p3, vi p4, vi p5, .unset, .unset, .unset, .unset, .unset, .unset, .unset] [(.int ((p0 &&& (7 : Int32)) % (6 : Int32)))])) (fun t k => iremM X0 hx rfl (hb hby at_6) rfl (by decide) k) ?_
  generalize hn : ((p0 &&& (7 : Int32)) % (6 : Int32)) = n
  have hn6 := own_n6 p0
  rw [hn] at hn6
  obtain ⟨hn0, hn5⟩ := own_n6r hn6
  refine oiS KK X0 at_7 #[vi p0, vi p1, vi p2, vi p3, vi p4, vi p5, vi n, .unset, .unset, .unset, .unset, .unset, .unset] 9 rfl rfl ?_
  refine oic KK X0 at_9 5 10 rfl rfl ?_
  obtain ⟨T1, h1, k1, X1, e1, E1, A1, st1⟩ := newP X0 hx hZ (ow hw 0 rfl) e0 (g := (mkF m 10 #[vi p0, vi p1, vi p2, vi p3, vi p4, vi p5, vi n, .unset, .unset, .unset, .unset, .unset, .unset] [(.int 5)])) rfl (hb hby at_10) rfl (by decide) (cap := 5) (by decide) (by decide) (by decide) (by decide)
  obtain ⟨b1, g1⟩ : ∃ z, z = h0.size := ⟨_, rfl⟩
  rw [← g1] at A1 st1
  have gn_b1 : n0 ≤ b1 := Nat.le_trans Z0 (Nat.le_of_eq g1.symm)
  have sz_b1 : h0.size ≤ b1 := Nat.le_of_eq g1.symm
  have Sf1_b1 : Safe Z own_EL vm0 h0 b1 := Safe.new (Nat.le_of_eq g1.symm)
  have K1 : Keep h0 h1 [] := (Keep.refl h0 []).ext E1
  have V1 : Arv Z h1 b1 k1 .char (5 : Int32) [(.int 0), (.int 0), (.int 0), (.int 0), (.int 0)] (.int 0) := (Arv.new A1 (by decide)).pad (pad_rep [] (.int 0) 5)
  refine step (T1.setTop (mkF m 12 #[vi p0, vi p1, vi p2, vi p3, vi p4, vi p5, vi n, .unset, .unset, .unset, .unset, .unset, .unset] [(.ref b1)])) (fun t k => st1 t k) ?_
  refine odu KK X1 at_12 13 rfl rfl ?_
  refine oic KK X1 at_13 0 14 rfl rfl ?_
  refine oil KK X1 at_14 p1 15 rfl rfl ?_
  have C3 := C0.trans (CHr.ext E1 C0.1)
  have Sf3_b1 := Safe.ext E1 C0.1 Sf1_b1
  obtain ⟨_, _, ⟨T2, L2, k2, n2⟩, -, X2, ⟨Lc2, hQ2, l2, y2, z2⟩, st2⟩ := Jvm.LawKit.callS X1 hx (y := nM38) hown (mvT hZ (ow hw 1 rfl)) (mvT hZ (ow hw 2 rfl)) (mvT hZ (ow hw 3 rfl)) (mvT hZ (ow hw 4 rfl)) (by decide) (backOf (W := 3) (rm1 l Z a0 hw [] p1 h1 n0 (Nat.le_trans Z0 K1.1)) hZ (ow hw 4 rfl) (ow hw 3 rfl) (by decide) (by decide)) (g := (mkF m 15 #[vi p0, vi p1, vi p2, vi p3, vi p4, vi p5, vi n, .unset, .unset, .unset, .unset, .unset, .unset] [(.int p1), (.int 0), (.ref b1), (.ref b1)])) rfl (by rw [hml]; rfl) (argsL := [(.int p1)]) (rest := [(.int 0), (.ref b1), (.ref b1)]) (lenOf pd_21 rfl) rfl (omw rfl rfl) (hb hby at_15) (fun _ _ => ⟨rfl, e1, (by decide : 1 + 0 ≤ _), (by decide : 5 + 0 ≤ _)⟩)
  dsimp only [Pt.U, Pt.locs, Pt.cells, Pt.slots] at X2 l2 y2 z2 st2 hQ2
  subst l2 y2 z2
  obtain ⟨cc2, rfl, N2q, e2q, hcc2⟩ := hQ2
  have N2 := Fr.app N0 N2q
  refine step (T2.setTop (mkF m 18 #[vi p0, vi p1, vi p2, vi p3, vi p4, vi p5, vi n, .unset, .unset, .unset, .unset, .unset, .unset] [(.int cc2), (.int 0), (.ref b1), (.ref b1)])) (fun t k => st2 t k) ?_
  obtain ⟨cl4, Ar4, q4, S4, N4n, H4, G4⟩ := id V1
  have hin4 : ¬ ((0 : Int32) < 0 ∨ cl4.slots.size ≤ ((0 : Int32)).toNatClampNeg) := inb_of S4 ⟨by decide, by decide⟩
  obtain ⟨T4, h4, X4, e4, W4, st4⟩ := stC X2 hx hZ e2q Ar4 (j := (0 : Int32)) hin4 (g := (mkF m 18 #[vi p0, vi p1, vi p2, vi p3, vi p4, vi p5, vi n, .unset, .unset, .unset, .unset, .unset, .unset] [(.int cc2), (.int 0), (.ref b1), (.ref b1)])) rfl rfl (hb hby at_18)
  have N4 := Fr.snoc X4 N2 gn_b1
  have K4 : Keep h0 h4 [] := K1.wr W4 (Or.inr sz_b1)
  have V4 : Arv Z h4 b1 k1 .char (5 : Int32) [(.int (nar .char cc2)), (.int 0), (.int 0), (.int 0), (.int 0)] (.int 0) := Arv.set Ar4 q4 S4 N4n H4 G4 (fits_nar_char cc2) W4 0 rfl (Nat.le_of_ble_eq_true rfl)
  refine step (T4.setTop (mkF m 19 #[vi p0, vi p1, vi p2, vi p3, vi p4, vi p5, vi n, .unset, .unset, .unset, .unset, .unset, .unset] [(.ref b1)])) (fun t k => st4 t k) ?_
  refine odu KK X4 at_19 20 rfl rfl ?_
  refine oic KK X4 at_20 1 21 rfl rfl ?_
  refine oil KK X4 at_21 p2 22 rfl rfl ?_
  have C6 := C3.trans (CHr.wr W4 Sf3_b1 C3.1)
  have Sf6_b1 := Safe.wr W4 Sf3_b1 C3.1 Sf3_b1
  obtain ⟨_, _, ⟨T5, L5, k5, n5⟩, -, X5, ⟨Lc5, hQ5, l5, y5, z5⟩, st5⟩ := Jvm.LawKit.callS X4 hx (y := nM38) hown (mvT hZ (ow hw 1 rfl)) (mvT hZ (ow hw 2 rfl)) (mvT hZ (ow hw 3 rfl)) (mvT hZ (ow hw 4 rfl)) (by decide) (backOf (W := 3) (rm1 l Z a0 hw [] p2 h4 n0 (Nat.le_trans Z0 K4.1)) hZ (ow hw 4 rfl) (ow hw 3 rfl) (by decide) (by decide)) (g := (mkF m 22 #[vi p0, vi p1, vi p2, vi p3, vi p4, vi p5, vi n, .unset, .unset, .unset, .unset, .unset, .unset] [(.int p2), (.int 1), (.ref b1), (.ref b1)])) rfl (by rw [hml]; rfl) (argsL := [(.int p2)]) (rest := [(.int 1), (.ref b1), (.ref b1)]) (lenOf pd_21 rfl) rfl (omw rfl rfl) (hb hby at_22) (fun _ _ => ⟨rfl, e4, (by decide : 1 + 0 ≤ _), (by decide : 5 + 0 ≤ _)⟩)
  dsimp only [Pt.U, Pt.locs, Pt.cells, Pt.slots] at X5 l5 y5 z5 st5 hQ5
  subst l5 y5 z5
  obtain ⟨cc5, rfl, N5q, e5q, hcc5⟩ := hQ5
  have N5 := Fr.app N4 N5q
  refine step (T5.setTop (mkF m 25 #[vi p0, vi p1, vi p2, vi p3, vi p4, vi p5, vi n, .unset, .unset, .unset, .unset, .unset, .unset] [(.int cc5), (.int 1), (.ref b1), (.ref b1)])) (fun t k => st5 t k) ?_
  obtain ⟨cl7, Ar7, q7, S7, N7n, H7, G7⟩ := id V4
  have hin7 : ¬ ((1 : Int32) < 0 ∨ cl7.slots.size ≤ ((1 : Int32)).toNatClampNeg) := inb_of S7 ⟨by decide, by decide⟩
  obtain ⟨T7, h7, X7, e7, W7, st7⟩ := stC X5 hx hZ e5q Ar7 (j := (1 : Int32)) hin7 (g := (mkF m 25 #[vi p0, vi p1, vi p2, vi p3, vi p4, vi p5, vi n, .unset, .unset, .unset, .unset, .unset, .unset] [(.int cc5), (.int 1), (.ref b1), (.ref b1)])) rfl rfl (hb hby at_25)
  have N7 := Fr.snoc X7 N5 gn_b1
  have K7 : Keep h0 h7 [] := K4.wr W7 (Or.inr sz_b1)
  have V7 : Arv Z h7 b1 k1 .char (5 : Int32) [(.int (nar .char cc2)), (.int (nar .char cc5)), (.int 0), (.int 0), (.int 0)] (.int 0) := Arv.set Ar7 q7 S7 N7n H7 G7 (fits_nar_char cc5) W7 1 rfl (Nat.le_of_ble_eq_true rfl)
  refine step (T7.setTop (mkF m 26 #[vi p0, vi p1, vi p2, vi p3, vi p4, vi p5, vi n, .unset, .unset, .unset, .unset, .unset, .unset] [(.ref b1)])) (fun t k => st7 t k) ?_
  refine odu KK X7 at_26 27 rfl rfl ?_
  refine oic KK X7 at_27 2 28 rfl rfl ?_
  refine oil KK X7 at_28 p3 29 rfl rfl ?_
  have C9 := C6.trans (CHr.wr W7 Sf6_b1 C6.1)
  have Sf9_b1 := Safe.wr W7 Sf6_b1 C6.1 Sf6_b1
  obtain ⟨_, _, ⟨T8, L8, k8, n8⟩, -, X8, ⟨Lc8, hQ8, l8, y8, z8⟩, st8⟩ := Jvm.LawKit.callS X7 hx (y := nM38) hown (mvT hZ (ow hw 1 rfl)) (mvT hZ (ow hw 2 rfl)) (mvT hZ (ow hw 3 rfl)) (mvT hZ (ow hw 4 rfl)) (by decide) (backOf (W := 3) (rm1 l Z a0 hw [] p3 h7 n0 (Nat.le_trans Z0 K7.1)) hZ (ow hw 4 rfl) (ow hw 3 rfl) (by decide) (by decide)) (g := (mkF m 29 #[vi p0, vi p1, vi p2, vi p3, vi p4, vi p5, vi n, .unset, .unset, .unset, .unset, .unset, .unset] [(.int p3), (.int 2), (.ref b1), (.ref b1)])) rfl (by rw [hml]; rfl) (argsL := [(.int p3)]) (rest := [(.int 2), (.ref b1), (.ref b1)]) (lenOf pd_21 rfl) rfl (omw rfl rfl) (hb hby at_29) (fun _ _ => ⟨rfl, e7, (by decide : 1 + 0 ≤ _), (by decide : 5 + 0 ≤ _)⟩)
  dsimp only [Pt.U, Pt.locs, Pt.cells, Pt.slots] at X8 l8 y8 z8 st8 hQ8
  subst l8 y8 z8
  obtain ⟨cc8, rfl, N8q, e8q, hcc8⟩ := hQ8
  have N8 := Fr.app N7 N8q
  refine step (T8.setTop (mkF m 32 #[vi p0, vi p1, vi p2, vi p3, vi p4, vi p5, vi n, .unset, .unset, .unset, .unset, .unset, .unset] [(.int cc8), (.int 2), (.ref b1), (.ref b1)])) (fun t k => st8 t k) ?_
  obtain ⟨cl10, Ar10, q10, S10, N10n, H10, G10⟩ := id V7
  have hin10 : ¬ ((2 : Int32) < 0 ∨ cl10.slots.size ≤ ((2 : Int32)).toNatClampNeg) := inb_of S10 ⟨by decide, by decide⟩
  obtain ⟨T10, h10, X10, e10, W10, st10⟩ := stC X8 hx hZ e8q Ar10 (j := (2 : Int32)) hin10 (g := (mkF m 32 #[vi p0, vi p1, vi p2, vi p3, vi p4, vi p5, vi n, .unset, .unset, .unset, .unset, .unset, .unset] [(.int cc8), (.int 2), (.ref b1), (.ref b1)])) rfl rfl (hb hby at_32)
  have N10 := Fr.snoc X10 N8 gn_b1
  have K10 : Keep h0 h10 [] := K7.wr W10 (Or.inr sz_b1)
  have V10 : Arv Z h10 b1 k1 .char (5 : Int32) [(.int (nar .char cc2)), (.int (nar .char cc5)), (.int (nar .char cc8)), (.int 0), (.int 0)] (.int 0) := Arv.set Ar10 q10 S10 N10n H10 G10 (fits_nar_char cc8) W10 2 rfl (Nat.le_of_ble_eq_true rfl)
  refine step (T10.setTop (mkF m 33 #[vi p0, vi p1, vi p2, vi p3, vi p4, vi p5, vi n, .unset, .unset, .unset, .unset, .unset, .unset] [(.ref b1)])) (fun t k => st10 t k) ?_
  refine odu KK X10 at_33 34 rfl rfl ?_
  refine oic KK X10 at_34 3 35 rfl rfl ?_
  refine oiL KK X10 at_35 p4 37 rfl rfl ?_
  have C12 := C9.trans (CHr.wr W10 Sf9_b1 C9.1)
  have Sf12_b1 := Safe.wr W10 Sf9_b1 C9.1 Sf9_b1
  obtain ⟨_, _, ⟨T11, L11, k11, n11⟩, -, X11, ⟨Lc11, hQ11, l11, y11, z11⟩, st11⟩ := Jvm.LawKit.callS X10 hx (y := nM38) hown (mvT hZ (ow hw 1 rfl)) (mvT hZ (ow hw 2 rfl)) (mvT hZ (ow hw 3 rfl)) (mvT hZ (ow hw 4 rfl)) (by decide) (backOf (W := 3) (rm1 l Z a0 hw [] p4 h10 n0 (Nat.le_trans Z0 K10.1)) hZ (ow hw 4 rfl) (ow hw 3 rfl) (by decide) (by decide)) (g := (mkF m 37 #[vi p0, vi p1, vi p2, vi p3, vi p4, vi p5, vi n, .unset, .unset, .unset, .unset, .unset, .unset] [(.int p4), (.int 3), (.ref b1), (.ref b1)])) rfl (by rw [hml]; rfl) (argsL := [(.int p4)]) (rest := [(.int 3), (.ref b1), (.ref b1)]) (lenOf pd_21 rfl) rfl (omw rfl rfl) (hb hby at_37) (fun _ _ => ⟨rfl, e10, (by decide : 1 + 0 ≤ _), (by decide : 5 + 0 ≤ _)⟩)
  dsimp only [Pt.U, Pt.locs, Pt.cells, Pt.slots] at X11 l11 y11 z11 st11 hQ11
  subst l11 y11 z11
  obtain ⟨cc11, rfl, N11q, e11q, hcc11⟩ := hQ11
  have N11 := Fr.app N10 N11q
  refine step (T11.setTop (mkF m 40 #[vi p0, vi p1, vi p2, vi p3, vi p4, vi p5, vi n, .unset, .unset, .unset, .unset, .unset, .unset] [(.int cc11), (.int 3), (.ref b1), (.ref b1)])) (fun t k => st11 t k) ?_
  obtain ⟨cl13, Ar13, q13, S13, N13n, H13, G13⟩ := id V10
  have hin13 : ¬ ((3 : Int32) < 0 ∨ cl13.slots.size ≤ ((3 : Int32)).toNatClampNeg) := inb_of S13 ⟨by decide, by decide⟩
  obtain ⟨T13, h13, X13, e13, W13, st13⟩ := stC X11 hx hZ e11q Ar13 (j := (3 : Int32)) hin13 (g := (mkF m 40 #[vi p0, vi p1, vi p2, vi p3, vi p4, vi p5, vi n, .unset, .unset, .unset, .unset, .unset, .unset] [(.int cc11), (.int 3), (.ref b1), (.ref b1)])) rfl rfl (hb hby at_40)
  have N13 := Fr.snoc X13 N11 gn_b1
  have K13 : Keep h0 h13 [] := K10.wr W13 (Or.inr sz_b1)
  have V13 : Arv Z h13 b1 k1 .char (5 : Int32) [(.int (nar .char cc2)), (.int (nar .char cc5)), (.int (nar .char cc8)), (.int (nar .char cc11)), (.int 0)] (.int 0) := Arv.set Ar13 q13 S13 N13n H13 G13 (fits_nar_char cc11) W13 3 rfl (Nat.le_of_ble_eq_true rfl)
  refine step (T13.setTop (mkF m 41 #[vi p0, vi p1, vi p2, vi p3, vi p4, vi p5, vi n, .unset, .unset, .unset, .unset, .unset, .unset] [(.ref b1)])) (fun t k => st13 t k) ?_
  refine odu KK X13 at_41 42 rfl rfl ?_
  refine oic KK X13 at_42 4 43 rfl rfl ?_
  refine oiL KK X13 at_43 p5 45 rfl rfl ?_
  have C15 := C12.trans (CHr.wr W13 Sf12_b1 C12.1)
  have Sf15_b1 := Safe.wr W13 Sf12_b1 C12.1 Sf12_b1
  obtain ⟨_, _, ⟨T14, L14, k14, n14⟩, -, X14, ⟨Lc14, hQ14, l14, y14, z14⟩, st14⟩ := Jvm.LawKit.callS X13 hx (y := nM38) hown (mvT hZ (ow hw 1 rfl)) (mvT hZ (ow hw 2 rfl)) (mvT hZ (ow hw 3 rfl)) (mvT hZ (ow hw 4 rfl)) (by decide) (backOf (W := 3) (rm1 l Z a0 hw [] p5 h13 n0 (Nat.le_trans Z0 K13.1)) hZ (ow hw 4 rfl) (ow hw 3 rfl) (by decide) (by decide)) (g := (mkF m 45 #[vi p0, vi p1, vi p2, vi p3, vi p4, vi p5, vi n, .unset, .unset, .unset, .unset, .unset, .unset] [(.int p5), (.int 4), (.ref b1), (.ref b1)])) rfl (by rw [hml]; rfl) (argsL := [(.int p5)]) (rest := [(.int 4), (.ref b1), (.ref b1)]) (lenOf pd_21 rfl) rfl (omw rfl rfl) (hb hby at_45) (fun _ _ => ⟨rfl, e13, (by decide : 1 + 0 ≤ _), (by decide : 5 + 0 ≤ _)⟩)
  dsimp only [Pt.U, Pt.locs, Pt.cells, Pt.slots] at X14 l14 y14 z14 st14 hQ14
  subst l14 y14 z14
  obtain ⟨cc14, rfl, N14q, e14q, hcc14⟩ := hQ14
  have N14 := Fr.app N13 N14q
  refine step (T14.setTop (mkF m 48 #[vi p0, vi p1, vi p2, vi p3, vi p4, vi p5, vi n, .unset, .unset, .unset, .unset, .unset, .unset] [(.int cc14), (.int 4), (.ref b1), (.ref b1)])) (fun t k => st14 t k) ?_
  obtain ⟨cl16, Ar16, q16, S16, N16n, H16, G16⟩ := id V13
  have hin16 : ¬ ((4 : Int32) < 0 ∨ cl16.slots.size ≤ ((4 : Int32)).toNatClampNeg) := inb_of S16 ⟨by decide, by decide⟩
  obtain ⟨T16, h16, X16, e16, W16, st16⟩ := stC X14 hx hZ e14q Ar16 (j := (4 : Int32)) hin16 (g := (mkF m 48 #[vi p0, vi p1, vi p2, vi p3, vi p4, vi p5, vi n, .unset, .unset, .unset, .unset, .unset, .unset] [(.int cc14), (.int 4), (.ref b1), (.ref b1)])) rfl rfl (hb hby at_48)
  have N16 := Fr.snoc X16 N14 gn_b1
  have K16 : Keep h0 h16 [] := K13.wr W16 (Or.inr sz_b1)
  have V16 : Arv Z h16 b1 k1 .char (5 : Int32) [(.int (nar .char cc2)), (.int (nar .char cc5)), (.int (nar .char cc8)), (.int (nar .char cc11)), (.int (nar .char cc14))] (.int 0) := Arv.set Ar16 q16 S16 N16n H16 G16 (fits_nar_char cc14) W16 4 rfl (Nat.le_of_ble_eq_true rfl)
  refine step (T16.setTop (mkF m 49 #[vi p0, vi p1, vi p2, vi p3, vi p4, vi p5, vi n, .unset, .unset, .unset, .unset, .unset, .unset] [(.ref b1)])) (fun t k => st16 t k) ?_
  have Vx17 := V16
  rw [own_narC hcc2, own_narC hcc5, own_narC hcc8, own_narC hcc11, own_narC hcc14] at Vx17
  refine step (T16.setTop (mkF m 51 #[vi p0, vi p1, vi p2, vi p3, vi p4, vi p5, vi n, vr b1, .unset, .unset, .unset, .unset, .unset] [])) (fun t k => XS.astore X16.here hx rfl (hb hby at_49) rfl rfl (l' := #[vi p0, vi p1, vi p2, vi p3, vi p4, vi p5, vi n, vr b1, .unset, .unset, .unset, .unset, .unset]) rfl k) ?_
  refine oiL KK X16 at_51 n 53 rfl rfl ?_
  refine oaL KK X16 at_53 (.ref b1) 55 rfl rfl rfl ?_
  have f18 := ((((((S_cs.ext E1).wr W4).wr W7).wr W10).wr W13).wr W16)
  have f19 := ((((((S_fo.ext E1).wr W4).wr W7).wr W10).wr W13).wr W16)
  have f20 := ((((((S_ad.ext E1).wr W4).wr W7).wr W10).wr W13).wr W16)
  have f21 := ((((((S_hi.ext E1).wr W4).wr W7).wr W10).wr W13).wr W16)
  have f22 := ((((((S_lo.ext E1).wr W4).wr W7).wr W10).wr W13).wr W16)
  have C24 := C15.trans (CHr.wr W16 Sf15_b1 C15.1)
  have Sf24_b1 := Safe.wr W16 Sf15_b1 C15.1 Sf15_b1
  have hl23_b1 := Vx17.lt
  obtain ⟨_, _, ⟨T23, L23, k23, n23⟩, -, X23', hS23', hg23, ⟨Lc23, hQ23, l23, y23, z23, hC23⟩, st23⟩ := callSS X16 hx (y := nM37) hown (mvT hZ (ow hw 6 rfl)) (mvT hZ (ow hw 7 rfl)) (mvT hZ (ow hw 3 rfl)) (mvT hZ (ow hw 8 rfl)) (by decide) (backOfSH (W := 0) (rm2 l Z a0 hw [] n b1 k1 cc2 cc5 cc8 cc11 cc14 cs fo h16 n0 (Nat.le_trans Z0 K16.1) Vx17 hn6 hcc2 hcc5 hcc8 hcc11 hcc14 f18 c_cs f19 r_fo f20 f21 f22) hZ (ow hw 8 rfl) (ow hw 3 rfl) (by decide) (by decide) (own_EWs hw) C24.1) (g := (mkF m 55 #[vi p0, vi p1, vi p2, vi p3, vi p4, vi p5, vi n, vr b1, .unset, .unset, .unset, .unset, .unset] [(.ref b1), (.int n)])) rfl (by rw [hml]; rfl) (argsL := [(.int n), (.ref b1)]) (rest := []) (lenOf pd_30 rfl) rfl (omw rfl rfl) (hb hby at_55) (fun _ _ => ⟨rfl, e16, (by decide : 1 + 6 ≤ _), (by decide : 5 + 24 ≤ _)⟩)
  dsimp only [Pt.U, Pt.locs, Pt.cells, Pt.slots] at X23' hS23' hg23 l23 y23 z23 st23 hQ23 hC23
  subst l23 y23 z23
  obtain ⟨X23, hS23, hZ23, hown23⟩ := rebS hS (Nat.le_trans (Nat.le_trans (Nat.le_trans (Nat.le_trans (Nat.le_trans (Nat.le_trans (Nat.le_trans hk E1.1) (Keep.of_wr W4).1) (Keep.of_wr W7).1) (Keep.of_wr W10).1) (Keep.of_wr W13).1) (Keep.of_wr W16).1) (Nat.le_of_eq (congrArg Array.size e16.symm))) X23' hS23' hg23 hZ hown
  replace hS := hS23
  replace hZ : Z.Warmed39 T23.vm := hZ23
  replace hown : T23.vm.findClass "org/vouchsafe/DomTrimmedPinLaw" = some m.cls := hown23
  obtain ⟨h23, e23⟩ : ∃ z, T23.heap = z := ⟨_, rfl⟩
  rw [e23] at hQ23
  obtain ⟨r23, rb23, rk23, rco23, rN23, rbs23, rfl, N23q, K23q, Er23, Fr23, Fw23, Vr23, os23⟩ := hQ23
  have N23 := Fr.app N16 N23q
  have K23 : Keep h0 h23 [] := K16.trans K23q all0
  have f25 := own_staK f18 K23q all0
  have f26 := own_staK f19 K23q all0
  have f27 := own_staK f20 K23q all0
  have f28 := own_staK f21 K23q all0
  have f29 := own_staK f22 K23q all0
  rw [e23] at hC23
  have C23 := C24.trans hC23
  have Sf23_b1 := hC23.safe hl23_b1 Sf24_b1
  have hk23 : T23.heap.size ≤ h23.size := Nat.le_of_eq (congrArg Array.size e23)
  refine step (T23.setTop (mkF m 58 #[vi p0, vi p1, vi p2, vi p3, vi p4, vi p5, vi n, vr b1, .unset, .unset, .unset, .unset, .unset] [(.ref r23)])) (fun t k => st23.trans k) ?_
  obtain ⟨xs, hxs⟩ : ∃ z, List.take n.toInt.toNat [cc2, cc5, cc8, cc11, cc14] = z := ⟨_, rfl⟩
  rw [hxs] at os23
  refine step (T23.setTop (mkF m 60 #[vi p0, vi p1, vi p2, vi p3, vi p4, vi p5, vi n, vr b1, vr r23, .unset, .unset, .unset, .unset] [])) (fun t k => XS.astore X23.here hx rfl (hb hby at_58) rfl rfl (l' := #[vi p0, vi p1, vi p2, vi p3, vi p4, vi p5, vi n, vr b1, vr r23, .unset, .unset, .unset, .unset]) rfl k) ?_
  refine oiL KK X23 at_60 n 62 rfl rfl ?_
  refine oiS KK X23 at_62 #[vi p0, vi p1, vi p2, vi p3, vi p4, vi p5, vi n, vr b1, vr r23, vi n, .unset, .unset, .unset] 64 rfl rfl ?_
  suffices J83 : ∀ (T83j : State) (LL : List Loc) (z83 : Int32), Stand p l e room_1 (s.setVm T23.vm) m #[.int p0, .int p1, .int p2, .int p3, .int p4, .int p5] below meth c T83j LL 7 29 → T83j.heap = h23 → Fr n0 LL → z83 = (if (4 : Int32) < n then (if (own_xs cc14) = (0 : Int32) then (4 : Int32) else n) else n) → G (T83j.setTop (mkF m 83 #[vi p0, vi p1, vi p2, vi p3, vi p4, vi p5, vi n, vr b1, vr r23, vi z83, .unset, .unset, .unset] [])) by
    refine oiL KK X23 at_64 n 66 rfl rfl ?_
    refine oic KK X23 at_66 4 67 rfl rfl ?_
    by_cases hc67_30 : (4 : Int32) < n
    · -- pc 67: (4 : Int32) < n True
      refine oin KK X23 at_67 70 rfl (tlt hc67_30).2.2.2 ?_
      refine oaL KK X23 at_70 (.ref b1) 72 rfl rfl rfl ?_
      refine oic KK X23 at_72 4 73 rfl rfl ?_
      have f31 := (Vx17.keep K23q nin0)
      obtain ⟨cl32, Ar32, q32, S32, N32n, H32, G32⟩ := id f31
      have hin32 : ¬ ((4 : Int32) < 0 ∨ cl32.slots.size ≤ ((4 : Int32)).toNatClampNeg) := inb_of S32 ⟨by decide, by decide⟩
      have hat32 : cl32.slots[((4 : Int32)).toNatClampNeg]? = some (.int cc14) := H32.at hin32 rfl
      refine step (T23.setTop (mkF m 74 #[vi p0, vi p1, vi p2, vi p3, vi p4, vi p5, vi n, vr b1, vr r23, vi n, .unset, .unset, .unset] [(.int cc14)])) (fun t k => X23.caload hx (j := (4 : Int32)) (v := (.int cc14)) (by rw [e23]; exact Ar32.1) (State.isArrayOf_alike hZ.alike Ar32.2.1) Ar32.2.2 hin32 hat32 (g := (mkF m 73 #[vi p0, vi p1, vi p2, vi p3, vi p4, vi p5, vi n, vr b1, vr r23, vi n, .unset, .unset, .unset] [(.int 4), (.ref b1)])) rfl rfl (hb hby at_73) t k) ?_
      obtain ⟨_, _, ⟨T33, L33, k33, n33⟩, -, X33, ⟨Lc33, hQ33, l33, y33, z33⟩, st33⟩ := Jvm.LawKit.callS X23 hx (y := nM39) hown (mvT hZ (ow hw 77 rfl)) (mvT hZ (ow hw 78 rfl)) (mvT hZ (ow hw 3 rfl)) (mvT hZ (ow hw 79 rfl)) (by decide) (backOf (W := 0) (rm17 l Z a0 hw [] cc14 h23 n0 (Nat.le_trans Z0 K23.1)) hZ (ow hw 79 rfl) (ow hw 3 rfl) (by decide) (by decide)) (g := (mkF m 74 #[vi p0, vi p1, vi p2, vi p3, vi p4, vi p5, vi n, vr b1, vr r23, vi n, .unset, .unset, .unset] [(.int cc14)])) rfl (by rw [hml]; rfl) (argsL := [(.int cc14)]) (rest := []) (lenOf pd_22 rfl) rfl (omw rfl rfl) (hb hby at_74) (fun _ _ => ⟨rfl, e23, (by decide : 7 + 0 ≤ _), (by decide : 29 + 0 ≤ _)⟩)
      dsimp only [Pt.U, Pt.locs, Pt.cells, Pt.slots] at X33 l33 y33 z33 st33 hQ33
      subst l33 y33 z33
      obtain ⟨rfl, N33q, e33q⟩ := hQ33
      have N33 := Fr.app N23 N33q
      refine step (T33.setTop (mkF m 77 #[vi p0, vi p1, vi p2, vi p3, vi p4, vi p5, vi n, vr b1, vr r23, vi n, .unset, .unset, .unset] [(.int (own_xs cc14))])) (fun t k => st33 t k) ?_
      by_cases hc77_34 : (own_xs cc14) = (0 : Int32)
      · -- pc 77: (own_xs cc14) = (0 : Int32) True
        refine step (T33.setTop (mkF m 80 #[vi p0, vi p1, vi p2, vi p3, vi p4, vi p5, vi n, vr b1, vr r23, vi n, .unset, .unset, .unset] [])) (fun t k => XS.ifNo X33.here hx rfl (hb hby at_77) rfl ((if0 _ _).trans (teq hc77_34).2) k) ?_
        refine oic KK X33 at_80 4 81 rfl rfl ?_
        refine oiS KK X33 at_81 #[vi p0, vi p1, vi p2, vi p3, vi p4, vi p5, vi n, vr b1, vr r23, vi 4, .unset, .unset, .unset] 83 rfl rfl ?_
        exact J83 _ _ _ X33 e33q N33 (by simp only [if_pos hc67_30, if_pos hc77_34])
      · -- pc 77: (own_xs cc14) = (0 : Int32) False
        refine step (T33.setTop (mkF m 83 #[vi p0, vi p1, vi p2, vi p3, vi p4, vi p5, vi n, vr b1, vr r23, vi n, .unset, .unset, .unset] [])) (fun t k => XS.ifYes X33.here hx rfl (pc0 := 77) (pc' := 83) rfl (hb hby at_77) rfl ((if0 _ _).trans (feq hc77_34).2) (by decide) (by decide) k) ?_
        exact J83 _ _ _ X33 e33q N33 (by simp only [if_pos hc67_30, if_neg hc77_34])
    · -- pc 67: (4 : Int32) < n False
      refine oiy KK X23 at_67 83 (flt hc67_30).2.2.2 (by decide) rfl ?_
      exact J83 _ _ _ X23 e23 N23 (by simp only [if_neg hc67_30])
  intro T83j LL83j z83 X83j e83j N83j hz83
  suffices J102 : ∀ (T102j : State) (LL : List Loc) (z102 : Int32), Stand p l e room_1 (s.setVm T23.vm) m #[.int p0, .int p1, .int p2, .int p3, .int p4, .int p5] below meth c T102j LL 7 29 → T102j.heap = h23 → Fr n0 LL → z102 = (if (3 : Int32) < n then (if (own_xs cc11) = (0 : Int32) then (3 : Int32) else z83) else z83) → G (T102j.setTop (mkF m 102 #[vi p0, vi p1, vi p2, vi p3, vi p4, vi p5, vi n, vr b1, vr r23, vi z102, .unset, .unset, .unset] [])) by
    refine oiL KK X83j at_83 n 85 rfl rfl ?_
    refine oic KK X83j at_85 3 86 rfl rfl ?_
    by_cases hc86_35 : (3 : Int32) < n
    · -- pc 86: (3 : Int32) < n True
      refine oin KK X83j at_86 89 rfl (tlt hc86_35).2.2.2 ?_
      refine oaL KK X83j at_89 (.ref b1) 91 rfl rfl rfl ?_
      refine oic KK X83j at_91 3 92 rfl rfl ?_
      have f36 := (Vx17.keep K23q nin0)
      obtain ⟨cl37, Ar37, q37, S37, N37n, H37, G37⟩ := id f36
      have hin37 : ¬ ((3 : Int32) < 0 ∨ cl37.slots.size ≤ ((3 : Int32)).toNatClampNeg) := inb_of S37 ⟨by decide, by decide⟩
      have hat37 : cl37.slots[((3 : Int32)).toNatClampNeg]? = some (.int cc11) := H37.at hin37 rfl
      refine step (T83j.setTop (mkF m 93 #[vi p0, vi p1, vi p2, vi p3, vi p4, vi p5, vi n, vr b1, vr r23, vi z83, .unset, .unset, .unset] [(.int cc11)])) (fun t k => X83j.caload hx (j := (3 : Int32)) (v := (.int cc11)) (by rw [e83j]; exact Ar37.1) (State.isArrayOf_alike hZ.alike Ar37.2.1) Ar37.2.2 hin37 hat37 (g := (mkF m 92 #[vi p0, vi p1, vi p2, vi p3, vi p4, vi p5, vi n, vr b1, vr r23, vi z83, .unset, .unset, .unset] [(.int 3), (.ref b1)])) rfl rfl (hb hby at_92) t k) ?_
      obtain ⟨_, _, ⟨T38, L38, k38, n38⟩, -, X38, ⟨Lc38, hQ38, l38, y38, z38⟩, st38⟩ := Jvm.LawKit.callS X83j hx (y := nM39) hown (mvT hZ (ow hw 77 rfl)) (mvT hZ (ow hw 78 rfl)) (mvT hZ (ow hw 3 rfl)) (mvT hZ (ow hw 79 rfl)) (by decide) (backOf (W := 0) (rm17 l Z a0 hw [] cc11 h23 n0 (Nat.le_trans Z0 K23.1)) hZ (ow hw 79 rfl) (ow hw 3 rfl) (by decide) (by decide)) (g := (mkF m 93 #[vi p0, vi p1, vi p2, vi p3, vi p4, vi p5, vi n, vr b1, vr r23, vi z83, .unset, .unset, .unset] [(.int cc11)])) rfl (by rw [hml]; rfl) (argsL := [(.int cc11)]) (rest := []) (lenOf pd_22 rfl) rfl (omw rfl rfl) (hb hby at_93) (fun _ _ => ⟨rfl, e83j, (by decide : 7 + 0 ≤ _), (by decide : 29 + 0 ≤ _)⟩)
      dsimp only [Pt.U, Pt.locs, Pt.cells, Pt.slots] at X38 l38 y38 z38 st38 hQ38
      subst l38 y38 z38
      obtain ⟨rfl, N38q, e38q⟩ := hQ38
      have N38 := Fr.app N83j N38q
      refine step (T38.setTop (mkF m 96 #[vi p0, vi p1, vi p2, vi p3, vi p4, vi p5, vi n, vr b1, vr r23, vi z83, .unset, .unset, .unset] [(.int (own_xs cc11))])) (fun t k => st38 t k) ?_
      by_cases hc96_39 : (own_xs cc11) = (0 : Int32)
      · -- pc 96: (own_xs cc11) = (0 : Int32) True
        refine step (T38.setTop (mkF m 99 #[vi p0, vi p1, vi p2, vi p3, vi p4, vi p5, vi n, vr b1, vr r23, vi z83, .unset, .unset, .unset] [])) (fun t k => XS.ifNo X38.here hx rfl (hb hby at_96) rfl ((if0 _ _).trans (teq hc96_39).2) k) ?_
        refine oic KK X38 at_99 3 100 rfl rfl ?_
        refine oiS KK X38 at_100 #[vi p0, vi p1, vi p2, vi p3, vi p4, vi p5, vi n, vr b1, vr r23, vi 3, .unset, .unset, .unset] 102 rfl rfl ?_
        exact J102 _ _ _ X38 e38q N38 (by simp only [if_pos hc86_35, if_pos hc96_39])
      · -- pc 96: (own_xs cc11) = (0 : Int32) False
        refine step (T38.setTop (mkF m 102 #[vi p0, vi p1, vi p2, vi p3, vi p4, vi p5, vi n, vr b1, vr r23, vi z83, .unset, .unset, .unset] [])) (fun t k => XS.ifYes X38.here hx rfl (pc0 := 96) (pc' := 102) rfl (hb hby at_96) rfl ((if0 _ _).trans (feq hc96_39).2) (by decide) (by decide) k) ?_
        exact J102 _ _ _ X38 e38q N38 (by simp only [if_pos hc86_35, if_neg hc96_39])
    · -- pc 86: (3 : Int32) < n False
      refine oiy KK X83j at_86 102 (flt hc86_35).2.2.2 (by decide) rfl ?_
      exact J102 _ _ _ X83j e83j N83j (by simp only [if_neg hc86_35])
  intro T102j LL102j z102 X102j e102j N102j hz102
  suffices J121 : ∀ (T121j : State) (LL : List Loc) (z121 : Int32), Stand p l e room_1 (s.setVm T23.vm) m #[.int p0, .int p1, .int p2, .int p3, .int p4, .int p5] below meth c T121j LL 7 29 → T121j.heap = h23 → Fr n0 LL → z121 = (if (2 : Int32) < n then (if (own_xs cc8) = (0 : Int32) then (2 : Int32) else z102) else z102) → G (T121j.setTop (mkF m 121 #[vi p0, vi p1, vi p2, vi p3, vi p4, vi p5, vi n, vr b1, vr r23, vi z121, .unset, .unset, .unset] [])) by
    refine oiL KK X102j at_102 n 104 rfl rfl ?_
    refine oic KK X102j at_104 2 105 rfl rfl ?_
    by_cases hc105_40 : (2 : Int32) < n
    · -- pc 105: (2 : Int32) < n True
      refine oin KK X102j at_105 108 rfl (tlt hc105_40).2.2.2 ?_
      refine oaL KK X102j at_108 (.ref b1) 110 rfl rfl rfl ?_
      refine oic KK X102j at_110 2 111 rfl rfl ?_
      have f41 := (Vx17.keep K23q nin0)
      obtain ⟨cl42, Ar42, q42, S42, N42n, H42, G42⟩ := id f41
      have hin42 : ¬ ((2 : Int32) < 0 ∨ cl42.slots.size ≤ ((2 : Int32)).toNatClampNeg) := inb_of S42 ⟨by decide, by decide⟩
      have hat42 : cl42.slots[((2 : Int32)).toNatClampNeg]? = some (.int cc8) := H42.at hin42 rfl
      refine step (T102j.setTop (mkF m 112 #[vi p0, vi p1, vi p2, vi p3, vi p4, vi p5, vi n, vr b1, vr r23, vi z102, .unset, .unset, .unset] [(.int cc8)])) (fun t k => X102j.caload hx (j := (2 : Int32)) (v := (.int cc8)) (by rw [e102j]; exact Ar42.1) (State.isArrayOf_alike hZ.alike Ar42.2.1) Ar42.2.2 hin42 hat42 (g := (mkF m 111 #[vi p0, vi p1, vi p2, vi p3, vi p4, vi p5, vi n, vr b1, vr r23, vi z102, .unset, .unset, .unset] [(.int 2), (.ref b1)])) rfl rfl (hb hby at_111) t k) ?_
      obtain ⟨_, _, ⟨T43, L43, k43, n43⟩, -, X43, ⟨Lc43, hQ43, l43, y43, z43⟩, st43⟩ := Jvm.LawKit.callS X102j hx (y := nM39) hown (mvT hZ (ow hw 77 rfl)) (mvT hZ (ow hw 78 rfl)) (mvT hZ (ow hw 3 rfl)) (mvT hZ (ow hw 79 rfl)) (by decide) (backOf (W := 0) (rm17 l Z a0 hw [] cc8 h23 n0 (Nat.le_trans Z0 K23.1)) hZ (ow hw 79 rfl) (ow hw 3 rfl) (by decide) (by decide)) (g := (mkF m 112 #[vi p0, vi p1, vi p2, vi p3, vi p4, vi p5, vi n, vr b1, vr r23, vi z102, .unset, .unset, .unset] [(.int cc8)])) rfl (by rw [hml]; rfl) (argsL := [(.int cc8)]) (rest := []) (lenOf pd_22 rfl) rfl (omw rfl rfl) (hb hby at_112) (fun _ _ => ⟨rfl, e102j, (by decide : 7 + 0 ≤ _), (by decide : 29 + 0 ≤ _)⟩)
      dsimp only [Pt.U, Pt.locs, Pt.cells, Pt.slots] at X43 l43 y43 z43 st43 hQ43
      subst l43 y43 z43
      obtain ⟨rfl, N43q, e43q⟩ := hQ43
      have N43 := Fr.app N102j N43q
      refine step (T43.setTop (mkF m 115 #[vi p0, vi p1, vi p2, vi p3, vi p4, vi p5, vi n, vr b1, vr r23, vi z102, .unset, .unset, .unset] [(.int (own_xs cc8))])) (fun t k => st43 t k) ?_
      by_cases hc115_44 : (own_xs cc8) = (0 : Int32)
      · -- pc 115: (own_xs cc8) = (0 : Int32) True
        refine step (T43.setTop (mkF m 118 #[vi p0, vi p1, vi p2, vi p3, vi p4, vi p5, vi n, vr b1, vr r23, vi z102, .unset, .unset, .unset] [])) (fun t k => XS.ifNo X43.here hx rfl (hb hby at_115) rfl ((if0 _ _).trans (teq hc115_44).2) k) ?_
        refine oic KK X43 at_118 2 119 rfl rfl ?_
        refine oiS KK X43 at_119 #[vi p0, vi p1, vi p2, vi p3, vi p4, vi p5, vi n, vr b1, vr r23, vi 2, .unset, .unset, .unset] 121 rfl rfl ?_
        exact J121 _ _ _ X43 e43q N43 (by simp only [if_pos hc105_40, if_pos hc115_44])
      · -- pc 115: (own_xs cc8) = (0 : Int32) False
        refine step (T43.setTop (mkF m 121 #[vi p0, vi p1, vi p2, vi p3, vi p4, vi p5, vi n, vr b1, vr r23, vi z102, .unset, .unset, .unset] [])) (fun t k => XS.ifYes X43.here hx rfl (pc0 := 115) (pc' := 121) rfl (hb hby at_115) rfl ((if0 _ _).trans (feq hc115_44).2) (by decide) (by decide) k) ?_
        exact J121 _ _ _ X43 e43q N43 (by simp only [if_pos hc105_40, if_neg hc115_44])
    · -- pc 105: (2 : Int32) < n False
      refine oiy KK X102j at_105 121 (flt hc105_40).2.2.2 (by decide) rfl ?_
      exact J121 _ _ _ X102j e102j N102j (by simp only [if_neg hc105_40])
  intro T121j LL121j z121 X121j e121j N121j hz121
  suffices J140 : ∀ (T140j : State) (LL : List Loc) (z140 : Int32), Stand p l e room_1 (s.setVm T23.vm) m #[.int p0, .int p1, .int p2, .int p3, .int p4, .int p5] below meth c T140j LL 7 29 → T140j.heap = h23 → Fr n0 LL → z140 = (if (1 : Int32) < n then (if (own_xs cc5) = (0 : Int32) then (1 : Int32) else z121) else z121) → G (T140j.setTop (mkF m 140 #[vi p0, vi p1, vi p2, vi p3, vi p4, vi p5, vi n, vr b1, vr r23, vi z140, .unset, .unset, .unset] [])) by
    refine oiL KK X121j at_121 n 123 rfl rfl ?_
    refine oic KK X121j at_123 1 124 rfl rfl ?_
    by_cases hc124_45 : (1 : Int32) < n
    · -- pc 124: (1 : Int32) < n True
      refine oin KK X121j at_124 127 rfl (tlt hc124_45).2.2.2 ?_
      refine oaL KK X121j at_127 (.ref b1) 129 rfl rfl rfl ?_
      refine oic KK X121j at_129 1 130 rfl rfl ?_
      have f46 := (Vx17.keep K23q nin0)
      obtain ⟨cl47, Ar47, q47, S47, N47n, H47, G47⟩ := id f46
      have hin47 : ¬ ((1 : Int32) < 0 ∨ cl47.slots.size ≤ ((1 : Int32)).toNatClampNeg) := inb_of S47 ⟨by decide, by decide⟩
      have hat47 : cl47.slots[((1 : Int32)).toNatClampNeg]? = some (.int cc5) := H47.at hin47 rfl
      refine step (T121j.setTop (mkF m 131 #[vi p0, vi p1, vi p2, vi p3, vi p4, vi p5, vi n, vr b1, vr r23, vi z121, .unset, .unset, .unset] [(.int cc5)])) (fun t k => X121j.caload hx (j := (1 : Int32)) (v := (.int cc5)) (by rw [e121j]; exact Ar47.1) (State.isArrayOf_alike hZ.alike Ar47.2.1) Ar47.2.2 hin47 hat47 (g := (mkF m 130 #[vi p0, vi p1, vi p2, vi p3, vi p4, vi p5, vi n, vr b1, vr r23, vi z121, .unset, .unset, .unset] [(.int 1), (.ref b1)])) rfl rfl (hb hby at_130) t k) ?_
      obtain ⟨_, _, ⟨T48, L48, k48, n48⟩, -, X48, ⟨Lc48, hQ48, l48, y48, z48⟩, st48⟩ := Jvm.LawKit.callS X121j hx (y := nM39) hown (mvT hZ (ow hw 77 rfl)) (mvT hZ (ow hw 78 rfl)) (mvT hZ (ow hw 3 rfl)) (mvT hZ (ow hw 79 rfl)) (by decide) (backOf (W := 0) (rm17 l Z a0 hw [] cc5 h23 n0 (Nat.le_trans Z0 K23.1)) hZ (ow hw 79 rfl) (ow hw 3 rfl) (by decide) (by decide)) (g := (mkF m 131 #[vi p0, vi p1, vi p2, vi p3, vi p4, vi p5, vi n, vr b1, vr r23, vi z121, .unset, .unset, .unset] [(.int cc5)])) rfl (by rw [hml]; rfl) (argsL := [(.int cc5)]) (rest := []) (lenOf pd_22 rfl) rfl (omw rfl rfl) (hb hby at_131) (fun _ _ => ⟨rfl, e121j, (by decide : 7 + 0 ≤ _), (by decide : 29 + 0 ≤ _)⟩)
      dsimp only [Pt.U, Pt.locs, Pt.cells, Pt.slots] at X48 l48 y48 z48 st48 hQ48
      subst l48 y48 z48
      obtain ⟨rfl, N48q, e48q⟩ := hQ48
      have N48 := Fr.app N121j N48q
      refine step (T48.setTop (mkF m 134 #[vi p0, vi p1, vi p2, vi p3, vi p4, vi p5, vi n, vr b1, vr r23, vi z121, .unset, .unset, .unset] [(.int (own_xs cc5))])) (fun t k => st48 t k) ?_
      by_cases hc134_49 : (own_xs cc5) = (0 : Int32)
      · -- pc 134: (own_xs cc5) = (0 : Int32) True
        refine step (T48.setTop (mkF m 137 #[vi p0, vi p1, vi p2, vi p3, vi p4, vi p5, vi n, vr b1, vr r23, vi z121, .unset, .unset, .unset] [])) (fun t k => XS.ifNo X48.here hx rfl (hb hby at_134) rfl ((if0 _ _).trans (teq hc134_49).2) k) ?_
        refine oic KK X48 at_137 1 138 rfl rfl ?_
        refine oiS KK X48 at_138 #[vi p0, vi p1, vi p2, vi p3, vi p4, vi p5, vi n, vr b1, vr r23, vi 1, .unset, .unset, .unset] 140 rfl rfl ?_
        exact J140 _ _ _ X48 e48q N48 (by simp only [if_pos hc124_45, if_pos hc134_49])
      · -- pc 134: (own_xs cc5) = (0 : Int32) False
        refine step (T48.setTop (mkF m 140 #[vi p0, vi p1, vi p2, vi p3, vi p4, vi p5, vi n, vr b1, vr r23, vi z121, .unset, .unset, .unset] [])) (fun t k => XS.ifYes X48.here hx rfl (pc0 := 134) (pc' := 140) rfl (hb hby at_134) rfl ((if0 _ _).trans (feq hc134_49).2) (by decide) (by decide) k) ?_
        exact J140 _ _ _ X48 e48q N48 (by simp only [if_pos hc124_45, if_neg hc134_49])
    · -- pc 124: (1 : Int32) < n False
      refine oiy KK X121j at_124 140 (flt hc124_45).2.2.2 (by decide) rfl ?_
      exact J140 _ _ _ X121j e121j N121j (by simp only [if_neg hc124_45])
  intro T140j LL140j z140 X140j e140j N140j hz140
  suffices J158 : ∀ (T158j : State) (LL : List Loc) (z158 : Int32), Stand p l e room_1 (s.setVm T23.vm) m #[.int p0, .int p1, .int p2, .int p3, .int p4, .int p5] below meth c T158j LL 7 29 → T158j.heap = h23 → Fr n0 LL → z158 = (if (0 : Int32) < n then (if (own_xs cc2) = (0 : Int32) then (0 : Int32) else z140) else z140) → G (T158j.setTop (mkF m 158 #[vi p0, vi p1, vi p2, vi p3, vi p4, vi p5, vi n, vr b1, vr r23, vi z158, .unset, .unset, .unset] [])) by
    refine oiL KK X140j at_140 n 142 rfl rfl ?_
    by_cases hc142_50 : (0 : Int32) < n
    · -- pc 142: (0 : Int32) < n True
      refine step (T140j.setTop (mkF m 145 #[vi p0, vi p1, vi p2, vi p3, vi p4, vi p5, vi n, vr b1, vr r23, vi z140, .unset, .unset, .unset] [])) (fun t k => XS.ifNo X140j.here hx rfl (hb hby at_142) rfl ((if0 _ _).trans (tlt hc142_50).2.2.2) k) ?_
      refine oaL KK X140j at_145 (.ref b1) 147 rfl rfl rfl ?_
      refine oic KK X140j at_147 0 148 rfl rfl ?_
      have f51 := (Vx17.keep K23q nin0)
      obtain ⟨cl52, Ar52, q52, S52, N52n, H52, G52⟩ := id f51
      have hin52 : ¬ ((0 : Int32) < 0 ∨ cl52.slots.size ≤ ((0 : Int32)).toNatClampNeg) := inb_of S52 ⟨by decide, by decide⟩
      have hat52 : cl52.slots[((0 : Int32)).toNatClampNeg]? = some (.int cc2) := H52.at hin52 rfl
      refine step (T140j.setTop (mkF m 149 #[vi p0, vi p1, vi p2, vi p3, vi p4, vi p5, vi n, vr b1, vr r23, vi z140, .unset, .unset, .unset] [(.int cc2)])) (fun t k => X140j.caload hx (j := (0 : Int32)) (v := (.int cc2)) (by rw [e140j]; exact Ar52.1) (State.isArrayOf_alike hZ.alike Ar52.2.1) Ar52.2.2 hin52 hat52 (g := (mkF m 148 #[vi p0, vi p1, vi p2, vi p3, vi p4, vi p5, vi n, vr b1, vr r23, vi z140, .unset, .unset, .unset] [(.int 0), (.ref b1)])) rfl rfl (hb hby at_148) t k) ?_
      obtain ⟨_, _, ⟨T53, L53, k53, n53⟩, -, X53, ⟨Lc53, hQ53, l53, y53, z53⟩, st53⟩ := Jvm.LawKit.callS X140j hx (y := nM39) hown (mvT hZ (ow hw 77 rfl)) (mvT hZ (ow hw 78 rfl)) (mvT hZ (ow hw 3 rfl)) (mvT hZ (ow hw 79 rfl)) (by decide) (backOf (W := 0) (rm17 l Z a0 hw [] cc2 h23 n0 (Nat.le_trans Z0 K23.1)) hZ (ow hw 79 rfl) (ow hw 3 rfl) (by decide) (by decide)) (g := (mkF m 149 #[vi p0, vi p1, vi p2, vi p3, vi p4, vi p5, vi n, vr b1, vr r23, vi z140, .unset, .unset, .unset] [(.int cc2)])) rfl (by rw [hml]; rfl) (argsL := [(.int cc2)]) (rest := []) (lenOf pd_22 rfl) rfl (omw rfl rfl) (hb hby at_149) (fun _ _ => ⟨rfl, e140j, (by decide : 7 + 0 ≤ _), (by decide : 29 + 0 ≤ _)⟩)
      dsimp only [Pt.U, Pt.locs, Pt.cells, Pt.slots] at X53 l53 y53 z53 st53 hQ53
      subst l53 y53 z53
      obtain ⟨rfl, N53q, e53q⟩ := hQ53
      have N53 := Fr.app N140j N53q
      refine step (T53.setTop (mkF m 152 #[vi p0, vi p1, vi p2, vi p3, vi p4, vi p5, vi n, vr b1, vr r23, vi z140, .unset, .unset, .unset] [(.int (own_xs cc2))])) (fun t k => st53 t k) ?_
      by_cases hc152_54 : (own_xs cc2) = (0 : Int32)
      · -- pc 152: (own_xs cc2) = (0 : Int32) True
        refine step (T53.setTop (mkF m 155 #[vi p0, vi p1, vi p2, vi p3, vi p4, vi p5, vi n, vr b1, vr r23, vi z140, .unset, .unset, .unset] [])) (fun t k => XS.ifNo X53.here hx rfl (hb hby at_152) rfl ((if0 _ _).trans (teq hc152_54).2) k) ?_
        refine oic KK X53 at_155 0 156 rfl rfl ?_
        refine oiS KK X53 at_156 #[vi p0, vi p1, vi p2, vi p3, vi p4, vi p5, vi n, vr b1, vr r23, vi 0, .unset, .unset, .unset] 158 rfl rfl ?_
        exact J158 _ _ _ X53 e53q N53 (by simp only [if_pos hc142_50, if_pos hc152_54])
      · -- pc 152: (own_xs cc2) = (0 : Int32) False
        refine step (T53.setTop (mkF m 158 #[vi p0, vi p1, vi p2, vi p3, vi p4, vi p5, vi n, vr b1, vr r23, vi z140, .unset, .unset, .unset] [])) (fun t k => XS.ifYes X53.here hx rfl (pc0 := 152) (pc' := 158) rfl (hb hby at_152) rfl ((if0 _ _).trans (feq hc152_54).2) (by decide) (by decide) k) ?_
        exact J158 _ _ _ X53 e53q N53 (by simp only [if_pos hc142_50, if_neg hc152_54])
    · -- pc 142: (0 : Int32) < n False
      refine step (T140j.setTop (mkF m 158 #[vi p0, vi p1, vi p2, vi p3, vi p4, vi p5, vi n, vr b1, vr r23, vi z140, .unset, .unset, .unset] [])) (fun t k => XS.ifYes X140j.here hx rfl (pc0 := 142) (pc' := 158) rfl (hb hby at_142) rfl ((if0 _ _).trans (flt hc142_50).2.2.2) (by decide) (by decide) k) ?_
      exact J158 _ _ _ X140j e140j N140j (by simp only [if_neg hc142_50])
  intro T158j LL158j z158 X158j e158j N158j hz158
  refine oic KK X158j at_158 0 159 rfl rfl ?_
  refine oiS KK X158j at_159 #[vi p0, vi p1, vi p2, vi p3, vi p4, vi p5, vi n, vr b1, vr r23, vi z158, vi 0, .unset, .unset] 161 rfl rfl ?_
  suffices J179 : ∀ (T179j : State) (LL : List Loc) (z179 : Int32), Stand p l e room_1 (s.setVm T23.vm) m #[.int p0, .int p1, .int p2, .int p3, .int p4, .int p5] below meth c T179j LL 7 29 → T179j.heap = h23 → Fr n0 LL → z179 = (if (0 : Int32) < n then (if (own_xs cc2) = (0 : Int32) then (1 : Int32) else (0 : Int32)) else (0 : Int32)) → G (T179j.setTop (mkF m 179 #[vi p0, vi p1, vi p2, vi p3, vi p4, vi p5, vi n, vr b1, vr r23, vi z158, vi z179, .unset, .unset] [])) by
    refine oiL KK X158j at_161 n 163 rfl rfl ?_
    by_cases hc163_55 : (0 : Int32) < n
    · -- pc 163: (0 : Int32) < n True
      refine step (T158j.setTop (mkF m 166 #[vi p0, vi p1, vi p2, vi p3, vi p4, vi p5, vi n, vr b1, vr r23, vi z158, vi 0, .unset, .unset] [])) (fun t k => XS.ifNo X158j.here hx rfl (hb hby at_163) rfl ((if0 _ _).trans (tlt hc163_55).2.2.2) k) ?_
      refine oaL KK X158j at_166 (.ref b1) 168 rfl rfl rfl ?_
      refine oic KK X158j at_168 0 169 rfl rfl ?_
      have f56 := (Vx17.keep K23q nin0)
      obtain ⟨cl57, Ar57, q57, S57, N57n, H57, G57⟩ := id f56
      have hin57 : ¬ ((0 : Int32) < 0 ∨ cl57.slots.size ≤ ((0 : Int32)).toNatClampNeg) := inb_of S57 ⟨by decide, by decide⟩
      have hat57 : cl57.slots[((0 : Int32)).toNatClampNeg]? = some (.int cc2) := H57.at hin57 rfl
      refine step (T158j.setTop (mkF m 170 #[vi p0, vi p1, vi p2, vi p3, vi p4, vi p5, vi n, vr b1, vr r23, vi z158, vi 0, .unset, .unset] [(.int cc2)])) (fun t k => X158j.caload hx (j := (0 : Int32)) (v := (.int cc2)) (by rw [e158j]; exact Ar57.1) (State.isArrayOf_alike hZ.alike Ar57.2.1) Ar57.2.2 hin57 hat57 (g := (mkF m 169 #[vi p0, vi p1, vi p2, vi p3, vi p4, vi p5, vi n, vr b1, vr r23, vi z158, vi 0, .unset, .unset] [(.int 0), (.ref b1)])) rfl rfl (hb hby at_169) t k) ?_
      obtain ⟨_, _, ⟨T58, L58, k58, n58⟩, -, X58, ⟨Lc58, hQ58, l58, y58, z58⟩, st58⟩ := Jvm.LawKit.callS X158j hx (y := nM39) hown (mvT hZ (ow hw 77 rfl)) (mvT hZ (ow hw 78 rfl)) (mvT hZ (ow hw 3 rfl)) (mvT hZ (ow hw 79 rfl)) (by decide) (backOf (W := 0) (rm17 l Z a0 hw [] cc2 h23 n0 (Nat.le_trans Z0 K23.1)) hZ (ow hw 79 rfl) (ow hw 3 rfl) (by decide) (by decide)) (g := (mkF m 170 #[vi p0, vi p1, vi p2, vi p3, vi p4, vi p5, vi n, vr b1, vr r23, vi z158, vi 0, .unset, .unset] [(.int cc2)])) rfl (by rw [hml]; rfl) (argsL := [(.int cc2)]) (rest := []) (lenOf pd_22 rfl) rfl (omw rfl rfl) (hb hby at_170) (fun _ _ => ⟨rfl, e158j, (by decide : 7 + 0 ≤ _), (by decide : 29 + 0 ≤ _)⟩)
      dsimp only [Pt.U, Pt.locs, Pt.cells, Pt.slots] at X58 l58 y58 z58 st58 hQ58
      subst l58 y58 z58
      obtain ⟨rfl, N58q, e58q⟩ := hQ58
      have N58 := Fr.app N158j N58q
      refine step (T58.setTop (mkF m 173 #[vi p0, vi p1, vi p2, vi p3, vi p4, vi p5, vi n, vr b1, vr r23, vi z158, vi 0, .unset, .unset] [(.int (own_xs cc2))])) (fun t k => st58 t k) ?_
      by_cases hc173_59 : (own_xs cc2) = (0 : Int32)
      · -- pc 173: (own_xs cc2) = (0 : Int32) True
        refine step (T58.setTop (mkF m 176 #[vi p0, vi p1, vi p2, vi p3, vi p4, vi p5, vi n, vr b1, vr r23, vi z158, vi 0, .unset, .unset] [])) (fun t k => XS.ifNo X58.here hx rfl (hb hby at_173) rfl ((if0 _ _).trans (teq hc173_59).2) k) ?_
        refine oic KK X58 at_176 1 177 rfl rfl ?_
        refine oiS KK X58 at_177 #[vi p0, vi p1, vi p2, vi p3, vi p4, vi p5, vi n, vr b1, vr r23, vi z158, vi 1, .unset, .unset] 179 rfl rfl ?_
        exact J179 _ _ _ X58 e58q N58 (by simp only [if_pos hc163_55, if_pos hc173_59])
      · -- pc 173: (own_xs cc2) = (0 : Int32) False
        refine step (T58.setTop (mkF m 179 #[vi p0, vi p1, vi p2, vi p3, vi p4, vi p5, vi n, vr b1, vr r23, vi z158, vi 0, .unset, .unset] [])) (fun t k => XS.ifYes X58.here hx rfl (pc0 := 173) (pc' := 179) rfl (hb hby at_173) rfl ((if0 _ _).trans (feq hc173_59).2) (by decide) (by decide) k) ?_
        exact J179 _ _ _ X58 e58q N58 (by simp only [if_pos hc163_55, if_neg hc173_59])
    · -- pc 163: (0 : Int32) < n False
      refine step (T158j.setTop (mkF m 179 #[vi p0, vi p1, vi p2, vi p3, vi p4, vi p5, vi n, vr b1, vr r23, vi z158, vi 0, .unset, .unset] [])) (fun t k => XS.ifYes X158j.here hx rfl (pc0 := 163) (pc' := 179) rfl (hb hby at_163) rfl ((if0 _ _).trans (flt hc163_55).2.2.2) (by decide) (by decide) k) ?_
      exact J179 _ _ _ X158j e158j N158j (by simp only [if_neg hc163_55])
  intro T179j LL179j z179 X179j e179j N179j hz179
  suffices J198 : ∀ (T198j : State) (LL : List Loc) (z198 : Int32), Stand p l e room_1 (s.setVm T23.vm) m #[.int p0, .int p1, .int p2, .int p3, .int p4, .int p5] below meth c T198j LL 7 29 → T198j.heap = h23 → Fr n0 LL → z198 = (if (1 : Int32) < n then (if (own_xs cc5) = (0 : Int32) then (2 : Int32) else z179) else z179) → G (T198j.setTop (mkF m 198 #[vi p0, vi p1, vi p2, vi p3, vi p4, vi p5, vi n, vr b1, vr r23, vi z158, vi z198, .unset, .unset] [])) by
    refine oiL KK X179j at_179 n 181 rfl rfl ?_
    refine oic KK X179j at_181 1 182 rfl rfl ?_
    by_cases hc182_60 : (1 : Int32) < n
    · -- pc 182: (1 : Int32) < n True
      refine oin KK X179j at_182 185 rfl (tlt hc182_60).2.2.2 ?_
      refine oaL KK X179j at_185 (.ref b1) 187 rfl rfl rfl ?_
      refine oic KK X179j at_187 1 188 rfl rfl ?_
      have f61 := (Vx17.keep K23q nin0)
      obtain ⟨cl62, Ar62, q62, S62, N62n, H62, G62⟩ := id f61
      have hin62 : ¬ ((1 : Int32) < 0 ∨ cl62.slots.size ≤ ((1 : Int32)).toNatClampNeg) := inb_of S62 ⟨by decide, by decide⟩
      have hat62 : cl62.slots[((1 : Int32)).toNatClampNeg]? = some (.int cc5) := H62.at hin62 rfl
      refine step (T179j.setTop (mkF m 189 #[vi p0, vi p1, vi p2, vi p3, vi p4, vi p5, vi n, vr b1, vr r23, vi z158, vi z179, .unset, .unset] [(.int cc5)])) (fun t k => X179j.caload hx (j := (1 : Int32)) (v := (.int cc5)) (by rw [e179j]; exact Ar62.1) (State.isArrayOf_alike hZ.alike Ar62.2.1) Ar62.2.2 hin62 hat62 (g := (mkF m 188 #[vi p0, vi p1, vi p2, vi p3, vi p4, vi p5, vi n, vr b1, vr r23, vi z158, vi z179, .unset, .unset] [(.int 1), (.ref b1)])) rfl rfl (hb hby at_188) t k) ?_
      obtain ⟨_, _, ⟨T63, L63, k63, n63⟩, -, X63, ⟨Lc63, hQ63, l63, y63, z63⟩, st63⟩ := Jvm.LawKit.callS X179j hx (y := nM39) hown (mvT hZ (ow hw 77 rfl)) (mvT hZ (ow hw 78 rfl)) (mvT hZ (ow hw 3 rfl)) (mvT hZ (ow hw 79 rfl)) (by decide) (backOf (W := 0) (rm17 l Z a0 hw [] cc5 h23 n0 (Nat.le_trans Z0 K23.1)) hZ (ow hw 79 rfl) (ow hw 3 rfl) (by decide) (by decide)) (g := (mkF m 189 #[vi p0, vi p1, vi p2, vi p3, vi p4, vi p5, vi n, vr b1, vr r23, vi z158, vi z179, .unset, .unset] [(.int cc5)])) rfl (by rw [hml]; rfl) (argsL := [(.int cc5)]) (rest := []) (lenOf pd_22 rfl) rfl (omw rfl rfl) (hb hby at_189) (fun _ _ => ⟨rfl, e179j, (by decide : 7 + 0 ≤ _), (by decide : 29 + 0 ≤ _)⟩)
      dsimp only [Pt.U, Pt.locs, Pt.cells, Pt.slots] at X63 l63 y63 z63 st63 hQ63
      subst l63 y63 z63
      obtain ⟨rfl, N63q, e63q⟩ := hQ63
      have N63 := Fr.app N179j N63q
      refine step (T63.setTop (mkF m 192 #[vi p0, vi p1, vi p2, vi p3, vi p4, vi p5, vi n, vr b1, vr r23, vi z158, vi z179, .unset, .unset] [(.int (own_xs cc5))])) (fun t k => st63 t k) ?_
      by_cases hc192_64 : (own_xs cc5) = (0 : Int32)
      · -- pc 192: (own_xs cc5) = (0 : Int32) True
        refine step (T63.setTop (mkF m 195 #[vi p0, vi p1, vi p2, vi p3, vi p4, vi p5, vi n, vr b1, vr r23, vi z158, vi z179, .unset, .unset] [])) (fun t k => XS.ifNo X63.here hx rfl (hb hby at_192) rfl ((if0 _ _).trans (teq hc192_64).2) k) ?_
        refine oic KK X63 at_195 2 196 rfl rfl ?_
        refine oiS KK X63 at_196 #[vi p0, vi p1, vi p2, vi p3, vi p4, vi p5, vi n, vr b1, vr r23, vi z158, vi 2, .unset, .unset] 198 rfl rfl ?_
        exact J198 _ _ _ X63 e63q N63 (by simp only [if_pos hc182_60, if_pos hc192_64])
      · -- pc 192: (own_xs cc5) = (0 : Int32) False
        refine step (T63.setTop (mkF m 198 #[vi p0, vi p1, vi p2, vi p3, vi p4, vi p5, vi n, vr b1, vr r23, vi z158, vi z179, .unset, .unset] [])) (fun t k => XS.ifYes X63.here hx rfl (pc0 := 192) (pc' := 198) rfl (hb hby at_192) rfl ((if0 _ _).trans (feq hc192_64).2) (by decide) (by decide) k) ?_
        exact J198 _ _ _ X63 e63q N63 (by simp only [if_pos hc182_60, if_neg hc192_64])
    · -- pc 182: (1 : Int32) < n False
      refine oiy KK X179j at_182 198 (flt hc182_60).2.2.2 (by decide) rfl ?_
      exact J198 _ _ _ X179j e179j N179j (by simp only [if_neg hc182_60])
  intro T198j LL198j z198 X198j e198j N198j hz198
  suffices J217 : ∀ (T217j : State) (LL : List Loc) (z217 : Int32), Stand p l e room_1 (s.setVm T23.vm) m #[.int p0, .int p1, .int p2, .int p3, .int p4, .int p5] below meth c T217j LL 7 29 → T217j.heap = h23 → Fr n0 LL → z217 = (if (2 : Int32) < n then (if (own_xs cc8) = (0 : Int32) then (3 : Int32) else z198) else z198) → G (T217j.setTop (mkF m 217 #[vi p0, vi p1, vi p2, vi p3, vi p4, vi p5, vi n, vr b1, vr r23, vi z158, vi z217, .unset, .unset] [])) by
    refine oiL KK X198j at_198 n 200 rfl rfl ?_
    refine oic KK X198j at_200 2 201 rfl rfl ?_
    by_cases hc201_65 : (2 : Int32) < n
    · -- pc 201: (2 : Int32) < n True
      refine oin KK X198j at_201 204 rfl (tlt hc201_65).2.2.2 ?_
      refine oaL KK X198j at_204 (.ref b1) 206 rfl rfl rfl ?_
      refine oic KK X198j at_206 2 207 rfl rfl ?_
      have f66 := (Vx17.keep K23q nin0)
      obtain ⟨cl67, Ar67, q67, S67, N67n, H67, G67⟩ := id f66
      have hin67 : ¬ ((2 : Int32) < 0 ∨ cl67.slots.size ≤ ((2 : Int32)).toNatClampNeg) := inb_of S67 ⟨by decide, by decide⟩
      have hat67 : cl67.slots[((2 : Int32)).toNatClampNeg]? = some (.int cc8) := H67.at hin67 rfl
      refine step (T198j.setTop (mkF m 208 #[vi p0, vi p1, vi p2, vi p3, vi p4, vi p5, vi n, vr b1, vr r23, vi z158, vi z198, .unset, .unset] [(.int cc8)])) (fun t k => X198j.caload hx (j := (2 : Int32)) (v := (.int cc8)) (by rw [e198j]; exact Ar67.1) (State.isArrayOf_alike hZ.alike Ar67.2.1) Ar67.2.2 hin67 hat67 (g := (mkF m 207 #[vi p0, vi p1, vi p2, vi p3, vi p4, vi p5, vi n, vr b1, vr r23, vi z158, vi z198, .unset, .unset] [(.int 2), (.ref b1)])) rfl rfl (hb hby at_207) t k) ?_
      obtain ⟨_, _, ⟨T68, L68, k68, n68⟩, -, X68, ⟨Lc68, hQ68, l68, y68, z68⟩, st68⟩ := Jvm.LawKit.callS X198j hx (y := nM39) hown (mvT hZ (ow hw 77 rfl)) (mvT hZ (ow hw 78 rfl)) (mvT hZ (ow hw 3 rfl)) (mvT hZ (ow hw 79 rfl)) (by decide) (backOf (W := 0) (rm17 l Z a0 hw [] cc8 h23 n0 (Nat.le_trans Z0 K23.1)) hZ (ow hw 79 rfl) (ow hw 3 rfl) (by decide) (by decide)) (g := (mkF m 208 #[vi p0, vi p1, vi p2, vi p3, vi p4, vi p5, vi n, vr b1, vr r23, vi z158, vi z198, .unset, .unset] [(.int cc8)])) rfl (by rw [hml]; rfl) (argsL := [(.int cc8)]) (rest := []) (lenOf pd_22 rfl) rfl (omw rfl rfl) (hb hby at_208) (fun _ _ => ⟨rfl, e198j, (by decide : 7 + 0 ≤ _), (by decide : 29 + 0 ≤ _)⟩)
      dsimp only [Pt.U, Pt.locs, Pt.cells, Pt.slots] at X68 l68 y68 z68 st68 hQ68
      subst l68 y68 z68
      obtain ⟨rfl, N68q, e68q⟩ := hQ68
      have N68 := Fr.app N198j N68q
      refine step (T68.setTop (mkF m 211 #[vi p0, vi p1, vi p2, vi p3, vi p4, vi p5, vi n, vr b1, vr r23, vi z158, vi z198, .unset, .unset] [(.int (own_xs cc8))])) (fun t k => st68 t k) ?_
      by_cases hc211_69 : (own_xs cc8) = (0 : Int32)
      · -- pc 211: (own_xs cc8) = (0 : Int32) True
        refine step (T68.setTop (mkF m 214 #[vi p0, vi p1, vi p2, vi p3, vi p4, vi p5, vi n, vr b1, vr r23, vi z158, vi z198, .unset, .unset] [])) (fun t k => XS.ifNo X68.here hx rfl (hb hby at_211) rfl ((if0 _ _).trans (teq hc211_69).2) k) ?_
        refine oic KK X68 at_214 3 215 rfl rfl ?_
        refine oiS KK X68 at_215 #[vi p0, vi p1, vi p2, vi p3, vi p4, vi p5, vi n, vr b1, vr r23, vi z158, vi 3, .unset, .unset] 217 rfl rfl ?_
        exact J217 _ _ _ X68 e68q N68 (by simp only [if_pos hc201_65, if_pos hc211_69])
      · -- pc 211: (own_xs cc8) = (0 : Int32) False
        refine step (T68.setTop (mkF m 217 #[vi p0, vi p1, vi p2, vi p3, vi p4, vi p5, vi n, vr b1, vr r23, vi z158, vi z198, .unset, .unset] [])) (fun t k => XS.ifYes X68.here hx rfl (pc0 := 211) (pc' := 217) rfl (hb hby at_211) rfl ((if0 _ _).trans (feq hc211_69).2) (by decide) (by decide) k) ?_
        exact J217 _ _ _ X68 e68q N68 (by simp only [if_pos hc201_65, if_neg hc211_69])
    · -- pc 201: (2 : Int32) < n False
      refine oiy KK X198j at_201 217 (flt hc201_65).2.2.2 (by decide) rfl ?_
      exact J217 _ _ _ X198j e198j N198j (by simp only [if_neg hc201_65])
  intro T217j LL217j z217 X217j e217j N217j hz217
  suffices J236 : ∀ (T236j : State) (LL : List Loc) (z236 : Int32), Stand p l e room_1 (s.setVm T23.vm) m #[.int p0, .int p1, .int p2, .int p3, .int p4, .int p5] below meth c T236j LL 7 29 → T236j.heap = h23 → Fr n0 LL → z236 = (if (3 : Int32) < n then (if (own_xs cc11) = (0 : Int32) then (4 : Int32) else z217) else z217) → G (T236j.setTop (mkF m 236 #[vi p0, vi p1, vi p2, vi p3, vi p4, vi p5, vi n, vr b1, vr r23, vi z158, vi z236, .unset, .unset] [])) by
    refine oiL KK X217j at_217 n 219 rfl rfl ?_
    refine oic KK X217j at_219 3 220 rfl rfl ?_
    by_cases hc220_70 : (3 : Int32) < n
    · -- pc 220: (3 : Int32) < n True
      refine oin KK X217j at_220 223 rfl (tlt hc220_70).2.2.2 ?_
      refine oaL KK X217j at_223 (.ref b1) 225 rfl rfl rfl ?_
      refine oic KK X217j at_225 3 226 rfl rfl ?_
      have f71 := (Vx17.keep K23q nin0)
      obtain ⟨cl72, Ar72, q72, S72, N72n, H72, G72⟩ := id f71
      have hin72 : ¬ ((3 : Int32) < 0 ∨ cl72.slots.size ≤ ((3 : Int32)).toNatClampNeg) := inb_of S72 ⟨by decide, by decide⟩
      have hat72 : cl72.slots[((3 : Int32)).toNatClampNeg]? = some (.int cc11) := H72.at hin72 rfl
      refine step (T217j.setTop (mkF m 227 #[vi p0, vi p1, vi p2, vi p3, vi p4, vi p5, vi n, vr b1, vr r23, vi z158, vi z217, .unset, .unset] [(.int cc11)])) (fun t k => X217j.caload hx (j := (3 : Int32)) (v := (.int cc11)) (by rw [e217j]; exact Ar72.1) (State.isArrayOf_alike hZ.alike Ar72.2.1) Ar72.2.2 hin72 hat72 (g := (mkF m 226 #[vi p0, vi p1, vi p2, vi p3, vi p4, vi p5, vi n, vr b1, vr r23, vi z158, vi z217, .unset, .unset] [(.int 3), (.ref b1)])) rfl rfl (hb hby at_226) t k) ?_
      obtain ⟨_, _, ⟨T73, L73, k73, n73⟩, -, X73, ⟨Lc73, hQ73, l73, y73, z73⟩, st73⟩ := Jvm.LawKit.callS X217j hx (y := nM39) hown (mvT hZ (ow hw 77 rfl)) (mvT hZ (ow hw 78 rfl)) (mvT hZ (ow hw 3 rfl)) (mvT hZ (ow hw 79 rfl)) (by decide) (backOf (W := 0) (rm17 l Z a0 hw [] cc11 h23 n0 (Nat.le_trans Z0 K23.1)) hZ (ow hw 79 rfl) (ow hw 3 rfl) (by decide) (by decide)) (g := (mkF m 227 #[vi p0, vi p1, vi p2, vi p3, vi p4, vi p5, vi n, vr b1, vr r23, vi z158, vi z217, .unset, .unset] [(.int cc11)])) rfl (by rw [hml]; rfl) (argsL := [(.int cc11)]) (rest := []) (lenOf pd_22 rfl) rfl (omw rfl rfl) (hb hby at_227) (fun _ _ => ⟨rfl, e217j, (by decide : 7 + 0 ≤ _), (by decide : 29 + 0 ≤ _)⟩)
      dsimp only [Pt.U, Pt.locs, Pt.cells, Pt.slots] at X73 l73 y73 z73 st73 hQ73
      subst l73 y73 z73
      obtain ⟨rfl, N73q, e73q⟩ := hQ73
      have N73 := Fr.app N217j N73q
      refine step (T73.setTop (mkF m 230 #[vi p0, vi p1, vi p2, vi p3, vi p4, vi p5, vi n, vr b1, vr r23, vi z158, vi z217, .unset, .unset] [(.int (own_xs cc11))])) (fun t k => st73 t k) ?_
      by_cases hc230_74 : (own_xs cc11) = (0 : Int32)
      · -- pc 230: (own_xs cc11) = (0 : Int32) True
        refine step (T73.setTop (mkF m 233 #[vi p0, vi p1, vi p2, vi p3, vi p4, vi p5, vi n, vr b1, vr r23, vi z158, vi z217, .unset, .unset] [])) (fun t k => XS.ifNo X73.here hx rfl (hb hby at_230) rfl ((if0 _ _).trans (teq hc230_74).2) k) ?_
        refine oic KK X73 at_233 4 234 rfl rfl ?_
        refine oiS KK X73 at_234 #[vi p0, vi p1, vi p2, vi p3, vi p4, vi p5, vi n, vr b1, vr r23, vi z158, vi 4, .unset, .unset] 236 rfl rfl ?_
        exact J236 _ _ _ X73 e73q N73 (by simp only [if_pos hc220_70, if_pos hc230_74])
      · -- pc 230: (own_xs cc11) = (0 : Int32) False
        refine step (T73.setTop (mkF m 236 #[vi p0, vi p1, vi p2, vi p3, vi p4, vi p5, vi n, vr b1, vr r23, vi z158, vi z217, .unset, .unset] [])) (fun t k => XS.ifYes X73.here hx rfl (pc0 := 230) (pc' := 236) rfl (hb hby at_230) rfl ((if0 _ _).trans (feq hc230_74).2) (by decide) (by decide) k) ?_
        exact J236 _ _ _ X73 e73q N73 (by simp only [if_pos hc220_70, if_neg hc230_74])
    · -- pc 220: (3 : Int32) < n False
      refine oiy KK X217j at_220 236 (flt hc220_70).2.2.2 (by decide) rfl ?_
      exact J236 _ _ _ X217j e217j N217j (by simp only [if_neg hc220_70])
  intro T236j LL236j z236 X236j e236j N236j hz236
  suffices J255 : ∀ (T255j : State) (LL : List Loc) (z255 : Int32), Stand p l e room_1 (s.setVm T23.vm) m #[.int p0, .int p1, .int p2, .int p3, .int p4, .int p5] below meth c T255j LL 7 29 → T255j.heap = h23 → Fr n0 LL → z255 = (if (4 : Int32) < n then (if (own_xs cc14) = (0 : Int32) then (5 : Int32) else z236) else z236) → G (T255j.setTop (mkF m 255 #[vi p0, vi p1, vi p2, vi p3, vi p4, vi p5, vi n, vr b1, vr r23, vi z158, vi z255, .unset, .unset] [])) by
    refine oiL KK X236j at_236 n 238 rfl rfl ?_
    refine oic KK X236j at_238 4 239 rfl rfl ?_
    by_cases hc239_75 : (4 : Int32) < n
    · -- pc 239: (4 : Int32) < n True
      refine oin KK X236j at_239 242 rfl (tlt hc239_75).2.2.2 ?_
      refine oaL KK X236j at_242 (.ref b1) 244 rfl rfl rfl ?_
      refine oic KK X236j at_244 4 245 rfl rfl ?_
      have f76 := (Vx17.keep K23q nin0)
      obtain ⟨cl77, Ar77, q77, S77, N77n, H77, G77⟩ := id f76
      have hin77 : ¬ ((4 : Int32) < 0 ∨ cl77.slots.size ≤ ((4 : Int32)).toNatClampNeg) := inb_of S77 ⟨by decide, by decide⟩
      have hat77 : cl77.slots[((4 : Int32)).toNatClampNeg]? = some (.int cc14) := H77.at hin77 rfl
      refine step (T236j.setTop (mkF m 246 #[vi p0, vi p1, vi p2, vi p3, vi p4, vi p5, vi n, vr b1, vr r23, vi z158, vi z236, .unset, .unset] [(.int cc14)])) (fun t k => X236j.caload hx (j := (4 : Int32)) (v := (.int cc14)) (by rw [e236j]; exact Ar77.1) (State.isArrayOf_alike hZ.alike Ar77.2.1) Ar77.2.2 hin77 hat77 (g := (mkF m 245 #[vi p0, vi p1, vi p2, vi p3, vi p4, vi p5, vi n, vr b1, vr r23, vi z158, vi z236, .unset, .unset] [(.int 4), (.ref b1)])) rfl rfl (hb hby at_245) t k) ?_
      obtain ⟨_, _, ⟨T78, L78, k78, n78⟩, -, X78, ⟨Lc78, hQ78, l78, y78, z78⟩, st78⟩ := Jvm.LawKit.callS X236j hx (y := nM39) hown (mvT hZ (ow hw 77 rfl)) (mvT hZ (ow hw 78 rfl)) (mvT hZ (ow hw 3 rfl)) (mvT hZ (ow hw 79 rfl)) (by decide) (backOf (W := 0) (rm17 l Z a0 hw [] cc14 h23 n0 (Nat.le_trans Z0 K23.1)) hZ (ow hw 79 rfl) (ow hw 3 rfl) (by decide) (by decide)) (g := (mkF m 246 #[vi p0, vi p1, vi p2, vi p3, vi p4, vi p5, vi n, vr b1, vr r23, vi z158, vi z236, .unset, .unset] [(.int cc14)])) rfl (by rw [hml]; rfl) (argsL := [(.int cc14)]) (rest := []) (lenOf pd_22 rfl) rfl (omw rfl rfl) (hb hby at_246) (fun _ _ => ⟨rfl, e236j, (by decide : 7 + 0 ≤ _), (by decide : 29 + 0 ≤ _)⟩)
      dsimp only [Pt.U, Pt.locs, Pt.cells, Pt.slots] at X78 l78 y78 z78 st78 hQ78
      subst l78 y78 z78
      obtain ⟨rfl, N78q, e78q⟩ := hQ78
      have N78 := Fr.app N236j N78q
      refine step (T78.setTop (mkF m 249 #[vi p0, vi p1, vi p2, vi p3, vi p4, vi p5, vi n, vr b1, vr r23, vi z158, vi z236, .unset, .unset] [(.int (own_xs cc14))])) (fun t k => st78 t k) ?_
      by_cases hc249_79 : (own_xs cc14) = (0 : Int32)
      · -- pc 249: (own_xs cc14) = (0 : Int32) True
        refine step (T78.setTop (mkF m 252 #[vi p0, vi p1, vi p2, vi p3, vi p4, vi p5, vi n, vr b1, vr r23, vi z158, vi z236, .unset, .unset] [])) (fun t k => XS.ifNo X78.here hx rfl (hb hby at_249) rfl ((if0 _ _).trans (teq hc249_79).2) k) ?_
        refine oic KK X78 at_252 5 253 rfl rfl ?_
        refine oiS KK X78 at_253 #[vi p0, vi p1, vi p2, vi p3, vi p4, vi p5, vi n, vr b1, vr r23, vi z158, vi 5, .unset, .unset] 255 rfl rfl ?_
        exact J255 _ _ _ X78 e78q N78 (by simp only [if_pos hc239_75, if_pos hc249_79])
      · -- pc 249: (own_xs cc14) = (0 : Int32) False
        refine step (T78.setTop (mkF m 255 #[vi p0, vi p1, vi p2, vi p3, vi p4, vi p5, vi n, vr b1, vr r23, vi z158, vi z236, .unset, .unset] [])) (fun t k => XS.ifYes X78.here hx rfl (pc0 := 249) (pc' := 255) rfl (hb hby at_249) rfl ((if0 _ _).trans (feq hc249_79).2) (by decide) (by decide) k) ?_
        exact J255 _ _ _ X78 e78q N78 (by simp only [if_pos hc239_75, if_neg hc249_79])
    · -- pc 239: (4 : Int32) < n False
      refine oiy KK X236j at_239 255 (flt hc239_75).2.2.2 (by decide) rfl ?_
      exact J255 _ _ _ X236j e236j N236j (by simp only [if_neg hc239_75])
  intro T255j LL255j z255 X255j e255j N255j hz255
  refine oiL KK X255j at_255 z255 257 rfl rfl ?_
  refine oiL KK X255j at_257 z158 259 rfl rfl ?_
  refine step (T255j.setTop (mkF m 260 #[vi p0, vi p1, vi p2, vi p3, vi p4, vi p5, vi n, vr b1, vr r23, vi z158, vi z255, .unset, .unset] [(.int (z255 - z158))])) (fun t k => XS.isub X255j.here hx rfl (hb hby at_259) rfl k) ?_
  refine oic KK X255j at_260 0 261 rfl rfl ?_
  obtain ⟨_, _, ⟨T80, L80, k80, n80⟩, -, X80, ⟨Lc80, hQ80, l80, y80, z80⟩, st80⟩ := Jvm.LawKit.callS X255j hx (y := nM41) hown (mvT hZ (ow hw 30 rfl)) (mvT hZ (ow hw 31 rfl)) (mvT hZ (ow hw 32 rfl)) (mvT hZ (ow hw 33 rfl)) (by decide) (backOf (W := 0) (rm6_25 l Z a0 hw [] (z255 - z158) h23 n0 (Nat.le_trans Z0 K23.1) ) hZ (ow hw 33 rfl) (ow hw 32 rfl) (by decide) (by decide)) (g := (mkF m 261 #[vi p0, vi p1, vi p2, vi p3, vi p4, vi p5, vi n, vr b1, vr r23, vi z158, vi z255, .unset, .unset] [(.int 0), (.int (z255 - z158))])) rfl (by rw [hml]; rfl) (argsL := [(.int (z255 - z158)), (.int 0)]) (rest := []) (lenOf pd_7 rfl) rfl (omw rfl rfl) (hb hby at_261) (fun _ _ => ⟨rfl, e255j, (by decide : 7 + 0 ≤ _), (by decide : 29 + 0 ≤ _)⟩)
  dsimp only [Pt.U, Pt.locs, Pt.cells, Pt.slots] at X80 l80 y80 z80 st80 hQ80
  subst l80 y80 z80
  obtain ⟨z10_1_80, rfl, N80q, e80q, hz10_1_80⟩ := hQ80
  have N80 := Fr.app N255j N80q
  refine step (T80.setTop (mkF m 264 #[vi p0, vi p1, vi p2, vi p3, vi p4, vi p5, vi n, vr b1, vr r23, vi z158, vi z255, .unset, .unset] [(.int z10_1_80)])) (fun t k => st80 t k) ?_
  refine oiS KK X80 at_264 #[vi p0, vi p1, vi p2, vi p3, vi p4, vi p5, vi n, vr b1, vr r23, vi z158, vi z255, vi z10_1_80, .unset] 266 rfl rfl ?_
  refine oaL KK X80 at_266 (.ref r23) 268 rfl rfl rfl ?_
  have f82 := (Vx17.keep K23q nin0)
  have hl81_b1 := f82.lt
  obtain ⟨_, _, ⟨T81, L81, k81, n81⟩, -, X81', hS81', hg81, ⟨Lc81, hQ81, l81, y81, z81, hC81⟩, st81⟩ := callSS X80 hx (y := nM29) hown (mvT hZ (ow hw 34 rfl)) (mvT hZ (ow hw 35 rfl)) (mvT hZ (ow hw 36 rfl)) (mvT hZ (ow hw 37 rfl)) (by decide) (backOfSH (W := 0) (rm7 l Z a0 hw [] r23 rb23 rk23 xs n rco23 rN23 rbs23 cs fo h23 n0 (Nat.le_trans Z0 K23.1) Er23 Fr23 Fw23 Vr23 os23 f25 c_cs f26 r_fo f27 f28 f29) hZ (ow hw 37 rfl) (ow hw 36 rfl) (by decide) (by decide) (own_EWs hw) C23.1) (g := (mkF m 268 #[vi p0, vi p1, vi p2, vi p3, vi p4, vi p5, vi n, vr b1, vr r23, vi z158, vi z255, vi z10_1_80, .unset] [(.ref r23)])) rfl (by rw [hml]; rfl) (argsL := [(.ref r23)]) (rest := []) (lenOf pd_31 rfl) rfl (omw rfl rfl) (hb hby at_268) (fun _ _ => ⟨rfl, e80q, (by decide : 7 + 3 ≤ _), (by decide : 29 + 19 ≤ _)⟩)
  dsimp only [Pt.U, Pt.locs, Pt.cells, Pt.slots] at X81' hS81' hg81 l81 y81 z81 st81 hQ81 hC81
  subst l81 y81 z81
  obtain ⟨X81, hS81, hZ81, hown81⟩ := rebS hS (Nat.le_trans hk23 (Nat.le_of_eq (congrArg Array.size e80q.symm))) X81' hS81' hg81 hZ hown
  replace hS := hS81
  replace hZ : Z.Warmed39 T81.vm := hZ81
  replace hown : T81.vm.findClass "org/vouchsafe/DomTrimmedPinLaw" = some m.cls := hown81
  obtain ⟨h81, e81⟩ : ∃ z, T81.heap = z := ⟨_, rfl⟩
  rw [e81] at hQ81
  obtain ⟨r81, rb81, rk81, rco81, rN81, rbs81, rfl, N81q, K81q, Er81, Fr81, Fw81, Vr81, os81⟩ := hQ81
  have N81 := Fr.app N80 N81q
  have K81 : Keep h0 h81 [] := K23.trans K81q all0
  have f83 := own_staK f25 K81q all0
  have f84 := own_staK f26 K81q all0
  have f85 := own_staK f27 K81q all0
  have f86 := own_staK f28 K81q all0
  have f87 := own_staK f29 K81q all0
  rw [e81] at hC81
  have C81 := C23.trans hC81
  have Sf81_b1 := hC81.safe hl81_b1 Sf23_b1
  have hk81 : T81.heap.size ≤ h81.size := Nat.le_of_eq (congrArg Array.size e81)
  refine step (T81.setTop (mkF m 271 #[vi p0, vi p1, vi p2, vi p3, vi p4, vi p5, vi n, vr b1, vr r23, vi z158, vi z255, vi z10_1_80, .unset] [(.ref r81)])) (fun t k => st81.trans k) ?_
  obtain ⟨tb, htb⟩ : ∃ z, own_tb xs n = z := ⟨_, rfl⟩
  obtain ⟨tz, htz⟩ : ∃ z, own_tz xs n = z := ⟨_, rfl⟩
  rw [htb, htz] at os81
  obtain ⟨ys, hys⟩ : ∃ z, own_cut xs tb tz = z := ⟨_, rfl⟩
  rw [hys] at os81
  have hFS : own_FS [cc2, cc5, cc8, cc11, cc14] n 0 z158 := own_fsS 0 (by decide) rfl (own_fsS 1 (by decide) rfl (own_fsS 2 (by decide) rfl (own_fsS 3 (by decide) rfl (own_fsS 4 (by decide) rfl (own_fs0 [cc2, cc5, cc8, cc11, cc14] (k := 5) hn0 hn5) hz83) hz102) hz121) hz140) hz158
  have hLS : own_LS [cc2, cc5, cc8, cc11, cc14] n 5 z255 := own_lsS 4 (by decide) (by decide) rfl (own_lsS 3 (by decide) (by decide) rfl (own_lsS 2 (by decide) (by decide) rfl (own_lsS 1 (by decide) (by decide) rfl (own_lsS 0 (by decide) (by decide) rfl (own_ls0 [cc2, cc5, cc8, cc11, cc14] hn0) hz179) hz198) hz217) hz236) hz255
  obtain ⟨lawA, lawB⟩ := own_lawA os23 hxs hn0 hFS hLS hz10_1_80 htb htz hys
  refine step (T81.setTop (mkF m 273 #[vi p0, vi p1, vi p2, vi p3, vi p4, vi p5, vi n, vr b1, vr r23, vi z158, vi z255, vi z10_1_80, vr r81] [])) (fun t k => XS.astore X81.here hx rfl (hb hby at_271) rfl rfl (l' := #[vi p0, vi p1, vi p2, vi p3, vi p4, vi p5, vi n, vr b1, vr r23, vi z158, vi z255, vi z10_1_80, vr r81]) rfl k) ?_
  refine oaL KK X81 at_273 (.ref r81) 275 rfl rfl rfl ?_
  obtain ⟨cq88, kq88, q88a, q88b, q88c⟩ := isOf hZ e81 Er81
  obtain ⟨_, _, ⟨T88, L88, k88, n88⟩, -, X88, ⟨Lc88, hQ88, l88, y88, z88⟩, st88⟩ := X81.virtualBack hx (y := nM10) (z := nM10) hown (mvT hZ (ow hw 63 rfl)) (mvT hZ (ow hw 39 rfl)) (notFace_of_selects (args := #[]) (mvT hZ (ow hw 41 rfl))) (mvT hZ (ow hw 41 rfl)) (mvT hZ (ow hw 40 rfl)) (by decide) (backOf (W := 0) (rm8 l Z a0 hw [] r81 rb81 rk81 ys (tz - tb) rco81 rN81 rbs81 cs fo h81 n0 (Nat.le_trans Z0 K81.1) Er81 Fr81 Fw81 Vr81 os81 f83 c_cs f84 r_fo f85 f86 f87) hZ (ow hw 42 rfl) (ow hw 11 rfl) (by decide) (by decide)) q88a q88c (g := (mkF m 275 #[vi p0, vi p1, vi p2, vi p3, vi p4, vi p5, vi n, vr b1, vr r23, vi z158, vi z255, vi z10_1_80, vr r81] [(.ref r81)])) rfl (by rw [hml]; rfl) (Steps.refl _) (argsL := []) (rest := []) (lenOf pd_18 rfl) rfl (omw rfl rfl) (hb hby at_275) (fun _ _ => ⟨rfl, e81, (by decide : 10 + 0 ≤ _), (by decide : 48 + 0 ≤ _)⟩)
  dsimp only [Pt.U, Pt.locs, Pt.cells, Pt.slots] at X88 l88 y88 z88 st88 hQ88
  subst l88 y88 z88
  obtain ⟨rfl, N88q, e88q⟩ := hQ88
  have N88 := Fr.app N81 N88q
  refine step (T88.setTop (mkF m 278 #[vi p0, vi p1, vi p2, vi p3, vi p4, vi p5, vi n, vr b1, vr r23, vi z158, vi z255, vi z10_1_80, vr r81] [(.int (tz - tb))])) (fun t k => st88.trans k) ?_
  refine oiL KK X88 at_278 z10_1_80 280 rfl rfl ?_
  have hc280_89 : (tz - tb) = z10_1_80 := lawA
  refine oiy KK X88 at_280 285 (teq hc280_89).1 (by decide) rfl ?_
  refine oaL KK X88 at_285 (.ref r81) 287 rfl rfl rfl ?_
  refine oic KK X88 at_287 0 288 rfl rfl ?_
  refine oaL KK X88 at_288 (.ref b1) 290 rfl rfl rfl ?_
  refine oiL KK X88 at_290 z158 292 rfl rfl ?_
  have f90 := (f82.keep K81q nin0)
  obtain ⟨_, _, ⟨T91, L91, k91, n91⟩, -, X91, ⟨Lc91, hQ91, l91, y91, z91⟩, st91⟩ := Jvm.LawKit.callS X88 hx (y := nM40) hown (mvT hZ (ow hw 64 rfl)) (mvT hZ (ow hw 65 rfl)) (mvT hZ (ow hw 3 rfl)) (mvT hZ (ow hw 66 rfl)) (by decide) (backOf (W := 0) (rm13 l Z a0 hw [] r81 rb81 rk81 ys (tz - tb) rco81 rN81 rbs81 b1 k1 [cc2, cc5, cc8, cc11, cc14] (0 : Int32) z158 cs fo h81 n0 (Nat.le_trans Z0 K81.1) Er81 Fr81 Fw81 Vr81 os81 f90 (by decide) (lawB (0 : Int32) (by decide)) f83 c_cs f84 r_fo f85 f86 f87) hZ (ow hw 66 rfl) (ow hw 3 rfl) (by decide) (by decide)) (g := (mkF m 292 #[vi p0, vi p1, vi p2, vi p3, vi p4, vi p5, vi n, vr b1, vr r23, vi z158, vi z255, vi z10_1_80, vr r81] [(.int z158), (.ref b1), (.int 0), (.ref r81)])) rfl (by rw [hml]; rfl) (argsL := [(.ref r81), (.int 0), (.ref b1), (.int z158)]) (rest := []) (lenOf pd_32 rfl) rfl (omw rfl rfl) (hb hby at_292) (fun _ _ => ⟨rfl, e88q, (by decide : 10 + 0 ≤ _), (by decide : 48 + 0 ≤ _)⟩)
  dsimp only [Pt.U, Pt.locs, Pt.cells, Pt.slots] at X91 l91 y91 z91 st91 hQ91
  subst l91 y91 z91
  obtain ⟨rfl, N91q, e91q⟩ := hQ91
  have N91 := Fr.app N88 N91q
  refine step (T91.setTop (mkF m 295 #[vi p0, vi p1, vi p2, vi p3, vi p4, vi p5, vi n, vr b1, vr r23, vi z158, vi z255, vi z10_1_80, vr r81] [(.int 1)])) (fun t k => st91 t k) ?_
  refine step (T91.setTop (mkF m 298 #[vi p0, vi p1, vi p2, vi p3, vi p4, vi p5, vi n, vr b1, vr r23, vi z158, vi z255, vi z10_1_80, vr r81] [])) (fun t k => XS.ifNo X91.here hx rfl (hb hby at_295) rfl ((if0 _ _).trans (feq (by decide : ¬ ((1 : Int32) = (0 : Int32)))).1) k) ?_
  refine oaL KK X91 at_298 (.ref r81) 300 rfl rfl rfl ?_
  refine oic KK X91 at_300 1 301 rfl rfl ?_
  refine oaL KK X91 at_301 (.ref b1) 303 rfl rfl rfl ?_
  refine oiL KK X91 at_303 z158 305 rfl rfl ?_
  obtain ⟨_, _, ⟨T92, L92, k92, n92⟩, -, X92, ⟨Lc92, hQ92, l92, y92, z92⟩, st92⟩ := Jvm.LawKit.callS X91 hx (y := nM40) hown (mvT hZ (ow hw 64 rfl)) (mvT hZ (ow hw 65 rfl)) (mvT hZ (ow hw 3 rfl)) (mvT hZ (ow hw 66 rfl)) (by decide) (backOf (W := 0) (rm13 l Z a0 hw [] r81 rb81 rk81 ys (tz - tb) rco81 rN81 rbs81 b1 k1 [cc2, cc5, cc8, cc11, cc14] (1 : Int32) z158 cs fo h81 n0 (Nat.le_trans Z0 K81.1) Er81 Fr81 Fw81 Vr81 os81 f90 (by decide) (lawB (1 : Int32) (by decide)) f83 c_cs f84 r_fo f85 f86 f87) hZ (ow hw 66 rfl) (ow hw 3 rfl) (by decide) (by decide)) (g := (mkF m 305 #[vi p0, vi p1, vi p2, vi p3, vi p4, vi p5, vi n, vr b1, vr r23, vi z158, vi z255, vi z10_1_80, vr r81] [(.int z158), (.ref b1), (.int 1), (.ref r81)])) rfl (by rw [hml]; rfl) (argsL := [(.ref r81), (.int 1), (.ref b1), (.int z158)]) (rest := []) (lenOf pd_32 rfl) rfl (omw rfl rfl) (hb hby at_305) (fun _ _ => ⟨rfl, e91q, (by decide : 10 + 0 ≤ _), (by decide : 48 + 0 ≤ _)⟩)
  dsimp only [Pt.U, Pt.locs, Pt.cells, Pt.slots] at X92 l92 y92 z92 st92 hQ92
  subst l92 y92 z92
  obtain ⟨rfl, N92q, e92q⟩ := hQ92
  have N92 := Fr.app N91 N92q
  refine step (T92.setTop (mkF m 308 #[vi p0, vi p1, vi p2, vi p3, vi p4, vi p5, vi n, vr b1, vr r23, vi z158, vi z255, vi z10_1_80, vr r81] [(.int 1)])) (fun t k => st92 t k) ?_
  refine step (T92.setTop (mkF m 311 #[vi p0, vi p1, vi p2, vi p3, vi p4, vi p5, vi n, vr b1, vr r23, vi z158, vi z255, vi z10_1_80, vr r81] [])) (fun t k => XS.ifNo X92.here hx rfl (hb hby at_308) rfl ((if0 _ _).trans (feq (by decide : ¬ ((1 : Int32) = (0 : Int32)))).1) k) ?_
  refine oaL KK X92 at_311 (.ref r81) 313 rfl rfl rfl ?_
  refine oic KK X92 at_313 2 314 rfl rfl ?_
  refine oaL KK X92 at_314 (.ref b1) 316 rfl rfl rfl ?_
  refine oiL KK X92 at_316 z158 318 rfl rfl ?_
  obtain ⟨_, _, ⟨T93, L93, k93, n93⟩, -, X93, ⟨Lc93, hQ93, l93, y93, z93⟩, st93⟩ := Jvm.LawKit.callS X92 hx (y := nM40) hown (mvT hZ (ow hw 64 rfl)) (mvT hZ (ow hw 65 rfl)) (mvT hZ (ow hw 3 rfl)) (mvT hZ (ow hw 66 rfl)) (by decide) (backOf (W := 0) (rm13 l Z a0 hw [] r81 rb81 rk81 ys (tz - tb) rco81 rN81 rbs81 b1 k1 [cc2, cc5, cc8, cc11, cc14] (2 : Int32) z158 cs fo h81 n0 (Nat.le_trans Z0 K81.1) Er81 Fr81 Fw81 Vr81 os81 f90 (by decide) (lawB (2 : Int32) (by decide)) f83 c_cs f84 r_fo f85 f86 f87) hZ (ow hw 66 rfl) (ow hw 3 rfl) (by decide) (by decide)) (g := (mkF m 318 #[vi p0, vi p1, vi p2, vi p3, vi p4, vi p5, vi n, vr b1, vr r23, vi z158, vi z255, vi z10_1_80, vr r81] [(.int z158), (.ref b1), (.int 2), (.ref r81)])) rfl (by rw [hml]; rfl) (argsL := [(.ref r81), (.int 2), (.ref b1), (.int z158)]) (rest := []) (lenOf pd_32 rfl) rfl (omw rfl rfl) (hb hby at_318) (fun _ _ => ⟨rfl, e92q, (by decide : 10 + 0 ≤ _), (by decide : 48 + 0 ≤ _)⟩)
  dsimp only [Pt.U, Pt.locs, Pt.cells, Pt.slots] at X93 l93 y93 z93 st93 hQ93
  subst l93 y93 z93
  obtain ⟨rfl, N93q, e93q⟩ := hQ93
  have N93 := Fr.app N92 N93q
  refine step (T93.setTop (mkF m 321 #[vi p0, vi p1, vi p2, vi p3, vi p4, vi p5, vi n, vr b1, vr r23, vi z158, vi z255, vi z10_1_80, vr r81] [(.int 1)])) (fun t k => st93 t k) ?_
  refine step (T93.setTop (mkF m 324 #[vi p0, vi p1, vi p2, vi p3, vi p4, vi p5, vi n, vr b1, vr r23, vi z158, vi z255, vi z10_1_80, vr r81] [])) (fun t k => XS.ifNo X93.here hx rfl (hb hby at_321) rfl ((if0 _ _).trans (feq (by decide : ¬ ((1 : Int32) = (0 : Int32)))).1) k) ?_
  refine oaL KK X93 at_324 (.ref r81) 326 rfl rfl rfl ?_
  refine oic KK X93 at_326 3 327 rfl rfl ?_
  refine oaL KK X93 at_327 (.ref b1) 329 rfl rfl rfl ?_
  refine oiL KK X93 at_329 z158 331 rfl rfl ?_
  obtain ⟨_, _, ⟨T94, L94, k94, n94⟩, -, X94, ⟨Lc94, hQ94, l94, y94, z94⟩, st94⟩ := Jvm.LawKit.callS X93 hx (y := nM40) hown (mvT hZ (ow hw 64 rfl)) (mvT hZ (ow hw 65 rfl)) (mvT hZ (ow hw 3 rfl)) (mvT hZ (ow hw 66 rfl)) (by decide) (backOf (W := 0) (rm13 l Z a0 hw [] r81 rb81 rk81 ys (tz - tb) rco81 rN81 rbs81 b1 k1 [cc2, cc5, cc8, cc11, cc14] (3 : Int32) z158 cs fo h81 n0 (Nat.le_trans Z0 K81.1) Er81 Fr81 Fw81 Vr81 os81 f90 (by decide) (lawB (3 : Int32) (by decide)) f83 c_cs f84 r_fo f85 f86 f87) hZ (ow hw 66 rfl) (ow hw 3 rfl) (by decide) (by decide)) (g := (mkF m 331 #[vi p0, vi p1, vi p2, vi p3, vi p4, vi p5, vi n, vr b1, vr r23, vi z158, vi z255, vi z10_1_80, vr r81] [(.int z158), (.ref b1), (.int 3), (.ref r81)])) rfl (by rw [hml]; rfl) (argsL := [(.ref r81), (.int 3), (.ref b1), (.int z158)]) (rest := []) (lenOf pd_32 rfl) rfl (omw rfl rfl) (hb hby at_331) (fun _ _ => ⟨rfl, e93q, (by decide : 10 + 0 ≤ _), (by decide : 48 + 0 ≤ _)⟩)
  dsimp only [Pt.U, Pt.locs, Pt.cells, Pt.slots] at X94 l94 y94 z94 st94 hQ94
  subst l94 y94 z94
  obtain ⟨rfl, N94q, e94q⟩ := hQ94
  have N94 := Fr.app N93 N94q
  refine step (T94.setTop (mkF m 334 #[vi p0, vi p1, vi p2, vi p3, vi p4, vi p5, vi n, vr b1, vr r23, vi z158, vi z255, vi z10_1_80, vr r81] [(.int 1)])) (fun t k => st94 t k) ?_
  refine step (T94.setTop (mkF m 337 #[vi p0, vi p1, vi p2, vi p3, vi p4, vi p5, vi n, vr b1, vr r23, vi z158, vi z255, vi z10_1_80, vr r81] [])) (fun t k => XS.ifNo X94.here hx rfl (hb hby at_334) rfl ((if0 _ _).trans (feq (by decide : ¬ ((1 : Int32) = (0 : Int32)))).1) k) ?_
  refine oaL KK X94 at_337 (.ref r81) 339 rfl rfl rfl ?_
  refine oic KK X94 at_339 4 340 rfl rfl ?_
  refine oaL KK X94 at_340 (.ref b1) 342 rfl rfl rfl ?_
  refine oiL KK X94 at_342 z158 344 rfl rfl ?_
  obtain ⟨_, _, ⟨T95, L95, k95, n95⟩, -, X95, ⟨Lc95, hQ95, l95, y95, z95⟩, st95⟩ := Jvm.LawKit.callS X94 hx (y := nM40) hown (mvT hZ (ow hw 64 rfl)) (mvT hZ (ow hw 65 rfl)) (mvT hZ (ow hw 3 rfl)) (mvT hZ (ow hw 66 rfl)) (by decide) (backOf (W := 0) (rm13 l Z a0 hw [] r81 rb81 rk81 ys (tz - tb) rco81 rN81 rbs81 b1 k1 [cc2, cc5, cc8, cc11, cc14] (4 : Int32) z158 cs fo h81 n0 (Nat.le_trans Z0 K81.1) Er81 Fr81 Fw81 Vr81 os81 f90 (by decide) (lawB (4 : Int32) (by decide)) f83 c_cs f84 r_fo f85 f86 f87) hZ (ow hw 66 rfl) (ow hw 3 rfl) (by decide) (by decide)) (g := (mkF m 344 #[vi p0, vi p1, vi p2, vi p3, vi p4, vi p5, vi n, vr b1, vr r23, vi z158, vi z255, vi z10_1_80, vr r81] [(.int z158), (.ref b1), (.int 4), (.ref r81)])) rfl (by rw [hml]; rfl) (argsL := [(.ref r81), (.int 4), (.ref b1), (.int z158)]) (rest := []) (lenOf pd_32 rfl) rfl (omw rfl rfl) (hb hby at_344) (fun _ _ => ⟨rfl, e94q, (by decide : 10 + 0 ≤ _), (by decide : 48 + 0 ≤ _)⟩)
  dsimp only [Pt.U, Pt.locs, Pt.cells, Pt.slots] at X95 l95 y95 z95 st95 hQ95
  subst l95 y95 z95
  obtain ⟨rfl, N95q, e95q⟩ := hQ95
  have N95 := Fr.app N94 N95q
  refine step (T95.setTop (mkF m 347 #[vi p0, vi p1, vi p2, vi p3, vi p4, vi p5, vi n, vr b1, vr r23, vi z158, vi z255, vi z10_1_80, vr r81] [(.int 1)])) (fun t k => st95 t k) ?_
  refine step (T95.setTop (mkF m 350 #[vi p0, vi p1, vi p2, vi p3, vi p4, vi p5, vi n, vr b1, vr r23, vi z158, vi z255, vi z10_1_80, vr r81] [])) (fun t k => XS.ifNo X95.here hx rfl (hb hby at_347) rfl ((if0 _ _).trans (feq (by decide : ¬ ((1 : Int32) = (0 : Int32)))).1) k) ?_
  refine oic KK X95 at_350 1 351 rfl rfl ?_
  refine ogo KK X95 at_351 355 (by decide) rfl ?_
  refine fin (v := some (.int (nar .boolean (1 : Int32)))) X95 hS (Nat.le_trans hk81 (Nat.le_of_eq (congrArg Array.size e95q.symm))) hZ (by rw [e95q]; exact C81) (fun h => by cases h) ?_ (by decide) (by decide) (fun fs hr => retN X95 hx (t := .boolean) hret (by simp) (hb hby at_355) hr)
  show Q0 Z p0 p1 p2 p3 p4 p5 cs fo h0 n0 (some (.int (nar .boolean (1 : Int32)))) T95.heap _
  rw [e95q]
  exact ⟨own_fin rfl, N95⟩
set_option maxRecDepth 65536 in
set_option maxHeartbeats 40000000 in
theorem comes_1 {Post : Tables → Env → Array Value → State → Outcome → State → Prop} (hpost : ∀ tb e args s v u, (limb_1_1.after args s (.returned v) u = true ∧ limb_1_2.after args s (.returned v) u = true ∧ True) → ReturnedEndW s (.returned v) u (Jvm.fieldLocs frame_1_writes args s ++ Jvm.arrayLocs frame_1_arrays args s ++ Jvm.staticLocs frame_1_statics s) 32 2240 → Post tb e args s (.returned v) u) :
    ArmFor flags0 classFile x code maxLocals ret World_1 tables_1 room_1 Calls_1 rest_1 Pre_1 Post := by
  intro l hfl _ _ p e ha hc hk s m args below hf hA hF happ hP
  obtain ⟨hcalls, hrest, hpre⟩ := hP
  obtain ⟨-, -, -, hnamed, -, -, -, hat⟩ := (Spec.applies_iff hf).mp happ
  obtain ⟨hg, hn⟩ := and_e (Cond.before_iff.mp (show (Jvm.Cond.and given_1 narrow_1).before args s = true from hpre))
  obtain ⟨hcount, hr0⟩ := and_e hg
  obtain ⟨ha0, hr1⟩ := and_e hr0
  obtain ⟨ha1, hr2⟩ := and_e hr1
  obtain ⟨ha2, hr3⟩ := and_e hr2
  obtain ⟨ha3, hr4⟩ := and_e hr3
  obtain ⟨ha4, hr5⟩ := and_e hr4
  have ha5 := hr5
  obtain ⟨w0, w1, w2, w3, w4, w5, rfl⟩ : ∃ w0 w1 w2 w3 w4 w5 : Value, args = #[w0, w1, w2, w3, w4, w5] := by
    have hs : args.size = 6 := by simpa [Cond.value, given_1] using hcount
    obtain ⟨L⟩ := args
    match L, hs with
    | [w0, w1, w2, w3, w4, w5], _ => exact ⟨w0, w1, w2, w3, w4, w5, rfl⟩
  have hw := fun d (hd : d ∈ tables_1) => atoms_spec (ws := Jvm.Cond.code x code maxLocals ret :: tables_1) hat d (List.mem_cons_of_mem _ hd)
  have hfit : Fit s := fun {y c} hc i hi => by
    obtain ⟨ha, rfl⟩ := Array.getElem?_eq_some_iff.mp hc
    have q := List.all_eq_true.mp ((Array.all_eq_true_iff_forall_mem.mp hF) _ (Array.getElem_mem ha)) i (List.mem_range.mpr hi)
    simpa [Array.getElem?_eq_getElem hi] using q
  obtain ⟨hsets, hown0⟩ := atoms_of _ (rest_1_c_eq ▸ (show rest_1_c.before _ s = true from hrest))
  have hr00 := Cond.before_iff.mp hown0
  obtain ⟨i0, ei0⟩ := is_v ha0
  obtain rfl : w0 = (.int i0) := Option.some.inj ei0
  obtain ⟨i1, ei1⟩ := is_v ha1
  obtain rfl : w1 = (.int i1) := Option.some.inj ei1
  obtain ⟨i2, ei2⟩ := is_v ha2
  obtain rfl : w2 = (.int i2) := Option.some.inj ei2
  obtain ⟨i3, ei3⟩ := is_v ha3
  obtain rfl : w3 = (.int i3) := Option.some.inj ei3
  obtain ⟨i4, ei4⟩ := is_v ha4
  obtain rfl : w4 = (.int i4) := Option.some.inj ei4
  obtain ⟨i5, ei5⟩ := is_v ha5
  obtain rfl : w5 = (.int i5) := Option.some.inj ei5
  have n3 := not_v (Cond.before_iff.mp (hsets _ (List.mem_of_getElem? (i := 2) rfl)))
  obtain ⟨cs, e6⟩ := is_v (Cond.before_iff.mp (hsets _ (List.mem_of_getElem? (i := 1) rfl)))
  have S_cs : Sta s s.heap "java/lang/String" "COMPACT_STRINGS" "Z" (.int cs) := Sta.start e6 (Or.inl (hsets _ (List.mem_of_getElem? (i := 0) rfl)))
  have c_cs : ¬ (cs = (0 : Int32)) := gotF (Cond.eq_ints e6 (Term.int_eval (0))) n3
  obtain ⟨fo, e_fo, r_fo⟩ := isR_v (Cond.before_iff.mp (hsets _ (List.mem_of_getElem? (i := 8) rfl)))
  have S_fo : Sta s s.heap "jdk/internal/util/Preconditions" "SIOOBE_FORMATTER" "Ljava/util/function/BiFunction;" fo := Sta.start e_fo (Or.inl (hsets _ (List.mem_of_getElem? (i := 7) rfl)))
  have S_ad : Sta s s.heap "java/lang/StringUTF16" "$assertionsDisabled" "Z" (.int 1) := Sta.start (own_eqi (Cond.before_iff.mp (hsets _ (List.mem_of_getElem? (i := 12) rfl)))) (Or.inl (hsets _ (List.mem_of_getElem? (i := 11) rfl)))
  have S_hi : Sta s s.heap "java/lang/StringUTF16" "HI_BYTE_SHIFT" "I" (.int 0) := Sta.start (own_eqi (Cond.before_iff.mp (hsets _ (List.mem_of_getElem? (i := 15) rfl)))) (Or.inl (hsets _ (List.mem_of_getElem? (i := 14) rfl)))
  have S_lo : Sta s s.heap "java/lang/StringUTF16" "LO_BYTE_SHIFT" "I" (.int 8) := Sta.start (own_eqi (Cond.before_iff.mp (hsets _ (List.mem_of_getElem? (i := 18) rfl)))) (Or.inl (hsets _ (List.mem_of_getElem? (i := 17) rfl)))
  have hCH : CHv s own_EL s.vm s.heap := CHv.start (own_EWs hw) (fun p hp => hcalls.1 p hp) (hsets _ (List.mem_of_getElem? (i := 2) rfl)) (ow hw 23 rfl) (ow hw 10 rfl)
  obtain ⟨n, o, h1, h2, h3, _, L, rfl, ⟨rfl, N⟩, -, hq⟩ := rm0 l s _ hw tables_1 i0 i1 i2 i3 i4 i5 cs fo s.heap s.heap.size (Nat.le_refl _) S_cs c_cs S_fo r_fo S_ad S_hi S_lo p e ha hc hk s m _ below hf ((Spec.applies_iff_loose hf).mp happ).1 ⟨rfl, State.Warmed39.refl s, rfl, hCH⟩ trivial
  refine ⟨n, _, h1, h2, h3, hpost _ _ _ _ _ _ ⟨Cond.after_iff.mpr rfl, Cond.after_iff.mpr (eq_i res_at (Term.int_eval (1)) rfl), trivial⟩ ⟨hq.1, hq.2.1, hq.2.2.1, (hq.2.2.2.sift fun y hy => Or.inr (N y hy)).mono (by decide) (by decide)⟩⟩
theorem main_1_1 : Claimed_1_1 := comes_1 fun _ _ _ _ _ _ h hF => ⟨h.1, hF⟩
theorem main_1_2 : Claimed_1_2 := comes_1 fun _ _ _ _ _ _ h hF => ⟨h.2.1, hF⟩
end Jvm.Pilot.@@N@@
namespace Jvm.Pilot.@@N@@
open Jvm Jvm.ClassFile Sem Op Lib Jvm.Free Jvm.Stand Jvm.Pilot.@@N@@.Jvm.D
/-! MADE BY PROGRAM (witnessworld.py) out of the Statement's table words and the real class files: 21 classes; the members and pool entries that the words name. The judged class is class 1, her method 5. -/
namespace start1
open Jvm.ClassFile
def u (s : String) : CpInfo := .utf8 (stringToUtf16 s)
/-- a pool by its gaps: so many unusable entries, then the entry; so many at the end -/
def gap : Nat → List CpInfo → List CpInfo
  | 0, r => r
  | n + 1, r => .unusable :: gap n r
def poolList (es : List (Nat × CpInfo)) (last : Nat) : List CpInfo := es.foldr (fun e r => gap e.1 (e.2 :: r)) (gap last [])
def pool (es : List (Nat × CpInfo)) (last : Nat) : Array CpInfo := ⟨poolList es last⟩
def fileOf (pool : Array CpInfo) (this : Nat) (attrs : Array Attribute := #[]) (ms : Array MethodInfo := #[]) (fl : Nat := 33) (sup : Nat := 0) (ifs : Array Nat := #[]) (fds : Array FieldInfo := #[]) : ClassFile where
  minorVersion := 0
  majorVersion := 65
  constantPool := pool
  accessFlags := fl
  thisClass := this
  superClass := sup
  interfaces := ifs
  fields := fds
  methods := ms
  attributes := attrs
def plain (name : String) (sup : Option ClassId) : Class where
  name := name
  kind := .ordinary
  loader := none
  accessFlags := 33
  super := sup
  interfaces := #[]
  cf := none
  fields := #[]
  methods := #[]
  instanceTypes := #[]
  staticTypes := #[]
  resolved := #[]
  callSites := []
  init := .initialized
  statics := none
  mirror := none

def pool0 : Array CpInfo := pool [(5, u "<init>"), (0, u "()V"), (1, .class_ 10), (1, u "java/lang/Object")] 113

def k0c0 : Code := { maxStack := 0, maxLocals := 1, code := object_method_1_code, exceptionTable := #[], attributes := #[] }
def k0m0 : Method := { name := "<init>", desc := "()V", sig := { parameters := [], returnType := none }, accessFlags := 1, code := some k0c0 }
/-- java/lang/Object -/
def k0 : Class := { plain "java/lang/Object" none with
  accessFlags := 33
  interfaces := #[]
  cf := some (fileOf pool0 8 #[] #[{ accessFlags := 1, nameIndex := 5, descriptorIndex := 6, attributes := #[] }] 33 0 #[] #[])
  fields := #[]
  methods := #[k0m0]
  instanceTypes := #[]
  staticTypes := #[]
  resolved := Array.replicate 124 none
  statics := none }

def pool1 : Array CpInfo := pool [(2, .class_ 4), (1, u "java/lang/Object"), (0, u "<init>"), (0, u "()V"), (0, .integer 65535), (0, .class_ 9), (0, u "java/lang/String"), (0, .methodref 8 11), (0, .nameAndType 5 12), (0, u "([C)V"), (0, .methodref 8 14), (0, .nameAndType 15 16), (0, u "length"), (0, u "()I"), (0, .methodref 8 18), (0, .nameAndType 19 20), (0, u "charAt"), (0, u "(I)C"), (0, .methodref 22 23), (0, .class_ 24), (0, .nameAndType 25 20), (0, u "org/vouchsafe/DomTrimmedPinLaw"), (0, u "draw"), (0, .methodref 22 27), (0, .nameAndType 28 29), (0, u "make"), (0, u "(I[C)Ljava/lang/String;"), (0, .methodref 22 31), (0, .nameAndType 32 33), (0, u "sp"), (0, u "(C)Z"), (0, .methodref 35 36), (0, .class_ 37), (0, .nameAndType 38 39), (0, u "java/lang/Math"), (0, u "max"), (0, u "(II)I"), (0, .methodref 41 42), (0, .class_ 43), (0, .nameAndType 44 45), (0, u "org/vouchsafe/Dom"), (0, u "trimmed"), (0, u "(Ljava/lang/String;)Ljava/lang/String;"), (0, .methodref 22 47), (0, .nameAndType 48 49), (0, u "same"), (0, u "(Ljava/lang/String;I[CI)Z"), (3, u "law"), (0, u "(IIIIII)Z")] 4

def k1m0 : Method := { name := "<init>", desc := "()V", sig := { parameters := [], returnType := none }, accessFlags := 2, code := none }
def k1c1 : Code := { maxStack := 2, maxLocals := 1, code := method_2_code, exceptionTable := #[], attributes := #[] }
def k1m1 : Method := { name := "sp", desc := "(C)Z", sig := { parameters := [.char], returnType := some .boolean }, accessFlags := 10, code := some k1c1 }
def k1c2 : Code := { maxStack := 2, maxLocals := 2, code := method_3_code, exceptionTable := #[], attributes := #[] }
def k1m2 : Method := { name := "draw", desc := "(I)C", sig := { parameters := [.int], returnType := some .char }, accessFlags := 10, code := some k1c2 }
def k1c3 : Code := { maxStack := 7, maxLocals := 2, code := method_4_code, exceptionTable := #[], attributes := #[] }
def k1m3 : Method := { name := "make", desc := "(I[C)Ljava/lang/String;", sig := { parameters := [.int, (.array .char)], returnType := some (.object "java/lang/String") }, accessFlags := 10, code := some k1c3 }
def k1c4 : Code := { maxStack := 4, maxLocals := 4, code := method_5_code, exceptionTable := #[], attributes := #[] }
def k1m4 : Method := { name := "same", desc := "(Ljava/lang/String;I[CI)Z", sig := { parameters := [(.object "java/lang/String"), .int, (.array .char), .int], returnType := some .boolean }, accessFlags := 10, code := some k1c4 }
def k1c5 : Code := { maxStack := 4, maxLocals := 13, code := code, exceptionTable := #[], attributes := #[] }
def k1m5 : Method := { name := "law", desc := "(IIIIII)Z", sig := { parameters := [.int, .int, .int, .int, .int, .int], returnType := some .boolean }, accessFlags := 9, code := some k1c5 }
/-- org/vouchsafe/DomTrimmedPinLaw -/
def k1 : Class := { plain "org/vouchsafe/DomTrimmedPinLaw" (some 0) with
  accessFlags := 49
  interfaces := #[]
  cf := some (fileOf pool1 22 #[] #[{ accessFlags := 2, nameIndex := 5, descriptorIndex := 6, attributes := #[] }, { accessFlags := 10, nameIndex := 32, descriptorIndex := 33, attributes := #[] }, { accessFlags := 10, nameIndex := 25, descriptorIndex := 20, attributes := #[] }, { accessFlags := 10, nameIndex := 28, descriptorIndex := 29, attributes := #[] }, { accessFlags := 10, nameIndex := 48, descriptorIndex := 49, attributes := #[] }, { accessFlags := 9, nameIndex := 53, descriptorIndex := 54, attributes := #[] }] 49 2 #[] #[])
  fields := #[]
  methods := #[k1m0, k1m1, k1m2, k1m3, k1m4, k1m5]
  instanceTypes := #[]
  staticTypes := #[]
  resolved := Array.replicate 59 none
  statics := none }

def pool2 : Array CpInfo := pool [(1, .class_ 2), (0, u "java/io/Serializable"), (0, .class_ 4), (0, u "java/lang/Object")] 2

/-- java/io/Serializable -/
def k2 : Class := { plain "java/io/Serializable" (some 0) with
  accessFlags := 1537
  interfaces := #[]
  cf := some (fileOf pool2 1 #[] #[] 1537 3 #[] #[])
  fields := #[]
  methods := #[]
  instanceTypes := #[]
  staticTypes := #[]
  resolved := Array.replicate 7 none
  statics := none }

def pool3 : Array CpInfo := pool [(1, .class_ 2), (0, u "java/lang/Comparable"), (0, .class_ 4), (0, u "java/lang/Object")] 7

/-- java/lang/Comparable -/
def k3 : Class := { plain "java/lang/Comparable" (some 0) with
  accessFlags := 1537
  interfaces := #[]
  cf := some (fileOf pool3 1 #[] #[] 1537 3 #[] #[])
  fields := #[]
  methods := #[]
  instanceTypes := #[]
  staticTypes := #[]
  resolved := Array.replicate 12 none
  statics := none }

def pool4 : Array CpInfo := pool [(2, .class_ 4), (1, u "java/lang/CharSequence"), (42, .class_ 48), (0, u "java/lang/CharSequence$1CodePointIterator"), (10, .class_ 60), (0, u "java/lang/CharSequence$1CharIterator"), (5, .class_ 67), (0, u "java/lang/Object")] 63

/-- java/lang/CharSequence -/
def k4 : Class := { plain "java/lang/CharSequence" (some 0) with
  accessFlags := 1537
  interfaces := #[]
  cf := some (fileOf pool4 2 #[.nestMembers #[47, 59]] #[] 1537 66 #[] #[])
  fields := #[]
  methods := #[]
  instanceTypes := #[]
  staticTypes := #[]
  resolved := Array.replicate 131 none
  statics := none }

def pool5 : Array CpInfo := pool [(1, .class_ 2), (0, u "java/lang/constant/Constable"), (0, .class_ 4), (0, u "java/lang/Object")] 6

/-- java/lang/constant/Constable -/
def k5 : Class := { plain "java/lang/constant/Constable" (some 0) with
  accessFlags := 1537
  interfaces := #[]
  cf := some (fileOf pool5 1 #[] #[] 1537 3 #[] #[])
  fields := #[]
  methods := #[]
  instanceTypes := #[]
  staticTypes := #[]
  resolved := Array.replicate 11 none
  statics := none }

def pool6 : Array CpInfo := pool [(1, .class_ 2), (0, u "java/lang/constant/ConstantDesc"), (0, .class_ 4), (0, u "java/lang/Object")] 32

/-- java/lang/constant/ConstantDesc -/
def k6 : Class := { plain "java/lang/constant/ConstantDesc" (some 0) with
  accessFlags := 1537
  interfaces := #[]
  cf := some (fileOf pool6 1 #[] #[] 1537 3 #[] #[])
  fields := #[]
  methods := #[]
  instanceTypes := #[]
  staticTypes := #[]
  resolved := Array.replicate 37 none
  statics := none }

def pool7 : Array CpInfo := pool [(1, .methodref 2 3), (0, .class_ 4), (0, .nameAndType 5 6), (0, u "java/lang/Object"), (0, u "<init>"), (0, u "()V"), (0, .string 8), (0, u ""), (0, .fieldref 10 11), (0, .class_ 12), (0, .nameAndType 13 14), (0, u "java/lang/String"), (0, u "value"), (0, u "[B"), (0, .fieldref 10 16), (0, .nameAndType 17 18), (0, u "coder"), (0, u "B"), (2, u "hash"), (0, u "I"), (2, u "hashIsZero"), (0, u "Z"), (0, .methodref 10 28), (0, .nameAndType 5 29), (0, u "([CIILjava/lang/Void;)V"), (6, u "checkBoundsOffCount"), (0, u "(III)I"), (0, .fieldref 10 39), (0, .nameAndType 40 26), (0, u "COMPACT_STRINGS"), (1, .class_ 44), (1, u "java/lang/StringUTF16"), (0, u "compress"), (1, .methodref 42 48), (0, .nameAndType 49 50), (0, u "coderFromArrayLen"), (0, u "([BI)B"), (56, .class_ 109), (1, u "java/lang/StringLatin1"), (32, u "()Z"), (34, .methodref 42 178), (0, .nameAndType 45 179), (0, u "([CII)[B"), (31, u "([BB)V"), (122, u "()I"), (0, .methodref 10 336), (0, .nameAndType 17 337), (0, u "()B"), (25, u "([BI)C"), (27, u "(II)V"), (35, u "(I)C"), (64, .methodref 10 493), (0, .nameAndType 494 142), (0, u "isLatin1"), (0, .methodref 107 496), (0, .nameAndType 497 363), (0, u "charAt"), (0, .methodref 42 496), (2, u "checkIndex"), (3, .methodref 10 506), (0, .nameAndType 507 334), (0, u "length"), (5, u "checkFromToIndex"), (7, .methodref 10 522), (0, .nameAndType 523 524), (0, u "checkBoundsBeginEnd"), (0, u "(III)V"), (50, .class_ 576), (0, u "java/lang/CharSequence"), (22, u "CASE_INSENSITIVE_ORDER"), (0, u "Ljava/util/Comparator;"), (82, u "substring"), (0, u "(II)Ljava/lang/String;"), (0, .methodref 107 686), (0, .nameAndType 687 688), (0, u "newString"), (0, u "([BII)Ljava/lang/String;"), (0, .methodref 42 686), (320, u "([C)V"), (42, .fieldref 1054 1055), (0, .class_ 1056), (0, .nameAndType 1057 1058), (0, u "jdk/internal/util/Preconditions"), (0, u "SIOOBE_FORMATTER"), (0, u "Ljava/util/function/BiFunction;"), (0, .methodref 1054 1060), (0, .nameAndType 501 1061), (0, u "(IILjava/util/function/BiFunction;)I"), (0, .methodref 1054 1063), (0, .nameAndType 513 1064), (0, u "(IIILjava/util/function/BiFunction;)I"), (0, .methodref 1054 1066), (0, .nameAndType 1067 1064), (0, u "checkFromIndexSize"), (33, u "serialPersistentFields"), (0, u "[Ljava/io/ObjectStreamField;"), (0, .class_ 1104), (0, u "java/lang/String$CaseInsensitiveComparator"), (1, .class_ 1107), (0, u "java/io/Serializable"), (0, .class_ 1109), (0, u "java/lang/Comparable"), (0, .class_ 1111), (0, u "java/lang/constant/Constable"), (0, .class_ 1113), (0, u "java/lang/constant/ConstantDesc"), (2, u "serialVersionUID"), (0, u "J"), (3, u "REPL"), (0, u "C"), (2, u "LATIN1"), (1, u "UTF16")] 323

def k7m0 : Method := { name := "<init>", desc := "()V", sig := { parameters := [], returnType := none }, accessFlags := 1, code := none }
def k7c1 : Code := { maxStack := 5, maxLocals := 2, code := jdk_42_method_3_code, exceptionTable := #[], attributes := #[] }
def k7m1 : Method := { name := "<init>", desc := "([C)V", sig := { parameters := [(.array .char)], returnType := none }, accessFlags := 1, code := some k7c1 }
def k7c2 : Code := { maxStack := 2, maxLocals := 1, code := jdk_42_method_54_code, exceptionTable := #[], attributes := #[] }
def k7m2 : Method := { name := "length", desc := "()I", sig := { parameters := [], returnType := some .int }, accessFlags := 1, code := some k7c2 }
def k7c3 : Code := { maxStack := 2, maxLocals := 2, code := jdk_42_method_56_code, exceptionTable := #[], attributes := #[] }
def k7m3 : Method := { name := "charAt", desc := "(I)C", sig := { parameters := [.int], returnType := some .char }, accessFlags := 1, code := some k7c3 }
def k7c4 : Code := { maxStack := 3, maxLocals := 5, code := jdk_42_method_92_code, exceptionTable := #[], attributes := #[] }
def k7m4 : Method := { name := "substring", desc := "(II)Ljava/lang/String;", sig := { parameters := [.int, .int], returnType := some (.object "java/lang/String") }, accessFlags := 1, code := some k7c4 }
def k7c5 : Code := { maxStack := 4, maxLocals := 6, code := jdk_42_method_149_code, exceptionTable := #[], attributes := #[] }
def k7m5 : Method := { name := "<init>", desc := "([CIILjava/lang/Void;)V", sig := { parameters := [(.array .char), .int, .int, (.object "java/lang/Void")], returnType := none }, accessFlags := 2, code := some k7c5 }
def k7c6 : Code := { maxStack := 2, maxLocals := 3, code := jdk_42_method_151_code, exceptionTable := #[], attributes := #[] }
def k7m6 : Method := { name := "<init>", desc := "([BB)V", sig := { parameters := [(.array .byte), .byte], returnType := none }, accessFlags := 0, code := some k7c6 }
def k7c7 : Code := { maxStack := 1, maxLocals := 1, code := jdk_42_method_152_code, exceptionTable := #[], attributes := #[] }
def k7m7 : Method := { name := "coder", desc := "()B", sig := { parameters := [], returnType := some .byte }, accessFlags := 0, code := some k7c7 }
def k7c8 : Code := { maxStack := 1, maxLocals := 1, code := jdk_42_method_154_code, exceptionTable := #[], attributes := #[] }
def k7m8 : Method := { name := "isLatin1", desc := "()Z", sig := { parameters := [], returnType := some .boolean }, accessFlags := 0, code := some k7c8 }
def k7c9 : Code := { maxStack := 3, maxLocals := 2, code := jdk_42_method_155_code, exceptionTable := #[], attributes := #[] }
def k7m9 : Method := { name := "checkIndex", desc := "(II)V", sig := { parameters := [.int, .int], returnType := none }, accessFlags := 8, code := some k7c9 }
def k7c10 : Code := { maxStack := 4, maxLocals := 3, code := jdk_42_method_157_code, exceptionTable := #[], attributes := #[] }
def k7m10 : Method := { name := "checkBoundsOffCount", desc := "(III)I", sig := { parameters := [.int, .int, .int], returnType := some .int }, accessFlags := 8, code := some k7c10 }
def k7c11 : Code := { maxStack := 4, maxLocals := 3, code := jdk_42_method_158_code, exceptionTable := #[], attributes := #[] }
def k7m11 : Method := { name := "checkBoundsBeginEnd", desc := "(III)V", sig := { parameters := [.int, .int, .int], returnType := none }, accessFlags := 8, code := some k7c11 }
/-- java/lang/String -/
def k7 : Class := { plain "java/lang/String" (some 0) with
  accessFlags := 49
  interfaces := #[2, 3, 4, 5, 6]
  cf := some (fileOf pool7 10 #[.nestMembers #[1103]] #[{ accessFlags := 1, nameIndex := 5, descriptorIndex := 6, attributes := #[] }, { accessFlags := 1, nameIndex := 5, descriptorIndex := 1010, attributes := #[] }, { accessFlags := 1, nameIndex := 507, descriptorIndex := 334, attributes := #[] }, { accessFlags := 1, nameIndex := 497, descriptorIndex := 427, attributes := #[] }, { accessFlags := 1, nameIndex := 683, descriptorIndex := 684, attributes := #[] }, { accessFlags := 2, nameIndex := 5, descriptorIndex := 29, attributes := #[] }, { accessFlags := 0, nameIndex := 5, descriptorIndex := 211, attributes := #[] }, { accessFlags := 0, nameIndex := 17, descriptorIndex := 337, attributes := #[] }, { accessFlags := 0, nameIndex := 494, descriptorIndex := 142, attributes := #[] }, { accessFlags := 8, nameIndex := 501, descriptorIndex := 391, attributes := #[] }, { accessFlags := 8, nameIndex := 36, descriptorIndex := 37, attributes := #[] }, { accessFlags := 8, nameIndex := 523, descriptorIndex := 524, attributes := #[] }] 49 2 #[1106, 1108, 575, 1110, 1112] #[{ accessFlags := 18, nameIndex := 13, descriptorIndex := 14, attributes := #[] }, { accessFlags := 18, nameIndex := 17, descriptorIndex := 18, attributes := #[] }, { accessFlags := 2, nameIndex := 21, descriptorIndex := 22, attributes := #[] }, { accessFlags := 2, nameIndex := 25, descriptorIndex := 26, attributes := #[] }, { accessFlags := 26, nameIndex := 1116, descriptorIndex := 1117, attributes := #[] }, { accessFlags := 24, nameIndex := 40, descriptorIndex := 26, attributes := #[] }, { accessFlags := 26, nameIndex := 1101, descriptorIndex := 1102, attributes := #[] }, { accessFlags := 26, nameIndex := 1121, descriptorIndex := 1122, attributes := #[] }, { accessFlags := 25, nameIndex := 599, descriptorIndex := 600, attributes := #[] }, { accessFlags := 24, nameIndex := 1125, descriptorIndex := 18, attributes := #[] }, { accessFlags := 24, nameIndex := 1127, descriptorIndex := 18, attributes := #[] }])
  fields := #[{ name := "value", type := (.array .byte), accessFlags := 18, slot := 0, constantValue := 0 }, { name := "coder", type := .byte, accessFlags := 18, slot := 1, constantValue := 0 }, { name := "hash", type := .int, accessFlags := 2, slot := 2, constantValue := 0 }, { name := "hashIsZero", type := .boolean, accessFlags := 2, slot := 3, constantValue := 0 }, { name := "serialVersionUID", type := .long, accessFlags := 26, slot := 0, constantValue := 0 }, { name := "COMPACT_STRINGS", type := .boolean, accessFlags := 24, slot := 1, constantValue := 0 }, { name := "serialPersistentFields", type := (.array (.object "java/io/ObjectStreamField")), accessFlags := 26, slot := 2, constantValue := 0 }, { name := "REPL", type := .char, accessFlags := 26, slot := 3, constantValue := 0 }, { name := "CASE_INSENSITIVE_ORDER", type := (.object "java/util/Comparator"), accessFlags := 25, slot := 4, constantValue := 0 }, { name := "LATIN1", type := .byte, accessFlags := 24, slot := 5, constantValue := 0 }, { name := "UTF16", type := .byte, accessFlags := 24, slot := 6, constantValue := 0 }]
  methods := #[k7m0, k7m1, k7m2, k7m3, k7m4, k7m5, k7m6, k7m7, k7m8, k7m9, k7m10, k7m11]
  instanceTypes := #[(.array .byte), .byte, .int, .boolean]
  staticTypes := #[.long, .boolean, (.array (.object "java/io/ObjectStreamField")), .char, (.object "java/util/Comparator"), .byte, .byte]
  resolved := Array.replicate 1451 none
  statics := some 0 }

def pool8 : Array CpInfo := pool [(1, .class_ 2), (0, u "java/lang/Math"), (1, .class_ 6), (1, u "java/lang/Object"), (0, u "<init>"), (0, u "()V"), (89, .class_ 100), (1, u "java/lang/Math$RandomNumberGeneratorHolder"), (71, u "negativeZeroFloatBits"), (0, u "J"), (2, u "negativeZeroDoubleBits"), (21, u "max"), (2, u "min"), (43, u "$assertionsDisabled"), (0, u "Z"), (88, u "(II)I"), (2, u "twoToTheDoubleScaleDown"), (0, u "D"), (4, u "twoToTheDoubleScaleUp"), (9, u "E"), (3, u "PI"), (2, u "TAU"), (2, u "DEGREES_TO_RADIANS"), (0, u "RADIANS_TO_DEGREES")] 94

def k8m0 : Method := { name := "<init>", desc := "()V", sig := { parameters := [], returnType := none }, accessFlags := 2, code := none }
def k8c1 : Code := { maxStack := 2, maxLocals := 2, code := jdk_29_method_65_code, exceptionTable := #[], attributes := #[] }
def k8m1 : Method := { name := "max", desc := "(II)I", sig := { parameters := [.int, .int], returnType := some .int }, accessFlags := 9, code := some k8c1 }
def k8c2 : Code := { maxStack := 2, maxLocals := 2, code := jdk_29_method_69_code, exceptionTable := #[], attributes := #[] }
def k8m2 : Method := { name := "min", desc := "(II)I", sig := { parameters := [.int, .int], returnType := some .int }, accessFlags := 9, code := some k8c2 }
/-- java/lang/Math -/
def k8 : Class := { plain "java/lang/Math" (some 0) with
  accessFlags := 49
  interfaces := #[]
  cf := some (fileOf pool8 1 #[.nestMembers #[98]] #[{ accessFlags := 2, nameIndex := 7, descriptorIndex := 8, attributes := #[] }, { accessFlags := 9, nameIndex := 198, descriptorIndex := 335, attributes := #[] }, { accessFlags := 9, nameIndex := 201, descriptorIndex := 335, attributes := #[] }] 49 4 #[] #[{ accessFlags := 25, nameIndex := 354, descriptorIndex := 339, attributes := #[] }, { accessFlags := 25, nameIndex := 358, descriptorIndex := 339, attributes := #[] }, { accessFlags := 25, nameIndex := 361, descriptorIndex := 339, attributes := #[] }, { accessFlags := 26, nameIndex := 364, descriptorIndex := 339, attributes := #[] }, { accessFlags := 26, nameIndex := 365, descriptorIndex := 339, attributes := #[] }, { accessFlags := 26, nameIndex := 172, descriptorIndex := 173, attributes := #[] }, { accessFlags := 26, nameIndex := 176, descriptorIndex := 173, attributes := #[] }, { accessFlags := 8, nameIndex := 344, descriptorIndex := 339, attributes := #[] }, { accessFlags := 8, nameIndex := 338, descriptorIndex := 339, attributes := #[] }, { accessFlags := 4120, nameIndex := 245, descriptorIndex := 246, attributes := #[] }])
  fields := #[{ name := "E", type := .double, accessFlags := 25, slot := 0, constantValue := 0 }, { name := "PI", type := .double, accessFlags := 25, slot := 1, constantValue := 0 }, { name := "TAU", type := .double, accessFlags := 25, slot := 2, constantValue := 0 }, { name := "DEGREES_TO_RADIANS", type := .double, accessFlags := 26, slot := 3, constantValue := 0 }, { name := "RADIANS_TO_DEGREES", type := .double, accessFlags := 26, slot := 4, constantValue := 0 }, { name := "negativeZeroFloatBits", type := .long, accessFlags := 26, slot := 5, constantValue := 0 }, { name := "negativeZeroDoubleBits", type := .long, accessFlags := 26, slot := 6, constantValue := 0 }, { name := "twoToTheDoubleScaleUp", type := .double, accessFlags := 8, slot := 7, constantValue := 0 }, { name := "twoToTheDoubleScaleDown", type := .double, accessFlags := 8, slot := 8, constantValue := 0 }, { name := "$assertionsDisabled", type := .boolean, accessFlags := 4120, slot := 9, constantValue := 0 }]
  methods := #[k8m0, k8m1, k8m2]
  instanceTypes := #[]
  staticTypes := #[.double, .double, .double, .double, .double, .long, .long, .double, .double, .boolean]
  resolved := Array.replicate 460 none
  statics := none }

def pool9 : Array CpInfo := pool [(2, .class_ 4), (1, u "java/lang/Object"), (0, u "<init>"), (0, u "()V"), (21, .class_ 30), (1, u "org/vouchsafe/Dom"), (21, .class_ 54), (1, u "java/lang/String"), (48, u "trimmed"), (0, u "(Ljava/lang/String;)Ljava/lang/String;"), (10, .methodref 52 116), (0, .nameAndType 117 118), (0, u "charAt"), (0, u "(I)C"), (14, .methodref 52 134), (0, .nameAndType 135 136), (0, u "length"), (0, u "()I"), (53, u "(C)Z"), (11, .methodref 28 203), (0, .nameAndType 204 190), (0, u "isXmlSpace"), (0, .methodref 52 206), (0, .nameAndType 207 208), (0, u "substring"), (0, u "(II)Ljava/lang/String;"), (12, u "NAME_START"), (0, u "[I"), (6, u "NAME_REST"), (30, u "AFTER_YEAR"), (0, u "Ljava/lang/String;"), (1, u "OFFSET"), (0, u "MOST_YEAR_DIGITS"), (0, u "I"), (1, u "NANO_DIGITS"), (0, u "MOST_OFFSET_MINUTES"), (1, u "SECONDS_PER_DAY"), (0, u "J")] 65

def k9m0 : Method := { name := "<init>", desc := "()V", sig := { parameters := [], returnType := none }, accessFlags := 2, code := none }
def k9c1 : Code := { maxStack := 3, maxLocals := 3, code := prog_10_method_18_code, exceptionTable := #[], attributes := #[] }
def k9m1 : Method := { name := "trimmed", desc := "(Ljava/lang/String;)Ljava/lang/String;", sig := { parameters := [(.object "java/lang/String")], returnType := some (.object "java/lang/String") }, accessFlags := 8, code := some k9c1 }
def k9c2 : Code := { maxStack := 2, maxLocals := 1, code := prog_10_method_19_code, exceptionTable := #[], attributes := #[] }
def k9m2 : Method := { name := "isXmlSpace", desc := "(C)Z", sig := { parameters := [.char], returnType := some .boolean }, accessFlags := 8, code := some k9c2 }
/-- org/vouchsafe/Dom -/
def k9 : Class := { plain "org/vouchsafe/Dom" (some 0) with
  accessFlags := 48
  interfaces := #[]
  cf := some (fileOf pool9 28 #[] #[{ accessFlags := 2, nameIndex := 5, descriptorIndex := 6, attributes := #[] }, { accessFlags := 8, nameIndex := 103, descriptorIndex := 104, attributes := #[] }, { accessFlags := 8, nameIndex := 204, descriptorIndex := 190, attributes := #[] }] 48 2 #[] #[{ accessFlags := 26, nameIndex := 260, descriptorIndex := 261, attributes := #[] }, { accessFlags := 26, nameIndex := 263, descriptorIndex := 261, attributes := #[] }, { accessFlags := 26, nameIndex := 264, descriptorIndex := 265, attributes := #[] }, { accessFlags := 26, nameIndex := 267, descriptorIndex := 265, attributes := #[] }, { accessFlags := 26, nameIndex := 268, descriptorIndex := 265, attributes := #[] }, { accessFlags := 26, nameIndex := 270, descriptorIndex := 271, attributes := #[] }, { accessFlags := 26, nameIndex := 221, descriptorIndex := 222, attributes := #[] }, { accessFlags := 26, nameIndex := 229, descriptorIndex := 222, attributes := #[] }])
  fields := #[{ name := "AFTER_YEAR", type := (.object "java/lang/String"), accessFlags := 26, slot := 0, constantValue := 0 }, { name := "OFFSET", type := (.object "java/lang/String"), accessFlags := 26, slot := 1, constantValue := 0 }, { name := "MOST_YEAR_DIGITS", type := .int, accessFlags := 26, slot := 2, constantValue := 0 }, { name := "NANO_DIGITS", type := .int, accessFlags := 26, slot := 3, constantValue := 0 }, { name := "MOST_OFFSET_MINUTES", type := .int, accessFlags := 26, slot := 4, constantValue := 0 }, { name := "SECONDS_PER_DAY", type := .long, accessFlags := 26, slot := 5, constantValue := 0 }, { name := "NAME_START", type := (.array .int), accessFlags := 26, slot := 6, constantValue := 0 }, { name := "NAME_REST", type := (.array .int), accessFlags := 26, slot := 7, constantValue := 0 }]
  methods := #[k9m0, k9m1, k9m2]
  instanceTypes := #[]
  staticTypes := #[(.object "java/lang/String"), (.object "java/lang/String"), .int, .int, .int, .long, (.array .int), (.array .int)]
  resolved := Array.replicate 337 none
  statics := none }

def pool10 : Array CpInfo := pool [(2, .class_ 4), (1, u "java/lang/Object"), (0, u "<init>"), (0, u "()V"), (17, .class_ 26), (1, u "jdk/internal/util/Preconditions"), (6, u "checkIndex"), (13, u "checkFromToIndex"), (1, u "checkFromIndexSize"), (5, .class_ 56), (0, u "jdk/internal/util/Preconditions$4"), (57, .class_ 115), (0, u "jdk/internal/util/Preconditions$1"), (7, u "SIOOBE_FORMATTER"), (0, u "Ljava/util/function/BiFunction;"), (0, .class_ 126), (0, u "jdk/internal/util/Preconditions$2"), (3, u "AIOOBE_FORMATTER"), (0, .class_ 132), (0, u "jdk/internal/util/Preconditions$3"), (3, u "IOOBE_FORMATTER"), (41, u "(IILjava/util/function/BiFunction;)I"), (4, u "(IIILjava/util/function/BiFunction;)I")] 10

def k10m0 : Method := { name := "<init>", desc := "()V", sig := { parameters := [], returnType := none }, accessFlags := 1, code := none }
def k10c1 : Code := { maxStack := 3, maxLocals := 3, code := jdk_41_method_11_code, exceptionTable := #[], attributes := #[] }
def k10m1 : Method := { name := "checkIndex", desc := "(IILjava/util/function/BiFunction;)I", sig := { parameters := [.int, .int, (.object "java/util/function/BiFunction")], returnType := some .int }, accessFlags := 9, code := some k10c1 }
def k10c2 : Code := { maxStack := 4, maxLocals := 4, code := jdk_41_method_12_code, exceptionTable := #[], attributes := #[] }
def k10m2 : Method := { name := "checkFromToIndex", desc := "(IIILjava/util/function/BiFunction;)I", sig := { parameters := [.int, .int, .int, (.object "java/util/function/BiFunction")], returnType := some .int }, accessFlags := 9, code := some k10c2 }
def k10c3 : Code := { maxStack := 4, maxLocals := 4, code := jdk_41_method_13_code, exceptionTable := #[], attributes := #[] }
def k10m3 : Method := { name := "checkFromIndexSize", desc := "(IIILjava/util/function/BiFunction;)I", sig := { parameters := [.int, .int, .int, (.object "java/util/function/BiFunction")], returnType := some .int }, accessFlags := 9, code := some k10c3 }
/-- jdk/internal/util/Preconditions -/
def k10 : Class := { plain "jdk/internal/util/Preconditions" (some 0) with
  accessFlags := 33
  interfaces := #[]
  cf := some (fileOf pool10 24 #[.nestMembers #[55, 131, 125, 114]] #[{ accessFlags := 1, nameIndex := 5, descriptorIndex := 6, attributes := #[] }, { accessFlags := 9, nameIndex := 33, descriptorIndex := 178, attributes := #[] }, { accessFlags := 9, nameIndex := 47, descriptorIndex := 183, attributes := #[] }, { accessFlags := 9, nameIndex := 49, descriptorIndex := 183, attributes := #[] }] 33 2 #[] #[{ accessFlags := 25, nameIndex := 123, descriptorIndex := 124, attributes := #[] }, { accessFlags := 25, nameIndex := 130, descriptorIndex := 124, attributes := #[] }, { accessFlags := 25, nameIndex := 136, descriptorIndex := 124, attributes := #[] }])
  fields := #[{ name := "SIOOBE_FORMATTER", type := (.object "java/util/function/BiFunction"), accessFlags := 25, slot := 0, constantValue := 0 }, { name := "AIOOBE_FORMATTER", type := (.object "java/util/function/BiFunction"), accessFlags := 25, slot := 1, constantValue := 0 }, { name := "IOOBE_FORMATTER", type := (.object "java/util/function/BiFunction"), accessFlags := 25, slot := 2, constantValue := 0 }]
  methods := #[k10m0, k10m1, k10m2, k10m3]
  instanceTypes := #[]
  staticTypes := #[(.object "java/util/function/BiFunction"), (.object "java/util/function/BiFunction"), (.object "java/util/function/BiFunction")]
  resolved := Array.replicate 194 none
  statics := some 1 }

def pool11 : Array CpInfo := pool [(3, .class_ 4), (0, u "java/lang/String"), (1, .class_ 8), (1, u "java/lang/Object"), (0, u "<init>"), (0, u "()V"), (0, .methodref 12 13), (0, .class_ 14), (0, .nameAndType 15 16), (0, u "java/lang/StringUTF16"), (0, u "newBytesLength"), (0, u "(I)I"), (3, .integer 1073741823), (23, .fieldref 12 45), (0, .nameAndType 46 47), (0, u "$assertionsDisabled"), (0, u "Z"), (0, .methodref 12 49), (0, .nameAndType 50 51), (0, u "length"), (0, u "([B)I"), (7, .fieldref 12 60), (0, .nameAndType 61 62), (0, u "HI_BYTE_SHIFT"), (0, u "I"), (0, .fieldref 12 64), (0, .nameAndType 65 62), (0, u "LO_BYTE_SHIFT"), (1, .methodref 12 68), (0, .nameAndType 69 70), (0, u "checkIndex"), (0, u "(I[B)V"), (0, .methodref 12 72), (0, .nameAndType 73 74), (0, u "getChar"), (0, u "([BI)C"), (24, u "(II[B)V"), (7, .methodref 12 108), (0, .nameAndType 109 110), (0, u "newBytesFor"), (0, u "(I)[B"), (0, .methodref 12 112), (0, .nameAndType 113 114), (0, u "putChar"), (0, u "([BII)V"), (0, .methodref 12 116), (0, .nameAndType 117 118), (0, u "compress"), (0, u "([CI[BII)I"), (0, .methodref 12 120), (0, .nameAndType 121 122), (0, u "toBytes"), (0, u "([CII)[B"), (0, .methodref 12 124), (0, .nameAndType 117 125), (0, u "([BI[BII)I"), (0, .methodref 127 128), (0, .class_ 129), (0, .nameAndType 130 131), (0, u "java/util/Arrays"), (0, u "copyOfRange"), (0, u "([BII)[B"), (41, .methodref 12 174), (0, .nameAndType 175 99), (0, u "checkBoundsOffCount"), (75, .fieldref 3 252), (0, .nameAndType 253 47), (0, u "COMPACT_STRINGS"), (3, .methodref 12 258), (0, .nameAndType 117 131), (0, .methodref 12 260), (0, .nameAndType 261 262), (0, u "coderFromArrayLen"), (0, u "([BI)B"), (0, .methodref 3 264), (0, .nameAndType 9 265), (0, u "([BB)V"), (15, u "(III)I"), (45, u "newString"), (0, u "([BII)Ljava/lang/String;"), (40, .class_ 371), (1, u "java/lang/StringUTF16$LinesSpliterator"), (20, u "charAt"), (21, .methodref 3 415), (0, .nameAndType 69 416), (0, u "(II)V"), (2, .methodref 3 420), (0, .nameAndType 175 281), (9, u "MAX_LENGTH"), (196, .class_ 628), (0, u "java/lang/StringUTF16$CodePointsSpliterator"), (0, .class_ 630), (0, u "java/lang/StringUTF16$CharsSpliterator")] 4

def k11m0 : Method := { name := "<init>", desc := "()V", sig := { parameters := [], returnType := none }, accessFlags := 0, code := none }
def k11c1 : Code := { maxStack := 1, maxLocals := 1, code := jdk_52_method_2_code, exceptionTable := #[], attributes := #[] }
def k11m1 : Method := { name := "newBytesFor", desc := "(I)[B", sig := { parameters := [.int], returnType := some (.array .byte) }, accessFlags := 9, code := some k11c1 }
def k11c2 : Code := { maxStack := 4, maxLocals := 1, code := jdk_52_method_3_code, exceptionTable := #[], attributes := #[] }
def k11m2 : Method := { name := "newBytesLength", desc := "(I)I", sig := { parameters := [.int], returnType := some .int }, accessFlags := 9, code := some k11c2 }
def k11c3 : Code := { maxStack := 4, maxLocals := 3, code := jdk_52_method_4_code, exceptionTable := #[], attributes := #[] }
def k11m3 : Method := { name := "putChar", desc := "([BII)V", sig := { parameters := [(.array .byte), .int, .int], returnType := none }, accessFlags := 8, code := some k11c3 }
def k11c4 : Code := { maxStack := 3, maxLocals := 2, code := jdk_52_method_5_code, exceptionTable := #[], attributes := #[] }
def k11m4 : Method := { name := "getChar", desc := "([BI)C", sig := { parameters := [(.array .byte), .int], returnType := some .char }, accessFlags := 8, code := some k11c4 }
def k11c5 : Code := { maxStack := 2, maxLocals := 1, code := jdk_52_method_6_code, exceptionTable := #[], attributes := #[] }
def k11m5 : Method := { name := "length", desc := "([B)I", sig := { parameters := [(.array .byte)], returnType := some .int }, accessFlags := 9, code := some k11c5 }
def k11c6 : Code := { maxStack := 4, maxLocals := 5, code := jdk_52_method_14_code, exceptionTable := #[], attributes := #[] }
def k11m6 : Method := { name := "toBytes", desc := "([CII)[B", sig := { parameters := [(.array .char), .int, .int], returnType := some (.array .byte) }, accessFlags := 9, code := some k11c6 }
def k11c7 : Code := { maxStack := 2, maxLocals := 2, code := jdk_52_method_15_code, exceptionTable := #[], attributes := #[] }
def k11m7 : Method := { name := "coderFromArrayLen", desc := "([BI)B", sig := { parameters := [(.array .byte), .int], returnType := some .byte }, accessFlags := 8, code := some k11c7 }
def k11c8 : Code := { maxStack := 5, maxLocals := 6, code := jdk_52_method_16_code, exceptionTable := #[], attributes := #[] }
def k11m8 : Method := { name := "compress", desc := "([CII)[B", sig := { parameters := [(.array .char), .int, .int], returnType := some (.array .byte) }, accessFlags := 9, code := some k11c8 }
def k11c9 : Code := { maxStack := 5, maxLocals := 6, code := jdk_52_method_17_code, exceptionTable := #[], attributes := #[] }
def k11m9 : Method := { name := "compress", desc := "([BII)[B", sig := { parameters := [(.array .byte), .int, .int], returnType := some (.array .byte) }, accessFlags := 9, code := some k11c9 }
def k11c10 : Code := { maxStack := 3, maxLocals := 7, code := jdk_52_method_21_code, exceptionTable := #[], attributes := #[] }
def k11m10 : Method := { name := "compress", desc := "([CI[BII)I", sig := { parameters := [(.array .char), .int, (.array .byte), .int, .int], returnType := some .int }, accessFlags := 9, code := some k11c10 }
def k11c11 : Code := { maxStack := 3, maxLocals := 7, code := jdk_52_method_22_code, exceptionTable := #[], attributes := #[] }
def k11m11 : Method := { name := "compress", desc := "([BI[BII)I", sig := { parameters := [(.array .byte), .int, (.array .byte), .int, .int], returnType := some .int }, accessFlags := 9, code := some k11c11 }
def k11c12 : Code := { maxStack := 6, maxLocals := 5, code := jdk_52_method_69_code, exceptionTable := #[], attributes := #[] }
def k11m12 : Method := { name := "newString", desc := "([BII)Ljava/lang/String;", sig := { parameters := [(.array .byte), .int, .int], returnType := some (.object "java/lang/String") }, accessFlags := 9, code := some k11c12 }
def k11c13 : Code := { maxStack := 2, maxLocals := 2, code := jdk_52_method_83_code, exceptionTable := #[], attributes := #[] }
def k11m13 : Method := { name := "charAt", desc := "([BI)C", sig := { parameters := [(.array .byte), .int], returnType := some .char }, accessFlags := 9, code := some k11c13 }
def k11c14 : Code := { maxStack := 2, maxLocals := 2, code := jdk_52_method_91_code, exceptionTable := #[], attributes := #[] }
def k11m14 : Method := { name := "checkIndex", desc := "(I[B)V", sig := { parameters := [.int, (.array .byte)], returnType := none }, accessFlags := 9, code := some k11c14 }
def k11c15 : Code := { maxStack := 3, maxLocals := 3, code := jdk_52_method_94_code, exceptionTable := #[], attributes := #[] }
def k11m15 : Method := { name := "checkBoundsOffCount", desc := "(II[B)V", sig := { parameters := [.int, .int, (.array .byte)], returnType := none }, accessFlags := 9, code := some k11c15 }
/-- java/lang/StringUTF16 -/
def k11 : Class := { plain "java/lang/StringUTF16" (some 0) with
  accessFlags := 48
  interfaces := #[]
  cf := some (fileOf pool11 12 #[.nestMembers #[627, 629, 369]] #[{ accessFlags := 0, nameIndex := 9, descriptorIndex := 10, attributes := #[] }, { accessFlags := 9, nameIndex := 109, descriptorIndex := 110, attributes := #[] }, { accessFlags := 9, nameIndex := 15, descriptorIndex := 16, attributes := #[] }, { accessFlags := 8, nameIndex := 113, descriptorIndex := 114, attributes := #[] }, { accessFlags := 8, nameIndex := 73, descriptorIndex := 74, attributes := #[] }, { accessFlags := 9, nameIndex := 50, descriptorIndex := 51, attributes := #[] }, { accessFlags := 9, nameIndex := 121, descriptorIndex := 122, attributes := #[] }, { accessFlags := 8, nameIndex := 261, descriptorIndex := 262, attributes := #[] }, { accessFlags := 9, nameIndex := 117, descriptorIndex := 122, attributes := #[] }, { accessFlags := 9, nameIndex := 117, descriptorIndex := 131, attributes := #[] }, { accessFlags := 9, nameIndex := 117, descriptorIndex := 118, attributes := #[] }, { accessFlags := 9, nameIndex := 117, descriptorIndex := 125, attributes := #[] }, { accessFlags := 9, nameIndex := 327, descriptorIndex := 328, attributes := #[] }, { accessFlags := 9, nameIndex := 392, descriptorIndex := 74, attributes := #[] }, { accessFlags := 9, nameIndex := 69, descriptorIndex := 70, attributes := #[] }, { accessFlags := 9, nameIndex := 175, descriptorIndex := 99, attributes := #[] }] 48 6 #[] #[{ accessFlags := 26, nameIndex := 61, descriptorIndex := 62, attributes := #[] }, { accessFlags := 26, nameIndex := 65, descriptorIndex := 62, attributes := #[] }, { accessFlags := 24, nameIndex := 430, descriptorIndex := 62, attributes := #[] }, { accessFlags := 4120, nameIndex := 46, descriptorIndex := 47, attributes := #[] }])
  fields := #[{ name := "HI_BYTE_SHIFT", type := .int, accessFlags := 26, slot := 0, constantValue := 0 }, { name := "LO_BYTE_SHIFT", type := .int, accessFlags := 26, slot := 1, constantValue := 0 }, { name := "MAX_LENGTH", type := .int, accessFlags := 24, slot := 2, constantValue := 0 }, { name := "$assertionsDisabled", type := .boolean, accessFlags := 4120, slot := 3, constantValue := 0 }]
  methods := #[k11m0, k11m1, k11m2, k11m3, k11m4, k11m5, k11m6, k11m7, k11m8, k11m9, k11m10, k11m11, k11m12, k11m13, k11m14, k11m15]
  instanceTypes := #[]
  staticTypes := #[.int, .int, .int, .boolean]
  resolved := Array.replicate 635 none
  statics := some 2 }

def pool12 : Array CpInfo := pool [(1, .class_ 2), (0, u "java/lang/String"), (1, .class_ 6), (1, u "java/lang/Object"), (0, u "<init>"), (0, u "()V"), (0, .methodref 1 10), (0, .nameAndType 11 12), (0, u "checkIndex"), (0, u "(II)V"), (1, .class_ 16), (1, u "java/lang/StringLatin1"), (36, u "([BI)C"), (58, .methodref 1 113), (0, .nameAndType 7 114), (0, u "([BB)V"), (6, u "$assertionsDisabled"), (0, u "Z"), (8, .class_ 133), (1, u "java/util/Arrays"), (17, .string 152), (0, u ""), (43, u "newString"), (0, u "([BII)Ljava/lang/String;"), (23, .class_ 223), (1, u "java/lang/StringLatin1$LinesSpliterator"), (8, .methodref 131 233), (0, .nameAndType 234 235), (0, u "copyOfRange"), (0, u "([BII)[B"), (16, u "charAt"), (137, .class_ 391), (0, u "java/lang/StringLatin1$CharsSpliterator")] 3

def k12m0 : Method := { name := "<init>", desc := "()V", sig := { parameters := [], returnType := none }, accessFlags := 0, code := none }
def k12c1 : Code := { maxStack := 2, maxLocals := 2, code := jdk_43_method_2_code, exceptionTable := #[], attributes := #[] }
def k12m1 : Method := { name := "charAt", desc := "([BI)C", sig := { parameters := [(.array .byte), .int], returnType := some .char }, accessFlags := 9, code := some k12c1 }
def k12c2 : Code := { maxStack := 6, maxLocals := 3, code := jdk_43_method_47_code, exceptionTable := #[], attributes := #[] }
def k12m2 : Method := { name := "newString", desc := "([BII)Ljava/lang/String;", sig := { parameters := [(.array .byte), .int, .int], returnType := some (.object "java/lang/String") }, accessFlags := 9, code := some k12c2 }
/-- java/lang/StringLatin1 -/
def k12 : Class := { plain "java/lang/StringLatin1" (some 0) with
  accessFlags := 48
  interfaces := #[]
  cf := some (fileOf pool12 14 #[.nestMembers #[390, 221]] #[{ accessFlags := 0, nameIndex := 7, descriptorIndex := 8, attributes := #[] }, { accessFlags := 9, nameIndex := 252, descriptorIndex := 53, attributes := #[] }, { accessFlags := 9, nameIndex := 196, descriptorIndex := 197, attributes := #[] }] 48 4 #[] #[{ accessFlags := 4120, nameIndex := 121, descriptorIndex := 122, attributes := #[] }])
  fields := #[{ name := "$assertionsDisabled", type := .boolean, accessFlags := 4120, slot := 0, constantValue := 0 }]
  methods := #[k12m0, k12m1, k12m2]
  instanceTypes := #[]
  staticTypes := #[.boolean]
  resolved := Array.replicate 395 none
  statics := none }

def pool13 : Array CpInfo := pool [(2, .class_ 4), (1, u "java/lang/Object"), (0, u "<init>"), (0, u "()V"), (7, .class_ 16), (1, u "java/util/Arrays"), (57, .class_ 76), (1, u "java/util/Arrays$NaturalOrder"), (36, .class_ 115), (1, u "java/util/Arrays$LegacyMergeSort"), (1, u "Z"), (21, u "copyOfRange"), (10, .methodref 151 152), (0, .class_ 153), (0, .nameAndType 154 155), (0, u "java/lang/System"), (0, u "arraycopy"), (0, u "(Ljava/lang/Object;ILjava/lang/Object;II)V"), (148, .methodref 305 306), (0, .class_ 307), (0, .nameAndType 308 309), (0, u "java/lang/Math"), (0, u "min"), (0, u "(II)I"), (29, .methodref 14 340), (0, .nameAndType 341 342), (0, u "copyOfRangeByte"), (0, u "([BII)[B"), (0, .methodref 14 344), (0, .nameAndType 345 346), (0, u "checkLength"), (0, u "(II)V"), (28, .class_ 376), (0, u "java/util/Arrays$ArrayList"), (68, u "$assertionsDisabled"), (269, u "MIN_ARRAY_SORT_GRAN"), (0, u "I"), (2, u "INSERTIONSORT_THRESHOLD"), (255, .class_ 976), (0, u "java/util/Arrays$ArrayItr")] 52

def k13m0 : Method := { name := "<init>", desc := "()V", sig := { parameters := [], returnType := none }, accessFlags := 2, code := none }
def k13c1 : Code := { maxStack := 4, maxLocals := 2, code := jdk_65_method_131_code, exceptionTable := #[], attributes := #[] }
def k13m1 : Method := { name := "checkLength", desc := "(II)V", sig := { parameters := [.int, .int], returnType := none }, accessFlags := 10, code := some k13c1 }
def k13c2 : Code := { maxStack := 3, maxLocals := 3, code := jdk_65_method_132_code, exceptionTable := #[], attributes := #[] }
def k13m2 : Method := { name := "copyOfRange", desc := "([BII)[B", sig := { parameters := [(.array .byte), .int, .int], returnType := some (.array .byte) }, accessFlags := 9, code := some k13c2 }
def k13c3 : Code := { maxStack := 6, maxLocals := 5, code := jdk_65_method_133_code, exceptionTable := #[], attributes := #[] }
def k13m3 : Method := { name := "copyOfRangeByte", desc := "([BII)[B", sig := { parameters := [(.array .byte), .int, .int], returnType := some (.array .byte) }, accessFlags := 10, code := some k13c3 }
/-- java/util/Arrays -/
def k13 : Class := { plain "java/util/Arrays" (some 0) with
  accessFlags := 49
  interfaces := #[]
  cf := some (fileOf pool13 14 #[.nestMembers #[975, 375, 113, 74]] #[{ accessFlags := 2, nameIndex := 5, descriptorIndex := 6, attributes := #[] }, { accessFlags := 10, nameIndex := 345, descriptorIndex := 346, attributes := #[] }, { accessFlags := 9, nameIndex := 139, descriptorIndex := 342, attributes := #[] }, { accessFlags := 10, nameIndex := 341, descriptorIndex := 342, attributes := #[] }] 49 2 #[] #[{ accessFlags := 26, nameIndex := 715, descriptorIndex := 716, attributes := #[] }, { accessFlags := 26, nameIndex := 719, descriptorIndex := 716, attributes := #[] }, { accessFlags := 4120, nameIndex := 445, descriptorIndex := 117, attributes := #[] }])
  fields := #[{ name := "MIN_ARRAY_SORT_GRAN", type := .int, accessFlags := 26, slot := 0, constantValue := 0 }, { name := "INSERTIONSORT_THRESHOLD", type := .int, accessFlags := 26, slot := 1, constantValue := 0 }, { name := "$assertionsDisabled", type := .boolean, accessFlags := 4120, slot := 2, constantValue := 0 }]
  methods := #[k13m0, k13m1, k13m2, k13m3]
  instanceTypes := #[]
  staticTypes := #[.int, .int, .boolean]
  resolved := Array.replicate 1029 none
  statics := none }

def pool14 : Array CpInfo := pool [(2, .class_ 4), (1, u "java/lang/Object"), (0, u "<init>"), (0, u "()V"), (1, .class_ 10), (1, u "java/lang/System"), (0, u "allowSecurityManager"), (0, u "I"), (16, u "cons"), (0, u "Ljava/io/Console;"), (77, .class_ 110), (1, u "java/lang/System$CallersHolder"), (43, u "initialErrStream"), (0, u "Ljava/io/PrintStream;"), (19, u "security"), (0, u "Ljava/lang/SecurityManager;"), (31, .class_ 209), (0, u "java/lang/System$1"), (7, u "props"), (0, u "Ljava/util/Properties;"), (2, u "lineSeparator"), (0, u "Ljava/lang/String;"), (96, .class_ 321), (1, u "java/lang/System$LoggerFinder"), (5, .class_ 328), (0, u "java/lang/System$Logger"), (67, u "err"), (2, u "out"), (91, u "notSupportedJnuEncoding"), (15, u "in"), (17, u "initialIn"), (0, u "Ljava/io/InputStream;"), (35, u "bootLayer"), (0, u "Ljava/lang/ModuleLayer;"), (99, .class_ 664), (0, u "java/lang/System$2"), (9, u "NEVER"), (2, u "MAYBE"), (49, u "arraycopy"), (0, u "(Ljava/lang/Object;ILjava/lang/Object;II)V"), (72, .class_ 802), (0, u "java/lang/System$Logger$Level")] 31

def k14m0 : Method := { name := "<init>", desc := "()V", sig := { parameters := [], returnType := none }, accessFlags := 2, code := none }
def k14m1 : Method := { name := "arraycopy", desc := "(Ljava/lang/Object;ILjava/lang/Object;II)V", sig := { parameters := [(.object "java/lang/Object"), .int, (.object "java/lang/Object"), .int, .int], returnType := none }, accessFlags := 265, code := none }
/-- java/lang/System -/
def k14 : Class := { plain "java/lang/System" (some 0) with
  accessFlags := 49
  interfaces := #[]
  cf := some (fileOf pool14 8 #[.nestMembers #[319, 327, 801, 108, 663, 208]] #[{ accessFlags := 2, nameIndex := 5, descriptorIndex := 6, attributes := #[] }, { accessFlags := 265, nameIndex := 727, descriptorIndex := 728, attributes := #[] }] 49 2 #[] #[{ accessFlags := 25, nameIndex := 507, descriptorIndex := 526, attributes := #[] }, { accessFlags := 25, nameIndex := 399, descriptorIndex := 155, attributes := #[] }, { accessFlags := 25, nameIndex := 396, descriptorIndex := 155, attributes := #[] }, { accessFlags := 10, nameIndex := 525, descriptorIndex := 526, attributes := #[] }, { accessFlags := 26, nameIndex := 674, descriptorIndex := 12, attributes := #[] }, { accessFlags := 26, nameIndex := 677, descriptorIndex := 12, attributes := #[] }, { accessFlags := 10, nameIndex := 11, descriptorIndex := 12, attributes := #[] }, { accessFlags := 74, nameIndex := 175, descriptorIndex := 176, attributes := #[] }, { accessFlags := 10, nameIndex := 491, descriptorIndex := 222, attributes := #[] }, { accessFlags := 74, nameIndex := 29, descriptorIndex := 30, attributes := #[] }, { accessFlags := 74, nameIndex := 154, descriptorIndex := 155, attributes := #[] }, { accessFlags := 10, nameIndex := 217, descriptorIndex := 218, attributes := #[] }, { accessFlags := 10, nameIndex := 221, descriptorIndex := 222, attributes := #[] }, { accessFlags := 8, nameIndex := 562, descriptorIndex := 563, attributes := #[] }])
  fields := #[{ name := "in", type := (.object "java/io/InputStream"), accessFlags := 25, slot := 0, constantValue := 0 }, { name := "out", type := (.object "java/io/PrintStream"), accessFlags := 25, slot := 1, constantValue := 0 }, { name := "err", type := (.object "java/io/PrintStream"), accessFlags := 25, slot := 2, constantValue := 0 }, { name := "initialIn", type := (.object "java/io/InputStream"), accessFlags := 10, slot := 3, constantValue := 0 }, { name := "NEVER", type := .int, accessFlags := 26, slot := 4, constantValue := 0 }, { name := "MAYBE", type := .int, accessFlags := 26, slot := 5, constantValue := 0 }, { name := "allowSecurityManager", type := .int, accessFlags := 10, slot := 6, constantValue := 0 }, { name := "security", type := (.object "java/lang/SecurityManager"), accessFlags := 74, slot := 7, constantValue := 0 }, { name := "notSupportedJnuEncoding", type := (.object "java/lang/String"), accessFlags := 10, slot := 8, constantValue := 0 }, { name := "cons", type := (.object "java/io/Console"), accessFlags := 74, slot := 9, constantValue := 0 }, { name := "initialErrStream", type := (.object "java/io/PrintStream"), accessFlags := 74, slot := 10, constantValue := 0 }, { name := "props", type := (.object "java/util/Properties"), accessFlags := 10, slot := 11, constantValue := 0 }, { name := "lineSeparator", type := (.object "java/lang/String"), accessFlags := 10, slot := 12, constantValue := 0 }, { name := "bootLayer", type := (.object "java/lang/ModuleLayer"), accessFlags := 8, slot := 13, constantValue := 0 }]
  methods := #[k14m0, k14m1]
  instanceTypes := #[]
  staticTypes := #[(.object "java/io/InputStream"), (.object "java/io/PrintStream"), (.object "java/io/PrintStream"), (.object "java/io/InputStream"), .int, .int, .int, (.object "java/lang/SecurityManager"), (.object "java/lang/String"), (.object "java/io/Console"), (.object "java/io/PrintStream"), (.object "java/util/Properties"), (.object "java/lang/String"), (.object "java/lang/ModuleLayer")]
  resolved := Array.replicate 834 none
  statics := none }

def pool15 : Array CpInfo := pool [(9, u "<init>"), (6, .class_ 18), (1, u "java/lang/Object"), (0, u "()V"), (1, .class_ 23), (1, u "jdk/internal/util/ArraysSupport"), (0, u "LOG2_ARRAY_LONG_INDEX_SCALE"), (0, u "I"), (2, u "U"), (0, u "Ljdk/internal/misc/Unsafe;"), (8, u "BIG_ENDIAN"), (0, u "Z"), (8, u "LOG2_BYTE_BIT_SIZE"), (4, u "LOG2_ARRAY_INT_INDEX_SCALE"), (54, u "JLA"), (0, u "Ljdk/internal/access/JavaLangAccess;"), (11, u "LOG2_ARRAY_BOOLEAN_INDEX_SCALE"), (9, u "LOG2_ARRAY_BYTE_INDEX_SCALE"), (5, u "LOG2_ARRAY_CHAR_INDEX_SCALE"), (5, u "LOG2_ARRAY_SHORT_INDEX_SCALE"), (18, u "LOG2_ARRAY_FLOAT_INDEX_SCALE"), (24, u "LOG2_ARRAY_DOUBLE_INDEX_SCALE"), (89, u "T_BOOLEAN"), (2, u "T_CHAR"), (1, u "T_FLOAT"), (1, u "T_DOUBLE"), (1, u "T_BYTE"), (1, u "T_SHORT"), (1, u "T_INT"), (1, u "T_LONG"), (1, u "SOFT_MAX_ARRAY_LENGTH")] 83

def k15m0 : Method := { name := "<init>", desc := "()V", sig := { parameters := [], returnType := none }, accessFlags := 2, code := none }
/-- jdk/internal/util/ArraysSupport -/
def k15 : Class := { plain "jdk/internal/util/ArraysSupport" (some 0) with
  accessFlags := 33
  interfaces := #[]
  cf := some (fileOf pool15 21 #[] #[{ accessFlags := 2, nameIndex := 9, descriptorIndex := 19, attributes := #[] }] 33 16 #[] #[{ accessFlags := 24, nameIndex := 28, descriptorIndex := 29, attributes := #[] }, { accessFlags := 26, nameIndex := 38, descriptorIndex := 39, attributes := #[] }, { accessFlags := 25, nameIndex := 121, descriptorIndex := 25, attributes := #[] }, { accessFlags := 25, nameIndex := 131, descriptorIndex := 25, attributes := #[] }, { accessFlags := 25, nameIndex := 137, descriptorIndex := 25, attributes := #[] }, { accessFlags := 25, nameIndex := 143, descriptorIndex := 25, attributes := #[] }, { accessFlags := 25, nameIndex := 53, descriptorIndex := 25, attributes := #[] }, { accessFlags := 25, nameIndex := 24, descriptorIndex := 25, attributes := #[] }, { accessFlags := 25, nameIndex := 162, descriptorIndex := 25, attributes := #[] }, { accessFlags := 25, nameIndex := 187, descriptorIndex := 25, attributes := #[] }, { accessFlags := 26, nameIndex := 48, descriptorIndex := 25, attributes := #[] }, { accessFlags := 25, nameIndex := 277, descriptorIndex := 25, attributes := #[] }, { accessFlags := 25, nameIndex := 280, descriptorIndex := 25, attributes := #[] }, { accessFlags := 25, nameIndex := 282, descriptorIndex := 25, attributes := #[] }, { accessFlags := 25, nameIndex := 284, descriptorIndex := 25, attributes := #[] }, { accessFlags := 25, nameIndex := 286, descriptorIndex := 25, attributes := #[] }, { accessFlags := 25, nameIndex := 288, descriptorIndex := 25, attributes := #[] }, { accessFlags := 25, nameIndex := 290, descriptorIndex := 25, attributes := #[] }, { accessFlags := 25, nameIndex := 292, descriptorIndex := 25, attributes := #[] }, { accessFlags := 26, nameIndex := 108, descriptorIndex := 109, attributes := #[] }, { accessFlags := 25, nameIndex := 294, descriptorIndex := 25, attributes := #[] }])
  fields := #[{ name := "U", type := (.object "jdk/internal/misc/Unsafe"), accessFlags := 24, slot := 0, constantValue := 0 }, { name := "BIG_ENDIAN", type := .boolean, accessFlags := 26, slot := 1, constantValue := 0 }, { name := "LOG2_ARRAY_BOOLEAN_INDEX_SCALE", type := .int, accessFlags := 25, slot := 2, constantValue := 0 }, { name := "LOG2_ARRAY_BYTE_INDEX_SCALE", type := .int, accessFlags := 25, slot := 3, constantValue := 0 }, { name := "LOG2_ARRAY_CHAR_INDEX_SCALE", type := .int, accessFlags := 25, slot := 4, constantValue := 0 }, { name := "LOG2_ARRAY_SHORT_INDEX_SCALE", type := .int, accessFlags := 25, slot := 5, constantValue := 0 }, { name := "LOG2_ARRAY_INT_INDEX_SCALE", type := .int, accessFlags := 25, slot := 6, constantValue := 0 }, { name := "LOG2_ARRAY_LONG_INDEX_SCALE", type := .int, accessFlags := 25, slot := 7, constantValue := 0 }, { name := "LOG2_ARRAY_FLOAT_INDEX_SCALE", type := .int, accessFlags := 25, slot := 8, constantValue := 0 }, { name := "LOG2_ARRAY_DOUBLE_INDEX_SCALE", type := .int, accessFlags := 25, slot := 9, constantValue := 0 }, { name := "LOG2_BYTE_BIT_SIZE", type := .int, accessFlags := 26, slot := 10, constantValue := 0 }, { name := "T_BOOLEAN", type := .int, accessFlags := 25, slot := 11, constantValue := 0 }, { name := "T_CHAR", type := .int, accessFlags := 25, slot := 12, constantValue := 0 }, { name := "T_FLOAT", type := .int, accessFlags := 25, slot := 13, constantValue := 0 }, { name := "T_DOUBLE", type := .int, accessFlags := 25, slot := 14, constantValue := 0 }, { name := "T_BYTE", type := .int, accessFlags := 25, slot := 15, constantValue := 0 }, { name := "T_SHORT", type := .int, accessFlags := 25, slot := 16, constantValue := 0 }, { name := "T_INT", type := .int, accessFlags := 25, slot := 17, constantValue := 0 }, { name := "T_LONG", type := .int, accessFlags := 25, slot := 18, constantValue := 0 }, { name := "JLA", type := (.object "jdk/internal/access/JavaLangAccess"), accessFlags := 26, slot := 19, constantValue := 0 }, { name := "SOFT_MAX_ARRAY_LENGTH", type := .int, accessFlags := 25, slot := 20, constantValue := 0 }]
  methods := #[k15m0]
  instanceTypes := #[]
  staticTypes := #[(.object "jdk/internal/misc/Unsafe"), .boolean, .int, .int, .int, .int, .int, .int, .int, .int, .int, .int, .int, .int, .int, .int, .int, .int, .int, (.object "jdk/internal/access/JavaLangAccess"), .int]
  resolved := Array.replicate 378 none
  statics := none }

def pool16 : Array CpInfo := pool [(1, u "java/lang/Cloneable"), (0, .class_ 1), (0, u "java/lang/Object"), (0, .class_ 3)] 3

/-- java/lang/Cloneable -/
def k16 : Class := { plain "java/lang/Cloneable" (some 0) with
  accessFlags := 1537
  interfaces := #[]
  cf := some (fileOf pool16 2 #[] #[] 1537 4 #[] #[])
  fields := #[]
  methods := #[]
  instanceTypes := #[]
  staticTypes := #[]
  resolved := Array.replicate 8 none
  statics := none }

/-- the primitive byte -/
def k17 : Class := { plain "byte" none with kind := .primitive 'B', accessFlags := 0x411 }
/-- [B -/
def k18 : Class := { plain "[B" (some 0) with kind := .array 17 .byte, interfaces := #[16, 2], accessFlags := 1041 }

/-- the primitive char -/
def k19 : Class := { plain "char" none with kind := .primitive 'C', accessFlags := 0x411 }
/-- [C -/
def k20 : Class := { plain "[C" (some 0) with kind := .array 19 .char, interfaces := #[16, 2], accessFlags := 1041 }

def heap : Heap := #[{ cls := 7, slots := #[.long 0, .int 1, .null, .int 0, .null, .int 0, .int 0], vm := .statics 7 },
  { cls := 10, slots := #[.null, .null, .null], vm := .statics 10 },
  { cls := 11, slots := #[.int 0, .int 8, .int 0, .int 1], vm := .statics 11 }]
def classes : Array Class := #[k0, k1, k2, k3, k4, k5, k6, k7, k8, k9, k10, k11, k12, k13, k14, k15, k16, k17, k18, k19, k20]
def interned : List (Array UInt16 × Addr) := []
def slotsUsed : Nat := 14
def theMethod : MethodId := ⟨1, 5⟩
def args0 : Array Value := #[.int 5, .int 6, .int 7, .int 8, .int 9, .int 10]
def aboutOver (below : List Frame) : State where
  vm := { classes := classes, interned := interned.toArray }
  heap := heap
  slotsUsed := slotsUsed
  threads := #[{ frames := .invoking theMethod args0 :: below }]
def below0 : List Frame := [.native { method := ⟨0, 0⟩, args := #[] }]
def about1 : State := aboutOver below0
def p0 : Program := .bare "" "" ""
def e0 : Env := launch0.env 0 0 0
theorem w_frames : about1.frames = Frame.invoking theMethod args0 :: below0 := rfl
set_option maxRecDepth 65536 in
theorem w_args : argsFit about1.vm theMethod args0 = true := by decide +kernel
set_option maxRecDepth 65536 in
theorem w_heap : heapFits about1 = true := by decide +kernel
set_option maxRecDepth 65536 in
theorem w_runnable : about1.curStatus? = some .runnable := by decide +kernel
set_option maxRecDepth 65536 in
theorem w_alone : about1.alone = true := by decide +kernel
set_option maxRecDepth 65536 in
theorem w_named : about1.methodNamed? x = some theMethod := by decide +kernel
set_option maxRecDepth 65536 in
theorem w_hears : about1.hears theMethod below0 = true := by decide +kernel
set_option maxRecDepth 65536 in
theorem w_ripe : about1.ripe theMethod args0 below0 = true := by decide +kernel
theorem w_running : about1.status = .running := rfl
set_option maxRecDepth 65536 in
theorem w_room : about1.hasRoom e0.platform room_1 = true :=
  launch0.hasRoom_least _ room_1 (by decide +kernel) (by decide +kernel) (by decide +kernel) (by decide +kernel) (by decide +kernel) (by decide +kernel)
theorem allAtoms_all (ts : List Jvm.Cond) (a : Array Jvm.Value) (st : Jvm.State) : (allAtoms ts).before a st = ts.all (fun c => c.before a st) := by
  induction ts with
  | nil => rfl
  | cons c t ih =>
    show (Jvm.Cond.and c (allAtoms t)).before a st = _
    rw [Jvm.Cond.before_and, ih, List.all_cons]
def words1 : List Jvm.Cond := Jvm.Cond.code x code maxLocals ret :: tables_1
/-- a 'code' word, met by the world's own term for the bytes: nothing is compared byte by byte -/
theorem code_word {y : MethodName} {bytes : ByteArray} {mx : Nat} {rt : Option FieldType} {a : Array Value} {s : State} {m : MethodId} {meth : Method} {c : Code} (h1 : s.methodNamed? y = some m) (h2 : s.vm.method? m = some meth) (h3 : meth.code = some c) (h4 : c.code = bytes)
    (h5 : (c.maxLocals == mx && c.exceptionTable.isEmpty && decide (c.maxStack ≤ mostOperands) && decide (meth.sig.returnType = rt) && !meth.locks && decide (parseMethodDescriptor y.desc = some meth.sig)) = true) : (Jvm.Cond.code y bytes mx rt).before a s = true := by
  simp only [Bool.and_eq_true, beq_iff_eq, Bool.not_eq_true', decide_eq_true_eq] at h5
  obtain ⟨⟨⟨⟨⟨g1, g2⟩, g3⟩, g4⟩, g5⟩, g6⟩ := h5
  simp [Cond.before, Cond.holds, Cond.value, h1, h2, h3, h4, g1, g2, g3, g4, g5, g6]
def isCode : Jvm.Cond → Bool
  | .code _ _ _ _ => true
  | _ => false
theorem all_split {L : List Jvm.Cond} {P : Jvm.Cond → Bool} (h1 : L.all (fun c => isCode c || P c) = true) (h2 : ∀ c ∈ L.filter isCode, P c = true) : L.all P = true := by
  refine List.all_eq_true.mpr fun c hc => ?_
  have h := List.all_eq_true.mp h1 c hc
  rcases Bool.eq_false_or_eq_true (isCode c) with hi | hi
  · exact h2 c (List.mem_filter.mpr ⟨hc, hi⟩)
  · simpa [hi] using h
set_option maxRecDepth 65536 in
theorem w_c0 : (Jvm.Cond.code x code maxLocals ret).before args0 about1 = true := code_word (m := ⟨1, 5⟩) (meth := k1m5) (c := k1c5) (by decide +kernel) rfl rfl rfl (by decide +kernel)
set_option maxRecDepth 65536 in
theorem w_c1 : (Jvm.Cond.code ({ cls := "org/vouchsafe/DomTrimmedPinLaw", name := "draw", desc := "(I)C" } : Jvm.MethodName) method_3_code (2 : Nat) (Option.some Jvm.ClassFile.FieldType.char)).before args0 about1 = true := code_word (m := ⟨1, 2⟩) (meth := k1m2) (c := k1c2) (by decide +kernel) rfl rfl rfl (by decide +kernel)
set_option maxRecDepth 65536 in
theorem w_c2 : (Jvm.Cond.code ({ cls := "org/vouchsafe/DomTrimmedPinLaw", name := "make", desc := "(I[C)Ljava/lang/String;" } : Jvm.MethodName) method_4_code (2 : Nat) (Option.some (Jvm.ClassFile.FieldType.object "java/lang/String"))).before args0 about1 = true := code_word (m := ⟨1, 3⟩) (meth := k1m3) (c := k1c3) (by decide +kernel) rfl rfl rfl (by decide +kernel)
set_option maxRecDepth 65536 in
theorem w_c3 : (Jvm.Cond.code ({ cls := "java/lang/String", name := "<init>", desc := "([C)V" } : Jvm.MethodName) jdk_42_method_3_code (2 : Nat) (Option.none : Option Jvm.ClassFile.FieldType)).before args0 about1 = true := code_word (m := ⟨7, 1⟩) (meth := k7m1) (c := k7c1) (by decide +kernel) rfl rfl rfl (by decide +kernel)
set_option maxRecDepth 65536 in
theorem w_c4 : (Jvm.Cond.code ({ cls := "java/lang/String", name := "<init>", desc := "([CIILjava/lang/Void;)V" } : Jvm.MethodName) jdk_42_method_149_code (6 : Nat) (Option.none : Option Jvm.ClassFile.FieldType)).before args0 about1 = true := code_word (m := ⟨7, 5⟩) (meth := k7m5) (c := k7c5) (by decide +kernel) rfl rfl rfl (by decide +kernel)
set_option maxRecDepth 65536 in
theorem w_c5 : (Jvm.Cond.code ({ cls := "java/lang/Object", name := "<init>", desc := "()V" } : Jvm.MethodName) object_method_1_code (1 : Nat) (Option.none : Option Jvm.ClassFile.FieldType)).before args0 about1 = true := code_word (m := ⟨0, 0⟩) (meth := k0m0) (c := k0c0) (by decide +kernel) rfl rfl rfl (by decide +kernel)
set_option maxRecDepth 65536 in
theorem w_c6 : (Jvm.Cond.code ({ cls := "java/lang/Math", name := "max", desc := "(II)I" } : Jvm.MethodName) jdk_29_method_65_code (2 : Nat) (Option.some Jvm.ClassFile.FieldType.int)).before args0 about1 = true := code_word (m := ⟨8, 1⟩) (meth := k8m1) (c := k8c1) (by decide +kernel) rfl rfl rfl (by decide +kernel)
set_option maxRecDepth 65536 in
theorem w_c7 : (Jvm.Cond.code ({ cls := "org/vouchsafe/Dom", name := "trimmed", desc := "(Ljava/lang/String;)Ljava/lang/String;" } : Jvm.MethodName) prog_10_method_18_code (3 : Nat) (Option.some (Jvm.ClassFile.FieldType.object "java/lang/String"))).before args0 about1 = true := code_word (m := ⟨9, 1⟩) (meth := k9m1) (c := k9c1) (by decide +kernel) rfl rfl rfl (by decide +kernel)
set_option maxRecDepth 65536 in
theorem w_c8 : (Jvm.Cond.code ({ cls := "java/lang/String", name := "length", desc := "()I" } : Jvm.MethodName) jdk_42_method_54_code (1 : Nat) (Option.some Jvm.ClassFile.FieldType.int)).before args0 about1 = true := code_word (m := ⟨7, 2⟩) (meth := k7m2) (c := k7c2) (by decide +kernel) rfl rfl rfl (by decide +kernel)
set_option maxRecDepth 65536 in
theorem w_c9 : (Jvm.Cond.code ({ cls := "java/lang/String", name := "coder", desc := "()B" } : Jvm.MethodName) jdk_42_method_152_code (1 : Nat) (Option.some Jvm.ClassFile.FieldType.byte)).before args0 about1 = true := code_word (m := ⟨7, 7⟩) (meth := k7m7) (c := k7c7) (by decide +kernel) rfl rfl rfl (by decide +kernel)
set_option maxRecDepth 65536 in
theorem w_c10 : (Jvm.Cond.code ({ cls := "java/lang/String", name := "substring", desc := "(II)Ljava/lang/String;" } : Jvm.MethodName) jdk_42_method_92_code (5 : Nat) (Option.some (Jvm.ClassFile.FieldType.object "java/lang/String"))).before args0 about1 = true := code_word (m := ⟨7, 4⟩) (meth := k7m4) (c := k7c4) (by decide +kernel) rfl rfl rfl (by decide +kernel)
set_option maxRecDepth 65536 in
theorem w_c11 : (Jvm.Cond.code ({ cls := "java/lang/String", name := "checkBoundsBeginEnd", desc := "(III)V" } : Jvm.MethodName) jdk_42_method_158_code (3 : Nat) (Option.none : Option Jvm.ClassFile.FieldType)).before args0 about1 = true := code_word (m := ⟨7, 11⟩) (meth := k7m11) (c := k7c11) (by decide +kernel) rfl rfl rfl (by decide +kernel)
set_option maxRecDepth 65536 in
theorem w_c12 : (Jvm.Cond.code ({ cls := "jdk/internal/util/Preconditions", name := "checkFromToIndex", desc := "(IIILjava/util/function/BiFunction;)I" } : Jvm.MethodName) jdk_41_method_12_code (4 : Nat) (Option.some Jvm.ClassFile.FieldType.int)).before args0 about1 = true := code_word (m := ⟨10, 2⟩) (meth := k10m2) (c := k10c2) (by decide +kernel) rfl rfl rfl (by decide +kernel)
set_option maxRecDepth 65536 in
theorem w_c13 : (Jvm.Cond.code ({ cls := "org/vouchsafe/DomTrimmedPinLaw", name := "same", desc := "(Ljava/lang/String;I[CI)Z" } : Jvm.MethodName) method_5_code (4 : Nat) (Option.some Jvm.ClassFile.FieldType.boolean)).before args0 about1 = true := code_word (m := ⟨1, 4⟩) (meth := k1m4) (c := k1c4) (by decide +kernel) rfl rfl rfl (by decide +kernel)
set_option maxRecDepth 65536 in
theorem w_c14 : (Jvm.Cond.code ({ cls := "java/lang/StringUTF16", name := "compress", desc := "([CII)[B" } : Jvm.MethodName) jdk_52_method_16_code (6 : Nat) (Option.some (Jvm.ClassFile.FieldType.array Jvm.ClassFile.FieldType.byte))).before args0 about1 = true := code_word (m := ⟨11, 8⟩) (meth := k11m8) (c := k11c8) (by decide +kernel) rfl rfl rfl (by decide +kernel)
set_option maxRecDepth 65536 in
theorem w_c15 : (Jvm.Cond.code ({ cls := "java/lang/StringUTF16", name := "compress", desc := "([CI[BII)I" } : Jvm.MethodName) jdk_52_method_21_code (7 : Nat) (Option.some Jvm.ClassFile.FieldType.int)).before args0 about1 = true := code_word (m := ⟨11, 10⟩) (meth := k11m10) (c := k11c10) (by decide +kernel) rfl rfl rfl (by decide +kernel)
set_option maxRecDepth 65536 in
theorem w_c16 : (Jvm.Cond.code ({ cls := "java/lang/StringUTF16", name := "coderFromArrayLen", desc := "([BI)B" } : Jvm.MethodName) jdk_52_method_15_code (2 : Nat) (Option.some Jvm.ClassFile.FieldType.byte)).before args0 about1 = true := code_word (m := ⟨11, 7⟩) (meth := k11m7) (c := k11c7) (by decide +kernel) rfl rfl rfl (by decide +kernel)
set_option maxRecDepth 65536 in
theorem w_c17 : (Jvm.Cond.code ({ cls := "org/vouchsafe/DomTrimmedPinLaw", name := "sp", desc := "(C)Z" } : Jvm.MethodName) method_2_code (1 : Nat) (Option.some Jvm.ClassFile.FieldType.boolean)).before args0 about1 = true := code_word (m := ⟨1, 1⟩) (meth := k1m1) (c := k1c1) (by decide +kernel) rfl rfl rfl (by decide +kernel)
set_option maxRecDepth 65536 in
theorem w_c18 : (Jvm.Cond.code ({ cls := "java/lang/String", name := "charAt", desc := "(I)C" } : Jvm.MethodName) jdk_42_method_56_code (2 : Nat) (Option.some Jvm.ClassFile.FieldType.char)).before args0 about1 = true := code_word (m := ⟨7, 3⟩) (meth := k7m3) (c := k7c3) (by decide +kernel) rfl rfl rfl (by decide +kernel)
set_option maxRecDepth 65536 in
theorem w_c19 : (Jvm.Cond.code ({ cls := "java/lang/String", name := "isLatin1", desc := "()Z" } : Jvm.MethodName) jdk_42_method_154_code (1 : Nat) (Option.some Jvm.ClassFile.FieldType.boolean)).before args0 about1 = true := code_word (m := ⟨7, 8⟩) (meth := k7m8) (c := k7c8) (by decide +kernel) rfl rfl rfl (by decide +kernel)
set_option maxRecDepth 65536 in
theorem w_c20 : (Jvm.Cond.code ({ cls := "java/lang/StringLatin1", name := "charAt", desc := "([BI)C" } : Jvm.MethodName) jdk_43_method_2_code (2 : Nat) (Option.some Jvm.ClassFile.FieldType.char)).before args0 about1 = true := code_word (m := ⟨12, 1⟩) (meth := k12m1) (c := k12c1) (by decide +kernel) rfl rfl rfl (by decide +kernel)
set_option maxRecDepth 65536 in
theorem w_c21 : (Jvm.Cond.code ({ cls := "java/lang/String", name := "checkIndex", desc := "(II)V" } : Jvm.MethodName) jdk_42_method_155_code (2 : Nat) (Option.none : Option Jvm.ClassFile.FieldType)).before args0 about1 = true := code_word (m := ⟨7, 9⟩) (meth := k7m9) (c := k7c9) (by decide +kernel) rfl rfl rfl (by decide +kernel)
set_option maxRecDepth 65536 in
theorem w_c22 : (Jvm.Cond.code ({ cls := "jdk/internal/util/Preconditions", name := "checkIndex", desc := "(IILjava/util/function/BiFunction;)I" } : Jvm.MethodName) jdk_41_method_11_code (3 : Nat) (Option.some Jvm.ClassFile.FieldType.int)).before args0 about1 = true := code_word (m := ⟨10, 1⟩) (meth := k10m1) (c := k10c1) (by decide +kernel) rfl rfl rfl (by decide +kernel)
set_option maxRecDepth 65536 in
theorem w_c23 : (Jvm.Cond.code ({ cls := "org/vouchsafe/Dom", name := "isXmlSpace", desc := "(C)Z" } : Jvm.MethodName) prog_10_method_19_code (1 : Nat) (Option.some Jvm.ClassFile.FieldType.boolean)).before args0 about1 = true := code_word (m := ⟨9, 2⟩) (meth := k9m2) (c := k9c2) (by decide +kernel) rfl rfl rfl (by decide +kernel)
set_option maxRecDepth 65536 in
theorem w_c24 : (Jvm.Cond.code ({ cls := "java/lang/StringLatin1", name := "newString", desc := "([BII)Ljava/lang/String;" } : Jvm.MethodName) jdk_43_method_47_code (3 : Nat) (Option.some (Jvm.ClassFile.FieldType.object "java/lang/String"))).before args0 about1 = true := code_word (m := ⟨12, 2⟩) (meth := k12m2) (c := k12c2) (by decide +kernel) rfl rfl rfl (by decide +kernel)
set_option maxRecDepth 65536 in
theorem w_c25 : (Jvm.Cond.code ({ cls := "java/util/Arrays", name := "copyOfRange", desc := "([BII)[B" } : Jvm.MethodName) jdk_65_method_132_code (3 : Nat) (Option.some (Jvm.ClassFile.FieldType.array Jvm.ClassFile.FieldType.byte))).before args0 about1 = true := code_word (m := ⟨13, 2⟩) (meth := k13m2) (c := k13c2) (by decide +kernel) rfl rfl rfl (by decide +kernel)
set_option maxRecDepth 65536 in
theorem w_c26 : (Jvm.Cond.code ({ cls := "java/util/Arrays", name := "copyOfRangeByte", desc := "([BII)[B" } : Jvm.MethodName) jdk_65_method_133_code (5 : Nat) (Option.some (Jvm.ClassFile.FieldType.array Jvm.ClassFile.FieldType.byte))).before args0 about1 = true := code_word (m := ⟨13, 3⟩) (meth := k13m3) (c := k13c3) (by decide +kernel) rfl rfl rfl (by decide +kernel)
set_option maxRecDepth 65536 in
theorem w_c27 : (Jvm.Cond.code ({ cls := "java/util/Arrays", name := "checkLength", desc := "(II)V" } : Jvm.MethodName) jdk_65_method_131_code (2 : Nat) (Option.none : Option Jvm.ClassFile.FieldType)).before args0 about1 = true := code_word (m := ⟨13, 1⟩) (meth := k13m1) (c := k13c1) (by decide +kernel) rfl rfl rfl (by decide +kernel)
set_option maxRecDepth 65536 in
theorem w_c28 : (Jvm.Cond.code ({ cls := "java/lang/Math", name := "min", desc := "(II)I" } : Jvm.MethodName) jdk_29_method_69_code (2 : Nat) (Option.some Jvm.ClassFile.FieldType.int)).before args0 about1 = true := code_word (m := ⟨8, 2⟩) (meth := k8m2) (c := k8c2) (by decide +kernel) rfl rfl rfl (by decide +kernel)
set_option maxRecDepth 65536 in
theorem w_c29 : (Jvm.Cond.code ({ cls := "java/lang/String", name := "<init>", desc := "([BB)V" } : Jvm.MethodName) jdk_42_method_151_code (3 : Nat) (Option.none : Option Jvm.ClassFile.FieldType)).before args0 about1 = true := code_word (m := ⟨7, 6⟩) (meth := k7m6) (c := k7c6) (by decide +kernel) rfl rfl rfl (by decide +kernel)
set_option maxRecDepth 65536 in
theorem w_c30 : (Jvm.Cond.code ({ cls := "java/lang/StringUTF16", name := "toBytes", desc := "([CII)[B" } : Jvm.MethodName) jdk_52_method_14_code (5 : Nat) (Option.some (Jvm.ClassFile.FieldType.array Jvm.ClassFile.FieldType.byte))).before args0 about1 = true := code_word (m := ⟨11, 6⟩) (meth := k11m6) (c := k11c6) (by decide +kernel) rfl rfl rfl (by decide +kernel)
set_option maxRecDepth 65536 in
theorem w_c31 : (Jvm.Cond.code ({ cls := "java/lang/StringUTF16", name := "newBytesFor", desc := "(I)[B" } : Jvm.MethodName) jdk_52_method_2_code (1 : Nat) (Option.some (Jvm.ClassFile.FieldType.array Jvm.ClassFile.FieldType.byte))).before args0 about1 = true := code_word (m := ⟨11, 1⟩) (meth := k11m1) (c := k11c1) (by decide +kernel) rfl rfl rfl (by decide +kernel)
set_option maxRecDepth 65536 in
theorem w_c32 : (Jvm.Cond.code ({ cls := "java/lang/StringUTF16", name := "newBytesLength", desc := "(I)I" } : Jvm.MethodName) jdk_52_method_3_code (1 : Nat) (Option.some Jvm.ClassFile.FieldType.int)).before args0 about1 = true := code_word (m := ⟨11, 2⟩) (meth := k11m2) (c := k11c2) (by decide +kernel) rfl rfl rfl (by decide +kernel)
set_option maxRecDepth 65536 in
theorem w_c33 : (Jvm.Cond.code ({ cls := "java/lang/StringUTF16", name := "putChar", desc := "([BII)V" } : Jvm.MethodName) jdk_52_method_4_code (3 : Nat) (Option.none : Option Jvm.ClassFile.FieldType)).before args0 about1 = true := code_word (m := ⟨11, 3⟩) (meth := k11m3) (c := k11c3) (by decide +kernel) rfl rfl rfl (by decide +kernel)
set_option maxRecDepth 65536 in
theorem w_c34 : (Jvm.Cond.code ({ cls := "java/lang/StringUTF16", name := "getChar", desc := "([BI)C" } : Jvm.MethodName) jdk_52_method_5_code (2 : Nat) (Option.some Jvm.ClassFile.FieldType.char)).before args0 about1 = true := code_word (m := ⟨11, 4⟩) (meth := k11m4) (c := k11c4) (by decide +kernel) rfl rfl rfl (by decide +kernel)
set_option maxRecDepth 65536 in
theorem w_c35 : (Jvm.Cond.code ({ cls := "java/lang/StringUTF16", name := "charAt", desc := "([BI)C" } : Jvm.MethodName) jdk_52_method_83_code (2 : Nat) (Option.some Jvm.ClassFile.FieldType.char)).before args0 about1 = true := code_word (m := ⟨11, 13⟩) (meth := k11m13) (c := k11c13) (by decide +kernel) rfl rfl rfl (by decide +kernel)
set_option maxRecDepth 65536 in
theorem w_c36 : (Jvm.Cond.code ({ cls := "java/lang/StringUTF16", name := "checkIndex", desc := "(I[B)V" } : Jvm.MethodName) jdk_52_method_91_code (2 : Nat) (Option.none : Option Jvm.ClassFile.FieldType)).before args0 about1 = true := code_word (m := ⟨11, 14⟩) (meth := k11m14) (c := k11c14) (by decide +kernel) rfl rfl rfl (by decide +kernel)
set_option maxRecDepth 65536 in
theorem w_c37 : (Jvm.Cond.code ({ cls := "java/lang/StringUTF16", name := "length", desc := "([B)I" } : Jvm.MethodName) jdk_52_method_6_code (1 : Nat) (Option.some Jvm.ClassFile.FieldType.int)).before args0 about1 = true := code_word (m := ⟨11, 5⟩) (meth := k11m5) (c := k11c5) (by decide +kernel) rfl rfl rfl (by decide +kernel)
set_option maxRecDepth 65536 in
theorem w_c38 : (Jvm.Cond.code ({ cls := "java/lang/StringUTF16", name := "newString", desc := "([BII)Ljava/lang/String;" } : Jvm.MethodName) jdk_52_method_69_code (5 : Nat) (Option.some (Jvm.ClassFile.FieldType.object "java/lang/String"))).before args0 about1 = true := code_word (m := ⟨11, 12⟩) (meth := k11m12) (c := k11c12) (by decide +kernel) rfl rfl rfl (by decide +kernel)
set_option maxRecDepth 65536 in
theorem w_c39 : (Jvm.Cond.code ({ cls := "java/lang/StringUTF16", name := "compress", desc := "([BII)[B" } : Jvm.MethodName) jdk_52_method_17_code (6 : Nat) (Option.some (Jvm.ClassFile.FieldType.array Jvm.ClassFile.FieldType.byte))).before args0 about1 = true := code_word (m := ⟨11, 9⟩) (meth := k11m9) (c := k11c9) (by decide +kernel) rfl rfl rfl (by decide +kernel)
set_option maxRecDepth 65536 in
theorem w_c40 : (Jvm.Cond.code ({ cls := "java/lang/StringUTF16", name := "compress", desc := "([BI[BII)I" } : Jvm.MethodName) jdk_52_method_22_code (7 : Nat) (Option.some Jvm.ClassFile.FieldType.int)).before args0 about1 = true := code_word (m := ⟨11, 11⟩) (meth := k11m11) (c := k11c11) (by decide +kernel) rfl rfl rfl (by decide +kernel)
set_option maxRecDepth 65536 in
theorem w_c41 : (Jvm.Cond.code ({ cls := "java/lang/StringUTF16", name := "checkBoundsOffCount", desc := "(II[B)V" } : Jvm.MethodName) jdk_52_method_94_code (3 : Nat) (Option.none : Option Jvm.ClassFile.FieldType)).before args0 about1 = true := code_word (m := ⟨11, 15⟩) (meth := k11m15) (c := k11c15) (by decide +kernel) rfl rfl rfl (by decide +kernel)
set_option maxRecDepth 65536 in
theorem w_c42 : (Jvm.Cond.code ({ cls := "java/lang/String", name := "checkBoundsOffCount", desc := "(III)I" } : Jvm.MethodName) jdk_42_method_157_code (3 : Nat) (Option.some Jvm.ClassFile.FieldType.int)).before args0 about1 = true := code_word (m := ⟨7, 10⟩) (meth := k7m10) (c := k7c10) (by decide +kernel) rfl rfl rfl (by decide +kernel)
set_option maxRecDepth 65536 in
theorem w_c43 : (Jvm.Cond.code ({ cls := "jdk/internal/util/Preconditions", name := "checkFromIndexSize", desc := "(IIILjava/util/function/BiFunction;)I" } : Jvm.MethodName) jdk_41_method_13_code (4 : Nat) (Option.some Jvm.ClassFile.FieldType.int)).before args0 about1 = true := code_word (m := ⟨10, 3⟩) (meth := k10m3) (c := k10c3) (by decide +kernel) rfl rfl rfl (by decide +kernel)
def codes1 : List Jvm.Cond := [Jvm.Cond.code x code maxLocals ret, Jvm.Cond.code ({ cls := "org/vouchsafe/DomTrimmedPinLaw", name := "draw", desc := "(I)C" } : Jvm.MethodName) method_3_code (2 : Nat) (Option.some Jvm.ClassFile.FieldType.char), Jvm.Cond.code ({ cls := "org/vouchsafe/DomTrimmedPinLaw", name := "make", desc := "(I[C)Ljava/lang/String;" } : Jvm.MethodName) method_4_code (2 : Nat) (Option.some (Jvm.ClassFile.FieldType.object "java/lang/String")), Jvm.Cond.code ({ cls := "java/lang/String", name := "<init>", desc := "([C)V" } : Jvm.MethodName) jdk_42_method_3_code (2 : Nat) (Option.none : Option Jvm.ClassFile.FieldType), Jvm.Cond.code ({ cls := "java/lang/String", name := "<init>", desc := "([CIILjava/lang/Void;)V" } : Jvm.MethodName) jdk_42_method_149_code (6 : Nat) (Option.none : Option Jvm.ClassFile.FieldType), Jvm.Cond.code ({ cls := "java/lang/Object", name := "<init>", desc := "()V" } : Jvm.MethodName) object_method_1_code (1 : Nat) (Option.none : Option Jvm.ClassFile.FieldType), Jvm.Cond.code ({ cls := "java/lang/Math", name := "max", desc := "(II)I" } : Jvm.MethodName) jdk_29_method_65_code (2 : Nat) (Option.some Jvm.ClassFile.FieldType.int), Jvm.Cond.code ({ cls := "org/vouchsafe/Dom", name := "trimmed", desc := "(Ljava/lang/String;)Ljava/lang/String;" } : Jvm.MethodName) prog_10_method_18_code (3 : Nat) (Option.some (Jvm.ClassFile.FieldType.object "java/lang/String")), Jvm.Cond.code ({ cls := "java/lang/String", name := "length", desc := "()I" } : Jvm.MethodName) jdk_42_method_54_code (1 : Nat) (Option.some Jvm.ClassFile.FieldType.int), Jvm.Cond.code ({ cls := "java/lang/String", name := "coder", desc := "()B" } : Jvm.MethodName) jdk_42_method_152_code (1 : Nat) (Option.some Jvm.ClassFile.FieldType.byte), Jvm.Cond.code ({ cls := "java/lang/String", name := "substring", desc := "(II)Ljava/lang/String;" } : Jvm.MethodName) jdk_42_method_92_code (5 : Nat) (Option.some (Jvm.ClassFile.FieldType.object "java/lang/String")), Jvm.Cond.code ({ cls := "java/lang/String", name := "checkBoundsBeginEnd", desc := "(III)V" } : Jvm.MethodName) jdk_42_method_158_code (3 : Nat) (Option.none : Option Jvm.ClassFile.FieldType), Jvm.Cond.code ({ cls := "jdk/internal/util/Preconditions", name := "checkFromToIndex", desc := "(IIILjava/util/function/BiFunction;)I" } : Jvm.MethodName) jdk_41_method_12_code (4 : Nat) (Option.some Jvm.ClassFile.FieldType.int), Jvm.Cond.code ({ cls := "org/vouchsafe/DomTrimmedPinLaw", name := "same", desc := "(Ljava/lang/String;I[CI)Z" } : Jvm.MethodName) method_5_code (4 : Nat) (Option.some Jvm.ClassFile.FieldType.boolean), Jvm.Cond.code ({ cls := "java/lang/StringUTF16", name := "compress", desc := "([CII)[B" } : Jvm.MethodName) jdk_52_method_16_code (6 : Nat) (Option.some (Jvm.ClassFile.FieldType.array Jvm.ClassFile.FieldType.byte)), Jvm.Cond.code ({ cls := "java/lang/StringUTF16", name := "compress", desc := "([CI[BII)I" } : Jvm.MethodName) jdk_52_method_21_code (7 : Nat) (Option.some Jvm.ClassFile.FieldType.int), Jvm.Cond.code ({ cls := "java/lang/StringUTF16", name := "coderFromArrayLen", desc := "([BI)B" } : Jvm.MethodName) jdk_52_method_15_code (2 : Nat) (Option.some Jvm.ClassFile.FieldType.byte), Jvm.Cond.code ({ cls := "org/vouchsafe/DomTrimmedPinLaw", name := "sp", desc := "(C)Z" } : Jvm.MethodName) method_2_code (1 : Nat) (Option.some Jvm.ClassFile.FieldType.boolean), Jvm.Cond.code ({ cls := "java/lang/String", name := "charAt", desc := "(I)C" } : Jvm.MethodName) jdk_42_method_56_code (2 : Nat) (Option.some Jvm.ClassFile.FieldType.char), Jvm.Cond.code ({ cls := "java/lang/String", name := "isLatin1", desc := "()Z" } : Jvm.MethodName) jdk_42_method_154_code (1 : Nat) (Option.some Jvm.ClassFile.FieldType.boolean), Jvm.Cond.code ({ cls := "java/lang/StringLatin1", name := "charAt", desc := "([BI)C" } : Jvm.MethodName) jdk_43_method_2_code (2 : Nat) (Option.some Jvm.ClassFile.FieldType.char), Jvm.Cond.code ({ cls := "java/lang/String", name := "checkIndex", desc := "(II)V" } : Jvm.MethodName) jdk_42_method_155_code (2 : Nat) (Option.none : Option Jvm.ClassFile.FieldType), Jvm.Cond.code ({ cls := "jdk/internal/util/Preconditions", name := "checkIndex", desc := "(IILjava/util/function/BiFunction;)I" } : Jvm.MethodName) jdk_41_method_11_code (3 : Nat) (Option.some Jvm.ClassFile.FieldType.int), Jvm.Cond.code ({ cls := "org/vouchsafe/Dom", name := "isXmlSpace", desc := "(C)Z" } : Jvm.MethodName) prog_10_method_19_code (1 : Nat) (Option.some Jvm.ClassFile.FieldType.boolean), Jvm.Cond.code ({ cls := "java/lang/StringLatin1", name := "newString", desc := "([BII)Ljava/lang/String;" } : Jvm.MethodName) jdk_43_method_47_code (3 : Nat) (Option.some (Jvm.ClassFile.FieldType.object "java/lang/String")), Jvm.Cond.code ({ cls := "java/util/Arrays", name := "copyOfRange", desc := "([BII)[B" } : Jvm.MethodName) jdk_65_method_132_code (3 : Nat) (Option.some (Jvm.ClassFile.FieldType.array Jvm.ClassFile.FieldType.byte)), Jvm.Cond.code ({ cls := "java/util/Arrays", name := "copyOfRangeByte", desc := "([BII)[B" } : Jvm.MethodName) jdk_65_method_133_code (5 : Nat) (Option.some (Jvm.ClassFile.FieldType.array Jvm.ClassFile.FieldType.byte)), Jvm.Cond.code ({ cls := "java/util/Arrays", name := "checkLength", desc := "(II)V" } : Jvm.MethodName) jdk_65_method_131_code (2 : Nat) (Option.none : Option Jvm.ClassFile.FieldType), Jvm.Cond.code ({ cls := "java/lang/Math", name := "min", desc := "(II)I" } : Jvm.MethodName) jdk_29_method_69_code (2 : Nat) (Option.some Jvm.ClassFile.FieldType.int), Jvm.Cond.code ({ cls := "java/lang/String", name := "<init>", desc := "([BB)V" } : Jvm.MethodName) jdk_42_method_151_code (3 : Nat) (Option.none : Option Jvm.ClassFile.FieldType), Jvm.Cond.code ({ cls := "java/lang/StringUTF16", name := "toBytes", desc := "([CII)[B" } : Jvm.MethodName) jdk_52_method_14_code (5 : Nat) (Option.some (Jvm.ClassFile.FieldType.array Jvm.ClassFile.FieldType.byte)), Jvm.Cond.code ({ cls := "java/lang/StringUTF16", name := "newBytesFor", desc := "(I)[B" } : Jvm.MethodName) jdk_52_method_2_code (1 : Nat) (Option.some (Jvm.ClassFile.FieldType.array Jvm.ClassFile.FieldType.byte)), Jvm.Cond.code ({ cls := "java/lang/StringUTF16", name := "newBytesLength", desc := "(I)I" } : Jvm.MethodName) jdk_52_method_3_code (1 : Nat) (Option.some Jvm.ClassFile.FieldType.int), Jvm.Cond.code ({ cls := "java/lang/StringUTF16", name := "putChar", desc := "([BII)V" } : Jvm.MethodName) jdk_52_method_4_code (3 : Nat) (Option.none : Option Jvm.ClassFile.FieldType), Jvm.Cond.code ({ cls := "java/lang/StringUTF16", name := "getChar", desc := "([BI)C" } : Jvm.MethodName) jdk_52_method_5_code (2 : Nat) (Option.some Jvm.ClassFile.FieldType.char), Jvm.Cond.code ({ cls := "java/lang/StringUTF16", name := "charAt", desc := "([BI)C" } : Jvm.MethodName) jdk_52_method_83_code (2 : Nat) (Option.some Jvm.ClassFile.FieldType.char), Jvm.Cond.code ({ cls := "java/lang/StringUTF16", name := "checkIndex", desc := "(I[B)V" } : Jvm.MethodName) jdk_52_method_91_code (2 : Nat) (Option.none : Option Jvm.ClassFile.FieldType), Jvm.Cond.code ({ cls := "java/lang/StringUTF16", name := "length", desc := "([B)I" } : Jvm.MethodName) jdk_52_method_6_code (1 : Nat) (Option.some Jvm.ClassFile.FieldType.int), Jvm.Cond.code ({ cls := "java/lang/StringUTF16", name := "newString", desc := "([BII)Ljava/lang/String;" } : Jvm.MethodName) jdk_52_method_69_code (5 : Nat) (Option.some (Jvm.ClassFile.FieldType.object "java/lang/String")), Jvm.Cond.code ({ cls := "java/lang/StringUTF16", name := "compress", desc := "([BII)[B" } : Jvm.MethodName) jdk_52_method_17_code (6 : Nat) (Option.some (Jvm.ClassFile.FieldType.array Jvm.ClassFile.FieldType.byte)), Jvm.Cond.code ({ cls := "java/lang/StringUTF16", name := "compress", desc := "([BI[BII)I" } : Jvm.MethodName) jdk_52_method_22_code (7 : Nat) (Option.some Jvm.ClassFile.FieldType.int), Jvm.Cond.code ({ cls := "java/lang/StringUTF16", name := "checkBoundsOffCount", desc := "(II[B)V" } : Jvm.MethodName) jdk_52_method_94_code (3 : Nat) (Option.none : Option Jvm.ClassFile.FieldType), Jvm.Cond.code ({ cls := "java/lang/String", name := "checkBoundsOffCount", desc := "(III)I" } : Jvm.MethodName) jdk_42_method_157_code (3 : Nat) (Option.some Jvm.ClassFile.FieldType.int), Jvm.Cond.code ({ cls := "jdk/internal/util/Preconditions", name := "checkFromIndexSize", desc := "(IIILjava/util/function/BiFunction;)I" } : Jvm.MethodName) jdk_41_method_13_code (4 : Nat) (Option.some Jvm.ClassFile.FieldType.int)]
set_option maxRecDepth 65536 in
theorem codes_eq : words1.filter isCode = codes1 := rfl
theorem w_codes : ∀ c ∈ words1.filter isCode, c.before args0 about1 = true := by
  rw [codes_eq]
  intro c hc
  simp only [codes1, List.mem_cons, List.not_mem_nil, or_false] at hc
  rcases hc with rfl | rfl | rfl | rfl | rfl | rfl | rfl | rfl | rfl | rfl | rfl | rfl | rfl | rfl | rfl | rfl | rfl | rfl | rfl | rfl | rfl | rfl | rfl | rfl | rfl | rfl | rfl | rfl | rfl | rfl | rfl | rfl | rfl | rfl | rfl | rfl | rfl | rfl | rfl | rfl | rfl | rfl | rfl | rfl
  · exact w_c0
  · exact w_c1
  · exact w_c2
  · exact w_c3
  · exact w_c4
  · exact w_c5
  · exact w_c6
  · exact w_c7
  · exact w_c8
  · exact w_c9
  · exact w_c10
  · exact w_c11
  · exact w_c12
  · exact w_c13
  · exact w_c14
  · exact w_c15
  · exact w_c16
  · exact w_c17
  · exact w_c18
  · exact w_c19
  · exact w_c20
  · exact w_c21
  · exact w_c22
  · exact w_c23
  · exact w_c24
  · exact w_c25
  · exact w_c26
  · exact w_c27
  · exact w_c28
  · exact w_c29
  · exact w_c30
  · exact w_c31
  · exact w_c32
  · exact w_c33
  · exact w_c34
  · exact w_c35
  · exact w_c36
  · exact w_c37
  · exact w_c38
  · exact w_c39
  · exact w_c40
  · exact w_c41
  · exact w_c42
  · exact w_c43
set_option maxRecDepth 65536 in
theorem w_t1 : (words1.take 24).all (fun c => isCode c || c.before args0 about1) = true := by decide +kernel
set_option maxRecDepth 65536 in
theorem w_t2 : ((words1.drop 24).take 24).all (fun c => isCode c || c.before args0 about1) = true := by decide +kernel
set_option maxRecDepth 65536 in
theorem w_t3 : (((words1.drop 24).drop 24).take 24).all (fun c => isCode c || c.before args0 about1) = true := by decide +kernel
set_option maxRecDepth 65536 in
theorem w_t4 : ((((words1.drop 24).drop 24).drop 24).take 24).all (fun c => isCode c || c.before args0 about1) = true := by decide +kernel
set_option maxRecDepth 65536 in
theorem w_t5 : (((((words1.drop 24).drop 24).drop 24).drop 24).take 24).all (fun c => isCode c || c.before args0 about1) = true := by decide +kernel
set_option maxRecDepth 65536 in
theorem w_t6 : ((((((words1.drop 24).drop 24).drop 24).drop 24).drop 24).take 24).all (fun c => isCode c || c.before args0 about1) = true := by decide +kernel
set_option maxRecDepth 65536 in
theorem w_t7 : (((((((words1.drop 24).drop 24).drop 24).drop 24).drop 24).drop 24).take 24).all (fun c => isCode c || c.before args0 about1) = true := by decide +kernel
set_option maxRecDepth 65536 in
theorem w_t8 : (((((((words1.drop 24).drop 24).drop 24).drop 24).drop 24).drop 24).drop 24).all (fun c => isCode c || c.before args0 about1) = true := by decide +kernel
theorem w_tables : (allAtoms (Jvm.Cond.code x code maxLocals ret :: tables_1)).before args0 about1 = true := by
  rw [allAtoms_all]
  show words1.all (fun c => c.before args0 about1) = true
  refine all_split ?_ w_codes
  rw [← List.take_append_drop 24 words1, List.all_append, w_t1, ← List.take_append_drop 24 (words1.drop 24), List.all_append, w_t2, ← List.take_append_drop 24 ((words1.drop 24).drop 24), List.all_append, w_t3, ← List.take_append_drop 24 (((words1.drop 24).drop 24).drop 24), List.all_append, w_t4, ← List.take_append_drop 24 ((((words1.drop 24).drop 24).drop 24).drop 24), List.all_append, w_t5, ← List.take_append_drop 24 (((((words1.drop 24).drop 24).drop 24).drop 24).drop 24), List.all_append, w_t6, ← List.take_append_drop 24 ((((((words1.drop 24).drop 24).drop 24).drop 24).drop 24).drop 24), List.all_append, w_t7, w_t8]
  rfl
set_option maxRecDepth 65536 in
theorem w_rest : rest_1_c.before args0 about1 = true := by decide +kernel
set_option maxRecDepth 65536 in
theorem w_case : (Jvm.Cond.and given_1 narrow_1).before args0 about1 = true := by decide +kernel
set_option maxRecDepth 65536 in
theorem w_consts : constsHeld consts_1 about1 := Jvm.Lit.constsHeldB_iff.mp (by decide +kernel)
theorem w_applies : (headSpec (Jvm.Cond.code x code maxLocals ret :: tables_1) room_1).applies x e0.platform about1 = true :=
  (Spec.applies_iff w_frames).mpr ⟨w_running, w_runnable, w_alone, w_named, w_hears, w_ripe, w_room, w_tables⟩
theorem atStart : AtStart classFile x code maxLocals ret World_1 tables_1 room_1 Calls_1 rest_1 Pre_1 launch0 p0 e0 about1 theMethod args0 below0 :=
  ⟨lists_1, trivial, launch0.admits_env _ _ _, launch0.least_env, fairChoices_fair.cas, fairChoices_fair.clock, w_frames, w_args, w_heap, w_applies, ⟨w_consts, trivial⟩, w_rest, w_case⟩
end start1
theorem witness_1 : WitnessClaimed_1 := ⟨start1.p0, start1.e0, start1.about1, start1.theMethod, start1.args0, start1.below0, start1.atStart⟩
end Jvm.Pilot.@@N@@
