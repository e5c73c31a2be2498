import JvmDerived
import JvmDerived.Pilot.@@N@@Statement
import JvmDerived.Pilot.@@N@@Code
set_option linter.unusedVariables false
set_option linter.unusedSimpArgs false
namespace Jvm.RoadKit
open Sem ClassFile Op Lib Jvm.Stand Jvm.Free Jvm.LawKit
section New
variable {p : Program} {l : Launch} {e : Env} {R : Room} {s : State} {m : MethodId} {args : Array Value} {below : List Frame} {meth : Method} {c : Code} {T : State} {locs : List Loc} {cells slots : Nat}
theorem retI (X : Stand p l e R s m args below meth c T locs cells slots) (hx : p.tables.exec = Jvm.exec) {pc : Nat} {Ls : Array Slot} {z : Int32} {rest : List Value} (hret : meth.sig.returnType = some .int) (hd : decode c.code pc = .ok (.ireturn, 1)) {fs : List Frame}
    (hl : ∀ (f : JFrame) (acts : List Action), f.method = m → f.locked = none → f.entered = [] → (doReturn e (T.setTop f) acts (some (.int z))).1 = T.setFrames fs) : Steps p.tables e below (T.setTop (mkF m pc Ls (.int z :: rest))) (T.setFrames fs) := by
  have hm' : T.vm.method? m = some meth := X.method'
  have hn : narrow .int (.int z) = .int z := rfl
  show Steps p.tables e below (T.setTop { method := m, pc := pc, locals := Ls, stack := _ :: rest, locked := none }) _
  jvm_step X.here [X.here.top, hx, hd, hm', hret, hn]
  first | (intro acts; rw [hl _ acts rfl rfl rfl]) | rw [hl _ _ rfl rfl rfl]
  exact Steps.refl _
end New
end Jvm.RoadKit
namespace Jvm.Pilot.@@N@@
open Jvm Jvm.ClassFile Sem Op Lib Jvm.Free Jvm.Stand Jvm.LawKit Jvm.RoadKit Bundle Jvm.Pilot.@@N@@.Jvm.D
/-- a body's contract, by a walk forwards: G U says that the run from U comes to an end that the contract allows -/
theorem own_body {l : Launch} {Z : State} {y : MethodName} {bytes : ByteArray} {maxL : Nat} {ret : Option FieldType} {ws : List Jvm.Cond} {rm : Room} {as' : Array Value} {h0 : Heap} {Q : Option Value → Heap → List Loc → Prop} (hpl : plainFor y = true)
    (body : ∀ (p : Program) (e : Env) (s : State) (m : MethodId) (below : List Frame) (meth : Method) (c : Code) (s₁ : State) (G : State → Prop),
      p.tables.exec = Jvm.exec → c.code = bytes → c.maxLocals = maxL → Z.Warmed39 s.vm → s.vm.findClass y.cls = some m.cls → meth.name = y.name → meth.sig.returnType = ret →
      Stand p l e rm s m as' below meth c s₁ [] 0 0 → s₁.heap = h0 →
      (∀ (U' : State) {U : State}, (∀ t, Steps p.tables e below U' t → Steps p.tables e below U t) → G U' → G U) →
      (∀ {U T : State} {locs : List Loc} {cells slots : Nat} {v : Option Value}, Stand p l e rm s m as' below meth c T locs cells slots → (ret = none → v = none) → Q v T.heap locs → cells ≤ rm.cells → slots ≤ rm.slots →
        (∀ fs, (∀ (f : JFrame) (acts : List Action), f.method = m → f.locked = none → f.entered = [] → (doReturn e (T.setTop f) acts v).1 = T.setFrames fs) → Steps p.tables e below U (T.setFrames fs)) → G U) →
      G (s₁.setTop (entryFrame m as' maxL))) :
    MetFree l y (head1 (Jvm.Cond.code y bytes maxL ret :: ws) rm) (fun a U => a = as' ∧ Z.Warmed39 U.vm ∧ U.heap = h0) (fun _ _ _ _ _ => True) (fun _ U o U' => ∃ v L, o = .returned v ∧ Q v U'.heap L ∧ FrameEnd U o U' L rm.cells rm.slots) := by
  refine MetFree.of_bodySF hpl hisR ?_
  intro p e s m args below meth c s₁ Bd hml0 hP hK
  obtain ⟨rfl, hZ, hh⟩ := hP
  have hnm := (name_of_methodNamed Bd.named Bd.method).1
  exact body p e s m below meth c s₁ (fun U => ∃ s₂ o, Steps p.tables e below U s₂ ∧ s₂.status = .running ∧ Ended s₂ below o ∧ ∃ v L, o = .returned v ∧ Q v s₂.heap L ∧ FrameEnd s o s₂ L rm.cells rm.slots)
    Bd.exec Bd.bytes hml0 hZ (findClass_of_methodNamed Bd.named) hnm Bd.returns (Stand.of_body Bd) (by rw [← hh, Bd.state]; rfl)
    (fun U' U h k => by obtain ⟨s₂, o, h1, h2⟩ := k; exact ⟨s₂, o, h _ h1, h2⟩)
    (fun {U T locs cells slots v} X hv hQ hc hs hst => by
      obtain ⟨fs, hr, hrun, hended, hW, hsame⟩ := X.leave (v := v) (fun h => hv (by rw [← Bd.returns]; exact h))
      exact ⟨_, _, hst fs hr, hrun, hended, v, locs, rfl, hQ, ⟨_, rfl⟩, hW, hsame.mono hc hs⟩)
/-- the same, of a body that may intern String constants on its way -/
theorem own_bodyW {l : Launch} {Z : State} {y : MethodName} {bytes : ByteArray} {maxL : Nat} {ret : Option FieldType} {ws : List Jvm.Cond} {rm : Room} {as' : Array Value} {h0 : Heap} {Q : Option Value → Heap → List Loc → Prop} (hpl : plainFor y = true)
    (body : ∀ (p : Program) (e : Env) (s : State) (m : MethodId) (below : List Frame) (meth : Method) (c : Code) (s₁ : State) (G : State → Prop) (vm0 : Vm) (k0 : Nat),
      p.tables.exec = Jvm.exec → c.code = bytes → c.maxLocals = maxL → Z.Warmed39 vm0 → vm0.findClass y.cls = some m.cls → meth.name = y.name → meth.sig.returnType = ret → s.Since vm0 k0 → k0 ≤ h0.size →
      Stand p l e rm (s.setVm vm0) m as' below meth c s₁ [] 0 0 → s₁.heap = h0 →
      (∀ (U' : State) {U : State}, (∀ t, Steps p.tables e below U' t → Steps p.tables e below U t) → G U' → G U) →
      (∀ {U T : State} {locs : List Loc} {cells slots : Nat} {v : Option Value} {vm1 : Vm} {k1 : Nat}, Stand p l e rm (s.setVm vm1) m as' below meth c T locs cells slots → s.Since vm1 k1 → k1 ≤ T.heap.size → (ret = none → v = none) → Q v T.heap locs → cells ≤ rm.cells → slots ≤ rm.slots →
        (∀ fs, (∀ (f : JFrame) (acts : List Action), f.method = m → f.locked = none → f.entered = [] → (doReturn e (T.setTop f) acts v).1 = T.setFrames fs) → Steps p.tables e below U (T.setFrames fs)) → G U) →
      G (s₁.setTop (entryFrame m as' maxL))) :
    MetFree l y (head1 (Jvm.Cond.code y bytes maxL ret :: ws) rm) (fun a U => a = as' ∧ Z.Warmed39 U.vm ∧ U.heap = h0) (fun _ _ _ _ _ => True) (fun _ U o U' => ∃ v L, o = .returned v ∧ Q v U'.heap L ∧ ReturnedEndW U o U' L rm.cells rm.slots) := by
  refine MetFree.of_bodySF hpl hisR ?_
  intro p e s m args below meth c s₁ Bd hml0 hP hK
  obtain ⟨rfl, hZ, hh⟩ := hP
  have hnm := (name_of_methodNamed Bd.named Bd.method).1
  have X0 := Stand.of_body Bd
  exact body p e s m below meth c s₁ (fun U => ∃ s₂ o, Steps p.tables e below U s₂ ∧ s₂.status = .running ∧ Ended s₂ below o ∧ ∃ v L, o = .returned v ∧ Q v s₂.heap L ∧ ReturnedEndW s o s₂ L rm.cells rm.slots)
    s.vm h0.size Bd.exec Bd.bytes hml0 hZ (findClass_of_methodNamed Bd.named) hnm Bd.returns ((State.WarmedH.refl s).since _) (Nat.le_refl _) X0 (by rw [← hh, Bd.state]; rfl)
    (fun U' U h k => by obtain ⟨s₂, o, h1, h2⟩ := k; exact ⟨s₂, o, h _ h1, h2⟩)
    (fun {U T locs cells slots v vm1 k1} X hS hk hv hQ hc hs hst => by
      obtain ⟨fs, hr, hrun, hended, hE⟩ := X.leaveW hS hk (v := v) (fun h => hv (by rw [← Bd.returns]; exact h))
      exact ⟨_, _, hst fs hr, hrun, hended, v, locs, rfl, hQ, hE.1, hE.2.1, hE.2.2.1, hE.2.2.2.mono hc hs⟩)
abbrev nM0 : MethodName := (⟨"com/example/dibs/dibs/core/KeyspaceWithPrefixPinLaw", "safe", "(I)C"⟩ : MethodName)
abbrev nM1 : MethodName := (⟨"java/lang/StringUTF16", "compress", "([CI[BII)I"⟩ : MethodName)
abbrev nM2 : MethodName := (⟨"java/lang/StringUTF16", "compress", "([CII)[B"⟩ : MethodName)
abbrev nM3 : MethodName := (⟨"java/lang/StringUTF16", "coderFromArrayLen", "([BI)B"⟩ : MethodName)
abbrev nM4 : MethodName := (⟨"java/lang/String", "<init>", "([CIILjava/lang/Void;)V"⟩ : MethodName)
abbrev nM5 : MethodName := (⟨"java/lang/String", "<init>", "([C)V"⟩ : MethodName)
abbrev nM6 : MethodName := (⟨"java/lang/StringLatin1", "canEncode", "(C)Z"⟩ : MethodName)
abbrev nM7 : MethodName := (⟨"java/lang/StringLatin1", "toBytes", "(C)[B"⟩ : MethodName)
abbrev nM8 : MethodName := (⟨"java/lang/String", "<init>", "([BB)V"⟩ : MethodName)
abbrev nM9 : MethodName := (⟨"java/lang/String", "valueOf", "(C)Ljava/lang/String;"⟩ : MethodName)
abbrev nM10 : MethodName := (⟨"java/lang/String", "isEmpty", "()Z"⟩ : MethodName)
abbrev nM11 : MethodName := (⟨"java/lang/String", "isLatin1", "()Z"⟩ : MethodName)
abbrev nM12 : MethodName := (⟨"java/lang/String", "coder", "()B"⟩ : MethodName)
abbrev nM13 : MethodName := (⟨"java/lang/String", "length", "()I"⟩ : MethodName)
abbrev nM14 : MethodName := (⟨"java/lang/StringLatin1", "canEncode", "(I)Z"⟩ : MethodName)
abbrev nM15 : MethodName := (⟨"java/lang/Math", "max", "(II)I"⟩ : MethodName)
abbrev nM16 : MethodName := (⟨"java/lang/Math", "min", "(II)I"⟩ : MethodName)
abbrev nM17 : MethodName := (⟨"java/lang/StringLatin1", "indexOfChar", "([BIII)I"⟩ : MethodName)
abbrev nM18 : MethodName := (⟨"java/lang/StringLatin1", "indexOf", "([BIII)I"⟩ : MethodName)
abbrev nM19 : MethodName := (⟨"java/lang/String", "indexOf", "(II)I"⟩ : MethodName)
abbrev nM20 : MethodName := (⟨"java/lang/String", "indexOf", "(I)I"⟩ : MethodName)
abbrev nM21 : MethodName := (⟨"com/example/dibs/dibs/core/Keyspace", "requireBraceFree", "(Ljava/lang/String;Ljava/lang/String;)Ljava/lang/String;"⟩ : MethodName)
abbrev nM22 : MethodName := (⟨"com/example/dibs/dibs/core/Keyspace", "<init>", "(Ljava/lang/String;)V"⟩ : MethodName)
abbrev nM23 : MethodName := (⟨"com/example/dibs/dibs/core/Keyspace", "withPrefix", "(Ljava/lang/String;)Lcom/example/dibs/dibs/core/Keyspace;"⟩ : MethodName)
abbrev nM24 : MethodName := (⟨"com/example/dibs/dibs/core/Keyspace", "requireName", "(Ljava/lang/String;)Ljava/lang/String;"⟩ : MethodName)
abbrev nM25 : MethodName := (⟨"java/lang/AbstractStringBuilder", "<init>", "(I)V"⟩ : MethodName)
abbrev nM26 : MethodName := (⟨"java/lang/StringBuilder", "<init>", "()V"⟩ : MethodName)
abbrev nM27 : MethodName := (⟨"java/lang/AbstractStringBuilder", "ensureCapacityInternal", "(I)V"⟩ : MethodName)
abbrev nM28 : MethodName := (⟨"java/lang/AbstractStringBuilder", "inflateIfNeededFor", "(Ljava/lang/String;)V"⟩ : MethodName)
abbrev nM29 : MethodName := (⟨"java/lang/String", "getBytes", "([BIB)V"⟩ : MethodName)
abbrev nM30 : MethodName := (⟨"java/lang/AbstractStringBuilder", "putStringAt", "(ILjava/lang/String;)V"⟩ : MethodName)
abbrev nM31 : MethodName := (⟨"java/lang/AbstractStringBuilder", "append", "(Ljava/lang/String;)Ljava/lang/AbstractStringBuilder;"⟩ : MethodName)
abbrev nM32 : MethodName := (⟨"java/lang/StringBuilder", "append", "(Ljava/lang/String;)Ljava/lang/StringBuilder;"⟩ : MethodName)
abbrev nM33 : MethodName := (⟨"java/lang/AbstractStringBuilder", "getValue", "()[B"⟩ : MethodName)
abbrev nM34 : MethodName := (⟨"java/lang/AbstractStringBuilder", "length", "()I"⟩ : MethodName)
abbrev nM35 : MethodName := (⟨"java/lang/StringBuilder", "length", "()I"⟩ : MethodName)
abbrev nM36 : MethodName := (⟨"java/lang/AbstractStringBuilder", "isLatin1", "()Z"⟩ : MethodName)
abbrev nM37 : MethodName := (⟨"java/util/Arrays", "checkLength", "(II)V"⟩ : MethodName)
abbrev nM38 : MethodName := (⟨"java/util/Arrays", "copyOfRangeByte", "([BII)[B"⟩ : MethodName)
abbrev nM39 : MethodName := (⟨"java/util/Arrays", "copyOfRange", "([BII)[B"⟩ : MethodName)
abbrev nM40 : MethodName := (⟨"java/lang/String", "<init>", "(Ljava/lang/AbstractStringBuilder;Ljava/lang/Void;)V"⟩ : MethodName)
abbrev nM41 : MethodName := (⟨"java/lang/String", "<init>", "(Ljava/lang/StringBuilder;)V"⟩ : MethodName)
abbrev nM42 : MethodName := (⟨"java/lang/StringBuilder", "toString", "()Ljava/lang/String;"⟩ : MethodName)
abbrev nM43 : MethodName := (⟨"com/example/dibs/dibs/core/Keyspace", "key", "(Ljava/lang/String;Ljava/lang/String;)Ljava/lang/String;"⟩ : MethodName)
abbrev nM44 : MethodName := (⟨"java/lang/StringLatin1", "equals", "([B[B)Z"⟩ : MethodName)
abbrev nM45 : MethodName := (⟨"java/lang/String", "equals", "(Ljava/lang/Object;)Z"⟩ : MethodName)
theorem own_fin {z : Int32} (h : z = 1) : some (Value.int (nar .boolean z)) = some (.int 1) := by subst h; rfl
theorem own_and3 (p : Int32) : p &&& 3 = 0 ∨ p &&& 3 = 1 ∨ p &&& 3 = 2 ∨ p &&& 3 = 3 := by
  have h := c_mask p 3 2 (by decide) (by decide)
  have h4 : (p &&& 3).toInt = 0 ∨ (p &&& 3).toInt = 1 ∨ (p &&& 3).toInt = 2 ∨ (p &&& 3).toInt = 3 := by omega
  rcases h4 with h | h | h | h
  · exact Or.inl (Int32.toInt_inj.mp h)
  · exact Or.inr (Or.inl (Int32.toInt_inj.mp h))
  · exact Or.inr (Or.inr (Or.inl (Int32.toInt_inj.mp h)))
  · exact Or.inr (Or.inr (Or.inr (Int32.toInt_inj.mp h)))
theorem own_eqi {args : Array Value} {s : State} {t : Term} {n : Int32} (h : (Jvm.Cond.eq t (.int n)).value args s none s [] = some true) : t.eval args s none [] s = some (.int n) := by
  simp only [Cond.value, Term.eval] at h
  cases ht : t.eval args s none [] s with
  | none => simp [ht] at h
  | some x => cases x <;> simp [ht] at h ⊢; exact h
theorem own_irr {x : Int32} : ¬ (x < x) := by rw [Int32.lt_iff_toInt_lt]; omega
theorem own_selP {args : Array Value} {s : State} {y : MethodName} {k : Nat} (hinst : (Jvm.Cond.instanceMethod y).before args s = true) (hi : (Jvm.Cond.instantiable y.cls k).before args s = true) (hp : s.PrivateAt y) (hy : y.cls ≠ "java/lang/invoke/MethodHandle" ∧ y.cls ≠ "java/lang/invoke/VarHandle") : (Jvm.Cond.selects y.cls y y).before args s = true := by
  obtain ⟨m, meth, hn, hm, -, -⟩ := Cond.instanceMethod_spec hinst
  obtain ⟨c, kk, h1, h2, -, h4, -⟩ := Cond.instantiable_spec hi
  have hf := State.methodFound?_of_named hn hy
  have hc := findClass_of_methodNamed hn
  cases h1.symm.trans hc
  have hs := selectMethod_private (p := {}) (c := m.cls) hm (hp m meth hn hm)
  have h5 : kk.isInterface = false := by simp only [Bool.or_eq_false_iff] at h4; exact h4.1
  simp [Cond.before, Cond.holds, Cond.value, hc, hf, hn, hs, h2, h5]
theorem own_add0 (x : Int32) : x = (x + (0 : Int32)) := (Int32.add_zero x).symm
theorem own_nn (x y : Int32) (h : (x &&& (2147483647 : Int32)) = y) : ¬ (y < (0 : Int32)) := by
  subst h
  have h := c_mask x 2147483647 31 (by decide) (by decide)
  rw [Int32.lt_iff_toInt_lt]
  have e : (0 : Int32).toInt = 0 := by decide
  omega
theorem own_255 (x y : Int32) (h : ((x &&& (255 : Int32)).toUInt32.toUInt16.toUInt32.toInt32) = y) : ¬ ((255 : Int32) < y) := by
  subst h
  have h := c_mask x 255 8 (by decide) (by decide)
  have h2 := c_i2c (x &&& 255)
  rw [Int32.lt_iff_toInt_lt]
  have e : (255 : Int32).toInt = 255 := by decide
  omega
theorem own_exaP {Z : State} {h : Heap} {a : Addr} {C : String} (F : Exa Z h a C) : ∀ cell : Cell, h[a]? = some cell → cell.vm.isStatics = false := fun cell q => by
  obtain ⟨c', _, h1, -, -, h4, -⟩ := F
  cases h1.symm.trans q
  exact h4
theorem own_arvP {Z : State} {h : Heap} {a : Addr} {k : ClassId} {ty : FieldType} {z : Int32} {vs : List Value} {dv : Value} (F : Arv Z h a k ty z vs dv) : ∀ cell : Cell, h[a]? = some cell → cell.vm.isStatics = false := fun cell q => by
  obtain ⟨c', A, -⟩ := F
  cases A.1.symm.trans q
  exact A.plain
theorem own_staK {Z : State} {h h' : Heap} {ws : List Addr} {C n d : String} {v : Value} (F : Sta Z h C n d v) (K : Keep h h' ws) (q : ∀ x ∈ ws, ∀ cell : Cell, h[x]? = some cell → cell.vm.isStatics = false) : Sta Z h' C n d v := by
  obtain ⟨cf, i, k, f, st, cell, h1, h2, h3, h4, h5, h6, h7⟩ := F
  exact ⟨cf, i, k, f, st, cell, h1, h2, h3, h4, K.2.1 st cell h5 (fun hm => by rw [q st hm cell h5] at h6; cases h6), h6, h7⟩
theorem own_arr0 {args : Array Value} {s : State} {t : Term} {a : Addr} {ty : FieldType} {dv : Value} (hf : Fit s) (ev : t.eval args s none [] s = some (.ref a)) (hA : (Jvm.Cond.arrayOf t ty).value args s none s [] = some true) (hl : (Jvm.Cond.eq (.length t) (.int 0)).value args s none s [] = some true) : ∃ k, Arv s s.heap a k ty 0 [] dv := by
  obtain ⟨c, A⟩ := Arr.start ev hA
  have h0 := own_eqi hl
  obtain ⟨a', cell, e1, e2, e3⟩ := Term.length_spec h0
  cases ev.symm.trans e1
  have e4 : s.arrayAt? a = some c := Arr.fin (U := s) (Vm.Alike.refl _) A
  cases e4.symm.trans e2
  have hq : c.slots.size < 2 ^ 31 := by
    by_cases q : c.slots.size < 2 ^ 31
    · exact q
    · simp [Term.eval, ev, e4, q] at h0
  have e5 : c.slots.size.toInt32 = 0 := by injection e3 with e; exact e.symm
  exact ⟨_, Arv.start hf A hq e5 (by decide) rfl trivial⟩
theorem own_255n (x y : Int32) (h : ((x &&& (255 : Int32)).toUInt32.toUInt16.toUInt32.toInt32) = y) : ¬ ((255 : Int32) < (nar .char y)) := by
  have h1 := own_255 x y h
  have h0 := (c_i2c (x &&& 255)).2.1
  rw [h] at h0
  have h2 : (nar .char y).toInt = (y.toUInt32.toUInt16.toUInt32.toInt32).toInt := rfl
  have h3 := c_i2c y
  rw [Int32.lt_iff_toInt_lt] at *
  have e : (255 : Int32).toInt = 255 := by decide
  omega
theorem own_tri (a b : Int64) : (a < b ∧ ¬ a = b ∧ ¬ b = a ∧ ¬ b < a) ∨ (¬ a < b ∧ a = b ∧ b = a ∧ ¬ b < a) ∨ (¬ a < b ∧ ¬ a = b ∧ ¬ b = a ∧ b < a) := by
  simp only [Int64.lt_iff_toInt_lt, ← Int64.toInt_inj]
  omega
def own_ap {α β : Type} (e : α) (F : α → β) : β := F e
theorem own_let {α β : Type} {z e : α} {F : α → β} {g : β} (h : z = e) (k : g = F z) : g = own_ap e F := by subst h; exact k
theorem own_notFace {args : Array Value} {s : State} {y z : MethodName} {K : String} (hsel : (Jvm.Cond.selects K z z).before args s = true) (hz : z.cls = y.cls) : NotFace s y := fun r0 h0 => by
  obtain ⟨c2, r2, m2, q1, q2, q3, q4, kP, hkP, hkPi⟩ := Cond.selects_spec hsel
  have hc := findClass_of_methodNamed h0
  have hc2 := findClass_of_methodNamed q3
  rw [hz] at hc2
  have e := Option.some.inj (hc.symm.trans hc2)
  exact ⟨kP, by rw [e]; exact hkP, hkPi⟩
theorem own_selP2 {args : Array Value} {s : State} {y : MethodName} {K : String} (hsel : (Jvm.Cond.selects K y y).before args s = true) (hinst : (Jvm.Cond.instanceMethod y).before args s = true) (hp : s.PrivateAt y) (hy : y.cls ≠ "java/lang/invoke/MethodHandle" ∧ y.cls ≠ "java/lang/invoke/VarHandle") : (Jvm.Cond.selects y.cls y y).before args s = true := by
  obtain ⟨m, meth, hn, hm, -, -⟩ := Cond.instanceMethod_spec hinst
  obtain ⟨c2, r2, m2, q1, q2, q3, q4, kP, hkP, hkPi⟩ := Cond.selects_spec hsel
  cases hn.symm.trans q3
  have hf := State.methodFound?_of_named hn hy
  have hc := findClass_of_methodNamed hn
  have hs := selectMethod_private (p := {}) (c := m.cls) hm (hp m meth hn hm)
  simp [Cond.before, Cond.holds, Cond.value, hc, hf, hn, hs, hkP, hkPi]
theorem own_same {args : Array Value} {s : State} {y z : MethodName} {K : String} (hd : (Jvm.Cond.declares y).before args s = true) (hsel : (Jvm.Cond.selects K z z).before args s = true) (hz : z.cls = y.cls) (hy : y.cls ≠ "java/lang/invoke/MethodHandle" ∧ y.cls ≠ "java/lang/invoke/VarHandle") : (Jvm.Cond.sameMethod y.cls y.cls y.name y.desc).before args s = true := by
  obtain ⟨m, meth, hn, hm, -, -⟩ := Cond.declares_spec hd
  obtain ⟨c2, r2, m2, q1, q2, q3, q4, kP, hkP, hkPi⟩ := Cond.selects_spec hsel
  have hf := State.methodFound?_of_named hn hy
  have hc := findClass_of_methodNamed hn
  have hc2 := findClass_of_methodNamed q3
  rw [hz] at hc2
  have e := Option.some.inj (hc.symm.trans hc2)
  rw [← e] at hkP
  have hn' : s.methodNamed? ⟨y.cls, y.name, y.desc⟩ = some m := hn
  simp [Cond.before, Cond.holds, Cond.value, hc, hf, hn', hkP, hkPi]
/-- a body that interns and READS String constants of EL on its way -/
theorem own_bodyH {l : Launch} {Z : State} {a0 : Array Value} {EL : List (String × Nat)} {y : MethodName} {bytes : ByteArray} {maxL : Nat} {ret : Option FieldType} {ws : List Jvm.Cond} {rm : Room} {as' : Array Value} {h0 : Heap} {Q : Option Value → Heap → List Loc → Prop} (hEL : EW Z a0 EL) (hpl : plainFor y = true)
    (body : ∀ (p : Program) (e : Env) (s : State) (m : MethodId) (below : List Frame) (meth : Method) (c : Code) (s₁ : State) (G : State → Prop) (vm0 : Vm) (k0 : Nat),
      p.tables.exec = Jvm.exec → c.code = bytes → c.maxLocals = maxL → Z.Warmed39 vm0 → vm0.findClass y.cls = some m.cls → meth.name = y.name → meth.sig.returnType = ret → s.Since vm0 k0 → k0 ≤ h0.size → CHv Z EL vm0 h0 →
      Stand p l e rm (s.setVm vm0) m as' below meth c s₁ [] 0 0 → s₁.heap = h0 →
      (∀ (U' : State) {U : State}, (∀ t, Steps p.tables e below U' t → Steps p.tables e below U t) → G U' → G U) →
      (∀ {U T : State} {locs : List Loc} {cells slots : Nat} {v : Option Value} {vm1 : Vm} {k1 : Nat}, Stand p l e rm (s.setVm vm1) m as' below meth c T locs cells slots → s.Since vm1 k1 → k1 ≤ T.heap.size → Z.Warmed39 vm1 → CHr Z EL vm0 h0 vm1 T.heap → (ret = none → v = none) → Q v T.heap locs → cells ≤ rm.cells → slots ≤ rm.slots →
        (∀ fs, (∀ (f : JFrame) (acts : List Action), f.method = m → f.locked = none → f.entered = [] → (doReturn e (T.setTop f) acts v).1 = T.setFrames fs) → Steps p.tables e below U (T.setFrames fs)) → G U) →
      G (s₁.setTop (entryFrame m as' maxL))) :
    MetFree l y (head1 (Jvm.Cond.code y bytes maxL ret :: ws) rm) (fun a U => a = as' ∧ Z.Warmed39 U.vm ∧ U.heap = h0 ∧ CHv Z EL U.vm h0) (fun _ _ _ _ _ => True) (fun _ U o U' => ∃ v L, o = .returned v ∧ Q v U'.heap L ∧ CHr Z EL U.vm U.heap U'.vm U'.heap ∧ ReturnedEndW U o U' L rm.cells rm.slots) := by
  refine MetFree.of_bodySF hpl hisR ?_
  intro p e s m args below meth c s₁ Bd hml0 hP hK
  obtain ⟨rfl, hZ, hh, hCH⟩ := hP
  have hnm := (name_of_methodNamed Bd.named Bd.method).1
  have X0 := Stand.of_body Bd
  exact body p e s m below meth c s₁ (fun U => ∃ s₂ o, Steps p.tables e below U s₂ ∧ s₂.status = .running ∧ Ended s₂ below o ∧ ∃ v L, o = .returned v ∧ Q v s₂.heap L ∧ CHr Z EL s.vm s.heap s₂.vm s₂.heap ∧ ReturnedEndW s o s₂ L rm.cells rm.slots)
    s.vm h0.size Bd.exec Bd.bytes hml0 hZ (findClass_of_methodNamed Bd.named) hnm Bd.returns ((State.WarmedH.refl s).since _) (Nat.le_refl _) hCH X0 (by rw [← hh, Bd.state]; rfl)
    (fun U' U h k => by obtain ⟨s₂, o, h1, h2⟩ := k; exact ⟨s₂, o, h _ h1, h2⟩)
    (fun {U T locs cells slots v vm1 k1} X hS hk hZ1 hC hv hQ hc hs hst => by
      obtain ⟨fs, hr, hrun, hended, hE⟩ := X.leaveW hS hk (v := v) (fun h => hv (by rw [← Bd.returns]; exact h))
      refine ⟨_, _, hst fs hr, hrun, hended, v, locs, rfl, hQ, ?_, hE.1, hE.2.1, hE.2.2.1, hE.2.2.2.mono hc hs⟩
      have q := hC.trans (CHv.at X hZ1 hEL hC.1)
      rw [hh]
      exact q)
abbrev OwnM (l : Launch) (Z : State) (y : MethodName) (bytes : ByteArray) (maxL : Nat) (ret : Option FieldType) (ws : List Jvm.Cond) (rm : Room) (as' : Array Value) (h0 : Heap) (Q : Option Value → Heap → List Loc → Prop) : Prop :=
  MetFree l y (head1 (Jvm.Cond.code y bytes maxL ret :: ws) rm) (fun a U => a = as' ∧ Z.Warmed39 U.vm ∧ U.heap = h0) (fun _ _ _ _ _ => True) (fun _ U o U' => ∃ v L, o = .returned v ∧ Q v U'.heap L ∧ FrameEnd U o U' L rm.cells rm.slots)
abbrev OwnMS (l : Launch) (Z : State) (y : MethodName) (bytes : ByteArray) (maxL : Nat) (ret : Option FieldType) (ws : List Jvm.Cond) (rm : Room) (as' : Array Value) (h0 : Heap) (Q : Option Value → Heap → List Loc → Prop) : Prop :=
  MetFree l y (head1 (Jvm.Cond.code y bytes maxL ret :: ws) rm) (fun a U => a = as' ∧ Z.Warmed39 U.vm ∧ U.heap = h0) (fun _ _ _ _ _ => True) (fun _ U o U' => ∃ v L, o = .returned v ∧ Q v U'.heap L ∧ ReturnedEndW U o U' L rm.cells rm.slots)
abbrev OwnMH (l : Launch) (Z : State) (y : MethodName) (bytes : ByteArray) (maxL : Nat) (ret : Option FieldType) (ws : List Jvm.Cond) (rm : Room) (as' : Array Value) (h0 : Heap) (EL : List (String × Nat)) (Q : Option Value → Heap → List Loc → Prop) : Prop :=
  MetFree l y (head1 (Jvm.Cond.code y bytes maxL ret :: ws) rm) (fun a U => a = as' ∧ Z.Warmed39 U.vm ∧ U.heap = h0 ∧ CHv Z EL U.vm h0) (fun _ _ _ _ _ => True) (fun _ U o U' => ∃ v L, o = .returned v ∧ Q v U'.heap L ∧ CHr Z EL U.vm U.heap U'.vm U'.heap ∧ ReturnedEndW U o U' L rm.cells rm.slots)
theorem ow {Z : State} {a0 : Array Value} (hw : ∀ d ∈ tables_1, d.before a0 Z = true) (i : Nat) {d : Jvm.Cond} (h : tables_1[i]? = some d) : d.before a0 Z = true := hw d (List.mem_of_getElem? h)
theorem omw {a b W : Nat} (h : a = 0) (k : b = W) : 2 * a + b ≤ W := by subst h; omega
abbrev vr (a : Addr) : Slot := .val (.ref a)
abbrev vi (a : Int32) : Slot := .val (.int a)
/-- what every step of a walk asks -/
def OwnK (p : Program) (e : Env) (below : List Frame) (c : Code) (bytes : ByteArray) (G : State → Prop) : Prop :=
  (∀ (U' : State) {U : State}, (∀ t, Steps p.tables e below U' t → Steps p.tables e below U t) → G U' → G U) ∧ p.tables.exec = Jvm.exec ∧ c.code = bytes
section Short
variable {p : Program} {l : Launch} {e : Env} {R : Room} {s : State} {m : MethodId} {args : Array Value} {below : List Frame} {meth : Method} {c : Code} {T : State} {locs : List Loc} {cells slots : Nat} {bytes : ByteArray} {G : State → Prop} {pc : Nat} {Ls : Array Slot} {st rest : List Value}
theorem oal (K : OwnK p e below c bytes G) (X : Stand p l e R s m args below meth c T locs cells slots) {i : Fin 4} (hd : decode bytes pc = .ok (.aload_n i, 1)) (v : Value) (pc' : Nat) (hp : pc' = pc + 1) (hv : Ls[i.1]? = some (.val v)) (hr : v.isRef = true) (k : G (T.setTop (mkF m pc' Ls (v :: st)))) : G (T.setTop (mkF m pc Ls st)) := by
  subst hp; exact K.1 _ (fun t k => XS.aloadN X.here K.2.1 rfl (hb K.2.2 hd) hv hr k) k
theorem oaL (K : OwnK p e below c bytes G) (X : Stand p l e R s m args below meth c T locs cells slots) {i : Nat} (hd : decode bytes pc = .ok (.aload i, 2)) (v : Value) (pc' : Nat) (hp : pc' = pc + 2) (hv : Ls[i]? = some (.val v)) (hr : v.isRef = true) (k : G (T.setTop (mkF m pc' Ls (v :: st)))) : G (T.setTop (mkF m pc Ls st)) := by
  subst hp; exact K.1 _ (fun t k => XS.aload X.here K.2.1 rfl (hb K.2.2 hd) hv hr k) k
theorem oil (K : OwnK p e below c bytes G) (X : Stand p l e R s m args below meth c T locs cells slots) {i : Fin 4} (hd : decode bytes pc = .ok (.iload_n i, 1)) (v : Int32) (pc' : Nat) (hp : pc' = pc + 1) (hv : Ls[i.1]? = some (vi v)) (k : G (T.setTop (mkF m pc' Ls (.int v :: st)))) : G (T.setTop (mkF m pc Ls st)) := by
  subst hp; exact K.1 _ (fun t k => XS.iloadN X.here K.2.1 rfl (hb K.2.2 hd) hv k) k
theorem oiL (K : OwnK p e below c bytes G) (X : Stand p l e R s m args below meth c T locs cells slots) {i : Nat} (hd : decode bytes pc = .ok (.iload i, 2)) (v : Int32) (pc' : Nat) (hp : pc' = pc + 2) (hv : Ls[i]? = some (vi v)) (k : G (T.setTop (mkF m pc' Ls (.int v :: st)))) : G (T.setTop (mkF m pc Ls st)) := by
  subst hp; exact K.1 _ (fun t k => XS.iload X.here K.2.1 rfl (hb K.2.2 hd) hv k) k
theorem oic (K : OwnK p e below c bytes G) (X : Stand p l e R s m args below meth c T locs cells slots) {i : Int} (hd : decode bytes pc = .ok (.iconst i, 1)) (v : Int32) (pc' : Nat) (hp : pc' = pc + 1) (hv : Int32.ofInt i = v) (k : G (T.setTop (mkF m pc' Ls (.int v :: st)))) : G (T.setTop (mkF m pc Ls st)) := by
  subst hp hv; exact K.1 _ (fun t k => XS.iconst X.here K.2.1 rfl (hb K.2.2 hd) k) k
theorem obi (K : OwnK p e below c bytes G) (X : Stand p l e R s m args below meth c T locs cells slots) {i : Int} (hd : decode bytes pc = .ok (.bipush i, 2)) (v : Int32) (pc' : Nat) (hp : pc' = pc + 2) (hv : (Int8.ofInt i).toInt32 = v) (k : G (T.setTop (mkF m pc' Ls (.int v :: st)))) : G (T.setTop (mkF m pc Ls st)) := by
  subst hp hv; exact K.1 _ (fun t k => XS.bipush X.here K.2.1 rfl (hb K.2.2 hd) k) k
theorem osi (K : OwnK p e below c bytes G) (X : Stand p l e R s m args below meth c T locs cells slots) {i : Int} (hd : decode bytes pc = .ok (.sipush i, 3)) (v : Int32) (pc' : Nat) (hp : pc' = pc + 3) (hv : (Int16.ofInt i).toInt32 = v) (k : G (T.setTop (mkF m pc' Ls (.int v :: st)))) : G (T.setTop (mkF m pc Ls st)) := by
  subst hp hv; exact K.1 _ (fun t k => XS.sipush X.here K.2.1 rfl (hb K.2.2 hd) k) k
theorem odu (K : OwnK p e below c bytes G) (X : Stand p l e R s m args below meth c T locs cells slots) (hd : decode bytes pc = .ok (.dup, 1)) {v : Value} (pc' : Nat) (hp : pc' = pc + 1) (hv : v.category = 1) (k : G (T.setTop (mkF m pc' Ls (v :: v :: st)))) : G (T.setTop (mkF m pc Ls (v :: st))) := by
  subst hp; exact K.1 _ (fun t k => XS.dup X.here K.2.1 rfl (hb K.2.2 hd) rfl hv k) k
theorem ogo (K : OwnK p e below c bytes G) (X : Stand p l e R s m args below meth c T locs cells slots) {o : Int} (hd : decode bytes pc = .ok (.goto o, 3)) (pc' : Nat) (h0 : 0 ≤ (pc : Int) + o) (hp : ((pc : Int) + o).toNat = pc') (k : G (T.setTop (mkF m pc' Ls st))) : G (T.setTop (mkF m pc Ls st)) :=
  K.1 _ (fun t k => XS.goto X.here K.2.1 rfl (pc0 := pc) rfl (hb K.2.2 hd) h0 hp k) k
theorem oii (K : OwnK p e below c bytes G) (X : Stand p l e R s m args below meth c T locs cells slots) {i : Nat} {cst : Int} {x : Int32} (hd : decode bytes pc = .ok (.iinc i cst, 3)) (L' : Array Slot) (pc' : Nat) (hp : pc' = pc + 3) (hv : Ls[i]? = some (vi x)) (hl : storeLocals Ls i (.int (x + Int32.ofInt cst)) = some L') (k : G (T.setTop (mkF m pc' L' st))) : G (T.setTop (mkF m pc Ls st)) := by
  subst hp; exact K.1 _ (fun t k => XS.iinc X.here K.2.1 rfl (hb K.2.2 hd) hv hl k) k
theorem ois (K : OwnK p e below c bytes G) (X : Stand p l e R s m args below meth c T locs cells slots) {i : Fin 4} {x : Int32} (hd : decode bytes pc = .ok (.istore_n i, 1)) (L' : Array Slot) (pc' : Nat) (hp : pc' = pc + 1) (hl : storeLocals Ls i.1 (.int x) = some L') (k : G (T.setTop (mkF m pc' L' st))) : G (T.setTop (mkF m pc Ls (.int x :: st))) := by
  subst hp; exact K.1 _ (fun t k => XS.istoreN X.here K.2.1 rfl (hb K.2.2 hd) rfl hl k) k
theorem oiS (K : OwnK p e below c bytes G) (X : Stand p l e R s m args below meth c T locs cells slots) {i : Nat} {x : Int32} (hd : decode bytes pc = .ok (.istore i, 2)) (L' : Array Slot) (pc' : Nat) (hp : pc' = pc + 2) (hl : storeLocals Ls i (.int x) = some L') (k : G (T.setTop (mkF m pc' L' st))) : G (T.setTop (mkF m pc Ls (.int x :: st))) := by
  subst hp; exact K.1 _ (fun t k => XS.istore X.here K.2.1 rfl (hb K.2.2 hd) rfl hl k) k
theorem oin (K : OwnK p e below c bytes G) (X : Stand p l e R s m args below meth c T locs cells slots) {cd : ClassFile.Cond} {o : Int} {x y : Int32} (hd : decode bytes pc = .ok (.if_icmp cd o, 3)) (pc' : Nat) (hp : pc' = pc + 3) (hh : if_icmp.holds cd x y = false) (k : G (T.setTop (mkF m pc' Ls st))) : G (T.setTop (mkF m pc Ls (.int y :: .int x :: st))) := by
  subst hp; exact K.1 _ (fun t k => XS.icmpNo X.here K.2.1 rfl (hb K.2.2 hd) rfl hh k) k
theorem oiy (K : OwnK p e below c bytes G) (X : Stand p l e R s m args below meth c T locs cells slots) {cd : ClassFile.Cond} {o : Int} {x y : Int32} (hd : decode bytes pc = .ok (.if_icmp cd o, 3)) (pc' : Nat) (hh : if_icmp.holds cd x y = true) (h0 : 0 ≤ (pc : Int) + o) (hp : ((pc : Int) + o).toNat = pc') (k : G (T.setTop (mkF m pc' Ls st))) : G (T.setTop (mkF m pc Ls (.int y :: .int x :: st))) :=
  K.1 _ (fun t k => XS.icmpYes X.here K.2.1 rfl (pc0 := pc) rfl (hb K.2.2 hd) rfl hh h0 hp k) k
end Short
theorem own_wS {Z : State} {a0 : Array Value} (hw : ∀ d ∈ tables_1, d.before a0 Z = true) : ∀ a ∈ Bundle.stringAtoms, a.before a0 Z = true := by
  intro a ha
  simp only [Bundle.stringAtoms, List.mem_cons, List.not_mem_nil, or_false] at ha
  rcases ha with rfl | rfl | rfl | rfl | rfl | rfl | rfl
  · exact (ow hw 6 rfl)
  · exact (ow hw 5 rfl)
  · exact (ow hw 23 rfl)
  · exact (ow hw 33 rfl)
  · exact (ow hw 31 rfl)
  · exact (ow hw 55 rfl)
  · exact (ow hw 56 rfl)
def own_EL : List (String × Nat) := [("com/example/dibs/dibs/core/Keyspace", 17), ("com/example/dibs/dibs/core/Keyspace", 25), ("com/example/dibs/dibs/core/Keyspace", 31), ("com/example/dibs/dibs/core/Keyspace", 40), ("com/example/dibs/dibs/core/Keyspace", 42)]
theorem own_EWs {Z : State} {a0 : Array Value} (hw : ∀ d ∈ tables_1, d.before a0 Z = true) : EW Z a0 own_EL := (EW.cons (text := "prefix") (ow hw 54 rfl) (by decide) (EW.cons (text := "name") (ow hw 120 rfl) (by decide) (EW.cons (text := "part") (ow hw 121 rfl) (by decide) (EW.cons (text := ":{") (ow hw 178 rfl) (by decide) (EW.cons (text := "}:") (ow hw 179 rfl) (by decide) EW.nil)))))
theorem own_shl0 (x : Int32) : x <<< ((0 : Int32) &&& 31) = x := by
  rw [show ((0 : Int32) &&& 31) = 0 by decide]
  exact Int32.shiftLeft_zero
theorem own_hl {vs : List Value} {d k : Nat} {dv : Value} (h : vs.length = d) : d + k ≤ (vs ++ List.replicate k dv).length := by
  rw [List.length_append, List.length_replicate, h]
  exact Nat.le_refl _
theorem own_arvA {Z : State} {h : Heap} {b : Addr} {k : ClassId} {ty : FieldType} {z : Int32} {vs us : List Value} {dv : Value} {d n k' : Nat} (hl : vs.length = d) (hk : n = k') (q : Arv Z h b k ty z ((vs ++ List.replicate k' dv).take d ++ us ++ (vs ++ List.replicate k' dv).drop (d + n)) dv) : Arv Z h b k ty z (vs ++ us) dv := by
  subst hk
  have e1 : (vs ++ List.replicate n dv).take d = vs := by rw [← hl, List.take_left]
  have e2 : (vs ++ List.replicate n dv).drop (d + n) = [] := List.drop_eq_nil_of_le (by rw [List.length_append, List.length_replicate, hl]; exact Nat.le_refl _)
  rw [e1, e2, List.append_nil] at q
  exact q
theorem own_safe {x z f : Int32} (hz : z = (if ((x &&& (255 : Int32)).toUInt32.toUInt16.toUInt32.toInt32) = (123 : Int32) then (97 : Int32) else (if ((x &&& (255 : Int32)).toUInt32.toUInt16.toUInt32.toInt32) = (125 : Int32) then (97 : Int32) else ((x &&& (255 : Int32)).toUInt32.toUInt16.toUInt32.toInt32)))) (hf : (nar .char z) = f) : ∃ k : Fin 256, f = Int32.ofNat k.1 ∧ k.1 ≠ 123 ∧ k.1 ≠ 125 := by
  have h1 := own_255 x _ rfl
  have h0 := (c_i2c (x &&& 255)).2.1
  rw [Int32.lt_iff_toInt_lt, show (255 : Int32).toInt = 255 by decide] at h1
  generalize ((x &&& (255 : Int32)).toUInt32.toUInt16.toUInt32.toInt32) = w at *
  obtain ⟨k, rfl⟩ : ∃ k : Fin 256, w = Int32.ofNat k.1 := ⟨⟨w.toInt.toNat, by omega⟩, Int32.toInt_inj.mp (by rw [Int32.toInt_ofNat_small (by show w.toInt.toNat < _; omega)]; show w.toInt = (w.toInt.toNat : Int); omega)⟩
  clear h0 h1
  subst hz
  subst hf
  revert k
  decide +kernel
theorem own_safe1 : ∀ k : Fin 256, ¬ ((255 : Int32) < (nar .char (Int32.ofNat k.1))) ∧ ¬ ((255 : Int32) < (Int32.ofNat k.1)) := by decide +kernel
theorem own_safeL {x z f : Int32} (hz : z = (if ((x &&& (255 : Int32)).toUInt32.toUInt16.toUInt32.toInt32) = (123 : Int32) then (97 : Int32) else (if ((x &&& (255 : Int32)).toUInt32.toUInt16.toUInt32.toInt32) = (125 : Int32) then (97 : Int32) else ((x &&& (255 : Int32)).toUInt32.toUInt16.toUInt32.toInt32)))) (hf : (nar .char z) = f) : ¬ ((255 : Int32) < (nar .char f)) ∧ ¬ ((255 : Int32) < f) := by
  obtain ⟨k, rfl, -⟩ := own_safe hz hf
  exact own_safe1 k
theorem own_safe2 : ∀ k : Fin 256, k.1 ≠ 123 → k.1 ≠ 125 → ¬ ((nar .byte ((nar .char (Int32.ofNat k.1)).toInt8.toInt32)) = (123 : Int32)) ∧ ¬ ((nar .byte ((nar .char (Int32.ofNat k.1)).toInt8.toInt32)) = (125 : Int32)) ∧ (nar .byte ((Int32.ofNat k.1).toInt8.toInt32)) = (nar .byte ((nar .char (Int32.ofNat k.1)).toInt8.toInt32)) := by decide +kernel
theorem own_safeB {f b : Int32} (h : ∃ k : Fin 256, f = Int32.ofNat k.1 ∧ k.1 ≠ 123 ∧ k.1 ≠ 125) (hb : (nar .byte ((nar .char f).toInt8.toInt32)) = b) : ¬ (b = (123 : Int32)) ∧ ¬ (b = (125 : Int32)) ∧ (nar .byte (f.toInt8.toInt32)) = b := by
  obtain ⟨k, rfl, h1, h2⟩ := h
  subst hb
  exact own_safe2 k h1 h2
theorem pn_0 : plainName "com/example/dibs/dibs/core/KeyspaceWithPrefixPinLaw" = true := by first | (simp [plainName, overriddenIn]; done) | decide +kernel
theorem pd_0 : parseMethodDescriptor "(I)C" = some ⟨[.int], some .char⟩ := by decide +kernel
theorem pd_1 : parseMethodDescriptor "([C)V" = some ⟨[(.array .char)], none⟩ := by decide +kernel
theorem pd_2 : parseMethodDescriptor "(C)Ljava/lang/String;" = some ⟨[.char], some (.object "java/lang/String")⟩ := by decide +kernel
theorem pd_3 : parseMethodDescriptor "(Ljava/lang/String;)Lcom/example/dibs/dibs/core/Keyspace;" = some ⟨[(.object "java/lang/String")], some (.object "com/example/dibs/dibs/core/Keyspace")⟩ := by decide +kernel
theorem pd_4 : parseMethodDescriptor "(Ljava/lang/String;Ljava/lang/String;)Ljava/lang/String;" = some ⟨[(.object "java/lang/String"), (.object "java/lang/String")], some (.object "java/lang/String")⟩ := by decide +kernel
theorem pd_5 : parseMethodDescriptor "(Ljava/lang/Object;)Z" = some ⟨[(.object "java/lang/Object")], some .boolean⟩ := by decide +kernel
theorem d1_0 : decode method_2_code 0 = .ok (.iload_n 0, 1) := by decide +kernel
theorem d1_1 : decode method_2_code 1 = .ok (.sipush 255, 3) := by decide +kernel
theorem d1_4 : decode method_2_code 4 = .ok (.iand, 1) := by decide +kernel
theorem d1_5 : decode method_2_code 5 = .ok (.i2c, 1) := by decide +kernel
theorem d1_6 : decode method_2_code 6 = .ok (.istore_n 1, 1) := by decide +kernel
theorem d1_7 : decode method_2_code 7 = .ok (.iload_n 1, 1) := by decide +kernel
theorem d1_8 : decode method_2_code 8 = .ok (.bipush 123, 2) := by decide +kernel
theorem d1_10 : decode method_2_code 10 = .ok (.if_icmp .eq 9, 3) := by decide +kernel
theorem d1_13 : decode method_2_code 13 = .ok (.iload_n 1, 1) := by decide +kernel
theorem d1_14 : decode method_2_code 14 = .ok (.bipush 125, 2) := by decide +kernel
theorem d1_16 : decode method_2_code 16 = .ok (.if_icmp .ne 6, 3) := by decide +kernel
theorem d1_19 : decode method_2_code 19 = .ok (.bipush 97, 2) := by decide +kernel
theorem d1_21 : decode method_2_code 21 = .ok (.ireturn, 1) := by decide +kernel
theorem d1_22 : decode method_2_code 22 = .ok (.iload_n 1, 1) := by decide +kernel
theorem d1_23 : decode method_2_code 23 = .ok (.ireturn, 1) := by decide +kernel
theorem ef_1_1 (m : MethodId) (x0 : Int32) : entryFrame m #[(.int x0)] 2 = mkF m 0 #[.val (.int x0), .unset] [] := by first | (simp [entryFrame, mkF, argsToLocals, Value.category]; done) | rfl
def Q1_1 (Z : State) (i1 : Int32) (h0 : Heap) (n0 : Nat) (v : Option Value) (h : Heap) (L : List Loc) : Prop := ∃ (z_1 : Int32), v = some (.int (nar .char z_1)) ∧ Fr n0 L ∧ h = h0 ∧ z_1 = (if ((i1 &&& (255 : Int32)).toUInt32.toUInt16.toUInt32.toInt32) = (123 : Int32) then (97 : Int32) else (if ((i1 &&& (255 : Int32)).toUInt32.toUInt16.toUInt32.toInt32) = (125 : Int32) then (97 : Int32) else ((i1 &&& (255 : Int32)).toUInt32.toUInt16.toUInt32.toInt32)))
set_option maxRecDepth 65536 in
set_option maxHeartbeats 40000000 in
theorem rm1_1 (l : Launch) (Z : State) (a0 : Array Value) (hw : ∀ d ∈ tables_1, d.before a0 Z = true) (ws : List Jvm.Cond) (i1 : Int32) (h0 : Heap) (n0 : Nat) (Z0 : n0 ≤ h0.size)  :
    OwnM l Z nM0 method_2_code 2 (some .char) ws ({ frames := 0, cells := 0, slots := 0, locals := 0 } : Room) #[(.int i1)] h0 (Q1_1 Z i1 h0 n0) := by
  refine own_body (plainFor_of_name pn_0) ?_
  intro p e s m below meth c s₁ G hx hby hml hZ hown hnm hret X0 e0 step fin
  replace hown : s.vm.findClass "com/example/dibs/dibs/core/KeyspaceWithPrefixPinLaw" = some m.cls := hown
  have N0 := Fr.nil n0
  have KK : OwnK p e below c _ G := ⟨step, hx, hby⟩
  refine step (s₁.setTop (mkF m 0 #[vi i1, .unset] [])) (fun t k => castTop (ef_1_1 m i1) k) ?_
  refine oil KK X0 d1_0 i1 1 rfl rfl ?_
  refine osi KK X0 d1_1 255 4 rfl rfl ?_
  refine step (s₁.setTop (mkF m 5 #[vi i1, .unset] [(.int (i1 &&& (255 : Int32)))])) (fun t k => XS.iand X0.here hx rfl (hb hby d1_4) rfl k) ?_
  refine step (s₁.setTop (mkF m 6 #[vi i1, .unset] [(.int ((i1 &&& (255 : Int32)).toUInt32.toUInt16.toUInt32.toInt32))])) (fun t k => XS.i2c X0.here hx rfl (hb hby d1_5) rfl k) ?_
  refine ois KK X0 d1_6 #[vi i1, .val (.int ((i1 &&& (255 : Int32)).toUInt32.toUInt16.toUInt32.toInt32))] 7 rfl rfl ?_
  refine oil KK X0 d1_7 ((i1 &&& (255 : Int32)).toUInt32.toUInt16.toUInt32.toInt32) 8 rfl rfl ?_
  refine obi KK X0 d1_8 123 10 rfl rfl ?_
  by_cases hc10_2 : ((i1 &&& (255 : Int32)).toUInt32.toUInt16.toUInt32.toInt32) = (123 : Int32)
  · -- 10 True
    refine oiy KK X0 d1_10 19 (teq hc10_2).1 (by decide) rfl ?_
    refine obi KK X0 d1_19 97 21 rfl rfl ?_
    refine fin (v := some (.int (nar .char (97 : Int32)))) X0 (fun h => by cases h) ?_ (by decide) (by decide) (fun fs hr => retN X0 hx (t := .char) hret (by simp) (hb hby d1_21) hr)
    show Q1_1 Z i1 h0 n0 (some (.int (nar .char (97 : Int32)))) s₁.heap _
    rw [e0]
    exact ⟨(97 : Int32), rfl, N0, rfl, (by simp only [if_pos hc10_2, if_true, if_false] <;> rfl)⟩
  · -- 10 False
    refine oin KK X0 d1_10 13 rfl (feq hc10_2).1 ?_
    refine oil KK X0 d1_13 ((i1 &&& (255 : Int32)).toUInt32.toUInt16.toUInt32.toInt32) 14 rfl rfl ?_
    refine obi KK X0 d1_14 125 16 rfl rfl ?_
    by_cases hc16_3 : ((i1 &&& (255 : Int32)).toUInt32.toUInt16.toUInt32.toInt32) = (125 : Int32)
    · -- 16 True
      refine oin KK X0 d1_16 19 rfl (teq hc16_3).2 ?_
      refine obi KK X0 d1_19 97 21 rfl rfl ?_
      refine fin (v := some (.int (nar .char (97 : Int32)))) X0 (fun h => by cases h) ?_ (by decide) (by decide) (fun fs hr => retN X0 hx (t := .char) hret (by simp) (hb hby d1_21) hr)
      show Q1_1 Z i1 h0 n0 (some (.int (nar .char (97 : Int32)))) s₁.heap _
      rw [e0]
      exact ⟨(97 : Int32), rfl, N0, rfl, (by simp only [if_neg hc10_2, if_pos hc16_3, if_true, if_false] <;> rfl)⟩
    · -- 16 False
      refine oiy KK X0 d1_16 22 (feq hc16_3).2 (by decide) rfl ?_
      refine oil KK X0 d1_22 ((i1 &&& (255 : Int32)).toUInt32.toUInt16.toUInt32.toInt32) 23 rfl rfl ?_
      refine fin (v := some (.int (nar .char ((i1 &&& (255 : Int32)).toUInt32.toUInt16.toUInt32.toInt32)))) X0 (fun h => by cases h) ?_ (by decide) (by decide) (fun fs hr => retN X0 hx (t := .char) hret (by simp) (hb hby d1_23) hr)
      show Q1_1 Z i1 h0 n0 (some (.int (nar .char ((i1 &&& (255 : Int32)).toUInt32.toUInt16.toUInt32.toInt32)))) s₁.heap _
      rw [e0]
      exact ⟨((i1 &&& (255 : Int32)).toUInt32.toUInt16.toUInt32.toInt32), rfl, N0, rfl, (by simp only [if_neg hc10_2, if_neg hc16_3, if_true, if_false] <;> rfl)⟩
theorem d2_0 : decode jdk_42_method_3_code 0 = .ok (.aload_n 0, 1) := by decide +kernel
theorem d2_1 : decode jdk_42_method_3_code 1 = .ok (.aload_n 1, 1) := by decide +kernel
theorem d2_2 : decode jdk_42_method_3_code 2 = .ok (.iconst 0, 1) := by decide +kernel
theorem d2_3 : decode jdk_42_method_3_code 3 = .ok (.aload_n 1, 1) := by decide +kernel
theorem d2_4 : decode jdk_42_method_3_code 4 = .ok (.arraylength, 1) := by decide +kernel
theorem d2_5 : decode jdk_42_method_3_code 5 = .ok (.aconst_null, 1) := by decide +kernel
theorem d2_6 : decode jdk_42_method_3_code 6 = .ok (.invokespecial 27, 3) := by decide +kernel
theorem d2_9 : decode jdk_42_method_3_code 9 = .ok (.return_, 1) := by decide +kernel
theorem pn_1 : plainName "java/lang/String" = true := by first | (simp [plainName, overriddenIn]; done) | decide +kernel
theorem pd_6 : parseMethodDescriptor "([CIILjava/lang/Void;)V" = some ⟨[(.array .char), .int, .int, (.object "java/lang/Void")], none⟩ := by decide +kernel
theorem d3_0 : decode jdk_42_method_149_code 0 = .ok (.aload_n 0, 1) := by decide +kernel
theorem d3_1 : decode jdk_42_method_149_code 1 = .ok (.invokespecial 1, 3) := by decide +kernel
theorem d3_4 : decode jdk_42_method_149_code 4 = .ok (.iload_n 3, 1) := by decide +kernel
theorem d3_5 : decode jdk_42_method_149_code 5 = .ok (.ifCond .ne 22, 3) := by decide +kernel
theorem d3_8 : decode jdk_42_method_149_code 8 = .ok (.aload_n 0, 1) := by decide +kernel
theorem d3_9 : decode jdk_42_method_149_code 9 = .ok (.ldc 7, 2) := by decide +kernel
theorem d3_11 : decode jdk_42_method_149_code 11 = .ok (.getfield 9, 3) := by decide +kernel
theorem d3_14 : decode jdk_42_method_149_code 14 = .ok (.putfield 9, 3) := by decide +kernel
theorem d3_17 : decode jdk_42_method_149_code 17 = .ok (.aload_n 0, 1) := by decide +kernel
theorem d3_18 : decode jdk_42_method_149_code 18 = .ok (.ldc 7, 2) := by decide +kernel
theorem d3_20 : decode jdk_42_method_149_code 20 = .ok (.getfield 15, 3) := by decide +kernel
theorem d3_23 : decode jdk_42_method_149_code 23 = .ok (.putfield 15, 3) := by decide +kernel
theorem d3_26 : decode jdk_42_method_149_code 26 = .ok (.return_, 1) := by decide +kernel
theorem d3_27 : decode jdk_42_method_149_code 27 = .ok (.getstatic 38, 3) := by decide +kernel
theorem d3_30 : decode jdk_42_method_149_code 30 = .ok (.ifCond .eq 28, 3) := by decide +kernel
theorem d3_33 : decode jdk_42_method_149_code 33 = .ok (.aload_n 1, 1) := by decide +kernel
theorem d3_34 : decode jdk_42_method_149_code 34 = .ok (.iload_n 2, 1) := by decide +kernel
theorem d3_35 : decode jdk_42_method_149_code 35 = .ok (.iload_n 3, 1) := by decide +kernel
theorem d3_36 : decode jdk_42_method_149_code 36 = .ok (.invokestatic 177, 3) := by decide +kernel
theorem d3_39 : decode jdk_42_method_149_code 39 = .ok (.astore 5, 2) := by decide +kernel
theorem d3_41 : decode jdk_42_method_149_code 41 = .ok (.aload_n 0, 1) := by decide +kernel
theorem d3_42 : decode jdk_42_method_149_code 42 = .ok (.aload 5, 2) := by decide +kernel
theorem d3_44 : decode jdk_42_method_149_code 44 = .ok (.iload_n 3, 1) := by decide +kernel
theorem d3_45 : decode jdk_42_method_149_code 45 = .ok (.invokestatic 47, 3) := by decide +kernel
theorem d3_48 : decode jdk_42_method_149_code 48 = .ok (.putfield 15, 3) := by decide +kernel
theorem d3_51 : decode jdk_42_method_149_code 51 = .ok (.aload_n 0, 1) := by decide +kernel
theorem d3_52 : decode jdk_42_method_149_code 52 = .ok (.aload 5, 2) := by decide +kernel
theorem d3_54 : decode jdk_42_method_149_code 54 = .ok (.putfield 9, 3) := by decide +kernel
theorem d3_57 : decode jdk_42_method_149_code 57 = .ok (.return_, 1) := by decide +kernel
theorem d3_58 : decode jdk_42_method_149_code 58 = .ok (.aload_n 0, 1) := by decide +kernel
theorem d3_59 : decode jdk_42_method_149_code 59 = .ok (.iconst 1, 1) := by decide +kernel
theorem d3_60 : decode jdk_42_method_149_code 60 = .ok (.putfield 15, 3) := by decide +kernel
theorem d3_63 : decode jdk_42_method_149_code 63 = .ok (.aload_n 0, 1) := by decide +kernel
theorem d3_64 : decode jdk_42_method_149_code 64 = .ok (.aload_n 1, 1) := by decide +kernel
theorem d3_65 : decode jdk_42_method_149_code 65 = .ok (.iload_n 2, 1) := by decide +kernel
theorem d3_66 : decode jdk_42_method_149_code 66 = .ok (.iload_n 3, 1) := by decide +kernel
theorem d3_67 : decode jdk_42_method_149_code 67 = .ok (.invokestatic 180, 3) := by decide +kernel
theorem d3_70 : decode jdk_42_method_149_code 70 = .ok (.putfield 9, 3) := by decide +kernel
theorem d3_73 : decode jdk_42_method_149_code 73 = .ok (.return_, 1) := by decide +kernel
theorem pd_7 : parseMethodDescriptor "()V" = some ⟨[], none⟩ := by decide +kernel
theorem pd_8 : parseMethodDescriptor "([CII)[B" = some ⟨[(.array .char), .int, .int], some (.array .byte)⟩ := by decide +kernel
theorem pd_9 : parseMethodDescriptor "([BI)B" = some ⟨[(.array .byte), .int], some .byte⟩ := by decide +kernel
theorem d5_0 : decode jdk_52_method_16_code 0 = .ok (.iload_n 2, 1) := by decide +kernel
theorem d5_1 : decode jdk_52_method_16_code 1 = .ok (.newarray .byte, 2) := by decide +kernel
theorem d5_3 : decode jdk_52_method_16_code 3 = .ok (.astore_n 3, 1) := by decide +kernel
theorem d5_4 : decode jdk_52_method_16_code 4 = .ok (.aload_n 0, 1) := by decide +kernel
theorem d5_5 : decode jdk_52_method_16_code 5 = .ok (.iload_n 1, 1) := by decide +kernel
theorem d5_6 : decode jdk_52_method_16_code 6 = .ok (.aload_n 3, 1) := by decide +kernel
theorem d5_7 : decode jdk_52_method_16_code 7 = .ok (.iconst 0, 1) := by decide +kernel
theorem d5_8 : decode jdk_52_method_16_code 8 = .ok (.iload_n 2, 1) := by decide +kernel
theorem d5_9 : decode jdk_52_method_16_code 9 = .ok (.invokestatic 115, 3) := by decide +kernel
theorem d5_12 : decode jdk_52_method_16_code 12 = .ok (.istore 4, 2) := by decide +kernel
theorem d5_14 : decode jdk_52_method_16_code 14 = .ok (.iload 4, 2) := by decide +kernel
theorem d5_16 : decode jdk_52_method_16_code 16 = .ok (.iload_n 2, 1) := by decide +kernel
theorem d5_17 : decode jdk_52_method_16_code 17 = .ok (.if_icmp .eq 40, 3) := by decide +kernel
theorem d5_20 : decode jdk_52_method_16_code 20 = .ok (.aload_n 0, 1) := by decide +kernel
theorem d5_21 : decode jdk_52_method_16_code 21 = .ok (.iload_n 1, 1) := by decide +kernel
theorem d5_22 : decode jdk_52_method_16_code 22 = .ok (.iload_n 2, 1) := by decide +kernel
theorem d5_23 : decode jdk_52_method_16_code 23 = .ok (.invokestatic 119, 3) := by decide +kernel
theorem d5_26 : decode jdk_52_method_16_code 26 = .ok (.astore 5, 2) := by decide +kernel
theorem d5_28 : decode jdk_52_method_16_code 28 = .ok (.aload 5, 2) := by decide +kernel
theorem d5_30 : decode jdk_52_method_16_code 30 = .ok (.iload 4, 2) := by decide +kernel
theorem d5_32 : decode jdk_52_method_16_code 32 = .ok (.invokestatic 71, 3) := by decide +kernel
theorem d5_35 : decode jdk_52_method_16_code 35 = .ok (.sipush 255, 3) := by decide +kernel
theorem d5_38 : decode jdk_52_method_16_code 38 = .ok (.if_icmp .gt 16, 3) := by decide +kernel
theorem d5_41 : decode jdk_52_method_16_code 41 = .ok (.aload 5, 2) := by decide +kernel
theorem d5_43 : decode jdk_52_method_16_code 43 = .ok (.iconst 0, 1) := by decide +kernel
theorem d5_44 : decode jdk_52_method_16_code 44 = .ok (.aload_n 3, 1) := by decide +kernel
theorem d5_45 : decode jdk_52_method_16_code 45 = .ok (.iconst 0, 1) := by decide +kernel
theorem d5_46 : decode jdk_52_method_16_code 46 = .ok (.iload_n 2, 1) := by decide +kernel
theorem d5_47 : decode jdk_52_method_16_code 47 = .ok (.invokestatic 123, 3) := by decide +kernel
theorem d5_50 : decode jdk_52_method_16_code 50 = .ok (.iload_n 2, 1) := by decide +kernel
theorem d5_51 : decode jdk_52_method_16_code 51 = .ok (.if_icmp .eq 6, 3) := by decide +kernel
theorem d5_54 : decode jdk_52_method_16_code 54 = .ok (.aload 5, 2) := by decide +kernel
theorem d5_56 : decode jdk_52_method_16_code 56 = .ok (.areturn, 1) := by decide +kernel
theorem d5_57 : decode jdk_52_method_16_code 57 = .ok (.aload_n 3, 1) := by decide +kernel
theorem d5_58 : decode jdk_52_method_16_code 58 = .ok (.areturn, 1) := by decide +kernel
theorem pn_2 : plainName "java/lang/StringUTF16" = true := by first | (simp [plainName, overriddenIn]; done) | decide +kernel
theorem pd_10 : parseMethodDescriptor "([CI[BII)I" = some ⟨[(.array .char), .int, (.array .byte), .int, .int], some .int⟩ := by decide +kernel
theorem d6_0 : decode jdk_52_method_21_code 0 = .ok (.iconst 0, 1) := by decide +kernel
theorem d6_1 : decode jdk_52_method_21_code 1 = .ok (.istore 5, 2) := by decide +kernel
theorem d6_3 : decode jdk_52_method_21_code 3 = .ok (.iload 5, 2) := by decide +kernel
theorem d6_5 : decode jdk_52_method_21_code 5 = .ok (.iload 4, 2) := by decide +kernel
theorem d6_7 : decode jdk_52_method_21_code 7 = .ok (.if_icmp .ge 37, 3) := by decide +kernel
theorem d6_10 : decode jdk_52_method_21_code 10 = .ok (.aload_n 0, 1) := by decide +kernel
theorem d6_11 : decode jdk_52_method_21_code 11 = .ok (.iload_n 1, 1) := by decide +kernel
theorem d6_12 : decode jdk_52_method_21_code 12 = .ok (.caload, 1) := by decide +kernel
theorem d6_13 : decode jdk_52_method_21_code 13 = .ok (.istore 6, 2) := by decide +kernel
theorem d6_15 : decode jdk_52_method_21_code 15 = .ok (.iload 6, 2) := by decide +kernel
theorem d6_17 : decode jdk_52_method_21_code 17 = .ok (.sipush 255, 3) := by decide +kernel
theorem d6_20 : decode jdk_52_method_21_code 20 = .ok (.if_icmp .le 6, 3) := by decide +kernel
theorem d6_23 : decode jdk_52_method_21_code 23 = .ok (.iload 5, 2) := by decide +kernel
theorem d6_25 : decode jdk_52_method_21_code 25 = .ok (.ireturn, 1) := by decide +kernel
theorem d6_26 : decode jdk_52_method_21_code 26 = .ok (.aload_n 2, 1) := by decide +kernel
theorem d6_27 : decode jdk_52_method_21_code 27 = .ok (.iload_n 3, 1) := by decide +kernel
theorem d6_28 : decode jdk_52_method_21_code 28 = .ok (.iload 6, 2) := by decide +kernel
theorem d6_30 : decode jdk_52_method_21_code 30 = .ok (.i2b, 1) := by decide +kernel
theorem d6_31 : decode jdk_52_method_21_code 31 = .ok (.bastore, 1) := by decide +kernel
theorem d6_32 : decode jdk_52_method_21_code 32 = .ok (.iinc 1 1, 3) := by decide +kernel
theorem d6_35 : decode jdk_52_method_21_code 35 = .ok (.iinc 3 1, 3) := by decide +kernel
theorem d6_38 : decode jdk_52_method_21_code 38 = .ok (.iinc 5 1, 3) := by decide +kernel
theorem d6_41 : decode jdk_52_method_21_code 41 = .ok (.goto (-38), 3) := by decide +kernel
theorem d6_44 : decode jdk_52_method_21_code 44 = .ok (.iload 4, 2) := by decide +kernel
theorem d6_46 : decode jdk_52_method_21_code 46 = .ok (.ireturn, 1) := by decide +kernel
theorem ef_6_5 (m : MethodId) (x0 : Addr) (x2 : Addr) : entryFrame m #[(.ref x0), (.int 0), (.ref x2), (.int 0), (.int 1)] 7 = mkF m 0 #[.val (.ref x0), .val (.int 0), .val (.ref x2), .val (.int 0), .val (.int 1), .unset, .unset] [] := by first | (simp [entryFrame, mkF, argsToLocals, Value.category]; done) | rfl
def Q6_5 (Z : State) (o1 : Addr) (o2 : Addr) (kc1 : ClassId) (i2 : Int32) (kc3 : ClassId) (h0 : Heap) (n0 : Nat) (v : Option Value) (h : Heap) (L : List Loc) : Prop := v = some (.int 1) ∧ Fr n0 L ∧ Keep h0 h [o2] ∧ Arv Z h o2 kc3 .byte (1 : Int32) [(.int (nar .byte (i2.toInt8.toInt32)))] (.int 0)
set_option maxRecDepth 65536 in
set_option maxHeartbeats 40000000 in
theorem rm6_5 (l : Launch) (Z : State) (a0 : Array Value) (hw : ∀ d ∈ tables_1, d.before a0 Z = true) (ws : List Jvm.Cond) (o1 : Addr) (o2 : Addr) (kc1 : ClassId) (i2 : Int32) (kc3 : ClassId) (h0 : Heap) (n0 : Nat) (Z0 : n0 ≤ h0.size) (Pm0 : Arv Z h0 o1 kc1 .char (1 : Int32) [(.int i2)] (.int 0)) (Pm1 : Arv Z h0 o2 kc3 .byte (1 : Int32) [(.int 0)] (.int 0)) (gn_o1 : n0 ≤ o1) (ne_o1_o2 : o1 ≠ o2) (gn_o2 : n0 ≤ o2) (hy5 : ¬ ((255 : Int32) < i2))  :
    OwnM l Z nM1 jdk_52_method_21_code 7 (some .int) ws ({ frames := 0, cells := 0, slots := 0, locals := 0 } : Room) #[(.ref o1), (.int 0), (.ref o2), (.int 0), (.int 1)] h0 (Q6_5 Z o1 o2 kc1 i2 kc3 h0 n0) := by
  refine own_body (plainFor_of_name pn_2) ?_
  intro p e s m below meth c s₁ G hx hby hml hZ hown hnm hret X0 e0 step fin
  replace hown : s.vm.findClass "java/lang/StringUTF16" = some m.cls := hown
  have N0 := Fr.nil n0
  have KK : OwnK p e below c _ G := ⟨step, hx, hby⟩
  refine step (s₁.setTop (mkF m 0 #[vr o1, vi 0, vr o2, vi 0, vi 1, .unset, .unset] [])) (fun t k => castTop (ef_6_5 m o1 o2) k) ?_
  refine oic KK X0 d6_0 0 1 rfl rfl ?_
  refine oiS KK X0 d6_1 #[vr o1, vi 0, vr o2, vi 0, vi 1, vi 0, .unset] 3 rfl rfl ?_
  refine oiL KK X0 d6_3 (0 : Int32) 5 rfl rfl ?_
  refine oiL KK X0 d6_5 (1 : Int32) 7 rfl rfl ?_
  refine oin KK X0 d6_7 10 rfl (tlt (by decide : (0 : Int32) < (1 : Int32))).2.1 ?_
  refine oal KK X0 d6_10 (.ref o1) 11 rfl rfl rfl ?_
  refine oil KK X0 d6_11 (0 : Int32) 12 rfl rfl ?_
  obtain ⟨cl1, Ar1, q1, S1, N1n, H1, G1⟩ := id Pm0
  have hin1 : ¬ ((0 : Int32) < 0 ∨ cl1.slots.size ≤ ((0 : Int32)).toNatClampNeg) := inb_of S1 ⟨by decide, by decide⟩
  have hat1 : cl1.slots[((0 : Int32)).toNatClampNeg]? = some (.int i2) := H1.at hin1 rfl
  refine step (s₁.setTop (mkF m 13 #[vr o1, vi 0, vr o2, vi 0, vi 1, vi 0, .unset] [(.int i2)])) (fun t k => X0.caload hx (j := (0 : Int32)) (v := (.int i2)) (by rw [e0]; exact Ar1.1) (State.isArrayOf_alike hZ.alike Ar1.2.1) Ar1.2.2 hin1 hat1 (g := (mkF m 12 #[vr o1, vi 0, vr o2, vi 0, vi 1, vi 0, .unset] [(.int 0), (.ref o1)])) rfl rfl (hb hby d6_12) t k) ?_
  refine oiS KK X0 d6_13 #[vr o1, vi 0, vr o2, vi 0, vi 1, vi 0, vi i2] 15 rfl rfl ?_
  refine oiL KK X0 d6_15 i2 17 rfl rfl ?_
  refine osi KK X0 d6_17 255 20 rfl rfl ?_
  have hc20_2 : ¬ ((255 : Int32) < i2) := hy5
  refine oiy KK X0 d6_20 26 (flt hc20_2).2.2.2 (by decide) rfl ?_
  refine oal KK X0 d6_26 (.ref o2) 27 rfl rfl rfl ?_
  refine oil KK X0 d6_27 (0 : Int32) 28 rfl rfl ?_
  refine oiL KK X0 d6_28 i2 30 rfl rfl ?_
  refine step (s₁.setTop (mkF m 31 #[vr o1, vi 0, vr o2, vi 0, vi 1, vi 0, vi i2] [(.int (i2.toInt8.toInt32)), (.int 0), (.ref o2)])) (fun t k => XS.i2b X0.here hx rfl (hb hby d6_30) rfl k) ?_
  obtain ⟨cl3, Ar3, q3, S3, N3n, H3, G3⟩ := id Pm1
  have hin3 : ¬ ((0 : Int32) < 0 ∨ cl3.slots.size ≤ ((0 : Int32)).toNatClampNeg) := inb_of S3 ⟨by decide, by decide⟩
  obtain ⟨T3, h3, X3, e3, W3, st3⟩ := stB X0 hx hZ e0 Ar3 (j := (0 : Int32)) hin3 (g := (mkF m 31 #[vr o1, vi 0, vr o2, vi 0, vi 1, vi 0, vi i2] [(.int (i2.toInt8.toInt32)), (.int 0), (.ref o2)])) rfl rfl (hb hby d6_31)
  have N3 := Fr.snoc X3 N0 gn_o2
  have K3 : Keep h0 h3 [o2] := (Keep.refl h0 [o2]).wr W3 (Or.inl (List.mem_of_getElem? (i := 0) rfl))
  have V3 : Arv Z h3 o2 kc3 .byte (1 : Int32) [(.int (nar .byte (i2.toInt8.toInt32)))] (.int 0) := Arv.set Ar3 q3 S3 N3n H3 G3 (fits_nar_byte (i2.toInt8.toInt32)) W3 0 rfl (Nat.le_of_ble_eq_true rfl)
  refine step (T3.setTop (mkF m 32 #[vr o1, vi 0, vr o2, vi 0, vi 1, vi 0, vi i2] [])) (fun t k => st3 t k) ?_
  refine oii KK X3 d6_32 #[vr o1, vi 1, vr o2, vi 0, vi 1, vi 0, vi i2] 35 rfl rfl rfl ?_
  refine oii KK X3 d6_35 #[vr o1, vi 1, vr o2, vi 1, vi 1, vi 0, vi i2] 38 rfl rfl rfl ?_
  refine oii KK X3 d6_38 #[vr o1, vi 1, vr o2, vi 1, vi 1, vi 1, vi i2] 41 rfl rfl rfl ?_
  refine ogo KK X3 d6_41 3 (by decide) rfl ?_
  refine oiL KK X3 d6_3 (1 : Int32) 5 rfl rfl ?_
  refine oiL KK X3 d6_5 (1 : Int32) 7 rfl rfl ?_
  refine oiy KK X3 d6_7 44 (flt (by decide : ¬ ((1 : Int32) < (1 : Int32)))).2.1 (by decide) rfl ?_
  refine oiL KK X3 d6_44 (1 : Int32) 46 rfl rfl ?_
  refine fin (v := some (.int 1)) X3 (fun h => by cases h) ?_ (by decide) (by decide) (fun fs hr => retI X3 hx hret (hb hby d6_46) hr)
  show Q6_5 Z o1 o2 kc1 i2 kc3 h0 n0 (some (.int 1)) T3.heap _
  rw [e3]
  exact ⟨rfl, N3, K3, V3⟩
theorem ef_5_4 (m : MethodId) (x0 : Addr) : entryFrame m #[(.ref x0), (.int 0), (.int 1)] 6 = mkF m 0 #[.val (.ref x0), .val (.int 0), .val (.int 1), .unset, .unset, .unset] [] := by first | (simp [entryFrame, mkF, argsToLocals, Value.category]; done) | rfl
def Q5_4 (Z : State) (o1 : Addr) (kc1 : ClassId) (i2 : Int32) (h0 : Heap) (n0 : Nat) (v : Option Value) (h : Heap) (L : List Loc) : Prop := ∃ (b1 : Addr) (k1 : ClassId), v = some (.ref b1) ∧ Fr n0 L ∧ Keep h0 h [] ∧ h0.size ≤ b1 ∧ Arv Z h b1 k1 .byte (1 : Int32) [(.int (nar .byte (i2.toInt8.toInt32)))] (.int 0)
set_option maxRecDepth 65536 in
set_option maxHeartbeats 40000000 in
theorem rm5_4 (l : Launch) (Z : State) (a0 : Array Value) (hw : ∀ d ∈ tables_1, d.before a0 Z = true) (ws : List Jvm.Cond) (o1 : Addr) (kc1 : ClassId) (i2 : Int32) (h0 : Heap) (n0 : Nat) (Z0 : n0 ≤ h0.size) (Pm0 : Arv Z h0 o1 kc1 .char (1 : Int32) [(.int i2)] (.int 0)) (gn_o1 : n0 ≤ o1) (hy2 : ¬ ((255 : Int32) < i2))  :
    OwnM l Z nM2 jdk_52_method_16_code 6 (some (.array .byte)) ws ({ frames := 1, cells := 1, slots := 1, locals := 18 } : Room) #[(.ref o1), (.int 0), (.int 1)] h0 (Q5_4 Z o1 kc1 i2 h0 n0) := by
  refine own_body (plainFor_of_name pn_2) ?_
  intro p e s m below meth c s₁ G hx hby hml hZ hown hnm hret X0 e0 step fin
  replace hown : s.vm.findClass "java/lang/StringUTF16" = some m.cls := hown
  have N0 := Fr.nil n0
  have KK : OwnK p e below c _ G := ⟨step, hx, hby⟩
  refine step (s₁.setTop (mkF m 0 #[vr o1, vi 0, vi 1, .unset, .unset, .unset] [])) (fun t k => castTop (ef_5_4 m o1) k) ?_
  refine oil KK X0 d5_0 (1 : Int32) 1 rfl rfl ?_
  obtain ⟨T1, h1, k1, X1, e1, E1, A1, st1⟩ := newP X0 hx hZ (ow hw 23 rfl) e0 (g := (mkF m 1 #[vr o1, vi 0, vi 1, .unset, .unset, .unset] [(.int 1)])) rfl (hb hby d5_1) rfl (by decide) (cap := 1) (by decide) (by decide) (by decide) (by decide)
  obtain ⟨b1, g1⟩ : ∃ z, z = h0.size := ⟨_, rfl⟩
  rw [← g1] at A1 st1
  have ne_o1_b1 : o1 ≠ b1 := Nat.ne_of_lt (Nat.lt_of_lt_of_le Pm0.lt (Nat.le_of_eq g1.symm))
  have gn_b1 : n0 ≤ b1 := Nat.le_trans Z0 (Nat.le_of_eq g1.symm)
  have sz_b1 : h0.size ≤ b1 := Nat.le_of_eq g1.symm
  have K1 : Keep h0 h1 [] := (Keep.refl h0 []).ext E1
  have V1 : Arv Z h1 b1 k1 .byte (1 : Int32) [(.int 0)] (.int 0) := (Arv.new A1 (by decide)).pad (pad_rep [] (.int 0) 1)
  refine step (T1.setTop (mkF m 3 #[vr o1, vi 0, vi 1, .unset, .unset, .unset] [(.ref b1)])) (fun t k => st1 t k) ?_
  refine step (T1.setTop (mkF m 4 #[vr o1, vi 0, vi 1, vr b1, .unset, .unset] [])) (fun t k => XS.astoreN X1.here hx rfl (hb hby d5_3) rfl rfl (l' := #[vr o1, vi 0, vi 1, vr b1, .unset, .unset]) rfl k) ?_
  refine oal KK X1 d5_4 (.ref o1) 5 rfl rfl rfl ?_
  refine oil KK X1 d5_5 (0 : Int32) 6 rfl rfl ?_
  refine oal KK X1 d5_6 (.ref b1) 7 rfl rfl rfl ?_
  refine oic KK X1 d5_7 0 8 rfl rfl ?_
  refine oil KK X1 d5_8 (1 : Int32) 9 rfl rfl ?_
  have f2 := (Pm0.ext E1)
  obtain ⟨_, _, ⟨T3, L3, k3, n3⟩, -, X3, ⟨Lc3, hQ3, l3, y3, z3⟩, st3⟩ := Jvm.LawKit.callS X1 hx (y := nM1) hown (mvT hZ (ow hw 24 rfl)) (mvT hZ (ow hw 25 rfl)) (mvT hZ (ow hw 21 rfl)) (mvT hZ (ow hw 26 rfl)) (by decide) (backOf (W := 0) (rm6_5 l Z a0 hw [] o1 b1 kc1 i2 k1 h1 n0 (Nat.le_trans Z0 K1.1) f2 V1 gn_o1 ne_o1_b1 gn_b1 hy2) hZ (ow hw 26 rfl) (ow hw 21 rfl) (by decide) (by decide)) (g := (mkF m 9 #[vr o1, vi 0, vi 1, vr b1, .unset, .unset] [(.int 1), (.int 0), (.ref b1), (.int 0), (.ref o1)])) rfl (by rw [hml]; rfl) (argsL := [(.ref o1), (.int 0), (.ref b1), (.int 0), (.int 1)]) (rest := []) (lenOf pd_10 rfl) rfl (omw rfl rfl) (hb hby d5_9) (fun _ _ => ⟨rfl, e1, (by decide : 1 + 0 ≤ _), (by decide : 1 + 0 ≤ _)⟩)
  dsimp only [Pt.U, Pt.locs, Pt.cells, Pt.slots] at X3 l3 y3 z3 st3 hQ3
  subst l3 y3 z3
  obtain ⟨h3, e3⟩ : ∃ z, T3.heap = z := ⟨_, rfl⟩
  rw [e3] at hQ3
  obtain ⟨rfl, N3q, K3q, q0_3⟩ := hQ3
  have N3 := Fr.app N0 N3q
  have K3 : Keep h0 h3 [] := K1.trans K3q (allS (Or.inr sz_b1) all0)
  refine step (T3.setTop (mkF m 12 #[vr o1, vi 0, vi 1, vr b1, .unset, .unset] [(.int 1)])) (fun t k => st3 t k) ?_
  refine oiS KK X3 d5_12 #[vr o1, vi 0, vi 1, vr b1, vi 1, .unset] 14 rfl rfl ?_
  refine oiL KK X3 d5_14 (1 : Int32) 16 rfl rfl ?_
  refine oil KK X3 d5_16 (1 : Int32) 17 rfl rfl ?_
  refine oiy KK X3 d5_17 57 (teq (by decide : (1 : Int32) = (1 : Int32))).1 (by decide) rfl ?_
  refine oal KK X3 d5_57 (.ref b1) 58 rfl rfl rfl ?_
  refine fin (v := some (.ref b1)) X3 (fun h => by cases h) ?_ (by decide) (by decide) (fun fs hr => X3.areturnOut hx rfl hret rfl (hb hby d5_58) hr)
  show Q5_4 Z o1 kc1 i2 h0 n0 (some (.ref b1)) T3.heap _
  rw [e3]
  exact ⟨b1, k1, rfl, N3, K3, sz_b1, q0_3⟩
theorem d7_0 : decode jdk_52_method_15_code 0 = .ok (.iload_n 1, 1) := by decide +kernel
theorem d7_1 : decode jdk_52_method_15_code 1 = .ok (.aload_n 0, 1) := by decide +kernel
theorem d7_2 : decode jdk_52_method_15_code 2 = .ok (.arraylength, 1) := by decide +kernel
theorem d7_3 : decode jdk_52_method_15_code 3 = .ok (.isub, 1) := by decide +kernel
theorem d7_4 : decode jdk_52_method_15_code 4 = .ok (.bipush 31, 2) := by decide +kernel
theorem d7_6 : decode jdk_52_method_15_code 6 = .ok (.iushr, 1) := by decide +kernel
theorem d7_7 : decode jdk_52_method_15_code 7 = .ok (.i2b, 1) := by decide +kernel
theorem d7_8 : decode jdk_52_method_15_code 8 = .ok (.ireturn, 1) := by decide +kernel
theorem ef_7_6 (m : MethodId) (x0 : Addr) : entryFrame m #[(.ref x0), (.int 1)] 2 = mkF m 0 #[.val (.ref x0), .val (.int 1)] [] := by first | (simp [entryFrame, mkF, argsToLocals, Value.category]; done) | rfl
def Q7_6 (Z : State) (o1 : Addr) (kc1 : ClassId) (i2 : Int32) (h0 : Heap) (n0 : Nat) (v : Option Value) (h : Heap) (L : List Loc) : Prop := v = some (.int 0) ∧ Fr n0 L ∧ h = h0
set_option maxRecDepth 65536 in
set_option maxHeartbeats 40000000 in
theorem rm7_6 (l : Launch) (Z : State) (a0 : Array Value) (hw : ∀ d ∈ tables_1, d.before a0 Z = true) (ws : List Jvm.Cond) (o1 : Addr) (kc1 : ClassId) (i2 : Int32) (h0 : Heap) (n0 : Nat) (Z0 : n0 ≤ h0.size) (Pm0 : Arv Z h0 o1 kc1 .byte (1 : Int32) [(.int i2)] (.int 0)) (gn_o1 : n0 ≤ o1)  :
    OwnM l Z nM3 jdk_52_method_15_code 2 (some .byte) ws ({ frames := 0, cells := 0, slots := 0, locals := 0 } : Room) #[(.ref o1), (.int 1)] h0 (Q7_6 Z o1 kc1 i2 h0 n0) := by
  refine own_body (plainFor_of_name pn_2) ?_
  intro p e s m below meth c s₁ G hx hby hml hZ hown hnm hret X0 e0 step fin
  replace hown : s.vm.findClass "java/lang/StringUTF16" = some m.cls := hown
  have N0 := Fr.nil n0
  have KK : OwnK p e below c _ G := ⟨step, hx, hby⟩
  refine step (s₁.setTop (mkF m 0 #[vr o1, vi 1] [])) (fun t k => castTop (ef_7_6 m o1) k) ?_
  refine oil KK X0 d7_0 (1 : Int32) 1 rfl rfl ?_
  refine oal KK X0 d7_1 (.ref o1) 2 rfl rfl rfl ?_
  obtain ⟨cl1, Ar1, q1, S1, N1n, H1, G1⟩ := id Pm0
  refine step (s₁.setTop (mkF m 3 #[vr o1, vi 1] [(.int 1), (.int 1)])) (fun t k => X0.arraylength hx (by rw [e0]; exact Ar1.1) (State.isArrayOf_alike hZ.alike Ar1.2.1) (g := (mkF m 2 #[vr o1, vi 1] [(.ref o1), (.int 1)])) rfl rfl (hb hby d7_2) t (by rw [len_of S1 N1n]; exact k)) ?_
  refine step (s₁.setTop (mkF m 4 #[vr o1, vi 1] [(.int 0)])) (fun t k => XS.isub X0.here hx rfl (hb hby d7_3) rfl k) ?_
  refine obi KK X0 d7_4 31 6 rfl rfl ?_
  refine step (s₁.setTop (mkF m 7 #[vr o1, vi 1] [(.int 0)])) (fun t k => XS.iushr X0.here hx rfl (hb hby d7_6) rfl k) ?_
  refine step (s₁.setTop (mkF m 8 #[vr o1, vi 1] [(.int 0)])) (fun t k => XS.i2b X0.here hx rfl (hb hby d7_7) rfl k) ?_
  refine fin (v := some (.int (nar .byte (0 : Int32)))) X0 (fun h => by cases h) ?_ (by decide) (by decide) (fun fs hr => retN X0 hx (t := .byte) hret (by simp) (hb hby d7_8) hr)
  show Q7_6 Z o1 kc1 i2 h0 n0 (some (.int (nar .byte (0 : Int32)))) s₁.heap _
  rw [e0]
  exact ⟨rfl, N0, rfl⟩
theorem ef_3_3 (m : MethodId) (x0 : Addr) (x1 : Addr) : entryFrame m #[(.ref x0), (.ref x1), (.int 0), (.int 1), .null] 6 = mkF m 0 #[.val (.ref x0), .val (.ref x1), .val (.int 0), .val (.int 1), .val .null, .unset] [] := by first | (simp [entryFrame, mkF, argsToLocals, Value.category]; done) | rfl
def Q3_3 (Z : State) (o1 : Addr) (o2 : Addr) (i1 : Int32) (kc2 : ClassId) (i3 : Int32) (h0 : Heap) (n0 : Nat) (v : Option Value) (h : Heap) (L : List Loc) : Prop := ∃ (b1_4 : Addr) (k1_4 : ClassId), v = none ∧ Fr n0 L ∧ Keep h0 h [o1] ∧ h0.size ≤ b1_4 ∧ Fld Z h o1 "java/lang/String" "coder" "B" (.int 0) ∧ Fld Z h o1 "java/lang/String" "value" "[B" (.ref b1_4) ∧ Arv Z h b1_4 k1_4 .byte (1 : Int32) [(.int (nar .byte (i3.toInt8.toInt32)))] (.int 0)
set_option maxRecDepth 65536 in
set_option maxHeartbeats 40000000 in
theorem rm3_3 (l : Launch) (Z : State) (a0 : Array Value) (hw : ∀ d ∈ tables_1, d.before a0 Z = true) (ws : List Jvm.Cond) (o1 : Addr) (o2 : Addr) (i1 : Int32) (kc2 : ClassId) (i3 : Int32) (h0 : Heap) (n0 : Nat) (Z0 : n0 ≤ h0.size) (S0 : Sta Z h0 "java/lang/String" "COMPACT_STRINGS" "Z" (.int i1)) (Pm1 : Exa Z h0 o1 "java/lang/String") (Pm2 : Fld Z h0 o1 "java/lang/String" "coder" "B" (.int 0)) (Pm3 : Fld Z h0 o1 "java/lang/String" "value" "[B" .null) (Pm4 : Arv Z h0 o2 kc2 .char (1 : Int32) [(.int i3)] (.int 0)) (gn_o1 : n0 ≤ o1) (ne_o1_o2 : o1 ≠ o2) (gn_o2 : n0 ≤ o2) (hy8 : ¬ ((255 : Int32) < i3)) (hy9 : ¬ (i1 = (0 : Int32)))  :
    OwnM l Z nM4 jdk_42_method_149_code 6 none ws ({ frames := 2, cells := 1, slots := 1, locals := 35 } : Room) #[(.ref o1), (.ref o2), (.int 0), (.int 1), .null] h0 (Q3_3 Z o1 o2 i1 kc2 i3 h0 n0) := by
  refine own_body (plainFor_of_name pn_1) ?_
  intro p e s m below meth c s₁ G hx hby hml hZ hown hnm hret X0 e0 step fin
  replace hown : s.vm.findClass "java/lang/String" = some m.cls := hown
  have N0 := Fr.nil n0
  have KK : OwnK p e below c _ G := ⟨step, hx, hby⟩
  refine step (s₁.setTop (mkF m 0 #[vr o1, vr o2, vi 0, vi 1, .val .null, .unset] [])) (fun t k => castTop (ef_3_3 m o1 o2) k) ?_
  refine oal KK X0 d3_0 (.ref o1) 1 rfl rfl rfl ?_
  obtain ⟨T1, X1, e1, st1⟩ := initO X0 hx hZ hown (ow hw 15 rfl) (ow hw 16 rfl) (ow hw 17 rfl) e0 (g := (mkF m 1 #[vr o1, vr o2, vi 0, vi 1, .val .null, .unset] [(.ref o1)])) rfl (by rw [hml]; rfl) rfl (hb hby d3_1) (by decide) (W := 0) (omw rfl rfl) (by decide)
  refine step (T1.setTop (mkF m 4 #[vr o1, vr o2, vi 0, vi 1, .val .null, .unset] [])) (fun t k => st1 t k) ?_
  refine oil KK X1 d3_4 (1 : Int32) 5 rfl rfl ?_
  refine step (T1.setTop (mkF m 27 #[vr o1, vr o2, vi 0, vi 1, .val .null, .unset] [])) (fun t k => XS.ifYes X1.here hx rfl (pc0 := 5) (pc' := 27) rfl (hb hby d3_5) rfl ((if0 _ _).trans (feq (by decide : ¬ ((1 : Int32) = (0 : Int32)))).2) (by decide) (by decide) k) ?_
  obtain ⟨T2, X2, e2, st2⟩ := getS2 X1 hx hZ hown (host := "") (Or.inl (ow hw 18 rfl)) Via.refl e1 S0 (g := (mkF m 27 #[vr o1, vr o2, vi 0, vi 1, .val .null, .unset] [])) rfl (hb hby d3_27)
  refine step (T2.setTop (mkF m 30 #[vr o1, vr o2, vi 0, vi 1, .val .null, .unset] [(.int i1)])) (fun t k => st2 t k) ?_
  have hc30_3 : ¬ (i1 = (0 : Int32)) := hy9
  refine step (T2.setTop (mkF m 33 #[vr o1, vr o2, vi 0, vi 1, .val .null, .unset] [])) (fun t k => XS.ifNo X2.here hx rfl (hb hby d3_30) rfl ((if0 _ _).trans (feq hc30_3).1) k) ?_
  refine oal KK X2 d3_33 (.ref o2) 34 rfl rfl rfl ?_
  refine oil KK X2 d3_34 (0 : Int32) 35 rfl rfl ?_
  refine oil KK X2 d3_35 (1 : Int32) 36 rfl rfl ?_
  obtain ⟨_, _, ⟨T4, L4, k4, n4⟩, -, X4, ⟨Lc4, hQ4, l4, y4, z4⟩, st4⟩ := Jvm.LawKit.callS X2 hx (y := nM2) hown (mvT hZ (ow hw 19 rfl)) (mvT hZ (ow hw 20 rfl)) (mvT hZ (ow hw 21 rfl)) (mvT hZ (ow hw 22 rfl)) (by decide) (backOf (W := 0) (rm5_4 l Z a0 hw [] o2 kc2 i3 h0 n0 Z0 Pm4 gn_o2 hy8) hZ (ow hw 22 rfl) (ow hw 21 rfl) (by decide) (by decide)) (g := (mkF m 36 #[vr o1, vr o2, vi 0, vi 1, .val .null, .unset] [(.int 1), (.int 0), (.ref o2)])) rfl (by rw [hml]; rfl) (argsL := [(.ref o2), (.int 0), (.int 1)]) (rest := []) (lenOf pd_8 rfl) rfl (omw rfl rfl) (hb hby d3_36) (fun _ _ => ⟨rfl, e2, (by decide : 0 + 1 ≤ _), (by decide : 0 + 1 ≤ _)⟩)
  dsimp only [Pt.U, Pt.locs, Pt.cells, Pt.slots] at X4 l4 y4 z4 st4 hQ4
  subst l4 y4 z4
  obtain ⟨h4, e4⟩ : ∃ z, T4.heap = z := ⟨_, rfl⟩
  rw [e4] at hQ4
  obtain ⟨b1_4, k1_4, rfl, N4q, K4q, sz_b1_4, q0_4⟩ := hQ4
  have N4 := Fr.app N0 N4q
  have lt4_o1 := Pm1.lt
  have lt4_o2 := Pm4.lt
  have ne_o1_b1_4 : o1 ≠ b1_4 := Nat.ne_of_lt (Nat.lt_of_lt_of_le lt4_o1 sz_b1_4)
  have ne_o2_b1_4 : o2 ≠ b1_4 := Nat.ne_of_lt (Nat.lt_of_lt_of_le lt4_o2 sz_b1_4)
  have gn_b1_4 : n0 ≤ b1_4 := Nat.le_trans Z0 sz_b1_4
  have K4 : Keep h0 h4 [o1] := (Keep.refl h0 [o1]).trans K4q all0
  have f5 := own_staK S0 K4q all0
  refine step (T4.setTop (mkF m 39 #[vr o1, vr o2, vi 0, vi 1, .val .null, .unset] [(.ref b1_4)])) (fun t k => st4 t k) ?_
  refine step (T4.setTop (mkF m 41 #[vr o1, vr o2, vi 0, vi 1, .val .null, vr b1_4] [])) (fun t k => XS.astore X4.here hx rfl (hb hby d3_39) rfl rfl (l' := #[vr o1, vr o2, vi 0, vi 1, .val .null, vr b1_4]) rfl k) ?_
  refine oal KK X4 d3_41 (.ref o1) 42 rfl rfl rfl ?_
  refine oaL KK X4 d3_42 (.ref b1_4) 44 rfl rfl rfl ?_
  refine oil KK X4 d3_44 (1 : Int32) 45 rfl rfl ?_
  obtain ⟨_, _, ⟨T6, L6, k6, n6⟩, -, X6, ⟨Lc6, hQ6, l6, y6, z6⟩, st6⟩ := Jvm.LawKit.callS X4 hx (y := nM3) hown (mvT hZ (ow hw 27 rfl)) (mvT hZ (ow hw 28 rfl)) (mvT hZ (ow hw 21 rfl)) (mvT hZ (ow hw 29 rfl)) (by decide) (backOf (W := 1) (rm7_6 l Z a0 hw [] b1_4 k1_4 (nar .byte (i3.toInt8.toInt32)) h4 n0 (Nat.le_trans Z0 K4.1) q0_4 gn_b1_4) hZ (ow hw 29 rfl) (ow hw 21 rfl) (by decide) (by decide)) (g := (mkF m 45 #[vr o1, vr o2, vi 0, vi 1, .val .null, vr b1_4] [(.int 1), (.ref b1_4), (.ref o1)])) rfl (by rw [hml]; rfl) (argsL := [(.ref b1_4), (.int 1)]) (rest := [(.ref o1)]) (lenOf pd_9 rfl) rfl (omw rfl rfl) (hb hby d3_45) (fun _ _ => ⟨rfl, e4, (by decide : 1 + 0 ≤ _), (by decide : 1 + 0 ≤ _)⟩)
  dsimp only [Pt.U, Pt.locs, Pt.cells, Pt.slots] at X6 l6 y6 z6 st6 hQ6
  subst l6 y6 z6
  obtain ⟨rfl, N6q, e6q⟩ := hQ6
  have N6 := Fr.app N4 N6q
  refine step (T6.setTop (mkF m 48 #[vr o1, vr o2, vi 0, vi 1, .val .null, vr b1_4] [(.int 0), (.ref o1)])) (fun t k => st6 t k) ?_
  have f7 := (Pm1.keep K4q)
  have f8 := (Pm2.keep K4q nin0)
  obtain ⟨T9, h9, X9, e9, W9, st9⟩ := putFN X6 hx hZ hown (ow hw 30 rfl) Via.refl e6q f8 f7 (Or.inr ⟨(ow hw 31 rfl), rfl, hnm⟩) (ow hw 5 rfl) (ty := .byte) (v' := (.int 0)) (by decide) rfl (fits_nar_byte (0 : Int32)) (g := (mkF m 48 #[vr o1, vr o2, vi 0, vi 1, .val .null, vr b1_4] [(.int 0), (.ref o1)])) rfl rfl (hb hby d3_48)
  have N9 := Fr.snoc X9 N6 gn_o1
  have K9 : Keep h0 h9 [o1] := K4.wr W9 (Or.inl (List.mem_of_getElem? (i := 0) rfl))
  have F9 := f8.same W9
  refine step (T9.setTop (mkF m 51 #[vr o1, vr o2, vi 0, vi 1, .val .null, vr b1_4] [])) (fun t k => st9 t k) ?_
  refine oal KK X9 d3_51 (.ref o1) 52 rfl rfl rfl ?_
  refine oaL KK X9 d3_52 (.ref b1_4) 54 rfl rfl rfl ?_
  have f10 := (f7.wr W9)
  have f11 := ((Pm3.keep K4q nin0).other W9 (Or.inr (slot_ne (Or.inr (ow hw 33 rfl)) (Or.inr (ow hw 31 rfl)) (by decide) (t := (.array .byte)) (t' := .byte) (by decide) (by decide))))
  obtain ⟨T12, h12, X12, e12, W12, st12⟩ := putF X9 hx hZ hown (host := "") (Or.inl (ow hw 32 rfl)) Via.refl e9 f11 f10 (Or.inr ⟨(ow hw 33 rfl), rfl, hnm⟩) (ow hw 5 rfl) (ty := (.array .byte)) (by decide) rfl rfl (g := (mkF m 54 #[vr o1, vr o2, vi 0, vi 1, .val .null, vr b1_4] [(.ref b1_4), (.ref o1)])) rfl rfl (hb hby d3_54)
  have N12 := Fr.snoc X12 N9 gn_o1
  have K12 : Keep h0 h12 [o1] := K9.wr W12 (Or.inl (List.mem_of_getElem? (i := 0) rfl))
  have F12 := f11.same W12
  refine step (T12.setTop (mkF m 57 #[vr o1, vr o2, vi 0, vi 1, .val .null, vr b1_4] [])) (fun t k => st12 t k) ?_
  have f13 := (F9.other W12 (Or.inr (slot_ne (Or.inr (ow hw 31 rfl)) (Or.inr (ow hw 33 rfl)) (by decide) (t := .byte) (t' := (.array .byte)) (by decide) (by decide))))
  have f14 := ((q0_4.other W9 (Ne.symm ne_o1_b1_4)).other W12 (Ne.symm ne_o1_b1_4))
  refine fin (v := none) X12 (fun _ => rfl) ?_ (by decide) (by decide) (fun fs hr => X12.returnOut hx hret (hb hby d3_57) hr)
  show Q3_3 Z o1 o2 i1 kc2 i3 h0 n0 (none) T12.heap _
  rw [e12]
  exact ⟨b1_4, k1_4, rfl, N12, K12, sz_b1_4, f13, F12, f14⟩
theorem ef_2_2 (m : MethodId) (x0 : Addr) (x1 : Addr) : entryFrame m #[(.ref x0), (.ref x1)] 2 = mkF m 0 #[.val (.ref x0), .val (.ref x1)] [] := by first | (simp [entryFrame, mkF, argsToLocals, Value.category]; done) | rfl
def Q2_2 (Z : State) (o1 : Addr) (o2 : Addr) (i1 : Int32) (kc2 : ClassId) (i3 : Int32) (h0 : Heap) (n0 : Nat) (v : Option Value) (h : Heap) (L : List Loc) : Prop := ∃ (b1_4_2 : Addr) (k1_4_2 : ClassId), v = none ∧ Fr n0 L ∧ Keep h0 h [o1] ∧ h0.size ≤ b1_4_2 ∧ Fld Z h o1 "java/lang/String" "coder" "B" (.int 0) ∧ Fld Z h o1 "java/lang/String" "value" "[B" (.ref b1_4_2) ∧ Arv Z h b1_4_2 k1_4_2 .byte (1 : Int32) [(.int (nar .byte (i3.toInt8.toInt32)))] (.int 0)
set_option maxRecDepth 65536 in
set_option maxHeartbeats 40000000 in
theorem rm2_2 (l : Launch) (Z : State) (a0 : Array Value) (hw : ∀ d ∈ tables_1, d.before a0 Z = true) (ws : List Jvm.Cond) (o1 : Addr) (o2 : Addr) (i1 : Int32) (kc2 : ClassId) (i3 : Int32) (h0 : Heap) (n0 : Nat) (Z0 : n0 ≤ h0.size) (S0 : Sta Z h0 "java/lang/String" "COMPACT_STRINGS" "Z" (.int i1)) (Pm1 : Exa Z h0 o1 "java/lang/String") (Pm2 : Fld Z h0 o1 "java/lang/String" "coder" "B" (.int 0)) (Pm3 : Fld Z h0 o1 "java/lang/String" "value" "[B" .null) (Pm4 : Arv Z h0 o2 kc2 .char (1 : Int32) [(.int i3)] (.int 0)) (gn_o1 : n0 ≤ o1) (ne_o1_o2 : o1 ≠ o2) (gn_o2 : n0 ≤ o2) (hy8 : ¬ ((255 : Int32) < i3)) (hy9 : ¬ (i1 = (0 : Int32)))  :
    OwnM l Z nM5 jdk_42_method_3_code 2 none ws ({ frames := 3, cells := 1, slots := 1, locals := 52 } : Room) #[(.ref o1), (.ref o2)] h0 (Q2_2 Z o1 o2 i1 kc2 i3 h0 n0) := by
  refine own_body (plainFor_of_name pn_1) ?_
  intro p e s m below meth c s₁ G hx hby hml hZ hown hnm hret X0 e0 step fin
  replace hown : s.vm.findClass "java/lang/String" = some m.cls := hown
  have N0 := Fr.nil n0
  have KK : OwnK p e below c _ G := ⟨step, hx, hby⟩
  refine step (s₁.setTop (mkF m 0 #[vr o1, vr o2] [])) (fun t k => castTop (ef_2_2 m o1 o2) k) ?_
  refine oal KK X0 d2_0 (.ref o1) 1 rfl rfl rfl ?_
  refine oal KK X0 d2_1 (.ref o2) 2 rfl rfl rfl ?_
  refine oic KK X0 d2_2 0 3 rfl rfl ?_
  refine oal KK X0 d2_3 (.ref o2) 4 rfl rfl rfl ?_
  obtain ⟨cl1, Ar1, q1, S1, N1n, H1, G1⟩ := id Pm4
  refine step (s₁.setTop (mkF m 5 #[vr o1, vr o2] [(.int 1), (.int 0), (.ref o2), (.ref o1)])) (fun t k => X0.arraylength hx (by rw [e0]; exact Ar1.1) (State.isArrayOf_alike hZ.alike Ar1.2.1) (g := (mkF m 4 #[vr o1, vr o2] [(.ref o2), (.int 0), (.ref o2), (.ref o1)])) rfl rfl (hb hby d2_4) t (by rw [len_of S1 N1n]; exact k)) ?_
  refine step (s₁.setTop (mkF m 6 #[vr o1, vr o2] [.null, (.int 1), (.int 0), (.ref o2), (.ref o1)])) (fun t k => XS.aconstNull X0.here hx rfl (hb hby d2_5) k) ?_
  obtain ⟨_, _, ⟨T2, L2, k2, n2⟩, -, X2, ⟨Lc2, hQ2, l2, y2, z2⟩, st2⟩ := X0.specialBack hx (y := nM4) rfl hown (mvT hZ (ow hw 11 rfl)) (mvT hZ (ow hw 12 rfl)) (mvT hZ (ow hw 14 rfl)) (by decide) (backOf (W := 0) (rm3_3 l Z a0 hw [] o1 o2 i1 kc2 i3 h0 n0 Z0 S0 Pm1 Pm2 Pm3 Pm4 gn_o1 ne_o1_o2 gn_o2 hy8 hy9) hZ (ow hw 14 rfl) (ow hw 6 rfl) (by decide) (by decide)) (g := (mkF m 6 #[vr o1, vr o2] [.null, (.int 1), (.int 0), (.ref o2), (.ref o1)])) rfl (by rw [hml]; rfl) (Steps.refl _) (a := o1) (argsL := [(.ref o2), (.int 0), (.int 1), .null]) (rest := []) (lenOf pd_6 rfl) rfl (omw rfl rfl) (hb hby d2_6) (fun _ _ => ⟨rfl, e0, (by decide : 0 + 1 ≤ _), (by decide : 0 + 1 ≤ _)⟩)
  dsimp only [Pt.U, Pt.locs, Pt.cells, Pt.slots] at X2 l2 y2 z2 st2 hQ2
  subst l2 y2 z2
  obtain ⟨h2, e2⟩ : ∃ z, T2.heap = z := ⟨_, rfl⟩
  rw [e2] at hQ2
  obtain ⟨b1_4_2, k1_4_2, rfl, N2q, K2q, sz_b1_4_2, q0_2, q1_2, q2_2⟩ := hQ2
  have N2 := Fr.app N0 N2q
  have lt2_o1 := Pm1.lt
  have lt2_o2 := Pm4.lt
  have ne_o1_b1_4_2 : o1 ≠ b1_4_2 := Nat.ne_of_lt (Nat.lt_of_lt_of_le lt2_o1 sz_b1_4_2)
  have ne_o2_b1_4_2 : o2 ≠ b1_4_2 := Nat.ne_of_lt (Nat.lt_of_lt_of_le lt2_o2 sz_b1_4_2)
  have gn_b1_4_2 : n0 ≤ b1_4_2 := Nat.le_trans Z0 sz_b1_4_2
  have K2 : Keep h0 h2 [o1] := (Keep.refl h0 [o1]).trans K2q (allS (Or.inl (List.mem_of_getElem? (i := 0) rfl)) all0)
  have f3 := own_staK S0 K2q (allS (own_exaP Pm1) all0)
  refine step (T2.setTop (mkF m 9 #[vr o1, vr o2] [])) (fun t k => st2.trans k) ?_
  refine fin (v := none) X2 (fun _ => rfl) ?_ (by decide) (by decide) (fun fs hr => X2.returnOut hx hret (hb hby d2_9) hr)
  show Q2_2 Z o1 o2 i1 kc2 i3 h0 n0 (none) T2.heap _
  rw [e2]
  exact ⟨b1_4_2, k1_4_2, rfl, N2, K2, sz_b1_4_2, q0_2, q1_2, q2_2⟩
theorem d8_0 : decode jdk_42_method_139_code 0 = .ok (.getstatic 38, 3) := by decide +kernel
theorem d8_3 : decode jdk_42_method_139_code 3 = .ok (.ifCond .eq 23, 3) := by decide +kernel
theorem d8_6 : decode jdk_42_method_139_code 6 = .ok (.iload_n 0, 1) := by decide +kernel
theorem d8_7 : decode jdk_42_method_139_code 7 = .ok (.invokestatic 1015, 3) := by decide +kernel
theorem d8_10 : decode jdk_42_method_139_code 10 = .ok (.ifCond .eq 16, 3) := by decide +kernel
theorem d8_13 : decode jdk_42_method_139_code 13 = .ok (.new 10, 3) := by decide +kernel
theorem d8_16 : decode jdk_42_method_139_code 16 = .ok (.dup, 1) := by decide +kernel
theorem d8_17 : decode jdk_42_method_139_code 17 = .ok (.iload_n 0, 1) := by decide +kernel
theorem d8_18 : decode jdk_42_method_139_code 18 = .ok (.invokestatic 1018, 3) := by decide +kernel
theorem d8_21 : decode jdk_42_method_139_code 21 = .ok (.iconst 0, 1) := by decide +kernel
theorem d8_22 : decode jdk_42_method_139_code 22 = .ok (.invokespecial 209, 3) := by decide +kernel
theorem d8_25 : decode jdk_42_method_139_code 25 = .ok (.areturn, 1) := by decide +kernel
theorem d8_26 : decode jdk_42_method_139_code 26 = .ok (.new 10, 3) := by decide +kernel
theorem d8_29 : decode jdk_42_method_139_code 29 = .ok (.dup, 1) := by decide +kernel
theorem d8_30 : decode jdk_42_method_139_code 30 = .ok (.iload_n 0, 1) := by decide +kernel
theorem d8_31 : decode jdk_42_method_139_code 31 = .ok (.invokestatic 1021, 3) := by decide +kernel
theorem d8_34 : decode jdk_42_method_139_code 34 = .ok (.iconst 1, 1) := by decide +kernel
theorem d8_35 : decode jdk_42_method_139_code 35 = .ok (.invokespecial 209, 3) := by decide +kernel
theorem d8_38 : decode jdk_42_method_139_code 38 = .ok (.areturn, 1) := by decide +kernel
theorem pd_11 : parseMethodDescriptor "(C)Z" = some ⟨[.char], some .boolean⟩ := by decide +kernel
theorem pd_12 : parseMethodDescriptor "(C)[B" = some ⟨[.char], some (.array .byte)⟩ := by decide +kernel
theorem pd_13 : parseMethodDescriptor "([BB)V" = some ⟨[(.array .byte), .byte], none⟩ := by decide +kernel
theorem d9_0 : decode jdk_43_method_3_code 0 = .ok (.iload_n 0, 1) := by decide +kernel
theorem d9_1 : decode jdk_43_method_3_code 1 = .ok (.sipush 255, 3) := by decide +kernel
theorem d9_4 : decode jdk_43_method_3_code 4 = .ok (.if_icmp .gt 7, 3) := by decide +kernel
theorem d9_7 : decode jdk_43_method_3_code 7 = .ok (.iconst 1, 1) := by decide +kernel
theorem d9_8 : decode jdk_43_method_3_code 8 = .ok (.goto 4, 3) := by decide +kernel
theorem d9_11 : decode jdk_43_method_3_code 11 = .ok (.iconst 0, 1) := by decide +kernel
theorem d9_12 : decode jdk_43_method_3_code 12 = .ok (.ireturn, 1) := by decide +kernel
theorem pn_3 : plainName "java/lang/StringLatin1" = true := by first | (simp [plainName, overriddenIn]; done) | decide +kernel
theorem ef_9_8 (m : MethodId) (x0 : Int32) : entryFrame m #[(.int x0)] 1 = mkF m 0 #[.val (.int x0)] [] := by first | (simp [entryFrame, mkF, argsToLocals, Value.category]; done) | rfl
def Q9_8 (Z : State) (i1 : Int32) (h0 : Heap) (n0 : Nat) (v : Option Value) (h : Heap) (L : List Loc) : Prop := v = some (.int 1) ∧ Fr n0 L ∧ h = h0
set_option maxRecDepth 65536 in
set_option maxHeartbeats 40000000 in
theorem rm9_8 (l : Launch) (Z : State) (a0 : Array Value) (hw : ∀ d ∈ tables_1, d.before a0 Z = true) (ws : List Jvm.Cond) (i1 : Int32) (h0 : Heap) (n0 : Nat) (Z0 : n0 ≤ h0.size) (hy0 : ¬ ((255 : Int32) < (nar .char i1))) (hy1 : ¬ ((255 : Int32) < i1))  :
    OwnM l Z nM6 jdk_43_method_3_code 1 (some .boolean) ws ({ frames := 0, cells := 0, slots := 0, locals := 0 } : Room) #[(.int i1)] h0 (Q9_8 Z i1 h0 n0) := by
  refine own_body (plainFor_of_name pn_3) ?_
  intro p e s m below meth c s₁ G hx hby hml hZ hown hnm hret X0 e0 step fin
  replace hown : s.vm.findClass "java/lang/StringLatin1" = some m.cls := hown
  have N0 := Fr.nil n0
  have KK : OwnK p e below c _ G := ⟨step, hx, hby⟩
  refine step (s₁.setTop (mkF m 0 #[vi i1] [])) (fun t k => castTop (ef_9_8 m i1) k) ?_
  refine oil KK X0 d9_0 i1 1 rfl rfl ?_
  refine osi KK X0 d9_1 255 4 rfl rfl ?_
  have hc4_1 : ¬ ((255 : Int32) < i1) := hy1
  refine oin KK X0 d9_4 7 rfl (flt hc4_1).2.2.1 ?_
  refine oic KK X0 d9_7 1 8 rfl rfl ?_
  refine ogo KK X0 d9_8 12 (by decide) rfl ?_
  refine fin (v := some (.int (nar .boolean (1 : Int32)))) X0 (fun h => by cases h) ?_ (by decide) (by decide) (fun fs hr => retN X0 hx (t := .boolean) hret (by simp) (hb hby d9_12) hr)
  show Q9_8 Z i1 h0 n0 (some (.int (nar .boolean (1 : Int32)))) s₁.heap _
  rw [e0]
  exact ⟨rfl, N0, rfl⟩
theorem d10_0 : decode jdk_43_method_46_code 0 = .ok (.iconst 1, 1) := by decide +kernel
theorem d10_1 : decode jdk_43_method_46_code 1 = .ok (.newarray .byte, 2) := by decide +kernel
theorem d10_3 : decode jdk_43_method_46_code 3 = .ok (.dup, 1) := by decide +kernel
theorem d10_4 : decode jdk_43_method_46_code 4 = .ok (.iconst 0, 1) := by decide +kernel
theorem d10_5 : decode jdk_43_method_46_code 5 = .ok (.iload_n 0, 1) := by decide +kernel
theorem d10_6 : decode jdk_43_method_46_code 6 = .ok (.i2b, 1) := by decide +kernel
theorem d10_7 : decode jdk_43_method_46_code 7 = .ok (.bastore, 1) := by decide +kernel
theorem d10_8 : decode jdk_43_method_46_code 8 = .ok (.areturn, 1) := by decide +kernel
def Q10_9 (Z : State) (i1 : Int32) (h0 : Heap) (n0 : Nat) (v : Option Value) (h : Heap) (L : List Loc) : Prop := ∃ (b1 : Addr) (k1 : ClassId), v = some (.ref b1) ∧ Fr n0 L ∧ Keep h0 h [] ∧ h0.size ≤ b1 ∧ Arv Z h b1 k1 .byte (1 : Int32) [(.int (nar .byte (i1.toInt8.toInt32)))] (.int 0)
set_option maxRecDepth 65536 in
set_option maxHeartbeats 40000000 in
theorem rm10_9 (l : Launch) (Z : State) (a0 : Array Value) (hw : ∀ d ∈ tables_1, d.before a0 Z = true) (ws : List Jvm.Cond) (i1 : Int32) (h0 : Heap) (n0 : Nat) (Z0 : n0 ≤ h0.size) (hy0 : ¬ ((255 : Int32) < (nar .char i1))) (hy1 : ¬ ((255 : Int32) < i1))  :
    OwnM l Z nM7 jdk_43_method_46_code 1 (some (.array .byte)) ws ({ frames := 0, cells := 1, slots := 1, locals := 0 } : Room) #[(.int i1)] h0 (Q10_9 Z i1 h0 n0) := by
  refine own_body (plainFor_of_name pn_3) ?_
  intro p e s m below meth c s₁ G hx hby hml hZ hown hnm hret X0 e0 step fin
  replace hown : s.vm.findClass "java/lang/StringLatin1" = some m.cls := hown
  have N0 := Fr.nil n0
  have KK : OwnK p e below c _ G := ⟨step, hx, hby⟩
  refine step (s₁.setTop (mkF m 0 #[vi i1] [])) (fun t k => castTop (ef_9_8 m i1) k) ?_
  refine oic KK X0 d10_0 1 1 rfl rfl ?_
  obtain ⟨T1, h1, k1, X1, e1, E1, A1, st1⟩ := newP X0 hx hZ (ow hw 23 rfl) e0 (g := (mkF m 1 #[vi i1] [(.int 1)])) rfl (hb hby d10_1) rfl (by decide) (cap := 1) (by decide) (by decide) (by decide) (by decide)
  obtain ⟨b1, g1⟩ : ∃ z, z = h0.size := ⟨_, rfl⟩
  rw [← g1] at A1 st1
  have gn_b1 : n0 ≤ b1 := Nat.le_trans Z0 (Nat.le_of_eq g1.symm)
  have sz_b1 : h0.size ≤ b1 := Nat.le_of_eq g1.symm
  have K1 : Keep h0 h1 [] := (Keep.refl h0 []).ext E1
  have V1 : Arv Z h1 b1 k1 .byte (1 : Int32) [(.int 0)] (.int 0) := (Arv.new A1 (by decide)).pad (pad_rep [] (.int 0) 1)
  refine step (T1.setTop (mkF m 3 #[vi i1] [(.ref b1)])) (fun t k => st1 t k) ?_
  refine odu KK X1 d10_3 4 rfl rfl ?_
  refine oic KK X1 d10_4 0 5 rfl rfl ?_
  refine oil KK X1 d10_5 i1 6 rfl rfl ?_
  refine step (T1.setTop (mkF m 7 #[vi i1] [(.int (i1.toInt8.toInt32)), (.int 0), (.ref b1), (.ref b1)])) (fun t k => XS.i2b X1.here hx rfl (hb hby d10_6) rfl k) ?_
  obtain ⟨cl2, Ar2, q2, S2, N2n, H2, G2⟩ := id V1
  have hin2 : ¬ ((0 : Int32) < 0 ∨ cl2.slots.size ≤ ((0 : Int32)).toNatClampNeg) := inb_of S2 ⟨by decide, by decide⟩
  obtain ⟨T2, h2, X2, e2, W2, st2⟩ := stB X1 hx hZ e1 Ar2 (j := (0 : Int32)) hin2 (g := (mkF m 7 #[vi i1] [(.int (i1.toInt8.toInt32)), (.int 0), (.ref b1), (.ref b1)])) rfl rfl (hb hby d10_7)
  have N2 := Fr.snoc X2 N0 gn_b1
  have K2 : Keep h0 h2 [] := K1.wr W2 (Or.inr sz_b1)
  have V2 : Arv Z h2 b1 k1 .byte (1 : Int32) [(.int (nar .byte (i1.toInt8.toInt32)))] (.int 0) := Arv.set Ar2 q2 S2 N2n H2 G2 (fits_nar_byte (i1.toInt8.toInt32)) W2 0 rfl (Nat.le_of_ble_eq_true rfl)
  refine step (T2.setTop (mkF m 8 #[vi i1] [(.ref b1)])) (fun t k => st2 t k) ?_
  refine fin (v := some (.ref b1)) X2 (fun h => by cases h) ?_ (by decide) (by decide) (fun fs hr => X2.areturnOut hx rfl hret rfl (hb hby d10_8) hr)
  show Q10_9 Z i1 h0 n0 (some (.ref b1)) T2.heap _
  rw [e2]
  exact ⟨b1, k1, rfl, N2, K2, sz_b1, V2⟩
theorem d11_0 : decode jdk_42_method_151_code 0 = .ok (.aload_n 0, 1) := by decide +kernel
theorem d11_1 : decode jdk_42_method_151_code 1 = .ok (.invokespecial 1, 3) := by decide +kernel
theorem d11_4 : decode jdk_42_method_151_code 4 = .ok (.aload_n 0, 1) := by decide +kernel
theorem d11_5 : decode jdk_42_method_151_code 5 = .ok (.aload_n 1, 1) := by decide +kernel
theorem d11_6 : decode jdk_42_method_151_code 6 = .ok (.putfield 9, 3) := by decide +kernel
theorem d11_9 : decode jdk_42_method_151_code 9 = .ok (.aload_n 0, 1) := by decide +kernel
theorem d11_10 : decode jdk_42_method_151_code 10 = .ok (.iload_n 2, 1) := by decide +kernel
theorem d11_11 : decode jdk_42_method_151_code 11 = .ok (.putfield 15, 3) := by decide +kernel
theorem d11_14 : decode jdk_42_method_151_code 14 = .ok (.return_, 1) := by decide +kernel
theorem ef_11_10 (m : MethodId) (x0 : Addr) (x1 : Addr) : entryFrame m #[(.ref x0), (.ref x1), (.int 0)] 3 = mkF m 0 #[.val (.ref x0), .val (.ref x1), .val (.int 0)] [] := by first | (simp [entryFrame, mkF, argsToLocals, Value.category]; done) | rfl
def Q11_10 (Z : State) (o1 : Addr) (o2 : Addr) (i1 : Int32) (h0 : Heap) (n0 : Nat) (v : Option Value) (h : Heap) (L : List Loc) : Prop := v = none ∧ Fr n0 L ∧ Keep h0 h [o1] ∧ Fld Z h o1 "java/lang/String" "coder" "B" (.int 0) ∧ Fld Z h o1 "java/lang/String" "value" "[B" (.ref o2)
set_option maxRecDepth 65536 in
set_option maxHeartbeats 40000000 in
theorem rm11_10 (l : Launch) (Z : State) (a0 : Array Value) (hw : ∀ d ∈ tables_1, d.before a0 Z = true) (ws : List Jvm.Cond) (o1 : Addr) (o2 : Addr) (i1 : Int32) (h0 : Heap) (n0 : Nat) (Z0 : n0 ≤ h0.size) (S0 : Sta Z h0 "java/lang/String" "COMPACT_STRINGS" "Z" (.int i1)) (Pm1 : Exa Z h0 o1 "java/lang/String") (Pm2 : Fld Z h0 o1 "java/lang/String" "coder" "B" (.int 0)) (Pm3 : Fld Z h0 o1 "java/lang/String" "value" "[B" .null) (gn_o1 : n0 ≤ o1) (ne_o1_o2 : o1 ≠ o2) (gn_o2 : n0 ≤ o2) (hy7 : ¬ (i1 = (0 : Int32)))  :
    OwnM l Z nM8 jdk_42_method_151_code 3 none ws ({ frames := 1, cells := 0, slots := 0, locals := 12 } : Room) #[(.ref o1), (.ref o2), (.int 0)] h0 (Q11_10 Z o1 o2 i1 h0 n0) := by
  refine own_body (plainFor_of_name pn_1) ?_
  intro p e s m below meth c s₁ G hx hby hml hZ hown hnm hret X0 e0 step fin
  replace hown : s.vm.findClass "java/lang/String" = some m.cls := hown
  have N0 := Fr.nil n0
  have KK : OwnK p e below c _ G := ⟨step, hx, hby⟩
  refine step (s₁.setTop (mkF m 0 #[vr o1, vr o2, vi 0] [])) (fun t k => castTop (ef_11_10 m o1 o2) k) ?_
  refine oal KK X0 d11_0 (.ref o1) 1 rfl rfl rfl ?_
  obtain ⟨T1, X1, e1, st1⟩ := initO X0 hx hZ hown (ow hw 15 rfl) (ow hw 16 rfl) (ow hw 17 rfl) e0 (g := (mkF m 1 #[vr o1, vr o2, vi 0] [(.ref o1)])) rfl (by rw [hml]; rfl) rfl (hb hby d11_1) (by decide) (W := 0) (omw rfl rfl) (by decide)
  refine step (T1.setTop (mkF m 4 #[vr o1, vr o2, vi 0] [])) (fun t k => st1 t k) ?_
  refine oal KK X1 d11_4 (.ref o1) 5 rfl rfl rfl ?_
  refine oal KK X1 d11_5 (.ref o2) 6 rfl rfl rfl ?_
  obtain ⟨T2, h2, X2, e2, W2, st2⟩ := putF X1 hx hZ hown (host := "") (Or.inl (ow hw 32 rfl)) Via.refl e1 Pm3 Pm1 (Or.inr ⟨(ow hw 33 rfl), rfl, hnm⟩) (ow hw 5 rfl) (ty := (.array .byte)) (by decide) rfl rfl (g := (mkF m 6 #[vr o1, vr o2, vi 0] [(.ref o2), (.ref o1)])) rfl rfl (hb hby d11_6)
  have N2 := Fr.snoc X2 N0 gn_o1
  have K2 : Keep h0 h2 [o1] := (Keep.refl h0 [o1]).wr W2 (Or.inl (List.mem_of_getElem? (i := 0) rfl))
  have F2 := Pm3.same W2
  refine step (T2.setTop (mkF m 9 #[vr o1, vr o2, vi 0] [])) (fun t k => st2 t k) ?_
  refine oal KK X2 d11_9 (.ref o1) 10 rfl rfl rfl ?_
  refine oil KK X2 d11_10 (0 : Int32) 11 rfl rfl ?_
  have f3 := (Pm1.wr W2)
  have f4 := (Pm2.other W2 (Or.inr (slot_ne (Or.inr (ow hw 31 rfl)) (Or.inr (ow hw 33 rfl)) (by decide) (t := .byte) (t' := (.array .byte)) (by decide) (by decide))))
  obtain ⟨T5, h5, X5, e5, W5, st5⟩ := putFN X2 hx hZ hown (ow hw 30 rfl) Via.refl e2 f4 f3 (Or.inr ⟨(ow hw 31 rfl), rfl, hnm⟩) (ow hw 5 rfl) (ty := .byte) (v' := (.int 0)) (by decide) rfl (fits_nar_byte (0 : Int32)) (g := (mkF m 11 #[vr o1, vr o2, vi 0] [(.int 0), (.ref o1)])) rfl rfl (hb hby d11_11)
  have N5 := Fr.snoc X5 N2 gn_o1
  have K5 : Keep h0 h5 [o1] := K2.wr W5 (Or.inl (List.mem_of_getElem? (i := 0) rfl))
  have F5 := f4.same W5
  refine step (T5.setTop (mkF m 14 #[vr o1, vr o2, vi 0] [])) (fun t k => st5 t k) ?_
  have f6 := (F2.other W5 (Or.inr (slot_ne (Or.inr (ow hw 33 rfl)) (Or.inr (ow hw 31 rfl)) (by decide) (t := (.array .byte)) (t' := .byte) (by decide) (by decide))))
  refine fin (v := none) X5 (fun _ => rfl) ?_ (by decide) (by decide) (fun fs hr => X5.returnOut hx hret (hb hby d11_14) hr)
  show Q11_10 Z o1 o2 i1 h0 n0 (none) T5.heap _
  rw [e5]
  exact ⟨rfl, N5, K5, F5, f6⟩
def Q8_7 (Z : State) (i1 : Int32) (i2 : Int32) (h0 : Heap) (n0 : Nat) (v : Option Value) (h : Heap) (L : List Loc) : Prop := ∃ (b4 : Addr) (b1_5 : Addr) (k1_5 : ClassId), v = some (.ref b4) ∧ Fr n0 L ∧ Keep h0 h [] ∧ h0.size ≤ b4 ∧ h0.size ≤ b1_5 ∧ b1_5 ≠ b4 ∧ Exa Z h b4 "java/lang/String" ∧ Fld Z h b4 "java/lang/String" "coder" "B" (.int 0) ∧ Fld Z h b4 "java/lang/String" "value" "[B" (.ref b1_5) ∧ Arv Z h b1_5 k1_5 .byte (1 : Int32) [(.int (nar .byte (i1.toInt8.toInt32)))] (.int 0)
set_option maxRecDepth 65536 in
set_option maxHeartbeats 40000000 in
theorem rm8_7 (l : Launch) (Z : State) (a0 : Array Value) (hw : ∀ d ∈ tables_1, d.before a0 Z = true) (ws : List Jvm.Cond) (i1 : Int32) (i2 : Int32) (h0 : Heap) (n0 : Nat) (Z0 : n0 ≤ h0.size) (S0 : Sta Z h0 "java/lang/String" "COMPACT_STRINGS" "Z" (.int i2)) (hy1 : ¬ ((255 : Int32) < (nar .char i1))) (hy2 : ¬ ((255 : Int32) < i1)) (hy3 : ¬ (i2 = (0 : Int32)))  :
    OwnM l Z nM9 jdk_42_method_139_code 1 (some (.object "java/lang/String")) ws ({ frames := 2, cells := 2, slots := 5, locals := 27 } : Room) #[(.int i1)] h0 (Q8_7 Z i1 i2 h0 n0) := by
  refine own_body (plainFor_of_name pn_1) ?_
  intro p e s m below meth c s₁ G hx hby hml hZ hown hnm hret X0 e0 step fin
  replace hown : s.vm.findClass "java/lang/String" = some m.cls := hown
  have N0 := Fr.nil n0
  have KK : OwnK p e below c _ G := ⟨step, hx, hby⟩
  refine step (s₁.setTop (mkF m 0 #[vi i1] [])) (fun t k => castTop (ef_9_8 m i1) k) ?_
  obtain ⟨T1, X1, e1, st1⟩ := getS2 X0 hx hZ hown (host := "") (Or.inl (ow hw 18 rfl)) Via.refl e0 S0 (g := (mkF m 0 #[vi i1] [])) rfl (hb hby d8_0)
  refine step (T1.setTop (mkF m 3 #[vi i1] [(.int i2)])) (fun t k => st1 t k) ?_
  have hc3_2 : ¬ (i2 = (0 : Int32)) := hy3
  refine step (T1.setTop (mkF m 6 #[vi i1] [])) (fun t k => XS.ifNo X1.here hx rfl (hb hby d8_3) rfl ((if0 _ _).trans (feq hc3_2).1) k) ?_
  refine oil KK X1 d8_6 i1 7 rfl rfl ?_
  obtain ⟨_, _, ⟨T3, L3, k3, n3⟩, -, X3, ⟨Lc3, hQ3, l3, y3, z3⟩, st3⟩ := Jvm.LawKit.callS X1 hx (y := nM6) hown (mvT hZ (ow hw 37 rfl)) (mvT hZ (ow hw 38 rfl)) (mvT hZ (ow hw 39 rfl)) (mvT hZ (ow hw 40 rfl)) (by decide) (backOf (W := 0) (rm9_8 l Z a0 hw [] i1 h0 n0 Z0 hy1 hy2) hZ (ow hw 40 rfl) (ow hw 39 rfl) (by decide) (by decide)) (g := (mkF m 7 #[vi i1] [(.int i1)])) rfl (by rw [hml]; rfl) (argsL := [(.int i1)]) (rest := []) (lenOf pd_11 rfl) rfl (omw rfl rfl) (hb hby d8_7) (fun _ _ => ⟨rfl, e1, (by decide : 0 + 0 ≤ _), (by decide : 0 + 0 ≤ _)⟩)
  dsimp only [Pt.U, Pt.locs, Pt.cells, Pt.slots] at X3 l3 y3 z3 st3 hQ3
  subst l3 y3 z3
  obtain ⟨rfl, N3q, e3q⟩ := hQ3
  have N3 := Fr.app N0 N3q
  refine step (T3.setTop (mkF m 10 #[vi i1] [(.int 1)])) (fun t k => st3 t k) ?_
  refine step (T3.setTop (mkF m 13 #[vi i1] [])) (fun t k => XS.ifNo X3.here hx rfl (hb hby d8_10) rfl ((if0 _ _).trans (feq (by decide : ¬ ((1 : Int32) = (0 : Int32)))).1) k) ?_
  obtain ⟨T4, h4, X4, e4, E4, A4, D4, -, st4⟩ := newO X3 hx hZ hown (ow hw 41 rfl) (ow hw 5 rfl) (ow hw 6 rfl) e3q (g := (mkF m 13 #[vi i1] [])) rfl (hb hby d8_13) (by decide) (by decide)
  obtain ⟨b4, g4⟩ : ∃ z, z = h0.size := ⟨_, rfl⟩
  rw [← g4] at A4 D4 st4
  have gn_b4 : n0 ≤ b4 := Nat.le_trans Z0 (Nat.le_of_eq g4.symm)
  have sz_b4 : h0.size ≤ b4 := Nat.le_of_eq g4.symm
  have K4 : Keep h0 h4 [] := (Keep.refl h0 []).ext E4
  have F_coder_b4 : Fld Z h4 b4 "java/lang/String" "coder" "B" (.int 0) := D4 (Or.inr (ow hw 31 rfl)) (ty := .byte) (by decide)
  have F_value_b4 : Fld Z h4 b4 "java/lang/String" "value" "[B" .null := D4 (Or.inr (ow hw 33 rfl)) (ty := (.array .byte)) (by decide)
  refine step (T4.setTop (mkF m 16 #[vi i1] [(.ref b4)])) (fun t k => st4 t k) ?_
  refine odu KK X4 d8_16 17 rfl rfl ?_
  refine oil KK X4 d8_17 i1 18 rfl rfl ?_
  obtain ⟨_, _, ⟨T5, L5, k5, n5⟩, -, X5, ⟨Lc5, hQ5, l5, y5, z5⟩, st5⟩ := Jvm.LawKit.callS X4 hx (y := nM7) hown (mvT hZ (ow hw 42 rfl)) (mvT hZ (ow hw 43 rfl)) (mvT hZ (ow hw 39 rfl)) (mvT hZ (ow hw 44 rfl)) (by decide) (backOf (W := 2) (rm10_9 l Z a0 hw [] i1 h4 n0 (Nat.le_trans Z0 K4.1) hy1 hy2) hZ (ow hw 44 rfl) (ow hw 39 rfl) (by decide) (by decide)) (g := (mkF m 18 #[vi i1] [(.int i1), (.ref b4), (.ref b4)])) rfl (by rw [hml]; rfl) (argsL := [(.int i1)]) (rest := [(.ref b4), (.ref b4)]) (lenOf pd_12 rfl) rfl (omw rfl rfl) (hb hby d8_18) (fun _ _ => ⟨rfl, e4, (by decide : 1 + 1 ≤ _), (by decide : 4 + 1 ≤ _)⟩)
  dsimp only [Pt.U, Pt.locs, Pt.cells, Pt.slots] at X5 l5 y5 z5 st5 hQ5
  subst l5 y5 z5
  obtain ⟨h5, e5⟩ : ∃ z, T5.heap = z := ⟨_, rfl⟩
  rw [e5] at hQ5
  obtain ⟨b1_5, k1_5, rfl, N5q, K5q, sz_b1_5, q0_5⟩ := hQ5
  have N5 := Fr.app N3 N5q
  have lt5_b4 := A4.lt
  have ne_b4_b1_5 : b4 ≠ b1_5 := Nat.ne_of_lt (Nat.lt_of_lt_of_le lt5_b4 sz_b1_5)
  have gn_b1_5 : n0 ≤ b1_5 := Nat.le_trans (Nat.le_trans Z0 K4.1) sz_b1_5
  have sz_b1_5' := Nat.le_trans K4.1 sz_b1_5
  replace sz_b1_5 := sz_b1_5'
  have f6 := (S0.ext E4)
  have K5 : Keep h0 h5 [] := K4.trans K5q all0
  have f7 := own_staK f6 K5q all0
  refine step (T5.setTop (mkF m 21 #[vi i1] [(.ref b1_5), (.ref b4), (.ref b4)])) (fun t k => st5 t k) ?_
  refine oic KK X5 d8_21 0 22 rfl rfl ?_
  have f8 := (A4.keep K5q)
  have f9 := (F_coder_b4.keep K5q nin0)
  have f10 := (F_value_b4.keep K5q nin0)
  obtain ⟨_, _, ⟨T11, L11, k11, n11⟩, -, X11, ⟨Lc11, hQ11, l11, y11, z11⟩, st11⟩ := X5.specialBack hx (y := nM8) rfl hown (mvT hZ (ow hw 45 rfl)) (mvT hZ (ow hw 46 rfl)) (mvT hZ (ow hw 47 rfl)) (by decide) (backOf (W := 1) (rm11_10 l Z a0 hw [] b4 b1_5 i2 h5 n0 (Nat.le_trans Z0 K5.1) f7 f8 f9 f10 gn_b4 ne_b4_b1_5 gn_b1_5 hy3) hZ (ow hw 47 rfl) (ow hw 6 rfl) (by decide) (by decide)) (g := (mkF m 22 #[vi i1] [(.int 0), (.ref b1_5), (.ref b4), (.ref b4)])) rfl (by rw [hml]; rfl) (Steps.refl _) (a := b4) (argsL := [(.ref b1_5), (.int 0)]) (rest := [(.ref b4)]) (lenOf pd_13 rfl) rfl (omw rfl rfl) (hb hby d8_22) (fun _ _ => ⟨rfl, e5, (by decide : 2 + 0 ≤ _), (by decide : 5 + 0 ≤ _)⟩)
  dsimp only [Pt.U, Pt.locs, Pt.cells, Pt.slots] at X11 l11 y11 z11 st11 hQ11
  subst l11 y11 z11
  obtain ⟨h11, e11⟩ : ∃ z, T11.heap = z := ⟨_, rfl⟩
  rw [e11] at hQ11
  obtain ⟨rfl, N11q, K11q, q0_11, q1_11⟩ := hQ11
  have N11 := Fr.app N5 N11q
  have K11 : Keep h0 h11 [] := K5.trans K11q (allS (Or.inr sz_b4) all0)
  have f12 := own_staK f7 K11q (allS (own_exaP f8) all0)
  refine step (T11.setTop (mkF m 25 #[vi i1] [(.ref b4)])) (fun t k => st11.trans k) ?_
  have f13 := (f8.keep K11q)
  have f14 := (q0_5.keep K11q (ninS (Ne.symm ne_b4_b1_5) nin0))
  refine fin (v := some (.ref b4)) X11 (fun h => by cases h) ?_ (by decide) (by decide) (fun fs hr => X11.areturnOut hx rfl hret rfl (hb hby d8_25) hr)
  show Q8_7 Z i1 i2 h0 n0 (some (.ref b4)) T11.heap _
  rw [e11]
  exact ⟨b4, b1_5, k1_5, rfl, N11, K11, sz_b4, sz_b1_5, (Ne.symm ne_b4_b1_5), f13, q0_11, q1_11, f14⟩
theorem d12_0 : decode prog_2_method_3_code 0 = .ok (.new 8, 3) := by decide +kernel
theorem d12_3 : decode prog_2_method_3_code 3 = .ok (.dup, 1) := by decide +kernel
theorem d12_4 : decode prog_2_method_3_code 4 = .ok (.ldc 17, 2) := by decide +kernel
theorem d12_6 : decode prog_2_method_3_code 6 = .ok (.aload_n 0, 1) := by decide +kernel
theorem d12_7 : decode prog_2_method_3_code 7 = .ok (.invokestatic 18, 3) := by decide +kernel
theorem d12_10 : decode prog_2_method_3_code 10 = .ok (.invokespecial 22, 3) := by decide +kernel
theorem d12_13 : decode prog_2_method_3_code 13 = .ok (.areturn, 1) := by decide +kernel
theorem pn_4 : plainName "com/example/dibs/dibs/core/Keyspace" = true := by first | (simp [plainName, overriddenIn]; done) | decide +kernel
theorem pd_14 : parseMethodDescriptor "(Ljava/lang/String;)V" = some ⟨[(.object "java/lang/String")], none⟩ := by decide +kernel
theorem d13_0 : decode prog_2_method_6_code 0 = .ok (.aload_n 1, 1) := by decide +kernel
theorem d13_1 : decode prog_2_method_6_code 1 = .ok (.ifnull 10, 3) := by decide +kernel
theorem d13_4 : decode prog_2_method_6_code 4 = .ok (.aload_n 1, 1) := by decide +kernel
theorem d13_5 : decode prog_2_method_6_code 5 = .ok (.invokevirtual 48, 3) := by decide +kernel
theorem d13_8 : decode prog_2_method_6_code 8 = .ok (.ifCond .eq 35, 3) := by decide +kernel
theorem d13_11 : decode prog_2_method_6_code 11 = .ok (.new 54, 3) := by decide +kernel
theorem d13_14 : decode prog_2_method_6_code 14 = .ok (.dup, 1) := by decide +kernel
theorem d13_15 : decode prog_2_method_6_code 15 = .ok (.new 33, 3) := by decide +kernel
theorem d13_18 : decode prog_2_method_6_code 18 = .ok (.dup, 1) := by decide +kernel
theorem d13_19 : decode prog_2_method_6_code 19 = .ok (.invokespecial 35, 3) := by decide +kernel
theorem d13_22 : decode prog_2_method_6_code 22 = .ok (.ldc 56, 2) := by decide +kernel
theorem d13_24 : decode prog_2_method_6_code 24 = .ok (.invokevirtual 36, 3) := by decide +kernel
theorem d13_27 : decode prog_2_method_6_code 27 = .ok (.aload_n 0, 1) := by decide +kernel
theorem d13_28 : decode prog_2_method_6_code 28 = .ok (.invokevirtual 36, 3) := by decide +kernel
theorem d13_31 : decode prog_2_method_6_code 31 = .ok (.ldc 58, 2) := by decide +kernel
theorem d13_33 : decode prog_2_method_6_code 33 = .ok (.invokevirtual 36, 3) := by decide +kernel
theorem d13_36 : decode prog_2_method_6_code 36 = .ok (.invokevirtual 44, 3) := by decide +kernel
theorem d13_39 : decode prog_2_method_6_code 39 = .ok (.invokespecial 60, 3) := by decide +kernel
theorem d13_42 : decode prog_2_method_6_code 42 = .ok (.athrow, 1) := by decide +kernel
theorem d13_43 : decode prog_2_method_6_code 43 = .ok (.aload_n 1, 1) := by decide +kernel
theorem d13_44 : decode prog_2_method_6_code 44 = .ok (.bipush 123, 2) := by decide +kernel
theorem d13_46 : decode prog_2_method_6_code 46 = .ok (.invokevirtual 61, 3) := by decide +kernel
theorem d13_49 : decode prog_2_method_6_code 49 = .ok (.ifCond .ge 12, 3) := by decide +kernel
theorem d13_52 : decode prog_2_method_6_code 52 = .ok (.aload_n 1, 1) := by decide +kernel
theorem d13_53 : decode prog_2_method_6_code 53 = .ok (.bipush 125, 2) := by decide +kernel
theorem d13_55 : decode prog_2_method_6_code 55 = .ok (.invokevirtual 61, 3) := by decide +kernel
theorem d13_58 : decode prog_2_method_6_code 58 = .ok (.ifCond .lt 39, 3) := by decide +kernel
theorem d13_61 : decode prog_2_method_6_code 61 = .ok (.new 54, 3) := by decide +kernel
theorem d13_64 : decode prog_2_method_6_code 64 = .ok (.dup, 1) := by decide +kernel
theorem d13_65 : decode prog_2_method_6_code 65 = .ok (.new 33, 3) := by decide +kernel
theorem d13_68 : decode prog_2_method_6_code 68 = .ok (.dup, 1) := by decide +kernel
theorem d13_69 : decode prog_2_method_6_code 69 = .ok (.invokespecial 35, 3) := by decide +kernel
theorem d13_72 : decode prog_2_method_6_code 72 = .ok (.ldc 56, 2) := by decide +kernel
theorem d13_74 : decode prog_2_method_6_code 74 = .ok (.invokevirtual 36, 3) := by decide +kernel
theorem d13_77 : decode prog_2_method_6_code 77 = .ok (.aload_n 0, 1) := by decide +kernel
theorem d13_78 : decode prog_2_method_6_code 78 = .ok (.invokevirtual 36, 3) := by decide +kernel
theorem d13_81 : decode prog_2_method_6_code 81 = .ok (.ldc 65, 2) := by decide +kernel
theorem d13_83 : decode prog_2_method_6_code 83 = .ok (.invokevirtual 36, 3) := by decide +kernel
theorem d13_86 : decode prog_2_method_6_code 86 = .ok (.aload_n 1, 1) := by decide +kernel
theorem d13_87 : decode prog_2_method_6_code 87 = .ok (.invokevirtual 36, 3) := by decide +kernel
theorem d13_90 : decode prog_2_method_6_code 90 = .ok (.invokevirtual 44, 3) := by decide +kernel
theorem d13_93 : decode prog_2_method_6_code 93 = .ok (.invokespecial 60, 3) := by decide +kernel
theorem d13_96 : decode prog_2_method_6_code 96 = .ok (.athrow, 1) := by decide +kernel
theorem d13_97 : decode prog_2_method_6_code 97 = .ok (.aload_n 1, 1) := by decide +kernel
theorem d13_98 : decode prog_2_method_6_code 98 = .ok (.areturn, 1) := by decide +kernel
theorem pd_15 : parseMethodDescriptor "()Z" = some ⟨[], some .boolean⟩ := by decide +kernel
theorem pd_16 : parseMethodDescriptor "(Ljava/lang/String;)Ljava/lang/StringBuilder;" = some ⟨[(.object "java/lang/String")], some (.object "java/lang/StringBuilder")⟩ := by decide +kernel
theorem pd_17 : parseMethodDescriptor "()Ljava/lang/String;" = some ⟨[], some (.object "java/lang/String")⟩ := by decide +kernel
theorem pd_18 : parseMethodDescriptor "(I)I" = some ⟨[.int], some .int⟩ := by decide +kernel
theorem d14_0 : decode jdk_42_method_55_code 0 = .ok (.aload_n 0, 1) := by decide +kernel
theorem d14_1 : decode jdk_42_method_55_code 1 = .ok (.getfield 9, 3) := by decide +kernel
theorem d14_4 : decode jdk_42_method_55_code 4 = .ok (.arraylength, 1) := by decide +kernel
theorem d14_5 : decode jdk_42_method_55_code 5 = .ok (.ifCond .ne 7, 3) := by decide +kernel
theorem d14_8 : decode jdk_42_method_55_code 8 = .ok (.iconst 1, 1) := by decide +kernel
theorem d14_9 : decode jdk_42_method_55_code 9 = .ok (.goto 4, 3) := by decide +kernel
theorem d14_12 : decode jdk_42_method_55_code 12 = .ok (.iconst 0, 1) := by decide +kernel
theorem d14_13 : decode jdk_42_method_55_code 13 = .ok (.ireturn, 1) := by decide +kernel
theorem ef_14_13 (m : MethodId) (x0 : Addr) : entryFrame m #[(.ref x0)] 1 = mkF m 0 #[.val (.ref x0)] [] := by first | (simp [entryFrame, mkF, argsToLocals, Value.category]; done) | rfl
def Q14_13 (Z : State) (o1 : Addr) (o2 : Addr) (kc1 : ClassId) (i2 : Int32) (h0 : Heap) (n0 : Nat) (v : Option Value) (h : Heap) (L : List Loc) : Prop := v = some (.int 0) ∧ Fr n0 L ∧ h = h0
set_option maxRecDepth 65536 in
set_option maxHeartbeats 40000000 in
theorem rm14_13 (l : Launch) (Z : State) (a0 : Array Value) (hw : ∀ d ∈ tables_1, d.before a0 Z = true) (ws : List Jvm.Cond) (o1 : Addr) (o2 : Addr) (kc1 : ClassId) (i2 : Int32) (h0 : Heap) (n0 : Nat) (Z0 : n0 ≤ h0.size) (Pm0 : Exa Z h0 o1 "java/lang/String") (Pm1 : Fld Z h0 o1 "java/lang/String" "value" "[B" (.ref o2)) (Pm2 : Arv Z h0 o2 kc1 .byte (1 : Int32) [(.int i2)] (.int 0)) (gn_o1 : n0 ≤ o1) (ne_o1_o2 : o1 ≠ o2) (gn_o2 : n0 ≤ o2) (hy6 : ¬ (i2 = (123 : Int32))) (hy7 : ¬ (i2 = (125 : Int32)))  :
    OwnM l Z nM10 jdk_42_method_55_code 1 (some .boolean) ws ({ frames := 0, cells := 0, slots := 0, locals := 0 } : Room) #[(.ref o1)] h0 (Q14_13 Z o1 o2 kc1 i2 h0 n0) := by
  refine own_body (plainFor_of_name pn_1) ?_
  intro p e s m below meth c s₁ G hx hby hml hZ hown hnm hret X0 e0 step fin
  replace hown : s.vm.findClass "java/lang/String" = some m.cls := hown
  have N0 := Fr.nil n0
  have KK : OwnK p e below c _ G := ⟨step, hx, hby⟩
  refine step (s₁.setTop (mkF m 0 #[vr o1] [])) (fun t k => castTop (ef_14_13 m o1) k) ?_
  refine oal KK X0 d14_0 (.ref o1) 1 rfl rfl rfl ?_
  obtain ⟨T1, X1, e1, st1⟩ := getF X0 hx hZ hown (host := "") (Or.inl (ow hw 32 rfl)) Via.refl e0 Pm1 (g := (mkF m 1 #[vr o1] [(.ref o1)])) rfl rfl (hb hby d14_1)
  refine step (T1.setTop (mkF m 4 #[vr o1] [(.ref o2)])) (fun t k => st1 t k) ?_
  obtain ⟨cl2, Ar2, q2, S2, N2n, H2, G2⟩ := id Pm2
  refine step (T1.setTop (mkF m 5 #[vr o1] [(.int 1)])) (fun t k => X1.arraylength hx (by rw [e1]; exact Ar2.1) (State.isArrayOf_alike hZ.alike Ar2.2.1) (g := (mkF m 4 #[vr o1] [(.ref o2)])) rfl rfl (hb hby d14_4) t (by rw [len_of S2 N2n]; exact k)) ?_
  refine step (T1.setTop (mkF m 12 #[vr o1] [])) (fun t k => XS.ifYes X1.here hx rfl (pc0 := 5) (pc' := 12) rfl (hb hby d14_5) rfl ((if0 _ _).trans (feq (by decide : ¬ ((1 : Int32) = (0 : Int32)))).2) (by decide) (by decide) k) ?_
  refine oic KK X1 d14_12 0 13 rfl rfl ?_
  refine fin (v := some (.int (nar .boolean (0 : Int32)))) X1 (fun h => by cases h) ?_ (by decide) (by decide) (fun fs hr => retN X1 hx (t := .boolean) hret (by simp) (hb hby d14_13) hr)
  show Q14_13 Z o1 o2 kc1 i2 h0 n0 (some (.int (nar .boolean (0 : Int32)))) T1.heap _
  rw [e1]
  exact ⟨rfl, N0, rfl⟩
theorem d15_0 : decode jdk_42_method_79_code 0 = .ok (.aload_n 0, 1) := by decide +kernel
theorem d15_1 : decode jdk_42_method_79_code 1 = .ok (.iload_n 1, 1) := by decide +kernel
theorem d15_2 : decode jdk_42_method_79_code 2 = .ok (.iconst 0, 1) := by decide +kernel
theorem d15_3 : decode jdk_42_method_79_code 3 = .ok (.invokevirtual 633, 3) := by decide +kernel
theorem d15_6 : decode jdk_42_method_79_code 6 = .ok (.ireturn, 1) := by decide +kernel
theorem pd_19 : parseMethodDescriptor "(II)I" = some ⟨[.int, .int], some .int⟩ := by decide +kernel
theorem d16_0 : decode jdk_42_method_80_code 0 = .ok (.aload_n 0, 1) := by decide +kernel
theorem d16_1 : decode jdk_42_method_80_code 1 = .ok (.invokevirtual 492, 3) := by decide +kernel
theorem d16_4 : decode jdk_42_method_80_code 4 = .ok (.ifCond .eq 19, 3) := by decide +kernel
theorem d16_7 : decode jdk_42_method_80_code 7 = .ok (.aload_n 0, 1) := by decide +kernel
theorem d16_8 : decode jdk_42_method_80_code 8 = .ok (.getfield 9, 3) := by decide +kernel
theorem d16_11 : decode jdk_42_method_80_code 11 = .ok (.iload_n 1, 1) := by decide +kernel
theorem d16_12 : decode jdk_42_method_80_code 12 = .ok (.iload_n 2, 1) := by decide +kernel
theorem d16_13 : decode jdk_42_method_80_code 13 = .ok (.aload_n 0, 1) := by decide +kernel
theorem d16_14 : decode jdk_42_method_80_code 14 = .ok (.invokevirtual 505, 3) := by decide +kernel
theorem d16_17 : decode jdk_42_method_80_code 17 = .ok (.invokestatic 637, 3) := by decide +kernel
theorem d16_20 : decode jdk_42_method_80_code 20 = .ok (.goto 16, 3) := by decide +kernel
theorem d16_23 : decode jdk_42_method_80_code 23 = .ok (.aload_n 0, 1) := by decide +kernel
theorem d16_24 : decode jdk_42_method_80_code 24 = .ok (.getfield 9, 3) := by decide +kernel
theorem d16_27 : decode jdk_42_method_80_code 27 = .ok (.iload_n 1, 1) := by decide +kernel
theorem d16_28 : decode jdk_42_method_80_code 28 = .ok (.iload_n 2, 1) := by decide +kernel
theorem d16_29 : decode jdk_42_method_80_code 29 = .ok (.aload_n 0, 1) := by decide +kernel
theorem d16_30 : decode jdk_42_method_80_code 30 = .ok (.invokevirtual 505, 3) := by decide +kernel
theorem d16_33 : decode jdk_42_method_80_code 33 = .ok (.invokestatic 640, 3) := by decide +kernel
theorem d16_36 : decode jdk_42_method_80_code 36 = .ok (.ireturn, 1) := by decide +kernel
theorem pd_20 : parseMethodDescriptor "()I" = some ⟨[], some .int⟩ := by decide +kernel
theorem pd_21 : parseMethodDescriptor "([BIII)I" = some ⟨[(.array .byte), .int, .int, .int], some .int⟩ := by decide +kernel
theorem d17_0 : decode jdk_42_method_154_code 0 = .ok (.getstatic 38, 3) := by decide +kernel
theorem d17_3 : decode jdk_42_method_154_code 3 = .ok (.ifCond .eq 14, 3) := by decide +kernel
theorem d17_6 : decode jdk_42_method_154_code 6 = .ok (.aload_n 0, 1) := by decide +kernel
theorem d17_7 : decode jdk_42_method_154_code 7 = .ok (.getfield 15, 3) := by decide +kernel
theorem d17_10 : decode jdk_42_method_154_code 10 = .ok (.ifCond .ne 7, 3) := by decide +kernel
theorem d17_13 : decode jdk_42_method_154_code 13 = .ok (.iconst 1, 1) := by decide +kernel
theorem d17_14 : decode jdk_42_method_154_code 14 = .ok (.goto 4, 3) := by decide +kernel
theorem d17_17 : decode jdk_42_method_154_code 17 = .ok (.iconst 0, 1) := by decide +kernel
theorem d17_18 : decode jdk_42_method_154_code 18 = .ok (.ireturn, 1) := by decide +kernel
def Q17_16 (Z : State) (o1 : Addr) (i1 : Int32) (h0 : Heap) (n0 : Nat) (v : Option Value) (h : Heap) (L : List Loc) : Prop := v = some (.int 1) ∧ Fr n0 L ∧ h = h0
set_option maxRecDepth 65536 in
set_option maxHeartbeats 40000000 in
theorem rm17_16 (l : Launch) (Z : State) (a0 : Array Value) (hw : ∀ d ∈ tables_1, d.before a0 Z = true) (ws : List Jvm.Cond) (o1 : Addr) (i1 : Int32) (h0 : Heap) (n0 : Nat) (Z0 : n0 ≤ h0.size) (S0 : Sta Z h0 "java/lang/String" "COMPACT_STRINGS" "Z" (.int i1)) (Pm1 : Exa Z h0 o1 "java/lang/String") (Pm2 : Fld Z h0 o1 "java/lang/String" "coder" "B" (.int 0)) (gn_o1 : n0 ≤ o1) (hy4 : ¬ (i1 = (0 : Int32)))  :
    OwnM l Z nM11 jdk_42_method_154_code 1 (some .boolean) ws ({ frames := 0, cells := 0, slots := 0, locals := 0 } : Room) #[(.ref o1)] h0 (Q17_16 Z o1 i1 h0 n0) := by
  refine own_body (plainFor_of_name pn_1) ?_
  intro p e s m below meth c s₁ G hx hby hml hZ hown hnm hret X0 e0 step fin
  replace hown : s.vm.findClass "java/lang/String" = some m.cls := hown
  have N0 := Fr.nil n0
  have KK : OwnK p e below c _ G := ⟨step, hx, hby⟩
  refine step (s₁.setTop (mkF m 0 #[vr o1] [])) (fun t k => castTop (ef_14_13 m o1) k) ?_
  obtain ⟨T1, X1, e1, st1⟩ := getS2 X0 hx hZ hown (host := "") (Or.inl (ow hw 18 rfl)) Via.refl e0 S0 (g := (mkF m 0 #[vr o1] [])) rfl (hb hby d17_0)
  refine step (T1.setTop (mkF m 3 #[vr o1] [(.int i1)])) (fun t k => st1 t k) ?_
  have hc3_2 : ¬ (i1 = (0 : Int32)) := hy4
  refine step (T1.setTop (mkF m 6 #[vr o1] [])) (fun t k => XS.ifNo X1.here hx rfl (hb hby d17_3) rfl ((if0 _ _).trans (feq hc3_2).1) k) ?_
  refine oal KK X1 d17_6 (.ref o1) 7 rfl rfl rfl ?_
  obtain ⟨T3, X3, e3, st3⟩ := getF X1 hx hZ hown (host := "") (Or.inl (ow hw 30 rfl)) Via.refl e1 Pm2 (g := (mkF m 7 #[vr o1] [(.ref o1)])) rfl rfl (hb hby d17_7)
  refine step (T3.setTop (mkF m 10 #[vr o1] [(.int 0)])) (fun t k => st3 t k) ?_
  refine step (T3.setTop (mkF m 13 #[vr o1] [])) (fun t k => XS.ifNo X3.here hx rfl (hb hby d17_10) rfl ((if0 _ _).trans (teq (by decide : (0 : Int32) = (0 : Int32))).2) k) ?_
  refine oic KK X3 d17_13 1 14 rfl rfl ?_
  refine ogo KK X3 d17_14 18 (by decide) rfl ?_
  refine fin (v := some (.int (nar .boolean (1 : Int32)))) X3 (fun h => by cases h) ?_ (by decide) (by decide) (fun fs hr => retN X3 hx (t := .boolean) hret (by simp) (hb hby d17_18) hr)
  show Q17_16 Z o1 i1 h0 n0 (some (.int (nar .boolean (1 : Int32)))) T3.heap _
  rw [e3]
  exact ⟨rfl, N0, rfl⟩
theorem d18_0 : decode jdk_42_method_54_code 0 = .ok (.aload_n 0, 1) := by decide +kernel
theorem d18_1 : decode jdk_42_method_54_code 1 = .ok (.getfield 9, 3) := by decide +kernel
theorem d18_4 : decode jdk_42_method_54_code 4 = .ok (.arraylength, 1) := by decide +kernel
theorem d18_5 : decode jdk_42_method_54_code 5 = .ok (.aload_n 0, 1) := by decide +kernel
theorem d18_6 : decode jdk_42_method_54_code 6 = .ok (.invokevirtual 335, 3) := by decide +kernel
theorem d18_9 : decode jdk_42_method_54_code 9 = .ok (.ishr, 1) := by decide +kernel
theorem d18_10 : decode jdk_42_method_54_code 10 = .ok (.ireturn, 1) := by decide +kernel
theorem pd_22 : parseMethodDescriptor "()B" = some ⟨[], some .byte⟩ := by decide +kernel
theorem d19_0 : decode jdk_42_method_152_code 0 = .ok (.getstatic 38, 3) := by decide +kernel
theorem d19_3 : decode jdk_42_method_152_code 3 = .ok (.ifCond .eq 10, 3) := by decide +kernel
theorem d19_6 : decode jdk_42_method_152_code 6 = .ok (.aload_n 0, 1) := by decide +kernel
theorem d19_7 : decode jdk_42_method_152_code 7 = .ok (.getfield 15, 3) := by decide +kernel
theorem d19_10 : decode jdk_42_method_152_code 10 = .ok (.goto 4, 3) := by decide +kernel
theorem d19_13 : decode jdk_42_method_152_code 13 = .ok (.iconst 1, 1) := by decide +kernel
theorem d19_14 : decode jdk_42_method_152_code 14 = .ok (.ireturn, 1) := by decide +kernel
def Q19_18 (Z : State) (o1 : Addr) (i1 : Int32) (h0 : Heap) (n0 : Nat) (v : Option Value) (h : Heap) (L : List Loc) : Prop := v = some (.int 0) ∧ Fr n0 L ∧ h = h0
set_option maxRecDepth 65536 in
set_option maxHeartbeats 40000000 in
theorem rm19_18 (l : Launch) (Z : State) (a0 : Array Value) (hw : ∀ d ∈ tables_1, d.before a0 Z = true) (ws : List Jvm.Cond) (o1 : Addr) (i1 : Int32) (h0 : Heap) (n0 : Nat) (Z0 : n0 ≤ h0.size) (S0 : Sta Z h0 "java/lang/String" "COMPACT_STRINGS" "Z" (.int i1)) (Pm1 : Exa Z h0 o1 "java/lang/String") (Pm2 : Fld Z h0 o1 "java/lang/String" "coder" "B" (.int 0)) (gn_o1 : n0 ≤ o1) (hy4 : ¬ (i1 = (0 : Int32)))  :
    OwnM l Z nM12 jdk_42_method_152_code 1 (some .byte) ws ({ frames := 0, cells := 0, slots := 0, locals := 0 } : Room) #[(.ref o1)] h0 (Q19_18 Z o1 i1 h0 n0) := by
  refine own_body (plainFor_of_name pn_1) ?_
  intro p e s m below meth c s₁ G hx hby hml hZ hown hnm hret X0 e0 step fin
  replace hown : s.vm.findClass "java/lang/String" = some m.cls := hown
  have N0 := Fr.nil n0
  have KK : OwnK p e below c _ G := ⟨step, hx, hby⟩
  refine step (s₁.setTop (mkF m 0 #[vr o1] [])) (fun t k => castTop (ef_14_13 m o1) k) ?_
  obtain ⟨T1, X1, e1, st1⟩ := getS2 X0 hx hZ hown (host := "") (Or.inl (ow hw 18 rfl)) Via.refl e0 S0 (g := (mkF m 0 #[vr o1] [])) rfl (hb hby d19_0)
  refine step (T1.setTop (mkF m 3 #[vr o1] [(.int i1)])) (fun t k => st1 t k) ?_
  have hc3_2 : ¬ (i1 = (0 : Int32)) := hy4
  refine step (T1.setTop (mkF m 6 #[vr o1] [])) (fun t k => XS.ifNo X1.here hx rfl (hb hby d19_3) rfl ((if0 _ _).trans (feq hc3_2).1) k) ?_
  refine oal KK X1 d19_6 (.ref o1) 7 rfl rfl rfl ?_
  obtain ⟨T3, X3, e3, st3⟩ := getF X1 hx hZ hown (host := "") (Or.inl (ow hw 30 rfl)) Via.refl e1 Pm2 (g := (mkF m 7 #[vr o1] [(.ref o1)])) rfl rfl (hb hby d19_7)
  refine step (T3.setTop (mkF m 10 #[vr o1] [(.int 0)])) (fun t k => st3 t k) ?_
  refine ogo KK X3 d19_10 14 (by decide) rfl ?_
  refine fin (v := some (.int (nar .byte (0 : Int32)))) X3 (fun h => by cases h) ?_ (by decide) (by decide) (fun fs hr => retN X3 hx (t := .byte) hret (by simp) (hb hby d19_14) hr)
  show Q19_18 Z o1 i1 h0 n0 (some (.int (nar .byte (0 : Int32)))) T3.heap _
  rw [e3]
  exact ⟨rfl, N0, rfl⟩
def Q18_17 (Z : State) (o1 : Addr) (i1 : Int32) (o2 : Addr) (kc2 : ClassId) (i3 : Int32) (h0 : Heap) (n0 : Nat) (v : Option Value) (h : Heap) (L : List Loc) : Prop := v = some (.int 1) ∧ Fr n0 L ∧ h = h0
set_option maxRecDepth 65536 in
set_option maxHeartbeats 40000000 in
theorem rm18_17 (l : Launch) (Z : State) (a0 : Array Value) (hw : ∀ d ∈ tables_1, d.before a0 Z = true) (ws : List Jvm.Cond) (o1 : Addr) (i1 : Int32) (o2 : Addr) (kc2 : ClassId) (i3 : Int32) (h0 : Heap) (n0 : Nat) (Z0 : n0 ≤ h0.size) (S0 : Sta Z h0 "java/lang/String" "COMPACT_STRINGS" "Z" (.int i1)) (Pm1 : Exa Z h0 o1 "java/lang/String") (Pm2 : Fld Z h0 o1 "java/lang/String" "coder" "B" (.int 0)) (Pm3 : Fld Z h0 o1 "java/lang/String" "value" "[B" (.ref o2)) (Pm4 : Arv Z h0 o2 kc2 .byte (1 : Int32) [(.int i3)] (.int 0)) (gn_o1 : n0 ≤ o1) (ne_o1_o2 : o1 ≠ o2) (gn_o2 : n0 ≤ o2) (hy8 : ¬ (i1 = (0 : Int32))) (hy9 : ¬ (i3 = (123 : Int32))) (hy10 : ¬ (i3 = (125 : Int32)))  :
    OwnM l Z nM13 jdk_42_method_54_code 1 (some .int) ws ({ frames := 1, cells := 0, slots := 0, locals := 13 } : Room) #[(.ref o1)] h0 (Q18_17 Z o1 i1 o2 kc2 i3 h0 n0) := by
  refine own_body (plainFor_of_name pn_1) ?_
  intro p e s m below meth c s₁ G hx hby hml hZ hown hnm hret X0 e0 step fin
  replace hown : s.vm.findClass "java/lang/String" = some m.cls := hown
  have N0 := Fr.nil n0
  have KK : OwnK p e below c _ G := ⟨step, hx, hby⟩
  refine step (s₁.setTop (mkF m 0 #[vr o1] [])) (fun t k => castTop (ef_14_13 m o1) k) ?_
  refine oal KK X0 d18_0 (.ref o1) 1 rfl rfl rfl ?_
  obtain ⟨T1, X1, e1, st1⟩ := getF X0 hx hZ hown (host := "") (Or.inl (ow hw 32 rfl)) Via.refl e0 Pm3 (g := (mkF m 1 #[vr o1] [(.ref o1)])) rfl rfl (hb hby d18_1)
  refine step (T1.setTop (mkF m 4 #[vr o1] [(.ref o2)])) (fun t k => st1 t k) ?_
  obtain ⟨cl2, Ar2, q2, S2, N2n, H2, G2⟩ := id Pm4
  refine step (T1.setTop (mkF m 5 #[vr o1] [(.int 1)])) (fun t k => X1.arraylength hx (by rw [e1]; exact Ar2.1) (State.isArrayOf_alike hZ.alike Ar2.2.1) (g := (mkF m 4 #[vr o1] [(.ref o2)])) rfl rfl (hb hby d18_4) t (by rw [len_of S2 N2n]; exact k)) ?_
  refine oal KK X1 d18_5 (.ref o1) 6 rfl rfl rfl ?_
  obtain ⟨cq3, kq3, q3a, q3b, q3c⟩ := isOf hZ e1 Pm1
  obtain ⟨_, _, ⟨T3, L3, k3, n3⟩, -, X3, ⟨Lc3, hQ3, l3, y3, z3⟩, st3⟩ := X1.virtualBack hx (y := nM12) (z := nM12) hown (mvT hZ (ow hw 85 rfl)) (mvT hZ (ow hw 86 rfl)) (notFace_of_selects (args := #[]) (mvT hZ (ow hw 88 rfl))) (mvT hZ (ow hw 88 rfl)) (mvT hZ (ow hw 87 rfl)) (by decide) (backOf (W := 1) (rm19_18 l Z a0 hw [] o1 i1 h0 n0 Z0 S0 Pm1 Pm2 gn_o1 hy8) hZ (ow hw 89 rfl) (ow hw 6 rfl) (by decide) (by decide)) q3a q3c (g := (mkF m 6 #[vr o1] [(.ref o1), (.int 1)])) rfl (by rw [hml]; rfl) (Steps.refl _) (argsL := []) (rest := [(.int 1)]) (lenOf pd_22 rfl) rfl (omw rfl rfl) (hb hby d18_6) (fun _ _ => ⟨rfl, e1, (by decide : 0 + 0 ≤ _), (by decide : 0 + 0 ≤ _)⟩)
  dsimp only [Pt.U, Pt.locs, Pt.cells, Pt.slots] at X3 l3 y3 z3 st3 hQ3
  subst l3 y3 z3
  obtain ⟨rfl, N3q, e3q⟩ := hQ3
  have N3 := Fr.app N0 N3q
  refine step (T3.setTop (mkF m 9 #[vr o1] [(.int 0), (.int 1)])) (fun t k => st3.trans k) ?_
  refine step (T3.setTop (mkF m 10 #[vr o1] [(.int 1)])) (fun t k => XS.ishr X3.here hx rfl (hb hby d18_9) rfl k) ?_
  refine fin (v := some (.int 1)) X3 (fun h => by cases h) ?_ (by decide) (by decide) (fun fs hr => retI X3 hx hret (hb hby d18_10) hr)
  show Q18_17 Z o1 i1 o2 kc2 i3 h0 n0 (some (.int 1)) T3.heap _
  rw [e3q]
  exact ⟨rfl, N3, rfl⟩
theorem d20_0 : decode jdk_43_method_22_code 0 = .ok (.iload_n 1, 1) := by decide +kernel
theorem d20_1 : decode jdk_43_method_22_code 1 = .ok (.invokestatic 88, 3) := by decide +kernel
theorem d20_4 : decode jdk_43_method_22_code 4 = .ok (.ifCond .ne 5, 3) := by decide +kernel
theorem d20_7 : decode jdk_43_method_22_code 7 = .ok (.iconst (-1), 1) := by decide +kernel
theorem d20_8 : decode jdk_43_method_22_code 8 = .ok (.ireturn, 1) := by decide +kernel
theorem d20_9 : decode jdk_43_method_22_code 9 = .ok (.iload_n 2, 1) := by decide +kernel
theorem d20_10 : decode jdk_43_method_22_code 10 = .ok (.iconst 0, 1) := by decide +kernel
theorem d20_11 : decode jdk_43_method_22_code 11 = .ok (.invokestatic 92, 3) := by decide +kernel
theorem d20_14 : decode jdk_43_method_22_code 14 = .ok (.istore_n 2, 1) := by decide +kernel
theorem d20_15 : decode jdk_43_method_22_code 15 = .ok (.iload_n 3, 1) := by decide +kernel
theorem d20_16 : decode jdk_43_method_22_code 16 = .ok (.aload_n 0, 1) := by decide +kernel
theorem d20_17 : decode jdk_43_method_22_code 17 = .ok (.arraylength, 1) := by decide +kernel
theorem d20_18 : decode jdk_43_method_22_code 18 = .ok (.invokestatic 38, 3) := by decide +kernel
theorem d20_21 : decode jdk_43_method_22_code 21 = .ok (.istore_n 3, 1) := by decide +kernel
theorem d20_22 : decode jdk_43_method_22_code 22 = .ok (.iload_n 2, 1) := by decide +kernel
theorem d20_23 : decode jdk_43_method_22_code 23 = .ok (.iload_n 3, 1) := by decide +kernel
theorem d20_24 : decode jdk_43_method_22_code 24 = .ok (.if_icmp .lt 5, 3) := by decide +kernel
theorem d20_27 : decode jdk_43_method_22_code 27 = .ok (.iconst (-1), 1) := by decide +kernel
theorem d20_28 : decode jdk_43_method_22_code 28 = .ok (.ireturn, 1) := by decide +kernel
theorem d20_29 : decode jdk_43_method_22_code 29 = .ok (.aload_n 0, 1) := by decide +kernel
theorem d20_30 : decode jdk_43_method_22_code 30 = .ok (.iload_n 1, 1) := by decide +kernel
theorem d20_31 : decode jdk_43_method_22_code 31 = .ok (.iload_n 2, 1) := by decide +kernel
theorem d20_32 : decode jdk_43_method_22_code 32 = .ok (.iload_n 3, 1) := by decide +kernel
theorem d20_33 : decode jdk_43_method_22_code 33 = .ok (.invokestatic 95, 3) := by decide +kernel
theorem d20_36 : decode jdk_43_method_22_code 36 = .ok (.ireturn, 1) := by decide +kernel
theorem pd_23 : parseMethodDescriptor "(I)Z" = some ⟨[.int], some .boolean⟩ := by decide +kernel
theorem d21_0 : decode jdk_43_method_4_code 0 = .ok (.iload_n 0, 1) := by decide +kernel
theorem d21_1 : decode jdk_43_method_4_code 1 = .ok (.ifCond .lt 14, 3) := by decide +kernel
theorem d21_4 : decode jdk_43_method_4_code 4 = .ok (.iload_n 0, 1) := by decide +kernel
theorem d21_5 : decode jdk_43_method_4_code 5 = .ok (.sipush 255, 3) := by decide +kernel
theorem d21_8 : decode jdk_43_method_4_code 8 = .ok (.if_icmp .gt 7, 3) := by decide +kernel
theorem d21_11 : decode jdk_43_method_4_code 11 = .ok (.iconst 1, 1) := by decide +kernel
theorem d21_12 : decode jdk_43_method_4_code 12 = .ok (.goto 4, 3) := by decide +kernel
theorem d21_15 : decode jdk_43_method_4_code 15 = .ok (.iconst 0, 1) := by decide +kernel
theorem d21_16 : decode jdk_43_method_4_code 16 = .ok (.ireturn, 1) := by decide +kernel
theorem ef_21_20 (m : MethodId)  : entryFrame m #[(.int 123)] 1 = mkF m 0 #[.val (.int 123)] [] := by first | (simp [entryFrame, mkF, argsToLocals, Value.category]; done) | rfl
def Q21_20 (Z : State)  (h0 : Heap) (n0 : Nat) (v : Option Value) (h : Heap) (L : List Loc) : Prop := v = some (.int 1) ∧ Fr n0 L ∧ h = h0
set_option maxRecDepth 65536 in
set_option maxHeartbeats 40000000 in
theorem rm21_20 (l : Launch) (Z : State) (a0 : Array Value) (hw : ∀ d ∈ tables_1, d.before a0 Z = true) (ws : List Jvm.Cond)  (h0 : Heap) (n0 : Nat) (Z0 : n0 ≤ h0.size)  :
    OwnM l Z nM14 jdk_43_method_4_code 1 (some .boolean) ws ({ frames := 0, cells := 0, slots := 0, locals := 0 } : Room) #[(.int 123)] h0 (Q21_20 Z  h0 n0) := by
  refine own_body (plainFor_of_name pn_3) ?_
  intro p e s m below meth c s₁ G hx hby hml hZ hown hnm hret X0 e0 step fin
  replace hown : s.vm.findClass "java/lang/StringLatin1" = some m.cls := hown
  have N0 := Fr.nil n0
  have KK : OwnK p e below c _ G := ⟨step, hx, hby⟩
  refine step (s₁.setTop (mkF m 0 #[vi 123] [])) (fun t k => castTop (ef_21_20 m ) k) ?_
  refine oil KK X0 d21_0 (123 : Int32) 1 rfl rfl ?_
  refine step (s₁.setTop (mkF m 4 #[vi 123] [])) (fun t k => XS.ifNo X0.here hx rfl (hb hby d21_1) rfl ((if0 _ _).trans (flt (by decide : ¬ ((123 : Int32) < (0 : Int32)))).1) k) ?_
  refine oil KK X0 d21_4 (123 : Int32) 5 rfl rfl ?_
  refine osi KK X0 d21_5 255 8 rfl rfl ?_
  refine oin KK X0 d21_8 11 rfl (flt (by decide : ¬ ((255 : Int32) < (123 : Int32)))).2.2.1 ?_
  refine oic KK X0 d21_11 1 12 rfl rfl ?_
  refine ogo KK X0 d21_12 16 (by decide) rfl ?_
  refine fin (v := some (.int (nar .boolean (1 : Int32)))) X0 (fun h => by cases h) ?_ (by decide) (by decide) (fun fs hr => retN X0 hx (t := .boolean) hret (by simp) (hb hby d21_16) hr)
  show Q21_20 Z  h0 n0 (some (.int (nar .boolean (1 : Int32)))) s₁.heap _
  rw [e0]
  exact ⟨rfl, N0, rfl⟩
theorem d22_0 : decode jdk_29_method_65_code 0 = .ok (.iload_n 0, 1) := by decide +kernel
theorem d22_1 : decode jdk_29_method_65_code 1 = .ok (.iload_n 1, 1) := by decide +kernel
theorem d22_2 : decode jdk_29_method_65_code 2 = .ok (.if_icmp .lt 7, 3) := by decide +kernel
theorem d22_5 : decode jdk_29_method_65_code 5 = .ok (.iload_n 0, 1) := by decide +kernel
theorem d22_6 : decode jdk_29_method_65_code 6 = .ok (.goto 4, 3) := by decide +kernel
theorem d22_9 : decode jdk_29_method_65_code 9 = .ok (.iload_n 1, 1) := by decide +kernel
theorem d22_10 : decode jdk_29_method_65_code 10 = .ok (.ireturn, 1) := by decide +kernel
theorem ef_22_21 (m : MethodId)  : entryFrame m #[(.int 0), (.int 0)] 2 = mkF m 0 #[.val (.int 0), .val (.int 0)] [] := by first | (simp [entryFrame, mkF, argsToLocals, Value.category]; done) | rfl
def Q22_21 (Z : State)  (h0 : Heap) (n0 : Nat) (v : Option Value) (h : Heap) (L : List Loc) : Prop := v = some (.int 0) ∧ Fr n0 L ∧ h = h0
set_option maxRecDepth 65536 in
set_option maxHeartbeats 40000000 in
theorem rm22_21 (l : Launch) (Z : State) (a0 : Array Value) (hw : ∀ d ∈ tables_1, d.before a0 Z = true) (ws : List Jvm.Cond)  (h0 : Heap) (n0 : Nat) (Z0 : n0 ≤ h0.size)  :
    OwnM l Z nM15 jdk_29_method_65_code 2 (some .int) ws ({ frames := 0, cells := 0, slots := 0, locals := 0 } : Room) #[(.int 0), (.int 0)] h0 (Q22_21 Z  h0 n0) := by
  refine own_body (Jvm.Free.JP.mathPlain rfl (by decide +kernel)) ?_
  intro p e s m below meth c s₁ G hx hby hml hZ hown hnm hret X0 e0 step fin
  replace hown : s.vm.findClass "java/lang/Math" = some m.cls := hown
  have N0 := Fr.nil n0
  have KK : OwnK p e below c _ G := ⟨step, hx, hby⟩
  refine step (s₁.setTop (mkF m 0 #[vi 0, vi 0] [])) (fun t k => castTop (ef_22_21 m ) k) ?_
  refine oil KK X0 d22_0 (0 : Int32) 1 rfl rfl ?_
  refine oil KK X0 d22_1 (0 : Int32) 2 rfl rfl ?_
  refine oin KK X0 d22_2 5 rfl (flt (by decide : ¬ ((0 : Int32) < (0 : Int32)))).1 ?_
  refine oil KK X0 d22_5 (0 : Int32) 6 rfl rfl ?_
  refine ogo KK X0 d22_6 10 (by decide) rfl ?_
  refine fin (v := some (.int 0)) X0 (fun h => by cases h) ?_ (by decide) (by decide) (fun fs hr => retI X0 hx hret (hb hby d22_10) hr)
  show Q22_21 Z  h0 n0 (some (.int 0)) s₁.heap _
  rw [e0]
  exact ⟨rfl, N0, rfl⟩
theorem d23_0 : decode jdk_29_method_69_code 0 = .ok (.iload_n 0, 1) := by decide +kernel
theorem d23_1 : decode jdk_29_method_69_code 1 = .ok (.iload_n 1, 1) := by decide +kernel
theorem d23_2 : decode jdk_29_method_69_code 2 = .ok (.if_icmp .gt 7, 3) := by decide +kernel
theorem d23_5 : decode jdk_29_method_69_code 5 = .ok (.iload_n 0, 1) := by decide +kernel
theorem d23_6 : decode jdk_29_method_69_code 6 = .ok (.goto 4, 3) := by decide +kernel
theorem d23_9 : decode jdk_29_method_69_code 9 = .ok (.iload_n 1, 1) := by decide +kernel
theorem d23_10 : decode jdk_29_method_69_code 10 = .ok (.ireturn, 1) := by decide +kernel
theorem ef_23_22 (m : MethodId)  : entryFrame m #[(.int 1), (.int 1)] 2 = mkF m 0 #[.val (.int 1), .val (.int 1)] [] := by first | (simp [entryFrame, mkF, argsToLocals, Value.category]; done) | rfl
def Q23_22 (Z : State)  (h0 : Heap) (n0 : Nat) (v : Option Value) (h : Heap) (L : List Loc) : Prop := v = some (.int 1) ∧ Fr n0 L ∧ h = h0
set_option maxRecDepth 65536 in
set_option maxHeartbeats 40000000 in
theorem rm23_22 (l : Launch) (Z : State) (a0 : Array Value) (hw : ∀ d ∈ tables_1, d.before a0 Z = true) (ws : List Jvm.Cond)  (h0 : Heap) (n0 : Nat) (Z0 : n0 ≤ h0.size)  :
    OwnM l Z nM16 jdk_29_method_69_code 2 (some .int) ws ({ frames := 0, cells := 0, slots := 0, locals := 0 } : Room) #[(.int 1), (.int 1)] h0 (Q23_22 Z  h0 n0) := by
  refine own_body (Jvm.Free.JP.mathPlain rfl (by decide +kernel)) ?_
  intro p e s m below meth c s₁ G hx hby hml hZ hown hnm hret X0 e0 step fin
  replace hown : s.vm.findClass "java/lang/Math" = some m.cls := hown
  have N0 := Fr.nil n0
  have KK : OwnK p e below c _ G := ⟨step, hx, hby⟩
  refine step (s₁.setTop (mkF m 0 #[vi 1, vi 1] [])) (fun t k => castTop (ef_23_22 m ) k) ?_
  refine oil KK X0 d23_0 (1 : Int32) 1 rfl rfl ?_
  refine oil KK X0 d23_1 (1 : Int32) 2 rfl rfl ?_
  refine oin KK X0 d23_2 5 rfl (flt (by decide : ¬ ((1 : Int32) < (1 : Int32)))).2.2.1 ?_
  refine oil KK X0 d23_5 (1 : Int32) 6 rfl rfl ?_
  refine ogo KK X0 d23_6 10 (by decide) rfl ?_
  refine fin (v := some (.int 1)) X0 (fun h => by cases h) ?_ (by decide) (by decide) (fun fs hr => retI X0 hx hret (hb hby d23_10) hr)
  show Q23_22 Z  h0 n0 (some (.int 1)) s₁.heap _
  rw [e0]
  exact ⟨rfl, N0, rfl⟩
theorem d24_0 : decode jdk_43_method_23_code 0 = .ok (.iload_n 1, 1) := by decide +kernel
theorem d24_1 : decode jdk_43_method_23_code 1 = .ok (.i2b, 1) := by decide +kernel
theorem d24_2 : decode jdk_43_method_23_code 2 = .ok (.istore 4, 2) := by decide +kernel
theorem d24_4 : decode jdk_43_method_23_code 4 = .ok (.iload_n 2, 1) := by decide +kernel
theorem d24_5 : decode jdk_43_method_23_code 5 = .ok (.istore 5, 2) := by decide +kernel
theorem d24_7 : decode jdk_43_method_23_code 7 = .ok (.iload 5, 2) := by decide +kernel
theorem d24_9 : decode jdk_43_method_23_code 9 = .ok (.iload_n 3, 1) := by decide +kernel
theorem d24_10 : decode jdk_43_method_23_code 10 = .ok (.if_icmp .ge 21, 3) := by decide +kernel
theorem d24_13 : decode jdk_43_method_23_code 13 = .ok (.aload_n 0, 1) := by decide +kernel
theorem d24_14 : decode jdk_43_method_23_code 14 = .ok (.iload 5, 2) := by decide +kernel
theorem d24_16 : decode jdk_43_method_23_code 16 = .ok (.baload, 1) := by decide +kernel
theorem d24_17 : decode jdk_43_method_23_code 17 = .ok (.iload 4, 2) := by decide +kernel
theorem d24_19 : decode jdk_43_method_23_code 19 = .ok (.if_icmp .ne 6, 3) := by decide +kernel
theorem d24_22 : decode jdk_43_method_23_code 22 = .ok (.iload 5, 2) := by decide +kernel
theorem d24_24 : decode jdk_43_method_23_code 24 = .ok (.ireturn, 1) := by decide +kernel
theorem d24_25 : decode jdk_43_method_23_code 25 = .ok (.iinc 5 1, 3) := by decide +kernel
theorem d24_28 : decode jdk_43_method_23_code 28 = .ok (.goto (-21), 3) := by decide +kernel
theorem d24_31 : decode jdk_43_method_23_code 31 = .ok (.iconst (-1), 1) := by decide +kernel
theorem d24_32 : decode jdk_43_method_23_code 32 = .ok (.ireturn, 1) := by decide +kernel
theorem ef_24_23 (m : MethodId) (x0 : Addr) : entryFrame m #[(.ref x0), (.int 123), (.int 0), (.int 1)] 6 = mkF m 0 #[.val (.ref x0), .val (.int 123), .val (.int 0), .val (.int 1), .unset, .unset] [] := by first | (simp [entryFrame, mkF, argsToLocals, Value.category]; done) | rfl
def Q24_23 (Z : State) (o1 : Addr) (kc1 : ClassId) (i2 : Int32) (h0 : Heap) (n0 : Nat) (v : Option Value) (h : Heap) (L : List Loc) : Prop := v = some (.int (-1)) ∧ Fr n0 L ∧ h = h0
set_option maxRecDepth 65536 in
set_option maxHeartbeats 40000000 in
theorem rm24_23 (l : Launch) (Z : State) (a0 : Array Value) (hw : ∀ d ∈ tables_1, d.before a0 Z = true) (ws : List Jvm.Cond) (o1 : Addr) (kc1 : ClassId) (i2 : Int32) (h0 : Heap) (n0 : Nat) (Z0 : n0 ≤ h0.size) (Pm0 : Arv Z h0 o1 kc1 .byte (1 : Int32) [(.int i2)] (.int 0)) (gn_o1 : n0 ≤ o1) (hy2 : ¬ (i2 = (123 : Int32))) (hy3 : ¬ (i2 = (125 : Int32)))  :
    OwnM l Z nM17 jdk_43_method_23_code 6 (some .int) ws ({ frames := 0, cells := 0, slots := 0, locals := 0 } : Room) #[(.ref o1), (.int 123), (.int 0), (.int 1)] h0 (Q24_23 Z o1 kc1 i2 h0 n0) := by
  refine own_body (plainFor_of_name pn_3) ?_
  intro p e s m below meth c s₁ G hx hby hml hZ hown hnm hret X0 e0 step fin
  replace hown : s.vm.findClass "java/lang/StringLatin1" = some m.cls := hown
  have N0 := Fr.nil n0
  have KK : OwnK p e below c _ G := ⟨step, hx, hby⟩
  refine step (s₁.setTop (mkF m 0 #[vr o1, vi 123, vi 0, vi 1, .unset, .unset] [])) (fun t k => castTop (ef_24_23 m o1) k) ?_
  refine oil KK X0 d24_0 (123 : Int32) 1 rfl rfl ?_
  refine step (s₁.setTop (mkF m 2 #[vr o1, vi 123, vi 0, vi 1, .unset, .unset] [(.int 123)])) (fun t k => XS.i2b X0.here hx rfl (hb hby d24_1) rfl k) ?_
  refine oiS KK X0 d24_2 #[vr o1, vi 123, vi 0, vi 1, vi 123, .unset] 4 rfl rfl ?_
  refine oil KK X0 d24_4 (0 : Int32) 5 rfl rfl ?_
  refine oiS KK X0 d24_5 #[vr o1, vi 123, vi 0, vi 1, vi 123, vi 0] 7 rfl rfl ?_
  refine oiL KK X0 d24_7 (0 : Int32) 9 rfl rfl ?_
  refine oil KK X0 d24_9 (1 : Int32) 10 rfl rfl ?_
  refine oin KK X0 d24_10 13 rfl (tlt (by decide : (0 : Int32) < (1 : Int32))).2.1 ?_
  refine oal KK X0 d24_13 (.ref o1) 14 rfl rfl rfl ?_
  refine oiL KK X0 d24_14 (0 : Int32) 16 rfl rfl ?_
  obtain ⟨cl1, Ar1, q1, S1, N1n, H1, G1⟩ := id Pm0
  have hin1 : ¬ ((0 : Int32) < 0 ∨ cl1.slots.size ≤ ((0 : Int32)).toNatClampNeg) := inb_of S1 ⟨by decide, by decide⟩
  have hat1 : cl1.slots[((0 : Int32)).toNatClampNeg]? = some (.int i2) := H1.at hin1 rfl
  refine step (s₁.setTop (mkF m 17 #[vr o1, vi 123, vi 0, vi 1, vi 123, vi 0] [(.int i2)])) (fun t k => X0.baloadBytes hx (j := (0 : Int32)) (v := (.int i2)) (by rw [e0]; exact Ar1.1) (State.isArrayOf_alike hZ.alike Ar1.2.1) Ar1.2.2 hin1 hat1 (g := (mkF m 16 #[vr o1, vi 123, vi 0, vi 1, vi 123, vi 0] [(.int 0), (.ref o1)])) rfl rfl (hb hby d24_16) t k) ?_
  refine oiL KK X0 d24_17 (123 : Int32) 19 rfl rfl ?_
  have hc19_2 : ¬ (i2 = (123 : Int32)) := hy2
  refine oiy KK X0 d24_19 25 (feq hc19_2).2 (by decide) rfl ?_
  refine oii KK X0 d24_25 #[vr o1, vi 123, vi 0, vi 1, vi 123, vi 1] 28 rfl rfl rfl ?_
  refine ogo KK X0 d24_28 7 (by decide) rfl ?_
  refine oiL KK X0 d24_7 (1 : Int32) 9 rfl rfl ?_
  refine oil KK X0 d24_9 (1 : Int32) 10 rfl rfl ?_
  refine oiy KK X0 d24_10 31 (flt (by decide : ¬ ((1 : Int32) < (1 : Int32)))).2.1 (by decide) rfl ?_
  refine oic KK X0 d24_31 (-1) 32 rfl rfl ?_
  refine fin (v := some (.int (-1))) X0 (fun h => by cases h) ?_ (by decide) (by decide) (fun fs hr => retI X0 hx hret (hb hby d24_32) hr)
  show Q24_23 Z o1 kc1 i2 h0 n0 (some (.int (-1))) s₁.heap _
  rw [e0]
  exact ⟨rfl, N0, rfl⟩
theorem ef_20_19 (m : MethodId) (x0 : Addr) : entryFrame m #[(.ref x0), (.int 123), (.int 0), (.int 1)] 4 = mkF m 0 #[.val (.ref x0), .val (.int 123), .val (.int 0), .val (.int 1)] [] := by first | (simp [entryFrame, mkF, argsToLocals, Value.category]; done) | rfl
def Q20_19 (Z : State) (o1 : Addr) (kc1 : ClassId) (i2 : Int32) (h0 : Heap) (n0 : Nat) (v : Option Value) (h : Heap) (L : List Loc) : Prop := v = some (.int (-1)) ∧ Fr n0 L ∧ h = h0
set_option maxRecDepth 65536 in
set_option maxHeartbeats 40000000 in
theorem rm20_19 (l : Launch) (Z : State) (a0 : Array Value) (hw : ∀ d ∈ tables_1, d.before a0 Z = true) (ws : List Jvm.Cond) (o1 : Addr) (kc1 : ClassId) (i2 : Int32) (h0 : Heap) (n0 : Nat) (Z0 : n0 ≤ h0.size) (Pm0 : Arv Z h0 o1 kc1 .byte (1 : Int32) [(.int i2)] (.int 0)) (gn_o1 : n0 ≤ o1) (hy2 : ¬ (i2 = (123 : Int32))) (hy3 : ¬ (i2 = (125 : Int32)))  :
    OwnM l Z nM18 jdk_43_method_22_code 4 (some .int) ws ({ frames := 1, cells := 0, slots := 0, locals := 17 } : Room) #[(.ref o1), (.int 123), (.int 0), (.int 1)] h0 (Q20_19 Z o1 kc1 i2 h0 n0) := by
  refine own_body (plainFor_of_name pn_3) ?_
  intro p e s m below meth c s₁ G hx hby hml hZ hown hnm hret X0 e0 step fin
  replace hown : s.vm.findClass "java/lang/StringLatin1" = some m.cls := hown
  have N0 := Fr.nil n0
  have KK : OwnK p e below c _ G := ⟨step, hx, hby⟩
  refine step (s₁.setTop (mkF m 0 #[vr o1, vi 123, vi 0, vi 1] [])) (fun t k => castTop (ef_20_19 m o1) k) ?_
  refine oil KK X0 d20_0 (123 : Int32) 1 rfl rfl ?_
  obtain ⟨_, _, ⟨T1, L1, k1, n1⟩, -, X1, ⟨Lc1, hQ1, l1, y1, z1⟩, st1⟩ := Jvm.LawKit.callS X0 hx (y := nM14) hown (mvT hZ (ow hw 93 rfl)) (mvT hZ (ow hw 94 rfl)) (mvT hZ (ow hw 39 rfl)) (mvT hZ (ow hw 95 rfl)) (by decide) (backOf (W := 0) (rm21_20 l Z a0 hw []  h0 n0 Z0 ) hZ (ow hw 95 rfl) (ow hw 39 rfl) (by decide) (by decide)) (g := (mkF m 1 #[vr o1, vi 123, vi 0, vi 1] [(.int 123)])) rfl (by rw [hml]; rfl) (argsL := [(.int 123)]) (rest := []) (lenOf pd_23 rfl) rfl (omw rfl rfl) (hb hby d20_1) (fun _ _ => ⟨rfl, e0, (by decide : 0 + 0 ≤ _), (by decide : 0 + 0 ≤ _)⟩)
  dsimp only [Pt.U, Pt.locs, Pt.cells, Pt.slots] at X1 l1 y1 z1 st1 hQ1
  subst l1 y1 z1
  obtain ⟨rfl, N1q, e1q⟩ := hQ1
  have N1 := Fr.app N0 N1q
  refine step (T1.setTop (mkF m 4 #[vr o1, vi 123, vi 0, vi 1] [(.int 1)])) (fun t k => st1 t k) ?_
  refine step (T1.setTop (mkF m 9 #[vr o1, vi 123, vi 0, vi 1] [])) (fun t k => XS.ifYes X1.here hx rfl (pc0 := 4) (pc' := 9) rfl (hb hby d20_4) rfl ((if0 _ _).trans (feq (by decide : ¬ ((1 : Int32) = (0 : Int32)))).2) (by decide) (by decide) k) ?_
  refine oil KK X1 d20_9 (0 : Int32) 10 rfl rfl ?_
  refine oic KK X1 d20_10 0 11 rfl rfl ?_
  obtain ⟨_, _, ⟨T2, L2, k2, n2⟩, -, X2, ⟨Lc2, hQ2, l2, y2, z2⟩, st2⟩ := Jvm.LawKit.callS X1 hx (y := nM15) hown (mvT hZ (ow hw 96 rfl)) (mvT hZ (ow hw 97 rfl)) (mvT hZ (ow hw 98 rfl)) (mvT hZ (ow hw 99 rfl)) (by decide) (backOf (W := 0) (rm22_21 l Z a0 hw []  h0 n0 Z0 ) hZ (ow hw 99 rfl) (ow hw 98 rfl) (by decide) (by decide)) (g := (mkF m 11 #[vr o1, vi 123, vi 0, vi 1] [(.int 0), (.int 0)])) rfl (by rw [hml]; rfl) (argsL := [(.int 0), (.int 0)]) (rest := []) (lenOf pd_19 rfl) rfl (omw rfl rfl) (hb hby d20_11) (fun _ _ => ⟨rfl, e1q, (by decide : 0 + 0 ≤ _), (by decide : 0 + 0 ≤ _)⟩)
  dsimp only [Pt.U, Pt.locs, Pt.cells, Pt.slots] at X2 l2 y2 z2 st2 hQ2
  subst l2 y2 z2
  obtain ⟨rfl, N2q, e2q⟩ := hQ2
  have N2 := Fr.app N1 N2q
  refine step (T2.setTop (mkF m 14 #[vr o1, vi 123, vi 0, vi 1] [(.int 0)])) (fun t k => st2 t k) ?_
  refine ois KK X2 d20_14 #[vr o1, vi 123, vi 0, vi 1] 15 rfl rfl ?_
  refine oil KK X2 d20_15 (1 : Int32) 16 rfl rfl ?_
  refine oal KK X2 d20_16 (.ref o1) 17 rfl rfl rfl ?_
  obtain ⟨cl3, Ar3, q3, S3, N3n, H3, G3⟩ := id Pm0
  refine step (T2.setTop (mkF m 18 #[vr o1, vi 123, vi 0, vi 1] [(.int 1), (.int 1)])) (fun t k => X2.arraylength hx (by rw [e2q]; exact Ar3.1) (State.isArrayOf_alike hZ.alike Ar3.2.1) (g := (mkF m 17 #[vr o1, vi 123, vi 0, vi 1] [(.ref o1), (.int 1)])) rfl rfl (hb hby d20_17) t (by rw [len_of S3 N3n]; exact k)) ?_
  obtain ⟨_, _, ⟨T4, L4, k4, n4⟩, -, X4, ⟨Lc4, hQ4, l4, y4, z4⟩, st4⟩ := Jvm.LawKit.callS X2 hx (y := nM16) hown (mvT hZ (ow hw 100 rfl)) (mvT hZ (ow hw 101 rfl)) (mvT hZ (ow hw 98 rfl)) (mvT hZ (ow hw 102 rfl)) (by decide) (backOf (W := 0) (rm23_22 l Z a0 hw []  h0 n0 Z0 ) hZ (ow hw 102 rfl) (ow hw 98 rfl) (by decide) (by decide)) (g := (mkF m 18 #[vr o1, vi 123, vi 0, vi 1] [(.int 1), (.int 1)])) rfl (by rw [hml]; rfl) (argsL := [(.int 1), (.int 1)]) (rest := []) (lenOf pd_19 rfl) rfl (omw rfl rfl) (hb hby d20_18) (fun _ _ => ⟨rfl, e2q, (by decide : 0 + 0 ≤ _), (by decide : 0 + 0 ≤ _)⟩)
  dsimp only [Pt.U, Pt.locs, Pt.cells, Pt.slots] at X4 l4 y4 z4 st4 hQ4
  subst l4 y4 z4
  obtain ⟨rfl, N4q, e4q⟩ := hQ4
  have N4 := Fr.app N2 N4q
  refine step (T4.setTop (mkF m 21 #[vr o1, vi 123, vi 0, vi 1] [(.int 1)])) (fun t k => st4 t k) ?_
  refine ois KK X4 d20_21 #[vr o1, vi 123, vi 0, vi 1] 22 rfl rfl ?_
  refine oil KK X4 d20_22 (0 : Int32) 23 rfl rfl ?_
  refine oil KK X4 d20_23 (1 : Int32) 24 rfl rfl ?_
  refine oiy KK X4 d20_24 29 (tlt (by decide : (0 : Int32) < (1 : Int32))).1 (by decide) rfl ?_
  refine oal KK X4 d20_29 (.ref o1) 30 rfl rfl rfl ?_
  refine oil KK X4 d20_30 (123 : Int32) 31 rfl rfl ?_
  refine oil KK X4 d20_31 (0 : Int32) 32 rfl rfl ?_
  refine oil KK X4 d20_32 (1 : Int32) 33 rfl rfl ?_
  obtain ⟨_, _, ⟨T5, L5, k5, n5⟩, -, X5, ⟨Lc5, hQ5, l5, y5, z5⟩, st5⟩ := Jvm.LawKit.callS X4 hx (y := nM17) hown (mvT hZ (ow hw 103 rfl)) (mvT hZ (ow hw 104 rfl)) (mvT hZ (ow hw 39 rfl)) (mvT hZ (ow hw 105 rfl)) (by decide) (backOf (W := 0) (rm24_23 l Z a0 hw [] o1 kc1 i2 h0 n0 Z0 Pm0 gn_o1 hy2 hy3) hZ (ow hw 105 rfl) (ow hw 39 rfl) (by decide) (by decide)) (g := (mkF m 33 #[vr o1, vi 123, vi 0, vi 1] [(.int 1), (.int 0), (.int 123), (.ref o1)])) rfl (by rw [hml]; rfl) (argsL := [(.ref o1), (.int 123), (.int 0), (.int 1)]) (rest := []) (lenOf pd_21 rfl) rfl (omw rfl rfl) (hb hby d20_33) (fun _ _ => ⟨rfl, e4q, (by decide : 0 + 0 ≤ _), (by decide : 0 + 0 ≤ _)⟩)
  dsimp only [Pt.U, Pt.locs, Pt.cells, Pt.slots] at X5 l5 y5 z5 st5 hQ5
  subst l5 y5 z5
  obtain ⟨rfl, N5q, e5q⟩ := hQ5
  have N5 := Fr.app N4 N5q
  refine step (T5.setTop (mkF m 36 #[vr o1, vi 123, vi 0, vi 1] [(.int (-1))])) (fun t k => st5 t k) ?_
  refine fin (v := some (.int (-1))) X5 (fun h => by cases h) ?_ (by decide) (by decide) (fun fs hr => retI X5 hx hret (hb hby d20_36) hr)
  show Q20_19 Z o1 kc1 i2 h0 n0 (some (.int (-1))) T5.heap _
  rw [e5q]
  exact ⟨rfl, N5, rfl⟩
theorem ef_16_15 (m : MethodId) (x0 : Addr) : entryFrame m #[(.ref x0), (.int 123), (.int 0)] 3 = mkF m 0 #[.val (.ref x0), .val (.int 123), .val (.int 0)] [] := by first | (simp [entryFrame, mkF, argsToLocals, Value.category]; done) | rfl
def Q16_15 (Z : State) (o1 : Addr) (i1 : Int32) (o2 : Addr) (kc2 : ClassId) (i3 : Int32) (h0 : Heap) (n0 : Nat) (v : Option Value) (h : Heap) (L : List Loc) : Prop := v = some (.int (-1)) ∧ Fr n0 L ∧ h = h0
set_option maxRecDepth 65536 in
set_option maxHeartbeats 40000000 in
theorem rm16_15 (l : Launch) (Z : State) (a0 : Array Value) (hw : ∀ d ∈ tables_1, d.before a0 Z = true) (ws : List Jvm.Cond) (o1 : Addr) (i1 : Int32) (o2 : Addr) (kc2 : ClassId) (i3 : Int32) (h0 : Heap) (n0 : Nat) (Z0 : n0 ≤ h0.size) (S0 : Sta Z h0 "java/lang/String" "COMPACT_STRINGS" "Z" (.int i1)) (Pm1 : Exa Z h0 o1 "java/lang/String") (Pm2 : Fld Z h0 o1 "java/lang/String" "coder" "B" (.int 0)) (Pm3 : Fld Z h0 o1 "java/lang/String" "value" "[B" (.ref o2)) (Pm4 : Arv Z h0 o2 kc2 .byte (1 : Int32) [(.int i3)] (.int 0)) (gn_o1 : n0 ≤ o1) (ne_o1_o2 : o1 ≠ o2) (gn_o2 : n0 ≤ o2) (hy8 : ¬ (i1 = (0 : Int32))) (hy9 : ¬ (i3 = (123 : Int32))) (hy10 : ¬ (i3 = (125 : Int32)))  :
    OwnM l Z nM19 jdk_42_method_80_code 3 (some .int) ws ({ frames := 2, cells := 0, slots := 0, locals := 32 } : Room) #[(.ref o1), (.int 123), (.int 0)] h0 (Q16_15 Z o1 i1 o2 kc2 i3 h0 n0) := by
  refine own_body (plainFor_of_name pn_1) ?_
  intro p e s m below meth c s₁ G hx hby hml hZ hown hnm hret X0 e0 step fin
  replace hown : s.vm.findClass "java/lang/String" = some m.cls := hown
  have N0 := Fr.nil n0
  have KK : OwnK p e below c _ G := ⟨step, hx, hby⟩
  refine step (s₁.setTop (mkF m 0 #[vr o1, vi 123, vi 0] [])) (fun t k => castTop (ef_16_15 m o1) k) ?_
  refine oal KK X0 d16_0 (.ref o1) 1 rfl rfl rfl ?_
  obtain ⟨cq1, kq1, q1a, q1b, q1c⟩ := isOf hZ e0 Pm1
  obtain ⟨_, _, ⟨T1, L1, k1, n1⟩, -, X1, ⟨Lc1, hQ1, l1, y1, z1⟩, st1⟩ := X0.virtualBack hx (y := nM11) (z := nM11) hown (mvT hZ (ow hw 75 rfl)) (mvT hZ (ow hw 76 rfl)) (notFace_of_selects (args := #[]) (mvT hZ (ow hw 78 rfl))) (mvT hZ (ow hw 78 rfl)) (mvT hZ (ow hw 77 rfl)) (by decide) (backOf (W := 0) (rm17_16 l Z a0 hw [] o1 i1 h0 n0 Z0 S0 Pm1 Pm2 gn_o1 hy8) hZ (ow hw 79 rfl) (ow hw 6 rfl) (by decide) (by decide)) q1a q1c (g := (mkF m 1 #[vr o1, vi 123, vi 0] [(.ref o1)])) rfl (by rw [hml]; rfl) (Steps.refl _) (argsL := []) (rest := []) (lenOf pd_15 rfl) rfl (omw rfl rfl) (hb hby d16_1) (fun _ _ => ⟨rfl, e0, (by decide : 0 + 0 ≤ _), (by decide : 0 + 0 ≤ _)⟩)
  dsimp only [Pt.U, Pt.locs, Pt.cells, Pt.slots] at X1 l1 y1 z1 st1 hQ1
  subst l1 y1 z1
  obtain ⟨rfl, N1q, e1q⟩ := hQ1
  have N1 := Fr.app N0 N1q
  refine step (T1.setTop (mkF m 4 #[vr o1, vi 123, vi 0] [(.int 1)])) (fun t k => st1.trans k) ?_
  refine step (T1.setTop (mkF m 7 #[vr o1, vi 123, vi 0] [])) (fun t k => XS.ifNo X1.here hx rfl (hb hby d16_4) rfl ((if0 _ _).trans (feq (by decide : ¬ ((1 : Int32) = (0 : Int32)))).1) k) ?_
  refine oal KK X1 d16_7 (.ref o1) 8 rfl rfl rfl ?_
  obtain ⟨T2, X2, e2, st2⟩ := getF X1 hx hZ hown (host := "") (Or.inl (ow hw 32 rfl)) Via.refl e1q Pm3 (g := (mkF m 8 #[vr o1, vi 123, vi 0] [(.ref o1)])) rfl rfl (hb hby d16_8)
  refine step (T2.setTop (mkF m 11 #[vr o1, vi 123, vi 0] [(.ref o2)])) (fun t k => st2 t k) ?_
  refine oil KK X2 d16_11 (123 : Int32) 12 rfl rfl ?_
  refine oil KK X2 d16_12 (0 : Int32) 13 rfl rfl ?_
  refine oal KK X2 d16_13 (.ref o1) 14 rfl rfl rfl ?_
  obtain ⟨cq3, kq3, q3a, q3b, q3c⟩ := isOf hZ e2 Pm1
  obtain ⟨_, _, ⟨T3, L3, k3, n3⟩, -, X3, ⟨Lc3, hQ3, l3, y3, z3⟩, st3⟩ := X2.virtualBack hx (y := nM13) (z := nM13) hown (mvT hZ (ow hw 80 rfl)) (mvT hZ (ow hw 81 rfl)) (notFace_of_selects (args := #[]) (mvT hZ (ow hw 83 rfl))) (mvT hZ (ow hw 83 rfl)) (mvT hZ (ow hw 82 rfl)) (by decide) (backOf (W := 3) (rm18_17 l Z a0 hw [] o1 i1 o2 kc2 i3 h0 n0 Z0 S0 Pm1 Pm2 Pm3 Pm4 gn_o1 ne_o1_o2 gn_o2 hy8 hy9 hy10) hZ (ow hw 84 rfl) (ow hw 6 rfl) (by decide) (by decide)) q3a q3c (g := (mkF m 14 #[vr o1, vi 123, vi 0] [(.ref o1), (.int 0), (.int 123), (.ref o2)])) rfl (by rw [hml]; rfl) (Steps.refl _) (argsL := []) (rest := [(.int 0), (.int 123), (.ref o2)]) (lenOf pd_20 rfl) rfl (omw rfl rfl) (hb hby d16_14) (fun _ _ => ⟨rfl, e2, (by decide : 0 + 0 ≤ _), (by decide : 0 + 0 ≤ _)⟩)
  dsimp only [Pt.U, Pt.locs, Pt.cells, Pt.slots] at X3 l3 y3 z3 st3 hQ3
  subst l3 y3 z3
  obtain ⟨rfl, N3q, e3q⟩ := hQ3
  have N3 := Fr.app N1 N3q
  refine step (T3.setTop (mkF m 17 #[vr o1, vi 123, vi 0] [(.int 1), (.int 0), (.int 123), (.ref o2)])) (fun t k => st3.trans k) ?_
  obtain ⟨_, _, ⟨T4, L4, k4, n4⟩, -, X4, ⟨Lc4, hQ4, l4, y4, z4⟩, st4⟩ := Jvm.LawKit.callS X3 hx (y := nM18) hown (mvT hZ (ow hw 90 rfl)) (mvT hZ (ow hw 91 rfl)) (mvT hZ (ow hw 39 rfl)) (mvT hZ (ow hw 92 rfl)) (by decide) (backOf (W := 0) (rm20_19 l Z a0 hw [] o2 kc2 i3 h0 n0 Z0 Pm4 gn_o2 hy9 hy10) hZ (ow hw 92 rfl) (ow hw 39 rfl) (by decide) (by decide)) (g := (mkF m 17 #[vr o1, vi 123, vi 0] [(.int 1), (.int 0), (.int 123), (.ref o2)])) rfl (by rw [hml]; rfl) (argsL := [(.ref o2), (.int 123), (.int 0), (.int 1)]) (rest := []) (lenOf pd_21 rfl) rfl (omw rfl rfl) (hb hby d16_17) (fun _ _ => ⟨rfl, e3q, (by decide : 0 + 0 ≤ _), (by decide : 0 + 0 ≤ _)⟩)
  dsimp only [Pt.U, Pt.locs, Pt.cells, Pt.slots] at X4 l4 y4 z4 st4 hQ4
  subst l4 y4 z4
  obtain ⟨rfl, N4q, e4q⟩ := hQ4
  have N4 := Fr.app N3 N4q
  refine step (T4.setTop (mkF m 20 #[vr o1, vi 123, vi 0] [(.int (-1))])) (fun t k => st4 t k) ?_
  refine ogo KK X4 d16_20 36 (by decide) rfl ?_
  refine fin (v := some (.int (-1))) X4 (fun h => by cases h) ?_ (by decide) (by decide) (fun fs hr => retI X4 hx hret (hb hby d16_36) hr)
  show Q16_15 Z o1 i1 o2 kc2 i3 h0 n0 (some (.int (-1))) T4.heap _
  rw [e4q]
  exact ⟨rfl, N4, rfl⟩
theorem ef_15_14 (m : MethodId) (x0 : Addr) : entryFrame m #[(.ref x0), (.int 123)] 2 = mkF m 0 #[.val (.ref x0), .val (.int 123)] [] := by first | (simp [entryFrame, mkF, argsToLocals, Value.category]; done) | rfl
def Q15_14 (Z : State) (o1 : Addr) (i1 : Int32) (o2 : Addr) (kc2 : ClassId) (i3 : Int32) (h0 : Heap) (n0 : Nat) (v : Option Value) (h : Heap) (L : List Loc) : Prop := v = some (.int (-1)) ∧ Fr n0 L ∧ h = h0
set_option maxRecDepth 65536 in
set_option maxHeartbeats 40000000 in
theorem rm15_14 (l : Launch) (Z : State) (a0 : Array Value) (hw : ∀ d ∈ tables_1, d.before a0 Z = true) (ws : List Jvm.Cond) (o1 : Addr) (i1 : Int32) (o2 : Addr) (kc2 : ClassId) (i3 : Int32) (h0 : Heap) (n0 : Nat) (Z0 : n0 ≤ h0.size) (S0 : Sta Z h0 "java/lang/String" "COMPACT_STRINGS" "Z" (.int i1)) (Pm1 : Exa Z h0 o1 "java/lang/String") (Pm2 : Fld Z h0 o1 "java/lang/String" "coder" "B" (.int 0)) (Pm3 : Fld Z h0 o1 "java/lang/String" "value" "[B" (.ref o2)) (Pm4 : Arv Z h0 o2 kc2 .byte (1 : Int32) [(.int i3)] (.int 0)) (gn_o1 : n0 ≤ o1) (ne_o1_o2 : o1 ≠ o2) (gn_o2 : n0 ≤ o2) (hy8 : ¬ (i1 = (0 : Int32))) (hy9 : ¬ (i3 = (123 : Int32))) (hy10 : ¬ (i3 = (125 : Int32)))  :
    OwnM l Z nM20 jdk_42_method_79_code 2 (some .int) ws ({ frames := 3, cells := 0, slots := 0, locals := 46 } : Room) #[(.ref o1), (.int 123)] h0 (Q15_14 Z o1 i1 o2 kc2 i3 h0 n0) := by
  refine own_body (plainFor_of_name pn_1) ?_
  intro p e s m below meth c s₁ G hx hby hml hZ hown hnm hret X0 e0 step fin
  replace hown : s.vm.findClass "java/lang/String" = some m.cls := hown
  have N0 := Fr.nil n0
  have KK : OwnK p e below c _ G := ⟨step, hx, hby⟩
  refine step (s₁.setTop (mkF m 0 #[vr o1, vi 123] [])) (fun t k => castTop (ef_15_14 m o1) k) ?_
  refine oal KK X0 d15_0 (.ref o1) 1 rfl rfl rfl ?_
  refine oil KK X0 d15_1 (123 : Int32) 2 rfl rfl ?_
  refine oic KK X0 d15_2 0 3 rfl rfl ?_
  obtain ⟨cq1, kq1, q1a, q1b, q1c⟩ := isOf hZ e0 Pm1
  obtain ⟨_, _, ⟨T1, L1, k1, n1⟩, -, X1, ⟨Lc1, hQ1, l1, y1, z1⟩, st1⟩ := X0.virtualBack hx (y := nM19) (z := nM19) hown (mvT hZ (ow hw 70 rfl)) (mvT hZ (ow hw 71 rfl)) (notFace_of_selects (args := #[]) (mvT hZ (ow hw 73 rfl))) (mvT hZ (ow hw 73 rfl)) (mvT hZ (ow hw 72 rfl)) (by decide) (backOf (W := 0) (rm16_15 l Z a0 hw [] o1 i1 o2 kc2 i3 h0 n0 Z0 S0 Pm1 Pm2 Pm3 Pm4 gn_o1 ne_o1_o2 gn_o2 hy8 hy9 hy10) hZ (ow hw 74 rfl) (ow hw 6 rfl) (by decide) (by decide)) q1a q1c (g := (mkF m 3 #[vr o1, vi 123] [(.int 0), (.int 123), (.ref o1)])) rfl (by rw [hml]; rfl) (Steps.refl _) (argsL := [(.int 123), (.int 0)]) (rest := []) (lenOf pd_19 rfl) rfl (omw rfl rfl) (hb hby d15_3) (fun _ _ => ⟨rfl, e0, (by decide : 0 + 0 ≤ _), (by decide : 0 + 0 ≤ _)⟩)
  dsimp only [Pt.U, Pt.locs, Pt.cells, Pt.slots] at X1 l1 y1 z1 st1 hQ1
  subst l1 y1 z1
  obtain ⟨rfl, N1q, e1q⟩ := hQ1
  have N1 := Fr.app N0 N1q
  refine step (T1.setTop (mkF m 6 #[vr o1, vi 123] [(.int (-1))])) (fun t k => st1.trans k) ?_
  refine fin (v := some (.int (-1))) X1 (fun h => by cases h) ?_ (by decide) (by decide) (fun fs hr => retI X1 hx hret (hb hby d15_6) hr)
  show Q15_14 Z o1 i1 o2 kc2 i3 h0 n0 (some (.int (-1))) T1.heap _
  rw [e1q]
  exact ⟨rfl, N1, rfl⟩
theorem ef_21_27 (m : MethodId)  : entryFrame m #[(.int 125)] 1 = mkF m 0 #[.val (.int 125)] [] := by first | (simp [entryFrame, mkF, argsToLocals, Value.category]; done) | rfl
def Q21_27 (Z : State)  (h0 : Heap) (n0 : Nat) (v : Option Value) (h : Heap) (L : List Loc) : Prop := v = some (.int 1) ∧ Fr n0 L ∧ h = h0
set_option maxRecDepth 65536 in
set_option maxHeartbeats 40000000 in
theorem rm21_27 (l : Launch) (Z : State) (a0 : Array Value) (hw : ∀ d ∈ tables_1, d.before a0 Z = true) (ws : List Jvm.Cond)  (h0 : Heap) (n0 : Nat) (Z0 : n0 ≤ h0.size)  :
    OwnM l Z nM14 jdk_43_method_4_code 1 (some .boolean) ws ({ frames := 0, cells := 0, slots := 0, locals := 0 } : Room) #[(.int 125)] h0 (Q21_27 Z  h0 n0) := by
  refine own_body (plainFor_of_name pn_3) ?_
  intro p e s m below meth c s₁ G hx hby hml hZ hown hnm hret X0 e0 step fin
  replace hown : s.vm.findClass "java/lang/StringLatin1" = some m.cls := hown
  have N0 := Fr.nil n0
  have KK : OwnK p e below c _ G := ⟨step, hx, hby⟩
  refine step (s₁.setTop (mkF m 0 #[vi 125] [])) (fun t k => castTop (ef_21_27 m ) k) ?_
  refine oil KK X0 d21_0 (125 : Int32) 1 rfl rfl ?_
  refine step (s₁.setTop (mkF m 4 #[vi 125] [])) (fun t k => XS.ifNo X0.here hx rfl (hb hby d21_1) rfl ((if0 _ _).trans (flt (by decide : ¬ ((125 : Int32) < (0 : Int32)))).1) k) ?_
  refine oil KK X0 d21_4 (125 : Int32) 5 rfl rfl ?_
  refine osi KK X0 d21_5 255 8 rfl rfl ?_
  refine oin KK X0 d21_8 11 rfl (flt (by decide : ¬ ((255 : Int32) < (125 : Int32)))).2.2.1 ?_
  refine oic KK X0 d21_11 1 12 rfl rfl ?_
  refine ogo KK X0 d21_12 16 (by decide) rfl ?_
  refine fin (v := some (.int (nar .boolean (1 : Int32)))) X0 (fun h => by cases h) ?_ (by decide) (by decide) (fun fs hr => retN X0 hx (t := .boolean) hret (by simp) (hb hby d21_16) hr)
  show Q21_27 Z  h0 n0 (some (.int (nar .boolean (1 : Int32)))) s₁.heap _
  rw [e0]
  exact ⟨rfl, N0, rfl⟩
theorem ef_24_28 (m : MethodId) (x0 : Addr) : entryFrame m #[(.ref x0), (.int 125), (.int 0), (.int 1)] 6 = mkF m 0 #[.val (.ref x0), .val (.int 125), .val (.int 0), .val (.int 1), .unset, .unset] [] := by first | (simp [entryFrame, mkF, argsToLocals, Value.category]; done) | rfl
def Q24_28 (Z : State) (o1 : Addr) (kc1 : ClassId) (i2 : Int32) (h0 : Heap) (n0 : Nat) (v : Option Value) (h : Heap) (L : List Loc) : Prop := v = some (.int (-1)) ∧ Fr n0 L ∧ h = h0
set_option maxRecDepth 65536 in
set_option maxHeartbeats 40000000 in
theorem rm24_28 (l : Launch) (Z : State) (a0 : Array Value) (hw : ∀ d ∈ tables_1, d.before a0 Z = true) (ws : List Jvm.Cond) (o1 : Addr) (kc1 : ClassId) (i2 : Int32) (h0 : Heap) (n0 : Nat) (Z0 : n0 ≤ h0.size) (Pm0 : Arv Z h0 o1 kc1 .byte (1 : Int32) [(.int i2)] (.int 0)) (gn_o1 : n0 ≤ o1) (hy2 : ¬ (i2 = (123 : Int32))) (hy3 : ¬ (i2 = (125 : Int32)))  :
    OwnM l Z nM17 jdk_43_method_23_code 6 (some .int) ws ({ frames := 0, cells := 0, slots := 0, locals := 0 } : Room) #[(.ref o1), (.int 125), (.int 0), (.int 1)] h0 (Q24_28 Z o1 kc1 i2 h0 n0) := by
  refine own_body (plainFor_of_name pn_3) ?_
  intro p e s m below meth c s₁ G hx hby hml hZ hown hnm hret X0 e0 step fin
  replace hown : s.vm.findClass "java/lang/StringLatin1" = some m.cls := hown
  have N0 := Fr.nil n0
  have KK : OwnK p e below c _ G := ⟨step, hx, hby⟩
  refine step (s₁.setTop (mkF m 0 #[vr o1, vi 125, vi 0, vi 1, .unset, .unset] [])) (fun t k => castTop (ef_24_28 m o1) k) ?_
  refine oil KK X0 d24_0 (125 : Int32) 1 rfl rfl ?_
  refine step (s₁.setTop (mkF m 2 #[vr o1, vi 125, vi 0, vi 1, .unset, .unset] [(.int 125)])) (fun t k => XS.i2b X0.here hx rfl (hb hby d24_1) rfl k) ?_
  refine oiS KK X0 d24_2 #[vr o1, vi 125, vi 0, vi 1, vi 125, .unset] 4 rfl rfl ?_
  refine oil KK X0 d24_4 (0 : Int32) 5 rfl rfl ?_
  refine oiS KK X0 d24_5 #[vr o1, vi 125, vi 0, vi 1, vi 125, vi 0] 7 rfl rfl ?_
  refine oiL KK X0 d24_7 (0 : Int32) 9 rfl rfl ?_
  refine oil KK X0 d24_9 (1 : Int32) 10 rfl rfl ?_
  refine oin KK X0 d24_10 13 rfl (tlt (by decide : (0 : Int32) < (1 : Int32))).2.1 ?_
  refine oal KK X0 d24_13 (.ref o1) 14 rfl rfl rfl ?_
  refine oiL KK X0 d24_14 (0 : Int32) 16 rfl rfl ?_
  obtain ⟨cl1, Ar1, q1, S1, N1n, H1, G1⟩ := id Pm0
  have hin1 : ¬ ((0 : Int32) < 0 ∨ cl1.slots.size ≤ ((0 : Int32)).toNatClampNeg) := inb_of S1 ⟨by decide, by decide⟩
  have hat1 : cl1.slots[((0 : Int32)).toNatClampNeg]? = some (.int i2) := H1.at hin1 rfl
  refine step (s₁.setTop (mkF m 17 #[vr o1, vi 125, vi 0, vi 1, vi 125, vi 0] [(.int i2)])) (fun t k => X0.baloadBytes hx (j := (0 : Int32)) (v := (.int i2)) (by rw [e0]; exact Ar1.1) (State.isArrayOf_alike hZ.alike Ar1.2.1) Ar1.2.2 hin1 hat1 (g := (mkF m 16 #[vr o1, vi 125, vi 0, vi 1, vi 125, vi 0] [(.int 0), (.ref o1)])) rfl rfl (hb hby d24_16) t k) ?_
  refine oiL KK X0 d24_17 (125 : Int32) 19 rfl rfl ?_
  have hc19_2 : ¬ (i2 = (125 : Int32)) := hy3
  refine oiy KK X0 d24_19 25 (feq hc19_2).2 (by decide) rfl ?_
  refine oii KK X0 d24_25 #[vr o1, vi 125, vi 0, vi 1, vi 125, vi 1] 28 rfl rfl rfl ?_
  refine ogo KK X0 d24_28 7 (by decide) rfl ?_
  refine oiL KK X0 d24_7 (1 : Int32) 9 rfl rfl ?_
  refine oil KK X0 d24_9 (1 : Int32) 10 rfl rfl ?_
  refine oiy KK X0 d24_10 31 (flt (by decide : ¬ ((1 : Int32) < (1 : Int32)))).2.1 (by decide) rfl ?_
  refine oic KK X0 d24_31 (-1) 32 rfl rfl ?_
  refine fin (v := some (.int (-1))) X0 (fun h => by cases h) ?_ (by decide) (by decide) (fun fs hr => retI X0 hx hret (hb hby d24_32) hr)
  show Q24_28 Z o1 kc1 i2 h0 n0 (some (.int (-1))) s₁.heap _
  rw [e0]
  exact ⟨rfl, N0, rfl⟩
theorem ef_20_26 (m : MethodId) (x0 : Addr) : entryFrame m #[(.ref x0), (.int 125), (.int 0), (.int 1)] 4 = mkF m 0 #[.val (.ref x0), .val (.int 125), .val (.int 0), .val (.int 1)] [] := by first | (simp [entryFrame, mkF, argsToLocals, Value.category]; done) | rfl
def Q20_26 (Z : State) (o1 : Addr) (kc1 : ClassId) (i2 : Int32) (h0 : Heap) (n0 : Nat) (v : Option Value) (h : Heap) (L : List Loc) : Prop := v = some (.int (-1)) ∧ Fr n0 L ∧ h = h0
set_option maxRecDepth 65536 in
set_option maxHeartbeats 40000000 in
theorem rm20_26 (l : Launch) (Z : State) (a0 : Array Value) (hw : ∀ d ∈ tables_1, d.before a0 Z = true) (ws : List Jvm.Cond) (o1 : Addr) (kc1 : ClassId) (i2 : Int32) (h0 : Heap) (n0 : Nat) (Z0 : n0 ≤ h0.size) (Pm0 : Arv Z h0 o1 kc1 .byte (1 : Int32) [(.int i2)] (.int 0)) (gn_o1 : n0 ≤ o1) (hy2 : ¬ (i2 = (123 : Int32))) (hy3 : ¬ (i2 = (125 : Int32)))  :
    OwnM l Z nM18 jdk_43_method_22_code 4 (some .int) ws ({ frames := 1, cells := 0, slots := 0, locals := 17 } : Room) #[(.ref o1), (.int 125), (.int 0), (.int 1)] h0 (Q20_26 Z o1 kc1 i2 h0 n0) := by
  refine own_body (plainFor_of_name pn_3) ?_
  intro p e s m below meth c s₁ G hx hby hml hZ hown hnm hret X0 e0 step fin
  replace hown : s.vm.findClass "java/lang/StringLatin1" = some m.cls := hown
  have N0 := Fr.nil n0
  have KK : OwnK p e below c _ G := ⟨step, hx, hby⟩
  refine step (s₁.setTop (mkF m 0 #[vr o1, vi 125, vi 0, vi 1] [])) (fun t k => castTop (ef_20_26 m o1) k) ?_
  refine oil KK X0 d20_0 (125 : Int32) 1 rfl rfl ?_
  obtain ⟨_, _, ⟨T1, L1, k1, n1⟩, -, X1, ⟨Lc1, hQ1, l1, y1, z1⟩, st1⟩ := Jvm.LawKit.callS X0 hx (y := nM14) hown (mvT hZ (ow hw 93 rfl)) (mvT hZ (ow hw 94 rfl)) (mvT hZ (ow hw 39 rfl)) (mvT hZ (ow hw 95 rfl)) (by decide) (backOf (W := 0) (rm21_27 l Z a0 hw []  h0 n0 Z0 ) hZ (ow hw 95 rfl) (ow hw 39 rfl) (by decide) (by decide)) (g := (mkF m 1 #[vr o1, vi 125, vi 0, vi 1] [(.int 125)])) rfl (by rw [hml]; rfl) (argsL := [(.int 125)]) (rest := []) (lenOf pd_23 rfl) rfl (omw rfl rfl) (hb hby d20_1) (fun _ _ => ⟨rfl, e0, (by decide : 0 + 0 ≤ _), (by decide : 0 + 0 ≤ _)⟩)
  dsimp only [Pt.U, Pt.locs, Pt.cells, Pt.slots] at X1 l1 y1 z1 st1 hQ1
  subst l1 y1 z1
  obtain ⟨rfl, N1q, e1q⟩ := hQ1
  have N1 := Fr.app N0 N1q
  refine step (T1.setTop (mkF m 4 #[vr o1, vi 125, vi 0, vi 1] [(.int 1)])) (fun t k => st1 t k) ?_
  refine step (T1.setTop (mkF m 9 #[vr o1, vi 125, vi 0, vi 1] [])) (fun t k => XS.ifYes X1.here hx rfl (pc0 := 4) (pc' := 9) rfl (hb hby d20_4) rfl ((if0 _ _).trans (feq (by decide : ¬ ((1 : Int32) = (0 : Int32)))).2) (by decide) (by decide) k) ?_
  refine oil KK X1 d20_9 (0 : Int32) 10 rfl rfl ?_
  refine oic KK X1 d20_10 0 11 rfl rfl ?_
  obtain ⟨_, _, ⟨T2, L2, k2, n2⟩, -, X2, ⟨Lc2, hQ2, l2, y2, z2⟩, st2⟩ := Jvm.LawKit.callS X1 hx (y := nM15) hown (mvT hZ (ow hw 96 rfl)) (mvT hZ (ow hw 97 rfl)) (mvT hZ (ow hw 98 rfl)) (mvT hZ (ow hw 99 rfl)) (by decide) (backOf (W := 0) (rm22_21 l Z a0 hw []  h0 n0 Z0 ) hZ (ow hw 99 rfl) (ow hw 98 rfl) (by decide) (by decide)) (g := (mkF m 11 #[vr o1, vi 125, vi 0, vi 1] [(.int 0), (.int 0)])) rfl (by rw [hml]; rfl) (argsL := [(.int 0), (.int 0)]) (rest := []) (lenOf pd_19 rfl) rfl (omw rfl rfl) (hb hby d20_11) (fun _ _ => ⟨rfl, e1q, (by decide : 0 + 0 ≤ _), (by decide : 0 + 0 ≤ _)⟩)
  dsimp only [Pt.U, Pt.locs, Pt.cells, Pt.slots] at X2 l2 y2 z2 st2 hQ2
  subst l2 y2 z2
  obtain ⟨rfl, N2q, e2q⟩ := hQ2
  have N2 := Fr.app N1 N2q
  refine step (T2.setTop (mkF m 14 #[vr o1, vi 125, vi 0, vi 1] [(.int 0)])) (fun t k => st2 t k) ?_
  refine ois KK X2 d20_14 #[vr o1, vi 125, vi 0, vi 1] 15 rfl rfl ?_
  refine oil KK X2 d20_15 (1 : Int32) 16 rfl rfl ?_
  refine oal KK X2 d20_16 (.ref o1) 17 rfl rfl rfl ?_
  obtain ⟨cl3, Ar3, q3, S3, N3n, H3, G3⟩ := id Pm0
  refine step (T2.setTop (mkF m 18 #[vr o1, vi 125, vi 0, vi 1] [(.int 1), (.int 1)])) (fun t k => X2.arraylength hx (by rw [e2q]; exact Ar3.1) (State.isArrayOf_alike hZ.alike Ar3.2.1) (g := (mkF m 17 #[vr o1, vi 125, vi 0, vi 1] [(.ref o1), (.int 1)])) rfl rfl (hb hby d20_17) t (by rw [len_of S3 N3n]; exact k)) ?_
  obtain ⟨_, _, ⟨T4, L4, k4, n4⟩, -, X4, ⟨Lc4, hQ4, l4, y4, z4⟩, st4⟩ := Jvm.LawKit.callS X2 hx (y := nM16) hown (mvT hZ (ow hw 100 rfl)) (mvT hZ (ow hw 101 rfl)) (mvT hZ (ow hw 98 rfl)) (mvT hZ (ow hw 102 rfl)) (by decide) (backOf (W := 0) (rm23_22 l Z a0 hw []  h0 n0 Z0 ) hZ (ow hw 102 rfl) (ow hw 98 rfl) (by decide) (by decide)) (g := (mkF m 18 #[vr o1, vi 125, vi 0, vi 1] [(.int 1), (.int 1)])) rfl (by rw [hml]; rfl) (argsL := [(.int 1), (.int 1)]) (rest := []) (lenOf pd_19 rfl) rfl (omw rfl rfl) (hb hby d20_18) (fun _ _ => ⟨rfl, e2q, (by decide : 0 + 0 ≤ _), (by decide : 0 + 0 ≤ _)⟩)
  dsimp only [Pt.U, Pt.locs, Pt.cells, Pt.slots] at X4 l4 y4 z4 st4 hQ4
  subst l4 y4 z4
  obtain ⟨rfl, N4q, e4q⟩ := hQ4
  have N4 := Fr.app N2 N4q
  refine step (T4.setTop (mkF m 21 #[vr o1, vi 125, vi 0, vi 1] [(.int 1)])) (fun t k => st4 t k) ?_
  refine ois KK X4 d20_21 #[vr o1, vi 125, vi 0, vi 1] 22 rfl rfl ?_
  refine oil KK X4 d20_22 (0 : Int32) 23 rfl rfl ?_
  refine oil KK X4 d20_23 (1 : Int32) 24 rfl rfl ?_
  refine oiy KK X4 d20_24 29 (tlt (by decide : (0 : Int32) < (1 : Int32))).1 (by decide) rfl ?_
  refine oal KK X4 d20_29 (.ref o1) 30 rfl rfl rfl ?_
  refine oil KK X4 d20_30 (125 : Int32) 31 rfl rfl ?_
  refine oil KK X4 d20_31 (0 : Int32) 32 rfl rfl ?_
  refine oil KK X4 d20_32 (1 : Int32) 33 rfl rfl ?_
  obtain ⟨_, _, ⟨T5, L5, k5, n5⟩, -, X5, ⟨Lc5, hQ5, l5, y5, z5⟩, st5⟩ := Jvm.LawKit.callS X4 hx (y := nM17) hown (mvT hZ (ow hw 103 rfl)) (mvT hZ (ow hw 104 rfl)) (mvT hZ (ow hw 39 rfl)) (mvT hZ (ow hw 105 rfl)) (by decide) (backOf (W := 0) (rm24_28 l Z a0 hw [] o1 kc1 i2 h0 n0 Z0 Pm0 gn_o1 hy2 hy3) hZ (ow hw 105 rfl) (ow hw 39 rfl) (by decide) (by decide)) (g := (mkF m 33 #[vr o1, vi 125, vi 0, vi 1] [(.int 1), (.int 0), (.int 125), (.ref o1)])) rfl (by rw [hml]; rfl) (argsL := [(.ref o1), (.int 125), (.int 0), (.int 1)]) (rest := []) (lenOf pd_21 rfl) rfl (omw rfl rfl) (hb hby d20_33) (fun _ _ => ⟨rfl, e4q, (by decide : 0 + 0 ≤ _), (by decide : 0 + 0 ≤ _)⟩)
  dsimp only [Pt.U, Pt.locs, Pt.cells, Pt.slots] at X5 l5 y5 z5 st5 hQ5
  subst l5 y5 z5
  obtain ⟨rfl, N5q, e5q⟩ := hQ5
  have N5 := Fr.app N4 N5q
  refine step (T5.setTop (mkF m 36 #[vr o1, vi 125, vi 0, vi 1] [(.int (-1))])) (fun t k => st5 t k) ?_
  refine fin (v := some (.int (-1))) X5 (fun h => by cases h) ?_ (by decide) (by decide) (fun fs hr => retI X5 hx hret (hb hby d20_36) hr)
  show Q20_26 Z o1 kc1 i2 h0 n0 (some (.int (-1))) T5.heap _
  rw [e5q]
  exact ⟨rfl, N5, rfl⟩
theorem ef_16_25 (m : MethodId) (x0 : Addr) : entryFrame m #[(.ref x0), (.int 125), (.int 0)] 3 = mkF m 0 #[.val (.ref x0), .val (.int 125), .val (.int 0)] [] := by first | (simp [entryFrame, mkF, argsToLocals, Value.category]; done) | rfl
def Q16_25 (Z : State) (o1 : Addr) (i1 : Int32) (o2 : Addr) (kc2 : ClassId) (i3 : Int32) (h0 : Heap) (n0 : Nat) (v : Option Value) (h : Heap) (L : List Loc) : Prop := v = some (.int (-1)) ∧ Fr n0 L ∧ h = h0
set_option maxRecDepth 65536 in
set_option maxHeartbeats 40000000 in
theorem rm16_25 (l : Launch) (Z : State) (a0 : Array Value) (hw : ∀ d ∈ tables_1, d.before a0 Z = true) (ws : List Jvm.Cond) (o1 : Addr) (i1 : Int32) (o2 : Addr) (kc2 : ClassId) (i3 : Int32) (h0 : Heap) (n0 : Nat) (Z0 : n0 ≤ h0.size) (S0 : Sta Z h0 "java/lang/String" "COMPACT_STRINGS" "Z" (.int i1)) (Pm1 : Exa Z h0 o1 "java/lang/String") (Pm2 : Fld Z h0 o1 "java/lang/String" "coder" "B" (.int 0)) (Pm3 : Fld Z h0 o1 "java/lang/String" "value" "[B" (.ref o2)) (Pm4 : Arv Z h0 o2 kc2 .byte (1 : Int32) [(.int i3)] (.int 0)) (gn_o1 : n0 ≤ o1) (ne_o1_o2 : o1 ≠ o2) (gn_o2 : n0 ≤ o2) (hy8 : ¬ (i1 = (0 : Int32))) (hy9 : ¬ (i3 = (123 : Int32))) (hy10 : ¬ (i3 = (125 : Int32)))  :
    OwnM l Z nM19 jdk_42_method_80_code 3 (some .int) ws ({ frames := 2, cells := 0, slots := 0, locals := 32 } : Room) #[(.ref o1), (.int 125), (.int 0)] h0 (Q16_25 Z o1 i1 o2 kc2 i3 h0 n0) := by
  refine own_body (plainFor_of_name pn_1) ?_
  intro p e s m below meth c s₁ G hx hby hml hZ hown hnm hret X0 e0 step fin
  replace hown : s.vm.findClass "java/lang/String" = some m.cls := hown
  have N0 := Fr.nil n0
  have KK : OwnK p e below c _ G := ⟨step, hx, hby⟩
  refine step (s₁.setTop (mkF m 0 #[vr o1, vi 125, vi 0] [])) (fun t k => castTop (ef_16_25 m o1) k) ?_
  refine oal KK X0 d16_0 (.ref o1) 1 rfl rfl rfl ?_
  obtain ⟨cq1, kq1, q1a, q1b, q1c⟩ := isOf hZ e0 Pm1
  obtain ⟨_, _, ⟨T1, L1, k1, n1⟩, -, X1, ⟨Lc1, hQ1, l1, y1, z1⟩, st1⟩ := X0.virtualBack hx (y := nM11) (z := nM11) hown (mvT hZ (ow hw 75 rfl)) (mvT hZ (ow hw 76 rfl)) (notFace_of_selects (args := #[]) (mvT hZ (ow hw 78 rfl))) (mvT hZ (ow hw 78 rfl)) (mvT hZ (ow hw 77 rfl)) (by decide) (backOf (W := 0) (rm17_16 l Z a0 hw [] o1 i1 h0 n0 Z0 S0 Pm1 Pm2 gn_o1 hy8) hZ (ow hw 79 rfl) (ow hw 6 rfl) (by decide) (by decide)) q1a q1c (g := (mkF m 1 #[vr o1, vi 125, vi 0] [(.ref o1)])) rfl (by rw [hml]; rfl) (Steps.refl _) (argsL := []) (rest := []) (lenOf pd_15 rfl) rfl (omw rfl rfl) (hb hby d16_1) (fun _ _ => ⟨rfl, e0, (by decide : 0 + 0 ≤ _), (by decide : 0 + 0 ≤ _)⟩)
  dsimp only [Pt.U, Pt.locs, Pt.cells, Pt.slots] at X1 l1 y1 z1 st1 hQ1
  subst l1 y1 z1
  obtain ⟨rfl, N1q, e1q⟩ := hQ1
  have N1 := Fr.app N0 N1q
  refine step (T1.setTop (mkF m 4 #[vr o1, vi 125, vi 0] [(.int 1)])) (fun t k => st1.trans k) ?_
  refine step (T1.setTop (mkF m 7 #[vr o1, vi 125, vi 0] [])) (fun t k => XS.ifNo X1.here hx rfl (hb hby d16_4) rfl ((if0 _ _).trans (feq (by decide : ¬ ((1 : Int32) = (0 : Int32)))).1) k) ?_
  refine oal KK X1 d16_7 (.ref o1) 8 rfl rfl rfl ?_
  obtain ⟨T2, X2, e2, st2⟩ := getF X1 hx hZ hown (host := "") (Or.inl (ow hw 32 rfl)) Via.refl e1q Pm3 (g := (mkF m 8 #[vr o1, vi 125, vi 0] [(.ref o1)])) rfl rfl (hb hby d16_8)
  refine step (T2.setTop (mkF m 11 #[vr o1, vi 125, vi 0] [(.ref o2)])) (fun t k => st2 t k) ?_
  refine oil KK X2 d16_11 (125 : Int32) 12 rfl rfl ?_
  refine oil KK X2 d16_12 (0 : Int32) 13 rfl rfl ?_
  refine oal KK X2 d16_13 (.ref o1) 14 rfl rfl rfl ?_
  obtain ⟨cq3, kq3, q3a, q3b, q3c⟩ := isOf hZ e2 Pm1
  obtain ⟨_, _, ⟨T3, L3, k3, n3⟩, -, X3, ⟨Lc3, hQ3, l3, y3, z3⟩, st3⟩ := X2.virtualBack hx (y := nM13) (z := nM13) hown (mvT hZ (ow hw 80 rfl)) (mvT hZ (ow hw 81 rfl)) (notFace_of_selects (args := #[]) (mvT hZ (ow hw 83 rfl))) (mvT hZ (ow hw 83 rfl)) (mvT hZ (ow hw 82 rfl)) (by decide) (backOf (W := 3) (rm18_17 l Z a0 hw [] o1 i1 o2 kc2 i3 h0 n0 Z0 S0 Pm1 Pm2 Pm3 Pm4 gn_o1 ne_o1_o2 gn_o2 hy8 hy9 hy10) hZ (ow hw 84 rfl) (ow hw 6 rfl) (by decide) (by decide)) q3a q3c (g := (mkF m 14 #[vr o1, vi 125, vi 0] [(.ref o1), (.int 0), (.int 125), (.ref o2)])) rfl (by rw [hml]; rfl) (Steps.refl _) (argsL := []) (rest := [(.int 0), (.int 125), (.ref o2)]) (lenOf pd_20 rfl) rfl (omw rfl rfl) (hb hby d16_14) (fun _ _ => ⟨rfl, e2, (by decide : 0 + 0 ≤ _), (by decide : 0 + 0 ≤ _)⟩)
  dsimp only [Pt.U, Pt.locs, Pt.cells, Pt.slots] at X3 l3 y3 z3 st3 hQ3
  subst l3 y3 z3
  obtain ⟨rfl, N3q, e3q⟩ := hQ3
  have N3 := Fr.app N1 N3q
  refine step (T3.setTop (mkF m 17 #[vr o1, vi 125, vi 0] [(.int 1), (.int 0), (.int 125), (.ref o2)])) (fun t k => st3.trans k) ?_
  obtain ⟨_, _, ⟨T4, L4, k4, n4⟩, -, X4, ⟨Lc4, hQ4, l4, y4, z4⟩, st4⟩ := Jvm.LawKit.callS X3 hx (y := nM18) hown (mvT hZ (ow hw 90 rfl)) (mvT hZ (ow hw 91 rfl)) (mvT hZ (ow hw 39 rfl)) (mvT hZ (ow hw 92 rfl)) (by decide) (backOf (W := 0) (rm20_26 l Z a0 hw [] o2 kc2 i3 h0 n0 Z0 Pm4 gn_o2 hy9 hy10) hZ (ow hw 92 rfl) (ow hw 39 rfl) (by decide) (by decide)) (g := (mkF m 17 #[vr o1, vi 125, vi 0] [(.int 1), (.int 0), (.int 125), (.ref o2)])) rfl (by rw [hml]; rfl) (argsL := [(.ref o2), (.int 125), (.int 0), (.int 1)]) (rest := []) (lenOf pd_21 rfl) rfl (omw rfl rfl) (hb hby d16_17) (fun _ _ => ⟨rfl, e3q, (by decide : 0 + 0 ≤ _), (by decide : 0 + 0 ≤ _)⟩)
  dsimp only [Pt.U, Pt.locs, Pt.cells, Pt.slots] at X4 l4 y4 z4 st4 hQ4
  subst l4 y4 z4
  obtain ⟨rfl, N4q, e4q⟩ := hQ4
  have N4 := Fr.app N3 N4q
  refine step (T4.setTop (mkF m 20 #[vr o1, vi 125, vi 0] [(.int (-1))])) (fun t k => st4 t k) ?_
  refine ogo KK X4 d16_20 36 (by decide) rfl ?_
  refine fin (v := some (.int (-1))) X4 (fun h => by cases h) ?_ (by decide) (by decide) (fun fs hr => retI X4 hx hret (hb hby d16_36) hr)
  show Q16_25 Z o1 i1 o2 kc2 i3 h0 n0 (some (.int (-1))) T4.heap _
  rw [e4q]
  exact ⟨rfl, N4, rfl⟩
theorem ef_15_24 (m : MethodId) (x0 : Addr) : entryFrame m #[(.ref x0), (.int 125)] 2 = mkF m 0 #[.val (.ref x0), .val (.int 125)] [] := by first | (simp [entryFrame, mkF, argsToLocals, Value.category]; done) | rfl
def Q15_24 (Z : State) (o1 : Addr) (i1 : Int32) (o2 : Addr) (kc2 : ClassId) (i3 : Int32) (h0 : Heap) (n0 : Nat) (v : Option Value) (h : Heap) (L : List Loc) : Prop := v = some (.int (-1)) ∧ Fr n0 L ∧ h = h0
set_option maxRecDepth 65536 in
set_option maxHeartbeats 40000000 in
theorem rm15_24 (l : Launch) (Z : State) (a0 : Array Value) (hw : ∀ d ∈ tables_1, d.before a0 Z = true) (ws : List Jvm.Cond) (o1 : Addr) (i1 : Int32) (o2 : Addr) (kc2 : ClassId) (i3 : Int32) (h0 : Heap) (n0 : Nat) (Z0 : n0 ≤ h0.size) (S0 : Sta Z h0 "java/lang/String" "COMPACT_STRINGS" "Z" (.int i1)) (Pm1 : Exa Z h0 o1 "java/lang/String") (Pm2 : Fld Z h0 o1 "java/lang/String" "coder" "B" (.int 0)) (Pm3 : Fld Z h0 o1 "java/lang/String" "value" "[B" (.ref o2)) (Pm4 : Arv Z h0 o2 kc2 .byte (1 : Int32) [(.int i3)] (.int 0)) (gn_o1 : n0 ≤ o1) (ne_o1_o2 : o1 ≠ o2) (gn_o2 : n0 ≤ o2) (hy8 : ¬ (i1 = (0 : Int32))) (hy9 : ¬ (i3 = (123 : Int32))) (hy10 : ¬ (i3 = (125 : Int32)))  :
    OwnM l Z nM20 jdk_42_method_79_code 2 (some .int) ws ({ frames := 3, cells := 0, slots := 0, locals := 46 } : Room) #[(.ref o1), (.int 125)] h0 (Q15_24 Z o1 i1 o2 kc2 i3 h0 n0) := by
  refine own_body (plainFor_of_name pn_1) ?_
  intro p e s m below meth c s₁ G hx hby hml hZ hown hnm hret X0 e0 step fin
  replace hown : s.vm.findClass "java/lang/String" = some m.cls := hown
  have N0 := Fr.nil n0
  have KK : OwnK p e below c _ G := ⟨step, hx, hby⟩
  refine step (s₁.setTop (mkF m 0 #[vr o1, vi 125] [])) (fun t k => castTop (ef_15_24 m o1) k) ?_
  refine oal KK X0 d15_0 (.ref o1) 1 rfl rfl rfl ?_
  refine oil KK X0 d15_1 (125 : Int32) 2 rfl rfl ?_
  refine oic KK X0 d15_2 0 3 rfl rfl ?_
  obtain ⟨cq1, kq1, q1a, q1b, q1c⟩ := isOf hZ e0 Pm1
  obtain ⟨_, _, ⟨T1, L1, k1, n1⟩, -, X1, ⟨Lc1, hQ1, l1, y1, z1⟩, st1⟩ := X0.virtualBack hx (y := nM19) (z := nM19) hown (mvT hZ (ow hw 70 rfl)) (mvT hZ (ow hw 71 rfl)) (notFace_of_selects (args := #[]) (mvT hZ (ow hw 73 rfl))) (mvT hZ (ow hw 73 rfl)) (mvT hZ (ow hw 72 rfl)) (by decide) (backOf (W := 0) (rm16_25 l Z a0 hw [] o1 i1 o2 kc2 i3 h0 n0 Z0 S0 Pm1 Pm2 Pm3 Pm4 gn_o1 ne_o1_o2 gn_o2 hy8 hy9 hy10) hZ (ow hw 74 rfl) (ow hw 6 rfl) (by decide) (by decide)) q1a q1c (g := (mkF m 3 #[vr o1, vi 125] [(.int 0), (.int 125), (.ref o1)])) rfl (by rw [hml]; rfl) (Steps.refl _) (argsL := [(.int 125), (.int 0)]) (rest := []) (lenOf pd_19 rfl) rfl (omw rfl rfl) (hb hby d15_3) (fun _ _ => ⟨rfl, e0, (by decide : 0 + 0 ≤ _), (by decide : 0 + 0 ≤ _)⟩)
  dsimp only [Pt.U, Pt.locs, Pt.cells, Pt.slots] at X1 l1 y1 z1 st1 hQ1
  subst l1 y1 z1
  obtain ⟨rfl, N1q, e1q⟩ := hQ1
  have N1 := Fr.app N0 N1q
  refine step (T1.setTop (mkF m 6 #[vr o1, vi 125] [(.int (-1))])) (fun t k => st1.trans k) ?_
  refine fin (v := some (.int (-1))) X1 (fun h => by cases h) ?_ (by decide) (by decide) (fun fs hr => retI X1 hx hret (hb hby d15_6) hr)
  show Q15_24 Z o1 i1 o2 kc2 i3 h0 n0 (some (.int (-1))) T1.heap _
  rw [e1q]
  exact ⟨rfl, N1, rfl⟩
def Q13_12 (Z : State) (o1 : Addr) (o2 : Addr) (i1 : Int32) (o3 : Addr) (kc2 : ClassId) (i3 : Int32) (h0 : Heap) (n0 : Nat) (v : Option Value) (h : Heap) (L : List Loc) : Prop := v = some (.ref o2) ∧ Fr n0 L ∧ h = h0
set_option maxRecDepth 65536 in
set_option maxHeartbeats 40000000 in
theorem rm13_12 (l : Launch) (Z : State) (a0 : Array Value) (hw : ∀ d ∈ tables_1, d.before a0 Z = true) (ws : List Jvm.Cond) (o1 : Addr) (o2 : Addr) (i1 : Int32) (o3 : Addr) (kc2 : ClassId) (i3 : Int32) (h0 : Heap) (n0 : Nat) (Z0 : n0 ≤ h0.size) (S0 : Sta Z h0 "java/lang/String" "COMPACT_STRINGS" "Z" (.int i1)) (Pm1 : Exa Z h0 o2 "java/lang/String") (Pm2 : Fld Z h0 o2 "java/lang/String" "coder" "B" (.int 0)) (Pm3 : Fld Z h0 o2 "java/lang/String" "value" "[B" (.ref o3)) (Pm4 : Arv Z h0 o3 kc2 .byte (1 : Int32) [(.int i3)] (.int 0)) (gn_o2 : n0 ≤ o2) (ne_o2_o3 : o2 ≠ o3) (gn_o3 : n0 ≤ o3) (hy8 : ¬ (i1 = (0 : Int32))) (hy9 : ¬ (i3 = (123 : Int32))) (hy10 : ¬ (i3 = (125 : Int32)))  :
    OwnM l Z nM21 prog_2_method_6_code 2 (some (.object "java/lang/String")) ws ({ frames := 4, cells := 0, slots := 0, locals := 59 } : Room) #[(.ref o1), (.ref o2)] h0 (Q13_12 Z o1 o2 i1 o3 kc2 i3 h0 n0) := by
  refine own_body (plainFor_of_name pn_4) ?_
  intro p e s m below meth c s₁ G hx hby hml hZ hown hnm hret X0 e0 step fin
  replace hown : s.vm.findClass "com/example/dibs/dibs/core/Keyspace" = some m.cls := hown
  have N0 := Fr.nil n0
  have KK : OwnK p e below c _ G := ⟨step, hx, hby⟩
  refine step (s₁.setTop (mkF m 0 #[vr o1, vr o2] [])) (fun t k => castTop (ef_2_2 m o1 o2) k) ?_
  refine oal KK X0 d13_0 (.ref o2) 1 rfl rfl rfl ?_
  refine step (s₁.setTop (mkF m 4 #[vr o1, vr o2] [])) (fun t k => XS.ifnullNo X0.here hx rfl (hb hby d13_1) rfl k) ?_
  refine oal KK X0 d13_4 (.ref o2) 5 rfl rfl rfl ?_
  obtain ⟨cq1, kq1, q1a, q1b, q1c⟩ := isOf hZ e0 Pm1
  obtain ⟨_, _, ⟨T1, L1, k1, n1⟩, -, X1, ⟨Lc1, hQ1, l1, y1, z1⟩, st1⟩ := X0.virtualBack hx (y := nM10) (z := nM10) hown (mvT hZ (ow hw 60 rfl)) (mvT hZ (ow hw 61 rfl)) (notFace_of_selects (args := #[]) (mvT hZ (ow hw 63 rfl))) (mvT hZ (ow hw 63 rfl)) (mvT hZ (ow hw 62 rfl)) (by decide) (backOf (W := 0) (rm14_13 l Z a0 hw [] o2 o3 kc2 i3 h0 n0 Z0 Pm1 Pm3 Pm4 gn_o2 ne_o2_o3 gn_o3 hy9 hy10) hZ (ow hw 64 rfl) (ow hw 6 rfl) (by decide) (by decide)) q1a q1c (g := (mkF m 5 #[vr o1, vr o2] [(.ref o2)])) rfl (by rw [hml]; rfl) (Steps.refl _) (argsL := []) (rest := []) (lenOf pd_15 rfl) rfl (omw rfl rfl) (hb hby d13_5) (fun _ _ => ⟨rfl, e0, (by decide : 0 + 0 ≤ _), (by decide : 0 + 0 ≤ _)⟩)
  dsimp only [Pt.U, Pt.locs, Pt.cells, Pt.slots] at X1 l1 y1 z1 st1 hQ1
  subst l1 y1 z1
  obtain ⟨rfl, N1q, e1q⟩ := hQ1
  have N1 := Fr.app N0 N1q
  refine step (T1.setTop (mkF m 8 #[vr o1, vr o2] [(.int 0)])) (fun t k => st1.trans k) ?_
  refine step (T1.setTop (mkF m 43 #[vr o1, vr o2] [])) (fun t k => XS.ifYes X1.here hx rfl (pc0 := 8) (pc' := 43) rfl (hb hby d13_8) rfl ((if0 _ _).trans (teq (by decide : (0 : Int32) = (0 : Int32))).1) (by decide) (by decide) k) ?_
  refine oal KK X1 d13_43 (.ref o2) 44 rfl rfl rfl ?_
  refine obi KK X1 d13_44 123 46 rfl rfl ?_
  obtain ⟨cq2, kq2, q2a, q2b, q2c⟩ := isOf hZ e1q Pm1
  obtain ⟨_, _, ⟨T2, L2, k2, n2⟩, -, X2, ⟨Lc2, hQ2, l2, y2, z2⟩, st2⟩ := X1.virtualBack hx (y := nM20) (z := nM20) hown (mvT hZ (ow hw 65 rfl)) (mvT hZ (ow hw 66 rfl)) (notFace_of_selects (args := #[]) (mvT hZ (ow hw 68 rfl))) (mvT hZ (ow hw 68 rfl)) (mvT hZ (ow hw 67 rfl)) (by decide) (backOf (W := 0) (rm15_14 l Z a0 hw [] o2 i1 o3 kc2 i3 h0 n0 Z0 S0 Pm1 Pm2 Pm3 Pm4 gn_o2 ne_o2_o3 gn_o3 hy8 hy9 hy10) hZ (ow hw 69 rfl) (ow hw 6 rfl) (by decide) (by decide)) q2a q2c (g := (mkF m 46 #[vr o1, vr o2] [(.int 123), (.ref o2)])) rfl (by rw [hml]; rfl) (Steps.refl _) (argsL := [(.int 123)]) (rest := []) (lenOf pd_18 rfl) rfl (omw rfl rfl) (hb hby d13_46) (fun _ _ => ⟨rfl, e1q, (by decide : 0 + 0 ≤ _), (by decide : 0 + 0 ≤ _)⟩)
  dsimp only [Pt.U, Pt.locs, Pt.cells, Pt.slots] at X2 l2 y2 z2 st2 hQ2
  subst l2 y2 z2
  obtain ⟨rfl, N2q, e2q⟩ := hQ2
  have N2 := Fr.app N1 N2q
  refine step (T2.setTop (mkF m 49 #[vr o1, vr o2] [(.int (-1))])) (fun t k => st2.trans k) ?_
  refine step (T2.setTop (mkF m 52 #[vr o1, vr o2] [])) (fun t k => XS.ifNo X2.here hx rfl (hb hby d13_49) rfl ((if0 _ _).trans (tlt (by decide : (-1 : Int32) < (0 : Int32))).2.1) k) ?_
  refine oal KK X2 d13_52 (.ref o2) 53 rfl rfl rfl ?_
  refine obi KK X2 d13_53 125 55 rfl rfl ?_
  obtain ⟨cq3, kq3, q3a, q3b, q3c⟩ := isOf hZ e2q Pm1
  obtain ⟨_, _, ⟨T3, L3, k3, n3⟩, -, X3, ⟨Lc3, hQ3, l3, y3, z3⟩, st3⟩ := X2.virtualBack hx (y := nM20) (z := nM20) hown (mvT hZ (ow hw 65 rfl)) (mvT hZ (ow hw 66 rfl)) (notFace_of_selects (args := #[]) (mvT hZ (ow hw 68 rfl))) (mvT hZ (ow hw 68 rfl)) (mvT hZ (ow hw 67 rfl)) (by decide) (backOf (W := 0) (rm15_24 l Z a0 hw [] o2 i1 o3 kc2 i3 h0 n0 Z0 S0 Pm1 Pm2 Pm3 Pm4 gn_o2 ne_o2_o3 gn_o3 hy8 hy9 hy10) hZ (ow hw 69 rfl) (ow hw 6 rfl) (by decide) (by decide)) q3a q3c (g := (mkF m 55 #[vr o1, vr o2] [(.int 125), (.ref o2)])) rfl (by rw [hml]; rfl) (Steps.refl _) (argsL := [(.int 125)]) (rest := []) (lenOf pd_18 rfl) rfl (omw rfl rfl) (hb hby d13_55) (fun _ _ => ⟨rfl, e2q, (by decide : 0 + 0 ≤ _), (by decide : 0 + 0 ≤ _)⟩)
  dsimp only [Pt.U, Pt.locs, Pt.cells, Pt.slots] at X3 l3 y3 z3 st3 hQ3
  subst l3 y3 z3
  obtain ⟨rfl, N3q, e3q⟩ := hQ3
  have N3 := Fr.app N2 N3q
  refine step (T3.setTop (mkF m 58 #[vr o1, vr o2] [(.int (-1))])) (fun t k => st3.trans k) ?_
  refine step (T3.setTop (mkF m 97 #[vr o1, vr o2] [])) (fun t k => XS.ifYes X3.here hx rfl (pc0 := 58) (pc' := 97) rfl (hb hby d13_58) rfl ((if0 _ _).trans (tlt (by decide : (-1 : Int32) < (0 : Int32))).1) (by decide) (by decide) k) ?_
  refine oal KK X3 d13_97 (.ref o2) 98 rfl rfl rfl ?_
  refine fin (v := some (.ref o2)) X3 (fun h => by cases h) ?_ (by decide) (by decide) (fun fs hr => X3.areturnOut hx rfl hret rfl (hb hby d13_98) hr)
  show Q13_12 Z o1 o2 i1 o3 kc2 i3 h0 n0 (some (.ref o2)) T3.heap _
  rw [e3q]
  exact ⟨rfl, N3, rfl⟩
theorem d25_0 : decode prog_2_method_1_code 0 = .ok (.aload_n 0, 1) := by decide +kernel
theorem d25_1 : decode prog_2_method_1_code 1 = .ok (.invokespecial 1, 3) := by decide +kernel
theorem d25_4 : decode prog_2_method_1_code 4 = .ok (.aload_n 0, 1) := by decide +kernel
theorem d25_5 : decode prog_2_method_1_code 5 = .ok (.aload_n 1, 1) := by decide +kernel
theorem d25_6 : decode prog_2_method_1_code 6 = .ok (.putfield 7, 3) := by decide +kernel
theorem d25_9 : decode prog_2_method_1_code 9 = .ok (.return_, 1) := by decide +kernel
def Q25_29 (Z : State) (o1 : Addr) (o2 : Addr) (i1 : Int32) (o3 : Addr) (h0 : Heap) (n0 : Nat) (v : Option Value) (h : Heap) (L : List Loc) : Prop := v = none ∧ Fr n0 L ∧ Keep h0 h [o1] ∧ Fld Z h o1 "com/example/dibs/dibs/core/Keyspace" "prefix" "Ljava/lang/String;" (.ref o2)
set_option maxRecDepth 65536 in
set_option maxHeartbeats 40000000 in
theorem rm25_29 (l : Launch) (Z : State) (a0 : Array Value) (hw : ∀ d ∈ tables_1, d.before a0 Z = true) (ws : List Jvm.Cond) (o1 : Addr) (o2 : Addr) (i1 : Int32) (o3 : Addr) (h0 : Heap) (n0 : Nat) (Z0 : n0 ≤ h0.size) (S0 : Sta Z h0 "java/lang/String" "COMPACT_STRINGS" "Z" (.int i1)) (Pm1 : Exa Z h0 o1 "com/example/dibs/dibs/core/Keyspace") (Pm2 : Fld Z h0 o1 "com/example/dibs/dibs/core/Keyspace" "prefix" "Ljava/lang/String;" .null) (Pm3 : Exa Z h0 o2 "java/lang/String") (Pm4 : Fld Z h0 o2 "java/lang/String" "coder" "B" (.int 0)) (Pm5 : Fld Z h0 o2 "java/lang/String" "value" "[B" (.ref o3)) (gn_o1 : n0 ≤ o1) (ne_o1_o2 : o1 ≠ o2) (ne_o1_o3 : o1 ≠ o3) (gn_o2 : n0 ≤ o2) (ne_o2_o3 : o2 ≠ o3) (gn_o3 : n0 ≤ o3) (hy12 : ¬ (i1 = (0 : Int32)))  :
    OwnM l Z nM22 prog_2_method_1_code 2 none ws ({ frames := 1, cells := 0, slots := 0, locals := 12 } : Room) #[(.ref o1), (.ref o2)] h0 (Q25_29 Z o1 o2 i1 o3 h0 n0) := by
  refine own_body (plainFor_of_name pn_4) ?_
  intro p e s m below meth c s₁ G hx hby hml hZ hown hnm hret X0 e0 step fin
  replace hown : s.vm.findClass "com/example/dibs/dibs/core/Keyspace" = some m.cls := hown
  have N0 := Fr.nil n0
  have KK : OwnK p e below c _ G := ⟨step, hx, hby⟩
  refine step (s₁.setTop (mkF m 0 #[vr o1, vr o2] [])) (fun t k => castTop (ef_2_2 m o1 o2) k) ?_
  refine oal KK X0 d25_0 (.ref o1) 1 rfl rfl rfl ?_
  obtain ⟨T1, X1, e1, st1⟩ := initO X0 hx hZ hown (ow hw 109 rfl) (ow hw 16 rfl) (ow hw 17 rfl) e0 (g := (mkF m 1 #[vr o1, vr o2] [(.ref o1)])) rfl (by rw [hml]; rfl) rfl (hb hby d25_1) (by decide) (W := 0) (omw rfl rfl) (by decide)
  refine step (T1.setTop (mkF m 4 #[vr o1, vr o2] [])) (fun t k => st1 t k) ?_
  refine oal KK X1 d25_4 (.ref o1) 5 rfl rfl rfl ?_
  refine oal KK X1 d25_5 (.ref o2) 6 rfl rfl rfl ?_
  obtain ⟨T2, h2, X2, e2, W2, st2⟩ := putF X1 hx hZ hown (host := "") (Or.inl (ow hw 110 rfl)) Via.refl e1 Pm2 Pm1 (Or.inr ⟨(ow hw 111 rfl), rfl, hnm⟩) (ow hw 53 rfl) (ty := (.object "java/lang/String")) (by decide) rfl rfl (g := (mkF m 6 #[vr o1, vr o2] [(.ref o2), (.ref o1)])) rfl rfl (hb hby d25_6)
  have N2 := Fr.snoc X2 N0 gn_o1
  have K2 : Keep h0 h2 [o1] := (Keep.refl h0 [o1]).wr W2 (Or.inl (List.mem_of_getElem? (i := 0) rfl))
  have F2 := Pm2.same W2
  refine step (T2.setTop (mkF m 9 #[vr o1, vr o2] [])) (fun t k => st2 t k) ?_
  refine fin (v := none) X2 (fun _ => rfl) ?_ (by decide) (by decide) (fun fs hr => X2.returnOut hx hret (hb hby d25_9) hr)
  show Q25_29 Z o1 o2 i1 o3 h0 n0 (none) T2.heap _
  rw [e2]
  exact ⟨rfl, N2, K2, F2⟩
def Q12_11 (Z : State) (o1 : Addr) (i1 : Int32) (o2 : Addr) (kc2 : ClassId) (i3 : Int32) (h0 : Heap) (n0 : Nat) (v : Option Value) (h : Heap) (L : List Loc) : Prop := ∃ (b1 : Addr), v = some (.ref b1) ∧ Fr n0 L ∧ Keep h0 h [] ∧ h0.size ≤ b1 ∧ Exa Z h b1 "com/example/dibs/dibs/core/Keyspace" ∧ Fld Z h b1 "com/example/dibs/dibs/core/Keyspace" "prefix" "Ljava/lang/String;" (.ref o1)
set_option maxRecDepth 65536 in
set_option maxHeartbeats 40000000 in
theorem rm12_11 (l : Launch) (Z : State) (a0 : Array Value) (hw : ∀ d ∈ tables_1, d.before a0 Z = true) (ws : List Jvm.Cond) (o1 : Addr) (i1 : Int32) (o2 : Addr) (kc2 : ClassId) (i3 : Int32) (h0 : Heap) (n0 : Nat) (Z0 : n0 ≤ h0.size) (S0 : Sta Z h0 "java/lang/String" "COMPACT_STRINGS" "Z" (.int i1)) (Pm1 : Exa Z h0 o1 "java/lang/String") (Pm2 : Fld Z h0 o1 "java/lang/String" "coder" "B" (.int 0)) (Pm3 : Fld Z h0 o1 "java/lang/String" "value" "[B" (.ref o2)) (Pm4 : Arv Z h0 o2 kc2 .byte (1 : Int32) [(.int i3)] (.int 0)) (gn_o1 : n0 ≤ o1) (ne_o1_o2 : o1 ≠ o2) (gn_o2 : n0 ≤ o2) (hy8 : ¬ (i1 = (0 : Int32))) (hy9 : ¬ (i3 = (123 : Int32))) (hy10 : ¬ (i3 = (125 : Int32)))  :
    OwnMH l Z nM23 prog_2_method_3_code 1 (some (.object "com/example/dibs/dibs/core/Keyspace")) ws ({ frames := 5, cells := 3, slots := 29, locals := 74 } : Room) #[(.ref o1)] h0 own_EL (Q12_11 Z o1 i1 o2 kc2 i3 h0 n0) := by
  refine own_bodyH (own_EWs hw) (plainFor_of_name pn_4) ?_
  intro p e s m below meth c s₁ G vm0 k0 hx hby hml hZ hown hnm hret hS hk hCH0 X0 e0 step fin
  replace hown : vm0.findClass "com/example/dibs/dibs/core/Keyspace" = some m.cls := hown
  have N0 := Fr.nil n0
  have KK : OwnK p e below c _ G := ⟨step, hx, hby⟩
  have C0 := CHr.refl hCH0
  refine step (s₁.setTop (mkF m 0 #[vr o1] [])) (fun t k => castTop (ef_14_13 m o1) k) ?_
  obtain ⟨T1, h1, X1, e1, E1, A1, D1, -, st1⟩ := newO X0 hx hZ hown (ow hw 52 rfl) (ow hw 53 rfl) (ow hw 50 rfl) e0 (g := (mkF m 0 #[vr o1] [])) rfl (hb hby d12_0) (by decide) (by decide)
  obtain ⟨b1, g1⟩ : ∃ z, z = h0.size := ⟨_, rfl⟩
  rw [← g1] at A1 D1 st1
  have ne_o1_b1 : o1 ≠ b1 := Nat.ne_of_lt (Nat.lt_of_lt_of_le Pm1.lt (Nat.le_of_eq g1.symm))
  have ne_o2_b1 : o2 ≠ b1 := Nat.ne_of_lt (Nat.lt_of_lt_of_le Pm4.lt (Nat.le_of_eq g1.symm))
  have gn_b1 : n0 ≤ b1 := Nat.le_trans Z0 (Nat.le_of_eq g1.symm)
  have sz_b1 : h0.size ≤ b1 := Nat.le_of_eq g1.symm
  have Sf1_b1 : Safe Z own_EL vm0 h0 b1 := Safe.new (Nat.le_of_eq g1.symm)
  have K1 : Keep h0 h1 [] := (Keep.refl h0 []).ext E1
  have F_prefix_b1 : Fld Z h1 b1 "com/example/dibs/dibs/core/Keyspace" "prefix" "Ljava/lang/String;" .null := D1 (Or.inr (ow hw 111 rfl)) (ty := (.object "java/lang/String")) (by decide)
  refine step (T1.setTop (mkF m 3 #[vr o1] [(.ref b1)])) (fun t k => st1 t k) ?_
  refine odu KK X1 d12_3 4 rfl rfl ?_
  have C3 := C0.trans (CHr.ext E1 C0.1)
  have Sf3_b1 := Safe.ext E1 C0.1 Sf1_b1
  have hl2_b1 := A1.lt
  obtain ⟨a2, T2, h2, kk2, X2, e2, E2, hS2, hk2, hZ2, hown2, hC2, -, st2⟩ := ldcOH X1 hx hZ hown (ow hw 54 rfl) (own_wS hw) e1 hS (Nat.le_trans hk E1.1) (own_EWs hw) C3.1 (g := (mkF m 4 #[vr o1] [(.ref b1), (.ref b1)])) rfl (hb hby d12_4) (n := 24) (by decide) (by decide) (by decide) (by decide)
  replace hS := hS2
  replace hZ : Z.Warmed39 T2.vm := hZ2
  replace hown : T2.vm.findClass "com/example/dibs/dibs/core/Keyspace" = some m.cls := hown2
  have K2 : Keep h0 h2 [] := K1.ext E2
  have C2 := C3.trans hC2
  have Sf2_b1 := hC2.safe hl2_b1 Sf3_b1
  refine step (T2.setTop (mkF m 6 #[vr o1] [(.ref a2), (.ref b1), (.ref b1)])) (fun t k => st2 t k) ?_
  refine oal KK X2 d12_6 (.ref o1) 7 rfl rfl rfl ?_
  have f4 := ((S0.ext E1).ext E2)
  have f5 := ((Pm1.ext E1).ext E2)
  have f6 := ((Pm2.ext E1).ext E2)
  have f7 := ((Pm3.ext E1).ext E2)
  have f8 := ((Pm4.ext E1).ext E2)
  obtain ⟨_, _, ⟨T9, L9, k9, n9⟩, -, X9, ⟨Lc9, hQ9, l9, y9, z9⟩, st9⟩ := Jvm.LawKit.callS X2 hx (y := nM21) hown (mvT hZ (ow hw 57 rfl)) (mvT hZ (ow hw 58 rfl)) (mvT hZ (ow hw 50 rfl)) (mvT hZ (ow hw 59 rfl)) (by decide) (backOf (W := 2) (rm13_12 l Z a0 hw [] a2 o1 i1 o2 kc2 i3 h2 n0 (Nat.le_trans Z0 K2.1) f4 f5 f6 f7 f8 gn_o1 ne_o1_o2 gn_o2 hy8 hy9 hy10) hZ (ow hw 59 rfl) (ow hw 50 rfl) (by decide) (by decide)) (g := (mkF m 7 #[vr o1] [(.ref o1), (.ref a2), (.ref b1), (.ref b1)])) rfl (by rw [hml]; rfl) (argsL := [(.ref a2), (.ref o1)]) (rest := [(.ref b1), (.ref b1)]) (lenOf pd_4 rfl) rfl (omw rfl rfl) (hb hby d12_7) (fun _ _ => ⟨rfl, e2, (by decide : 3 + 0 ≤ _), (by decide : 29 + 0 ≤ _)⟩)
  dsimp only [Pt.U, Pt.locs, Pt.cells, Pt.slots] at X9 l9 y9 z9 st9 hQ9
  subst l9 y9 z9
  obtain ⟨rfl, N9q, e9q⟩ := hQ9
  have N9 := Fr.app N0 N9q
  refine step (T9.setTop (mkF m 10 #[vr o1] [(.ref o1), (.ref b1), (.ref b1)])) (fun t k => st9 t k) ?_
  have f10 := (A1.ext E2)
  have f11 := (F_prefix_b1.ext E2)
  obtain ⟨_, _, ⟨T12, L12, k12, n12⟩, -, X12, ⟨Lc12, hQ12, l12, y12, z12⟩, st12⟩ := X9.specialBack hx (y := nM22) rfl hown (mvT hZ (ow hw 106 rfl)) (mvT hZ (ow hw 107 rfl)) (mvT hZ (ow hw 108 rfl)) (by decide) (backOf (W := 1) (rm25_29 l Z a0 hw [] b1 o1 i1 o2 h2 n0 (Nat.le_trans Z0 K2.1) f4 f10 f11 f5 f6 f7 gn_b1 (Ne.symm ne_o1_b1) (Ne.symm ne_o2_b1) gn_o1 ne_o1_o2 gn_o2 hy8) hZ (ow hw 108 rfl) (ow hw 50 rfl) (by decide) (by decide)) (g := (mkF m 10 #[vr o1] [(.ref o1), (.ref b1), (.ref b1)])) rfl (by rw [hml]; rfl) (Steps.refl _) (a := b1) (argsL := [(.ref o1)]) (rest := [(.ref b1)]) (lenOf pd_14 rfl) rfl (omw rfl rfl) (hb hby d12_10) (fun _ _ => ⟨rfl, e9q, (by decide : 3 + 0 ≤ _), (by decide : 29 + 0 ≤ _)⟩)
  dsimp only [Pt.U, Pt.locs, Pt.cells, Pt.slots] at X12 l12 y12 z12 st12 hQ12
  subst l12 y12 z12
  obtain ⟨h12, e12⟩ : ∃ z, T12.heap = z := ⟨_, rfl⟩
  rw [e12] at hQ12
  obtain ⟨rfl, N12q, K12q, q0_12⟩ := hQ12
  have N12 := Fr.app N9 N12q
  have K12 : Keep h0 h12 [] := K2.trans K12q (allS (Or.inr sz_b1) all0)
  have f13 := own_staK f4 K12q (allS (own_exaP f10) all0)
  refine step (T12.setTop (mkF m 13 #[vr o1] [(.ref b1)])) (fun t k => st12.trans k) ?_
  have C14 := C2.trans (CHr.keep K12q (allS Sf2_b1 all0) C2.1)
  have Sf14_b1 := Safe.keep K12q (allS Sf2_b1 all0) C2.1 Sf2_b1
  have f15 := (f10.keep K12q)
  refine fin (v := some (.ref b1)) X12 hS (Nat.le_trans (Nat.le_trans hk2 K12q.1) (Nat.le_of_eq (congrArg Array.size e12.symm))) hZ (by rw [e12]; exact C14) (fun h => by cases h) ?_ (by decide) (by decide) (fun fs hr => X12.areturnOut hx rfl hret rfl (hb hby d12_13) hr)
  show Q12_11 Z o1 i1 o2 kc2 i3 h0 n0 (some (.ref b1)) T12.heap _
  rw [e12]
  exact ⟨b1, rfl, N12, K12, sz_b1, f15, q0_12⟩
theorem d26_0 : decode prog_2_method_5_code 0 = .ok (.aload_n 1, 1) := by decide +kernel
theorem d26_1 : decode prog_2_method_5_code 1 = .ok (.invokestatic 27, 3) := by decide +kernel
theorem d26_4 : decode prog_2_method_5_code 4 = .ok (.pop, 1) := by decide +kernel
theorem d26_5 : decode prog_2_method_5_code 5 = .ok (.ldc 31, 2) := by decide +kernel
theorem d26_7 : decode prog_2_method_5_code 7 = .ok (.aload_n 2, 1) := by decide +kernel
theorem d26_8 : decode prog_2_method_5_code 8 = .ok (.invokestatic 18, 3) := by decide +kernel
theorem d26_11 : decode prog_2_method_5_code 11 = .ok (.pop, 1) := by decide +kernel
theorem d26_12 : decode prog_2_method_5_code 12 = .ok (.new 33, 3) := by decide +kernel
theorem d26_15 : decode prog_2_method_5_code 15 = .ok (.dup, 1) := by decide +kernel
theorem d26_16 : decode prog_2_method_5_code 16 = .ok (.invokespecial 35, 3) := by decide +kernel
theorem d26_19 : decode prog_2_method_5_code 19 = .ok (.aload_n 0, 1) := by decide +kernel
theorem d26_20 : decode prog_2_method_5_code 20 = .ok (.getfield 7, 3) := by decide +kernel
theorem d26_23 : decode prog_2_method_5_code 23 = .ok (.invokevirtual 36, 3) := by decide +kernel
theorem d26_26 : decode prog_2_method_5_code 26 = .ok (.ldc 40, 2) := by decide +kernel
theorem d26_28 : decode prog_2_method_5_code 28 = .ok (.invokevirtual 36, 3) := by decide +kernel
theorem d26_31 : decode prog_2_method_5_code 31 = .ok (.aload_n 1, 1) := by decide +kernel
theorem d26_32 : decode prog_2_method_5_code 32 = .ok (.invokevirtual 36, 3) := by decide +kernel
theorem d26_35 : decode prog_2_method_5_code 35 = .ok (.ldc 42, 2) := by decide +kernel
theorem d26_37 : decode prog_2_method_5_code 37 = .ok (.invokevirtual 36, 3) := by decide +kernel
theorem d26_40 : decode prog_2_method_5_code 40 = .ok (.aload_n 2, 1) := by decide +kernel
theorem d26_41 : decode prog_2_method_5_code 41 = .ok (.invokevirtual 36, 3) := by decide +kernel
theorem d26_44 : decode prog_2_method_5_code 44 = .ok (.invokevirtual 44, 3) := by decide +kernel
theorem d26_47 : decode prog_2_method_5_code 47 = .ok (.areturn, 1) := by decide +kernel
theorem pd_24 : parseMethodDescriptor "(Ljava/lang/String;)Ljava/lang/String;" = some ⟨[(.object "java/lang/String")], some (.object "java/lang/String")⟩ := by decide +kernel
theorem d27_0 : decode prog_2_method_4_code 0 = .ok (.ldc 25, 2) := by decide +kernel
theorem d27_2 : decode prog_2_method_4_code 2 = .ok (.aload_n 0, 1) := by decide +kernel
theorem d27_3 : decode prog_2_method_4_code 3 = .ok (.invokestatic 18, 3) := by decide +kernel
theorem d27_6 : decode prog_2_method_4_code 6 = .ok (.areturn, 1) := by decide +kernel
def Q27_31 (Z : State) (o1 : Addr) (i1 : Int32) (o2 : Addr) (kc2 : ClassId) (i3 : Int32) (h0 : Heap) (n0 : Nat) (v : Option Value) (h : Heap) (L : List Loc) : Prop := v = some (.ref o1) ∧ Fr n0 L ∧ Keep h0 h []
set_option maxRecDepth 65536 in
set_option maxHeartbeats 40000000 in
theorem rm27_31 (l : Launch) (Z : State) (a0 : Array Value) (hw : ∀ d ∈ tables_1, d.before a0 Z = true) (ws : List Jvm.Cond) (o1 : Addr) (i1 : Int32) (o2 : Addr) (kc2 : ClassId) (i3 : Int32) (h0 : Heap) (n0 : Nat) (Z0 : n0 ≤ h0.size) (S0 : Sta Z h0 "java/lang/String" "COMPACT_STRINGS" "Z" (.int i1)) (Pm1 : Exa Z h0 o1 "java/lang/String") (Pm2 : Fld Z h0 o1 "java/lang/String" "coder" "B" (.int 0)) (Pm3 : Fld Z h0 o1 "java/lang/String" "value" "[B" (.ref o2)) (Pm4 : Arv Z h0 o2 kc2 .byte (1 : Int32) [(.int i3)] (.int 0)) (gn_o1 : n0 ≤ o1) (ne_o1_o2 : o1 ≠ o2) (gn_o2 : n0 ≤ o2) (hy8 : ¬ (i1 = (0 : Int32))) (hy9 : ¬ (i3 = (123 : Int32))) (hy10 : ¬ (i3 = (125 : Int32)))  :
    OwnMH l Z nM24 prog_2_method_4_code 1 (some (.object "java/lang/String")) ws ({ frames := 5, cells := 2, slots := 20, locals := 72 } : Room) #[(.ref o1)] h0 own_EL (Q27_31 Z o1 i1 o2 kc2 i3 h0 n0) := by
  refine own_bodyH (own_EWs hw) (plainFor_of_name pn_4) ?_
  intro p e s m below meth c s₁ G vm0 k0 hx hby hml hZ hown hnm hret hS hk hCH0 X0 e0 step fin
  replace hown : vm0.findClass "com/example/dibs/dibs/core/Keyspace" = some m.cls := hown
  have N0 := Fr.nil n0
  have KK : OwnK p e below c _ G := ⟨step, hx, hby⟩
  have C0 := CHr.refl hCH0
  refine step (s₁.setTop (mkF m 0 #[vr o1] [])) (fun t k => castTop (ef_14_13 m o1) k) ?_
  obtain ⟨a1, T1, h1, kk1, X1, e1, E1, hS1, hk1, hZ1, hown1, hC1, -, st1⟩ := ldcOH X0 hx hZ hown (ow hw 120 rfl) (own_wS hw) e0 hS hk (own_EWs hw) C0.1 (g := (mkF m 0 #[vr o1] [])) rfl (hb hby d27_0) (n := 16) (by decide) (by decide) (by decide) (by decide)
  replace hS := hS1
  replace hZ : Z.Warmed39 T1.vm := hZ1
  replace hown : T1.vm.findClass "com/example/dibs/dibs/core/Keyspace" = some m.cls := hown1
  have K1 : Keep h0 h1 [] := (Keep.refl h0 []).ext E1
  have C1 := C0.trans hC1
  refine step (T1.setTop (mkF m 2 #[vr o1] [(.ref a1)])) (fun t k => st1 t k) ?_
  refine oal KK X1 d27_2 (.ref o1) 3 rfl rfl rfl ?_
  have f2 := (S0.ext E1)
  have f3 := (Pm1.ext E1)
  have f4 := (Pm2.ext E1)
  have f5 := (Pm3.ext E1)
  have f6 := (Pm4.ext E1)
  obtain ⟨_, _, ⟨T7, L7, k7, n7⟩, -, X7, ⟨Lc7, hQ7, l7, y7, z7⟩, st7⟩ := Jvm.LawKit.callS X1 hx (y := nM21) hown (mvT hZ (ow hw 57 rfl)) (mvT hZ (ow hw 58 rfl)) (mvT hZ (ow hw 50 rfl)) (mvT hZ (ow hw 59 rfl)) (by decide) (backOf (W := 0) (rm13_12 l Z a0 hw [] a1 o1 i1 o2 kc2 i3 h1 n0 (Nat.le_trans Z0 K1.1) f2 f3 f4 f5 f6 gn_o1 ne_o1_o2 gn_o2 hy8 hy9 hy10) hZ (ow hw 59 rfl) (ow hw 50 rfl) (by decide) (by decide)) (g := (mkF m 3 #[vr o1] [(.ref o1), (.ref a1)])) rfl (by rw [hml]; rfl) (argsL := [(.ref a1), (.ref o1)]) (rest := []) (lenOf pd_4 rfl) rfl (omw rfl rfl) (hb hby d27_3) (fun _ _ => ⟨rfl, e1, (by decide : 2 + 0 ≤ _), (by decide : 20 + 0 ≤ _)⟩)
  dsimp only [Pt.U, Pt.locs, Pt.cells, Pt.slots] at X7 l7 y7 z7 st7 hQ7
  subst l7 y7 z7
  obtain ⟨rfl, N7q, e7q⟩ := hQ7
  have N7 := Fr.app N0 N7q
  refine step (T7.setTop (mkF m 6 #[vr o1] [(.ref o1)])) (fun t k => st7 t k) ?_
  refine fin (v := some (.ref o1)) X7 hS (Nat.le_trans hk1 (Nat.le_of_eq (congrArg Array.size e7q.symm))) hZ (by rw [e7q]; exact C1) (fun h => by cases h) ?_ (by decide) (by decide) (fun fs hr => X7.areturnOut hx rfl hret rfl (hb hby d27_6) hr)
  show Q27_31 Z o1 i1 o2 kc2 i3 h0 n0 (some (.ref o1)) T7.heap _
  rw [e7q]
  exact ⟨rfl, N7, K1⟩
theorem d28_0 : decode jdk_67_method_1_code 0 = .ok (.aload_n 0, 1) := by decide +kernel
theorem d28_1 : decode jdk_67_method_1_code 1 = .ok (.bipush 16, 2) := by decide +kernel
theorem d28_3 : decode jdk_67_method_1_code 3 = .ok (.invokespecial 1, 3) := by decide +kernel
theorem d28_6 : decode jdk_67_method_1_code 6 = .ok (.return_, 1) := by decide +kernel
theorem pn_5 : plainName "java/lang/StringBuilder" = true := by first | (simp [plainName, overriddenIn]; done) | decide +kernel
theorem pd_25 : parseMethodDescriptor "(I)V" = some ⟨[.int], none⟩ := by decide +kernel
theorem d29_0 : decode jdk_68_method_2_code 0 = .ok (.aload_n 0, 1) := by decide +kernel
theorem d29_1 : decode jdk_68_method_2_code 1 = .ok (.invokespecial 3, 3) := by decide +kernel
theorem d29_4 : decode jdk_68_method_2_code 4 = .ok (.getstatic 18, 3) := by decide +kernel
theorem d29_7 : decode jdk_68_method_2_code 7 = .ok (.ifCond .eq 18, 3) := by decide +kernel
theorem d29_10 : decode jdk_68_method_2_code 10 = .ok (.aload_n 0, 1) := by decide +kernel
theorem d29_11 : decode jdk_68_method_2_code 11 = .ok (.iload_n 1, 1) := by decide +kernel
theorem d29_12 : decode jdk_68_method_2_code 12 = .ok (.newarray .byte, 2) := by decide +kernel
theorem d29_14 : decode jdk_68_method_2_code 14 = .ok (.putfield 15, 3) := by decide +kernel
theorem d29_17 : decode jdk_68_method_2_code 17 = .ok (.aload_n 0, 1) := by decide +kernel
theorem d29_18 : decode jdk_68_method_2_code 18 = .ok (.iconst 0, 1) := by decide +kernel
theorem d29_19 : decode jdk_68_method_2_code 19 = .ok (.putfield 22, 3) := by decide +kernel
theorem d29_22 : decode jdk_68_method_2_code 22 = .ok (.goto 16, 3) := by decide +kernel
theorem d29_25 : decode jdk_68_method_2_code 25 = .ok (.aload_n 0, 1) := by decide +kernel
theorem d29_26 : decode jdk_68_method_2_code 26 = .ok (.iload_n 1, 1) := by decide +kernel
theorem d29_27 : decode jdk_68_method_2_code 27 = .ok (.invokestatic 26, 3) := by decide +kernel
theorem d29_30 : decode jdk_68_method_2_code 30 = .ok (.putfield 15, 3) := by decide +kernel
theorem d29_33 : decode jdk_68_method_2_code 33 = .ok (.aload_n 0, 1) := by decide +kernel
theorem d29_34 : decode jdk_68_method_2_code 34 = .ok (.iconst 1, 1) := by decide +kernel
theorem d29_35 : decode jdk_68_method_2_code 35 = .ok (.putfield 22, 3) := by decide +kernel
theorem d29_38 : decode jdk_68_method_2_code 38 = .ok (.return_, 1) := by decide +kernel
theorem pn_6 : plainName "java/lang/AbstractStringBuilder" = true := by first | (simp [plainName, overriddenIn]; done) | decide +kernel
theorem ef_29_33 (m : MethodId) (x0 : Addr) : entryFrame m #[(.ref x0), (.int 16)] 2 = mkF m 0 #[.val (.ref x0), .val (.int 16)] [] := by first | (simp [entryFrame, mkF, argsToLocals, Value.category]; done) | rfl
def Q29_33 (Z : State) (o1 : Addr) (i1 : Int32) (h0 : Heap) (n0 : Nat) (v : Option Value) (h : Heap) (L : List Loc) : Prop := ∃ (b4 : Addr) (k4 : ClassId), v = none ∧ Fr n0 L ∧ Keep h0 h [o1] ∧ h0.size ≤ b4 ∧ Fld Z h o1 "java/lang/AbstractStringBuilder" "coder" "B" (.int 0) ∧ Fld Z h o1 "java/lang/AbstractStringBuilder" "count" "I" (.int 0) ∧ Fld Z h o1 "java/lang/AbstractStringBuilder" "value" "[B" (.ref b4) ∧ Arv Z h b4 k4 .byte (16 : Int32) [] (.int 0)
set_option maxRecDepth 65536 in
set_option maxHeartbeats 40000000 in
theorem rm29_33 (l : Launch) (Z : State) (a0 : Array Value) (hw : ∀ d ∈ tables_1, d.before a0 Z = true) (ws : List Jvm.Cond) (o1 : Addr) (i1 : Int32) (h0 : Heap) (n0 : Nat) (Z0 : n0 ≤ h0.size) (S0 : Sta Z h0 "java/lang/String" "COMPACT_STRINGS" "Z" (.int i1)) (Pm1 : Exa Z h0 o1 "java/lang/StringBuilder") (Pm2 : Fld Z h0 o1 "java/lang/AbstractStringBuilder" "coder" "B" (.int 0)) (Pm3 : Fld Z h0 o1 "java/lang/AbstractStringBuilder" "count" "I" (.int 0)) (Pm4 : Fld Z h0 o1 "java/lang/AbstractStringBuilder" "value" "[B" .null) (gn_o1 : n0 ≤ o1) (hy6 : ¬ (i1 = (0 : Int32)))  :
    OwnM l Z nM25 jdk_68_method_2_code 2 none ws ({ frames := 1, cells := 1, slots := 16, locals := 12 } : Room) #[(.ref o1), (.int 16)] h0 (Q29_33 Z o1 i1 h0 n0) := by
  refine own_body (plainFor_of_name pn_6) ?_
  intro p e s m below meth c s₁ G hx hby hml hZ hown hnm hret X0 e0 step fin
  replace hown : s.vm.findClass "java/lang/AbstractStringBuilder" = some m.cls := hown
  have N0 := Fr.nil n0
  have KK : OwnK p e below c _ G := ⟨step, hx, hby⟩
  refine step (s₁.setTop (mkF m 0 #[vr o1, vi 16] [])) (fun t k => castTop (ef_29_33 m o1) k) ?_
  refine oal KK X0 d29_0 (.ref o1) 1 rfl rfl rfl ?_
  obtain ⟨T1, X1, e1, st1⟩ := initO X0 hx hZ hown (ow hw 134 rfl) (ow hw 16 rfl) (ow hw 17 rfl) e0 (g := (mkF m 1 #[vr o1, vi 16] [(.ref o1)])) rfl (by rw [hml]; rfl) rfl (hb hby d29_1) (by decide) (W := 0) (omw rfl rfl) (by decide)
  refine step (T1.setTop (mkF m 4 #[vr o1, vi 16] [])) (fun t k => st1 t k) ?_
  obtain ⟨T2, X2, e2, st2⟩ := getS2 X1 hx hZ hown (host := "") (Or.inl (ow hw 135 rfl)) Via.refl e1 S0 (g := (mkF m 4 #[vr o1, vi 16] [])) rfl (hb hby d29_4)
  refine step (T2.setTop (mkF m 7 #[vr o1, vi 16] [(.int i1)])) (fun t k => st2 t k) ?_
  have hc7_3 : ¬ (i1 = (0 : Int32)) := hy6
  refine step (T2.setTop (mkF m 10 #[vr o1, vi 16] [])) (fun t k => XS.ifNo X2.here hx rfl (hb hby d29_7) rfl ((if0 _ _).trans (feq hc7_3).1) k) ?_
  refine oal KK X2 d29_10 (.ref o1) 11 rfl rfl rfl ?_
  refine oil KK X2 d29_11 (16 : Int32) 12 rfl rfl ?_
  obtain ⟨T4, h4, k4, X4, e4, E4, A4, st4⟩ := newP X2 hx hZ (ow hw 23 rfl) e2 (g := (mkF m 12 #[vr o1, vi 16] [(.int 16), (.ref o1)])) rfl (hb hby d29_12) rfl (by decide) (cap := 16) (by decide) (by decide) (by decide) (by decide)
  obtain ⟨b4, g4⟩ : ∃ z, z = h0.size := ⟨_, rfl⟩
  rw [← g4] at A4 st4
  have ne_o1_b4 : o1 ≠ b4 := Nat.ne_of_lt (Nat.lt_of_lt_of_le Pm1.lt (Nat.le_of_eq g4.symm))
  have gn_b4 : n0 ≤ b4 := Nat.le_trans Z0 (Nat.le_of_eq g4.symm)
  have sz_b4 : h0.size ≤ b4 := Nat.le_of_eq g4.symm
  have K4 : Keep h0 h4 [o1] := (Keep.refl h0 [o1]).ext E4
  have V4 : Arv Z h4 b4 k4 .byte (16 : Int32) [] (.int 0) := Arv.new A4 (by decide)
  refine step (T4.setTop (mkF m 14 #[vr o1, vi 16] [(.ref b4), (.ref o1)])) (fun t k => st4 t k) ?_
  have f5 := (Pm1.ext E4)
  have f6 := (Pm4.ext E4)
  obtain ⟨T7, h7, X7, e7, W7, st7⟩ := putF X4 hx hZ hown (host := "") (Or.inl (ow hw 136 rfl)) Via.refl e4 f6 f5 (Or.inl (ow hw 137 rfl)) (ow hw 123 rfl) (ty := (.array .byte)) (by decide) rfl rfl (g := (mkF m 14 #[vr o1, vi 16] [(.ref b4), (.ref o1)])) rfl rfl (hb hby d29_14)
  have N7 := Fr.snoc X7 N0 gn_o1
  have K7 : Keep h0 h7 [o1] := K4.wr W7 (Or.inl (List.mem_of_getElem? (i := 0) rfl))
  have F7 := f6.same W7
  refine step (T7.setTop (mkF m 17 #[vr o1, vi 16] [])) (fun t k => st7 t k) ?_
  refine oal KK X7 d29_17 (.ref o1) 18 rfl rfl rfl ?_
  refine oic KK X7 d29_18 0 19 rfl rfl ?_
  have f8 := (f5.wr W7)
  have f9 := ((Pm2.ext E4).other W7 (Or.inr (slot_ne (Or.inl (ow hw 139 rfl)) (Or.inl (ow hw 137 rfl)) (by decide) (t := .byte) (t' := (.array .byte)) (by decide) (by decide))))
  obtain ⟨T10, h10, X10, e10, W10, st10⟩ := putFN X7 hx hZ hown (ow hw 138 rfl) Via.refl e7 f9 f8 (Or.inl (ow hw 139 rfl)) (ow hw 123 rfl) (ty := .byte) (v' := (.int 0)) (by decide) rfl (fits_nar_byte (0 : Int32)) (g := (mkF m 19 #[vr o1, vi 16] [(.int 0), (.ref o1)])) rfl rfl (hb hby d29_19)
  have N10 := Fr.snoc X10 N7 gn_o1
  have K10 : Keep h0 h10 [o1] := K7.wr W10 (Or.inl (List.mem_of_getElem? (i := 0) rfl))
  have F10 := f9.same W10
  refine step (T10.setTop (mkF m 22 #[vr o1, vi 16] [])) (fun t k => st10 t k) ?_
  refine ogo KK X10 d29_22 38 (by decide) rfl ?_
  have f11 := (((Pm3.ext E4).other W7 (Or.inr (slot_ne (Or.inl (ow hw 152 rfl)) (Or.inl (ow hw 137 rfl)) (by decide) (t := .int) (t' := (.array .byte)) (by decide) (by decide)))).other W10 (Or.inr (slot_ne (Or.inl (ow hw 152 rfl)) (Or.inl (ow hw 139 rfl)) (by decide) (t := .int) (t' := .byte) (by decide) (by decide))))
  have f12 := (F7.other W10 (Or.inr (slot_ne (Or.inl (ow hw 137 rfl)) (Or.inl (ow hw 139 rfl)) (by decide) (t := (.array .byte)) (t' := .byte) (by decide) (by decide))))
  have f13 := ((V4.other W7 (Ne.symm ne_o1_b4)).other W10 (Ne.symm ne_o1_b4))
  refine fin (v := none) X10 (fun _ => rfl) ?_ (by decide) (by decide) (fun fs hr => X10.returnOut hx hret (hb hby d29_38) hr)
  show Q29_33 Z o1 i1 h0 n0 (none) T10.heap _
  rw [e10]
  exact ⟨b4, k4, rfl, N10, K10, sz_b4, F10, f11, f12, f13⟩
def Q28_32 (Z : State) (o1 : Addr) (i1 : Int32) (h0 : Heap) (n0 : Nat) (v : Option Value) (h : Heap) (L : List Loc) : Prop := ∃ (b4_1 : Addr) (k4_1 : ClassId), v = none ∧ Fr n0 L ∧ Keep h0 h [o1] ∧ h0.size ≤ b4_1 ∧ Fld Z h o1 "java/lang/AbstractStringBuilder" "coder" "B" (.int 0) ∧ Fld Z h o1 "java/lang/AbstractStringBuilder" "count" "I" (.int 0) ∧ Fld Z h o1 "java/lang/AbstractStringBuilder" "value" "[B" (.ref b4_1) ∧ Arv Z h b4_1 k4_1 .byte (16 : Int32) [] (.int 0)
set_option maxRecDepth 65536 in
set_option maxHeartbeats 40000000 in
theorem rm28_32 (l : Launch) (Z : State) (a0 : Array Value) (hw : ∀ d ∈ tables_1, d.before a0 Z = true) (ws : List Jvm.Cond) (o1 : Addr) (i1 : Int32) (h0 : Heap) (n0 : Nat) (Z0 : n0 ≤ h0.size) (S0 : Sta Z h0 "java/lang/String" "COMPACT_STRINGS" "Z" (.int i1)) (Pm1 : Exa Z h0 o1 "java/lang/StringBuilder") (Pm2 : Fld Z h0 o1 "java/lang/AbstractStringBuilder" "coder" "B" (.int 0)) (Pm3 : Fld Z h0 o1 "java/lang/AbstractStringBuilder" "count" "I" (.int 0)) (Pm4 : Fld Z h0 o1 "java/lang/AbstractStringBuilder" "value" "[B" .null) (gn_o1 : n0 ≤ o1) (hy6 : ¬ (i1 = (0 : Int32)))  :
    OwnM l Z nM26 jdk_67_method_1_code 1 none ws ({ frames := 2, cells := 1, slots := 16, locals := 25 } : Room) #[(.ref o1)] h0 (Q28_32 Z o1 i1 h0 n0) := by
  refine own_body (plainFor_of_name pn_5) ?_
  intro p e s m below meth c s₁ G hx hby hml hZ hown hnm hret X0 e0 step fin
  replace hown : s.vm.findClass "java/lang/StringBuilder" = some m.cls := hown
  have N0 := Fr.nil n0
  have KK : OwnK p e below c _ G := ⟨step, hx, hby⟩
  refine step (s₁.setTop (mkF m 0 #[vr o1] [])) (fun t k => castTop (ef_14_13 m o1) k) ?_
  refine oal KK X0 d28_0 (.ref o1) 1 rfl rfl rfl ?_
  refine obi KK X0 d28_1 16 3 rfl rfl ?_
  obtain ⟨_, _, ⟨T1, L1, k1, n1⟩, -, X1, ⟨Lc1, hQ1, l1, y1, z1⟩, st1⟩ := X0.specialBack hx (y := nM25) rfl hown (mvT hZ (ow hw 128 rfl)) (mvT hZ (ow hw 129 rfl)) (mvT hZ (ow hw 133 rfl)) (by decide) (backOf (W := 0) (rm29_33 l Z a0 hw [] o1 i1 h0 n0 Z0 S0 Pm1 Pm2 Pm3 Pm4 gn_o1 hy6) hZ (ow hw 133 rfl) (ow hw 132 rfl) (by decide) (by decide)) (g := (mkF m 3 #[vr o1] [(.int 16), (.ref o1)])) rfl (by rw [hml]; rfl) (Steps.refl _) (a := o1) (argsL := [(.int 16)]) (rest := []) (lenOf pd_25 rfl) rfl (omw rfl rfl) (hb hby d28_3) (fun _ _ => ⟨rfl, e0, (by decide : 0 + 1 ≤ _), (by decide : 0 + 16 ≤ _)⟩)
  dsimp only [Pt.U, Pt.locs, Pt.cells, Pt.slots] at X1 l1 y1 z1 st1 hQ1
  subst l1 y1 z1
  obtain ⟨h1, e1⟩ : ∃ z, T1.heap = z := ⟨_, rfl⟩
  rw [e1] at hQ1
  obtain ⟨b4_1, k4_1, rfl, N1q, K1q, sz_b4_1, q0_1, q1_1, q2_1, q3_1⟩ := hQ1
  have N1 := Fr.app N0 N1q
  have lt1_o1 := Pm1.lt
  have ne_o1_b4_1 : o1 ≠ b4_1 := Nat.ne_of_lt (Nat.lt_of_lt_of_le lt1_o1 sz_b4_1)
  have gn_b4_1 : n0 ≤ b4_1 := Nat.le_trans Z0 sz_b4_1
  have K1 : Keep h0 h1 [o1] := (Keep.refl h0 [o1]).trans K1q (allS (Or.inl (List.mem_of_getElem? (i := 0) rfl)) all0)
  have f2 := own_staK S0 K1q (allS (own_exaP Pm1) all0)
  refine step (T1.setTop (mkF m 6 #[vr o1] [])) (fun t k => st1.trans k) ?_
  refine fin (v := none) X1 (fun _ => rfl) ?_ (by decide) (by decide) (fun fs hr => X1.returnOut hx hret (hb hby d28_6) hr)
  show Q28_32 Z o1 i1 h0 n0 (none) T1.heap _
  rw [e1]
  exact ⟨b4_1, k4_1, rfl, N1, K1, sz_b4_1, q0_1, q1_1, q2_1, q3_1⟩
theorem d30_0 : decode jdk_67_method_7_code 0 = .ok (.aload_n 0, 1) := by decide +kernel
theorem d30_1 : decode jdk_67_method_7_code 1 = .ok (.aload_n 1, 1) := by decide +kernel
theorem d30_2 : decode jdk_67_method_7_code 2 = .ok (.invokespecial 29, 3) := by decide +kernel
theorem d30_5 : decode jdk_67_method_7_code 5 = .ok (.pop, 1) := by decide +kernel
theorem d30_6 : decode jdk_67_method_7_code 6 = .ok (.aload_n 0, 1) := by decide +kernel
theorem d30_7 : decode jdk_67_method_7_code 7 = .ok (.areturn, 1) := by decide +kernel
theorem pd_26 : parseMethodDescriptor "(Ljava/lang/String;)Ljava/lang/AbstractStringBuilder;" = some ⟨[(.object "java/lang/String")], some (.object "java/lang/AbstractStringBuilder")⟩ := by decide +kernel
theorem d31_0 : decode jdk_68_method_22_code 0 = .ok (.aload_n 1, 1) := by decide +kernel
theorem d31_1 : decode jdk_68_method_22_code 1 = .ok (.ifnonnull 8, 3) := by decide +kernel
theorem d31_4 : decode jdk_68_method_22_code 4 = .ok (.aload_n 0, 1) := by decide +kernel
theorem d31_5 : decode jdk_68_method_22_code 5 = .ok (.invokevirtual 204, 3) := by decide +kernel
theorem d31_8 : decode jdk_68_method_22_code 8 = .ok (.areturn, 1) := by decide +kernel
theorem d31_9 : decode jdk_68_method_22_code 9 = .ok (.aload_n 1, 1) := by decide +kernel
theorem d31_10 : decode jdk_68_method_22_code 10 = .ok (.invokevirtual 32, 3) := by decide +kernel
theorem d31_13 : decode jdk_68_method_22_code 13 = .ok (.istore_n 2, 1) := by decide +kernel
theorem d31_14 : decode jdk_68_method_22_code 14 = .ok (.aload_n 0, 1) := by decide +kernel
theorem d31_15 : decode jdk_68_method_22_code 15 = .ok (.aload_n 0, 1) := by decide +kernel
theorem d31_16 : decode jdk_68_method_22_code 16 = .ok (.getfield 79, 3) := by decide +kernel
theorem d31_19 : decode jdk_68_method_22_code 19 = .ok (.iload_n 2, 1) := by decide +kernel
theorem d31_20 : decode jdk_68_method_22_code 20 = .ok (.iadd, 1) := by decide +kernel
theorem d31_21 : decode jdk_68_method_22_code 21 = .ok (.invokevirtual 100, 3) := by decide +kernel
theorem d31_24 : decode jdk_68_method_22_code 24 = .ok (.aload_n 0, 1) := by decide +kernel
theorem d31_25 : decode jdk_68_method_22_code 25 = .ok (.aload_n 0, 1) := by decide +kernel
theorem d31_26 : decode jdk_68_method_22_code 26 = .ok (.getfield 79, 3) := by decide +kernel
theorem d31_29 : decode jdk_68_method_22_code 29 = .ok (.aload_n 1, 1) := by decide +kernel
theorem d31_30 : decode jdk_68_method_22_code 30 = .ok (.invokevirtual 208, 3) := by decide +kernel
theorem d31_33 : decode jdk_68_method_22_code 33 = .ok (.aload_n 0, 1) := by decide +kernel
theorem d31_34 : decode jdk_68_method_22_code 34 = .ok (.dup, 1) := by decide +kernel
theorem d31_35 : decode jdk_68_method_22_code 35 = .ok (.getfield 79, 3) := by decide +kernel
theorem d31_38 : decode jdk_68_method_22_code 38 = .ok (.iload_n 2, 1) := by decide +kernel
theorem d31_39 : decode jdk_68_method_22_code 39 = .ok (.iadd, 1) := by decide +kernel
theorem d31_40 : decode jdk_68_method_22_code 40 = .ok (.putfield 79, 3) := by decide +kernel
theorem d31_43 : decode jdk_68_method_22_code 43 = .ok (.aload_n 0, 1) := by decide +kernel
theorem d31_44 : decode jdk_68_method_22_code 44 = .ok (.areturn, 1) := by decide +kernel
theorem pd_27 : parseMethodDescriptor "(ILjava/lang/String;)V" = some ⟨[.int, (.object "java/lang/String")], none⟩ := by decide +kernel
theorem d32_0 : decode jdk_68_method_9_code 0 = .ok (.aload_n 0, 1) := by decide +kernel
theorem d32_1 : decode jdk_68_method_9_code 1 = .ok (.getfield 15, 3) := by decide +kernel
theorem d32_4 : decode jdk_68_method_9_code 4 = .ok (.arraylength, 1) := by decide +kernel
theorem d32_5 : decode jdk_68_method_9_code 5 = .ok (.aload_n 0, 1) := by decide +kernel
theorem d32_6 : decode jdk_68_method_9_code 6 = .ok (.getfield 22, 3) := by decide +kernel
theorem d32_9 : decode jdk_68_method_9_code 9 = .ok (.ishr, 1) := by decide +kernel
theorem d32_10 : decode jdk_68_method_9_code 10 = .ok (.istore_n 2, 1) := by decide +kernel
theorem d32_11 : decode jdk_68_method_9_code 11 = .ok (.iload_n 1, 1) := by decide +kernel
theorem d32_12 : decode jdk_68_method_9_code 12 = .ok (.iload_n 2, 1) := by decide +kernel
theorem d32_13 : decode jdk_68_method_9_code 13 = .ok (.isub, 1) := by decide +kernel
theorem d32_14 : decode jdk_68_method_9_code 14 = .ok (.ifCond .le 24, 3) := by decide +kernel
theorem d32_17 : decode jdk_68_method_9_code 17 = .ok (.aload_n 0, 1) := by decide +kernel
theorem d32_18 : decode jdk_68_method_9_code 18 = .ok (.aload_n 0, 1) := by decide +kernel
theorem d32_19 : decode jdk_68_method_9_code 19 = .ok (.getfield 15, 3) := by decide +kernel
theorem d32_22 : decode jdk_68_method_9_code 22 = .ok (.aload_n 0, 1) := by decide +kernel
theorem d32_23 : decode jdk_68_method_9_code 23 = .ok (.iload_n 1, 1) := by decide +kernel
theorem d32_24 : decode jdk_68_method_9_code 24 = .ok (.invokevirtual 104, 3) := by decide +kernel
theorem d32_27 : decode jdk_68_method_9_code 27 = .ok (.aload_n 0, 1) := by decide +kernel
theorem d32_28 : decode jdk_68_method_9_code 28 = .ok (.getfield 22, 3) := by decide +kernel
theorem d32_31 : decode jdk_68_method_9_code 31 = .ok (.ishl, 1) := by decide +kernel
theorem d32_32 : decode jdk_68_method_9_code 32 = .ok (.invokestatic 108, 3) := by decide +kernel
theorem d32_35 : decode jdk_68_method_9_code 35 = .ok (.putfield 15, 3) := by decide +kernel
theorem d32_38 : decode jdk_68_method_9_code 38 = .ok (.return_, 1) := by decide +kernel
theorem ef_32_36 (m : MethodId) (x0 : Addr) (x1 : Int32) : entryFrame m #[(.ref x0), (.int x1)] 3 = mkF m 0 #[.val (.ref x0), .val (.int x1), .unset] [] := by first | (simp [entryFrame, mkF, argsToLocals, Value.category]; done) | rfl
def Q32_36 (Z : State) (o1 : Addr) (i1 : Int32) (i2 : Int32) (o2 : Addr) (kc3 : ClassId) (vs4 : List Value) (h0 : Heap) (n0 : Nat) (v : Option Value) (h : Heap) (L : List Loc) : Prop := v = none ∧ Fr n0 L ∧ h = h0
set_option maxRecDepth 65536 in
set_option maxHeartbeats 40000000 in
theorem rm32_36 (l : Launch) (Z : State) (a0 : Array Value) (hw : ∀ d ∈ tables_1, d.before a0 Z = true) (ws : List Jvm.Cond) (o1 : Addr) (i1 : Int32) (i2 : Int32) (o2 : Addr) (kc3 : ClassId) (vs4 : List Value) (h0 : Heap) (n0 : Nat) (Z0 : n0 ≤ h0.size) (Pm0 : Exa Z h0 o1 "java/lang/StringBuilder") (Pm1 : Fld Z h0 o1 "java/lang/AbstractStringBuilder" "coder" "B" (.int 0)) (Pm2 : Fld Z h0 o1 "java/lang/AbstractStringBuilder" "count" "I" (.int i2)) (Pm3 : Fld Z h0 o1 "java/lang/AbstractStringBuilder" "value" "[B" (.ref o2)) (Pm4 : Arv Z h0 o2 kc3 .byte (16 : Int32) vs4 (.int 0)) (gn_o1 : n0 ≤ o1) (ne_o1_o2 : o1 ≠ o2) (gn_o2 : n0 ≤ o2) (hy8 : ¬ ((0 : Int32) < (i1 - (16 : Int32)))) (hy9 : ¬ (i2 < (0 : Int32))) (hy10 : i2.toNatClampNeg + (1 : Int32).toNatClampNeg ≤ (16 : Int32).toNatClampNeg) (hy11 : vs4.length = i2.toNatClampNeg)  :
    OwnM l Z nM27 jdk_68_method_9_code 3 none ws ({ frames := 0, cells := 0, slots := 0, locals := 0 } : Room) #[(.ref o1), (.int i1)] h0 (Q32_36 Z o1 i1 i2 o2 kc3 vs4 h0 n0) := by
  refine own_body (plainFor_of_name pn_6) ?_
  intro p e s m below meth c s₁ G hx hby hml hZ hown hnm hret X0 e0 step fin
  replace hown : s.vm.findClass "java/lang/AbstractStringBuilder" = some m.cls := hown
  have N0 := Fr.nil n0
  have KK : OwnK p e below c _ G := ⟨step, hx, hby⟩
  refine step (s₁.setTop (mkF m 0 #[vr o1, vi i1, .unset] [])) (fun t k => castTop (ef_32_36 m o1 i1) k) ?_
  refine oal KK X0 d32_0 (.ref o1) 1 rfl rfl rfl ?_
  obtain ⟨T1, X1, e1, st1⟩ := getF X0 hx hZ hown (host := "") (Or.inl (ow hw 136 rfl)) Via.refl e0 Pm3 (g := (mkF m 1 #[vr o1, vi i1, .unset] [(.ref o1)])) rfl rfl (hb hby d32_1)
  refine step (T1.setTop (mkF m 4 #[vr o1, vi i1, .unset] [(.ref o2)])) (fun t k => st1 t k) ?_
  obtain ⟨cl2, Ar2, q2, S2, N2n, H2, G2⟩ := id Pm4
  refine step (T1.setTop (mkF m 5 #[vr o1, vi i1, .unset] [(.int 16)])) (fun t k => X1.arraylength hx (by rw [e1]; exact Ar2.1) (State.isArrayOf_alike hZ.alike Ar2.2.1) (g := (mkF m 4 #[vr o1, vi i1, .unset] [(.ref o2)])) rfl rfl (hb hby d32_4) t (by rw [len_of S2 N2n]; exact k)) ?_
  refine oal KK X1 d32_5 (.ref o1) 6 rfl rfl rfl ?_
  obtain ⟨T3, X3, e3, st3⟩ := getF X1 hx hZ hown (host := "") (Or.inl (ow hw 138 rfl)) Via.refl e1 Pm1 (g := (mkF m 6 #[vr o1, vi i1, .unset] [(.ref o1), (.int 16)])) rfl rfl (hb hby d32_6)
  refine step (T3.setTop (mkF m 9 #[vr o1, vi i1, .unset] [(.int 0), (.int 16)])) (fun t k => st3 t k) ?_
  refine step (T3.setTop (mkF m 10 #[vr o1, vi i1, .unset] [(.int 16)])) (fun t k => XS.ishr X3.here hx rfl (hb hby d32_9) rfl k) ?_
  refine ois KK X3 d32_10 #[vr o1, vi i1, vi 16] 11 rfl rfl ?_
  refine oil KK X3 d32_11 i1 12 rfl rfl ?_
  refine oil KK X3 d32_12 (16 : Int32) 13 rfl rfl ?_
  refine step (T3.setTop (mkF m 14 #[vr o1, vi i1, vi 16] [(.int (i1 - (16 : Int32)))])) (fun t k => XS.isub X3.here hx rfl (hb hby d32_13) rfl k) ?_
  have hc14_4 : ¬ ((0 : Int32) < (i1 - (16 : Int32))) := hy8
  refine step (T3.setTop (mkF m 38 #[vr o1, vi i1, vi 16] [])) (fun t k => XS.ifYes X3.here hx rfl (pc0 := 14) (pc' := 38) rfl (hb hby d32_14) rfl ((if0 _ _).trans (flt hc14_4).2.2.2) (by decide) (by decide) k) ?_
  refine fin (v := none) X3 (fun _ => rfl) ?_ (by decide) (by decide) (fun fs hr => X3.returnOut hx hret (hb hby d32_38) hr)
  show Q32_36 Z o1 i1 i2 o2 kc3 vs4 h0 n0 (none) T3.heap _
  rw [e3]
  exact ⟨rfl, N0, rfl⟩
theorem d33_0 : decode jdk_68_method_73_code 0 = .ok (.aload_n 0, 1) := by decide +kernel
theorem d33_1 : decode jdk_68_method_73_code 1 = .ok (.aload_n 2, 1) := by decide +kernel
theorem d33_2 : decode jdk_68_method_73_code 2 = .ok (.invokevirtual 397, 3) := by decide +kernel
theorem d33_5 : decode jdk_68_method_73_code 5 = .ok (.aload_n 2, 1) := by decide +kernel
theorem d33_6 : decode jdk_68_method_73_code 6 = .ok (.aload_n 0, 1) := by decide +kernel
theorem d33_7 : decode jdk_68_method_73_code 7 = .ok (.getfield 15, 3) := by decide +kernel
theorem d33_10 : decode jdk_68_method_73_code 10 = .ok (.iload_n 1, 1) := by decide +kernel
theorem d33_11 : decode jdk_68_method_73_code 11 = .ok (.aload_n 0, 1) := by decide +kernel
theorem d33_12 : decode jdk_68_method_73_code 12 = .ok (.getfield 22, 3) := by decide +kernel
theorem d33_15 : decode jdk_68_method_73_code 15 = .ok (.invokevirtual 399, 3) := by decide +kernel
theorem d33_18 : decode jdk_68_method_73_code 18 = .ok (.return_, 1) := by decide +kernel
theorem pd_28 : parseMethodDescriptor "([BIB)V" = some ⟨[(.array .byte), .int, .byte], none⟩ := by decide +kernel
theorem d34_0 : decode jdk_68_method_71_code 0 = .ok (.getstatic 18, 3) := by decide +kernel
theorem d34_3 : decode jdk_68_method_71_code 3 = .ok (.ifCond .eq 18, 3) := by decide +kernel
theorem d34_6 : decode jdk_68_method_71_code 6 = .ok (.aload_n 0, 1) := by decide +kernel
theorem d34_7 : decode jdk_68_method_71_code 7 = .ok (.getfield 22, 3) := by decide +kernel
theorem d34_10 : decode jdk_68_method_71_code 10 = .ok (.aload_n 1, 1) := by decide +kernel
theorem d34_11 : decode jdk_68_method_71_code 11 = .ok (.invokevirtual 40, 3) := by decide +kernel
theorem d34_14 : decode jdk_68_method_71_code 14 = .ok (.if_icmp .eq 7, 3) := by decide +kernel
theorem d34_17 : decode jdk_68_method_71_code 17 = .ok (.aload_n 0, 1) := by decide +kernel
theorem d34_18 : decode jdk_68_method_71_code 18 = .ok (.invokevirtual 195, 3) := by decide +kernel
theorem d34_21 : decode jdk_68_method_71_code 21 = .ok (.return_, 1) := by decide +kernel
def Q34_38 (Z : State) (o1 : Addr) (o2 : Addr) (i1 : Int32) (h0 : Heap) (n0 : Nat) (v : Option Value) (h : Heap) (L : List Loc) : Prop := v = none ∧ Fr n0 L ∧ h = h0
set_option maxRecDepth 65536 in
set_option maxHeartbeats 40000000 in
theorem rm34_38 (l : Launch) (Z : State) (a0 : Array Value) (hw : ∀ d ∈ tables_1, d.before a0 Z = true) (ws : List Jvm.Cond) (o1 : Addr) (o2 : Addr) (i1 : Int32) (h0 : Heap) (n0 : Nat) (Z0 : n0 ≤ h0.size) (S0 : Sta Z h0 "java/lang/String" "COMPACT_STRINGS" "Z" (.int i1)) (Pm1 : Exa Z h0 o1 "java/lang/StringBuilder") (Pm2 : Fld Z h0 o1 "java/lang/AbstractStringBuilder" "coder" "B" (.int 0)) (Pm3 : Exa Z h0 o2 "java/lang/String") (Pm4 : Fld Z h0 o2 "java/lang/String" "coder" "B" (.int 0)) (gn_o1 : n0 ≤ o1) (ne_o1_o2 : o1 ≠ o2) (gn_o2 : n0 ≤ o2) (hy8 : ¬ (i1 = (0 : Int32)))  :
    OwnM l Z nM28 jdk_68_method_71_code 2 none ws ({ frames := 1, cells := 0, slots := 0, locals := 13 } : Room) #[(.ref o1), (.ref o2)] h0 (Q34_38 Z o1 o2 i1 h0 n0) := by
  refine own_body (plainFor_of_name pn_6) ?_
  intro p e s m below meth c s₁ G hx hby hml hZ hown hnm hret X0 e0 step fin
  replace hown : s.vm.findClass "java/lang/AbstractStringBuilder" = some m.cls := hown
  have N0 := Fr.nil n0
  have KK : OwnK p e below c _ G := ⟨step, hx, hby⟩
  refine step (s₁.setTop (mkF m 0 #[vr o1, vr o2] [])) (fun t k => castTop (ef_2_2 m o1 o2) k) ?_
  obtain ⟨T1, X1, e1, st1⟩ := getS2 X0 hx hZ hown (host := "") (Or.inl (ow hw 135 rfl)) Via.refl e0 S0 (g := (mkF m 0 #[vr o1, vr o2] [])) rfl (hb hby d34_0)
  refine step (T1.setTop (mkF m 3 #[vr o1, vr o2] [(.int i1)])) (fun t k => st1 t k) ?_
  have hc3_2 : ¬ (i1 = (0 : Int32)) := hy8
  refine step (T1.setTop (mkF m 6 #[vr o1, vr o2] [])) (fun t k => XS.ifNo X1.here hx rfl (hb hby d34_3) rfl ((if0 _ _).trans (feq hc3_2).1) k) ?_
  refine oal KK X1 d34_6 (.ref o1) 7 rfl rfl rfl ?_
  obtain ⟨T3, X3, e3, st3⟩ := getF X1 hx hZ hown (host := "") (Or.inl (ow hw 138 rfl)) Via.refl e1 Pm2 (g := (mkF m 7 #[vr o1, vr o2] [(.ref o1)])) rfl rfl (hb hby d34_7)
  refine step (T3.setTop (mkF m 10 #[vr o1, vr o2] [(.int 0)])) (fun t k => st3 t k) ?_
  refine oal KK X3 d34_10 (.ref o2) 11 rfl rfl rfl ?_
  obtain ⟨cq4, kq4, q4a, q4b, q4c⟩ := isOf hZ e3 Pm3
  obtain ⟨_, _, ⟨T4, L4, k4, n4⟩, -, X4, ⟨Lc4, hQ4, l4, y4, z4⟩, st4⟩ := X3.virtualBack hx (y := nM12) (z := nM12) hown (mvT hZ (ow hw 168 rfl)) (mvT hZ (ow hw 86 rfl)) (notFace_of_selects (args := #[]) (mvT hZ (ow hw 88 rfl))) (mvT hZ (ow hw 88 rfl)) (mvT hZ (ow hw 87 rfl)) (by decide) (backOf (W := 1) (rm19_18 l Z a0 hw [] o2 i1 h0 n0 Z0 S0 Pm3 Pm4 gn_o2 hy8) hZ (ow hw 89 rfl) (ow hw 6 rfl) (by decide) (by decide)) q4a q4c (g := (mkF m 11 #[vr o1, vr o2] [(.ref o2), (.int 0)])) rfl (by rw [hml]; rfl) (Steps.refl _) (argsL := []) (rest := [(.int 0)]) (lenOf pd_22 rfl) rfl (omw rfl rfl) (hb hby d34_11) (fun _ _ => ⟨rfl, e3, (by decide : 0 + 0 ≤ _), (by decide : 0 + 0 ≤ _)⟩)
  dsimp only [Pt.U, Pt.locs, Pt.cells, Pt.slots] at X4 l4 y4 z4 st4 hQ4
  subst l4 y4 z4
  obtain ⟨rfl, N4q, e4q⟩ := hQ4
  have N4 := Fr.app N0 N4q
  refine step (T4.setTop (mkF m 14 #[vr o1, vr o2] [(.int 0), (.int 0)])) (fun t k => st4.trans k) ?_
  refine oiy KK X4 d34_14 21 (teq (by decide : (0 : Int32) = (0 : Int32))).1 (by decide) rfl ?_
  refine fin (v := none) X4 (fun _ => rfl) ?_ (by decide) (by decide) (fun fs hr => X4.returnOut hx hret (hb hby d34_21) hr)
  show Q34_38 Z o1 o2 i1 h0 n0 (none) T4.heap _
  rw [e4q]
  exact ⟨rfl, N4, rfl⟩
theorem d35_0 : decode jdk_42_method_147_code 0 = .ok (.aload_n 0, 1) := by decide +kernel
theorem d35_1 : decode jdk_42_method_147_code 1 = .ok (.invokevirtual 335, 3) := by decide +kernel
theorem d35_4 : decode jdk_42_method_147_code 4 = .ok (.iload_n 3, 1) := by decide +kernel
theorem d35_5 : decode jdk_42_method_147_code 5 = .ok (.if_icmp .ne 23, 3) := by decide +kernel
theorem d35_8 : decode jdk_42_method_147_code 8 = .ok (.aload_n 0, 1) := by decide +kernel
theorem d35_9 : decode jdk_42_method_147_code 9 = .ok (.getfield 9, 3) := by decide +kernel
theorem d35_12 : decode jdk_42_method_147_code 12 = .ok (.iconst 0, 1) := by decide +kernel
theorem d35_13 : decode jdk_42_method_147_code 13 = .ok (.aload_n 1, 1) := by decide +kernel
theorem d35_14 : decode jdk_42_method_147_code 14 = .ok (.iload_n 2, 1) := by decide +kernel
theorem d35_15 : decode jdk_42_method_147_code 15 = .ok (.iload_n 3, 1) := by decide +kernel
theorem d35_16 : decode jdk_42_method_147_code 16 = .ok (.ishl, 1) := by decide +kernel
theorem d35_17 : decode jdk_42_method_147_code 17 = .ok (.aload_n 0, 1) := by decide +kernel
theorem d35_18 : decode jdk_42_method_147_code 18 = .ok (.getfield 9, 3) := by decide +kernel
theorem d35_21 : decode jdk_42_method_147_code 21 = .ok (.arraylength, 1) := by decide +kernel
theorem d35_22 : decode jdk_42_method_147_code 22 = .ok (.invokestatic 212, 3) := by decide +kernel
theorem d35_25 : decode jdk_42_method_147_code 25 = .ok (.goto 18, 3) := by decide +kernel
theorem d35_28 : decode jdk_42_method_147_code 28 = .ok (.aload_n 0, 1) := by decide +kernel
theorem d35_29 : decode jdk_42_method_147_code 29 = .ok (.getfield 9, 3) := by decide +kernel
theorem d35_32 : decode jdk_42_method_147_code 32 = .ok (.iconst 0, 1) := by decide +kernel
theorem d35_33 : decode jdk_42_method_147_code 33 = .ok (.aload_n 1, 1) := by decide +kernel
theorem d35_34 : decode jdk_42_method_147_code 34 = .ok (.iload_n 2, 1) := by decide +kernel
theorem d35_35 : decode jdk_42_method_147_code 35 = .ok (.aload_n 0, 1) := by decide +kernel
theorem d35_36 : decode jdk_42_method_147_code 36 = .ok (.getfield 9, 3) := by decide +kernel
theorem d35_39 : decode jdk_42_method_147_code 39 = .ok (.arraylength, 1) := by decide +kernel
theorem d35_40 : decode jdk_42_method_147_code 40 = .ok (.invokestatic 106, 3) := by decide +kernel
theorem d35_43 : decode jdk_42_method_147_code 43 = .ok (.return_, 1) := by decide +kernel
theorem pd_29 : parseMethodDescriptor "(Ljava/lang/Object;ILjava/lang/Object;II)V" = some ⟨[(.object "java/lang/Object"), .int, (.object "java/lang/Object"), .int, .int], none⟩ := by decide +kernel
theorem ef_35_39 (m : MethodId) (x0 : Addr) (x1 : Addr) (x2 : Int32) : entryFrame m #[(.ref x0), (.ref x1), (.int x2), (.int 0)] 4 = mkF m 0 #[.val (.ref x0), .val (.ref x1), .val (.int x2), .val (.int 0)] [] := by first | (simp [entryFrame, mkF, argsToLocals, Value.category]; done) | rfl
def Q35_39 (Z : State) (o1 : Addr) (o2 : Addr) (i1 : Int32) (i2 : Int32) (o3 : Addr) (kc3 : ClassId) (vs4 : List Value) (kc5 : ClassId) (i6 : Int32) (h0 : Heap) (n0 : Nat) (v : Option Value) (h : Heap) (L : List Loc) : Prop := v = none ∧ Fr n0 L ∧ Keep h0 h [o2] ∧ Arv Z h o2 kc3 .byte (16 : Int32) (vs4 ++ [(.int i6)]) (.int 0)
set_option maxRecDepth 65536 in
set_option maxHeartbeats 40000000 in
theorem rm35_39 (l : Launch) (Z : State) (a0 : Array Value) (hw : ∀ d ∈ tables_1, d.before a0 Z = true) (ws : List Jvm.Cond) (o1 : Addr) (o2 : Addr) (i1 : Int32) (i2 : Int32) (o3 : Addr) (kc3 : ClassId) (vs4 : List Value) (kc5 : ClassId) (i6 : Int32) (h0 : Heap) (n0 : Nat) (Z0 : n0 ≤ h0.size) (S0 : Sta Z h0 "java/lang/String" "COMPACT_STRINGS" "Z" (.int i2)) (Pm1 : Exa Z h0 o1 "java/lang/String") (Pm2 : Fld Z h0 o1 "java/lang/String" "coder" "B" (.int 0)) (Pm3 : Fld Z h0 o1 "java/lang/String" "value" "[B" (.ref o3)) (Pm4 : Arv Z h0 o2 kc3 .byte (16 : Int32) vs4 (.int 0)) (Pm5 : Arv Z h0 o3 kc5 .byte (1 : Int32) [(.int i6)] (.int 0)) (gn_o1 : n0 ≤ o1) (ne_o1_o2 : o1 ≠ o2) (ne_o1_o3 : o1 ≠ o3) (gn_o2 : n0 ≤ o2) (ne_o2_o3 : o2 ≠ o3) (gn_o3 : n0 ≤ o3) (hy12 : ¬ ((0 : Int32) < ((i1 + (1 : Int32)) - (16 : Int32)))) (hy13 : ¬ (i1 < (0 : Int32))) (hy14 : i1.toNatClampNeg + (1 : Int32).toNatClampNeg ≤ (16 : Int32).toNatClampNeg) (hy15 : ¬ (i2 = (0 : Int32))) (hy16 : ¬ (i6 = (123 : Int32))) (hy17 : ¬ (i6 = (125 : Int32))) (hy18 : vs4.length = i1.toNatClampNeg)  :
    OwnM l Z nM29 jdk_42_method_147_code 4 none ws ({ frames := 1, cells := 0, slots := 0, locals := 18 } : Room) #[(.ref o1), (.ref o2), (.int i1), (.int 0)] h0 (Q35_39 Z o1 o2 i1 i2 o3 kc3 vs4 kc5 i6 h0 n0) := by
  refine own_body (plainFor_of_name pn_1) ?_
  intro p e s m below meth c s₁ G hx hby hml hZ hown hnm hret X0 e0 step fin
  replace hown : s.vm.findClass "java/lang/String" = some m.cls := hown
  have N0 := Fr.nil n0
  have KK : OwnK p e below c _ G := ⟨step, hx, hby⟩
  refine step (s₁.setTop (mkF m 0 #[vr o1, vr o2, vi i1, vi 0] [])) (fun t k => castTop (ef_35_39 m o1 o2 i1) k) ?_
  refine oal KK X0 d35_0 (.ref o1) 1 rfl rfl rfl ?_
  obtain ⟨cq1, kq1, q1a, q1b, q1c⟩ := isOf hZ e0 Pm1
  obtain ⟨_, _, ⟨T1, L1, k1, n1⟩, -, X1, ⟨Lc1, hQ1, l1, y1, z1⟩, st1⟩ := X0.virtualBack hx (y := nM12) (z := nM12) hown (mvT hZ (ow hw 85 rfl)) (mvT hZ (ow hw 86 rfl)) (notFace_of_selects (args := #[]) (mvT hZ (ow hw 88 rfl))) (mvT hZ (ow hw 88 rfl)) (mvT hZ (ow hw 87 rfl)) (by decide) (backOf (W := 0) (rm19_18 l Z a0 hw [] o1 i2 h0 n0 Z0 S0 Pm1 Pm2 gn_o1 hy15) hZ (ow hw 89 rfl) (ow hw 6 rfl) (by decide) (by decide)) q1a q1c (g := (mkF m 1 #[vr o1, vr o2, vi i1, vi 0] [(.ref o1)])) rfl (by rw [hml]; rfl) (Steps.refl _) (argsL := []) (rest := []) (lenOf pd_22 rfl) rfl (omw rfl rfl) (hb hby d35_1) (fun _ _ => ⟨rfl, e0, (by decide : 0 + 0 ≤ _), (by decide : 0 + 0 ≤ _)⟩)
  dsimp only [Pt.U, Pt.locs, Pt.cells, Pt.slots] at X1 l1 y1 z1 st1 hQ1
  subst l1 y1 z1
  obtain ⟨rfl, N1q, e1q⟩ := hQ1
  have N1 := Fr.app N0 N1q
  refine step (T1.setTop (mkF m 4 #[vr o1, vr o2, vi i1, vi 0] [(.int 0)])) (fun t k => st1.trans k) ?_
  refine oil KK X1 d35_4 (0 : Int32) 5 rfl rfl ?_
  refine oin KK X1 d35_5 8 rfl (teq (by decide : (0 : Int32) = (0 : Int32))).2 ?_
  refine oal KK X1 d35_8 (.ref o1) 9 rfl rfl rfl ?_
  obtain ⟨T2, X2, e2, st2⟩ := getF X1 hx hZ hown (host := "") (Or.inl (ow hw 32 rfl)) Via.refl e1q Pm3 (g := (mkF m 9 #[vr o1, vr o2, vi i1, vi 0] [(.ref o1)])) rfl rfl (hb hby d35_9)
  refine step (T2.setTop (mkF m 12 #[vr o1, vr o2, vi i1, vi 0] [(.ref o3)])) (fun t k => st2 t k) ?_
  refine oic KK X2 d35_12 0 13 rfl rfl ?_
  refine oal KK X2 d35_13 (.ref o2) 14 rfl rfl rfl ?_
  refine oil KK X2 d35_14 i1 15 rfl rfl ?_
  refine oil KK X2 d35_15 (0 : Int32) 16 rfl rfl ?_
  refine step (T2.setTop (mkF m 17 #[vr o1, vr o2, vi i1, vi 0] [(.int (i1 <<< ((0 : Int32) &&& 31))), (.ref o2), (.int 0), (.ref o3)])) (fun t k => XS.ishl X2.here hx rfl (hb hby d35_16) rfl k) ?_
  rw [own_shl0 i1]
  refine oal KK X2 d35_17 (.ref o1) 18 rfl rfl rfl ?_
  obtain ⟨T3, X3, e3, st3⟩ := getF X2 hx hZ hown (host := "") (Or.inl (ow hw 32 rfl)) Via.refl e2 Pm3 (g := (mkF m 18 #[vr o1, vr o2, vi i1, vi 0] [(.ref o1), (.int i1), (.ref o2), (.int 0), (.ref o3)])) rfl rfl (hb hby d35_18)
  refine step (T3.setTop (mkF m 21 #[vr o1, vr o2, vi i1, vi 0] [(.ref o3), (.int i1), (.ref o2), (.int 0), (.ref o3)])) (fun t k => st3 t k) ?_
  obtain ⟨cl4, Ar4, q4, S4, N4n, H4, G4⟩ := id Pm5
  refine step (T3.setTop (mkF m 22 #[vr o1, vr o2, vi i1, vi 0] [(.int 1), (.int i1), (.ref o2), (.int 0), (.ref o3)])) (fun t k => X3.arraylength hx (by rw [e3]; exact Ar4.1) (State.isArrayOf_alike hZ.alike Ar4.2.1) (g := (mkF m 21 #[vr o1, vr o2, vi i1, vi 0] [(.ref o3), (.int i1), (.ref o2), (.int 0), (.ref o3)])) rfl rfl (hb hby d35_21) t (by rw [len_of S4 N4n]; exact k)) ?_
  obtain ⟨T5, h5, L5, X5, e5, N5, K5q, Vq5, st5⟩ := cpA X3 hx hZ hown (ow hw 174 rfl) (ow hw 177 rfl) (ow hw 175 rfl) (ow hw 176 rfl) e3 Pm5 (Pm4.pad (pad_rep vs4 (.int 0) 1)) (us := [(.int i6)]) (Or.inl ⟨rfl, rfl⟩) (by decide) hy13 (by decide) (by decide) hy14 rfl (own_hl hy18) N1 gn_o2 (g := (mkF m 22 #[vr o1, vr o2, vi i1, vi 0] [(.int 1), (.int i1), (.ref o2), (.int 0), (.ref o3)])) rfl (by rw [hml]; rfl) (rest := []) rfl (hb hby d35_22) (by decide) (W := 0) (omw rfl rfl) (by decide)
  have K5 : Keep h0 h5 [o2] := (Keep.refl h0 [o2]).trans K5q (allS (Or.inl (List.mem_of_getElem? (i := 0) rfl)) all0)
  have f6 := own_staK S0 K5q (allS (own_arvP Pm4) all0)
  have V5 : Arv Z h5 o2 kc3 .byte (16 : Int32) (vs4 ++ [(.int i6)]) (.int 0) := own_arvA hy18 rfl Vq5
  refine step (T5.setTop (mkF m 25 #[vr o1, vr o2, vi i1, vi 0] [])) (fun t k => st5 t k) ?_
  refine ogo KK X5 d35_25 43 (by decide) rfl ?_
  refine fin (v := none) X5 (fun _ => rfl) ?_ (by decide) (by decide) (fun fs hr => X5.returnOut hx hret (hb hby d35_43) hr)
  show Q35_39 Z o1 o2 i1 i2 o3 kc3 vs4 kc5 i6 h0 n0 (none) T5.heap _
  rw [e5]
  exact ⟨rfl, N5, K5, V5⟩
theorem ef_33_37 (m : MethodId) (x0 : Addr) (x1 : Int32) (x2 : Addr) : entryFrame m #[(.ref x0), (.int x1), (.ref x2)] 3 = mkF m 0 #[.val (.ref x0), .val (.int x1), .val (.ref x2)] [] := by first | (simp [entryFrame, mkF, argsToLocals, Value.category]; done) | rfl
def Q33_37 (Z : State) (o1 : Addr) (i1 : Int32) (o2 : Addr) (i2 : Int32) (o3 : Addr) (o4 : Addr) (kc3 : ClassId) (vs4 : List Value) (kc5 : ClassId) (i6 : Int32) (h0 : Heap) (n0 : Nat) (v : Option Value) (h : Heap) (L : List Loc) : Prop := v = none ∧ Fr n0 L ∧ Keep h0 h [o3] ∧ Arv Z h o3 kc3 .byte (16 : Int32) (vs4 ++ [(.int i6)]) (.int 0)
set_option maxRecDepth 65536 in
set_option maxHeartbeats 40000000 in
theorem rm33_37 (l : Launch) (Z : State) (a0 : Array Value) (hw : ∀ d ∈ tables_1, d.before a0 Z = true) (ws : List Jvm.Cond) (o1 : Addr) (i1 : Int32) (o2 : Addr) (i2 : Int32) (o3 : Addr) (o4 : Addr) (kc3 : ClassId) (vs4 : List Value) (kc5 : ClassId) (i6 : Int32) (h0 : Heap) (n0 : Nat) (Z0 : n0 ≤ h0.size) (S0 : Sta Z h0 "java/lang/String" "COMPACT_STRINGS" "Z" (.int i2)) (Pm1 : Exa Z h0 o1 "java/lang/StringBuilder") (Pm2 : Fld Z h0 o1 "java/lang/AbstractStringBuilder" "coder" "B" (.int 0)) (Pm3 : Fld Z h0 o1 "java/lang/AbstractStringBuilder" "value" "[B" (.ref o3)) (Pm4 : Exa Z h0 o2 "java/lang/String") (Pm5 : Fld Z h0 o2 "java/lang/String" "coder" "B" (.int 0)) (Pm6 : Fld Z h0 o2 "java/lang/String" "value" "[B" (.ref o4)) (Pm7 : Arv Z h0 o3 kc3 .byte (16 : Int32) vs4 (.int 0)) (Pm8 : Arv Z h0 o4 kc5 .byte (1 : Int32) [(.int i6)] (.int 0)) (gn_o1 : n0 ≤ o1) (ne_o1_o2 : o1 ≠ o2) (ne_o1_o3 : o1 ≠ o3) (ne_o1_o4 : o1 ≠ o4) (gn_o2 : n0 ≤ o2) (ne_o2_o3 : o2 ≠ o3) (ne_o2_o4 : o2 ≠ o4) (gn_o3 : n0 ≤ o3) (ne_o3_o4 : o3 ≠ o4) (gn_o4 : n0 ≤ o4) (hy19 : ¬ ((0 : Int32) < ((i1 + (1 : Int32)) - (16 : Int32)))) (hy20 : ¬ (i2 = (0 : Int32))) (hy21 : ¬ (i1 < (0 : Int32))) (hy22 : i1.toNatClampNeg + (1 : Int32).toNatClampNeg ≤ (16 : Int32).toNatClampNeg) (hy23 : ¬ (i6 = (123 : Int32))) (hy24 : ¬ (i6 = (125 : Int32))) (hy25 : vs4.length = i1.toNatClampNeg)  :
    OwnM l Z nM30 jdk_68_method_73_code 3 none ws ({ frames := 2, cells := 0, slots := 0, locals := 33 } : Room) #[(.ref o1), (.int i1), (.ref o2)] h0 (Q33_37 Z o1 i1 o2 i2 o3 o4 kc3 vs4 kc5 i6 h0 n0) := by
  refine own_body (plainFor_of_name pn_6) ?_
  intro p e s m below meth c s₁ G hx hby hml hZ hown hnm hret X0 e0 step fin
  replace hown : s.vm.findClass "java/lang/AbstractStringBuilder" = some m.cls := hown
  have N0 := Fr.nil n0
  have KK : OwnK p e below c _ G := ⟨step, hx, hby⟩
  refine step (s₁.setTop (mkF m 0 #[vr o1, vi i1, vr o2] [])) (fun t k => castTop (ef_33_37 m o1 i1 o2) k) ?_
  refine oal KK X0 d33_0 (.ref o1) 1 rfl rfl rfl ?_
  refine oal KK X0 d33_1 (.ref o2) 2 rfl rfl rfl ?_
  obtain ⟨cq1, q1, q1'⟩ := Pm1.cell
  obtain ⟨_, _, ⟨T1, L1, k1, n1⟩, -, X1, ⟨Lc1, hQ1, l1, y1, z1⟩, st1⟩ := X0.privateBack hx (y := nM28) hown (mvT hZ (ow hw 163 rfl)) (mvT hZ (ow hw 164 rfl)) (own_selP2 (mvT hZ (ow hw 166 rfl)) (mvT hZ (ow hw 164 rfl)) (Cond.privateMethod_at (mvP hZ (ow hw 165 rfl) (args := #[]))) (by decide)) (Cond.privateMethod_at (mvP hZ (ow hw 165 rfl) (args := #[]))) (mvT hZ (ow hw 167 rfl)) (by decide) (backOf (W := 0) (rm34_38 l Z a0 hw [] o1 o2 i2 h0 n0 Z0 S0 Pm1 Pm2 Pm4 Pm5 gn_o1 ne_o1_o2 gn_o2 hy20) hZ (ow hw 167 rfl) (ow hw 132 rfl) (by decide) (by decide)) (g := (mkF m 2 #[vr o1, vi i1, vr o2] [(.ref o2), (.ref o1)])) rfl (by rw [hml]; rfl) (Steps.refl _) (a := o1) (by rw [e0]; exact q1) q1' (argsL := [(.ref o2)]) (rest := []) (lenOf pd_14 rfl) rfl (omw rfl rfl) (hb hby d33_2) (fun _ _ => ⟨rfl, e0, (by decide : 0 + 0 ≤ _), (by decide : 0 + 0 ≤ _)⟩)
  dsimp only [Pt.U, Pt.locs, Pt.cells, Pt.slots] at X1 l1 y1 z1 st1 hQ1
  subst l1 y1 z1
  obtain ⟨rfl, N1q, e1q⟩ := hQ1
  have N1 := Fr.app N0 N1q
  refine step (T1.setTop (mkF m 5 #[vr o1, vi i1, vr o2] [])) (fun t k => st1.trans k) ?_
  refine oal KK X1 d33_5 (.ref o2) 6 rfl rfl rfl ?_
  refine oal KK X1 d33_6 (.ref o1) 7 rfl rfl rfl ?_
  obtain ⟨T2, X2, e2, st2⟩ := getF X1 hx hZ hown (host := "") (Or.inl (ow hw 136 rfl)) Via.refl e1q Pm3 (g := (mkF m 7 #[vr o1, vi i1, vr o2] [(.ref o1), (.ref o2)])) rfl rfl (hb hby d33_7)
  refine step (T2.setTop (mkF m 10 #[vr o1, vi i1, vr o2] [(.ref o3), (.ref o2)])) (fun t k => st2 t k) ?_
  refine oil KK X2 d33_10 i1 11 rfl rfl ?_
  refine oal KK X2 d33_11 (.ref o1) 12 rfl rfl rfl ?_
  obtain ⟨T3, X3, e3, st3⟩ := getF X2 hx hZ hown (host := "") (Or.inl (ow hw 138 rfl)) Via.refl e2 Pm2 (g := (mkF m 12 #[vr o1, vi i1, vr o2] [(.ref o1), (.int i1), (.ref o3), (.ref o2)])) rfl rfl (hb hby d33_12)
  refine step (T3.setTop (mkF m 15 #[vr o1, vi i1, vr o2] [(.int 0), (.int i1), (.ref o3), (.ref o2)])) (fun t k => st3 t k) ?_
  obtain ⟨cq4, kq4, q4a, q4b, q4c⟩ := isOf hZ e3 Pm4
  obtain ⟨_, _, ⟨T4, L4, k4, n4⟩, -, X4, ⟨Lc4, hQ4, l4, y4, z4⟩, st4⟩ := X3.virtualBack hx (y := nM29) (z := nM29) hown (mvT hZ (ow hw 169 rfl)) (mvT hZ (ow hw 170 rfl)) (notFace_of_selects (args := #[]) (mvT hZ (ow hw 172 rfl))) (mvT hZ (ow hw 172 rfl)) (mvT hZ (ow hw 171 rfl)) (by decide) (backOf (W := 0) (rm35_39 l Z a0 hw [] o2 o3 i1 i2 o4 kc3 vs4 kc5 i6 h0 n0 Z0 S0 Pm4 Pm5 Pm6 Pm7 Pm8 gn_o2 ne_o2_o3 ne_o2_o4 gn_o3 ne_o3_o4 gn_o4 hy19 hy21 hy22 hy20 hy23 hy24 hy25) hZ (ow hw 173 rfl) (ow hw 6 rfl) (by decide) (by decide)) q4a q4c (g := (mkF m 15 #[vr o1, vi i1, vr o2] [(.int 0), (.int i1), (.ref o3), (.ref o2)])) rfl (by rw [hml]; rfl) (Steps.refl _) (argsL := [(.ref o3), (.int i1), (.int 0)]) (rest := []) (lenOf pd_28 rfl) rfl (omw rfl rfl) (hb hby d33_15) (fun _ _ => ⟨rfl, e3, (by decide : 0 + 0 ≤ _), (by decide : 0 + 0 ≤ _)⟩)
  dsimp only [Pt.U, Pt.locs, Pt.cells, Pt.slots] at X4 l4 y4 z4 st4 hQ4
  subst l4 y4 z4
  obtain ⟨h4, e4⟩ : ∃ z, T4.heap = z := ⟨_, rfl⟩
  rw [e4] at hQ4
  obtain ⟨rfl, N4q, K4q, q0_4⟩ := hQ4
  have N4 := Fr.app N1 N4q
  have K4 : Keep h0 h4 [o3] := (Keep.refl h0 [o3]).trans K4q (allS (Or.inl (List.mem_of_getElem? (i := 0) rfl)) all0)
  have f5 := own_staK S0 K4q (allS (own_arvP Pm7) all0)
  refine step (T4.setTop (mkF m 18 #[vr o1, vi i1, vr o2] [])) (fun t k => st4.trans k) ?_
  refine fin (v := none) X4 (fun _ => rfl) ?_ (by decide) (by decide) (fun fs hr => X4.returnOut hx hret (hb hby d33_18) hr)
  show Q33_37 Z o1 i1 o2 i2 o3 o4 kc3 vs4 kc5 i6 h0 n0 (none) T4.heap _
  rw [e4]
  exact ⟨rfl, N4, K4, q0_4⟩
theorem ef_31_35 (m : MethodId) (x0 : Addr) (x1 : Addr) : entryFrame m #[(.ref x0), (.ref x1)] 3 = mkF m 0 #[.val (.ref x0), .val (.ref x1), .unset] [] := by first | (simp [entryFrame, mkF, argsToLocals, Value.category]; done) | rfl
def Q31_35 (Z : State) (o1 : Addr) (o2 : Addr) (i1 : Int32) (i2 : Int32) (o3 : Addr) (o4 : Addr) (kc3 : ClassId) (vs4 : List Value) (kc5 : ClassId) (i6 : Int32) (h0 : Heap) (n0 : Nat) (v : Option Value) (h : Heap) (L : List Loc) : Prop := v = some (.ref o1) ∧ Fr n0 L ∧ Keep h0 h [o3, o1] ∧ Arv Z h o3 kc3 .byte (16 : Int32) (vs4 ++ [(.int i6)]) (.int 0) ∧ Fld Z h o1 "java/lang/AbstractStringBuilder" "coder" "B" (.int 0) ∧ Fld Z h o1 "java/lang/AbstractStringBuilder" "count" "I" (.int (i2 + (1 : Int32))) ∧ Fld Z h o1 "java/lang/AbstractStringBuilder" "value" "[B" (.ref o3)
set_option maxRecDepth 65536 in
set_option maxHeartbeats 40000000 in
theorem rm31_35 (l : Launch) (Z : State) (a0 : Array Value) (hw : ∀ d ∈ tables_1, d.before a0 Z = true) (ws : List Jvm.Cond) (o1 : Addr) (o2 : Addr) (i1 : Int32) (i2 : Int32) (o3 : Addr) (o4 : Addr) (kc3 : ClassId) (vs4 : List Value) (kc5 : ClassId) (i6 : Int32) (h0 : Heap) (n0 : Nat) (Z0 : n0 ≤ h0.size) (S0 : Sta Z h0 "java/lang/String" "COMPACT_STRINGS" "Z" (.int i1)) (Pm1 : Exa Z h0 o1 "java/lang/StringBuilder") (Pm2 : Fld Z h0 o1 "java/lang/AbstractStringBuilder" "coder" "B" (.int 0)) (Pm3 : Fld Z h0 o1 "java/lang/AbstractStringBuilder" "count" "I" (.int i2)) (Pm4 : Fld Z h0 o1 "java/lang/AbstractStringBuilder" "value" "[B" (.ref o3)) (Pm5 : Exa Z h0 o2 "java/lang/String") (Pm6 : Fld Z h0 o2 "java/lang/String" "coder" "B" (.int 0)) (Pm7 : Fld Z h0 o2 "java/lang/String" "value" "[B" (.ref o4)) (Pm8 : Arv Z h0 o3 kc3 .byte (16 : Int32) vs4 (.int 0)) (Pm9 : Arv Z h0 o4 kc5 .byte (1 : Int32) [(.int i6)] (.int 0)) (gn_o1 : n0 ≤ o1) (ne_o1_o2 : o1 ≠ o2) (ne_o1_o3 : o1 ≠ o3) (ne_o1_o4 : o1 ≠ o4) (gn_o2 : n0 ≤ o2) (ne_o2_o3 : o2 ≠ o3) (ne_o2_o4 : o2 ≠ o4) (gn_o3 : n0 ≤ o3) (ne_o3_o4 : o3 ≠ o4) (gn_o4 : n0 ≤ o4) (hy20 : ¬ ((0 : Int32) < ((i2 + (1 : Int32)) - (16 : Int32)))) (hy21 : ¬ (i2 < (0 : Int32))) (hy22 : i2.toNatClampNeg + (1 : Int32).toNatClampNeg ≤ (16 : Int32).toNatClampNeg) (hy23 : ¬ (i1 = (0 : Int32))) (hy24 : ¬ (i6 = (123 : Int32))) (hy25 : ¬ (i6 = (125 : Int32))) (hy26 : vs4.length = i2.toNatClampNeg)  :
    OwnM l Z nM31 jdk_68_method_22_code 3 (some (.object "java/lang/AbstractStringBuilder")) ws ({ frames := 3, cells := 0, slots := 0, locals := 47 } : Room) #[(.ref o1), (.ref o2)] h0 (Q31_35 Z o1 o2 i1 i2 o3 o4 kc3 vs4 kc5 i6 h0 n0) := by
  refine own_body (plainFor_of_name pn_6) ?_
  intro p e s m below meth c s₁ G hx hby hml hZ hown hnm hret X0 e0 step fin
  replace hown : s.vm.findClass "java/lang/AbstractStringBuilder" = some m.cls := hown
  have N0 := Fr.nil n0
  have KK : OwnK p e below c _ G := ⟨step, hx, hby⟩
  refine step (s₁.setTop (mkF m 0 #[vr o1, vr o2, .unset] [])) (fun t k => castTop (ef_31_35 m o1 o2) k) ?_
  refine oal KK X0 d31_0 (.ref o2) 1 rfl rfl rfl ?_
  refine step (s₁.setTop (mkF m 9 #[vr o1, vr o2, .unset] [])) (fun t k => XS.ifnonnullYes X0.here hx rfl (pc0 := 1) (pc' := 9) rfl (hb hby d31_1) rfl (by decide) (by decide) k) ?_
  refine oal KK X0 d31_9 (.ref o2) 10 rfl rfl rfl ?_
  obtain ⟨cq1, kq1, q1a, q1b, q1c⟩ := isOf hZ e0 Pm5
  obtain ⟨_, _, ⟨T1, L1, k1, n1⟩, -, X1, ⟨Lc1, hQ1, l1, y1, z1⟩, st1⟩ := X0.virtualBack hx (y := nM13) (z := nM13) hown (mvT hZ (ow hw 150 rfl)) (mvT hZ (ow hw 81 rfl)) (notFace_of_selects (args := #[]) (mvT hZ (ow hw 83 rfl))) (mvT hZ (ow hw 83 rfl)) (mvT hZ (ow hw 82 rfl)) (by decide) (backOf (W := 0) (rm18_17 l Z a0 hw [] o2 i1 o4 kc5 i6 h0 n0 Z0 S0 Pm5 Pm6 Pm7 Pm9 gn_o2 ne_o2_o4 gn_o4 hy23 hy24 hy25) hZ (ow hw 84 rfl) (ow hw 6 rfl) (by decide) (by decide)) q1a q1c (g := (mkF m 10 #[vr o1, vr o2, .unset] [(.ref o2)])) rfl (by rw [hml]; rfl) (Steps.refl _) (argsL := []) (rest := []) (lenOf pd_20 rfl) rfl (omw rfl rfl) (hb hby d31_10) (fun _ _ => ⟨rfl, e0, (by decide : 0 + 0 ≤ _), (by decide : 0 + 0 ≤ _)⟩)
  dsimp only [Pt.U, Pt.locs, Pt.cells, Pt.slots] at X1 l1 y1 z1 st1 hQ1
  subst l1 y1 z1
  obtain ⟨rfl, N1q, e1q⟩ := hQ1
  have N1 := Fr.app N0 N1q
  refine step (T1.setTop (mkF m 13 #[vr o1, vr o2, .unset] [(.int 1)])) (fun t k => st1.trans k) ?_
  refine ois KK X1 d31_13 #[vr o1, vr o2, vi 1] 14 rfl rfl ?_
  refine oal KK X1 d31_14 (.ref o1) 15 rfl rfl rfl ?_
  refine oal KK X1 d31_15 (.ref o1) 16 rfl rfl rfl ?_
  obtain ⟨T2, X2, e2, st2⟩ := getF X1 hx hZ hown (host := "") (Or.inl (ow hw 151 rfl)) Via.refl e1q Pm3 (g := (mkF m 16 #[vr o1, vr o2, vi 1] [(.ref o1), (.ref o1)])) rfl rfl (hb hby d31_16)
  refine step (T2.setTop (mkF m 19 #[vr o1, vr o2, vi 1] [(.int i2), (.ref o1)])) (fun t k => st2 t k) ?_
  refine oil KK X2 d31_19 (1 : Int32) 20 rfl rfl ?_
  refine step (T2.setTop (mkF m 21 #[vr o1, vr o2, vi 1] [(.int (i2 + (1 : Int32))), (.ref o1)])) (fun t k => XS.iadd X2.here hx rfl (hb hby d31_20) rfl k) ?_
  obtain ⟨cq3, q3, q3'⟩ := Pm1.cell
  obtain ⟨_, _, ⟨T3, L3, k3, n3⟩, -, X3, ⟨Lc3, hQ3, l3, y3, z3⟩, st3⟩ := X2.privateBack hx (y := nM27) hown (mvT hZ (ow hw 153 rfl)) (mvT hZ (ow hw 154 rfl)) (own_selP2 (mvT hZ (ow hw 156 rfl)) (mvT hZ (ow hw 154 rfl)) (Cond.privateMethod_at (mvP hZ (ow hw 155 rfl) (args := #[]))) (by decide)) (Cond.privateMethod_at (mvP hZ (ow hw 155 rfl) (args := #[]))) (mvT hZ (ow hw 157 rfl)) (by decide) (backOf (W := 0) (rm32_36 l Z a0 hw [] o1 (i2 + (1 : Int32)) i2 o3 kc3 vs4 h0 n0 Z0 Pm1 Pm2 Pm3 Pm4 Pm8 gn_o1 ne_o1_o3 gn_o3 hy20 hy21 hy22 hy26) hZ (ow hw 157 rfl) (ow hw 132 rfl) (by decide) (by decide)) (g := (mkF m 21 #[vr o1, vr o2, vi 1] [(.int (i2 + (1 : Int32))), (.ref o1)])) rfl (by rw [hml]; rfl) (Steps.refl _) (a := o1) (by rw [e2]; exact q3) q3' (argsL := [(.int (i2 + (1 : Int32)))]) (rest := []) (lenOf pd_25 rfl) rfl (omw rfl rfl) (hb hby d31_21) (fun _ _ => ⟨rfl, e2, (by decide : 0 + 0 ≤ _), (by decide : 0 + 0 ≤ _)⟩)
  dsimp only [Pt.U, Pt.locs, Pt.cells, Pt.slots] at X3 l3 y3 z3 st3 hQ3
  subst l3 y3 z3
  obtain ⟨rfl, N3q, e3q⟩ := hQ3
  have N3 := Fr.app N1 N3q
  refine step (T3.setTop (mkF m 24 #[vr o1, vr o2, vi 1] [])) (fun t k => st3.trans k) ?_
  refine oal KK X3 d31_24 (.ref o1) 25 rfl rfl rfl ?_
  refine oal KK X3 d31_25 (.ref o1) 26 rfl rfl rfl ?_
  obtain ⟨T4, X4, e4, st4⟩ := getF X3 hx hZ hown (host := "") (Or.inl (ow hw 151 rfl)) Via.refl e3q Pm3 (g := (mkF m 26 #[vr o1, vr o2, vi 1] [(.ref o1), (.ref o1)])) rfl rfl (hb hby d31_26)
  refine step (T4.setTop (mkF m 29 #[vr o1, vr o2, vi 1] [(.int i2), (.ref o1)])) (fun t k => st4 t k) ?_
  refine oal KK X4 d31_29 (.ref o2) 30 rfl rfl rfl ?_
  obtain ⟨cq5, q5, q5'⟩ := Pm1.cell
  obtain ⟨_, _, ⟨T5, L5, k5, n5⟩, -, X5, ⟨Lc5, hQ5, l5, y5, z5⟩, st5⟩ := X4.privateBack hx (y := nM30) hown (mvT hZ (ow hw 158 rfl)) (mvT hZ (ow hw 159 rfl)) (own_selP2 (mvT hZ (ow hw 161 rfl)) (mvT hZ (ow hw 159 rfl)) (Cond.privateMethod_at (mvP hZ (ow hw 160 rfl) (args := #[]))) (by decide)) (Cond.privateMethod_at (mvP hZ (ow hw 160 rfl) (args := #[]))) (mvT hZ (ow hw 162 rfl)) (by decide) (backOf (W := 0) (rm33_37 l Z a0 hw [] o1 i2 o2 i1 o3 o4 kc3 vs4 kc5 i6 h0 n0 Z0 S0 Pm1 Pm2 Pm4 Pm5 Pm6 Pm7 Pm8 Pm9 gn_o1 ne_o1_o2 ne_o1_o3 ne_o1_o4 gn_o2 ne_o2_o3 ne_o2_o4 gn_o3 ne_o3_o4 gn_o4 hy20 hy23 hy21 hy22 hy24 hy25 hy26) hZ (ow hw 162 rfl) (ow hw 132 rfl) (by decide) (by decide)) (g := (mkF m 30 #[vr o1, vr o2, vi 1] [(.ref o2), (.int i2), (.ref o1)])) rfl (by rw [hml]; rfl) (Steps.refl _) (a := o1) (by rw [e4]; exact q5) q5' (argsL := [(.int i2), (.ref o2)]) (rest := []) (lenOf pd_27 rfl) rfl (omw rfl rfl) (hb hby d31_30) (fun _ _ => ⟨rfl, e4, (by decide : 0 + 0 ≤ _), (by decide : 0 + 0 ≤ _)⟩)
  dsimp only [Pt.U, Pt.locs, Pt.cells, Pt.slots] at X5 l5 y5 z5 st5 hQ5
  subst l5 y5 z5
  obtain ⟨h5, e5⟩ : ∃ z, T5.heap = z := ⟨_, rfl⟩
  rw [e5] at hQ5
  obtain ⟨rfl, N5q, K5q, q0_5⟩ := hQ5
  have N5 := Fr.app N3 N5q
  have K5 : Keep h0 h5 [o3, o1] := (Keep.refl h0 [o3, o1]).trans K5q (allS (Or.inl (List.mem_of_getElem? (i := 0) rfl)) all0)
  have f6 := own_staK S0 K5q (allS (own_arvP Pm8) all0)
  refine step (T5.setTop (mkF m 33 #[vr o1, vr o2, vi 1] [])) (fun t k => st5.trans k) ?_
  refine oal KK X5 d31_33 (.ref o1) 34 rfl rfl rfl ?_
  refine odu KK X5 d31_34 35 rfl rfl ?_
  have f7 := (Pm3.keep K5q (ninS ne_o1_o3 nin0))
  obtain ⟨T8, X8, e8, st8⟩ := getF X5 hx hZ hown (host := "") (Or.inl (ow hw 151 rfl)) Via.refl e5 f7 (g := (mkF m 35 #[vr o1, vr o2, vi 1] [(.ref o1), (.ref o1)])) rfl rfl (hb hby d31_35)
  refine step (T8.setTop (mkF m 38 #[vr o1, vr o2, vi 1] [(.int i2), (.ref o1)])) (fun t k => st8 t k) ?_
  refine oil KK X8 d31_38 (1 : Int32) 39 rfl rfl ?_
  refine step (T8.setTop (mkF m 40 #[vr o1, vr o2, vi 1] [(.int (i2 + (1 : Int32))), (.ref o1)])) (fun t k => XS.iadd X8.here hx rfl (hb hby d31_39) rfl k) ?_
  have f9 := (Pm1.keep K5q)
  obtain ⟨T10, h10, X10, e10, W10, st10⟩ := putF X8 hx hZ hown (host := "") (Or.inl (ow hw 151 rfl)) Via.refl e8 f7 f9 (Or.inl (ow hw 152 rfl)) (ow hw 123 rfl) (ty := .int) (by decide) rfl rfl (g := (mkF m 40 #[vr o1, vr o2, vi 1] [(.int (i2 + (1 : Int32))), (.ref o1)])) rfl rfl (hb hby d31_40)
  have N10 := Fr.snoc X10 N5 gn_o1
  have K10 : Keep h0 h10 [o3, o1] := K5.wr W10 (Or.inl (List.mem_of_getElem? (i := 1) rfl))
  have F10 := f7.same W10
  refine step (T10.setTop (mkF m 43 #[vr o1, vr o2, vi 1] [])) (fun t k => st10 t k) ?_
  refine oal KK X10 d31_43 (.ref o1) 44 rfl rfl rfl ?_
  have f11 := (q0_5.other W10 (Ne.symm ne_o1_o3))
  have f12 := ((Pm2.keep K5q (ninS ne_o1_o3 nin0)).other W10 (Or.inr (slot_ne (Or.inl (ow hw 139 rfl)) (Or.inl (ow hw 152 rfl)) (by decide) (t := .byte) (t' := .int) (by decide) (by decide))))
  have f13 := ((Pm4.keep K5q (ninS ne_o1_o3 nin0)).other W10 (Or.inr (slot_ne (Or.inl (ow hw 137 rfl)) (Or.inl (ow hw 152 rfl)) (by decide) (t := (.array .byte)) (t' := .int) (by decide) (by decide))))
  refine fin (v := some (.ref o1)) X10 (fun h => by cases h) ?_ (by decide) (by decide) (fun fs hr => X10.areturnOut hx rfl hret rfl (hb hby d31_44) hr)
  show Q31_35 Z o1 o2 i1 i2 o3 o4 kc3 vs4 kc5 i6 h0 n0 (some (.ref o1)) T10.heap _
  rw [e10]
  exact ⟨rfl, N10, K10, f11, f12, F10, f13⟩
def Q30_34 (Z : State) (o1 : Addr) (o2 : Addr) (i1 : Int32) (c1 : Int32) (o3 : Addr) (o4 : Addr) (kc2 : ClassId) (vs1 : List Value) (kc3 : ClassId) (i4 : Int32) (h0 : Heap) (n0 : Nat) (v : Option Value) (h : Heap) (L : List Loc) : Prop := v = some (.ref o1) ∧ Fr n0 L ∧ Keep h0 h [o3, o1] ∧ Arv Z h o3 kc2 .byte (16 : Int32) (vs1 ++ [(.int i4)]) (.int 0) ∧ Fld Z h o1 "java/lang/AbstractStringBuilder" "coder" "B" (.int 0) ∧ Fld Z h o1 "java/lang/AbstractStringBuilder" "count" "I" (.int (c1 + (1 : Int32))) ∧ Fld Z h o1 "java/lang/AbstractStringBuilder" "value" "[B" (.ref o3)
set_option maxRecDepth 65536 in
set_option maxHeartbeats 40000000 in
theorem rm30_34 (l : Launch) (Z : State) (a0 : Array Value) (hw : ∀ d ∈ tables_1, d.before a0 Z = true) (ws : List Jvm.Cond) (o1 : Addr) (o2 : Addr) (i1 : Int32) (c1 : Int32) (o3 : Addr) (o4 : Addr) (kc2 : ClassId) (vs1 : List Value) (kc3 : ClassId) (i4 : Int32) (h0 : Heap) (n0 : Nat) (Z0 : n0 ≤ h0.size) (S0 : Sta Z h0 "java/lang/String" "COMPACT_STRINGS" "Z" (.int i1)) (Pm1 : Exa Z h0 o1 "java/lang/StringBuilder") (Pm2 : Fld Z h0 o1 "java/lang/AbstractStringBuilder" "coder" "B" (.int 0)) (Pm3 : Fld Z h0 o1 "java/lang/AbstractStringBuilder" "count" "I" (.int c1)) (Pm4 : Fld Z h0 o1 "java/lang/AbstractStringBuilder" "value" "[B" (.ref o3)) (Pm5 : Exa Z h0 o2 "java/lang/String") (Pm6 : Fld Z h0 o2 "java/lang/String" "coder" "B" (.int 0)) (Pm7 : Fld Z h0 o2 "java/lang/String" "value" "[B" (.ref o4)) (Pm8 : Arv Z h0 o3 kc2 .byte (16 : Int32) vs1 (.int 0)) (Pm9 : Arv Z h0 o4 kc3 .byte (1 : Int32) [(.int i4)] (.int 0)) (gn_o1 : n0 ≤ o1) (ne_o1_o2 : o1 ≠ o2) (ne_o1_o3 : o1 ≠ o3) (ne_o1_o4 : o1 ≠ o4) (gn_o2 : n0 ≤ o2) (ne_o2_o3 : o2 ≠ o3) (ne_o2_o4 : o2 ≠ o4) (gn_o3 : n0 ≤ o3) (ne_o3_o4 : o3 ≠ o4) (gn_o4 : n0 ≤ o4) (hg_g1 : vs1.length = c1.toNatClampNeg) (hg_g2 : ¬ (c1 < (0 : Int32))) (hg_g3 : ¬ ((0 : Int32) < ((c1 + (1 : Int32)) - (16 : Int32)))) (hg_g4 : c1.toNatClampNeg + (1 : Int32).toNatClampNeg ≤ (16 : Int32).toNatClampNeg) (hy24 : ¬ (i1 = (0 : Int32))) (hy25 : ¬ (i4 = (123 : Int32))) (hy26 : ¬ (i4 = (125 : Int32)))  :
    OwnM l Z nM32 jdk_67_method_7_code 2 (some (.object "java/lang/StringBuilder")) ws ({ frames := 4, cells := 0, slots := 0, locals := 61 } : Room) #[(.ref o1), (.ref o2)] h0 (Q30_34 Z o1 o2 i1 c1 o3 o4 kc2 vs1 kc3 i4 h0 n0) := by
  refine own_body (plainFor_of_name pn_5) ?_
  intro p e s m below meth c s₁ G hx hby hml hZ hown hnm hret X0 e0 step fin
  replace hown : s.vm.findClass "java/lang/StringBuilder" = some m.cls := hown
  have N0 := Fr.nil n0
  have KK : OwnK p e below c _ G := ⟨step, hx, hby⟩
  refine step (s₁.setTop (mkF m 0 #[vr o1, vr o2] [])) (fun t k => castTop (ef_2_2 m o1 o2) k) ?_
  refine oal KK X0 d30_0 (.ref o1) 1 rfl rfl rfl ?_
  refine oal KK X0 d30_1 (.ref o2) 2 rfl rfl rfl ?_
  obtain ⟨_, _, ⟨T1, L1, k1, n1⟩, -, X1, ⟨Lc1, hQ1, l1, y1, z1⟩, st1⟩ := superBack X0 hx hZ (y := nM31) hown (ow hw 145 rfl) (own_same (y := nM31) (ow hw 148 rfl) (ow hw 156 rfl) rfl (by decide)) (ow hw 146 rfl) (ow hw 147 rfl) (by decide) (backOf (W := 0) (rm31_35 l Z a0 hw [] o1 o2 i1 c1 o3 o4 kc2 vs1 kc3 i4 h0 n0 Z0 S0 Pm1 Pm2 Pm3 Pm4 Pm5 Pm6 Pm7 Pm8 Pm9 gn_o1 ne_o1_o2 ne_o1_o3 ne_o1_o4 gn_o2 ne_o2_o3 ne_o2_o4 gn_o3 ne_o3_o4 gn_o4 hg_g3 hg_g2 hg_g4 hy24 hy25 hy26 hg_g1) hZ (ow hw 149 rfl) (ow hw 132 rfl) (by decide) (by decide)) e0 (Ins.self Pm1) (g := (mkF m 2 #[vr o1, vr o2] [(.ref o2), (.ref o1)])) rfl (by rw [hml]; rfl) (ow hw 149 rfl) (argsL := [(.ref o2)]) (rest := []) (lenOf pd_26 rfl) rfl (omw rfl rfl) (hb hby d30_2) (fun _ _ => ⟨rfl, e0, (by decide : 0 + 0 ≤ _), (by decide : 0 + 0 ≤ _)⟩)
  dsimp only [Pt.U, Pt.locs, Pt.cells, Pt.slots] at X1 l1 y1 z1 st1 hQ1
  subst l1 y1 z1
  obtain ⟨h1, e1⟩ : ∃ z, T1.heap = z := ⟨_, rfl⟩
  rw [e1] at hQ1
  obtain ⟨rfl, N1q, K1q, q0_1, q1_1, q2_1, q3_1⟩ := hQ1
  have N1 := Fr.app N0 N1q
  have K1 : Keep h0 h1 [o3, o1] := (Keep.refl h0 [o3, o1]).trans K1q (allS (Or.inl (List.mem_of_getElem? (i := 0) rfl)) (allS (Or.inl (List.mem_of_getElem? (i := 1) rfl)) all0))
  have f2 := own_staK S0 K1q (allS (own_arvP Pm8) (allS (own_exaP Pm1) all0))
  refine step (T1.setTop (mkF m 5 #[vr o1, vr o2] [(.ref o1)])) (fun t k => st1.trans k) ?_
  refine step (T1.setTop (mkF m 6 #[vr o1, vr o2] [])) (fun t k => XS.pop X1.here hx rfl (hb hby d30_5) rfl rfl k) ?_
  refine oal KK X1 d30_6 (.ref o1) 7 rfl rfl rfl ?_
  refine fin (v := some (.ref o1)) X1 (fun h => by cases h) ?_ (by decide) (by decide) (fun fs hr => X1.areturnOut hx rfl hret rfl (hb hby d30_7) hr)
  show Q30_34 Z o1 o2 i1 c1 o3 o4 kc2 vs1 kc3 i4 h0 n0 (some (.ref o1)) T1.heap _
  rw [e1]
  exact ⟨rfl, N1, K1, q0_1, q1_1, q2_1, q3_1⟩
def Q19_43 (Z : State) (o1 : Addr) (i1 : Int32) (h0 : Heap) (n0 : Nat) (v : Option Value) (h : Heap) (L : List Loc) : Prop := v = some (.int 0) ∧ Fr n0 L ∧ h = h0
set_option maxRecDepth 65536 in
set_option maxHeartbeats 40000000 in
theorem rm19_43 (l : Launch) (Z : State) (a0 : Array Value) (hw : ∀ d ∈ tables_1, d.before a0 Z = true) (ws : List Jvm.Cond) (o1 : Addr) (i1 : Int32) (h0 : Heap) (n0 : Nat) (Z0 : n0 ≤ h0.size) (S0 : Sta Z h0 "java/lang/String" "COMPACT_STRINGS" "Z" (.int i1)) (Pm1 : Exa Z h0 o1 "java/lang/String") (Pm2 : Fld Z h0 o1 "java/lang/String" "coder" "B" (.int 0)) (hy3 : ¬ (i1 = (0 : Int32)))  :
    OwnM l Z nM12 jdk_42_method_152_code 1 (some .byte) ws ({ frames := 0, cells := 0, slots := 0, locals := 0 } : Room) #[(.ref o1)] h0 (Q19_43 Z o1 i1 h0 n0) := by
  refine own_body (plainFor_of_name pn_1) ?_
  intro p e s m below meth c s₁ G hx hby hml hZ hown hnm hret X0 e0 step fin
  replace hown : s.vm.findClass "java/lang/String" = some m.cls := hown
  have N0 := Fr.nil n0
  have KK : OwnK p e below c _ G := ⟨step, hx, hby⟩
  refine step (s₁.setTop (mkF m 0 #[vr o1] [])) (fun t k => castTop (ef_14_13 m o1) k) ?_
  obtain ⟨T1, X1, e1, st1⟩ := getS2 X0 hx hZ hown (host := "") (Or.inl (ow hw 18 rfl)) Via.refl e0 S0 (g := (mkF m 0 #[vr o1] [])) rfl (hb hby d19_0)
  refine step (T1.setTop (mkF m 3 #[vr o1] [(.int i1)])) (fun t k => st1 t k) ?_
  have hc3_2 : ¬ (i1 = (0 : Int32)) := hy3
  refine step (T1.setTop (mkF m 6 #[vr o1] [])) (fun t k => XS.ifNo X1.here hx rfl (hb hby d19_3) rfl ((if0 _ _).trans (feq hc3_2).1) k) ?_
  refine oal KK X1 d19_6 (.ref o1) 7 rfl rfl rfl ?_
  obtain ⟨T3, X3, e3, st3⟩ := getF X1 hx hZ hown (host := "") (Or.inl (ow hw 30 rfl)) Via.refl e1 Pm2 (g := (mkF m 7 #[vr o1] [(.ref o1)])) rfl rfl (hb hby d19_7)
  refine step (T3.setTop (mkF m 10 #[vr o1] [(.int 0)])) (fun t k => st3 t k) ?_
  refine ogo KK X3 d19_10 14 (by decide) rfl ?_
  refine fin (v := some (.int (nar .byte (0 : Int32)))) X3 (fun h => by cases h) ?_ (by decide) (by decide) (fun fs hr => retN X3 hx (t := .byte) hret (by simp) (hb hby d19_14) hr)
  show Q19_43 Z o1 i1 h0 n0 (some (.int (nar .byte (0 : Int32)))) T3.heap _
  rw [e3]
  exact ⟨rfl, N0, rfl⟩
def Q18_42 (Z : State) (o1 : Addr) (i1 : Int32) (o2 : Addr) (kc2 : ClassId) (h0 : Heap) (n0 : Nat) (v : Option Value) (h : Heap) (L : List Loc) : Prop := v = some (.int 2) ∧ Fr n0 L ∧ h = h0
set_option maxRecDepth 65536 in
set_option maxHeartbeats 40000000 in
theorem rm18_42 (l : Launch) (Z : State) (a0 : Array Value) (hw : ∀ d ∈ tables_1, d.before a0 Z = true) (ws : List Jvm.Cond) (o1 : Addr) (i1 : Int32) (o2 : Addr) (kc2 : ClassId) (h0 : Heap) (n0 : Nat) (Z0 : n0 ≤ h0.size) (S0 : Sta Z h0 "java/lang/String" "COMPACT_STRINGS" "Z" (.int i1)) (Pm1 : Exa Z h0 o1 "java/lang/String") (Pm2 : Fld Z h0 o1 "java/lang/String" "coder" "B" (.int 0)) (Pm3 : Fld Z h0 o1 "java/lang/String" "value" "[B" (.ref o2)) (Pm4 : Arv Z h0 o2 kc2 .byte (2 : Int32) [(.int 58), (.int 123)] (.int 0)) (hy5 : ¬ (i1 = (0 : Int32)))  :
    OwnM l Z nM13 jdk_42_method_54_code 1 (some .int) ws ({ frames := 1, cells := 0, slots := 0, locals := 13 } : Room) #[(.ref o1)] h0 (Q18_42 Z o1 i1 o2 kc2 h0 n0) := by
  refine own_body (plainFor_of_name pn_1) ?_
  intro p e s m below meth c s₁ G hx hby hml hZ hown hnm hret X0 e0 step fin
  replace hown : s.vm.findClass "java/lang/String" = some m.cls := hown
  have N0 := Fr.nil n0
  have KK : OwnK p e below c _ G := ⟨step, hx, hby⟩
  refine step (s₁.setTop (mkF m 0 #[vr o1] [])) (fun t k => castTop (ef_14_13 m o1) k) ?_
  refine oal KK X0 d18_0 (.ref o1) 1 rfl rfl rfl ?_
  obtain ⟨T1, X1, e1, st1⟩ := getF X0 hx hZ hown (host := "") (Or.inl (ow hw 32 rfl)) Via.refl e0 Pm3 (g := (mkF m 1 #[vr o1] [(.ref o1)])) rfl rfl (hb hby d18_1)
  refine step (T1.setTop (mkF m 4 #[vr o1] [(.ref o2)])) (fun t k => st1 t k) ?_
  obtain ⟨cl2, Ar2, q2, S2, N2n, H2, G2⟩ := id Pm4
  refine step (T1.setTop (mkF m 5 #[vr o1] [(.int 2)])) (fun t k => X1.arraylength hx (by rw [e1]; exact Ar2.1) (State.isArrayOf_alike hZ.alike Ar2.2.1) (g := (mkF m 4 #[vr o1] [(.ref o2)])) rfl rfl (hb hby d18_4) t (by rw [len_of S2 N2n]; exact k)) ?_
  refine oal KK X1 d18_5 (.ref o1) 6 rfl rfl rfl ?_
  obtain ⟨cq3, kq3, q3a, q3b, q3c⟩ := isOf hZ e1 Pm1
  obtain ⟨_, _, ⟨T3, L3, k3, n3⟩, -, X3, ⟨Lc3, hQ3, l3, y3, z3⟩, st3⟩ := X1.virtualBack hx (y := nM12) (z := nM12) hown (mvT hZ (ow hw 85 rfl)) (mvT hZ (ow hw 86 rfl)) (notFace_of_selects (args := #[]) (mvT hZ (ow hw 88 rfl))) (mvT hZ (ow hw 88 rfl)) (mvT hZ (ow hw 87 rfl)) (by decide) (backOf (W := 1) (rm19_43 l Z a0 hw [] o1 i1 h0 n0 Z0 S0 Pm1 Pm2 hy5) hZ (ow hw 89 rfl) (ow hw 6 rfl) (by decide) (by decide)) q3a q3c (g := (mkF m 6 #[vr o1] [(.ref o1), (.int 2)])) rfl (by rw [hml]; rfl) (Steps.refl _) (argsL := []) (rest := [(.int 2)]) (lenOf pd_22 rfl) rfl (omw rfl rfl) (hb hby d18_6) (fun _ _ => ⟨rfl, e1, (by decide : 0 + 0 ≤ _), (by decide : 0 + 0 ≤ _)⟩)
  dsimp only [Pt.U, Pt.locs, Pt.cells, Pt.slots] at X3 l3 y3 z3 st3 hQ3
  subst l3 y3 z3
  obtain ⟨rfl, N3q, e3q⟩ := hQ3
  have N3 := Fr.app N0 N3q
  refine step (T3.setTop (mkF m 9 #[vr o1] [(.int 0), (.int 2)])) (fun t k => st3.trans k) ?_
  refine step (T3.setTop (mkF m 10 #[vr o1] [(.int 2)])) (fun t k => XS.ishr X3.here hx rfl (hb hby d18_9) rfl k) ?_
  refine fin (v := some (.int 2)) X3 (fun h => by cases h) ?_ (by decide) (by decide) (fun fs hr => retI X3 hx hret (hb hby d18_10) hr)
  show Q18_42 Z o1 i1 o2 kc2 h0 n0 (some (.int 2)) T3.heap _
  rw [e3q]
  exact ⟨rfl, N3, rfl⟩
def Q32_44 (Z : State) (o1 : Addr) (i1 : Int32) (i2 : Int32) (o2 : Addr) (kc3 : ClassId) (vs4 : List Value) (h0 : Heap) (n0 : Nat) (v : Option Value) (h : Heap) (L : List Loc) : Prop := v = none ∧ Fr n0 L ∧ h = h0
set_option maxRecDepth 65536 in
set_option maxHeartbeats 40000000 in
theorem rm32_44 (l : Launch) (Z : State) (a0 : Array Value) (hw : ∀ d ∈ tables_1, d.before a0 Z = true) (ws : List Jvm.Cond) (o1 : Addr) (i1 : Int32) (i2 : Int32) (o2 : Addr) (kc3 : ClassId) (vs4 : List Value) (h0 : Heap) (n0 : Nat) (Z0 : n0 ≤ h0.size) (Pm0 : Exa Z h0 o1 "java/lang/StringBuilder") (Pm1 : Fld Z h0 o1 "java/lang/AbstractStringBuilder" "coder" "B" (.int 0)) (Pm2 : Fld Z h0 o1 "java/lang/AbstractStringBuilder" "count" "I" (.int i2)) (Pm3 : Fld Z h0 o1 "java/lang/AbstractStringBuilder" "value" "[B" (.ref o2)) (Pm4 : Arv Z h0 o2 kc3 .byte (16 : Int32) vs4 (.int 0)) (gn_o1 : n0 ≤ o1) (ne_o1_o2 : o1 ≠ o2) (gn_o2 : n0 ≤ o2) (hy8 : ¬ ((0 : Int32) < (i1 - (16 : Int32)))) (hy9 : ¬ (i2 < (0 : Int32))) (hy10 : i2.toNatClampNeg + (2 : Int32).toNatClampNeg ≤ (16 : Int32).toNatClampNeg) (hy11 : vs4.length = i2.toNatClampNeg)  :
    OwnM l Z nM27 jdk_68_method_9_code 3 none ws ({ frames := 0, cells := 0, slots := 0, locals := 0 } : Room) #[(.ref o1), (.int i1)] h0 (Q32_44 Z o1 i1 i2 o2 kc3 vs4 h0 n0) := by
  refine own_body (plainFor_of_name pn_6) ?_
  intro p e s m below meth c s₁ G hx hby hml hZ hown hnm hret X0 e0 step fin
  replace hown : s.vm.findClass "java/lang/AbstractStringBuilder" = some m.cls := hown
  have N0 := Fr.nil n0
  have KK : OwnK p e below c _ G := ⟨step, hx, hby⟩
  refine step (s₁.setTop (mkF m 0 #[vr o1, vi i1, .unset] [])) (fun t k => castTop (ef_32_36 m o1 i1) k) ?_
  refine oal KK X0 d32_0 (.ref o1) 1 rfl rfl rfl ?_
  obtain ⟨T1, X1, e1, st1⟩ := getF X0 hx hZ hown (host := "") (Or.inl (ow hw 136 rfl)) Via.refl e0 Pm3 (g := (mkF m 1 #[vr o1, vi i1, .unset] [(.ref o1)])) rfl rfl (hb hby d32_1)
  refine step (T1.setTop (mkF m 4 #[vr o1, vi i1, .unset] [(.ref o2)])) (fun t k => st1 t k) ?_
  obtain ⟨cl2, Ar2, q2, S2, N2n, H2, G2⟩ := id Pm4
  refine step (T1.setTop (mkF m 5 #[vr o1, vi i1, .unset] [(.int 16)])) (fun t k => X1.arraylength hx (by rw [e1]; exact Ar2.1) (State.isArrayOf_alike hZ.alike Ar2.2.1) (g := (mkF m 4 #[vr o1, vi i1, .unset] [(.ref o2)])) rfl rfl (hb hby d32_4) t (by rw [len_of S2 N2n]; exact k)) ?_
  refine oal KK X1 d32_5 (.ref o1) 6 rfl rfl rfl ?_
  obtain ⟨T3, X3, e3, st3⟩ := getF X1 hx hZ hown (host := "") (Or.inl (ow hw 138 rfl)) Via.refl e1 Pm1 (g := (mkF m 6 #[vr o1, vi i1, .unset] [(.ref o1), (.int 16)])) rfl rfl (hb hby d32_6)
  refine step (T3.setTop (mkF m 9 #[vr o1, vi i1, .unset] [(.int 0), (.int 16)])) (fun t k => st3 t k) ?_
  refine step (T3.setTop (mkF m 10 #[vr o1, vi i1, .unset] [(.int 16)])) (fun t k => XS.ishr X3.here hx rfl (hb hby d32_9) rfl k) ?_
  refine ois KK X3 d32_10 #[vr o1, vi i1, vi 16] 11 rfl rfl ?_
  refine oil KK X3 d32_11 i1 12 rfl rfl ?_
  refine oil KK X3 d32_12 (16 : Int32) 13 rfl rfl ?_
  refine step (T3.setTop (mkF m 14 #[vr o1, vi i1, vi 16] [(.int (i1 - (16 : Int32)))])) (fun t k => XS.isub X3.here hx rfl (hb hby d32_13) rfl k) ?_
  have hc14_4 : ¬ ((0 : Int32) < (i1 - (16 : Int32))) := hy8
  refine step (T3.setTop (mkF m 38 #[vr o1, vi i1, vi 16] [])) (fun t k => XS.ifYes X3.here hx rfl (pc0 := 14) (pc' := 38) rfl (hb hby d32_14) rfl ((if0 _ _).trans (flt hc14_4).2.2.2) (by decide) (by decide) k) ?_
  refine fin (v := none) X3 (fun _ => rfl) ?_ (by decide) (by decide) (fun fs hr => X3.returnOut hx hret (hb hby d32_38) hr)
  show Q32_44 Z o1 i1 i2 o2 kc3 vs4 h0 n0 (none) T3.heap _
  rw [e3]
  exact ⟨rfl, N0, rfl⟩
def Q34_46 (Z : State) (o1 : Addr) (o2 : Addr) (i1 : Int32) (h0 : Heap) (n0 : Nat) (v : Option Value) (h : Heap) (L : List Loc) : Prop := v = none ∧ Fr n0 L ∧ h = h0
set_option maxRecDepth 65536 in
set_option maxHeartbeats 40000000 in
theorem rm34_46 (l : Launch) (Z : State) (a0 : Array Value) (hw : ∀ d ∈ tables_1, d.before a0 Z = true) (ws : List Jvm.Cond) (o1 : Addr) (o2 : Addr) (i1 : Int32) (h0 : Heap) (n0 : Nat) (Z0 : n0 ≤ h0.size) (S0 : Sta Z h0 "java/lang/String" "COMPACT_STRINGS" "Z" (.int i1)) (Pm1 : Exa Z h0 o1 "java/lang/StringBuilder") (Pm2 : Fld Z h0 o1 "java/lang/AbstractStringBuilder" "coder" "B" (.int 0)) (Pm3 : Exa Z h0 o2 "java/lang/String") (Pm4 : Fld Z h0 o2 "java/lang/String" "coder" "B" (.int 0)) (gn_o1 : n0 ≤ o1) (ne_o1_o2 : o1 ≠ o2) (hy7 : ¬ (i1 = (0 : Int32)))  :
    OwnM l Z nM28 jdk_68_method_71_code 2 none ws ({ frames := 1, cells := 0, slots := 0, locals := 13 } : Room) #[(.ref o1), (.ref o2)] h0 (Q34_46 Z o1 o2 i1 h0 n0) := by
  refine own_body (plainFor_of_name pn_6) ?_
  intro p e s m below meth c s₁ G hx hby hml hZ hown hnm hret X0 e0 step fin
  replace hown : s.vm.findClass "java/lang/AbstractStringBuilder" = some m.cls := hown
  have N0 := Fr.nil n0
  have KK : OwnK p e below c _ G := ⟨step, hx, hby⟩
  refine step (s₁.setTop (mkF m 0 #[vr o1, vr o2] [])) (fun t k => castTop (ef_2_2 m o1 o2) k) ?_
  obtain ⟨T1, X1, e1, st1⟩ := getS2 X0 hx hZ hown (host := "") (Or.inl (ow hw 135 rfl)) Via.refl e0 S0 (g := (mkF m 0 #[vr o1, vr o2] [])) rfl (hb hby d34_0)
  refine step (T1.setTop (mkF m 3 #[vr o1, vr o2] [(.int i1)])) (fun t k => st1 t k) ?_
  have hc3_2 : ¬ (i1 = (0 : Int32)) := hy7
  refine step (T1.setTop (mkF m 6 #[vr o1, vr o2] [])) (fun t k => XS.ifNo X1.here hx rfl (hb hby d34_3) rfl ((if0 _ _).trans (feq hc3_2).1) k) ?_
  refine oal KK X1 d34_6 (.ref o1) 7 rfl rfl rfl ?_
  obtain ⟨T3, X3, e3, st3⟩ := getF X1 hx hZ hown (host := "") (Or.inl (ow hw 138 rfl)) Via.refl e1 Pm2 (g := (mkF m 7 #[vr o1, vr o2] [(.ref o1)])) rfl rfl (hb hby d34_7)
  refine step (T3.setTop (mkF m 10 #[vr o1, vr o2] [(.int 0)])) (fun t k => st3 t k) ?_
  refine oal KK X3 d34_10 (.ref o2) 11 rfl rfl rfl ?_
  obtain ⟨cq4, kq4, q4a, q4b, q4c⟩ := isOf hZ e3 Pm3
  obtain ⟨_, _, ⟨T4, L4, k4, n4⟩, -, X4, ⟨Lc4, hQ4, l4, y4, z4⟩, st4⟩ := X3.virtualBack hx (y := nM12) (z := nM12) hown (mvT hZ (ow hw 168 rfl)) (mvT hZ (ow hw 86 rfl)) (notFace_of_selects (args := #[]) (mvT hZ (ow hw 88 rfl))) (mvT hZ (ow hw 88 rfl)) (mvT hZ (ow hw 87 rfl)) (by decide) (backOf (W := 1) (rm19_43 l Z a0 hw [] o2 i1 h0 n0 Z0 S0 Pm3 Pm4 hy7) hZ (ow hw 89 rfl) (ow hw 6 rfl) (by decide) (by decide)) q4a q4c (g := (mkF m 11 #[vr o1, vr o2] [(.ref o2), (.int 0)])) rfl (by rw [hml]; rfl) (Steps.refl _) (argsL := []) (rest := [(.int 0)]) (lenOf pd_22 rfl) rfl (omw rfl rfl) (hb hby d34_11) (fun _ _ => ⟨rfl, e3, (by decide : 0 + 0 ≤ _), (by decide : 0 + 0 ≤ _)⟩)
  dsimp only [Pt.U, Pt.locs, Pt.cells, Pt.slots] at X4 l4 y4 z4 st4 hQ4
  subst l4 y4 z4
  obtain ⟨rfl, N4q, e4q⟩ := hQ4
  have N4 := Fr.app N0 N4q
  refine step (T4.setTop (mkF m 14 #[vr o1, vr o2] [(.int 0), (.int 0)])) (fun t k => st4.trans k) ?_
  refine oiy KK X4 d34_14 21 (teq (by decide : (0 : Int32) = (0 : Int32))).1 (by decide) rfl ?_
  refine fin (v := none) X4 (fun _ => rfl) ?_ (by decide) (by decide) (fun fs hr => X4.returnOut hx hret (hb hby d34_21) hr)
  show Q34_46 Z o1 o2 i1 h0 n0 (none) T4.heap _
  rw [e4q]
  exact ⟨rfl, N4, rfl⟩
def Q35_47 (Z : State) (o1 : Addr) (o2 : Addr) (i1 : Int32) (i2 : Int32) (o3 : Addr) (kc3 : ClassId) (vs4 : List Value) (kc5 : ClassId) (h0 : Heap) (n0 : Nat) (v : Option Value) (h : Heap) (L : List Loc) : Prop := v = none ∧ Fr n0 L ∧ Keep h0 h [o2] ∧ Arv Z h o2 kc3 .byte (16 : Int32) (vs4 ++ [(.int 58), (.int 123)]) (.int 0)
set_option maxRecDepth 65536 in
set_option maxHeartbeats 40000000 in
theorem rm35_47 (l : Launch) (Z : State) (a0 : Array Value) (hw : ∀ d ∈ tables_1, d.before a0 Z = true) (ws : List Jvm.Cond) (o1 : Addr) (o2 : Addr) (i1 : Int32) (i2 : Int32) (o3 : Addr) (kc3 : ClassId) (vs4 : List Value) (kc5 : ClassId) (h0 : Heap) (n0 : Nat) (Z0 : n0 ≤ h0.size) (S0 : Sta Z h0 "java/lang/String" "COMPACT_STRINGS" "Z" (.int i2)) (Pm1 : Exa Z h0 o1 "java/lang/String") (Pm2 : Fld Z h0 o1 "java/lang/String" "coder" "B" (.int 0)) (Pm3 : Fld Z h0 o1 "java/lang/String" "value" "[B" (.ref o3)) (Pm4 : Arv Z h0 o2 kc3 .byte (16 : Int32) vs4 (.int 0)) (Pm5 : Arv Z h0 o3 kc5 .byte (2 : Int32) [(.int 58), (.int 123)] (.int 0)) (ne_o1_o2 : o1 ≠ o2) (gn_o2 : n0 ≤ o2) (ne_o2_o3 : o2 ≠ o3) (hy9 : ¬ ((0 : Int32) < ((i1 + (2 : Int32)) - (16 : Int32)))) (hy10 : ¬ (i1 < (0 : Int32))) (hy11 : i1.toNatClampNeg + (2 : Int32).toNatClampNeg ≤ (16 : Int32).toNatClampNeg) (hy12 : ¬ (i2 = (0 : Int32))) (hy13 : vs4.length = i1.toNatClampNeg)  :
    OwnM l Z nM29 jdk_42_method_147_code 4 none ws ({ frames := 1, cells := 0, slots := 0, locals := 18 } : Room) #[(.ref o1), (.ref o2), (.int i1), (.int 0)] h0 (Q35_47 Z o1 o2 i1 i2 o3 kc3 vs4 kc5 h0 n0) := by
  refine own_body (plainFor_of_name pn_1) ?_
  intro p e s m below meth c s₁ G hx hby hml hZ hown hnm hret X0 e0 step fin
  replace hown : s.vm.findClass "java/lang/String" = some m.cls := hown
  have N0 := Fr.nil n0
  have KK : OwnK p e below c _ G := ⟨step, hx, hby⟩
  refine step (s₁.setTop (mkF m 0 #[vr o1, vr o2, vi i1, vi 0] [])) (fun t k => castTop (ef_35_39 m o1 o2 i1) k) ?_
  refine oal KK X0 d35_0 (.ref o1) 1 rfl rfl rfl ?_
  obtain ⟨cq1, kq1, q1a, q1b, q1c⟩ := isOf hZ e0 Pm1
  obtain ⟨_, _, ⟨T1, L1, k1, n1⟩, -, X1, ⟨Lc1, hQ1, l1, y1, z1⟩, st1⟩ := X0.virtualBack hx (y := nM12) (z := nM12) hown (mvT hZ (ow hw 85 rfl)) (mvT hZ (ow hw 86 rfl)) (notFace_of_selects (args := #[]) (mvT hZ (ow hw 88 rfl))) (mvT hZ (ow hw 88 rfl)) (mvT hZ (ow hw 87 rfl)) (by decide) (backOf (W := 0) (rm19_43 l Z a0 hw [] o1 i2 h0 n0 Z0 S0 Pm1 Pm2 hy12) hZ (ow hw 89 rfl) (ow hw 6 rfl) (by decide) (by decide)) q1a q1c (g := (mkF m 1 #[vr o1, vr o2, vi i1, vi 0] [(.ref o1)])) rfl (by rw [hml]; rfl) (Steps.refl _) (argsL := []) (rest := []) (lenOf pd_22 rfl) rfl (omw rfl rfl) (hb hby d35_1) (fun _ _ => ⟨rfl, e0, (by decide : 0 + 0 ≤ _), (by decide : 0 + 0 ≤ _)⟩)
  dsimp only [Pt.U, Pt.locs, Pt.cells, Pt.slots] at X1 l1 y1 z1 st1 hQ1
  subst l1 y1 z1
  obtain ⟨rfl, N1q, e1q⟩ := hQ1
  have N1 := Fr.app N0 N1q
  refine step (T1.setTop (mkF m 4 #[vr o1, vr o2, vi i1, vi 0] [(.int 0)])) (fun t k => st1.trans k) ?_
  refine oil KK X1 d35_4 (0 : Int32) 5 rfl rfl ?_
  refine oin KK X1 d35_5 8 rfl (teq (by decide : (0 : Int32) = (0 : Int32))).2 ?_
  refine oal KK X1 d35_8 (.ref o1) 9 rfl rfl rfl ?_
  obtain ⟨T2, X2, e2, st2⟩ := getF X1 hx hZ hown (host := "") (Or.inl (ow hw 32 rfl)) Via.refl e1q Pm3 (g := (mkF m 9 #[vr o1, vr o2, vi i1, vi 0] [(.ref o1)])) rfl rfl (hb hby d35_9)
  refine step (T2.setTop (mkF m 12 #[vr o1, vr o2, vi i1, vi 0] [(.ref o3)])) (fun t k => st2 t k) ?_
  refine oic KK X2 d35_12 0 13 rfl rfl ?_
  refine oal KK X2 d35_13 (.ref o2) 14 rfl rfl rfl ?_
  refine oil KK X2 d35_14 i1 15 rfl rfl ?_
  refine oil KK X2 d35_15 (0 : Int32) 16 rfl rfl ?_
  refine step (T2.setTop (mkF m 17 #[vr o1, vr o2, vi i1, vi 0] [(.int (i1 <<< ((0 : Int32) &&& 31))), (.ref o2), (.int 0), (.ref o3)])) (fun t k => XS.ishl X2.here hx rfl (hb hby d35_16) rfl k) ?_
  rw [own_shl0 i1]
  refine oal KK X2 d35_17 (.ref o1) 18 rfl rfl rfl ?_
  obtain ⟨T3, X3, e3, st3⟩ := getF X2 hx hZ hown (host := "") (Or.inl (ow hw 32 rfl)) Via.refl e2 Pm3 (g := (mkF m 18 #[vr o1, vr o2, vi i1, vi 0] [(.ref o1), (.int i1), (.ref o2), (.int 0), (.ref o3)])) rfl rfl (hb hby d35_18)
  refine step (T3.setTop (mkF m 21 #[vr o1, vr o2, vi i1, vi 0] [(.ref o3), (.int i1), (.ref o2), (.int 0), (.ref o3)])) (fun t k => st3 t k) ?_
  obtain ⟨cl4, Ar4, q4, S4, N4n, H4, G4⟩ := id Pm5
  refine step (T3.setTop (mkF m 22 #[vr o1, vr o2, vi i1, vi 0] [(.int 2), (.int i1), (.ref o2), (.int 0), (.ref o3)])) (fun t k => X3.arraylength hx (by rw [e3]; exact Ar4.1) (State.isArrayOf_alike hZ.alike Ar4.2.1) (g := (mkF m 21 #[vr o1, vr o2, vi i1, vi 0] [(.ref o3), (.int i1), (.ref o2), (.int 0), (.ref o3)])) rfl rfl (hb hby d35_21) t (by rw [len_of S4 N4n]; exact k)) ?_
  obtain ⟨T5, h5, L5, X5, e5, N5, K5q, Vq5, st5⟩ := cpA X3 hx hZ hown (ow hw 174 rfl) (ow hw 177 rfl) (ow hw 175 rfl) (ow hw 176 rfl) e3 Pm5 (Pm4.pad (pad_rep vs4 (.int 0) 2)) (us := [(.int 58), (.int 123)]) (Or.inl ⟨rfl, rfl⟩) (by decide) hy10 (by decide) (by decide) hy11 rfl (own_hl hy13) N1 gn_o2 (g := (mkF m 22 #[vr o1, vr o2, vi i1, vi 0] [(.int 2), (.int i1), (.ref o2), (.int 0), (.ref o3)])) rfl (by rw [hml]; rfl) (rest := []) rfl (hb hby d35_22) (by decide) (W := 0) (omw rfl rfl) (by decide)
  have K5 : Keep h0 h5 [o2] := (Keep.refl h0 [o2]).trans K5q (allS (Or.inl (List.mem_of_getElem? (i := 0) rfl)) all0)
  have f6 := own_staK S0 K5q (allS (own_arvP Pm4) all0)
  have V5 : Arv Z h5 o2 kc3 .byte (16 : Int32) (vs4 ++ [(.int 58), (.int 123)]) (.int 0) := own_arvA hy13 rfl Vq5
  refine step (T5.setTop (mkF m 25 #[vr o1, vr o2, vi i1, vi 0] [])) (fun t k => st5 t k) ?_
  refine ogo KK X5 d35_25 43 (by decide) rfl ?_
  refine fin (v := none) X5 (fun _ => rfl) ?_ (by decide) (by decide) (fun fs hr => X5.returnOut hx hret (hb hby d35_43) hr)
  show Q35_47 Z o1 o2 i1 i2 o3 kc3 vs4 kc5 h0 n0 (none) T5.heap _
  rw [e5]
  exact ⟨rfl, N5, K5, V5⟩
def Q33_45 (Z : State) (o1 : Addr) (i1 : Int32) (o2 : Addr) (i2 : Int32) (o3 : Addr) (o4 : Addr) (kc3 : ClassId) (vs4 : List Value) (kc5 : ClassId) (h0 : Heap) (n0 : Nat) (v : Option Value) (h : Heap) (L : List Loc) : Prop := v = none ∧ Fr n0 L ∧ Keep h0 h [o3] ∧ Arv Z h o3 kc3 .byte (16 : Int32) (vs4 ++ [(.int 58), (.int 123)]) (.int 0)
set_option maxRecDepth 65536 in
set_option maxHeartbeats 40000000 in
theorem rm33_45 (l : Launch) (Z : State) (a0 : Array Value) (hw : ∀ d ∈ tables_1, d.before a0 Z = true) (ws : List Jvm.Cond) (o1 : Addr) (i1 : Int32) (o2 : Addr) (i2 : Int32) (o3 : Addr) (o4 : Addr) (kc3 : ClassId) (vs4 : List Value) (kc5 : ClassId) (h0 : Heap) (n0 : Nat) (Z0 : n0 ≤ h0.size) (S0 : Sta Z h0 "java/lang/String" "COMPACT_STRINGS" "Z" (.int i2)) (Pm1 : Exa Z h0 o1 "java/lang/StringBuilder") (Pm2 : Fld Z h0 o1 "java/lang/AbstractStringBuilder" "coder" "B" (.int 0)) (Pm3 : Fld Z h0 o1 "java/lang/AbstractStringBuilder" "value" "[B" (.ref o3)) (Pm4 : Exa Z h0 o2 "java/lang/String") (Pm5 : Fld Z h0 o2 "java/lang/String" "coder" "B" (.int 0)) (Pm6 : Fld Z h0 o2 "java/lang/String" "value" "[B" (.ref o4)) (Pm7 : Arv Z h0 o3 kc3 .byte (16 : Int32) vs4 (.int 0)) (Pm8 : Arv Z h0 o4 kc5 .byte (2 : Int32) [(.int 58), (.int 123)] (.int 0)) (gn_o1 : n0 ≤ o1) (ne_o1_o2 : o1 ≠ o2) (ne_o1_o3 : o1 ≠ o3) (ne_o1_o4 : o1 ≠ o4) (ne_o2_o3 : o2 ≠ o3) (gn_o3 : n0 ≤ o3) (ne_o3_o4 : o3 ≠ o4) (hy16 : ¬ ((0 : Int32) < ((i1 + (2 : Int32)) - (16 : Int32)))) (hy17 : ¬ (i2 = (0 : Int32))) (hy18 : ¬ (i1 < (0 : Int32))) (hy19 : i1.toNatClampNeg + (2 : Int32).toNatClampNeg ≤ (16 : Int32).toNatClampNeg) (hy20 : vs4.length = i1.toNatClampNeg)  :
    OwnM l Z nM30 jdk_68_method_73_code 3 none ws ({ frames := 2, cells := 0, slots := 0, locals := 33 } : Room) #[(.ref o1), (.int i1), (.ref o2)] h0 (Q33_45 Z o1 i1 o2 i2 o3 o4 kc3 vs4 kc5 h0 n0) := by
  refine own_body (plainFor_of_name pn_6) ?_
  intro p e s m below meth c s₁ G hx hby hml hZ hown hnm hret X0 e0 step fin
  replace hown : s.vm.findClass "java/lang/AbstractStringBuilder" = some m.cls := hown
  have N0 := Fr.nil n0
  have KK : OwnK p e below c _ G := ⟨step, hx, hby⟩
  refine step (s₁.setTop (mkF m 0 #[vr o1, vi i1, vr o2] [])) (fun t k => castTop (ef_33_37 m o1 i1 o2) k) ?_
  refine oal KK X0 d33_0 (.ref o1) 1 rfl rfl rfl ?_
  refine oal KK X0 d33_1 (.ref o2) 2 rfl rfl rfl ?_
  obtain ⟨cq1, q1, q1'⟩ := Pm1.cell
  obtain ⟨_, _, ⟨T1, L1, k1, n1⟩, -, X1, ⟨Lc1, hQ1, l1, y1, z1⟩, st1⟩ := X0.privateBack hx (y := nM28) hown (mvT hZ (ow hw 163 rfl)) (mvT hZ (ow hw 164 rfl)) (own_selP2 (mvT hZ (ow hw 166 rfl)) (mvT hZ (ow hw 164 rfl)) (Cond.privateMethod_at (mvP hZ (ow hw 165 rfl) (args := #[]))) (by decide)) (Cond.privateMethod_at (mvP hZ (ow hw 165 rfl) (args := #[]))) (mvT hZ (ow hw 167 rfl)) (by decide) (backOf (W := 0) (rm34_46 l Z a0 hw [] o1 o2 i2 h0 n0 Z0 S0 Pm1 Pm2 Pm4 Pm5 gn_o1 ne_o1_o2 hy17) hZ (ow hw 167 rfl) (ow hw 132 rfl) (by decide) (by decide)) (g := (mkF m 2 #[vr o1, vi i1, vr o2] [(.ref o2), (.ref o1)])) rfl (by rw [hml]; rfl) (Steps.refl _) (a := o1) (by rw [e0]; exact q1) q1' (argsL := [(.ref o2)]) (rest := []) (lenOf pd_14 rfl) rfl (omw rfl rfl) (hb hby d33_2) (fun _ _ => ⟨rfl, e0, (by decide : 0 + 0 ≤ _), (by decide : 0 + 0 ≤ _)⟩)
  dsimp only [Pt.U, Pt.locs, Pt.cells, Pt.slots] at X1 l1 y1 z1 st1 hQ1
  subst l1 y1 z1
  obtain ⟨rfl, N1q, e1q⟩ := hQ1
  have N1 := Fr.app N0 N1q
  refine step (T1.setTop (mkF m 5 #[vr o1, vi i1, vr o2] [])) (fun t k => st1.trans k) ?_
  refine oal KK X1 d33_5 (.ref o2) 6 rfl rfl rfl ?_
  refine oal KK X1 d33_6 (.ref o1) 7 rfl rfl rfl ?_
  obtain ⟨T2, X2, e2, st2⟩ := getF X1 hx hZ hown (host := "") (Or.inl (ow hw 136 rfl)) Via.refl e1q Pm3 (g := (mkF m 7 #[vr o1, vi i1, vr o2] [(.ref o1), (.ref o2)])) rfl rfl (hb hby d33_7)
  refine step (T2.setTop (mkF m 10 #[vr o1, vi i1, vr o2] [(.ref o3), (.ref o2)])) (fun t k => st2 t k) ?_
  refine oil KK X2 d33_10 i1 11 rfl rfl ?_
  refine oal KK X2 d33_11 (.ref o1) 12 rfl rfl rfl ?_
  obtain ⟨T3, X3, e3, st3⟩ := getF X2 hx hZ hown (host := "") (Or.inl (ow hw 138 rfl)) Via.refl e2 Pm2 (g := (mkF m 12 #[vr o1, vi i1, vr o2] [(.ref o1), (.int i1), (.ref o3), (.ref o2)])) rfl rfl (hb hby d33_12)
  refine step (T3.setTop (mkF m 15 #[vr o1, vi i1, vr o2] [(.int 0), (.int i1), (.ref o3), (.ref o2)])) (fun t k => st3 t k) ?_
  obtain ⟨cq4, kq4, q4a, q4b, q4c⟩ := isOf hZ e3 Pm4
  obtain ⟨_, _, ⟨T4, L4, k4, n4⟩, -, X4, ⟨Lc4, hQ4, l4, y4, z4⟩, st4⟩ := X3.virtualBack hx (y := nM29) (z := nM29) hown (mvT hZ (ow hw 169 rfl)) (mvT hZ (ow hw 170 rfl)) (notFace_of_selects (args := #[]) (mvT hZ (ow hw 172 rfl))) (mvT hZ (ow hw 172 rfl)) (mvT hZ (ow hw 171 rfl)) (by decide) (backOf (W := 0) (rm35_47 l Z a0 hw [] o2 o3 i1 i2 o4 kc3 vs4 kc5 h0 n0 Z0 S0 Pm4 Pm5 Pm6 Pm7 Pm8 ne_o2_o3 gn_o3 ne_o3_o4 hy16 hy18 hy19 hy17 hy20) hZ (ow hw 173 rfl) (ow hw 6 rfl) (by decide) (by decide)) q4a q4c (g := (mkF m 15 #[vr o1, vi i1, vr o2] [(.int 0), (.int i1), (.ref o3), (.ref o2)])) rfl (by rw [hml]; rfl) (Steps.refl _) (argsL := [(.ref o3), (.int i1), (.int 0)]) (rest := []) (lenOf pd_28 rfl) rfl (omw rfl rfl) (hb hby d33_15) (fun _ _ => ⟨rfl, e3, (by decide : 0 + 0 ≤ _), (by decide : 0 + 0 ≤ _)⟩)
  dsimp only [Pt.U, Pt.locs, Pt.cells, Pt.slots] at X4 l4 y4 z4 st4 hQ4
  subst l4 y4 z4
  obtain ⟨h4, e4⟩ : ∃ z, T4.heap = z := ⟨_, rfl⟩
  rw [e4] at hQ4
  obtain ⟨rfl, N4q, K4q, q0_4⟩ := hQ4
  have N4 := Fr.app N1 N4q
  have K4 : Keep h0 h4 [o3] := (Keep.refl h0 [o3]).trans K4q (allS (Or.inl (List.mem_of_getElem? (i := 0) rfl)) all0)
  have f5 := own_staK S0 K4q (allS (own_arvP Pm7) all0)
  refine step (T4.setTop (mkF m 18 #[vr o1, vi i1, vr o2] [])) (fun t k => st4.trans k) ?_
  refine fin (v := none) X4 (fun _ => rfl) ?_ (by decide) (by decide) (fun fs hr => X4.returnOut hx hret (hb hby d33_18) hr)
  show Q33_45 Z o1 i1 o2 i2 o3 o4 kc3 vs4 kc5 h0 n0 (none) T4.heap _
  rw [e4]
  exact ⟨rfl, N4, K4, q0_4⟩
def Q31_41 (Z : State) (o1 : Addr) (o2 : Addr) (i1 : Int32) (i2 : Int32) (o3 : Addr) (o4 : Addr) (kc3 : ClassId) (vs4 : List Value) (kc5 : ClassId) (h0 : Heap) (n0 : Nat) (v : Option Value) (h : Heap) (L : List Loc) : Prop := v = some (.ref o1) ∧ Fr n0 L ∧ Keep h0 h [o3, o1] ∧ Arv Z h o3 kc3 .byte (16 : Int32) (vs4 ++ [(.int 58), (.int 123)]) (.int 0) ∧ Fld Z h o1 "java/lang/AbstractStringBuilder" "coder" "B" (.int 0) ∧ Fld Z h o1 "java/lang/AbstractStringBuilder" "count" "I" (.int (i2 + (2 : Int32))) ∧ Fld Z h o1 "java/lang/AbstractStringBuilder" "value" "[B" (.ref o3)
set_option maxRecDepth 65536 in
set_option maxHeartbeats 40000000 in
theorem rm31_41 (l : Launch) (Z : State) (a0 : Array Value) (hw : ∀ d ∈ tables_1, d.before a0 Z = true) (ws : List Jvm.Cond) (o1 : Addr) (o2 : Addr) (i1 : Int32) (i2 : Int32) (o3 : Addr) (o4 : Addr) (kc3 : ClassId) (vs4 : List Value) (kc5 : ClassId) (h0 : Heap) (n0 : Nat) (Z0 : n0 ≤ h0.size) (S0 : Sta Z h0 "java/lang/String" "COMPACT_STRINGS" "Z" (.int i1)) (Pm1 : Exa Z h0 o1 "java/lang/StringBuilder") (Pm2 : Fld Z h0 o1 "java/lang/AbstractStringBuilder" "coder" "B" (.int 0)) (Pm3 : Fld Z h0 o1 "java/lang/AbstractStringBuilder" "count" "I" (.int i2)) (Pm4 : Fld Z h0 o1 "java/lang/AbstractStringBuilder" "value" "[B" (.ref o3)) (Pm5 : Exa Z h0 o2 "java/lang/String") (Pm6 : Fld Z h0 o2 "java/lang/String" "coder" "B" (.int 0)) (Pm7 : Fld Z h0 o2 "java/lang/String" "value" "[B" (.ref o4)) (Pm8 : Arv Z h0 o3 kc3 .byte (16 : Int32) vs4 (.int 0)) (Pm9 : Arv Z h0 o4 kc5 .byte (2 : Int32) [(.int 58), (.int 123)] (.int 0)) (gn_o1 : n0 ≤ o1) (ne_o1_o2 : o1 ≠ o2) (ne_o1_o3 : o1 ≠ o3) (ne_o1_o4 : o1 ≠ o4) (ne_o2_o3 : o2 ≠ o3) (gn_o3 : n0 ≤ o3) (ne_o3_o4 : o3 ≠ o4) (hy17 : ¬ ((0 : Int32) < ((i2 + (2 : Int32)) - (16 : Int32)))) (hy18 : ¬ (i2 < (0 : Int32))) (hy19 : i2.toNatClampNeg + (2 : Int32).toNatClampNeg ≤ (16 : Int32).toNatClampNeg) (hy20 : ¬ (i1 = (0 : Int32))) (hy21 : vs4.length = i2.toNatClampNeg)  :
    OwnM l Z nM31 jdk_68_method_22_code 3 (some (.object "java/lang/AbstractStringBuilder")) ws ({ frames := 3, cells := 0, slots := 0, locals := 47 } : Room) #[(.ref o1), (.ref o2)] h0 (Q31_41 Z o1 o2 i1 i2 o3 o4 kc3 vs4 kc5 h0 n0) := by
  refine own_body (plainFor_of_name pn_6) ?_
  intro p e s m below meth c s₁ G hx hby hml hZ hown hnm hret X0 e0 step fin
  replace hown : s.vm.findClass "java/lang/AbstractStringBuilder" = some m.cls := hown
  have N0 := Fr.nil n0
  have KK : OwnK p e below c _ G := ⟨step, hx, hby⟩
  refine step (s₁.setTop (mkF m 0 #[vr o1, vr o2, .unset] [])) (fun t k => castTop (ef_31_35 m o1 o2) k) ?_
  refine oal KK X0 d31_0 (.ref o2) 1 rfl rfl rfl ?_
  refine step (s₁.setTop (mkF m 9 #[vr o1, vr o2, .unset] [])) (fun t k => XS.ifnonnullYes X0.here hx rfl (pc0 := 1) (pc' := 9) rfl (hb hby d31_1) rfl (by decide) (by decide) k) ?_
  refine oal KK X0 d31_9 (.ref o2) 10 rfl rfl rfl ?_
  obtain ⟨cq1, kq1, q1a, q1b, q1c⟩ := isOf hZ e0 Pm5
  obtain ⟨_, _, ⟨T1, L1, k1, n1⟩, -, X1, ⟨Lc1, hQ1, l1, y1, z1⟩, st1⟩ := X0.virtualBack hx (y := nM13) (z := nM13) hown (mvT hZ (ow hw 150 rfl)) (mvT hZ (ow hw 81 rfl)) (notFace_of_selects (args := #[]) (mvT hZ (ow hw 83 rfl))) (mvT hZ (ow hw 83 rfl)) (mvT hZ (ow hw 82 rfl)) (by decide) (backOf (W := 0) (rm18_42 l Z a0 hw [] o2 i1 o4 kc5 h0 n0 Z0 S0 Pm5 Pm6 Pm7 Pm9 hy20) hZ (ow hw 84 rfl) (ow hw 6 rfl) (by decide) (by decide)) q1a q1c (g := (mkF m 10 #[vr o1, vr o2, .unset] [(.ref o2)])) rfl (by rw [hml]; rfl) (Steps.refl _) (argsL := []) (rest := []) (lenOf pd_20 rfl) rfl (omw rfl rfl) (hb hby d31_10) (fun _ _ => ⟨rfl, e0, (by decide : 0 + 0 ≤ _), (by decide : 0 + 0 ≤ _)⟩)
  dsimp only [Pt.U, Pt.locs, Pt.cells, Pt.slots] at X1 l1 y1 z1 st1 hQ1
  subst l1 y1 z1
  obtain ⟨rfl, N1q, e1q⟩ := hQ1
  have N1 := Fr.app N0 N1q
  refine step (T1.setTop (mkF m 13 #[vr o1, vr o2, .unset] [(.int 2)])) (fun t k => st1.trans k) ?_
  refine ois KK X1 d31_13 #[vr o1, vr o2, vi 2] 14 rfl rfl ?_
  refine oal KK X1 d31_14 (.ref o1) 15 rfl rfl rfl ?_
  refine oal KK X1 d31_15 (.ref o1) 16 rfl rfl rfl ?_
  obtain ⟨T2, X2, e2, st2⟩ := getF X1 hx hZ hown (host := "") (Or.inl (ow hw 151 rfl)) Via.refl e1q Pm3 (g := (mkF m 16 #[vr o1, vr o2, vi 2] [(.ref o1), (.ref o1)])) rfl rfl (hb hby d31_16)
  refine step (T2.setTop (mkF m 19 #[vr o1, vr o2, vi 2] [(.int i2), (.ref o1)])) (fun t k => st2 t k) ?_
  refine oil KK X2 d31_19 (2 : Int32) 20 rfl rfl ?_
  refine step (T2.setTop (mkF m 21 #[vr o1, vr o2, vi 2] [(.int (i2 + (2 : Int32))), (.ref o1)])) (fun t k => XS.iadd X2.here hx rfl (hb hby d31_20) rfl k) ?_
  obtain ⟨cq3, q3, q3'⟩ := Pm1.cell
  obtain ⟨_, _, ⟨T3, L3, k3, n3⟩, -, X3, ⟨Lc3, hQ3, l3, y3, z3⟩, st3⟩ := X2.privateBack hx (y := nM27) hown (mvT hZ (ow hw 153 rfl)) (mvT hZ (ow hw 154 rfl)) (own_selP2 (mvT hZ (ow hw 156 rfl)) (mvT hZ (ow hw 154 rfl)) (Cond.privateMethod_at (mvP hZ (ow hw 155 rfl) (args := #[]))) (by decide)) (Cond.privateMethod_at (mvP hZ (ow hw 155 rfl) (args := #[]))) (mvT hZ (ow hw 157 rfl)) (by decide) (backOf (W := 0) (rm32_44 l Z a0 hw [] o1 (i2 + (2 : Int32)) i2 o3 kc3 vs4 h0 n0 Z0 Pm1 Pm2 Pm3 Pm4 Pm8 gn_o1 ne_o1_o3 gn_o3 hy17 hy18 hy19 hy21) hZ (ow hw 157 rfl) (ow hw 132 rfl) (by decide) (by decide)) (g := (mkF m 21 #[vr o1, vr o2, vi 2] [(.int (i2 + (2 : Int32))), (.ref o1)])) rfl (by rw [hml]; rfl) (Steps.refl _) (a := o1) (by rw [e2]; exact q3) q3' (argsL := [(.int (i2 + (2 : Int32)))]) (rest := []) (lenOf pd_25 rfl) rfl (omw rfl rfl) (hb hby d31_21) (fun _ _ => ⟨rfl, e2, (by decide : 0 + 0 ≤ _), (by decide : 0 + 0 ≤ _)⟩)
  dsimp only [Pt.U, Pt.locs, Pt.cells, Pt.slots] at X3 l3 y3 z3 st3 hQ3
  subst l3 y3 z3
  obtain ⟨rfl, N3q, e3q⟩ := hQ3
  have N3 := Fr.app N1 N3q
  refine step (T3.setTop (mkF m 24 #[vr o1, vr o2, vi 2] [])) (fun t k => st3.trans k) ?_
  refine oal KK X3 d31_24 (.ref o1) 25 rfl rfl rfl ?_
  refine oal KK X3 d31_25 (.ref o1) 26 rfl rfl rfl ?_
  obtain ⟨T4, X4, e4, st4⟩ := getF X3 hx hZ hown (host := "") (Or.inl (ow hw 151 rfl)) Via.refl e3q Pm3 (g := (mkF m 26 #[vr o1, vr o2, vi 2] [(.ref o1), (.ref o1)])) rfl rfl (hb hby d31_26)
  refine step (T4.setTop (mkF m 29 #[vr o1, vr o2, vi 2] [(.int i2), (.ref o1)])) (fun t k => st4 t k) ?_
  refine oal KK X4 d31_29 (.ref o2) 30 rfl rfl rfl ?_
  obtain ⟨cq5, q5, q5'⟩ := Pm1.cell
  obtain ⟨_, _, ⟨T5, L5, k5, n5⟩, -, X5, ⟨Lc5, hQ5, l5, y5, z5⟩, st5⟩ := X4.privateBack hx (y := nM30) hown (mvT hZ (ow hw 158 rfl)) (mvT hZ (ow hw 159 rfl)) (own_selP2 (mvT hZ (ow hw 161 rfl)) (mvT hZ (ow hw 159 rfl)) (Cond.privateMethod_at (mvP hZ (ow hw 160 rfl) (args := #[]))) (by decide)) (Cond.privateMethod_at (mvP hZ (ow hw 160 rfl) (args := #[]))) (mvT hZ (ow hw 162 rfl)) (by decide) (backOf (W := 0) (rm33_45 l Z a0 hw [] o1 i2 o2 i1 o3 o4 kc3 vs4 kc5 h0 n0 Z0 S0 Pm1 Pm2 Pm4 Pm5 Pm6 Pm7 Pm8 Pm9 gn_o1 ne_o1_o2 ne_o1_o3 ne_o1_o4 ne_o2_o3 gn_o3 ne_o3_o4 hy17 hy20 hy18 hy19 hy21) hZ (ow hw 162 rfl) (ow hw 132 rfl) (by decide) (by decide)) (g := (mkF m 30 #[vr o1, vr o2, vi 2] [(.ref o2), (.int i2), (.ref o1)])) rfl (by rw [hml]; rfl) (Steps.refl _) (a := o1) (by rw [e4]; exact q5) q5' (argsL := [(.int i2), (.ref o2)]) (rest := []) (lenOf pd_27 rfl) rfl (omw rfl rfl) (hb hby d31_30) (fun _ _ => ⟨rfl, e4, (by decide : 0 + 0 ≤ _), (by decide : 0 + 0 ≤ _)⟩)
  dsimp only [Pt.U, Pt.locs, Pt.cells, Pt.slots] at X5 l5 y5 z5 st5 hQ5
  subst l5 y5 z5
  obtain ⟨h5, e5⟩ : ∃ z, T5.heap = z := ⟨_, rfl⟩
  rw [e5] at hQ5
  obtain ⟨rfl, N5q, K5q, q0_5⟩ := hQ5
  have N5 := Fr.app N3 N5q
  have K5 : Keep h0 h5 [o3, o1] := (Keep.refl h0 [o3, o1]).trans K5q (allS (Or.inl (List.mem_of_getElem? (i := 0) rfl)) all0)
  have f6 := own_staK S0 K5q (allS (own_arvP Pm8) all0)
  refine step (T5.setTop (mkF m 33 #[vr o1, vr o2, vi 2] [])) (fun t k => st5.trans k) ?_
  refine oal KK X5 d31_33 (.ref o1) 34 rfl rfl rfl ?_
  refine odu KK X5 d31_34 35 rfl rfl ?_
  have f7 := (Pm3.keep K5q (ninS ne_o1_o3 nin0))
  obtain ⟨T8, X8, e8, st8⟩ := getF X5 hx hZ hown (host := "") (Or.inl (ow hw 151 rfl)) Via.refl e5 f7 (g := (mkF m 35 #[vr o1, vr o2, vi 2] [(.ref o1), (.ref o1)])) rfl rfl (hb hby d31_35)
  refine step (T8.setTop (mkF m 38 #[vr o1, vr o2, vi 2] [(.int i2), (.ref o1)])) (fun t k => st8 t k) ?_
  refine oil KK X8 d31_38 (2 : Int32) 39 rfl rfl ?_
  refine step (T8.setTop (mkF m 40 #[vr o1, vr o2, vi 2] [(.int (i2 + (2 : Int32))), (.ref o1)])) (fun t k => XS.iadd X8.here hx rfl (hb hby d31_39) rfl k) ?_
  have f9 := (Pm1.keep K5q)
  obtain ⟨T10, h10, X10, e10, W10, st10⟩ := putF X8 hx hZ hown (host := "") (Or.inl (ow hw 151 rfl)) Via.refl e8 f7 f9 (Or.inl (ow hw 152 rfl)) (ow hw 123 rfl) (ty := .int) (by decide) rfl rfl (g := (mkF m 40 #[vr o1, vr o2, vi 2] [(.int (i2 + (2 : Int32))), (.ref o1)])) rfl rfl (hb hby d31_40)
  have N10 := Fr.snoc X10 N5 gn_o1
  have K10 : Keep h0 h10 [o3, o1] := K5.wr W10 (Or.inl (List.mem_of_getElem? (i := 1) rfl))
  have F10 := f7.same W10
  refine step (T10.setTop (mkF m 43 #[vr o1, vr o2, vi 2] [])) (fun t k => st10 t k) ?_
  refine oal KK X10 d31_43 (.ref o1) 44 rfl rfl rfl ?_
  have f11 := (q0_5.other W10 (Ne.symm ne_o1_o3))
  have f12 := ((Pm2.keep K5q (ninS ne_o1_o3 nin0)).other W10 (Or.inr (slot_ne (Or.inl (ow hw 139 rfl)) (Or.inl (ow hw 152 rfl)) (by decide) (t := .byte) (t' := .int) (by decide) (by decide))))
  have f13 := ((Pm4.keep K5q (ninS ne_o1_o3 nin0)).other W10 (Or.inr (slot_ne (Or.inl (ow hw 137 rfl)) (Or.inl (ow hw 152 rfl)) (by decide) (t := (.array .byte)) (t' := .int) (by decide) (by decide))))
  refine fin (v := some (.ref o1)) X10 (fun h => by cases h) ?_ (by decide) (by decide) (fun fs hr => X10.areturnOut hx rfl hret rfl (hb hby d31_44) hr)
  show Q31_41 Z o1 o2 i1 i2 o3 o4 kc3 vs4 kc5 h0 n0 (some (.ref o1)) T10.heap _
  rw [e10]
  exact ⟨rfl, N10, K10, f11, f12, F10, f13⟩
def Q30_40 (Z : State) (o1 : Addr) (o2 : Addr) (i1 : Int32) (c1 : Int32) (o3 : Addr) (o4 : Addr) (kc2 : ClassId) (vs1 : List Value) (kc3 : ClassId) (h0 : Heap) (n0 : Nat) (v : Option Value) (h : Heap) (L : List Loc) : Prop := v = some (.ref o1) ∧ Fr n0 L ∧ Keep h0 h [o3, o1] ∧ Arv Z h o3 kc2 .byte (16 : Int32) (vs1 ++ [(.int 58), (.int 123)]) (.int 0) ∧ Fld Z h o1 "java/lang/AbstractStringBuilder" "coder" "B" (.int 0) ∧ Fld Z h o1 "java/lang/AbstractStringBuilder" "count" "I" (.int (c1 + (2 : Int32))) ∧ Fld Z h o1 "java/lang/AbstractStringBuilder" "value" "[B" (.ref o3)
set_option maxRecDepth 65536 in
set_option maxHeartbeats 40000000 in
theorem rm30_40 (l : Launch) (Z : State) (a0 : Array Value) (hw : ∀ d ∈ tables_1, d.before a0 Z = true) (ws : List Jvm.Cond) (o1 : Addr) (o2 : Addr) (i1 : Int32) (c1 : Int32) (o3 : Addr) (o4 : Addr) (kc2 : ClassId) (vs1 : List Value) (kc3 : ClassId) (h0 : Heap) (n0 : Nat) (Z0 : n0 ≤ h0.size) (S0 : Sta Z h0 "java/lang/String" "COMPACT_STRINGS" "Z" (.int i1)) (Pm1 : Exa Z h0 o1 "java/lang/StringBuilder") (Pm2 : Fld Z h0 o1 "java/lang/AbstractStringBuilder" "coder" "B" (.int 0)) (Pm3 : Fld Z h0 o1 "java/lang/AbstractStringBuilder" "count" "I" (.int c1)) (Pm4 : Fld Z h0 o1 "java/lang/AbstractStringBuilder" "value" "[B" (.ref o3)) (Pm5 : Exa Z h0 o2 "java/lang/String") (Pm6 : Fld Z h0 o2 "java/lang/String" "coder" "B" (.int 0)) (Pm7 : Fld Z h0 o2 "java/lang/String" "value" "[B" (.ref o4)) (Pm8 : Arv Z h0 o3 kc2 .byte (16 : Int32) vs1 (.int 0)) (Pm9 : Arv Z h0 o4 kc3 .byte (2 : Int32) [(.int 58), (.int 123)] (.int 0)) (gn_o1 : n0 ≤ o1) (ne_o1_o2 : o1 ≠ o2) (ne_o1_o3 : o1 ≠ o3) (ne_o1_o4 : o1 ≠ o4) (ne_o2_o3 : o2 ≠ o3) (gn_o3 : n0 ≤ o3) (ne_o3_o4 : o3 ≠ o4) (hg_g1 : vs1.length = c1.toNatClampNeg) (hg_g2 : ¬ (c1 < (0 : Int32))) (hg_g3 : ¬ ((0 : Int32) < ((c1 + (2 : Int32)) - (16 : Int32)))) (hg_g4 : c1.toNatClampNeg + (2 : Int32).toNatClampNeg ≤ (16 : Int32).toNatClampNeg) (hy21 : ¬ (i1 = (0 : Int32)))  :
    OwnM l Z nM32 jdk_67_method_7_code 2 (some (.object "java/lang/StringBuilder")) ws ({ frames := 4, cells := 0, slots := 0, locals := 61 } : Room) #[(.ref o1), (.ref o2)] h0 (Q30_40 Z o1 o2 i1 c1 o3 o4 kc2 vs1 kc3 h0 n0) := by
  refine own_body (plainFor_of_name pn_5) ?_
  intro p e s m below meth c s₁ G hx hby hml hZ hown hnm hret X0 e0 step fin
  replace hown : s.vm.findClass "java/lang/StringBuilder" = some m.cls := hown
  have N0 := Fr.nil n0
  have KK : OwnK p e below c _ G := ⟨step, hx, hby⟩
  refine step (s₁.setTop (mkF m 0 #[vr o1, vr o2] [])) (fun t k => castTop (ef_2_2 m o1 o2) k) ?_
  refine oal KK X0 d30_0 (.ref o1) 1 rfl rfl rfl ?_
  refine oal KK X0 d30_1 (.ref o2) 2 rfl rfl rfl ?_
  obtain ⟨_, _, ⟨T1, L1, k1, n1⟩, -, X1, ⟨Lc1, hQ1, l1, y1, z1⟩, st1⟩ := superBack X0 hx hZ (y := nM31) hown (ow hw 145 rfl) (own_same (y := nM31) (ow hw 148 rfl) (ow hw 156 rfl) rfl (by decide)) (ow hw 146 rfl) (ow hw 147 rfl) (by decide) (backOf (W := 0) (rm31_41 l Z a0 hw [] o1 o2 i1 c1 o3 o4 kc2 vs1 kc3 h0 n0 Z0 S0 Pm1 Pm2 Pm3 Pm4 Pm5 Pm6 Pm7 Pm8 Pm9 gn_o1 ne_o1_o2 ne_o1_o3 ne_o1_o4 ne_o2_o3 gn_o3 ne_o3_o4 hg_g3 hg_g2 hg_g4 hy21 hg_g1) hZ (ow hw 149 rfl) (ow hw 132 rfl) (by decide) (by decide)) e0 (Ins.self Pm1) (g := (mkF m 2 #[vr o1, vr o2] [(.ref o2), (.ref o1)])) rfl (by rw [hml]; rfl) (ow hw 149 rfl) (argsL := [(.ref o2)]) (rest := []) (lenOf pd_26 rfl) rfl (omw rfl rfl) (hb hby d30_2) (fun _ _ => ⟨rfl, e0, (by decide : 0 + 0 ≤ _), (by decide : 0 + 0 ≤ _)⟩)
  dsimp only [Pt.U, Pt.locs, Pt.cells, Pt.slots] at X1 l1 y1 z1 st1 hQ1
  subst l1 y1 z1
  obtain ⟨h1, e1⟩ : ∃ z, T1.heap = z := ⟨_, rfl⟩
  rw [e1] at hQ1
  obtain ⟨rfl, N1q, K1q, q0_1, q1_1, q2_1, q3_1⟩ := hQ1
  have N1 := Fr.app N0 N1q
  have K1 : Keep h0 h1 [o3, o1] := (Keep.refl h0 [o3, o1]).trans K1q (allS (Or.inl (List.mem_of_getElem? (i := 0) rfl)) (allS (Or.inl (List.mem_of_getElem? (i := 1) rfl)) all0))
  have f2 := own_staK S0 K1q (allS (own_arvP Pm8) (allS (own_exaP Pm1) all0))
  refine step (T1.setTop (mkF m 5 #[vr o1, vr o2] [(.ref o1)])) (fun t k => st1.trans k) ?_
  refine step (T1.setTop (mkF m 6 #[vr o1, vr o2] [])) (fun t k => XS.pop X1.here hx rfl (hb hby d30_5) rfl rfl k) ?_
  refine oal KK X1 d30_6 (.ref o1) 7 rfl rfl rfl ?_
  refine fin (v := some (.ref o1)) X1 (fun h => by cases h) ?_ (by decide) (by decide) (fun fs hr => X1.areturnOut hx rfl hret rfl (hb hby d30_7) hr)
  show Q30_40 Z o1 o2 i1 c1 o3 o4 kc2 vs1 kc3 h0 n0 (some (.ref o1)) T1.heap _
  rw [e1]
  exact ⟨rfl, N1, K1, q0_1, q1_1, q2_1, q3_1⟩
def Q18_50 (Z : State) (o1 : Addr) (i1 : Int32) (o2 : Addr) (kc2 : ClassId) (h0 : Heap) (n0 : Nat) (v : Option Value) (h : Heap) (L : List Loc) : Prop := v = some (.int 2) ∧ Fr n0 L ∧ h = h0
set_option maxRecDepth 65536 in
set_option maxHeartbeats 40000000 in
theorem rm18_50 (l : Launch) (Z : State) (a0 : Array Value) (hw : ∀ d ∈ tables_1, d.before a0 Z = true) (ws : List Jvm.Cond) (o1 : Addr) (i1 : Int32) (o2 : Addr) (kc2 : ClassId) (h0 : Heap) (n0 : Nat) (Z0 : n0 ≤ h0.size) (S0 : Sta Z h0 "java/lang/String" "COMPACT_STRINGS" "Z" (.int i1)) (Pm1 : Exa Z h0 o1 "java/lang/String") (Pm2 : Fld Z h0 o1 "java/lang/String" "coder" "B" (.int 0)) (Pm3 : Fld Z h0 o1 "java/lang/String" "value" "[B" (.ref o2)) (Pm4 : Arv Z h0 o2 kc2 .byte (2 : Int32) [(.int 125), (.int 58)] (.int 0)) (hy5 : ¬ (i1 = (0 : Int32)))  :
    OwnM l Z nM13 jdk_42_method_54_code 1 (some .int) ws ({ frames := 1, cells := 0, slots := 0, locals := 13 } : Room) #[(.ref o1)] h0 (Q18_50 Z o1 i1 o2 kc2 h0 n0) := by
  refine own_body (plainFor_of_name pn_1) ?_
  intro p e s m below meth c s₁ G hx hby hml hZ hown hnm hret X0 e0 step fin
  replace hown : s.vm.findClass "java/lang/String" = some m.cls := hown
  have N0 := Fr.nil n0
  have KK : OwnK p e below c _ G := ⟨step, hx, hby⟩
  refine step (s₁.setTop (mkF m 0 #[vr o1] [])) (fun t k => castTop (ef_14_13 m o1) k) ?_
  refine oal KK X0 d18_0 (.ref o1) 1 rfl rfl rfl ?_
  obtain ⟨T1, X1, e1, st1⟩ := getF X0 hx hZ hown (host := "") (Or.inl (ow hw 32 rfl)) Via.refl e0 Pm3 (g := (mkF m 1 #[vr o1] [(.ref o1)])) rfl rfl (hb hby d18_1)
  refine step (T1.setTop (mkF m 4 #[vr o1] [(.ref o2)])) (fun t k => st1 t k) ?_
  obtain ⟨cl2, Ar2, q2, S2, N2n, H2, G2⟩ := id Pm4
  refine step (T1.setTop (mkF m 5 #[vr o1] [(.int 2)])) (fun t k => X1.arraylength hx (by rw [e1]; exact Ar2.1) (State.isArrayOf_alike hZ.alike Ar2.2.1) (g := (mkF m 4 #[vr o1] [(.ref o2)])) rfl rfl (hb hby d18_4) t (by rw [len_of S2 N2n]; exact k)) ?_
  refine oal KK X1 d18_5 (.ref o1) 6 rfl rfl rfl ?_
  obtain ⟨cq3, kq3, q3a, q3b, q3c⟩ := isOf hZ e1 Pm1
  obtain ⟨_, _, ⟨T3, L3, k3, n3⟩, -, X3, ⟨Lc3, hQ3, l3, y3, z3⟩, st3⟩ := X1.virtualBack hx (y := nM12) (z := nM12) hown (mvT hZ (ow hw 85 rfl)) (mvT hZ (ow hw 86 rfl)) (notFace_of_selects (args := #[]) (mvT hZ (ow hw 88 rfl))) (mvT hZ (ow hw 88 rfl)) (mvT hZ (ow hw 87 rfl)) (by decide) (backOf (W := 1) (rm19_43 l Z a0 hw [] o1 i1 h0 n0 Z0 S0 Pm1 Pm2 hy5) hZ (ow hw 89 rfl) (ow hw 6 rfl) (by decide) (by decide)) q3a q3c (g := (mkF m 6 #[vr o1] [(.ref o1), (.int 2)])) rfl (by rw [hml]; rfl) (Steps.refl _) (argsL := []) (rest := [(.int 2)]) (lenOf pd_22 rfl) rfl (omw rfl rfl) (hb hby d18_6) (fun _ _ => ⟨rfl, e1, (by decide : 0 + 0 ≤ _), (by decide : 0 + 0 ≤ _)⟩)
  dsimp only [Pt.U, Pt.locs, Pt.cells, Pt.slots] at X3 l3 y3 z3 st3 hQ3
  subst l3 y3 z3
  obtain ⟨rfl, N3q, e3q⟩ := hQ3
  have N3 := Fr.app N0 N3q
  refine step (T3.setTop (mkF m 9 #[vr o1] [(.int 0), (.int 2)])) (fun t k => st3.trans k) ?_
  refine step (T3.setTop (mkF m 10 #[vr o1] [(.int 2)])) (fun t k => XS.ishr X3.here hx rfl (hb hby d18_9) rfl k) ?_
  refine fin (v := some (.int 2)) X3 (fun h => by cases h) ?_ (by decide) (by decide) (fun fs hr => retI X3 hx hret (hb hby d18_10) hr)
  show Q18_50 Z o1 i1 o2 kc2 h0 n0 (some (.int 2)) T3.heap _
  rw [e3q]
  exact ⟨rfl, N3, rfl⟩
def Q35_52 (Z : State) (o1 : Addr) (o2 : Addr) (i1 : Int32) (i2 : Int32) (o3 : Addr) (kc3 : ClassId) (vs4 : List Value) (kc5 : ClassId) (h0 : Heap) (n0 : Nat) (v : Option Value) (h : Heap) (L : List Loc) : Prop := v = none ∧ Fr n0 L ∧ Keep h0 h [o2] ∧ Arv Z h o2 kc3 .byte (16 : Int32) (vs4 ++ [(.int 125), (.int 58)]) (.int 0)
set_option maxRecDepth 65536 in
set_option maxHeartbeats 40000000 in
theorem rm35_52 (l : Launch) (Z : State) (a0 : Array Value) (hw : ∀ d ∈ tables_1, d.before a0 Z = true) (ws : List Jvm.Cond) (o1 : Addr) (o2 : Addr) (i1 : Int32) (i2 : Int32) (o3 : Addr) (kc3 : ClassId) (vs4 : List Value) (kc5 : ClassId) (h0 : Heap) (n0 : Nat) (Z0 : n0 ≤ h0.size) (S0 : Sta Z h0 "java/lang/String" "COMPACT_STRINGS" "Z" (.int i2)) (Pm1 : Exa Z h0 o1 "java/lang/String") (Pm2 : Fld Z h0 o1 "java/lang/String" "coder" "B" (.int 0)) (Pm3 : Fld Z h0 o1 "java/lang/String" "value" "[B" (.ref o3)) (Pm4 : Arv Z h0 o2 kc3 .byte (16 : Int32) vs4 (.int 0)) (Pm5 : Arv Z h0 o3 kc5 .byte (2 : Int32) [(.int 125), (.int 58)] (.int 0)) (ne_o1_o2 : o1 ≠ o2) (gn_o2 : n0 ≤ o2) (ne_o2_o3 : o2 ≠ o3) (hy9 : ¬ ((0 : Int32) < ((i1 + (2 : Int32)) - (16 : Int32)))) (hy10 : ¬ (i1 < (0 : Int32))) (hy11 : i1.toNatClampNeg + (2 : Int32).toNatClampNeg ≤ (16 : Int32).toNatClampNeg) (hy12 : ¬ (i2 = (0 : Int32))) (hy13 : vs4.length = i1.toNatClampNeg)  :
    OwnM l Z nM29 jdk_42_method_147_code 4 none ws ({ frames := 1, cells := 0, slots := 0, locals := 18 } : Room) #[(.ref o1), (.ref o2), (.int i1), (.int 0)] h0 (Q35_52 Z o1 o2 i1 i2 o3 kc3 vs4 kc5 h0 n0) := by
  refine own_body (plainFor_of_name pn_1) ?_
  intro p e s m below meth c s₁ G hx hby hml hZ hown hnm hret X0 e0 step fin
  replace hown : s.vm.findClass "java/lang/String" = some m.cls := hown
  have N0 := Fr.nil n0
  have KK : OwnK p e below c _ G := ⟨step, hx, hby⟩
  refine step (s₁.setTop (mkF m 0 #[vr o1, vr o2, vi i1, vi 0] [])) (fun t k => castTop (ef_35_39 m o1 o2 i1) k) ?_
  refine oal KK X0 d35_0 (.ref o1) 1 rfl rfl rfl ?_
  obtain ⟨cq1, kq1, q1a, q1b, q1c⟩ := isOf hZ e0 Pm1
  obtain ⟨_, _, ⟨T1, L1, k1, n1⟩, -, X1, ⟨Lc1, hQ1, l1, y1, z1⟩, st1⟩ := X0.virtualBack hx (y := nM12) (z := nM12) hown (mvT hZ (ow hw 85 rfl)) (mvT hZ (ow hw 86 rfl)) (notFace_of_selects (args := #[]) (mvT hZ (ow hw 88 rfl))) (mvT hZ (ow hw 88 rfl)) (mvT hZ (ow hw 87 rfl)) (by decide) (backOf (W := 0) (rm19_43 l Z a0 hw [] o1 i2 h0 n0 Z0 S0 Pm1 Pm2 hy12) hZ (ow hw 89 rfl) (ow hw 6 rfl) (by decide) (by decide)) q1a q1c (g := (mkF m 1 #[vr o1, vr o2, vi i1, vi 0] [(.ref o1)])) rfl (by rw [hml]; rfl) (Steps.refl _) (argsL := []) (rest := []) (lenOf pd_22 rfl) rfl (omw rfl rfl) (hb hby d35_1) (fun _ _ => ⟨rfl, e0, (by decide : 0 + 0 ≤ _), (by decide : 0 + 0 ≤ _)⟩)
  dsimp only [Pt.U, Pt.locs, Pt.cells, Pt.slots] at X1 l1 y1 z1 st1 hQ1
  subst l1 y1 z1
  obtain ⟨rfl, N1q, e1q⟩ := hQ1
  have N1 := Fr.app N0 N1q
  refine step (T1.setTop (mkF m 4 #[vr o1, vr o2, vi i1, vi 0] [(.int 0)])) (fun t k => st1.trans k) ?_
  refine oil KK X1 d35_4 (0 : Int32) 5 rfl rfl ?_
  refine oin KK X1 d35_5 8 rfl (teq (by decide : (0 : Int32) = (0 : Int32))).2 ?_
  refine oal KK X1 d35_8 (.ref o1) 9 rfl rfl rfl ?_
  obtain ⟨T2, X2, e2, st2⟩ := getF X1 hx hZ hown (host := "") (Or.inl (ow hw 32 rfl)) Via.refl e1q Pm3 (g := (mkF m 9 #[vr o1, vr o2, vi i1, vi 0] [(.ref o1)])) rfl rfl (hb hby d35_9)
  refine step (T2.setTop (mkF m 12 #[vr o1, vr o2, vi i1, vi 0] [(.ref o3)])) (fun t k => st2 t k) ?_
  refine oic KK X2 d35_12 0 13 rfl rfl ?_
  refine oal KK X2 d35_13 (.ref o2) 14 rfl rfl rfl ?_
  refine oil KK X2 d35_14 i1 15 rfl rfl ?_
  refine oil KK X2 d35_15 (0 : Int32) 16 rfl rfl ?_
  refine step (T2.setTop (mkF m 17 #[vr o1, vr o2, vi i1, vi 0] [(.int (i1 <<< ((0 : Int32) &&& 31))), (.ref o2), (.int 0), (.ref o3)])) (fun t k => XS.ishl X2.here hx rfl (hb hby d35_16) rfl k) ?_
  rw [own_shl0 i1]
  refine oal KK X2 d35_17 (.ref o1) 18 rfl rfl rfl ?_
  obtain ⟨T3, X3, e3, st3⟩ := getF X2 hx hZ hown (host := "") (Or.inl (ow hw 32 rfl)) Via.refl e2 Pm3 (g := (mkF m 18 #[vr o1, vr o2, vi i1, vi 0] [(.ref o1), (.int i1), (.ref o2), (.int 0), (.ref o3)])) rfl rfl (hb hby d35_18)
  refine step (T3.setTop (mkF m 21 #[vr o1, vr o2, vi i1, vi 0] [(.ref o3), (.int i1), (.ref o2), (.int 0), (.ref o3)])) (fun t k => st3 t k) ?_
  obtain ⟨cl4, Ar4, q4, S4, N4n, H4, G4⟩ := id Pm5
  refine step (T3.setTop (mkF m 22 #[vr o1, vr o2, vi i1, vi 0] [(.int 2), (.int i1), (.ref o2), (.int 0), (.ref o3)])) (fun t k => X3.arraylength hx (by rw [e3]; exact Ar4.1) (State.isArrayOf_alike hZ.alike Ar4.2.1) (g := (mkF m 21 #[vr o1, vr o2, vi i1, vi 0] [(.ref o3), (.int i1), (.ref o2), (.int 0), (.ref o3)])) rfl rfl (hb hby d35_21) t (by rw [len_of S4 N4n]; exact k)) ?_
  obtain ⟨T5, h5, L5, X5, e5, N5, K5q, Vq5, st5⟩ := cpA X3 hx hZ hown (ow hw 174 rfl) (ow hw 177 rfl) (ow hw 175 rfl) (ow hw 176 rfl) e3 Pm5 (Pm4.pad (pad_rep vs4 (.int 0) 2)) (us := [(.int 125), (.int 58)]) (Or.inl ⟨rfl, rfl⟩) (by decide) hy10 (by decide) (by decide) hy11 rfl (own_hl hy13) N1 gn_o2 (g := (mkF m 22 #[vr o1, vr o2, vi i1, vi 0] [(.int 2), (.int i1), (.ref o2), (.int 0), (.ref o3)])) rfl (by rw [hml]; rfl) (rest := []) rfl (hb hby d35_22) (by decide) (W := 0) (omw rfl rfl) (by decide)
  have K5 : Keep h0 h5 [o2] := (Keep.refl h0 [o2]).trans K5q (allS (Or.inl (List.mem_of_getElem? (i := 0) rfl)) all0)
  have f6 := own_staK S0 K5q (allS (own_arvP Pm4) all0)
  have V5 : Arv Z h5 o2 kc3 .byte (16 : Int32) (vs4 ++ [(.int 125), (.int 58)]) (.int 0) := own_arvA hy13 rfl Vq5
  refine step (T5.setTop (mkF m 25 #[vr o1, vr o2, vi i1, vi 0] [])) (fun t k => st5 t k) ?_
  refine ogo KK X5 d35_25 43 (by decide) rfl ?_
  refine fin (v := none) X5 (fun _ => rfl) ?_ (by decide) (by decide) (fun fs hr => X5.returnOut hx hret (hb hby d35_43) hr)
  show Q35_52 Z o1 o2 i1 i2 o3 kc3 vs4 kc5 h0 n0 (none) T5.heap _
  rw [e5]
  exact ⟨rfl, N5, K5, V5⟩
def Q33_51 (Z : State) (o1 : Addr) (i1 : Int32) (o2 : Addr) (i2 : Int32) (o3 : Addr) (o4 : Addr) (kc3 : ClassId) (vs4 : List Value) (kc5 : ClassId) (h0 : Heap) (n0 : Nat) (v : Option Value) (h : Heap) (L : List Loc) : Prop := v = none ∧ Fr n0 L ∧ Keep h0 h [o3] ∧ Arv Z h o3 kc3 .byte (16 : Int32) (vs4 ++ [(.int 125), (.int 58)]) (.int 0)
set_option maxRecDepth 65536 in
set_option maxHeartbeats 40000000 in
theorem rm33_51 (l : Launch) (Z : State) (a0 : Array Value) (hw : ∀ d ∈ tables_1, d.before a0 Z = true) (ws : List Jvm.Cond) (o1 : Addr) (i1 : Int32) (o2 : Addr) (i2 : Int32) (o3 : Addr) (o4 : Addr) (kc3 : ClassId) (vs4 : List Value) (kc5 : ClassId) (h0 : Heap) (n0 : Nat) (Z0 : n0 ≤ h0.size) (S0 : Sta Z h0 "java/lang/String" "COMPACT_STRINGS" "Z" (.int i2)) (Pm1 : Exa Z h0 o1 "java/lang/StringBuilder") (Pm2 : Fld Z h0 o1 "java/lang/AbstractStringBuilder" "coder" "B" (.int 0)) (Pm3 : Fld Z h0 o1 "java/lang/AbstractStringBuilder" "value" "[B" (.ref o3)) (Pm4 : Exa Z h0 o2 "java/lang/String") (Pm5 : Fld Z h0 o2 "java/lang/String" "coder" "B" (.int 0)) (Pm6 : Fld Z h0 o2 "java/lang/String" "value" "[B" (.ref o4)) (Pm7 : Arv Z h0 o3 kc3 .byte (16 : Int32) vs4 (.int 0)) (Pm8 : Arv Z h0 o4 kc5 .byte (2 : Int32) [(.int 125), (.int 58)] (.int 0)) (gn_o1 : n0 ≤ o1) (ne_o1_o2 : o1 ≠ o2) (ne_o1_o3 : o1 ≠ o3) (ne_o1_o4 : o1 ≠ o4) (ne_o2_o3 : o2 ≠ o3) (gn_o3 : n0 ≤ o3) (ne_o3_o4 : o3 ≠ o4) (hy16 : ¬ ((0 : Int32) < ((i1 + (2 : Int32)) - (16 : Int32)))) (hy17 : ¬ (i2 = (0 : Int32))) (hy18 : ¬ (i1 < (0 : Int32))) (hy19 : i1.toNatClampNeg + (2 : Int32).toNatClampNeg ≤ (16 : Int32).toNatClampNeg) (hy20 : vs4.length = i1.toNatClampNeg)  :
    OwnM l Z nM30 jdk_68_method_73_code 3 none ws ({ frames := 2, cells := 0, slots := 0, locals := 33 } : Room) #[(.ref o1), (.int i1), (.ref o2)] h0 (Q33_51 Z o1 i1 o2 i2 o3 o4 kc3 vs4 kc5 h0 n0) := by
  refine own_body (plainFor_of_name pn_6) ?_
  intro p e s m below meth c s₁ G hx hby hml hZ hown hnm hret X0 e0 step fin
  replace hown : s.vm.findClass "java/lang/AbstractStringBuilder" = some m.cls := hown
  have N0 := Fr.nil n0
  have KK : OwnK p e below c _ G := ⟨step, hx, hby⟩
  refine step (s₁.setTop (mkF m 0 #[vr o1, vi i1, vr o2] [])) (fun t k => castTop (ef_33_37 m o1 i1 o2) k) ?_
  refine oal KK X0 d33_0 (.ref o1) 1 rfl rfl rfl ?_
  refine oal KK X0 d33_1 (.ref o2) 2 rfl rfl rfl ?_
  obtain ⟨cq1, q1, q1'⟩ := Pm1.cell
  obtain ⟨_, _, ⟨T1, L1, k1, n1⟩, -, X1, ⟨Lc1, hQ1, l1, y1, z1⟩, st1⟩ := X0.privateBack hx (y := nM28) hown (mvT hZ (ow hw 163 rfl)) (mvT hZ (ow hw 164 rfl)) (own_selP2 (mvT hZ (ow hw 166 rfl)) (mvT hZ (ow hw 164 rfl)) (Cond.privateMethod_at (mvP hZ (ow hw 165 rfl) (args := #[]))) (by decide)) (Cond.privateMethod_at (mvP hZ (ow hw 165 rfl) (args := #[]))) (mvT hZ (ow hw 167 rfl)) (by decide) (backOf (W := 0) (rm34_46 l Z a0 hw [] o1 o2 i2 h0 n0 Z0 S0 Pm1 Pm2 Pm4 Pm5 gn_o1 ne_o1_o2 hy17) hZ (ow hw 167 rfl) (ow hw 132 rfl) (by decide) (by decide)) (g := (mkF m 2 #[vr o1, vi i1, vr o2] [(.ref o2), (.ref o1)])) rfl (by rw [hml]; rfl) (Steps.refl _) (a := o1) (by rw [e0]; exact q1) q1' (argsL := [(.ref o2)]) (rest := []) (lenOf pd_14 rfl) rfl (omw rfl rfl) (hb hby d33_2) (fun _ _ => ⟨rfl, e0, (by decide : 0 + 0 ≤ _), (by decide : 0 + 0 ≤ _)⟩)
  dsimp only [Pt.U, Pt.locs, Pt.cells, Pt.slots] at X1 l1 y1 z1 st1 hQ1
  subst l1 y1 z1
  obtain ⟨rfl, N1q, e1q⟩ := hQ1
  have N1 := Fr.app N0 N1q
  refine step (T1.setTop (mkF m 5 #[vr o1, vi i1, vr o2] [])) (fun t k => st1.trans k) ?_
  refine oal KK X1 d33_5 (.ref o2) 6 rfl rfl rfl ?_
  refine oal KK X1 d33_6 (.ref o1) 7 rfl rfl rfl ?_
  obtain ⟨T2, X2, e2, st2⟩ := getF X1 hx hZ hown (host := "") (Or.inl (ow hw 136 rfl)) Via.refl e1q Pm3 (g := (mkF m 7 #[vr o1, vi i1, vr o2] [(.ref o1), (.ref o2)])) rfl rfl (hb hby d33_7)
  refine step (T2.setTop (mkF m 10 #[vr o1, vi i1, vr o2] [(.ref o3), (.ref o2)])) (fun t k => st2 t k) ?_
  refine oil KK X2 d33_10 i1 11 rfl rfl ?_
  refine oal KK X2 d33_11 (.ref o1) 12 rfl rfl rfl ?_
  obtain ⟨T3, X3, e3, st3⟩ := getF X2 hx hZ hown (host := "") (Or.inl (ow hw 138 rfl)) Via.refl e2 Pm2 (g := (mkF m 12 #[vr o1, vi i1, vr o2] [(.ref o1), (.int i1), (.ref o3), (.ref o2)])) rfl rfl (hb hby d33_12)
  refine step (T3.setTop (mkF m 15 #[vr o1, vi i1, vr o2] [(.int 0), (.int i1), (.ref o3), (.ref o2)])) (fun t k => st3 t k) ?_
  obtain ⟨cq4, kq4, q4a, q4b, q4c⟩ := isOf hZ e3 Pm4
  obtain ⟨_, _, ⟨T4, L4, k4, n4⟩, -, X4, ⟨Lc4, hQ4, l4, y4, z4⟩, st4⟩ := X3.virtualBack hx (y := nM29) (z := nM29) hown (mvT hZ (ow hw 169 rfl)) (mvT hZ (ow hw 170 rfl)) (notFace_of_selects (args := #[]) (mvT hZ (ow hw 172 rfl))) (mvT hZ (ow hw 172 rfl)) (mvT hZ (ow hw 171 rfl)) (by decide) (backOf (W := 0) (rm35_52 l Z a0 hw [] o2 o3 i1 i2 o4 kc3 vs4 kc5 h0 n0 Z0 S0 Pm4 Pm5 Pm6 Pm7 Pm8 ne_o2_o3 gn_o3 ne_o3_o4 hy16 hy18 hy19 hy17 hy20) hZ (ow hw 173 rfl) (ow hw 6 rfl) (by decide) (by decide)) q4a q4c (g := (mkF m 15 #[vr o1, vi i1, vr o2] [(.int 0), (.int i1), (.ref o3), (.ref o2)])) rfl (by rw [hml]; rfl) (Steps.refl _) (argsL := [(.ref o3), (.int i1), (.int 0)]) (rest := []) (lenOf pd_28 rfl) rfl (omw rfl rfl) (hb hby d33_15) (fun _ _ => ⟨rfl, e3, (by decide : 0 + 0 ≤ _), (by decide : 0 + 0 ≤ _)⟩)
  dsimp only [Pt.U, Pt.locs, Pt.cells, Pt.slots] at X4 l4 y4 z4 st4 hQ4
  subst l4 y4 z4
  obtain ⟨h4, e4⟩ : ∃ z, T4.heap = z := ⟨_, rfl⟩
  rw [e4] at hQ4
  obtain ⟨rfl, N4q, K4q, q0_4⟩ := hQ4
  have N4 := Fr.app N1 N4q
  have K4 : Keep h0 h4 [o3] := (Keep.refl h0 [o3]).trans K4q (allS (Or.inl (List.mem_of_getElem? (i := 0) rfl)) all0)
  have f5 := own_staK S0 K4q (allS (own_arvP Pm7) all0)
  refine step (T4.setTop (mkF m 18 #[vr o1, vi i1, vr o2] [])) (fun t k => st4.trans k) ?_
  refine fin (v := none) X4 (fun _ => rfl) ?_ (by decide) (by decide) (fun fs hr => X4.returnOut hx hret (hb hby d33_18) hr)
  show Q33_51 Z o1 i1 o2 i2 o3 o4 kc3 vs4 kc5 h0 n0 (none) T4.heap _
  rw [e4]
  exact ⟨rfl, N4, K4, q0_4⟩
def Q31_49 (Z : State) (o1 : Addr) (o2 : Addr) (i1 : Int32) (i2 : Int32) (o3 : Addr) (o4 : Addr) (kc3 : ClassId) (vs4 : List Value) (kc5 : ClassId) (h0 : Heap) (n0 : Nat) (v : Option Value) (h : Heap) (L : List Loc) : Prop := v = some (.ref o1) ∧ Fr n0 L ∧ Keep h0 h [o3, o1] ∧ Arv Z h o3 kc3 .byte (16 : Int32) (vs4 ++ [(.int 125), (.int 58)]) (.int 0) ∧ Fld Z h o1 "java/lang/AbstractStringBuilder" "coder" "B" (.int 0) ∧ Fld Z h o1 "java/lang/AbstractStringBuilder" "count" "I" (.int (i2 + (2 : Int32))) ∧ Fld Z h o1 "java/lang/AbstractStringBuilder" "value" "[B" (.ref o3)
set_option maxRecDepth 65536 in
set_option maxHeartbeats 40000000 in
theorem rm31_49 (l : Launch) (Z : State) (a0 : Array Value) (hw : ∀ d ∈ tables_1, d.before a0 Z = true) (ws : List Jvm.Cond) (o1 : Addr) (o2 : Addr) (i1 : Int32) (i2 : Int32) (o3 : Addr) (o4 : Addr) (kc3 : ClassId) (vs4 : List Value) (kc5 : ClassId) (h0 : Heap) (n0 : Nat) (Z0 : n0 ≤ h0.size) (S0 : Sta Z h0 "java/lang/String" "COMPACT_STRINGS" "Z" (.int i1)) (Pm1 : Exa Z h0 o1 "java/lang/StringBuilder") (Pm2 : Fld Z h0 o1 "java/lang/AbstractStringBuilder" "coder" "B" (.int 0)) (Pm3 : Fld Z h0 o1 "java/lang/AbstractStringBuilder" "count" "I" (.int i2)) (Pm4 : Fld Z h0 o1 "java/lang/AbstractStringBuilder" "value" "[B" (.ref o3)) (Pm5 : Exa Z h0 o2 "java/lang/String") (Pm6 : Fld Z h0 o2 "java/lang/String" "coder" "B" (.int 0)) (Pm7 : Fld Z h0 o2 "java/lang/String" "value" "[B" (.ref o4)) (Pm8 : Arv Z h0 o3 kc3 .byte (16 : Int32) vs4 (.int 0)) (Pm9 : Arv Z h0 o4 kc5 .byte (2 : Int32) [(.int 125), (.int 58)] (.int 0)) (gn_o1 : n0 ≤ o1) (ne_o1_o2 : o1 ≠ o2) (ne_o1_o3 : o1 ≠ o3) (ne_o1_o4 : o1 ≠ o4) (ne_o2_o3 : o2 ≠ o3) (gn_o3 : n0 ≤ o3) (ne_o3_o4 : o3 ≠ o4) (hy17 : ¬ ((0 : Int32) < ((i2 + (2 : Int32)) - (16 : Int32)))) (hy18 : ¬ (i2 < (0 : Int32))) (hy19 : i2.toNatClampNeg + (2 : Int32).toNatClampNeg ≤ (16 : Int32).toNatClampNeg) (hy20 : ¬ (i1 = (0 : Int32))) (hy21 : vs4.length = i2.toNatClampNeg)  :
    OwnM l Z nM31 jdk_68_method_22_code 3 (some (.object "java/lang/AbstractStringBuilder")) ws ({ frames := 3, cells := 0, slots := 0, locals := 47 } : Room) #[(.ref o1), (.ref o2)] h0 (Q31_49 Z o1 o2 i1 i2 o3 o4 kc3 vs4 kc5 h0 n0) := by
  refine own_body (plainFor_of_name pn_6) ?_
  intro p e s m below meth c s₁ G hx hby hml hZ hown hnm hret X0 e0 step fin
  replace hown : s.vm.findClass "java/lang/AbstractStringBuilder" = some m.cls := hown
  have N0 := Fr.nil n0
  have KK : OwnK p e below c _ G := ⟨step, hx, hby⟩
  refine step (s₁.setTop (mkF m 0 #[vr o1, vr o2, .unset] [])) (fun t k => castTop (ef_31_35 m o1 o2) k) ?_
  refine oal KK X0 d31_0 (.ref o2) 1 rfl rfl rfl ?_
  refine step (s₁.setTop (mkF m 9 #[vr o1, vr o2, .unset] [])) (fun t k => XS.ifnonnullYes X0.here hx rfl (pc0 := 1) (pc' := 9) rfl (hb hby d31_1) rfl (by decide) (by decide) k) ?_
  refine oal KK X0 d31_9 (.ref o2) 10 rfl rfl rfl ?_
  obtain ⟨cq1, kq1, q1a, q1b, q1c⟩ := isOf hZ e0 Pm5
  obtain ⟨_, _, ⟨T1, L1, k1, n1⟩, -, X1, ⟨Lc1, hQ1, l1, y1, z1⟩, st1⟩ := X0.virtualBack hx (y := nM13) (z := nM13) hown (mvT hZ (ow hw 150 rfl)) (mvT hZ (ow hw 81 rfl)) (notFace_of_selects (args := #[]) (mvT hZ (ow hw 83 rfl))) (mvT hZ (ow hw 83 rfl)) (mvT hZ (ow hw 82 rfl)) (by decide) (backOf (W := 0) (rm18_50 l Z a0 hw [] o2 i1 o4 kc5 h0 n0 Z0 S0 Pm5 Pm6 Pm7 Pm9 hy20) hZ (ow hw 84 rfl) (ow hw 6 rfl) (by decide) (by decide)) q1a q1c (g := (mkF m 10 #[vr o1, vr o2, .unset] [(.ref o2)])) rfl (by rw [hml]; rfl) (Steps.refl _) (argsL := []) (rest := []) (lenOf pd_20 rfl) rfl (omw rfl rfl) (hb hby d31_10) (fun _ _ => ⟨rfl, e0, (by decide : 0 + 0 ≤ _), (by decide : 0 + 0 ≤ _)⟩)
  dsimp only [Pt.U, Pt.locs, Pt.cells, Pt.slots] at X1 l1 y1 z1 st1 hQ1
  subst l1 y1 z1
  obtain ⟨rfl, N1q, e1q⟩ := hQ1
  have N1 := Fr.app N0 N1q
  refine step (T1.setTop (mkF m 13 #[vr o1, vr o2, .unset] [(.int 2)])) (fun t k => st1.trans k) ?_
  refine ois KK X1 d31_13 #[vr o1, vr o2, vi 2] 14 rfl rfl ?_
  refine oal KK X1 d31_14 (.ref o1) 15 rfl rfl rfl ?_
  refine oal KK X1 d31_15 (.ref o1) 16 rfl rfl rfl ?_
  obtain ⟨T2, X2, e2, st2⟩ := getF X1 hx hZ hown (host := "") (Or.inl (ow hw 151 rfl)) Via.refl e1q Pm3 (g := (mkF m 16 #[vr o1, vr o2, vi 2] [(.ref o1), (.ref o1)])) rfl rfl (hb hby d31_16)
  refine step (T2.setTop (mkF m 19 #[vr o1, vr o2, vi 2] [(.int i2), (.ref o1)])) (fun t k => st2 t k) ?_
  refine oil KK X2 d31_19 (2 : Int32) 20 rfl rfl ?_
  refine step (T2.setTop (mkF m 21 #[vr o1, vr o2, vi 2] [(.int (i2 + (2 : Int32))), (.ref o1)])) (fun t k => XS.iadd X2.here hx rfl (hb hby d31_20) rfl k) ?_
  obtain ⟨cq3, q3, q3'⟩ := Pm1.cell
  obtain ⟨_, _, ⟨T3, L3, k3, n3⟩, -, X3, ⟨Lc3, hQ3, l3, y3, z3⟩, st3⟩ := X2.privateBack hx (y := nM27) hown (mvT hZ (ow hw 153 rfl)) (mvT hZ (ow hw 154 rfl)) (own_selP2 (mvT hZ (ow hw 156 rfl)) (mvT hZ (ow hw 154 rfl)) (Cond.privateMethod_at (mvP hZ (ow hw 155 rfl) (args := #[]))) (by decide)) (Cond.privateMethod_at (mvP hZ (ow hw 155 rfl) (args := #[]))) (mvT hZ (ow hw 157 rfl)) (by decide) (backOf (W := 0) (rm32_44 l Z a0 hw [] o1 (i2 + (2 : Int32)) i2 o3 kc3 vs4 h0 n0 Z0 Pm1 Pm2 Pm3 Pm4 Pm8 gn_o1 ne_o1_o3 gn_o3 hy17 hy18 hy19 hy21) hZ (ow hw 157 rfl) (ow hw 132 rfl) (by decide) (by decide)) (g := (mkF m 21 #[vr o1, vr o2, vi 2] [(.int (i2 + (2 : Int32))), (.ref o1)])) rfl (by rw [hml]; rfl) (Steps.refl _) (a := o1) (by rw [e2]; exact q3) q3' (argsL := [(.int (i2 + (2 : Int32)))]) (rest := []) (lenOf pd_25 rfl) rfl (omw rfl rfl) (hb hby d31_21) (fun _ _ => ⟨rfl, e2, (by decide : 0 + 0 ≤ _), (by decide : 0 + 0 ≤ _)⟩)
  dsimp only [Pt.U, Pt.locs, Pt.cells, Pt.slots] at X3 l3 y3 z3 st3 hQ3
  subst l3 y3 z3
  obtain ⟨rfl, N3q, e3q⟩ := hQ3
  have N3 := Fr.app N1 N3q
  refine step (T3.setTop (mkF m 24 #[vr o1, vr o2, vi 2] [])) (fun t k => st3.trans k) ?_
  refine oal KK X3 d31_24 (.ref o1) 25 rfl rfl rfl ?_
  refine oal KK X3 d31_25 (.ref o1) 26 rfl rfl rfl ?_
  obtain ⟨T4, X4, e4, st4⟩ := getF X3 hx hZ hown (host := "") (Or.inl (ow hw 151 rfl)) Via.refl e3q Pm3 (g := (mkF m 26 #[vr o1, vr o2, vi 2] [(.ref o1), (.ref o1)])) rfl rfl (hb hby d31_26)
  refine step (T4.setTop (mkF m 29 #[vr o1, vr o2, vi 2] [(.int i2), (.ref o1)])) (fun t k => st4 t k) ?_
  refine oal KK X4 d31_29 (.ref o2) 30 rfl rfl rfl ?_
  obtain ⟨cq5, q5, q5'⟩ := Pm1.cell
  obtain ⟨_, _, ⟨T5, L5, k5, n5⟩, -, X5, ⟨Lc5, hQ5, l5, y5, z5⟩, st5⟩ := X4.privateBack hx (y := nM30) hown (mvT hZ (ow hw 158 rfl)) (mvT hZ (ow hw 159 rfl)) (own_selP2 (mvT hZ (ow hw 161 rfl)) (mvT hZ (ow hw 159 rfl)) (Cond.privateMethod_at (mvP hZ (ow hw 160 rfl) (args := #[]))) (by decide)) (Cond.privateMethod_at (mvP hZ (ow hw 160 rfl) (args := #[]))) (mvT hZ (ow hw 162 rfl)) (by decide) (backOf (W := 0) (rm33_51 l Z a0 hw [] o1 i2 o2 i1 o3 o4 kc3 vs4 kc5 h0 n0 Z0 S0 Pm1 Pm2 Pm4 Pm5 Pm6 Pm7 Pm8 Pm9 gn_o1 ne_o1_o2 ne_o1_o3 ne_o1_o4 ne_o2_o3 gn_o3 ne_o3_o4 hy17 hy20 hy18 hy19 hy21) hZ (ow hw 162 rfl) (ow hw 132 rfl) (by decide) (by decide)) (g := (mkF m 30 #[vr o1, vr o2, vi 2] [(.ref o2), (.int i2), (.ref o1)])) rfl (by rw [hml]; rfl) (Steps.refl _) (a := o1) (by rw [e4]; exact q5) q5' (argsL := [(.int i2), (.ref o2)]) (rest := []) (lenOf pd_27 rfl) rfl (omw rfl rfl) (hb hby d31_30) (fun _ _ => ⟨rfl, e4, (by decide : 0 + 0 ≤ _), (by decide : 0 + 0 ≤ _)⟩)
  dsimp only [Pt.U, Pt.locs, Pt.cells, Pt.slots] at X5 l5 y5 z5 st5 hQ5
  subst l5 y5 z5
  obtain ⟨h5, e5⟩ : ∃ z, T5.heap = z := ⟨_, rfl⟩
  rw [e5] at hQ5
  obtain ⟨rfl, N5q, K5q, q0_5⟩ := hQ5
  have N5 := Fr.app N3 N5q
  have K5 : Keep h0 h5 [o3, o1] := (Keep.refl h0 [o3, o1]).trans K5q (allS (Or.inl (List.mem_of_getElem? (i := 0) rfl)) all0)
  have f6 := own_staK S0 K5q (allS (own_arvP Pm8) all0)
  refine step (T5.setTop (mkF m 33 #[vr o1, vr o2, vi 2] [])) (fun t k => st5.trans k) ?_
  refine oal KK X5 d31_33 (.ref o1) 34 rfl rfl rfl ?_
  refine odu KK X5 d31_34 35 rfl rfl ?_
  have f7 := (Pm3.keep K5q (ninS ne_o1_o3 nin0))
  obtain ⟨T8, X8, e8, st8⟩ := getF X5 hx hZ hown (host := "") (Or.inl (ow hw 151 rfl)) Via.refl e5 f7 (g := (mkF m 35 #[vr o1, vr o2, vi 2] [(.ref o1), (.ref o1)])) rfl rfl (hb hby d31_35)
  refine step (T8.setTop (mkF m 38 #[vr o1, vr o2, vi 2] [(.int i2), (.ref o1)])) (fun t k => st8 t k) ?_
  refine oil KK X8 d31_38 (2 : Int32) 39 rfl rfl ?_
  refine step (T8.setTop (mkF m 40 #[vr o1, vr o2, vi 2] [(.int (i2 + (2 : Int32))), (.ref o1)])) (fun t k => XS.iadd X8.here hx rfl (hb hby d31_39) rfl k) ?_
  have f9 := (Pm1.keep K5q)
  obtain ⟨T10, h10, X10, e10, W10, st10⟩ := putF X8 hx hZ hown (host := "") (Or.inl (ow hw 151 rfl)) Via.refl e8 f7 f9 (Or.inl (ow hw 152 rfl)) (ow hw 123 rfl) (ty := .int) (by decide) rfl rfl (g := (mkF m 40 #[vr o1, vr o2, vi 2] [(.int (i2 + (2 : Int32))), (.ref o1)])) rfl rfl (hb hby d31_40)
  have N10 := Fr.snoc X10 N5 gn_o1
  have K10 : Keep h0 h10 [o3, o1] := K5.wr W10 (Or.inl (List.mem_of_getElem? (i := 1) rfl))
  have F10 := f7.same W10
  refine step (T10.setTop (mkF m 43 #[vr o1, vr o2, vi 2] [])) (fun t k => st10 t k) ?_
  refine oal KK X10 d31_43 (.ref o1) 44 rfl rfl rfl ?_
  have f11 := (q0_5.other W10 (Ne.symm ne_o1_o3))
  have f12 := ((Pm2.keep K5q (ninS ne_o1_o3 nin0)).other W10 (Or.inr (slot_ne (Or.inl (ow hw 139 rfl)) (Or.inl (ow hw 152 rfl)) (by decide) (t := .byte) (t' := .int) (by decide) (by decide))))
  have f13 := ((Pm4.keep K5q (ninS ne_o1_o3 nin0)).other W10 (Or.inr (slot_ne (Or.inl (ow hw 137 rfl)) (Or.inl (ow hw 152 rfl)) (by decide) (t := (.array .byte)) (t' := .int) (by decide) (by decide))))
  refine fin (v := some (.ref o1)) X10 (fun h => by cases h) ?_ (by decide) (by decide) (fun fs hr => X10.areturnOut hx rfl hret rfl (hb hby d31_44) hr)
  show Q31_49 Z o1 o2 i1 i2 o3 o4 kc3 vs4 kc5 h0 n0 (some (.ref o1)) T10.heap _
  rw [e10]
  exact ⟨rfl, N10, K10, f11, f12, F10, f13⟩
def Q30_48 (Z : State) (o1 : Addr) (o2 : Addr) (i1 : Int32) (c1 : Int32) (o3 : Addr) (o4 : Addr) (kc2 : ClassId) (vs1 : List Value) (kc3 : ClassId) (h0 : Heap) (n0 : Nat) (v : Option Value) (h : Heap) (L : List Loc) : Prop := v = some (.ref o1) ∧ Fr n0 L ∧ Keep h0 h [o3, o1] ∧ Arv Z h o3 kc2 .byte (16 : Int32) (vs1 ++ [(.int 125), (.int 58)]) (.int 0) ∧ Fld Z h o1 "java/lang/AbstractStringBuilder" "coder" "B" (.int 0) ∧ Fld Z h o1 "java/lang/AbstractStringBuilder" "count" "I" (.int (c1 + (2 : Int32))) ∧ Fld Z h o1 "java/lang/AbstractStringBuilder" "value" "[B" (.ref o3)
set_option maxRecDepth 65536 in
set_option maxHeartbeats 40000000 in
theorem rm30_48 (l : Launch) (Z : State) (a0 : Array Value) (hw : ∀ d ∈ tables_1, d.before a0 Z = true) (ws : List Jvm.Cond) (o1 : Addr) (o2 : Addr) (i1 : Int32) (c1 : Int32) (o3 : Addr) (o4 : Addr) (kc2 : ClassId) (vs1 : List Value) (kc3 : ClassId) (h0 : Heap) (n0 : Nat) (Z0 : n0 ≤ h0.size) (S0 : Sta Z h0 "java/lang/String" "COMPACT_STRINGS" "Z" (.int i1)) (Pm1 : Exa Z h0 o1 "java/lang/StringBuilder") (Pm2 : Fld Z h0 o1 "java/lang/AbstractStringBuilder" "coder" "B" (.int 0)) (Pm3 : Fld Z h0 o1 "java/lang/AbstractStringBuilder" "count" "I" (.int c1)) (Pm4 : Fld Z h0 o1 "java/lang/AbstractStringBuilder" "value" "[B" (.ref o3)) (Pm5 : Exa Z h0 o2 "java/lang/String") (Pm6 : Fld Z h0 o2 "java/lang/String" "coder" "B" (.int 0)) (Pm7 : Fld Z h0 o2 "java/lang/String" "value" "[B" (.ref o4)) (Pm8 : Arv Z h0 o3 kc2 .byte (16 : Int32) vs1 (.int 0)) (Pm9 : Arv Z h0 o4 kc3 .byte (2 : Int32) [(.int 125), (.int 58)] (.int 0)) (gn_o1 : n0 ≤ o1) (ne_o1_o2 : o1 ≠ o2) (ne_o1_o3 : o1 ≠ o3) (ne_o1_o4 : o1 ≠ o4) (ne_o2_o3 : o2 ≠ o3) (gn_o3 : n0 ≤ o3) (ne_o3_o4 : o3 ≠ o4) (hg_g1 : vs1.length = c1.toNatClampNeg) (hg_g2 : ¬ (c1 < (0 : Int32))) (hg_g3 : ¬ ((0 : Int32) < ((c1 + (2 : Int32)) - (16 : Int32)))) (hg_g4 : c1.toNatClampNeg + (2 : Int32).toNatClampNeg ≤ (16 : Int32).toNatClampNeg) (hy21 : ¬ (i1 = (0 : Int32)))  :
    OwnM l Z nM32 jdk_67_method_7_code 2 (some (.object "java/lang/StringBuilder")) ws ({ frames := 4, cells := 0, slots := 0, locals := 61 } : Room) #[(.ref o1), (.ref o2)] h0 (Q30_48 Z o1 o2 i1 c1 o3 o4 kc2 vs1 kc3 h0 n0) := by
  refine own_body (plainFor_of_name pn_5) ?_
  intro p e s m below meth c s₁ G hx hby hml hZ hown hnm hret X0 e0 step fin
  replace hown : s.vm.findClass "java/lang/StringBuilder" = some m.cls := hown
  have N0 := Fr.nil n0
  have KK : OwnK p e below c _ G := ⟨step, hx, hby⟩
  refine step (s₁.setTop (mkF m 0 #[vr o1, vr o2] [])) (fun t k => castTop (ef_2_2 m o1 o2) k) ?_
  refine oal KK X0 d30_0 (.ref o1) 1 rfl rfl rfl ?_
  refine oal KK X0 d30_1 (.ref o2) 2 rfl rfl rfl ?_
  obtain ⟨_, _, ⟨T1, L1, k1, n1⟩, -, X1, ⟨Lc1, hQ1, l1, y1, z1⟩, st1⟩ := superBack X0 hx hZ (y := nM31) hown (ow hw 145 rfl) (own_same (y := nM31) (ow hw 148 rfl) (ow hw 156 rfl) rfl (by decide)) (ow hw 146 rfl) (ow hw 147 rfl) (by decide) (backOf (W := 0) (rm31_49 l Z a0 hw [] o1 o2 i1 c1 o3 o4 kc2 vs1 kc3 h0 n0 Z0 S0 Pm1 Pm2 Pm3 Pm4 Pm5 Pm6 Pm7 Pm8 Pm9 gn_o1 ne_o1_o2 ne_o1_o3 ne_o1_o4 ne_o2_o3 gn_o3 ne_o3_o4 hg_g3 hg_g2 hg_g4 hy21 hg_g1) hZ (ow hw 149 rfl) (ow hw 132 rfl) (by decide) (by decide)) e0 (Ins.self Pm1) (g := (mkF m 2 #[vr o1, vr o2] [(.ref o2), (.ref o1)])) rfl (by rw [hml]; rfl) (ow hw 149 rfl) (argsL := [(.ref o2)]) (rest := []) (lenOf pd_26 rfl) rfl (omw rfl rfl) (hb hby d30_2) (fun _ _ => ⟨rfl, e0, (by decide : 0 + 0 ≤ _), (by decide : 0 + 0 ≤ _)⟩)
  dsimp only [Pt.U, Pt.locs, Pt.cells, Pt.slots] at X1 l1 y1 z1 st1 hQ1
  subst l1 y1 z1
  obtain ⟨h1, e1⟩ : ∃ z, T1.heap = z := ⟨_, rfl⟩
  rw [e1] at hQ1
  obtain ⟨rfl, N1q, K1q, q0_1, q1_1, q2_1, q3_1⟩ := hQ1
  have N1 := Fr.app N0 N1q
  have K1 : Keep h0 h1 [o3, o1] := (Keep.refl h0 [o3, o1]).trans K1q (allS (Or.inl (List.mem_of_getElem? (i := 0) rfl)) (allS (Or.inl (List.mem_of_getElem? (i := 1) rfl)) all0))
  have f2 := own_staK S0 K1q (allS (own_arvP Pm8) (allS (own_exaP Pm1) all0))
  refine step (T1.setTop (mkF m 5 #[vr o1, vr o2] [(.ref o1)])) (fun t k => st1.trans k) ?_
  refine step (T1.setTop (mkF m 6 #[vr o1, vr o2] [])) (fun t k => XS.pop X1.here hx rfl (hb hby d30_5) rfl rfl k) ?_
  refine oal KK X1 d30_6 (.ref o1) 7 rfl rfl rfl ?_
  refine fin (v := some (.ref o1)) X1 (fun h => by cases h) ?_ (by decide) (by decide) (fun fs hr => X1.areturnOut hx rfl hret rfl (hb hby d30_7) hr)
  show Q30_48 Z o1 o2 i1 c1 o3 o4 kc2 vs1 kc3 h0 n0 (some (.ref o1)) T1.heap _
  rw [e1]
  exact ⟨rfl, N1, K1, q0_1, q1_1, q2_1, q3_1⟩
theorem d36_0 : decode jdk_67_method_42_code 0 = .ok (.new 18, 3) := by decide +kernel
theorem d36_3 : decode jdk_67_method_42_code 3 = .ok (.dup, 1) := by decide +kernel
theorem d36_4 : decode jdk_67_method_42_code 4 = .ok (.aload_n 0, 1) := by decide +kernel
theorem d36_5 : decode jdk_67_method_42_code 5 = .ok (.invokespecial 137, 3) := by decide +kernel
theorem d36_8 : decode jdk_67_method_42_code 8 = .ok (.areturn, 1) := by decide +kernel
theorem pd_30 : parseMethodDescriptor "(Ljava/lang/StringBuilder;)V" = some ⟨[(.object "java/lang/StringBuilder")], none⟩ := by decide +kernel
theorem d37_0 : decode jdk_42_method_53_code 0 = .ok (.aload_n 0, 1) := by decide +kernel
theorem d37_1 : decode jdk_42_method_53_code 1 = .ok (.aload_n 1, 1) := by decide +kernel
theorem d37_2 : decode jdk_42_method_53_code 2 = .ok (.aconst_null, 1) := by decide +kernel
theorem d37_3 : decode jdk_42_method_53_code 3 = .ok (.invokespecial 489, 3) := by decide +kernel
theorem d37_6 : decode jdk_42_method_53_code 6 = .ok (.return_, 1) := by decide +kernel
theorem pd_31 : parseMethodDescriptor "(Ljava/lang/AbstractStringBuilder;Ljava/lang/Void;)V" = some ⟨[(.object "java/lang/AbstractStringBuilder"), (.object "java/lang/Void")], none⟩ := by decide +kernel
theorem d38_0 : decode jdk_42_method_150_code 0 = .ok (.aload_n 0, 1) := by decide +kernel
theorem d38_1 : decode jdk_42_method_150_code 1 = .ok (.invokespecial 1, 3) := by decide +kernel
theorem d38_4 : decode jdk_42_method_150_code 4 = .ok (.aload_n 1, 1) := by decide +kernel
theorem d38_5 : decode jdk_42_method_150_code 5 = .ok (.invokevirtual 552, 3) := by decide +kernel
theorem d38_8 : decode jdk_42_method_150_code 8 = .ok (.astore_n 3, 1) := by decide +kernel
theorem d38_9 : decode jdk_42_method_150_code 9 = .ok (.aload_n 1, 1) := by decide +kernel
theorem d38_10 : decode jdk_42_method_150_code 10 = .ok (.invokevirtual 549, 3) := by decide +kernel
theorem d38_13 : decode jdk_42_method_150_code 13 = .ok (.istore 4, 2) := by decide +kernel
theorem d38_15 : decode jdk_42_method_150_code 15 = .ok (.aload_n 1, 1) := by decide +kernel
theorem d38_16 : decode jdk_42_method_150_code 16 = .ok (.invokevirtual 1047, 3) := by decide +kernel
theorem d38_19 : decode jdk_42_method_150_code 19 = .ok (.ifCond .eq 22, 3) := by decide +kernel
theorem d38_22 : decode jdk_42_method_150_code 22 = .ok (.aload_n 0, 1) := by decide +kernel
theorem d38_23 : decode jdk_42_method_150_code 23 = .ok (.iconst 0, 1) := by decide +kernel
theorem d38_24 : decode jdk_42_method_150_code 24 = .ok (.putfield 15, 3) := by decide +kernel
theorem d38_27 : decode jdk_42_method_150_code 27 = .ok (.aload_n 0, 1) := by decide +kernel
theorem d38_28 : decode jdk_42_method_150_code 28 = .ok (.aload_n 3, 1) := by decide +kernel
theorem d38_29 : decode jdk_42_method_150_code 29 = .ok (.iconst 0, 1) := by decide +kernel
theorem d38_30 : decode jdk_42_method_150_code 30 = .ok (.iload 4, 2) := by decide +kernel
theorem d38_32 : decode jdk_42_method_150_code 32 = .ok (.invokestatic 54, 3) := by decide +kernel
theorem d38_35 : decode jdk_42_method_150_code 35 = .ok (.putfield 9, 3) := by decide +kernel
theorem d38_38 : decode jdk_42_method_150_code 38 = .ok (.goto 59, 3) := by decide +kernel
theorem d38_41 : decode jdk_42_method_150_code 41 = .ok (.getstatic 38, 3) := by decide +kernel
theorem d38_44 : decode jdk_42_method_150_code 44 = .ok (.ifCond .eq 35, 3) := by decide +kernel
theorem d38_47 : decode jdk_42_method_150_code 47 = .ok (.aload_n 1, 1) := by decide +kernel
theorem d38_48 : decode jdk_42_method_150_code 48 = .ok (.getfield 1048, 3) := by decide +kernel
theorem d38_51 : decode jdk_42_method_150_code 51 = .ok (.ifCond .eq 28, 3) := by decide +kernel
theorem d38_54 : decode jdk_42_method_150_code 54 = .ok (.aload_n 0, 1) := by decide +kernel
theorem d38_55 : decode jdk_42_method_150_code 55 = .ok (.aload_n 3, 1) := by decide +kernel
theorem d38_56 : decode jdk_42_method_150_code 56 = .ok (.iconst 0, 1) := by decide +kernel
theorem d38_57 : decode jdk_42_method_150_code 57 = .ok (.iload 4, 2) := by decide +kernel
theorem d38_59 : decode jdk_42_method_150_code 59 = .ok (.invokestatic 1051, 3) := by decide +kernel
theorem d38_62 : decode jdk_42_method_150_code 62 = .ok (.putfield 9, 3) := by decide +kernel
theorem d38_65 : decode jdk_42_method_150_code 65 = .ok (.aload_n 0, 1) := by decide +kernel
theorem d38_66 : decode jdk_42_method_150_code 66 = .ok (.aload_n 0, 1) := by decide +kernel
theorem d38_67 : decode jdk_42_method_150_code 67 = .ok (.getfield 9, 3) := by decide +kernel
theorem d38_70 : decode jdk_42_method_150_code 70 = .ok (.iload 4, 2) := by decide +kernel
theorem d38_72 : decode jdk_42_method_150_code 72 = .ok (.invokestatic 47, 3) := by decide +kernel
theorem d38_75 : decode jdk_42_method_150_code 75 = .ok (.putfield 15, 3) := by decide +kernel
theorem d38_78 : decode jdk_42_method_150_code 78 = .ok (.return_, 1) := by decide +kernel
theorem d38_79 : decode jdk_42_method_150_code 79 = .ok (.aload_n 0, 1) := by decide +kernel
theorem d38_80 : decode jdk_42_method_150_code 80 = .ok (.iconst 1, 1) := by decide +kernel
theorem d38_81 : decode jdk_42_method_150_code 81 = .ok (.putfield 15, 3) := by decide +kernel
theorem d38_84 : decode jdk_42_method_150_code 84 = .ok (.aload_n 0, 1) := by decide +kernel
theorem d38_85 : decode jdk_42_method_150_code 85 = .ok (.aload_n 3, 1) := by decide +kernel
theorem d38_86 : decode jdk_42_method_150_code 86 = .ok (.iconst 0, 1) := by decide +kernel
theorem d38_87 : decode jdk_42_method_150_code 87 = .ok (.iload 4, 2) := by decide +kernel
theorem d38_89 : decode jdk_42_method_150_code 89 = .ok (.iconst 1, 1) := by decide +kernel
theorem d38_90 : decode jdk_42_method_150_code 90 = .ok (.ishl, 1) := by decide +kernel
theorem d38_91 : decode jdk_42_method_150_code 91 = .ok (.invokestatic 54, 3) := by decide +kernel
theorem d38_94 : decode jdk_42_method_150_code 94 = .ok (.putfield 9, 3) := by decide +kernel
theorem d38_97 : decode jdk_42_method_150_code 97 = .ok (.return_, 1) := by decide +kernel
theorem pd_32 : parseMethodDescriptor "()[B" = some ⟨[], some (.array .byte)⟩ := by decide +kernel
theorem pd_33 : parseMethodDescriptor "([BII)[B" = some ⟨[(.array .byte), .int, .int], some (.array .byte)⟩ := by decide +kernel
theorem d39_0 : decode jdk_68_method_64_code 0 = .ok (.aload_n 0, 1) := by decide +kernel
theorem d39_1 : decode jdk_68_method_64_code 1 = .ok (.getfield 15, 3) := by decide +kernel
theorem d39_4 : decode jdk_68_method_64_code 4 = .ok (.areturn, 1) := by decide +kernel
def Q39_56 (Z : State) (o1 : Addr) (o2 : Addr) (h0 : Heap) (n0 : Nat) (v : Option Value) (h : Heap) (L : List Loc) : Prop := v = some (.ref o2) ∧ Fr n0 L ∧ h = h0
set_option maxRecDepth 65536 in
set_option maxHeartbeats 40000000 in
theorem rm39_56 (l : Launch) (Z : State) (a0 : Array Value) (hw : ∀ d ∈ tables_1, d.before a0 Z = true) (ws : List Jvm.Cond) (o1 : Addr) (o2 : Addr) (h0 : Heap) (n0 : Nat) (Z0 : n0 ≤ h0.size) (Pm0 : Exa Z h0 o1 "java/lang/StringBuilder") (Pm1 : Fld Z h0 o1 "java/lang/AbstractStringBuilder" "value" "[B" (.ref o2)) (gn_o1 : n0 ≤ o1) (ne_o1_o2 : o1 ≠ o2) (gn_o2 : n0 ≤ o2)  :
    OwnM l Z nM33 jdk_68_method_64_code 1 (some (.array .byte)) ws ({ frames := 0, cells := 0, slots := 0, locals := 0 } : Room) #[(.ref o1)] h0 (Q39_56 Z o1 o2 h0 n0) := by
  refine own_body (plainFor_of_name pn_6) ?_
  intro p e s m below meth c s₁ G hx hby hml hZ hown hnm hret X0 e0 step fin
  replace hown : s.vm.findClass "java/lang/AbstractStringBuilder" = some m.cls := hown
  have N0 := Fr.nil n0
  have KK : OwnK p e below c _ G := ⟨step, hx, hby⟩
  refine step (s₁.setTop (mkF m 0 #[vr o1] [])) (fun t k => castTop (ef_14_13 m o1) k) ?_
  refine oal KK X0 d39_0 (.ref o1) 1 rfl rfl rfl ?_
  obtain ⟨T1, X1, e1, st1⟩ := getF X0 hx hZ hown (host := "") (Or.inl (ow hw 136 rfl)) Via.refl e0 Pm1 (g := (mkF m 1 #[vr o1] [(.ref o1)])) rfl rfl (hb hby d39_1)
  refine step (T1.setTop (mkF m 4 #[vr o1] [(.ref o2)])) (fun t k => st1 t k) ?_
  refine fin (v := some (.ref o2)) X1 (fun h => by cases h) ?_ (by decide) (by decide) (fun fs hr => X1.areturnOut hx rfl hret rfl (hb hby d39_4) hr)
  show Q39_56 Z o1 o2 h0 n0 (some (.ref o2)) T1.heap _
  rw [e1]
  exact ⟨rfl, N0, rfl⟩
theorem d40_0 : decode jdk_67_method_93_code 0 = .ok (.aload_n 0, 1) := by decide +kernel
theorem d40_1 : decode jdk_67_method_93_code 1 = .ok (.invokespecial 343, 3) := by decide +kernel
theorem d40_4 : decode jdk_67_method_93_code 4 = .ok (.ireturn, 1) := by decide +kernel
theorem d41_0 : decode jdk_68_method_6_code 0 = .ok (.aload_n 0, 1) := by decide +kernel
theorem d41_1 : decode jdk_68_method_6_code 1 = .ok (.getfield 79, 3) := by decide +kernel
theorem d41_4 : decode jdk_68_method_6_code 4 = .ok (.ireturn, 1) := by decide +kernel
def Q41_58 (Z : State) (o1 : Addr) (h0 : Heap) (n0 : Nat) (v : Option Value) (h : Heap) (L : List Loc) : Prop := v = some (.int 7) ∧ Fr n0 L ∧ h = h0
set_option maxRecDepth 65536 in
set_option maxHeartbeats 40000000 in
theorem rm41_58 (l : Launch) (Z : State) (a0 : Array Value) (hw : ∀ d ∈ tables_1, d.before a0 Z = true) (ws : List Jvm.Cond) (o1 : Addr) (h0 : Heap) (n0 : Nat) (Z0 : n0 ≤ h0.size) (Pm0 : Exa Z h0 o1 "java/lang/StringBuilder") (Pm1 : Fld Z h0 o1 "java/lang/AbstractStringBuilder" "count" "I" (.int 7)) (gn_o1 : n0 ≤ o1)  :
    OwnM l Z nM34 jdk_68_method_6_code 1 (some .int) ws ({ frames := 0, cells := 0, slots := 0, locals := 0 } : Room) #[(.ref o1)] h0 (Q41_58 Z o1 h0 n0) := by
  refine own_body (plainFor_of_name pn_6) ?_
  intro p e s m below meth c s₁ G hx hby hml hZ hown hnm hret X0 e0 step fin
  replace hown : s.vm.findClass "java/lang/AbstractStringBuilder" = some m.cls := hown
  have N0 := Fr.nil n0
  have KK : OwnK p e below c _ G := ⟨step, hx, hby⟩
  refine step (s₁.setTop (mkF m 0 #[vr o1] [])) (fun t k => castTop (ef_14_13 m o1) k) ?_
  refine oal KK X0 d41_0 (.ref o1) 1 rfl rfl rfl ?_
  obtain ⟨T1, X1, e1, st1⟩ := getF X0 hx hZ hown (host := "") (Or.inl (ow hw 151 rfl)) Via.refl e0 Pm1 (g := (mkF m 1 #[vr o1] [(.ref o1)])) rfl rfl (hb hby d41_1)
  refine step (T1.setTop (mkF m 4 #[vr o1] [(.int 7)])) (fun t k => st1 t k) ?_
  refine fin (v := some (.int 7)) X1 (fun h => by cases h) ?_ (by decide) (by decide) (fun fs hr => retI X1 hx hret (hb hby d41_4) hr)
  show Q41_58 Z o1 h0 n0 (some (.int 7)) T1.heap _
  rw [e1]
  exact ⟨rfl, N0, rfl⟩
def Q40_57 (Z : State) (o1 : Addr) (i1 : Int32) (o2 : Addr) (kc2 : ClassId) (i3 : Int32) (i4 : Int32) (i5 : Int32) (h0 : Heap) (n0 : Nat) (v : Option Value) (h : Heap) (L : List Loc) : Prop := v = some (.int 7) ∧ Fr n0 L ∧ h = h0
set_option maxRecDepth 65536 in
set_option maxHeartbeats 40000000 in
theorem rm40_57 (l : Launch) (Z : State) (a0 : Array Value) (hw : ∀ d ∈ tables_1, d.before a0 Z = true) (ws : List Jvm.Cond) (o1 : Addr) (i1 : Int32) (o2 : Addr) (kc2 : ClassId) (i3 : Int32) (i4 : Int32) (i5 : Int32) (h0 : Heap) (n0 : Nat) (Z0 : n0 ≤ h0.size) (S0 : Sta Z h0 "java/lang/String" "COMPACT_STRINGS" "Z" (.int i1)) (Pm1 : Exa Z h0 o1 "java/lang/StringBuilder") (Pm2 : Fld Z h0 o1 "java/lang/AbstractStringBuilder" "coder" "B" (.int 0)) (Pm3 : Fld Z h0 o1 "java/lang/AbstractStringBuilder" "count" "I" (.int 7)) (Pm4 : Fld Z h0 o1 "java/lang/AbstractStringBuilder" "value" "[B" (.ref o2)) (Pm5 : Arv Z h0 o2 kc2 .byte (16 : Int32) [(.int i3), (.int 58), (.int 123), (.int i4), (.int 125), (.int 58), (.int i5)] (.int 0)) (gn_o1 : n0 ≤ o1) (ne_o1_o2 : o1 ≠ o2) (gn_o2 : n0 ≤ o2) (hy9 : ¬ (i1 = (0 : Int32))) (hy10 : ¬ (i3 = (123 : Int32))) (hy11 : ¬ (i3 = (125 : Int32))) (hy12 : ¬ (i4 = (123 : Int32))) (hy13 : ¬ (i4 = (125 : Int32))) (hy14 : ¬ (i5 = (123 : Int32))) (hy15 : ¬ (i5 = (125 : Int32)))  :
    OwnM l Z nM35 jdk_67_method_93_code 1 (some .int) ws ({ frames := 1, cells := 0, slots := 0, locals := 12 } : Room) #[(.ref o1)] h0 (Q40_57 Z o1 i1 o2 kc2 i3 i4 i5 h0 n0) := by
  refine own_body (plainFor_of_name pn_5) ?_
  intro p e s m below meth c s₁ G hx hby hml hZ hown hnm hret X0 e0 step fin
  replace hown : s.vm.findClass "java/lang/StringBuilder" = some m.cls := hown
  have N0 := Fr.nil n0
  have KK : OwnK p e below c _ G := ⟨step, hx, hby⟩
  refine step (s₁.setTop (mkF m 0 #[vr o1] [])) (fun t k => castTop (ef_14_13 m o1) k) ?_
  refine oal KK X0 d40_0 (.ref o1) 1 rfl rfl rfl ?_
  obtain ⟨_, _, ⟨T1, L1, k1, n1⟩, -, X1, ⟨Lc1, hQ1, l1, y1, z1⟩, st1⟩ := superBack X0 hx hZ (y := nM34) hown (ow hw 203 rfl) (own_same (y := nM34) (ow hw 198 rfl) (ow hw 156 rfl) rfl (by decide)) (ow hw 199 rfl) (ow hw 147 rfl) (by decide) (backOf (W := 0) (rm41_58 l Z a0 hw [] o1 h0 n0 Z0 Pm1 Pm3 gn_o1) hZ (ow hw 204 rfl) (ow hw 132 rfl) (by decide) (by decide)) e0 (Ins.self Pm1) (g := (mkF m 1 #[vr o1] [(.ref o1)])) rfl (by rw [hml]; rfl) (ow hw 204 rfl) (argsL := []) (rest := []) (lenOf pd_20 rfl) rfl (omw rfl rfl) (hb hby d40_1) (fun _ _ => ⟨rfl, e0, (by decide : 0 + 0 ≤ _), (by decide : 0 + 0 ≤ _)⟩)
  dsimp only [Pt.U, Pt.locs, Pt.cells, Pt.slots] at X1 l1 y1 z1 st1 hQ1
  subst l1 y1 z1
  obtain ⟨rfl, N1q, e1q⟩ := hQ1
  have N1 := Fr.app N0 N1q
  refine step (T1.setTop (mkF m 4 #[vr o1] [(.int 7)])) (fun t k => st1.trans k) ?_
  refine fin (v := some (.int 7)) X1 (fun h => by cases h) ?_ (by decide) (by decide) (fun fs hr => retI X1 hx hret (hb hby d40_4) hr)
  show Q40_57 Z o1 i1 o2 kc2 i3 i4 i5 h0 n0 (some (.int 7)) T1.heap _
  rw [e1q]
  exact ⟨rfl, N1, rfl⟩
theorem d42_0 : decode jdk_68_method_68_code 0 = .ok (.getstatic 18, 3) := by decide +kernel
theorem d42_3 : decode jdk_68_method_68_code 3 = .ok (.ifCond .eq 14, 3) := by decide +kernel
theorem d42_6 : decode jdk_68_method_68_code 6 = .ok (.aload_n 0, 1) := by decide +kernel
theorem d42_7 : decode jdk_68_method_68_code 7 = .ok (.getfield 22, 3) := by decide +kernel
theorem d42_10 : decode jdk_68_method_68_code 10 = .ok (.ifCond .ne 7, 3) := by decide +kernel
theorem d42_13 : decode jdk_68_method_68_code 13 = .ok (.iconst 1, 1) := by decide +kernel
theorem d42_14 : decode jdk_68_method_68_code 14 = .ok (.goto 4, 3) := by decide +kernel
theorem d42_17 : decode jdk_68_method_68_code 17 = .ok (.iconst 0, 1) := by decide +kernel
theorem d42_18 : decode jdk_68_method_68_code 18 = .ok (.ireturn, 1) := by decide +kernel
def Q42_59 (Z : State) (o1 : Addr) (i1 : Int32) (h0 : Heap) (n0 : Nat) (v : Option Value) (h : Heap) (L : List Loc) : Prop := v = some (.int 1) ∧ Fr n0 L ∧ h = h0
set_option maxRecDepth 65536 in
set_option maxHeartbeats 40000000 in
theorem rm42_59 (l : Launch) (Z : State) (a0 : Array Value) (hw : ∀ d ∈ tables_1, d.before a0 Z = true) (ws : List Jvm.Cond) (o1 : Addr) (i1 : Int32) (h0 : Heap) (n0 : Nat) (Z0 : n0 ≤ h0.size) (S0 : Sta Z h0 "java/lang/String" "COMPACT_STRINGS" "Z" (.int i1)) (Pm1 : Exa Z h0 o1 "java/lang/StringBuilder") (Pm2 : Fld Z h0 o1 "java/lang/AbstractStringBuilder" "coder" "B" (.int 0)) (gn_o1 : n0 ≤ o1) (hy4 : ¬ (i1 = (0 : Int32)))  :
    OwnM l Z nM36 jdk_68_method_68_code 1 (some .boolean) ws ({ frames := 0, cells := 0, slots := 0, locals := 0 } : Room) #[(.ref o1)] h0 (Q42_59 Z o1 i1 h0 n0) := by
  refine own_body (plainFor_of_name pn_6) ?_
  intro p e s m below meth c s₁ G hx hby hml hZ hown hnm hret X0 e0 step fin
  replace hown : s.vm.findClass "java/lang/AbstractStringBuilder" = some m.cls := hown
  have N0 := Fr.nil n0
  have KK : OwnK p e below c _ G := ⟨step, hx, hby⟩
  refine step (s₁.setTop (mkF m 0 #[vr o1] [])) (fun t k => castTop (ef_14_13 m o1) k) ?_
  obtain ⟨T1, X1, e1, st1⟩ := getS2 X0 hx hZ hown (host := "") (Or.inl (ow hw 135 rfl)) Via.refl e0 S0 (g := (mkF m 0 #[vr o1] [])) rfl (hb hby d42_0)
  refine step (T1.setTop (mkF m 3 #[vr o1] [(.int i1)])) (fun t k => st1 t k) ?_
  have hc3_2 : ¬ (i1 = (0 : Int32)) := hy4
  refine step (T1.setTop (mkF m 6 #[vr o1] [])) (fun t k => XS.ifNo X1.here hx rfl (hb hby d42_3) rfl ((if0 _ _).trans (feq hc3_2).1) k) ?_
  refine oal KK X1 d42_6 (.ref o1) 7 rfl rfl rfl ?_
  obtain ⟨T3, X3, e3, st3⟩ := getF X1 hx hZ hown (host := "") (Or.inl (ow hw 138 rfl)) Via.refl e1 Pm2 (g := (mkF m 7 #[vr o1] [(.ref o1)])) rfl rfl (hb hby d42_7)
  refine step (T3.setTop (mkF m 10 #[vr o1] [(.int 0)])) (fun t k => st3 t k) ?_
  refine step (T3.setTop (mkF m 13 #[vr o1] [])) (fun t k => XS.ifNo X3.here hx rfl (hb hby d42_10) rfl ((if0 _ _).trans (teq (by decide : (0 : Int32) = (0 : Int32))).2) k) ?_
  refine oic KK X3 d42_13 1 14 rfl rfl ?_
  refine ogo KK X3 d42_14 18 (by decide) rfl ?_
  refine fin (v := some (.int (nar .boolean (1 : Int32)))) X3 (fun h => by cases h) ?_ (by decide) (by decide) (fun fs hr => retN X3 hx (t := .boolean) hret (by simp) (hb hby d42_18) hr)
  show Q42_59 Z o1 i1 h0 n0 (some (.int (nar .boolean (1 : Int32)))) T3.heap _
  rw [e3]
  exact ⟨rfl, N0, rfl⟩
theorem d43_0 : decode jdk_65_method_132_code 0 = .ok (.iload_n 1, 1) := by decide +kernel
theorem d43_1 : decode jdk_65_method_132_code 1 = .ok (.ifCond .ne 9, 3) := by decide +kernel
theorem d43_4 : decode jdk_65_method_132_code 4 = .ok (.iload_n 2, 1) := by decide +kernel
theorem d43_5 : decode jdk_65_method_132_code 5 = .ok (.aload_n 0, 1) := by decide +kernel
theorem d43_6 : decode jdk_65_method_132_code 6 = .ok (.arraylength, 1) := by decide +kernel
theorem d43_7 : decode jdk_65_method_132_code 7 = .ok (.if_icmp .eq 10, 3) := by decide +kernel
theorem d43_10 : decode jdk_65_method_132_code 10 = .ok (.aload_n 0, 1) := by decide +kernel
theorem d43_11 : decode jdk_65_method_132_code 11 = .ok (.iload_n 1, 1) := by decide +kernel
theorem d43_12 : decode jdk_65_method_132_code 12 = .ok (.iload_n 2, 1) := by decide +kernel
theorem d43_13 : decode jdk_65_method_132_code 13 = .ok (.invokestatic 339, 3) := by decide +kernel
theorem d43_16 : decode jdk_65_method_132_code 16 = .ok (.areturn, 1) := by decide +kernel
theorem d43_17 : decode jdk_65_method_132_code 17 = .ok (.aload_n 0, 1) := by decide +kernel
theorem d43_18 : decode jdk_65_method_132_code 18 = .ok (.invokevirtual 310, 3) := by decide +kernel
theorem d43_21 : decode jdk_65_method_132_code 21 = .ok (.checkcast 311, 3) := by decide +kernel
theorem d43_24 : decode jdk_65_method_132_code 24 = .ok (.areturn, 1) := by decide +kernel
theorem pn_7 : plainName "java/util/Arrays" = true := by first | (simp [plainName, overriddenIn]; done) | decide +kernel
theorem d44_0 : decode jdk_65_method_133_code 0 = .ok (.iload_n 1, 1) := by decide +kernel
theorem d44_1 : decode jdk_65_method_133_code 1 = .ok (.iload_n 2, 1) := by decide +kernel
theorem d44_2 : decode jdk_65_method_133_code 2 = .ok (.invokestatic 343, 3) := by decide +kernel
theorem d44_5 : decode jdk_65_method_133_code 5 = .ok (.iload_n 2, 1) := by decide +kernel
theorem d44_6 : decode jdk_65_method_133_code 6 = .ok (.iload_n 1, 1) := by decide +kernel
theorem d44_7 : decode jdk_65_method_133_code 7 = .ok (.isub, 1) := by decide +kernel
theorem d44_8 : decode jdk_65_method_133_code 8 = .ok (.istore_n 3, 1) := by decide +kernel
theorem d44_9 : decode jdk_65_method_133_code 9 = .ok (.iload_n 3, 1) := by decide +kernel
theorem d44_10 : decode jdk_65_method_133_code 10 = .ok (.newarray .byte, 2) := by decide +kernel
theorem d44_12 : decode jdk_65_method_133_code 12 = .ok (.astore 4, 2) := by decide +kernel
theorem d44_14 : decode jdk_65_method_133_code 14 = .ok (.aload_n 0, 1) := by decide +kernel
theorem d44_15 : decode jdk_65_method_133_code 15 = .ok (.iload_n 1, 1) := by decide +kernel
theorem d44_16 : decode jdk_65_method_133_code 16 = .ok (.aload 4, 2) := by decide +kernel
theorem d44_18 : decode jdk_65_method_133_code 18 = .ok (.iconst 0, 1) := by decide +kernel
theorem d44_19 : decode jdk_65_method_133_code 19 = .ok (.aload_n 0, 1) := by decide +kernel
theorem d44_20 : decode jdk_65_method_133_code 20 = .ok (.arraylength, 1) := by decide +kernel
theorem d44_21 : decode jdk_65_method_133_code 21 = .ok (.iload_n 1, 1) := by decide +kernel
theorem d44_22 : decode jdk_65_method_133_code 22 = .ok (.isub, 1) := by decide +kernel
theorem d44_23 : decode jdk_65_method_133_code 23 = .ok (.iload_n 3, 1) := by decide +kernel
theorem d44_24 : decode jdk_65_method_133_code 24 = .ok (.invokestatic 304, 3) := by decide +kernel
theorem d44_27 : decode jdk_65_method_133_code 27 = .ok (.invokestatic 150, 3) := by decide +kernel
theorem d44_30 : decode jdk_65_method_133_code 30 = .ok (.aload 4, 2) := by decide +kernel
theorem d44_32 : decode jdk_65_method_133_code 32 = .ok (.areturn, 1) := by decide +kernel
theorem pd_34 : parseMethodDescriptor "(II)V" = some ⟨[.int, .int], none⟩ := by decide +kernel
theorem d45_0 : decode jdk_65_method_131_code 0 = .ok (.iload_n 1, 1) := by decide +kernel
theorem d45_1 : decode jdk_65_method_131_code 1 = .ok (.iload_n 0, 1) := by decide +kernel
theorem d45_2 : decode jdk_65_method_131_code 2 = .ok (.if_icmp .ge 35, 3) := by decide +kernel
theorem d45_5 : decode jdk_65_method_131_code 5 = .ok (.new 43, 3) := by decide +kernel
theorem d45_8 : decode jdk_65_method_131_code 8 = .ok (.dup, 1) := by decide +kernel
theorem d45_9 : decode jdk_65_method_131_code 9 = .ok (.new 45, 3) := by decide +kernel
theorem d45_12 : decode jdk_65_method_131_code 12 = .ok (.dup, 1) := by decide +kernel
theorem d45_13 : decode jdk_65_method_131_code 13 = .ok (.invokespecial 47, 3) := by decide +kernel
theorem d45_16 : decode jdk_65_method_131_code 16 = .ok (.iload_n 0, 1) := by decide +kernel
theorem d45_17 : decode jdk_65_method_131_code 17 = .ok (.invokevirtual 54, 3) := by decide +kernel
theorem d45_20 : decode jdk_65_method_131_code 20 = .ok (.ldc_w 337, 3) := by decide +kernel
theorem d45_23 : decode jdk_65_method_131_code 23 = .ok (.invokevirtual 50, 3) := by decide +kernel
theorem d45_26 : decode jdk_65_method_131_code 26 = .ok (.iload_n 1, 1) := by decide +kernel
theorem d45_27 : decode jdk_65_method_131_code 27 = .ok (.invokevirtual 54, 3) := by decide +kernel
theorem d45_30 : decode jdk_65_method_131_code 30 = .ok (.invokevirtual 61, 3) := by decide +kernel
theorem d45_33 : decode jdk_65_method_131_code 33 = .ok (.invokespecial 65, 3) := by decide +kernel
theorem d45_36 : decode jdk_65_method_131_code 36 = .ok (.athrow, 1) := by decide +kernel
theorem d45_37 : decode jdk_65_method_131_code 37 = .ok (.return_, 1) := by decide +kernel
theorem ef_45_62 (m : MethodId)  : entryFrame m #[(.int 0), (.int 7)] 2 = mkF m 0 #[.val (.int 0), .val (.int 7)] [] := by first | (simp [entryFrame, mkF, argsToLocals, Value.category]; done) | rfl
def Q45_62 (Z : State)  (h0 : Heap) (n0 : Nat) (v : Option Value) (h : Heap) (L : List Loc) : Prop := v = none ∧ Fr n0 L ∧ h = h0
set_option maxRecDepth 65536 in
set_option maxHeartbeats 40000000 in
theorem rm45_62 (l : Launch) (Z : State) (a0 : Array Value) (hw : ∀ d ∈ tables_1, d.before a0 Z = true) (ws : List Jvm.Cond)  (h0 : Heap) (n0 : Nat) (Z0 : n0 ≤ h0.size)  :
    OwnM l Z nM37 jdk_65_method_131_code 2 none ws ({ frames := 0, cells := 0, slots := 0, locals := 0 } : Room) #[(.int 0), (.int 7)] h0 (Q45_62 Z  h0 n0) := by
  refine own_body (plainFor_of_name pn_7) ?_
  intro p e s m below meth c s₁ G hx hby hml hZ hown hnm hret X0 e0 step fin
  replace hown : s.vm.findClass "java/util/Arrays" = some m.cls := hown
  have N0 := Fr.nil n0
  have KK : OwnK p e below c _ G := ⟨step, hx, hby⟩
  refine step (s₁.setTop (mkF m 0 #[vi 0, vi 7] [])) (fun t k => castTop (ef_45_62 m ) k) ?_
  refine oil KK X0 d45_0 (7 : Int32) 1 rfl rfl ?_
  refine oil KK X0 d45_1 (0 : Int32) 2 rfl rfl ?_
  refine oiy KK X0 d45_2 37 (flt (by decide : ¬ ((7 : Int32) < (0 : Int32)))).2.1 (by decide) rfl ?_
  refine fin (v := none) X0 (fun _ => rfl) ?_ (by decide) (by decide) (fun fs hr => X0.returnOut hx hret (hb hby d45_37) hr)
  show Q45_62 Z  h0 n0 (none) s₁.heap _
  rw [e0]
  exact ⟨rfl, N0, rfl⟩
theorem ef_23_63 (m : MethodId)  : entryFrame m #[(.int 16), (.int 7)] 2 = mkF m 0 #[.val (.int 16), .val (.int 7)] [] := by first | (simp [entryFrame, mkF, argsToLocals, Value.category]; done) | rfl
def Q23_63 (Z : State)  (h0 : Heap) (n0 : Nat) (v : Option Value) (h : Heap) (L : List Loc) : Prop := v = some (.int 7) ∧ Fr n0 L ∧ h = h0
set_option maxRecDepth 65536 in
set_option maxHeartbeats 40000000 in
theorem rm23_63 (l : Launch) (Z : State) (a0 : Array Value) (hw : ∀ d ∈ tables_1, d.before a0 Z = true) (ws : List Jvm.Cond)  (h0 : Heap) (n0 : Nat) (Z0 : n0 ≤ h0.size)  :
    OwnM l Z nM16 jdk_29_method_69_code 2 (some .int) ws ({ frames := 0, cells := 0, slots := 0, locals := 0 } : Room) #[(.int 16), (.int 7)] h0 (Q23_63 Z  h0 n0) := by
  refine own_body (Jvm.Free.JP.mathPlain rfl (by decide +kernel)) ?_
  intro p e s m below meth c s₁ G hx hby hml hZ hown hnm hret X0 e0 step fin
  replace hown : s.vm.findClass "java/lang/Math" = some m.cls := hown
  have N0 := Fr.nil n0
  have KK : OwnK p e below c _ G := ⟨step, hx, hby⟩
  refine step (s₁.setTop (mkF m 0 #[vi 16, vi 7] [])) (fun t k => castTop (ef_23_63 m ) k) ?_
  refine oil KK X0 d23_0 (16 : Int32) 1 rfl rfl ?_
  refine oil KK X0 d23_1 (7 : Int32) 2 rfl rfl ?_
  refine oiy KK X0 d23_2 9 (tlt (by decide : (7 : Int32) < (16 : Int32))).2.2.1 (by decide) rfl ?_
  refine oil KK X0 d23_9 (7 : Int32) 10 rfl rfl ?_
  refine fin (v := some (.int 7)) X0 (fun h => by cases h) ?_ (by decide) (by decide) (fun fs hr => retI X0 hx hret (hb hby d23_10) hr)
  show Q23_63 Z  h0 n0 (some (.int 7)) s₁.heap _
  rw [e0]
  exact ⟨rfl, N0, rfl⟩
theorem ef_44_61 (m : MethodId) (x0 : Addr) : entryFrame m #[(.ref x0), (.int 0), (.int 7)] 5 = mkF m 0 #[.val (.ref x0), .val (.int 0), .val (.int 7), .unset, .unset] [] := by first | (simp [entryFrame, mkF, argsToLocals, Value.category]; done) | rfl
def Q44_61 (Z : State) (o1 : Addr) (kc1 : ClassId) (i2 : Int32) (i3 : Int32) (i4 : Int32) (h0 : Heap) (n0 : Nat) (v : Option Value) (h : Heap) (L : List Loc) : Prop := ∃ (b2 : Addr) (k2 : ClassId), v = some (.ref b2) ∧ Fr n0 L ∧ Keep h0 h [] ∧ h0.size ≤ b2 ∧ Arv Z h b2 k2 .byte (7 : Int32) [(.int i2), (.int 58), (.int 123), (.int i3), (.int 125), (.int 58), (.int i4)] (.int 0)
set_option maxRecDepth 65536 in
set_option maxHeartbeats 40000000 in
theorem rm44_61 (l : Launch) (Z : State) (a0 : Array Value) (hw : ∀ d ∈ tables_1, d.before a0 Z = true) (ws : List Jvm.Cond) (o1 : Addr) (kc1 : ClassId) (i2 : Int32) (i3 : Int32) (i4 : Int32) (h0 : Heap) (n0 : Nat) (Z0 : n0 ≤ h0.size) (Pm0 : Arv Z h0 o1 kc1 .byte (16 : Int32) [(.int i2), (.int 58), (.int 123), (.int i3), (.int 125), (.int 58), (.int i4)] (.int 0)) (gn_o1 : n0 ≤ o1) (hy2 : ¬ (i2 = (123 : Int32))) (hy3 : ¬ (i2 = (125 : Int32))) (hy4 : ¬ (i3 = (123 : Int32))) (hy5 : ¬ (i3 = (125 : Int32))) (hy6 : ¬ (i4 = (123 : Int32))) (hy7 : ¬ (i4 = (125 : Int32)))  :
    OwnM l Z nM38 jdk_65_method_133_code 5 (some (.array .byte)) ws ({ frames := 1, cells := 1, slots := 7, locals := 18 } : Room) #[(.ref o1), (.int 0), (.int 7)] h0 (Q44_61 Z o1 kc1 i2 i3 i4 h0 n0) := by
  refine own_body (plainFor_of_name pn_7) ?_
  intro p e s m below meth c s₁ G hx hby hml hZ hown hnm hret X0 e0 step fin
  replace hown : s.vm.findClass "java/util/Arrays" = some m.cls := hown
  have N0 := Fr.nil n0
  have KK : OwnK p e below c _ G := ⟨step, hx, hby⟩
  refine step (s₁.setTop (mkF m 0 #[vr o1, vi 0, vi 7, .unset, .unset] [])) (fun t k => castTop (ef_44_61 m o1) k) ?_
  refine oil KK X0 d44_0 (0 : Int32) 1 rfl rfl ?_
  refine oil KK X0 d44_1 (7 : Int32) 2 rfl rfl ?_
  obtain ⟨_, _, ⟨T1, L1, k1, n1⟩, -, X1, ⟨Lc1, hQ1, l1, y1, z1⟩, st1⟩ := Jvm.LawKit.callS X0 hx (y := nM37) hown (mvT hZ (ow hw 217 rfl)) (mvT hZ (ow hw 218 rfl)) (mvT hZ (ow hw 212 rfl)) (mvT hZ (ow hw 219 rfl)) (by decide) (backOf (W := 0) (rm45_62 l Z a0 hw []  h0 n0 Z0 ) hZ (ow hw 219 rfl) (ow hw 212 rfl) (by decide) (by decide)) (g := (mkF m 2 #[vr o1, vi 0, vi 7, .unset, .unset] [(.int 7), (.int 0)])) rfl (by rw [hml]; rfl) (argsL := [(.int 0), (.int 7)]) (rest := []) (lenOf pd_34 rfl) rfl (omw rfl rfl) (hb hby d44_2) (fun _ _ => ⟨rfl, e0, (by decide : 0 + 0 ≤ _), (by decide : 0 + 0 ≤ _)⟩)
  dsimp only [Pt.U, Pt.locs, Pt.cells, Pt.slots] at X1 l1 y1 z1 st1 hQ1
  subst l1 y1 z1
  obtain ⟨rfl, N1q, e1q⟩ := hQ1
  have N1 := Fr.app N0 N1q
  refine step (T1.setTop (mkF m 5 #[vr o1, vi 0, vi 7, .unset, .unset] [])) (fun t k => st1 t k) ?_
  refine oil KK X1 d44_5 (7 : Int32) 6 rfl rfl ?_
  refine oil KK X1 d44_6 (0 : Int32) 7 rfl rfl ?_
  refine step (T1.setTop (mkF m 8 #[vr o1, vi 0, vi 7, .unset, .unset] [(.int 7)])) (fun t k => XS.isub X1.here hx rfl (hb hby d44_7) rfl k) ?_
  refine ois KK X1 d44_8 #[vr o1, vi 0, vi 7, vi 7, .unset] 9 rfl rfl ?_
  refine oil KK X1 d44_9 (7 : Int32) 10 rfl rfl ?_
  obtain ⟨T2, h2, k2, X2, e2, E2, A2, st2⟩ := newP X1 hx hZ (ow hw 23 rfl) e1q (g := (mkF m 10 #[vr o1, vi 0, vi 7, vi 7, .unset] [(.int 7)])) rfl (hb hby d44_10) rfl (by decide) (cap := 7) (by decide) (by decide) (by decide) (by decide)
  obtain ⟨b2, g2⟩ : ∃ z, z = h0.size := ⟨_, rfl⟩
  rw [← g2] at A2 st2
  have ne_o1_b2 : o1 ≠ b2 := Nat.ne_of_lt (Nat.lt_of_lt_of_le Pm0.lt (Nat.le_of_eq g2.symm))
  have gn_b2 : n0 ≤ b2 := Nat.le_trans Z0 (Nat.le_of_eq g2.symm)
  have sz_b2 : h0.size ≤ b2 := Nat.le_of_eq g2.symm
  have K2 : Keep h0 h2 [] := (Keep.refl h0 []).ext E2
  have V2 : Arv Z h2 b2 k2 .byte (7 : Int32) [(.int 0), (.int 0), (.int 0), (.int 0), (.int 0), (.int 0), (.int 0)] (.int 0) := (Arv.new A2 (by decide)).pad (pad_rep [] (.int 0) 7)
  refine step (T2.setTop (mkF m 12 #[vr o1, vi 0, vi 7, vi 7, .unset] [(.ref b2)])) (fun t k => st2 t k) ?_
  refine step (T2.setTop (mkF m 14 #[vr o1, vi 0, vi 7, vi 7, vr b2] [])) (fun t k => XS.astore X2.here hx rfl (hb hby d44_12) rfl rfl (l' := #[vr o1, vi 0, vi 7, vi 7, vr b2]) rfl k) ?_
  refine oal KK X2 d44_14 (.ref o1) 15 rfl rfl rfl ?_
  refine oil KK X2 d44_15 (0 : Int32) 16 rfl rfl ?_
  refine oaL KK X2 d44_16 (.ref b2) 18 rfl rfl rfl ?_
  refine oic KK X2 d44_18 0 19 rfl rfl ?_
  refine oal KK X2 d44_19 (.ref o1) 20 rfl rfl rfl ?_
  have f3 := (Pm0.ext E2)
  obtain ⟨cl4, Ar4, q4, S4, N4n, H4, G4⟩ := id f3
  refine step (T2.setTop (mkF m 21 #[vr o1, vi 0, vi 7, vi 7, vr b2] [(.int 16), (.int 0), (.ref b2), (.int 0), (.ref o1)])) (fun t k => X2.arraylength hx (by rw [e2]; exact Ar4.1) (State.isArrayOf_alike hZ.alike Ar4.2.1) (g := (mkF m 20 #[vr o1, vi 0, vi 7, vi 7, vr b2] [(.ref o1), (.int 0), (.ref b2), (.int 0), (.ref o1)])) rfl rfl (hb hby d44_20) t (by rw [len_of S4 N4n]; exact k)) ?_
  refine oil KK X2 d44_21 (0 : Int32) 22 rfl rfl ?_
  refine step (T2.setTop (mkF m 23 #[vr o1, vi 0, vi 7, vi 7, vr b2] [(.int 16), (.int 0), (.ref b2), (.int 0), (.ref o1)])) (fun t k => XS.isub X2.here hx rfl (hb hby d44_22) rfl k) ?_
  refine oil KK X2 d44_23 (7 : Int32) 24 rfl rfl ?_
  obtain ⟨_, _, ⟨T5, L5, k5, n5⟩, -, X5, ⟨Lc5, hQ5, l5, y5, z5⟩, st5⟩ := Jvm.LawKit.callS X2 hx (y := nM16) hown (mvT hZ (ow hw 220 rfl)) (mvT hZ (ow hw 101 rfl)) (mvT hZ (ow hw 98 rfl)) (mvT hZ (ow hw 102 rfl)) (by decide) (backOf (W := 4) (rm23_63 l Z a0 hw []  h2 n0 (Nat.le_trans Z0 K2.1) ) hZ (ow hw 102 rfl) (ow hw 98 rfl) (by decide) (by decide)) (g := (mkF m 24 #[vr o1, vi 0, vi 7, vi 7, vr b2] [(.int 7), (.int 16), (.int 0), (.ref b2), (.int 0), (.ref o1)])) rfl (by rw [hml]; rfl) (argsL := [(.int 16), (.int 7)]) (rest := [(.int 0), (.ref b2), (.int 0), (.ref o1)]) (lenOf pd_19 rfl) rfl (omw rfl rfl) (hb hby d44_24) (fun _ _ => ⟨rfl, e2, (by decide : 1 + 0 ≤ _), (by decide : 7 + 0 ≤ _)⟩)
  dsimp only [Pt.U, Pt.locs, Pt.cells, Pt.slots] at X5 l5 y5 z5 st5 hQ5
  subst l5 y5 z5
  obtain ⟨rfl, N5q, e5q⟩ := hQ5
  have N5 := Fr.app N1 N5q
  refine step (T5.setTop (mkF m 27 #[vr o1, vi 0, vi 7, vi 7, vr b2] [(.int 7), (.int 0), (.ref b2), (.int 0), (.ref o1)])) (fun t k => st5 t k) ?_
  obtain ⟨T6, h6, L6, X6, e6, N6, K6q, Vq6, st6⟩ := cpA X5 hx hZ hown (ow hw 221 rfl) (ow hw 177 rfl) (ow hw 175 rfl) (ow hw 176 rfl) e5q f3 V2 (us := [(.int i2), (.int 58), (.int 123), (.int i3), (.int 125), (.int 58), (.int i4)]) (Or.inl ⟨rfl, rfl⟩) (by decide) (by decide) (by decide) (by decide) (by decide) rfl (Nat.le_of_ble_eq_true rfl) N5 gn_b2 (g := (mkF m 27 #[vr o1, vi 0, vi 7, vi 7, vr b2] [(.int 7), (.int 0), (.ref b2), (.int 0), (.ref o1)])) rfl (by rw [hml]; rfl) (rest := []) rfl (hb hby d44_27) (by decide) (W := 0) (omw rfl rfl) (by decide)
  have K6 : Keep h0 h6 [] := K2.trans K6q (allS (Or.inr sz_b2) all0)
  have V6 : Arv Z h6 b2 k2 .byte (7 : Int32) [(.int i2), (.int 58), (.int 123), (.int i3), (.int 125), (.int 58), (.int i4)] (.int 0) := Vq6
  refine step (T6.setTop (mkF m 30 #[vr o1, vi 0, vi 7, vi 7, vr b2] [])) (fun t k => st6 t k) ?_
  refine oaL KK X6 d44_30 (.ref b2) 32 rfl rfl rfl ?_
  refine fin (v := some (.ref b2)) X6 (fun h => by cases h) ?_ (by decide) (by decide) (fun fs hr => X6.areturnOut hx rfl hret rfl (hb hby d44_32) hr)
  show Q44_61 Z o1 kc1 i2 i3 i4 h0 n0 (some (.ref b2)) T6.heap _
  rw [e6]
  exact ⟨b2, k2, rfl, N6, K6, sz_b2, V6⟩
theorem ef_43_60 (m : MethodId) (x0 : Addr) : entryFrame m #[(.ref x0), (.int 0), (.int 7)] 3 = mkF m 0 #[.val (.ref x0), .val (.int 0), .val (.int 7)] [] := by first | (simp [entryFrame, mkF, argsToLocals, Value.category]; done) | rfl
def Q43_60 (Z : State) (o1 : Addr) (kc1 : ClassId) (i2 : Int32) (i3 : Int32) (i4 : Int32) (h0 : Heap) (n0 : Nat) (v : Option Value) (h : Heap) (L : List Loc) : Prop := ∃ (b2_2 : Addr) (k2_2 : ClassId), v = some (.ref b2_2) ∧ Fr n0 L ∧ Keep h0 h [] ∧ h0.size ≤ b2_2 ∧ Arv Z h b2_2 k2_2 .byte (7 : Int32) [(.int i2), (.int 58), (.int 123), (.int i3), (.int 125), (.int 58), (.int i4)] (.int 0)
set_option maxRecDepth 65536 in
set_option maxHeartbeats 40000000 in
theorem rm43_60 (l : Launch) (Z : State) (a0 : Array Value) (hw : ∀ d ∈ tables_1, d.before a0 Z = true) (ws : List Jvm.Cond) (o1 : Addr) (kc1 : ClassId) (i2 : Int32) (i3 : Int32) (i4 : Int32) (h0 : Heap) (n0 : Nat) (Z0 : n0 ≤ h0.size) (Pm0 : Arv Z h0 o1 kc1 .byte (16 : Int32) [(.int i2), (.int 58), (.int 123), (.int i3), (.int 125), (.int 58), (.int i4)] (.int 0)) (gn_o1 : n0 ≤ o1) (hy2 : ¬ (i2 = (123 : Int32))) (hy3 : ¬ (i2 = (125 : Int32))) (hy4 : ¬ (i3 = (123 : Int32))) (hy5 : ¬ (i3 = (125 : Int32))) (hy6 : ¬ (i4 = (123 : Int32))) (hy7 : ¬ (i4 = (125 : Int32)))  :
    OwnM l Z nM39 jdk_65_method_132_code 3 (some (.array .byte)) ws ({ frames := 2, cells := 1, slots := 7, locals := 34 } : Room) #[(.ref o1), (.int 0), (.int 7)] h0 (Q43_60 Z o1 kc1 i2 i3 i4 h0 n0) := by
  refine own_body (plainFor_of_name pn_7) ?_
  intro p e s m below meth c s₁ G hx hby hml hZ hown hnm hret X0 e0 step fin
  replace hown : s.vm.findClass "java/util/Arrays" = some m.cls := hown
  have N0 := Fr.nil n0
  have KK : OwnK p e below c _ G := ⟨step, hx, hby⟩
  refine step (s₁.setTop (mkF m 0 #[vr o1, vi 0, vi 7] [])) (fun t k => castTop (ef_43_60 m o1) k) ?_
  refine oil KK X0 d43_0 (0 : Int32) 1 rfl rfl ?_
  refine step (s₁.setTop (mkF m 4 #[vr o1, vi 0, vi 7] [])) (fun t k => XS.ifNo X0.here hx rfl (hb hby d43_1) rfl ((if0 _ _).trans (teq (by decide : (0 : Int32) = (0 : Int32))).2) k) ?_
  refine oil KK X0 d43_4 (7 : Int32) 5 rfl rfl ?_
  refine oal KK X0 d43_5 (.ref o1) 6 rfl rfl rfl ?_
  obtain ⟨cl1, Ar1, q1, S1, N1n, H1, G1⟩ := id Pm0
  refine step (s₁.setTop (mkF m 7 #[vr o1, vi 0, vi 7] [(.int 16), (.int 7)])) (fun t k => X0.arraylength hx (by rw [e0]; exact Ar1.1) (State.isArrayOf_alike hZ.alike Ar1.2.1) (g := (mkF m 6 #[vr o1, vi 0, vi 7] [(.ref o1), (.int 7)])) rfl rfl (hb hby d43_6) t (by rw [len_of S1 N1n]; exact k)) ?_
  refine oin KK X0 d43_7 10 rfl (feq (by decide : ¬ ((7 : Int32) = (16 : Int32)))).1 ?_
  refine oal KK X0 d43_10 (.ref o1) 11 rfl rfl rfl ?_
  refine oil KK X0 d43_11 (0 : Int32) 12 rfl rfl ?_
  refine oil KK X0 d43_12 (7 : Int32) 13 rfl rfl ?_
  obtain ⟨_, _, ⟨T2, L2, k2, n2⟩, -, X2, ⟨Lc2, hQ2, l2, y2, z2⟩, st2⟩ := Jvm.LawKit.callS X0 hx (y := nM38) hown (mvT hZ (ow hw 214 rfl)) (mvT hZ (ow hw 215 rfl)) (mvT hZ (ow hw 212 rfl)) (mvT hZ (ow hw 216 rfl)) (by decide) (backOf (W := 0) (rm44_61 l Z a0 hw [] o1 kc1 i2 i3 i4 h0 n0 Z0 Pm0 gn_o1 hy2 hy3 hy4 hy5 hy6 hy7) hZ (ow hw 216 rfl) (ow hw 212 rfl) (by decide) (by decide)) (g := (mkF m 13 #[vr o1, vi 0, vi 7] [(.int 7), (.int 0), (.ref o1)])) rfl (by rw [hml]; rfl) (argsL := [(.ref o1), (.int 0), (.int 7)]) (rest := []) (lenOf pd_33 rfl) rfl (omw rfl rfl) (hb hby d43_13) (fun _ _ => ⟨rfl, e0, (by decide : 0 + 1 ≤ _), (by decide : 0 + 7 ≤ _)⟩)
  dsimp only [Pt.U, Pt.locs, Pt.cells, Pt.slots] at X2 l2 y2 z2 st2 hQ2
  subst l2 y2 z2
  obtain ⟨h2, e2⟩ : ∃ z, T2.heap = z := ⟨_, rfl⟩
  rw [e2] at hQ2
  obtain ⟨b2_2, k2_2, rfl, N2q, K2q, sz_b2_2, q0_2⟩ := hQ2
  have N2 := Fr.app N0 N2q
  have lt2_o1 := Pm0.lt
  have ne_o1_b2_2 : o1 ≠ b2_2 := Nat.ne_of_lt (Nat.lt_of_lt_of_le lt2_o1 sz_b2_2)
  have gn_b2_2 : n0 ≤ b2_2 := Nat.le_trans Z0 sz_b2_2
  have K2 : Keep h0 h2 [] := (Keep.refl h0 []).trans K2q all0
  refine step (T2.setTop (mkF m 16 #[vr o1, vi 0, vi 7] [(.ref b2_2)])) (fun t k => st2 t k) ?_
  refine fin (v := some (.ref b2_2)) X2 (fun h => by cases h) ?_ (by decide) (by decide) (fun fs hr => X2.areturnOut hx rfl hret rfl (hb hby d43_16) hr)
  show Q43_60 Z o1 kc1 i2 i3 i4 h0 n0 (some (.ref b2_2)) T2.heap _
  rw [e2]
  exact ⟨b2_2, k2_2, rfl, N2, K2, sz_b2_2, q0_2⟩
theorem ef_38_55 (m : MethodId) (x0 : Addr) (x1 : Addr) : entryFrame m #[(.ref x0), (.ref x1), .null] 5 = mkF m 0 #[.val (.ref x0), .val (.ref x1), .val .null, .unset, .unset] [] := by first | (simp [entryFrame, mkF, argsToLocals, Value.category]; done) | rfl
def Q38_55 (Z : State) (o1 : Addr) (o2 : Addr) (i1 : Int32) (o3 : Addr) (kc2 : ClassId) (i3 : Int32) (i4 : Int32) (i5 : Int32) (h0 : Heap) (n0 : Nat) (v : Option Value) (h : Heap) (L : List Loc) : Prop := ∃ (b2_2_7 : Addr) (k2_2_7 : ClassId), v = none ∧ Fr n0 L ∧ Keep h0 h [o1] ∧ h0.size ≤ b2_2_7 ∧ Fld Z h o1 "java/lang/String" "coder" "B" (.int 0) ∧ Fld Z h o1 "java/lang/String" "value" "[B" (.ref b2_2_7) ∧ Arv Z h b2_2_7 k2_2_7 .byte (7 : Int32) [(.int i3), (.int 58), (.int 123), (.int i4), (.int 125), (.int 58), (.int i5)] (.int 0)
set_option maxRecDepth 65536 in
set_option maxHeartbeats 40000000 in
theorem rm38_55 (l : Launch) (Z : State) (a0 : Array Value) (hw : ∀ d ∈ tables_1, d.before a0 Z = true) (ws : List Jvm.Cond) (o1 : Addr) (o2 : Addr) (i1 : Int32) (o3 : Addr) (kc2 : ClassId) (i3 : Int32) (i4 : Int32) (i5 : Int32) (h0 : Heap) (n0 : Nat) (Z0 : n0 ≤ h0.size) (S0 : Sta Z h0 "java/lang/String" "COMPACT_STRINGS" "Z" (.int i1)) (Pm1 : Exa Z h0 o1 "java/lang/String") (Pm2 : Fld Z h0 o1 "java/lang/String" "coder" "B" (.int 0)) (Pm3 : Fld Z h0 o1 "java/lang/String" "value" "[B" .null) (Pm4 : Exa Z h0 o2 "java/lang/StringBuilder") (Pm5 : Fld Z h0 o2 "java/lang/AbstractStringBuilder" "coder" "B" (.int 0)) (Pm6 : Fld Z h0 o2 "java/lang/AbstractStringBuilder" "count" "I" (.int 7)) (Pm7 : Fld Z h0 o2 "java/lang/AbstractStringBuilder" "value" "[B" (.ref o3)) (Pm8 : Arv Z h0 o3 kc2 .byte (16 : Int32) [(.int i3), (.int 58), (.int 123), (.int i4), (.int 125), (.int 58), (.int i5)] (.int 0)) (gn_o1 : n0 ≤ o1) (ne_o1_o2 : o1 ≠ o2) (ne_o1_o3 : o1 ≠ o3) (gn_o2 : n0 ≤ o2) (ne_o2_o3 : o2 ≠ o3) (gn_o3 : n0 ≤ o3) (hy15 : ¬ (i1 = (0 : Int32))) (hy16 : ¬ (i3 = (123 : Int32))) (hy17 : ¬ (i3 = (125 : Int32))) (hy18 : ¬ (i4 = (123 : Int32))) (hy19 : ¬ (i4 = (125 : Int32))) (hy20 : ¬ (i5 = (123 : Int32))) (hy21 : ¬ (i5 = (125 : Int32)))  :
    OwnM l Z nM40 jdk_42_method_150_code 5 none ws ({ frames := 3, cells := 1, slots := 7, locals := 49 } : Room) #[(.ref o1), (.ref o2), .null] h0 (Q38_55 Z o1 o2 i1 o3 kc2 i3 i4 i5 h0 n0) := by
  refine own_body (plainFor_of_name pn_1) ?_
  intro p e s m below meth c s₁ G hx hby hml hZ hown hnm hret X0 e0 step fin
  replace hown : s.vm.findClass "java/lang/String" = some m.cls := hown
  have N0 := Fr.nil n0
  have KK : OwnK p e below c _ G := ⟨step, hx, hby⟩
  refine step (s₁.setTop (mkF m 0 #[vr o1, vr o2, .val .null, .unset, .unset] [])) (fun t k => castTop (ef_38_55 m o1 o2) k) ?_
  refine oal KK X0 d38_0 (.ref o1) 1 rfl rfl rfl ?_
  obtain ⟨T1, X1, e1, st1⟩ := initO X0 hx hZ hown (ow hw 15 rfl) (ow hw 16 rfl) (ow hw 17 rfl) e0 (g := (mkF m 1 #[vr o1, vr o2, .val .null, .unset, .unset] [(.ref o1)])) rfl (by rw [hml]; rfl) rfl (hb hby d38_1) (by decide) (W := 0) (omw rfl rfl) (by decide)
  refine step (T1.setTop (mkF m 4 #[vr o1, vr o2, .val .null, .unset, .unset] [])) (fun t k => st1 t k) ?_
  refine oal KK X1 d38_4 (.ref o2) 5 rfl rfl rfl ?_
  obtain ⟨cq2, kq2, q2a, q2b, q2c⟩ := isOf hZ e1 Pm4
  obtain ⟨_, _, ⟨T2, L2, k2, n2⟩, -, X2, ⟨Lc2, hQ2, l2, y2, z2⟩, st2⟩ := X1.virtualBack hx (y := nM33) (z := nM33) hown (mvT hZ (ow hw 192 rfl)) (mvT hZ (ow hw 193 rfl)) (notFace_of_selects (args := #[]) (mvT hZ (ow hw 195 rfl))) (mvT hZ (ow hw 195 rfl)) (mvT hZ (ow hw 194 rfl)) (by decide) (backOf (W := 0) (rm39_56 l Z a0 hw [] o2 o3 h0 n0 Z0 Pm4 Pm7 gn_o2 ne_o2_o3 gn_o3) hZ (ow hw 196 rfl) (ow hw 132 rfl) (by decide) (by decide)) q2a q2c (g := (mkF m 5 #[vr o1, vr o2, .val .null, .unset, .unset] [(.ref o2)])) rfl (by rw [hml]; rfl) (Steps.refl _) (argsL := []) (rest := []) (lenOf pd_32 rfl) rfl (omw rfl rfl) (hb hby d38_5) (fun _ _ => ⟨rfl, e1, (by decide : 0 + 0 ≤ _), (by decide : 0 + 0 ≤ _)⟩)
  dsimp only [Pt.U, Pt.locs, Pt.cells, Pt.slots] at X2 l2 y2 z2 st2 hQ2
  subst l2 y2 z2
  obtain ⟨rfl, N2q, e2q⟩ := hQ2
  have N2 := Fr.app N0 N2q
  refine step (T2.setTop (mkF m 8 #[vr o1, vr o2, .val .null, .unset, .unset] [(.ref o3)])) (fun t k => st2.trans k) ?_
  refine step (T2.setTop (mkF m 9 #[vr o1, vr o2, .val .null, vr o3, .unset] [])) (fun t k => XS.astoreN X2.here hx rfl (hb hby d38_8) rfl rfl (l' := #[vr o1, vr o2, .val .null, vr o3, .unset]) rfl k) ?_
  refine oal KK X2 d38_9 (.ref o2) 10 rfl rfl rfl ?_
  obtain ⟨cq3, kq3, q3a, q3b, q3c⟩ := isOf hZ e2q Pm4
  obtain ⟨_, _, ⟨T3, L3, k3, n3⟩, -, X3, ⟨Lc3, hQ3, l3, y3, z3⟩, st3⟩ := X2.virtualBack hx (y := nM34) (z := nM35) hown (mvT hZ (ow hw 197 rfl)) (mvT hZ (ow hw 198 rfl)) (own_notFace (y := nM34) (args := #[]) (mvT hZ (ow hw 156 rfl)) rfl) (mvT hZ (ow hw 200 rfl)) (mvT hZ (ow hw 201 rfl)) (by decide) (backOf (W := 0) (rm40_57 l Z a0 hw [] o2 i1 o3 kc2 i3 i4 i5 h0 n0 Z0 S0 Pm4 Pm5 Pm6 Pm7 Pm8 gn_o2 ne_o2_o3 gn_o3 hy15 hy16 hy17 hy18 hy19 hy20 hy21) hZ (ow hw 202 rfl) (ow hw 124 rfl) (by decide) (by decide)) q3a q3c (g := (mkF m 10 #[vr o1, vr o2, .val .null, vr o3, .unset] [(.ref o2)])) rfl (by rw [hml]; rfl) (Steps.refl _) (argsL := []) (rest := []) (lenOf pd_20 rfl) rfl (omw rfl rfl) (hb hby d38_10) (fun _ _ => ⟨rfl, e2q, (by decide : 0 + 0 ≤ _), (by decide : 0 + 0 ≤ _)⟩)
  dsimp only [Pt.U, Pt.locs, Pt.cells, Pt.slots] at X3 l3 y3 z3 st3 hQ3
  subst l3 y3 z3
  obtain ⟨rfl, N3q, e3q⟩ := hQ3
  have N3 := Fr.app N2 N3q
  refine step (T3.setTop (mkF m 13 #[vr o1, vr o2, .val .null, vr o3, .unset] [(.int 7)])) (fun t k => st3.trans k) ?_
  refine oiS KK X3 d38_13 #[vr o1, vr o2, .val .null, vr o3, vi 7] 15 rfl rfl ?_
  refine oal KK X3 d38_15 (.ref o2) 16 rfl rfl rfl ?_
  obtain ⟨cq4, kq4, q4a, q4b, q4c⟩ := isOf hZ e3q Pm4
  obtain ⟨_, _, ⟨T4, L4, k4, n4⟩, -, X4, ⟨Lc4, hQ4, l4, y4, z4⟩, st4⟩ := X3.virtualBack hx (y := nM36) (z := nM36) hown (mvT hZ (ow hw 205 rfl)) (mvT hZ (ow hw 206 rfl)) (notFace_of_selects (args := #[]) (mvT hZ (ow hw 208 rfl))) (mvT hZ (ow hw 208 rfl)) (mvT hZ (ow hw 207 rfl)) (by decide) (backOf (W := 0) (rm42_59 l Z a0 hw [] o2 i1 h0 n0 Z0 S0 Pm4 Pm5 gn_o2 hy15) hZ (ow hw 209 rfl) (ow hw 132 rfl) (by decide) (by decide)) q4a q4c (g := (mkF m 16 #[vr o1, vr o2, .val .null, vr o3, vi 7] [(.ref o2)])) rfl (by rw [hml]; rfl) (Steps.refl _) (argsL := []) (rest := []) (lenOf pd_15 rfl) rfl (omw rfl rfl) (hb hby d38_16) (fun _ _ => ⟨rfl, e3q, (by decide : 0 + 0 ≤ _), (by decide : 0 + 0 ≤ _)⟩)
  dsimp only [Pt.U, Pt.locs, Pt.cells, Pt.slots] at X4 l4 y4 z4 st4 hQ4
  subst l4 y4 z4
  obtain ⟨rfl, N4q, e4q⟩ := hQ4
  have N4 := Fr.app N3 N4q
  refine step (T4.setTop (mkF m 19 #[vr o1, vr o2, .val .null, vr o3, vi 7] [(.int 1)])) (fun t k => st4.trans k) ?_
  refine step (T4.setTop (mkF m 22 #[vr o1, vr o2, .val .null, vr o3, vi 7] [])) (fun t k => XS.ifNo X4.here hx rfl (hb hby d38_19) rfl ((if0 _ _).trans (feq (by decide : ¬ ((1 : Int32) = (0 : Int32)))).1) k) ?_
  refine oal KK X4 d38_22 (.ref o1) 23 rfl rfl rfl ?_
  refine oic KK X4 d38_23 0 24 rfl rfl ?_
  obtain ⟨T5, h5, X5, e5, W5, st5⟩ := putFN X4 hx hZ hown (ow hw 30 rfl) Via.refl e4q Pm2 Pm1 (Or.inr ⟨(ow hw 31 rfl), rfl, hnm⟩) (ow hw 5 rfl) (ty := .byte) (v' := (.int 0)) (by decide) rfl (fits_nar_byte (0 : Int32)) (g := (mkF m 24 #[vr o1, vr o2, .val .null, vr o3, vi 7] [(.int 0), (.ref o1)])) rfl rfl (hb hby d38_24)
  have N5 := Fr.snoc X5 N4 gn_o1
  have K5 : Keep h0 h5 [o1] := (Keep.refl h0 [o1]).wr W5 (Or.inl (List.mem_of_getElem? (i := 0) rfl))
  have F5 := Pm2.same W5
  refine step (T5.setTop (mkF m 27 #[vr o1, vr o2, .val .null, vr o3, vi 7] [])) (fun t k => st5 t k) ?_
  refine oal KK X5 d38_27 (.ref o1) 28 rfl rfl rfl ?_
  refine oal KK X5 d38_28 (.ref o3) 29 rfl rfl rfl ?_
  refine oic KK X5 d38_29 0 30 rfl rfl ?_
  refine oiL KK X5 d38_30 (7 : Int32) 32 rfl rfl ?_
  have f6 := (Pm8.other W5 (Ne.symm ne_o1_o3))
  obtain ⟨_, _, ⟨T7, L7, k7, n7⟩, -, X7, ⟨Lc7, hQ7, l7, y7, z7⟩, st7⟩ := Jvm.LawKit.callS X5 hx (y := nM39) hown (mvT hZ (ow hw 210 rfl)) (mvT hZ (ow hw 211 rfl)) (mvT hZ (ow hw 212 rfl)) (mvT hZ (ow hw 213 rfl)) (by decide) (backOf (W := 1) (rm43_60 l Z a0 hw [] o3 kc2 i3 i4 i5 h5 n0 (Nat.le_trans Z0 K5.1) f6 gn_o3 hy16 hy17 hy18 hy19 hy20 hy21) hZ (ow hw 213 rfl) (ow hw 212 rfl) (by decide) (by decide)) (g := (mkF m 32 #[vr o1, vr o2, .val .null, vr o3, vi 7] [(.int 7), (.int 0), (.ref o3), (.ref o1)])) rfl (by rw [hml]; rfl) (argsL := [(.ref o3), (.int 0), (.int 7)]) (rest := [(.ref o1)]) (lenOf pd_33 rfl) rfl (omw rfl rfl) (hb hby d38_32) (fun _ _ => ⟨rfl, e5, (by decide : 0 + 1 ≤ _), (by decide : 0 + 7 ≤ _)⟩)
  dsimp only [Pt.U, Pt.locs, Pt.cells, Pt.slots] at X7 l7 y7 z7 st7 hQ7
  subst l7 y7 z7
  obtain ⟨h7, e7⟩ : ∃ z, T7.heap = z := ⟨_, rfl⟩
  rw [e7] at hQ7
  obtain ⟨b2_2_7, k2_2_7, rfl, N7q, K7q, sz_b2_2_7, q0_7⟩ := hQ7
  have N7 := Fr.app N5 N7q
  have f8 := (Pm1.wr W5)
  have lt7_o1 := f8.lt
  have f9 := (Pm4.wr W5)
  have lt7_o2 := f9.lt
  have lt7_o3 := f6.lt
  have ne_o1_b2_2_7 : o1 ≠ b2_2_7 := Nat.ne_of_lt (Nat.lt_of_lt_of_le lt7_o1 sz_b2_2_7)
  have ne_o2_b2_2_7 : o2 ≠ b2_2_7 := Nat.ne_of_lt (Nat.lt_of_lt_of_le lt7_o2 sz_b2_2_7)
  have ne_o3_b2_2_7 : o3 ≠ b2_2_7 := Nat.ne_of_lt (Nat.lt_of_lt_of_le lt7_o3 sz_b2_2_7)
  have gn_b2_2_7 : n0 ≤ b2_2_7 := Nat.le_trans (Nat.le_trans Z0 K5.1) sz_b2_2_7
  have sz_b2_2_7' := Nat.le_trans K5.1 sz_b2_2_7
  replace sz_b2_2_7 := sz_b2_2_7'
  have f10 := (S0.wr W5)
  have K7 : Keep h0 h7 [o1] := K5.trans K7q all0
  have f11 := own_staK f10 K7q all0
  refine step (T7.setTop (mkF m 35 #[vr o1, vr o2, .val .null, vr o3, vi 7] [(.ref b2_2_7), (.ref o1)])) (fun t k => st7 t k) ?_
  have f12 := (f8.keep K7q)
  have f13 := ((Pm3.other W5 (Or.inr (slot_ne (Or.inr (ow hw 33 rfl)) (Or.inr (ow hw 31 rfl)) (by decide) (t := (.array .byte)) (t' := .byte) (by decide) (by decide)))).keep K7q nin0)
  obtain ⟨T14, h14, X14, e14, W14, st14⟩ := putF X7 hx hZ hown (host := "") (Or.inl (ow hw 32 rfl)) Via.refl e7 f13 f12 (Or.inr ⟨(ow hw 33 rfl), rfl, hnm⟩) (ow hw 5 rfl) (ty := (.array .byte)) (by decide) rfl rfl (g := (mkF m 35 #[vr o1, vr o2, .val .null, vr o3, vi 7] [(.ref b2_2_7), (.ref o1)])) rfl rfl (hb hby d38_35)
  have N14 := Fr.snoc X14 N7 gn_o1
  have K14 : Keep h0 h14 [o1] := K7.wr W14 (Or.inl (List.mem_of_getElem? (i := 0) rfl))
  have F14 := f13.same W14
  refine step (T14.setTop (mkF m 38 #[vr o1, vr o2, .val .null, vr o3, vi 7] [])) (fun t k => st14 t k) ?_
  refine ogo KK X14 d38_38 97 (by decide) rfl ?_
  have f15 := ((F5.keep K7q nin0).other W14 (Or.inr (slot_ne (Or.inr (ow hw 31 rfl)) (Or.inr (ow hw 33 rfl)) (by decide) (t := .byte) (t' := (.array .byte)) (by decide) (by decide))))
  have f16 := (q0_7.other W14 (Ne.symm ne_o1_b2_2_7))
  refine fin (v := none) X14 (fun _ => rfl) ?_ (by decide) (by decide) (fun fs hr => X14.returnOut hx hret (hb hby d38_97) hr)
  show Q38_55 Z o1 o2 i1 o3 kc2 i3 i4 i5 h0 n0 (none) T14.heap _
  rw [e14]
  exact ⟨b2_2_7, k2_2_7, rfl, N14, K14, sz_b2_2_7, f15, F14, f16⟩
def Q37_54 (Z : State) (o1 : Addr) (o2 : Addr) (i1 : Int32) (o3 : Addr) (kc2 : ClassId) (i3 : Int32) (i4 : Int32) (i5 : Int32) (h0 : Heap) (n0 : Nat) (v : Option Value) (h : Heap) (L : List Loc) : Prop := ∃ (b2_2_7_1 : Addr) (k2_2_7_1 : ClassId), v = none ∧ Fr n0 L ∧ Keep h0 h [o1] ∧ h0.size ≤ b2_2_7_1 ∧ Fld Z h o1 "java/lang/String" "coder" "B" (.int 0) ∧ Fld Z h o1 "java/lang/String" "value" "[B" (.ref b2_2_7_1) ∧ Arv Z h b2_2_7_1 k2_2_7_1 .byte (7 : Int32) [(.int i3), (.int 58), (.int 123), (.int i4), (.int 125), (.int 58), (.int i5)] (.int 0)
set_option maxRecDepth 65536 in
set_option maxHeartbeats 40000000 in
theorem rm37_54 (l : Launch) (Z : State) (a0 : Array Value) (hw : ∀ d ∈ tables_1, d.before a0 Z = true) (ws : List Jvm.Cond) (o1 : Addr) (o2 : Addr) (i1 : Int32) (o3 : Addr) (kc2 : ClassId) (i3 : Int32) (i4 : Int32) (i5 : Int32) (h0 : Heap) (n0 : Nat) (Z0 : n0 ≤ h0.size) (S0 : Sta Z h0 "java/lang/String" "COMPACT_STRINGS" "Z" (.int i1)) (Pm1 : Exa Z h0 o1 "java/lang/String") (Pm2 : Fld Z h0 o1 "java/lang/String" "coder" "B" (.int 0)) (Pm3 : Fld Z h0 o1 "java/lang/String" "value" "[B" .null) (Pm4 : Exa Z h0 o2 "java/lang/StringBuilder") (Pm5 : Fld Z h0 o2 "java/lang/AbstractStringBuilder" "coder" "B" (.int 0)) (Pm6 : Fld Z h0 o2 "java/lang/AbstractStringBuilder" "count" "I" (.int 7)) (Pm7 : Fld Z h0 o2 "java/lang/AbstractStringBuilder" "value" "[B" (.ref o3)) (Pm8 : Arv Z h0 o3 kc2 .byte (16 : Int32) [(.int i3), (.int 58), (.int 123), (.int i4), (.int 125), (.int 58), (.int i5)] (.int 0)) (gn_o1 : n0 ≤ o1) (ne_o1_o2 : o1 ≠ o2) (ne_o1_o3 : o1 ≠ o3) (gn_o2 : n0 ≤ o2) (ne_o2_o3 : o2 ≠ o3) (gn_o3 : n0 ≤ o3) (hy15 : ¬ (i1 = (0 : Int32))) (hy16 : ¬ (i3 = (123 : Int32))) (hy17 : ¬ (i3 = (125 : Int32))) (hy18 : ¬ (i4 = (123 : Int32))) (hy19 : ¬ (i4 = (125 : Int32))) (hy20 : ¬ (i5 = (123 : Int32))) (hy21 : ¬ (i5 = (125 : Int32)))  :
    OwnM l Z nM41 jdk_42_method_53_code 2 none ws ({ frames := 4, cells := 1, slots := 7, locals := 65 } : Room) #[(.ref o1), (.ref o2)] h0 (Q37_54 Z o1 o2 i1 o3 kc2 i3 i4 i5 h0 n0) := by
  refine own_body (plainFor_of_name pn_1) ?_
  intro p e s m below meth c s₁ G hx hby hml hZ hown hnm hret X0 e0 step fin
  replace hown : s.vm.findClass "java/lang/String" = some m.cls := hown
  have N0 := Fr.nil n0
  have KK : OwnK p e below c _ G := ⟨step, hx, hby⟩
  refine step (s₁.setTop (mkF m 0 #[vr o1, vr o2] [])) (fun t k => castTop (ef_2_2 m o1 o2) k) ?_
  refine oal KK X0 d37_0 (.ref o1) 1 rfl rfl rfl ?_
  refine oal KK X0 d37_1 (.ref o2) 2 rfl rfl rfl ?_
  refine step (s₁.setTop (mkF m 3 #[vr o1, vr o2] [.null, (.ref o2), (.ref o1)])) (fun t k => XS.aconstNull X0.here hx rfl (hb hby d37_2) k) ?_
  obtain ⟨_, _, ⟨T1, L1, k1, n1⟩, -, X1, ⟨Lc1, hQ1, l1, y1, z1⟩, st1⟩ := X0.specialBack hx (y := nM40) rfl hown (mvT hZ (ow hw 189 rfl)) (mvT hZ (ow hw 190 rfl)) (mvT hZ (ow hw 191 rfl)) (by decide) (backOf (W := 0) (rm38_55 l Z a0 hw [] o1 o2 i1 o3 kc2 i3 i4 i5 h0 n0 Z0 S0 Pm1 Pm2 Pm3 Pm4 Pm5 Pm6 Pm7 Pm8 gn_o1 ne_o1_o2 ne_o1_o3 gn_o2 ne_o2_o3 gn_o3 hy15 hy16 hy17 hy18 hy19 hy20 hy21) hZ (ow hw 191 rfl) (ow hw 6 rfl) (by decide) (by decide)) (g := (mkF m 3 #[vr o1, vr o2] [.null, (.ref o2), (.ref o1)])) rfl (by rw [hml]; rfl) (Steps.refl _) (a := o1) (argsL := [(.ref o2), .null]) (rest := []) (lenOf pd_31 rfl) rfl (omw rfl rfl) (hb hby d37_3) (fun _ _ => ⟨rfl, e0, (by decide : 0 + 1 ≤ _), (by decide : 0 + 7 ≤ _)⟩)
  dsimp only [Pt.U, Pt.locs, Pt.cells, Pt.slots] at X1 l1 y1 z1 st1 hQ1
  subst l1 y1 z1
  obtain ⟨h1, e1⟩ : ∃ z, T1.heap = z := ⟨_, rfl⟩
  rw [e1] at hQ1
  obtain ⟨b2_2_7_1, k2_2_7_1, rfl, N1q, K1q, sz_b2_2_7_1, q0_1, q1_1, q2_1⟩ := hQ1
  have N1 := Fr.app N0 N1q
  have lt1_o1 := Pm1.lt
  have lt1_o2 := Pm4.lt
  have lt1_o3 := Pm8.lt
  have ne_o1_b2_2_7_1 : o1 ≠ b2_2_7_1 := Nat.ne_of_lt (Nat.lt_of_lt_of_le lt1_o1 sz_b2_2_7_1)
  have ne_o2_b2_2_7_1 : o2 ≠ b2_2_7_1 := Nat.ne_of_lt (Nat.lt_of_lt_of_le lt1_o2 sz_b2_2_7_1)
  have ne_o3_b2_2_7_1 : o3 ≠ b2_2_7_1 := Nat.ne_of_lt (Nat.lt_of_lt_of_le lt1_o3 sz_b2_2_7_1)
  have gn_b2_2_7_1 : n0 ≤ b2_2_7_1 := Nat.le_trans Z0 sz_b2_2_7_1
  have K1 : Keep h0 h1 [o1] := (Keep.refl h0 [o1]).trans K1q (allS (Or.inl (List.mem_of_getElem? (i := 0) rfl)) all0)
  have f2 := own_staK S0 K1q (allS (own_exaP Pm1) all0)
  refine step (T1.setTop (mkF m 6 #[vr o1, vr o2] [])) (fun t k => st1.trans k) ?_
  refine fin (v := none) X1 (fun _ => rfl) ?_ (by decide) (by decide) (fun fs hr => X1.returnOut hx hret (hb hby d37_6) hr)
  show Q37_54 Z o1 o2 i1 o3 kc2 i3 i4 i5 h0 n0 (none) T1.heap _
  rw [e1]
  exact ⟨b2_2_7_1, k2_2_7_1, rfl, N1, K1, sz_b2_2_7_1, q0_1, q1_1, q2_1⟩
def Q36_53 (Z : State) (o1 : Addr) (i1 : Int32) (o2 : Addr) (kc2 : ClassId) (i3 : Int32) (i4 : Int32) (i5 : Int32) (h0 : Heap) (n0 : Nat) (v : Option Value) (h : Heap) (L : List Loc) : Prop := ∃ (b1 : Addr) (b2_2_7_1_8 : Addr) (k2_2_7_1_8 : ClassId), v = some (.ref b1) ∧ Fr n0 L ∧ Keep h0 h [] ∧ h0.size ≤ b1 ∧ h0.size ≤ b2_2_7_1_8 ∧ b1 ≠ b2_2_7_1_8 ∧ Exa Z h b1 "java/lang/String" ∧ Fld Z h b1 "java/lang/String" "coder" "B" (.int 0) ∧ Fld Z h b1 "java/lang/String" "value" "[B" (.ref b2_2_7_1_8) ∧ Arv Z h b2_2_7_1_8 k2_2_7_1_8 .byte (7 : Int32) [(.int i3), (.int 58), (.int 123), (.int i4), (.int 125), (.int 58), (.int i5)] (.int 0)
set_option maxRecDepth 65536 in
set_option maxHeartbeats 40000000 in
theorem rm36_53 (l : Launch) (Z : State) (a0 : Array Value) (hw : ∀ d ∈ tables_1, d.before a0 Z = true) (ws : List Jvm.Cond) (o1 : Addr) (i1 : Int32) (o2 : Addr) (kc2 : ClassId) (i3 : Int32) (i4 : Int32) (i5 : Int32) (h0 : Heap) (n0 : Nat) (Z0 : n0 ≤ h0.size) (S0 : Sta Z h0 "java/lang/String" "COMPACT_STRINGS" "Z" (.int i1)) (Pm1 : Exa Z h0 o1 "java/lang/StringBuilder") (Pm2 : Fld Z h0 o1 "java/lang/AbstractStringBuilder" "coder" "B" (.int 0)) (Pm3 : Fld Z h0 o1 "java/lang/AbstractStringBuilder" "count" "I" (.int 7)) (Pm4 : Fld Z h0 o1 "java/lang/AbstractStringBuilder" "value" "[B" (.ref o2)) (Pm5 : Arv Z h0 o2 kc2 .byte (16 : Int32) [(.int i3), (.int 58), (.int 123), (.int i4), (.int 125), (.int 58), (.int i5)] (.int 0)) (gn_o1 : n0 ≤ o1) (ne_o1_o2 : o1 ≠ o2) (gn_o2 : n0 ≤ o2) (hy9 : ¬ (i1 = (0 : Int32))) (hy10 : ¬ (i4 = (123 : Int32))) (hy11 : ¬ (i4 = (125 : Int32))) (hy12 : ¬ (i5 = (123 : Int32))) (hy13 : ¬ (i5 = (125 : Int32))) (hy14 : ¬ (i3 = (123 : Int32))) (hy15 : ¬ (i3 = (125 : Int32)))  :
    OwnM l Z nM42 jdk_67_method_42_code 1 (some (.object "java/lang/String")) ws ({ frames := 5, cells := 2, slots := 11, locals := 79 } : Room) #[(.ref o1)] h0 (Q36_53 Z o1 i1 o2 kc2 i3 i4 i5 h0 n0) := by
  refine own_body (plainFor_of_name pn_5) ?_
  intro p e s m below meth c s₁ G hx hby hml hZ hown hnm hret X0 e0 step fin
  replace hown : s.vm.findClass "java/lang/StringBuilder" = some m.cls := hown
  have N0 := Fr.nil n0
  have KK : OwnK p e below c _ G := ⟨step, hx, hby⟩
  refine step (s₁.setTop (mkF m 0 #[vr o1] [])) (fun t k => castTop (ef_14_13 m o1) k) ?_
  obtain ⟨T1, h1, X1, e1, E1, A1, D1, -, st1⟩ := newO X0 hx hZ hown (ow hw 185 rfl) (ow hw 5 rfl) (ow hw 6 rfl) e0 (g := (mkF m 0 #[vr o1] [])) rfl (hb hby d36_0) (by decide) (by decide)
  obtain ⟨b1, g1⟩ : ∃ z, z = h0.size := ⟨_, rfl⟩
  rw [← g1] at A1 D1 st1
  have ne_o1_b1 : o1 ≠ b1 := Nat.ne_of_lt (Nat.lt_of_lt_of_le Pm1.lt (Nat.le_of_eq g1.symm))
  have ne_o2_b1 : o2 ≠ b1 := Nat.ne_of_lt (Nat.lt_of_lt_of_le Pm5.lt (Nat.le_of_eq g1.symm))
  have gn_b1 : n0 ≤ b1 := Nat.le_trans Z0 (Nat.le_of_eq g1.symm)
  have sz_b1 : h0.size ≤ b1 := Nat.le_of_eq g1.symm
  have K1 : Keep h0 h1 [] := (Keep.refl h0 []).ext E1
  have F_coder_b1 : Fld Z h1 b1 "java/lang/String" "coder" "B" (.int 0) := D1 (Or.inr (ow hw 31 rfl)) (ty := .byte) (by decide)
  have F_value_b1 : Fld Z h1 b1 "java/lang/String" "value" "[B" .null := D1 (Or.inr (ow hw 33 rfl)) (ty := (.array .byte)) (by decide)
  refine step (T1.setTop (mkF m 3 #[vr o1] [(.ref b1)])) (fun t k => st1 t k) ?_
  refine odu KK X1 d36_3 4 rfl rfl ?_
  refine oal KK X1 d36_4 (.ref o1) 5 rfl rfl rfl ?_
  have f2 := (S0.ext E1)
  have f3 := (Pm1.ext E1)
  have f4 := (Pm2.ext E1)
  have f5 := (Pm3.ext E1)
  have f6 := (Pm4.ext E1)
  have f7 := (Pm5.ext E1)
  obtain ⟨_, _, ⟨T8, L8, k8, n8⟩, -, X8, ⟨Lc8, hQ8, l8, y8, z8⟩, st8⟩ := X1.specialBack hx (y := nM41) rfl hown (mvT hZ (ow hw 186 rfl)) (mvT hZ (ow hw 187 rfl)) (mvT hZ (ow hw 188 rfl)) (by decide) (backOf (W := 1) (rm37_54 l Z a0 hw [] b1 o1 i1 o2 kc2 i3 i4 i5 h1 n0 (Nat.le_trans Z0 K1.1) f2 A1 F_coder_b1 F_value_b1 f3 f4 f5 f6 f7 gn_b1 (Ne.symm ne_o1_b1) (Ne.symm ne_o2_b1) gn_o1 ne_o1_o2 gn_o2 hy9 hy14 hy15 hy10 hy11 hy12 hy13) hZ (ow hw 188 rfl) (ow hw 6 rfl) (by decide) (by decide)) (g := (mkF m 5 #[vr o1] [(.ref o1), (.ref b1), (.ref b1)])) rfl (by rw [hml]; rfl) (Steps.refl _) (a := b1) (argsL := [(.ref o1)]) (rest := [(.ref b1)]) (lenOf pd_30 rfl) rfl (omw rfl rfl) (hb hby d36_5) (fun _ _ => ⟨rfl, e1, (by decide : 1 + 1 ≤ _), (by decide : 4 + 7 ≤ _)⟩)
  dsimp only [Pt.U, Pt.locs, Pt.cells, Pt.slots] at X8 l8 y8 z8 st8 hQ8
  subst l8 y8 z8
  obtain ⟨h8, e8⟩ : ∃ z, T8.heap = z := ⟨_, rfl⟩
  rw [e8] at hQ8
  obtain ⟨b2_2_7_1_8, k2_2_7_1_8, rfl, N8q, K8q, sz_b2_2_7_1_8, q0_8, q1_8, q2_8⟩ := hQ8
  have N8 := Fr.app N0 N8q
  have lt8_o1 := f3.lt
  have lt8_o2 := f7.lt
  have lt8_b1 := A1.lt
  have ne_o1_b2_2_7_1_8 : o1 ≠ b2_2_7_1_8 := Nat.ne_of_lt (Nat.lt_of_lt_of_le lt8_o1 sz_b2_2_7_1_8)
  have ne_o2_b2_2_7_1_8 : o2 ≠ b2_2_7_1_8 := Nat.ne_of_lt (Nat.lt_of_lt_of_le lt8_o2 sz_b2_2_7_1_8)
  have ne_b1_b2_2_7_1_8 : b1 ≠ b2_2_7_1_8 := Nat.ne_of_lt (Nat.lt_of_lt_of_le lt8_b1 sz_b2_2_7_1_8)
  have gn_b2_2_7_1_8 : n0 ≤ b2_2_7_1_8 := Nat.le_trans (Nat.le_trans Z0 K1.1) sz_b2_2_7_1_8
  have sz_b2_2_7_1_8' := Nat.le_trans K1.1 sz_b2_2_7_1_8
  replace sz_b2_2_7_1_8 := sz_b2_2_7_1_8'
  have K8 : Keep h0 h8 [] := K1.trans K8q (allS (Or.inr sz_b1) all0)
  have f9 := own_staK f2 K8q (allS (own_exaP A1) all0)
  refine step (T8.setTop (mkF m 8 #[vr o1] [(.ref b1)])) (fun t k => st8.trans k) ?_
  have f10 := (A1.keep K8q)
  refine fin (v := some (.ref b1)) X8 (fun h => by cases h) ?_ (by decide) (by decide) (fun fs hr => X8.areturnOut hx rfl hret rfl (hb hby d36_8) hr)
  show Q36_53 Z o1 i1 o2 kc2 i3 i4 i5 h0 n0 (some (.ref b1)) T8.heap _
  rw [e8]
  exact ⟨b1, b2_2_7_1_8, k2_2_7_1_8, rfl, N8, K8, sz_b1, sz_b2_2_7_1_8, ne_b1_b2_2_7_1_8, f10, q0_8, q1_8, q2_8⟩
theorem ef_26_30 (m : MethodId) (x0 : Addr) (x1 : Addr) (x2 : Addr) : entryFrame m #[(.ref x0), (.ref x1), (.ref x2)] 3 = mkF m 0 #[.val (.ref x0), .val (.ref x1), .val (.ref x2)] [] := by first | (simp [entryFrame, mkF, argsToLocals, Value.category]; done) | rfl
def Q26_30 (Z : State) (o1 : Addr) (o2 : Addr) (o3 : Addr) (i1 : Int32) (o4 : Addr) (o5 : Addr) (o6 : Addr) (o7 : Addr) (kc2 : ClassId) (i3 : Int32) (kc4 : ClassId) (i5 : Int32) (kc6 : ClassId) (i7 : Int32) (h0 : Heap) (n0 : Nat) (v : Option Value) (h : Heap) (L : List Loc) : Prop := ∃ (b1_76 : Addr) (b2_2_7_1_8_76 : Addr) (k2_2_7_1_8_76 : ClassId), v = some (.ref b1_76) ∧ Fr n0 L ∧ Keep h0 h [] ∧ h0.size ≤ b1_76 ∧ h0.size ≤ b2_2_7_1_8_76 ∧ b1_76 ≠ b2_2_7_1_8_76 ∧ Exa Z h b1_76 "java/lang/String" ∧ Fld Z h b1_76 "java/lang/String" "coder" "B" (.int 0) ∧ Fld Z h b1_76 "java/lang/String" "value" "[B" (.ref b2_2_7_1_8_76) ∧ Arv Z h b2_2_7_1_8_76 k2_2_7_1_8_76 .byte (7 : Int32) [(.int i7), (.int 58), (.int 123), (.int i3), (.int 125), (.int 58), (.int i5)] (.int 0)
set_option maxRecDepth 65536 in
set_option maxHeartbeats 40000000 in
theorem rm26_30 (l : Launch) (Z : State) (a0 : Array Value) (hw : ∀ d ∈ tables_1, d.before a0 Z = true) (ws : List Jvm.Cond) (o1 : Addr) (o2 : Addr) (o3 : Addr) (i1 : Int32) (o4 : Addr) (o5 : Addr) (o6 : Addr) (o7 : Addr) (kc2 : ClassId) (i3 : Int32) (kc4 : ClassId) (i5 : Int32) (kc6 : ClassId) (i7 : Int32) (h0 : Heap) (n0 : Nat) (Z0 : n0 ≤ h0.size) (S0 : Sta Z h0 "java/lang/String" "COMPACT_STRINGS" "Z" (.int i1)) (Pm1 : Exa Z h0 o1 "com/example/dibs/dibs/core/Keyspace") (Pm2 : Fld Z h0 o1 "com/example/dibs/dibs/core/Keyspace" "prefix" "Ljava/lang/String;" (.ref o4)) (Pm3 : Exa Z h0 o2 "java/lang/String") (Pm4 : Fld Z h0 o2 "java/lang/String" "coder" "B" (.int 0)) (Pm5 : Fld Z h0 o2 "java/lang/String" "value" "[B" (.ref o5)) (Pm6 : Exa Z h0 o3 "java/lang/String") (Pm7 : Fld Z h0 o3 "java/lang/String" "coder" "B" (.int 0)) (Pm8 : Fld Z h0 o3 "java/lang/String" "value" "[B" (.ref o6)) (Pm9 : Exa Z h0 o4 "java/lang/String") (Pm10 : Fld Z h0 o4 "java/lang/String" "coder" "B" (.int 0)) (Pm11 : Fld Z h0 o4 "java/lang/String" "value" "[B" (.ref o7)) (Pm12 : Arv Z h0 o5 kc2 .byte (1 : Int32) [(.int i3)] (.int 0)) (Pm13 : Arv Z h0 o6 kc4 .byte (1 : Int32) [(.int i5)] (.int 0)) (Pm14 : Arv Z h0 o7 kc6 .byte (1 : Int32) [(.int i7)] (.int 0)) (gn_o1 : n0 ≤ o1) (ne_o1_o2 : o1 ≠ o2) (ne_o1_o3 : o1 ≠ o3) (ne_o1_o4 : o1 ≠ o4) (ne_o1_o5 : o1 ≠ o5) (ne_o1_o6 : o1 ≠ o6) (ne_o1_o7 : o1 ≠ o7) (gn_o2 : n0 ≤ o2) (ne_o2_o3 : o2 ≠ o3) (ne_o2_o4 : o2 ≠ o4) (ne_o2_o5 : o2 ≠ o5) (ne_o2_o6 : o2 ≠ o6) (ne_o2_o7 : o2 ≠ o7) (gn_o3 : n0 ≤ o3) (ne_o3_o4 : o3 ≠ o4) (ne_o3_o5 : o3 ≠ o5) (ne_o3_o6 : o3 ≠ o6) (ne_o3_o7 : o3 ≠ o7) (gn_o4 : n0 ≤ o4) (ne_o4_o5 : o4 ≠ o5) (ne_o4_o6 : o4 ≠ o6) (ne_o4_o7 : o4 ≠ o7) (gn_o5 : n0 ≤ o5) (ne_o5_o6 : o5 ≠ o6) (ne_o5_o7 : o5 ≠ o7) (gn_o6 : n0 ≤ o6) (ne_o6_o7 : o6 ≠ o7) (gn_o7 : n0 ≤ o7) (hy43 : ¬ (i1 = (0 : Int32))) (hy44 : ¬ (i7 = (123 : Int32))) (hy45 : ¬ (i7 = (125 : Int32))) (hy46 : ¬ (i3 = (123 : Int32))) (hy47 : ¬ (i3 = (125 : Int32))) (hy48 : ¬ (i5 = (123 : Int32))) (hy49 : ¬ (i5 = (125 : Int32)))  :
    OwnMH l Z nM43 prog_2_method_5_code 3 (some (.object "java/lang/String")) ws ({ frames := 6, cells := 12, slots := 95, locals := 91 } : Room) #[(.ref o1), (.ref o2), (.ref o3)] h0 own_EL (Q26_30 Z o1 o2 o3 i1 o4 o5 o6 o7 kc2 i3 kc4 i5 kc6 i7 h0 n0) := by
  refine own_bodyH (own_EWs hw) (plainFor_of_name pn_4) ?_
  intro p e s m below meth c s₁ G vm0 k0 hx hby hml hZ hown hnm hret hS hk hCH0 X0 e0 step fin
  replace hown : vm0.findClass "com/example/dibs/dibs/core/Keyspace" = some m.cls := hown
  have N0 := Fr.nil n0
  have KK : OwnK p e below c _ G := ⟨step, hx, hby⟩
  have C0 := CHr.refl hCH0
  refine step (s₁.setTop (mkF m 0 #[vr o1, vr o2, vr o3] [])) (fun t k => castTop (ef_26_30 m o1 o2 o3) k) ?_
  refine oal KK X0 d26_0 (.ref o2) 1 rfl rfl rfl ?_
  obtain ⟨_, _, ⟨T1, L1, k1, n1⟩, -, X1', hS1', hg1, ⟨Lc1, hQ1, l1, y1, z1, hC1⟩, st1⟩ := callSS X0 hx (y := nM24) hown (mvT hZ (ow hw 117 rfl)) (mvT hZ (ow hw 118 rfl)) (mvT hZ (ow hw 50 rfl)) (mvT hZ (ow hw 119 rfl)) (by decide) (backOfSH (W := 0) (rm27_31 l Z a0 hw [] o2 i1 o5 kc2 i3 h0 n0 Z0 S0 Pm3 Pm4 Pm5 Pm12 gn_o2 ne_o2_o5 gn_o5 hy43 hy46 hy47) hZ (ow hw 119 rfl) (ow hw 50 rfl) (by decide) (by decide) (own_EWs hw) C0.1) (g := (mkF m 1 #[vr o1, vr o2, vr o3] [(.ref o2)])) rfl (by rw [hml]; rfl) (argsL := [(.ref o2)]) (rest := []) (lenOf pd_24 rfl) rfl (omw rfl rfl) (hb hby d26_1) (fun _ _ => ⟨rfl, e0, (by decide : 0 + 2 ≤ _), (by decide : 0 + 20 ≤ _)⟩)
  dsimp only [Pt.U, Pt.locs, Pt.cells, Pt.slots] at X1' hS1' hg1 l1 y1 z1 st1 hQ1 hC1
  subst l1 y1 z1
  obtain ⟨X1, hS1, hZ1, hown1⟩ := rebS hS (Nat.le_trans hk (Nat.le_of_eq (congrArg Array.size e0.symm))) X1' hS1' hg1 hZ hown
  replace hS := hS1
  replace hZ : Z.Warmed39 T1.vm := hZ1
  replace hown : T1.vm.findClass "com/example/dibs/dibs/core/Keyspace" = some m.cls := hown1
  obtain ⟨h1, e1⟩ : ∃ z, T1.heap = z := ⟨_, rfl⟩
  rw [e1] at hQ1
  obtain ⟨rfl, N1q, K1q⟩ := hQ1
  have N1 := Fr.app N0 N1q
  have K1 : Keep h0 h1 [] := (Keep.refl h0 []).trans K1q all0
  have f2 := own_staK S0 K1q all0
  rw [e1] at hC1
  have C1 := C0.trans hC1
  have hk1 : T1.heap.size ≤ h1.size := Nat.le_of_eq (congrArg Array.size e1)
  refine step (T1.setTop (mkF m 4 #[vr o1, vr o2, vr o3] [(.ref o2)])) (fun t k => st1.trans k) ?_
  refine step (T1.setTop (mkF m 5 #[vr o1, vr o2, vr o3] [])) (fun t k => XS.pop X1.here hx rfl (hb hby d26_4) rfl rfl k) ?_
  obtain ⟨a3, T3, h3, kk3, X3, e3, E3, hS3, hk3, hZ3, hown3, hC3, -, st3⟩ := ldcOH X1 hx hZ hown (ow hw 121 rfl) (own_wS hw) e1 hS hk1 (own_EWs hw) C1.1 (g := (mkF m 5 #[vr o1, vr o2, vr o3] [])) rfl (hb hby d26_5) (n := 16) (by decide) (by decide) (by decide) (by decide)
  replace hS := hS3
  replace hZ : Z.Warmed39 T3.vm := hZ3
  replace hown : T3.vm.findClass "com/example/dibs/dibs/core/Keyspace" = some m.cls := hown3
  have K3 : Keep h0 h3 [] := K1.ext E3
  have C3 := C1.trans hC3
  refine step (T3.setTop (mkF m 7 #[vr o1, vr o2, vr o3] [(.ref a3)])) (fun t k => st3 t k) ?_
  refine oal KK X3 d26_7 (.ref o3) 8 rfl rfl rfl ?_
  have f4 := (f2.ext E3)
  have f5 := ((Pm6.keep K1q).ext E3)
  have f6 := ((Pm7.keep K1q nin0).ext E3)
  have f7 := ((Pm8.keep K1q nin0).ext E3)
  have f8 := ((Pm13.keep K1q nin0).ext E3)
  obtain ⟨_, _, ⟨T9, L9, k9, n9⟩, -, X9, ⟨Lc9, hQ9, l9, y9, z9⟩, st9⟩ := Jvm.LawKit.callS X3 hx (y := nM21) hown (mvT hZ (ow hw 57 rfl)) (mvT hZ (ow hw 58 rfl)) (mvT hZ (ow hw 50 rfl)) (mvT hZ (ow hw 59 rfl)) (by decide) (backOf (W := 0) (rm13_12 l Z a0 hw [] a3 o3 i1 o6 kc4 i5 h3 n0 (Nat.le_trans Z0 K3.1) f4 f5 f6 f7 f8 gn_o3 ne_o3_o6 gn_o6 hy43 hy48 hy49) hZ (ow hw 59 rfl) (ow hw 50 rfl) (by decide) (by decide)) (g := (mkF m 8 #[vr o1, vr o2, vr o3] [(.ref o3), (.ref a3)])) rfl (by rw [hml]; rfl) (argsL := [(.ref a3), (.ref o3)]) (rest := []) (lenOf pd_4 rfl) rfl (omw rfl rfl) (hb hby d26_8) (fun _ _ => ⟨rfl, e3, (by decide : 4 + 0 ≤ _), (by decide : 40 + 0 ≤ _)⟩)
  dsimp only [Pt.U, Pt.locs, Pt.cells, Pt.slots] at X9 l9 y9 z9 st9 hQ9
  subst l9 y9 z9
  obtain ⟨rfl, N9q, e9q⟩ := hQ9
  have N9 := Fr.app N1 N9q
  refine step (T9.setTop (mkF m 11 #[vr o1, vr o2, vr o3] [(.ref o3)])) (fun t k => st9 t k) ?_
  refine step (T9.setTop (mkF m 12 #[vr o1, vr o2, vr o3] [])) (fun t k => XS.pop X9.here hx rfl (hb hby d26_11) rfl rfl k) ?_
  obtain ⟨T10, h10, X10, e10, E10, A10, D10, -, st10⟩ := newO X9 hx hZ hown (ow hw 122 rfl) (ow hw 123 rfl) (ow hw 124 rfl) e9q (g := (mkF m 12 #[vr o1, vr o2, vr o3] [])) rfl (hb hby d26_12) (by decide) (by decide)
  obtain ⟨b10, g10⟩ : ∃ z, z = h3.size := ⟨_, rfl⟩
  rw [← g10] at A10 D10 st10
  have f11 := ((Pm1.keep K1q).ext E3)
  have ne_o1_b10 : o1 ≠ b10 := Nat.ne_of_lt (Nat.lt_of_lt_of_le f11.lt (Nat.le_of_eq g10.symm))
  have f12 := ((Pm3.keep K1q).ext E3)
  have ne_o2_b10 : o2 ≠ b10 := Nat.ne_of_lt (Nat.lt_of_lt_of_le f12.lt (Nat.le_of_eq g10.symm))
  have ne_o3_b10 : o3 ≠ b10 := Nat.ne_of_lt (Nat.lt_of_lt_of_le f5.lt (Nat.le_of_eq g10.symm))
  have f13 := ((Pm9.keep K1q).ext E3)
  have ne_o4_b10 : o4 ≠ b10 := Nat.ne_of_lt (Nat.lt_of_lt_of_le f13.lt (Nat.le_of_eq g10.symm))
  have f14 := ((Pm12.keep K1q nin0).ext E3)
  have ne_o5_b10 : o5 ≠ b10 := Nat.ne_of_lt (Nat.lt_of_lt_of_le f14.lt (Nat.le_of_eq g10.symm))
  have ne_o6_b10 : o6 ≠ b10 := Nat.ne_of_lt (Nat.lt_of_lt_of_le f8.lt (Nat.le_of_eq g10.symm))
  have f15 := ((Pm14.keep K1q nin0).ext E3)
  have ne_o7_b10 : o7 ≠ b10 := Nat.ne_of_lt (Nat.lt_of_lt_of_le f15.lt (Nat.le_of_eq g10.symm))
  have gn_b10 : n0 ≤ b10 := Nat.le_trans (Nat.le_trans Z0 K3.1) (Nat.le_of_eq g10.symm)
  have sz_b10 : h0.size ≤ b10 := Nat.le_trans K3.1 (Nat.le_of_eq g10.symm)
  have Sf10_b10 : Safe Z own_EL T3.vm h3 b10 := Safe.new (Nat.le_of_eq g10.symm)
  have K10 : Keep h0 h10 [] := K3.ext E10
  have F_value_b10 : Fld Z h10 b10 "java/lang/AbstractStringBuilder" "value" "[B" .null := D10 (Or.inl (ow hw 137 rfl)) (ty := (.array .byte)) (by decide)
  have F_coder_b10 : Fld Z h10 b10 "java/lang/AbstractStringBuilder" "coder" "B" (.int 0) := D10 (Or.inl (ow hw 139 rfl)) (ty := .byte) (by decide)
  have F_count_b10 : Fld Z h10 b10 "java/lang/AbstractStringBuilder" "count" "I" (.int 0) := D10 (Or.inl (ow hw 152 rfl)) (ty := .int) (by decide)
  refine step (T10.setTop (mkF m 15 #[vr o1, vr o2, vr o3] [(.ref b10)])) (fun t k => st10 t k) ?_
  refine odu KK X10 d26_15 16 rfl rfl ?_
  have f16 := (f4.ext E10)
  have C18 := C3.trans (CHr.ext E10 C3.1)
  have Sf18_b10 := Safe.ext E10 C3.1 Sf10_b10
  obtain ⟨_, _, ⟨T17, L17, k17, n17⟩, -, X17, ⟨Lc17, hQ17, l17, y17, z17⟩, st17⟩ := X10.specialBack hx (y := nM26) rfl hown (mvT hZ (ow hw 125 rfl)) (mvT hZ (ow hw 126 rfl)) (mvT hZ (ow hw 127 rfl)) (by decide) (backOf (W := 1) (rm28_32 l Z a0 hw [] b10 i1 h10 n0 (Nat.le_trans Z0 K10.1) f16 A10 F_coder_b10 F_count_b10 F_value_b10 gn_b10 hy43) hZ (ow hw 127 rfl) (ow hw 124 rfl) (by decide) (by decide)) (g := (mkF m 16 #[vr o1, vr o2, vr o3] [(.ref b10), (.ref b10)])) rfl (by rw [hml]; rfl) (Steps.refl _) (a := b10) (argsL := []) (rest := [(.ref b10)]) (lenOf pd_7 rfl) rfl (omw rfl rfl) (hb hby d26_16) (fun _ _ => ⟨rfl, e10, (by decide : 5 + 1 ≤ _), (by decide : 44 + 16 ≤ _)⟩)
  dsimp only [Pt.U, Pt.locs, Pt.cells, Pt.slots] at X17 l17 y17 z17 st17 hQ17
  subst l17 y17 z17
  obtain ⟨h17, e17⟩ : ∃ z, T17.heap = z := ⟨_, rfl⟩
  rw [e17] at hQ17
  obtain ⟨b4_1_17, k4_1_17, rfl, N17q, K17q, sz_b4_1_17, q0_17, q1_17, q2_17, q3_17⟩ := hQ17
  have N17 := Fr.app N9 N17q
  have f19 := (f11.ext E10)
  have lt17_o1 := f19.lt
  have f20 := (f12.ext E10)
  have lt17_o2 := f20.lt
  have f21 := (f5.ext E10)
  have lt17_o3 := f21.lt
  have f22 := (f13.ext E10)
  have lt17_o4 := f22.lt
  have f23 := (f14.ext E10)
  have lt17_o5 := f23.lt
  have f24 := (f8.ext E10)
  have lt17_o6 := f24.lt
  have f25 := (f15.ext E10)
  have lt17_o7 := f25.lt
  have lt17_b10 := A10.lt
  have Sf17_b4_1_17 : Safe Z own_EL T3.vm h10 b4_1_17 := Safe.new sz_b4_1_17
  have ne_o1_b4_1_17 : o1 ≠ b4_1_17 := Nat.ne_of_lt (Nat.lt_of_lt_of_le lt17_o1 sz_b4_1_17)
  have ne_o2_b4_1_17 : o2 ≠ b4_1_17 := Nat.ne_of_lt (Nat.lt_of_lt_of_le lt17_o2 sz_b4_1_17)
  have ne_o3_b4_1_17 : o3 ≠ b4_1_17 := Nat.ne_of_lt (Nat.lt_of_lt_of_le lt17_o3 sz_b4_1_17)
  have ne_o4_b4_1_17 : o4 ≠ b4_1_17 := Nat.ne_of_lt (Nat.lt_of_lt_of_le lt17_o4 sz_b4_1_17)
  have ne_o5_b4_1_17 : o5 ≠ b4_1_17 := Nat.ne_of_lt (Nat.lt_of_lt_of_le lt17_o5 sz_b4_1_17)
  have ne_o6_b4_1_17 : o6 ≠ b4_1_17 := Nat.ne_of_lt (Nat.lt_of_lt_of_le lt17_o6 sz_b4_1_17)
  have ne_o7_b4_1_17 : o7 ≠ b4_1_17 := Nat.ne_of_lt (Nat.lt_of_lt_of_le lt17_o7 sz_b4_1_17)
  have ne_b10_b4_1_17 : b10 ≠ b4_1_17 := Nat.ne_of_lt (Nat.lt_of_lt_of_le lt17_b10 sz_b4_1_17)
  have gn_b4_1_17 : n0 ≤ b4_1_17 := Nat.le_trans (Nat.le_trans Z0 K10.1) sz_b4_1_17
  have sz_b4_1_17' := Nat.le_trans K10.1 sz_b4_1_17
  replace sz_b4_1_17 := sz_b4_1_17'
  have K17 : Keep h0 h17 [] := K10.trans K17q (allS (Or.inr sz_b10) all0)
  have f26 := own_staK f16 K17q (allS (own_exaP A10) all0)
  refine step (T17.setTop (mkF m 19 #[vr o1, vr o2, vr o3] [(.ref b10)])) (fun t k => st17.trans k) ?_
  refine oal KK X17 d26_19 (.ref o1) 20 rfl rfl rfl ?_
  have f27 := ((((Pm2.keep K1q nin0).ext E3).ext E10).keep K17q (ninS ne_o1_b10 nin0))
  obtain ⟨T28, X28, e28, st28⟩ := getF X17 hx hZ hown (host := "") (Or.inl (ow hw 110 rfl)) Via.refl e17 f27 (g := (mkF m 20 #[vr o1, vr o2, vr o3] [(.ref o1), (.ref b10)])) rfl rfl (hb hby d26_20)
  refine step (T28.setTop (mkF m 23 #[vr o1, vr o2, vr o3] [(.ref o4), (.ref b10)])) (fun t k => st28 t k) ?_
  have f29 := (A10.keep K17q)
  have f30 := (f22.keep K17q)
  have f31 := ((((Pm10.keep K1q nin0).ext E3).ext E10).keep K17q (ninS ne_o4_b10 nin0))
  have f32 := ((((Pm11.keep K1q nin0).ext E3).ext E10).keep K17q (ninS ne_o4_b10 nin0))
  have f33 := (f25.keep K17q (ninS ne_o7_b10 nin0))
  have C35 := C18.trans (CHr.keep K17q (allS Sf18_b10 all0) C18.1)
  have Sf35_b10 := Safe.keep K17q (allS Sf18_b10 all0) C18.1 Sf18_b10
  have Sf35_b4_1_17 := Safe.keep K17q (allS Sf18_b10 all0) C18.1 Sf17_b4_1_17
  obtain ⟨cq34, kq34, q34a, q34b, q34c⟩ := isOf hZ e28 f29
  obtain ⟨_, _, ⟨T34, L34, k34, n34⟩, -, X34, ⟨Lc34, hQ34, l34, y34, z34⟩, st34⟩ := X28.virtualBack hx (y := nM32) (z := nM32) hown (mvT hZ (ow hw 140 rfl)) (mvT hZ (ow hw 141 rfl)) (notFace_of_selects (args := #[]) (mvT hZ (ow hw 143 rfl))) (mvT hZ (ow hw 143 rfl)) (mvT hZ (ow hw 142 rfl)) (by decide) (backOf (W := 0) (rm30_34 l Z a0 hw [] b10 o4 i1 (0 : Int32) b4_1_17 o7 k4_1_17 ([]) kc6 i7 h17 n0 (Nat.le_trans Z0 K17.1) f26 f29 q0_17 q1_17 q2_17 f30 f31 f32 q3_17 f33 gn_b10 (Ne.symm ne_o4_b10) ne_b10_b4_1_17 (Ne.symm ne_o7_b10) gn_o4 ne_o4_b4_1_17 ne_o4_o7 gn_b4_1_17 (Ne.symm ne_o7_b4_1_17) gn_o7 rfl (by decide) (by decide) (by decide) hy43 hy44 hy45) hZ (ow hw 144 rfl) (ow hw 124 rfl) (by decide) (by decide)) q34a q34c (g := (mkF m 23 #[vr o1, vr o2, vr o3] [(.ref o4), (.ref b10)])) rfl (by rw [hml]; rfl) (Steps.refl _) (argsL := [(.ref o4)]) (rest := []) (lenOf pd_16 rfl) rfl (omw rfl rfl) (hb hby d26_23) (fun _ _ => ⟨rfl, e28, (by decide : 6 + 0 ≤ _), (by decide : 60 + 0 ≤ _)⟩)
  dsimp only [Pt.U, Pt.locs, Pt.cells, Pt.slots] at X34 l34 y34 z34 st34 hQ34
  subst l34 y34 z34
  obtain ⟨h34, e34⟩ : ∃ z, T34.heap = z := ⟨_, rfl⟩
  rw [e34] at hQ34
  obtain ⟨rfl, N34q, K34q, q0_34, q1_34, q2_34, q3_34⟩ := hQ34
  have N34 := Fr.app N17 N34q
  have K34 : Keep h0 h34 [] := K17.trans K34q (allS (Or.inr sz_b4_1_17) (allS (Or.inr sz_b10) all0))
  have f36 := own_staK f26 K34q (allS (own_arvP q3_17) (allS (own_exaP f29) all0))
  have q0_34' : Arv Z h34 b4_1_17 k4_1_17 .byte (16 : Int32) [(.int i7)] (.int 0) := q0_34
  have q2_34' : Fld Z h34 b10 "java/lang/AbstractStringBuilder" "count" "I" (.int 1) := q2_34
  refine step (T34.setTop (mkF m 26 #[vr o1, vr o2, vr o3] [(.ref b10)])) (fun t k => st34.trans k) ?_
  have C38 := C35.trans (CHr.keep K34q (allS Sf35_b4_1_17 (allS Sf35_b10 all0)) C35.1)
  have Sf38_b10 := Safe.keep K34q (allS Sf35_b4_1_17 (allS Sf35_b10 all0)) C35.1 Sf35_b10
  have Sf38_b4_1_17 := Safe.keep K34q (allS Sf35_b4_1_17 (allS Sf35_b10 all0)) C35.1 Sf35_b4_1_17
  have f39 := (f29.keep K34q)
  have hl37_b10 := f39.lt
  have hl37_b4_1_17 := q0_34'.lt
  obtain ⟨a37, T37, h37, kk37, bb37, kb37, X37, e37, E37, hS37, hk37, hZ37, hown37, Ex37, Fc37, Fv37, Va37, -, -, hC37, -, hne37, st37⟩ := ldcCH X34 hx hZ hown (ow hw 178 rfl) (own_wS hw) e34 hS (Nat.le_trans (Nat.le_trans (Nat.le_trans hk3 E10.1) K17q.1) K34q.1) (own_EWs hw) (List.mem_of_getElem? (i := 3) rfl) C38.1 (vs := [(.int 58), (.int 123)]) (z := (2 : Int32)) ⟨by decide, rfl⟩ (by decide) rfl (g := (mkF m 26 #[vr o1, vr o2, vr o3] [(.ref b10)])) rfl (hb hby d26_26) (n := 8) (by decide) (by decide) (by decide) (by decide)
  replace hS := hS37
  replace hZ : Z.Warmed39 T37.vm := hZ37
  replace hown : T37.vm.findClass "com/example/dibs/dibs/core/Keyspace" = some m.cls := hown37
  have K37 : Keep h0 h37 [] := K34.ext E37
  have C37 := C38.trans hC37
  have Sf37_b10 := hC37.safe hl37_b10 Sf38_b10
  have Sf37_b4_1_17 := hC37.safe hl37_b4_1_17 Sf38_b4_1_17
  have ne_b10_a37 := (hne37 b10 Sf37_b10).1
  have ne_b10_bb37 := (hne37 b10 Sf37_b10).2
  have ne_b4_1_17_a37 := (hne37 b4_1_17 Sf37_b4_1_17).1
  have ne_b4_1_17_bb37 := (hne37 b4_1_17 Sf37_b4_1_17).2
  refine step (T37.setTop (mkF m 28 #[vr o1, vr o2, vr o3] [(.ref a37), (.ref b10)])) (fun t k => st37 t k) ?_
  have f40 := (f36.ext E37)
  have f41 := (f39.ext E37)
  have f42 := (q1_34.ext E37)
  have f43 := (q2_34'.ext E37)
  have f44 := (q3_34.ext E37)
  have f45 := (q0_34'.ext E37)
  obtain ⟨cq46, kq46, q46a, q46b, q46c⟩ := isOf hZ e37 f41
  obtain ⟨_, _, ⟨T46, L46, k46, n46⟩, -, X46, ⟨Lc46, hQ46, l46, y46, z46⟩, st46⟩ := X37.virtualBack hx (y := nM32) (z := nM32) hown (mvT hZ (ow hw 140 rfl)) (mvT hZ (ow hw 141 rfl)) (notFace_of_selects (args := #[]) (mvT hZ (ow hw 143 rfl))) (mvT hZ (ow hw 143 rfl)) (mvT hZ (ow hw 142 rfl)) (by decide) (backOf (W := 0) (rm30_40 l Z a0 hw [] b10 a37 i1 (1 : Int32) b4_1_17 bb37 k4_1_17 ([(.int i7)]) kb37 h37 n0 (Nat.le_trans Z0 K37.1) f40 f41 f42 f43 f44 Ex37 Fc37 Fv37 f45 Va37 gn_b10 ne_b10_a37 ne_b10_b4_1_17 ne_b10_bb37 (Ne.symm ne_b4_1_17_a37) gn_b4_1_17 ne_b4_1_17_bb37 rfl (by decide) (by decide) (by decide) hy43) hZ (ow hw 144 rfl) (ow hw 124 rfl) (by decide) (by decide)) q46a q46c (g := (mkF m 28 #[vr o1, vr o2, vr o3] [(.ref a37), (.ref b10)])) rfl (by rw [hml]; rfl) (Steps.refl _) (argsL := [(.ref a37)]) (rest := []) (lenOf pd_16 rfl) rfl (omw rfl rfl) (hb hby d26_28) (fun _ _ => ⟨rfl, e37, (by decide : 8 + 0 ≤ _), (by decide : 72 + 0 ≤ _)⟩)
  dsimp only [Pt.U, Pt.locs, Pt.cells, Pt.slots] at X46 l46 y46 z46 st46 hQ46
  subst l46 y46 z46
  obtain ⟨h46, e46⟩ : ∃ z, T46.heap = z := ⟨_, rfl⟩
  rw [e46] at hQ46
  obtain ⟨rfl, N46q, K46q, q0_46, q1_46, q2_46, q3_46⟩ := hQ46
  have N46 := Fr.app N34 N46q
  have K46 : Keep h0 h46 [] := K37.trans K46q (allS (Or.inr sz_b4_1_17) (allS (Or.inr sz_b10) all0))
  have f47 := own_staK f40 K46q (allS (own_arvP f45) (allS (own_exaP f41) all0))
  have q0_46' : Arv Z h46 b4_1_17 k4_1_17 .byte (16 : Int32) [(.int i7), (.int 58), (.int 123)] (.int 0) := q0_46
  have q2_46' : Fld Z h46 b10 "java/lang/AbstractStringBuilder" "count" "I" (.int 3) := q2_46
  refine step (T46.setTop (mkF m 31 #[vr o1, vr o2, vr o3] [(.ref b10)])) (fun t k => st46.trans k) ?_
  refine oal KK X46 d26_31 (.ref o2) 32 rfl rfl rfl ?_
  have f48 := (f41.keep K46q)
  have f49 := ((((f20.keep K17q).keep K34q).ext E37).keep K46q)
  have f50 := (((((((Pm4.keep K1q nin0).ext E3).ext E10).keep K17q (ninS ne_o2_b10 nin0)).keep K34q (ninS ne_o2_b4_1_17 (ninS ne_o2_b10 nin0))).ext E37).keep K46q (ninS ne_o2_b4_1_17 (ninS ne_o2_b10 nin0)))
  have f51 := (((((((Pm5.keep K1q nin0).ext E3).ext E10).keep K17q (ninS ne_o2_b10 nin0)).keep K34q (ninS ne_o2_b4_1_17 (ninS ne_o2_b10 nin0))).ext E37).keep K46q (ninS ne_o2_b4_1_17 (ninS ne_o2_b10 nin0)))
  have f52 := ((((f23.keep K17q (ninS ne_o5_b10 nin0)).keep K34q (ninS ne_o5_b4_1_17 (ninS ne_o5_b10 nin0))).ext E37).keep K46q (ninS ne_o5_b4_1_17 (ninS ne_o5_b10 nin0)))
  have C54 := C37.trans (CHr.keep K46q (allS Sf37_b4_1_17 (allS Sf37_b10 all0)) C37.1)
  have Sf54_b10 := Safe.keep K46q (allS Sf37_b4_1_17 (allS Sf37_b10 all0)) C37.1 Sf37_b10
  have Sf54_b4_1_17 := Safe.keep K46q (allS Sf37_b4_1_17 (allS Sf37_b10 all0)) C37.1 Sf37_b4_1_17
  obtain ⟨cq53, kq53, q53a, q53b, q53c⟩ := isOf hZ e46 f48
  obtain ⟨_, _, ⟨T53, L53, k53, n53⟩, -, X53, ⟨Lc53, hQ53, l53, y53, z53⟩, st53⟩ := X46.virtualBack hx (y := nM32) (z := nM32) hown (mvT hZ (ow hw 140 rfl)) (mvT hZ (ow hw 141 rfl)) (notFace_of_selects (args := #[]) (mvT hZ (ow hw 143 rfl))) (mvT hZ (ow hw 143 rfl)) (mvT hZ (ow hw 142 rfl)) (by decide) (backOf (W := 0) (rm30_34 l Z a0 hw [] b10 o2 i1 (3 : Int32) b4_1_17 o5 k4_1_17 ([(.int i7), (.int 58), (.int 123)]) kc2 i3 h46 n0 (Nat.le_trans Z0 K46.1) f47 f48 q1_46 q2_46' q3_46 f49 f50 f51 q0_46' f52 gn_b10 (Ne.symm ne_o2_b10) ne_b10_b4_1_17 (Ne.symm ne_o5_b10) gn_o2 ne_o2_b4_1_17 ne_o2_o5 gn_b4_1_17 (Ne.symm ne_o5_b4_1_17) gn_o5 rfl (by decide) (by decide) (by decide) hy43 hy46 hy47) hZ (ow hw 144 rfl) (ow hw 124 rfl) (by decide) (by decide)) q53a q53c (g := (mkF m 32 #[vr o1, vr o2, vr o3] [(.ref o2), (.ref b10)])) rfl (by rw [hml]; rfl) (Steps.refl _) (argsL := [(.ref o2)]) (rest := []) (lenOf pd_16 rfl) rfl (omw rfl rfl) (hb hby d26_32) (fun _ _ => ⟨rfl, e46, (by decide : 8 + 0 ≤ _), (by decide : 72 + 0 ≤ _)⟩)
  dsimp only [Pt.U, Pt.locs, Pt.cells, Pt.slots] at X53 l53 y53 z53 st53 hQ53
  subst l53 y53 z53
  obtain ⟨h53, e53⟩ : ∃ z, T53.heap = z := ⟨_, rfl⟩
  rw [e53] at hQ53
  obtain ⟨rfl, N53q, K53q, q0_53, q1_53, q2_53, q3_53⟩ := hQ53
  have N53 := Fr.app N46 N53q
  have K53 : Keep h0 h53 [] := K46.trans K53q (allS (Or.inr sz_b4_1_17) (allS (Or.inr sz_b10) all0))
  have f55 := own_staK f47 K53q (allS (own_arvP q0_46') (allS (own_exaP f48) all0))
  have q0_53' : Arv Z h53 b4_1_17 k4_1_17 .byte (16 : Int32) [(.int i7), (.int 58), (.int 123), (.int i3)] (.int 0) := q0_53
  have q2_53' : Fld Z h53 b10 "java/lang/AbstractStringBuilder" "count" "I" (.int 4) := q2_53
  refine step (T53.setTop (mkF m 35 #[vr o1, vr o2, vr o3] [(.ref b10)])) (fun t k => st53.trans k) ?_
  have C57 := C54.trans (CHr.keep K53q (allS Sf54_b4_1_17 (allS Sf54_b10 all0)) C54.1)
  have Sf57_b10 := Safe.keep K53q (allS Sf54_b4_1_17 (allS Sf54_b10 all0)) C54.1 Sf54_b10
  have Sf57_b4_1_17 := Safe.keep K53q (allS Sf54_b4_1_17 (allS Sf54_b10 all0)) C54.1 Sf54_b4_1_17
  have f58 := (f48.keep K53q)
  have hl56_b10 := f58.lt
  have hl56_b4_1_17 := q0_53'.lt
  obtain ⟨a56, T56, h56, kk56, bb56, kb56, X56, e56, E56, hS56, hk56, hZ56, hown56, Ex56, Fc56, Fv56, Va56, -, -, hC56, -, hne56, st56⟩ := ldcCH X53 hx hZ hown (ow hw 179 rfl) (own_wS hw) e53 hS (Nat.le_trans (Nat.le_trans hk37 K46q.1) K53q.1) (own_EWs hw) (List.mem_of_getElem? (i := 4) rfl) C57.1 (vs := [(.int 125), (.int 58)]) (z := (2 : Int32)) ⟨by decide, rfl⟩ (by decide) rfl (g := (mkF m 35 #[vr o1, vr o2, vr o3] [(.ref b10)])) rfl (hb hby d26_35) (n := 8) (by decide) (by decide) (by decide) (by decide)
  replace hS := hS56
  replace hZ : Z.Warmed39 T56.vm := hZ56
  replace hown : T56.vm.findClass "com/example/dibs/dibs/core/Keyspace" = some m.cls := hown56
  have K56 : Keep h0 h56 [] := K53.ext E56
  have C56 := C57.trans hC56
  have Sf56_b10 := hC56.safe hl56_b10 Sf57_b10
  have Sf56_b4_1_17 := hC56.safe hl56_b4_1_17 Sf57_b4_1_17
  have ne_b10_a56 := (hne56 b10 Sf56_b10).1
  have ne_b10_bb56 := (hne56 b10 Sf56_b10).2
  have ne_b4_1_17_a56 := (hne56 b4_1_17 Sf56_b4_1_17).1
  have ne_b4_1_17_bb56 := (hne56 b4_1_17 Sf56_b4_1_17).2
  refine step (T56.setTop (mkF m 37 #[vr o1, vr o2, vr o3] [(.ref a56), (.ref b10)])) (fun t k => st56 t k) ?_
  have f59 := (f55.ext E56)
  have f60 := (f58.ext E56)
  have f61 := (q1_53.ext E56)
  have f62 := (q2_53'.ext E56)
  have f63 := (q3_53.ext E56)
  have f64 := (q0_53'.ext E56)
  obtain ⟨cq65, kq65, q65a, q65b, q65c⟩ := isOf hZ e56 f60
  obtain ⟨_, _, ⟨T65, L65, k65, n65⟩, -, X65, ⟨Lc65, hQ65, l65, y65, z65⟩, st65⟩ := X56.virtualBack hx (y := nM32) (z := nM32) hown (mvT hZ (ow hw 140 rfl)) (mvT hZ (ow hw 141 rfl)) (notFace_of_selects (args := #[]) (mvT hZ (ow hw 143 rfl))) (mvT hZ (ow hw 143 rfl)) (mvT hZ (ow hw 142 rfl)) (by decide) (backOf (W := 0) (rm30_48 l Z a0 hw [] b10 a56 i1 (4 : Int32) b4_1_17 bb56 k4_1_17 ([(.int i7), (.int 58), (.int 123), (.int i3)]) kb56 h56 n0 (Nat.le_trans Z0 K56.1) f59 f60 f61 f62 f63 Ex56 Fc56 Fv56 f64 Va56 gn_b10 ne_b10_a56 ne_b10_b4_1_17 ne_b10_bb56 (Ne.symm ne_b4_1_17_a56) gn_b4_1_17 ne_b4_1_17_bb56 rfl (by decide) (by decide) (by decide) hy43) hZ (ow hw 144 rfl) (ow hw 124 rfl) (by decide) (by decide)) q65a q65c (g := (mkF m 37 #[vr o1, vr o2, vr o3] [(.ref a56), (.ref b10)])) rfl (by rw [hml]; rfl) (Steps.refl _) (argsL := [(.ref a56)]) (rest := []) (lenOf pd_16 rfl) rfl (omw rfl rfl) (hb hby d26_37) (fun _ _ => ⟨rfl, e56, (by decide : 10 + 0 ≤ _), (by decide : 84 + 0 ≤ _)⟩)
  dsimp only [Pt.U, Pt.locs, Pt.cells, Pt.slots] at X65 l65 y65 z65 st65 hQ65
  subst l65 y65 z65
  obtain ⟨h65, e65⟩ : ∃ z, T65.heap = z := ⟨_, rfl⟩
  rw [e65] at hQ65
  obtain ⟨rfl, N65q, K65q, q0_65, q1_65, q2_65, q3_65⟩ := hQ65
  have N65 := Fr.app N53 N65q
  have K65 : Keep h0 h65 [] := K56.trans K65q (allS (Or.inr sz_b4_1_17) (allS (Or.inr sz_b10) all0))
  have f66 := own_staK f59 K65q (allS (own_arvP f64) (allS (own_exaP f60) all0))
  have q0_65' : Arv Z h65 b4_1_17 k4_1_17 .byte (16 : Int32) [(.int i7), (.int 58), (.int 123), (.int i3), (.int 125), (.int 58)] (.int 0) := q0_65
  have q2_65' : Fld Z h65 b10 "java/lang/AbstractStringBuilder" "count" "I" (.int 6) := q2_65
  refine step (T65.setTop (mkF m 40 #[vr o1, vr o2, vr o3] [(.ref b10)])) (fun t k => st65.trans k) ?_
  refine oal KK X65 d26_40 (.ref o3) 41 rfl rfl rfl ?_
  have f67 := (f60.keep K65q)
  have f68 := (((((((f21.keep K17q).keep K34q).ext E37).keep K46q).keep K53q).ext E56).keep K65q)
  have f69 := ((((((((f6.ext E10).keep K17q (ninS ne_o3_b10 nin0)).keep K34q (ninS ne_o3_b4_1_17 (ninS ne_o3_b10 nin0))).ext E37).keep K46q (ninS ne_o3_b4_1_17 (ninS ne_o3_b10 nin0))).keep K53q (ninS ne_o3_b4_1_17 (ninS ne_o3_b10 nin0))).ext E56).keep K65q (ninS ne_o3_b4_1_17 (ninS ne_o3_b10 nin0)))
  have f70 := ((((((((f7.ext E10).keep K17q (ninS ne_o3_b10 nin0)).keep K34q (ninS ne_o3_b4_1_17 (ninS ne_o3_b10 nin0))).ext E37).keep K46q (ninS ne_o3_b4_1_17 (ninS ne_o3_b10 nin0))).keep K53q (ninS ne_o3_b4_1_17 (ninS ne_o3_b10 nin0))).ext E56).keep K65q (ninS ne_o3_b4_1_17 (ninS ne_o3_b10 nin0)))
  have f71 := (((((((f24.keep K17q (ninS ne_o6_b10 nin0)).keep K34q (ninS ne_o6_b4_1_17 (ninS ne_o6_b10 nin0))).ext E37).keep K46q (ninS ne_o6_b4_1_17 (ninS ne_o6_b10 nin0))).keep K53q (ninS ne_o6_b4_1_17 (ninS ne_o6_b10 nin0))).ext E56).keep K65q (ninS ne_o6_b4_1_17 (ninS ne_o6_b10 nin0)))
  have C73 := C56.trans (CHr.keep K65q (allS Sf56_b4_1_17 (allS Sf56_b10 all0)) C56.1)
  have Sf73_b10 := Safe.keep K65q (allS Sf56_b4_1_17 (allS Sf56_b10 all0)) C56.1 Sf56_b10
  have Sf73_b4_1_17 := Safe.keep K65q (allS Sf56_b4_1_17 (allS Sf56_b10 all0)) C56.1 Sf56_b4_1_17
  obtain ⟨cq72, kq72, q72a, q72b, q72c⟩ := isOf hZ e65 f67
  obtain ⟨_, _, ⟨T72, L72, k72, n72⟩, -, X72, ⟨Lc72, hQ72, l72, y72, z72⟩, st72⟩ := X65.virtualBack hx (y := nM32) (z := nM32) hown (mvT hZ (ow hw 140 rfl)) (mvT hZ (ow hw 141 rfl)) (notFace_of_selects (args := #[]) (mvT hZ (ow hw 143 rfl))) (mvT hZ (ow hw 143 rfl)) (mvT hZ (ow hw 142 rfl)) (by decide) (backOf (W := 0) (rm30_34 l Z a0 hw [] b10 o3 i1 (6 : Int32) b4_1_17 o6 k4_1_17 ([(.int i7), (.int 58), (.int 123), (.int i3), (.int 125), (.int 58)]) kc4 i5 h65 n0 (Nat.le_trans Z0 K65.1) f66 f67 q1_65 q2_65' q3_65 f68 f69 f70 q0_65' f71 gn_b10 (Ne.symm ne_o3_b10) ne_b10_b4_1_17 (Ne.symm ne_o6_b10) gn_o3 ne_o3_b4_1_17 ne_o3_o6 gn_b4_1_17 (Ne.symm ne_o6_b4_1_17) gn_o6 rfl (by decide) (by decide) (by decide) hy43 hy48 hy49) hZ (ow hw 144 rfl) (ow hw 124 rfl) (by decide) (by decide)) q72a q72c (g := (mkF m 41 #[vr o1, vr o2, vr o3] [(.ref o3), (.ref b10)])) rfl (by rw [hml]; rfl) (Steps.refl _) (argsL := [(.ref o3)]) (rest := []) (lenOf pd_16 rfl) rfl (omw rfl rfl) (hb hby d26_41) (fun _ _ => ⟨rfl, e65, (by decide : 10 + 0 ≤ _), (by decide : 84 + 0 ≤ _)⟩)
  dsimp only [Pt.U, Pt.locs, Pt.cells, Pt.slots] at X72 l72 y72 z72 st72 hQ72
  subst l72 y72 z72
  obtain ⟨h72, e72⟩ : ∃ z, T72.heap = z := ⟨_, rfl⟩
  rw [e72] at hQ72
  obtain ⟨rfl, N72q, K72q, q0_72, q1_72, q2_72, q3_72⟩ := hQ72
  have N72 := Fr.app N65 N72q
  have K72 : Keep h0 h72 [] := K65.trans K72q (allS (Or.inr sz_b4_1_17) (allS (Or.inr sz_b10) all0))
  have f74 := own_staK f66 K72q (allS (own_arvP q0_65') (allS (own_exaP f67) all0))
  have q0_72' : Arv Z h72 b4_1_17 k4_1_17 .byte (16 : Int32) [(.int i7), (.int 58), (.int 123), (.int i3), (.int 125), (.int 58), (.int i5)] (.int 0) := q0_72
  have q2_72' : Fld Z h72 b10 "java/lang/AbstractStringBuilder" "count" "I" (.int 7) := q2_72
  refine step (T72.setTop (mkF m 44 #[vr o1, vr o2, vr o3] [(.ref b10)])) (fun t k => st72.trans k) ?_
  have f75 := (f67.keep K72q)
  have C77 := C73.trans (CHr.keep K72q (allS Sf73_b4_1_17 (allS Sf73_b10 all0)) C73.1)
  have Sf77_b10 := Safe.keep K72q (allS Sf73_b4_1_17 (allS Sf73_b10 all0)) C73.1 Sf73_b10
  have Sf77_b4_1_17 := Safe.keep K72q (allS Sf73_b4_1_17 (allS Sf73_b10 all0)) C73.1 Sf73_b4_1_17
  obtain ⟨cq76, kq76, q76a, q76b, q76c⟩ := isOf hZ e72 f75
  obtain ⟨_, _, ⟨T76, L76, k76, n76⟩, -, X76, ⟨Lc76, hQ76, l76, y76, z76⟩, st76⟩ := X72.virtualBack hx (y := nM42) (z := nM42) hown (mvT hZ (ow hw 180 rfl)) (mvT hZ (ow hw 181 rfl)) (notFace_of_selects (args := #[]) (mvT hZ (ow hw 183 rfl))) (mvT hZ (ow hw 183 rfl)) (mvT hZ (ow hw 182 rfl)) (by decide) (backOf (W := 0) (rm36_53 l Z a0 hw [] b10 i1 b4_1_17 k4_1_17 i7 i3 i5 h72 n0 (Nat.le_trans Z0 K72.1) f74 f75 q1_72 q2_72' q3_72 q0_72' gn_b10 ne_b10_b4_1_17 gn_b4_1_17 hy43 hy46 hy47 hy48 hy49 hy44 hy45) hZ (ow hw 184 rfl) (ow hw 124 rfl) (by decide) (by decide)) q76a q76c (g := (mkF m 44 #[vr o1, vr o2, vr o3] [(.ref b10)])) rfl (by rw [hml]; rfl) (Steps.refl _) (argsL := []) (rest := []) (lenOf pd_17 rfl) rfl (omw rfl rfl) (hb hby d26_44) (fun _ _ => ⟨rfl, e72, (by decide : 10 + 2 ≤ _), (by decide : 84 + 11 ≤ _)⟩)
  dsimp only [Pt.U, Pt.locs, Pt.cells, Pt.slots] at X76 l76 y76 z76 st76 hQ76
  subst l76 y76 z76
  obtain ⟨h76, e76⟩ : ∃ z, T76.heap = z := ⟨_, rfl⟩
  rw [e76] at hQ76
  obtain ⟨b1_76, b2_2_7_1_8_76, k2_2_7_1_8_76, rfl, N76q, K76q, sz_b1_76, sz_b2_2_7_1_8_76, ne_b1_b2_2_7_1_8_76, q0_76, q1_76, q2_76, q3_76⟩ := hQ76
  have N76 := Fr.app N72 N76q
  have f78 := ((((((((f19.keep K17q).keep K34q).ext E37).keep K46q).keep K53q).ext E56).keep K65q).keep K72q)
  have lt76_o1 := f78.lt
  have f79 := ((((f49.keep K53q).ext E56).keep K65q).keep K72q)
  have lt76_o2 := f79.lt
  have f80 := (f68.keep K72q)
  have lt76_o3 := f80.lt
  have f81 := (((((((f30.keep K34q).ext E37).keep K46q).keep K53q).ext E56).keep K65q).keep K72q)
  have lt76_o4 := f81.lt
  have f82 := ((((f52.keep K53q (ninS ne_o5_b4_1_17 (ninS ne_o5_b10 nin0))).ext E56).keep K65q (ninS ne_o5_b4_1_17 (ninS ne_o5_b10 nin0))).keep K72q (ninS ne_o5_b4_1_17 (ninS ne_o5_b10 nin0)))
  have lt76_o5 := f82.lt
  have f83 := (f71.keep K72q (ninS ne_o6_b4_1_17 (ninS ne_o6_b10 nin0)))
  have lt76_o6 := f83.lt
  have f84 := (((((((f33.keep K34q (ninS ne_o7_b4_1_17 (ninS ne_o7_b10 nin0))).ext E37).keep K46q (ninS ne_o7_b4_1_17 (ninS ne_o7_b10 nin0))).keep K53q (ninS ne_o7_b4_1_17 (ninS ne_o7_b10 nin0))).ext E56).keep K65q (ninS ne_o7_b4_1_17 (ninS ne_o7_b10 nin0))).keep K72q (ninS ne_o7_b4_1_17 (ninS ne_o7_b10 nin0)))
  have lt76_o7 := f84.lt
  have lt76_b10 := f75.lt
  have f85 := (((((Ex37.keep K46q).keep K53q).ext E56).keep K65q).keep K72q)
  have lt76_a37 := f85.lt
  have f86 := (((((Va37.keep K46q (ninS (Ne.symm ne_b4_1_17_bb37) (ninS (Ne.symm ne_b10_bb37) nin0))).keep K53q (ninS (Ne.symm ne_b4_1_17_bb37) (ninS (Ne.symm ne_b10_bb37) nin0))).ext E56).keep K65q (ninS (Ne.symm ne_b4_1_17_bb37) (ninS (Ne.symm ne_b10_bb37) nin0))).keep K72q (ninS (Ne.symm ne_b4_1_17_bb37) (ninS (Ne.symm ne_b10_bb37) nin0)))
  have lt76_bb37 := f86.lt
  have f87 := ((Ex56.keep K65q).keep K72q)
  have lt76_a56 := f87.lt
  have f88 := ((Va56.keep K65q (ninS (Ne.symm ne_b4_1_17_bb56) (ninS (Ne.symm ne_b10_bb56) nin0))).keep K72q (ninS (Ne.symm ne_b4_1_17_bb56) (ninS (Ne.symm ne_b10_bb56) nin0)))
  have lt76_bb56 := f88.lt
  have lt76_b4_1_17 := q0_72'.lt
  have Sf76_b1_76 : Safe Z own_EL T56.vm h72 b1_76 := Safe.new sz_b1_76
  have ne_o1_b1_76 : o1 ≠ b1_76 := Nat.ne_of_lt (Nat.lt_of_lt_of_le lt76_o1 sz_b1_76)
  have ne_o2_b1_76 : o2 ≠ b1_76 := Nat.ne_of_lt (Nat.lt_of_lt_of_le lt76_o2 sz_b1_76)
  have ne_o3_b1_76 : o3 ≠ b1_76 := Nat.ne_of_lt (Nat.lt_of_lt_of_le lt76_o3 sz_b1_76)
  have ne_o4_b1_76 : o4 ≠ b1_76 := Nat.ne_of_lt (Nat.lt_of_lt_of_le lt76_o4 sz_b1_76)
  have ne_o5_b1_76 : o5 ≠ b1_76 := Nat.ne_of_lt (Nat.lt_of_lt_of_le lt76_o5 sz_b1_76)
  have ne_o6_b1_76 : o6 ≠ b1_76 := Nat.ne_of_lt (Nat.lt_of_lt_of_le lt76_o6 sz_b1_76)
  have ne_o7_b1_76 : o7 ≠ b1_76 := Nat.ne_of_lt (Nat.lt_of_lt_of_le lt76_o7 sz_b1_76)
  have ne_b10_b1_76 : b10 ≠ b1_76 := Nat.ne_of_lt (Nat.lt_of_lt_of_le lt76_b10 sz_b1_76)
  have ne_a37_b1_76 : a37 ≠ b1_76 := Nat.ne_of_lt (Nat.lt_of_lt_of_le lt76_a37 sz_b1_76)
  have ne_bb37_b1_76 : bb37 ≠ b1_76 := Nat.ne_of_lt (Nat.lt_of_lt_of_le lt76_bb37 sz_b1_76)
  have ne_a56_b1_76 : a56 ≠ b1_76 := Nat.ne_of_lt (Nat.lt_of_lt_of_le lt76_a56 sz_b1_76)
  have ne_bb56_b1_76 : bb56 ≠ b1_76 := Nat.ne_of_lt (Nat.lt_of_lt_of_le lt76_bb56 sz_b1_76)
  have ne_b4_1_17_b1_76 : b4_1_17 ≠ b1_76 := Nat.ne_of_lt (Nat.lt_of_lt_of_le lt76_b4_1_17 sz_b1_76)
  have gn_b1_76 : n0 ≤ b1_76 := Nat.le_trans (Nat.le_trans Z0 K72.1) sz_b1_76
  have sz_b1_76' := Nat.le_trans K72.1 sz_b1_76
  replace sz_b1_76 := sz_b1_76'
  have Sf76_b2_2_7_1_8_76 : Safe Z own_EL T56.vm h72 b2_2_7_1_8_76 := Safe.new sz_b2_2_7_1_8_76
  have ne_o1_b2_2_7_1_8_76 : o1 ≠ b2_2_7_1_8_76 := Nat.ne_of_lt (Nat.lt_of_lt_of_le lt76_o1 sz_b2_2_7_1_8_76)
  have ne_o2_b2_2_7_1_8_76 : o2 ≠ b2_2_7_1_8_76 := Nat.ne_of_lt (Nat.lt_of_lt_of_le lt76_o2 sz_b2_2_7_1_8_76)
  have ne_o3_b2_2_7_1_8_76 : o3 ≠ b2_2_7_1_8_76 := Nat.ne_of_lt (Nat.lt_of_lt_of_le lt76_o3 sz_b2_2_7_1_8_76)
  have ne_o4_b2_2_7_1_8_76 : o4 ≠ b2_2_7_1_8_76 := Nat.ne_of_lt (Nat.lt_of_lt_of_le lt76_o4 sz_b2_2_7_1_8_76)
  have ne_o5_b2_2_7_1_8_76 : o5 ≠ b2_2_7_1_8_76 := Nat.ne_of_lt (Nat.lt_of_lt_of_le lt76_o5 sz_b2_2_7_1_8_76)
  have ne_o6_b2_2_7_1_8_76 : o6 ≠ b2_2_7_1_8_76 := Nat.ne_of_lt (Nat.lt_of_lt_of_le lt76_o6 sz_b2_2_7_1_8_76)
  have ne_o7_b2_2_7_1_8_76 : o7 ≠ b2_2_7_1_8_76 := Nat.ne_of_lt (Nat.lt_of_lt_of_le lt76_o7 sz_b2_2_7_1_8_76)
  have ne_b10_b2_2_7_1_8_76 : b10 ≠ b2_2_7_1_8_76 := Nat.ne_of_lt (Nat.lt_of_lt_of_le lt76_b10 sz_b2_2_7_1_8_76)
  have ne_a37_b2_2_7_1_8_76 : a37 ≠ b2_2_7_1_8_76 := Nat.ne_of_lt (Nat.lt_of_lt_of_le lt76_a37 sz_b2_2_7_1_8_76)
  have ne_bb37_b2_2_7_1_8_76 : bb37 ≠ b2_2_7_1_8_76 := Nat.ne_of_lt (Nat.lt_of_lt_of_le lt76_bb37 sz_b2_2_7_1_8_76)
  have ne_a56_b2_2_7_1_8_76 : a56 ≠ b2_2_7_1_8_76 := Nat.ne_of_lt (Nat.lt_of_lt_of_le lt76_a56 sz_b2_2_7_1_8_76)
  have ne_bb56_b2_2_7_1_8_76 : bb56 ≠ b2_2_7_1_8_76 := Nat.ne_of_lt (Nat.lt_of_lt_of_le lt76_bb56 sz_b2_2_7_1_8_76)
  have ne_b4_1_17_b2_2_7_1_8_76 : b4_1_17 ≠ b2_2_7_1_8_76 := Nat.ne_of_lt (Nat.lt_of_lt_of_le lt76_b4_1_17 sz_b2_2_7_1_8_76)
  have gn_b2_2_7_1_8_76 : n0 ≤ b2_2_7_1_8_76 := Nat.le_trans (Nat.le_trans Z0 K72.1) sz_b2_2_7_1_8_76
  have sz_b2_2_7_1_8_76' := Nat.le_trans K72.1 sz_b2_2_7_1_8_76
  replace sz_b2_2_7_1_8_76 := sz_b2_2_7_1_8_76'
  have K76 : Keep h0 h76 [] := K72.trans K76q all0
  have f89 := own_staK f74 K76q all0
  refine step (T76.setTop (mkF m 47 #[vr o1, vr o2, vr o3] [(.ref b1_76)])) (fun t k => st76.trans k) ?_
  have C90 := C77.trans (CHr.keep K76q all0 C77.1)
  have Sf90_b10 := Safe.keep K76q all0 C77.1 Sf77_b10
  have Sf90_b4_1_17 := Safe.keep K76q all0 C77.1 Sf77_b4_1_17
  have Sf90_b1_76 := Safe.keep K76q all0 C77.1 Sf76_b1_76
  have Sf90_b2_2_7_1_8_76 := Safe.keep K76q all0 C77.1 Sf76_b2_2_7_1_8_76
  refine fin (v := some (.ref b1_76)) X76 hS (Nat.le_trans (Nat.le_trans (Nat.le_trans (Nat.le_trans hk56 K65q.1) K72q.1) K76q.1) (Nat.le_of_eq (congrArg Array.size e76.symm))) hZ (by rw [e76]; exact C90) (fun h => by cases h) ?_ (by decide) (by decide) (fun fs hr => X76.areturnOut hx rfl hret rfl (hb hby d26_47) hr)
  show Q26_30 Z o1 o2 o3 i1 o4 o5 o6 o7 kc2 i3 kc4 i5 kc6 i7 h0 n0 (some (.ref b1_76)) T76.heap _
  rw [e76]
  exact ⟨b1_76, b2_2_7_1_8_76, k2_2_7_1_8_76, rfl, N76, K76, sz_b1_76, sz_b2_2_7_1_8_76, ne_b1_b2_2_7_1_8_76, q0_76, q1_76, q2_76, q3_76⟩
theorem ef_6_67 (m : MethodId) (x0 : Addr) (x2 : Addr) : entryFrame m #[(.ref x0), (.int 0), (.ref x2), (.int 0), (.int 7)] 7 = mkF m 0 #[.val (.ref x0), .val (.int 0), .val (.ref x2), .val (.int 0), .val (.int 7), .unset, .unset] [] := by first | (simp [entryFrame, mkF, argsToLocals, Value.category]; done) | rfl
def Q6_67 (Z : State) (o1 : Addr) (o2 : Addr) (kc1 : ClassId) (i2 : Int32) (i3 : Int32) (i4 : Int32) (kc5 : ClassId) (h0 : Heap) (n0 : Nat) (v : Option Value) (h : Heap) (L : List Loc) : Prop := v = some (.int 7) ∧ Fr n0 L ∧ Keep h0 h [o2] ∧ Arv Z h o2 kc5 .byte (7 : Int32) [(.int (nar .byte (i2.toInt8.toInt32))), (.int 58), (.int 123), (.int (nar .byte (i3.toInt8.toInt32))), (.int 125), (.int 58), (.int (nar .byte (i4.toInt8.toInt32)))] (.int 0)
set_option maxRecDepth 65536 in
set_option maxHeartbeats 40000000 in
theorem rm6_67 (l : Launch) (Z : State) (a0 : Array Value) (hw : ∀ d ∈ tables_1, d.before a0 Z = true) (ws : List Jvm.Cond) (o1 : Addr) (o2 : Addr) (kc1 : ClassId) (i2 : Int32) (i3 : Int32) (i4 : Int32) (kc5 : ClassId) (h0 : Heap) (n0 : Nat) (Z0 : n0 ≤ h0.size) (Pm0 : Arv Z h0 o1 kc1 .char (7 : Int32) [(.int i2), (.int 58), (.int 123), (.int i3), (.int 125), (.int 58), (.int i4)] (.int 0)) (Pm1 : Arv Z h0 o2 kc5 .byte (7 : Int32) [(.int 0), (.int 0), (.int 0), (.int 0), (.int 0), (.int 0), (.int 0)] (.int 0)) (gn_o1 : n0 ≤ o1) (ne_o1_o2 : o1 ≠ o2) (gn_o2 : n0 ≤ o2) (hy5 : ¬ ((255 : Int32) < i2)) (hy6 : ¬ ((255 : Int32) < i3)) (hy7 : ¬ ((255 : Int32) < i4))  :
    OwnM l Z nM1 jdk_52_method_21_code 7 (some .int) ws ({ frames := 0, cells := 0, slots := 0, locals := 0 } : Room) #[(.ref o1), (.int 0), (.ref o2), (.int 0), (.int 7)] h0 (Q6_67 Z o1 o2 kc1 i2 i3 i4 kc5 h0 n0) := by
  refine own_body (plainFor_of_name pn_2) ?_
  intro p e s m below meth c s₁ G hx hby hml hZ hown hnm hret X0 e0 step fin
  replace hown : s.vm.findClass "java/lang/StringUTF16" = some m.cls := hown
  have N0 := Fr.nil n0
  have KK : OwnK p e below c _ G := ⟨step, hx, hby⟩
  refine step (s₁.setTop (mkF m 0 #[vr o1, vi 0, vr o2, vi 0, vi 7, .unset, .unset] [])) (fun t k => castTop (ef_6_67 m o1 o2) k) ?_
  refine oic KK X0 d6_0 0 1 rfl rfl ?_
  refine oiS KK X0 d6_1 #[vr o1, vi 0, vr o2, vi 0, vi 7, vi 0, .unset] 3 rfl rfl ?_
  refine oiL KK X0 d6_3 (0 : Int32) 5 rfl rfl ?_
  refine oiL KK X0 d6_5 (7 : Int32) 7 rfl rfl ?_
  refine oin KK X0 d6_7 10 rfl (tlt (by decide : (0 : Int32) < (7 : Int32))).2.1 ?_
  refine oal KK X0 d6_10 (.ref o1) 11 rfl rfl rfl ?_
  refine oil KK X0 d6_11 (0 : Int32) 12 rfl rfl ?_
  obtain ⟨cl1, Ar1, q1, S1, N1n, H1, G1⟩ := id Pm0
  have hin1 : ¬ ((0 : Int32) < 0 ∨ cl1.slots.size ≤ ((0 : Int32)).toNatClampNeg) := inb_of S1 ⟨by decide, by decide⟩
  have hat1 : cl1.slots[((0 : Int32)).toNatClampNeg]? = some (.int i2) := H1.at hin1 rfl
  refine step (s₁.setTop (mkF m 13 #[vr o1, vi 0, vr o2, vi 0, vi 7, vi 0, .unset] [(.int i2)])) (fun t k => X0.caload hx (j := (0 : Int32)) (v := (.int i2)) (by rw [e0]; exact Ar1.1) (State.isArrayOf_alike hZ.alike Ar1.2.1) Ar1.2.2 hin1 hat1 (g := (mkF m 12 #[vr o1, vi 0, vr o2, vi 0, vi 7, vi 0, .unset] [(.int 0), (.ref o1)])) rfl rfl (hb hby d6_12) t k) ?_
  refine oiS KK X0 d6_13 #[vr o1, vi 0, vr o2, vi 0, vi 7, vi 0, vi i2] 15 rfl rfl ?_
  refine oiL KK X0 d6_15 i2 17 rfl rfl ?_
  refine osi KK X0 d6_17 255 20 rfl rfl ?_
  have hc20_2 : ¬ ((255 : Int32) < i2) := hy5
  refine oiy KK X0 d6_20 26 (flt hc20_2).2.2.2 (by decide) rfl ?_
  refine oal KK X0 d6_26 (.ref o2) 27 rfl rfl rfl ?_
  refine oil KK X0 d6_27 (0 : Int32) 28 rfl rfl ?_
  refine oiL KK X0 d6_28 i2 30 rfl rfl ?_
  refine step (s₁.setTop (mkF m 31 #[vr o1, vi 0, vr o2, vi 0, vi 7, vi 0, vi i2] [(.int (i2.toInt8.toInt32)), (.int 0), (.ref o2)])) (fun t k => XS.i2b X0.here hx rfl (hb hby d6_30) rfl k) ?_
  obtain ⟨cl3, Ar3, q3, S3, N3n, H3, G3⟩ := id Pm1
  have hin3 : ¬ ((0 : Int32) < 0 ∨ cl3.slots.size ≤ ((0 : Int32)).toNatClampNeg) := inb_of S3 ⟨by decide, by decide⟩
  obtain ⟨T3, h3, X3, e3, W3, st3⟩ := stB X0 hx hZ e0 Ar3 (j := (0 : Int32)) hin3 (g := (mkF m 31 #[vr o1, vi 0, vr o2, vi 0, vi 7, vi 0, vi i2] [(.int (i2.toInt8.toInt32)), (.int 0), (.ref o2)])) rfl rfl (hb hby d6_31)
  have N3 := Fr.snoc X3 N0 gn_o2
  have K3 : Keep h0 h3 [o2] := (Keep.refl h0 [o2]).wr W3 (Or.inl (List.mem_of_getElem? (i := 0) rfl))
  have V3 : Arv Z h3 o2 kc5 .byte (7 : Int32) [(.int (nar .byte (i2.toInt8.toInt32))), (.int 0), (.int 0), (.int 0), (.int 0), (.int 0), (.int 0)] (.int 0) := Arv.set Ar3 q3 S3 N3n H3 G3 (fits_nar_byte (i2.toInt8.toInt32)) W3 0 rfl (Nat.le_of_ble_eq_true rfl)
  refine step (T3.setTop (mkF m 32 #[vr o1, vi 0, vr o2, vi 0, vi 7, vi 0, vi i2] [])) (fun t k => st3 t k) ?_
  refine oii KK X3 d6_32 #[vr o1, vi 1, vr o2, vi 0, vi 7, vi 0, vi i2] 35 rfl rfl rfl ?_
  refine oii KK X3 d6_35 #[vr o1, vi 1, vr o2, vi 1, vi 7, vi 0, vi i2] 38 rfl rfl rfl ?_
  refine oii KK X3 d6_38 #[vr o1, vi 1, vr o2, vi 1, vi 7, vi 1, vi i2] 41 rfl rfl rfl ?_
  refine ogo KK X3 d6_41 3 (by decide) rfl ?_
  refine oiL KK X3 d6_3 (1 : Int32) 5 rfl rfl ?_
  refine oiL KK X3 d6_5 (7 : Int32) 7 rfl rfl ?_
  refine oin KK X3 d6_7 10 rfl (tlt (by decide : (1 : Int32) < (7 : Int32))).2.1 ?_
  refine oal KK X3 d6_10 (.ref o1) 11 rfl rfl rfl ?_
  refine oil KK X3 d6_11 (1 : Int32) 12 rfl rfl ?_
  have f4 := (Pm0.other W3 ne_o1_o2)
  obtain ⟨cl5, Ar5, q5, S5, N5n, H5, G5⟩ := id f4
  have hin5 : ¬ ((1 : Int32) < 0 ∨ cl5.slots.size ≤ ((1 : Int32)).toNatClampNeg) := inb_of S5 ⟨by decide, by decide⟩
  have hat5 : cl5.slots[((1 : Int32)).toNatClampNeg]? = some (.int 58) := H5.at hin5 rfl
  refine step (T3.setTop (mkF m 13 #[vr o1, vi 1, vr o2, vi 1, vi 7, vi 1, vi i2] [(.int 58)])) (fun t k => X3.caload hx (j := (1 : Int32)) (v := (.int 58)) (by rw [e3]; exact Ar5.1) (State.isArrayOf_alike hZ.alike Ar5.2.1) Ar5.2.2 hin5 hat5 (g := (mkF m 12 #[vr o1, vi 1, vr o2, vi 1, vi 7, vi 1, vi i2] [(.int 1), (.ref o1)])) rfl rfl (hb hby d6_12) t k) ?_
  refine oiS KK X3 d6_13 #[vr o1, vi 1, vr o2, vi 1, vi 7, vi 1, vi 58] 15 rfl rfl ?_
  refine oiL KK X3 d6_15 (58 : Int32) 17 rfl rfl ?_
  refine osi KK X3 d6_17 255 20 rfl rfl ?_
  refine oiy KK X3 d6_20 26 (flt (by decide : ¬ ((255 : Int32) < (58 : Int32)))).2.2.2 (by decide) rfl ?_
  refine oal KK X3 d6_26 (.ref o2) 27 rfl rfl rfl ?_
  refine oil KK X3 d6_27 (1 : Int32) 28 rfl rfl ?_
  refine oiL KK X3 d6_28 (58 : Int32) 30 rfl rfl ?_
  refine step (T3.setTop (mkF m 31 #[vr o1, vi 1, vr o2, vi 1, vi 7, vi 1, vi 58] [(.int 58), (.int 1), (.ref o2)])) (fun t k => XS.i2b X3.here hx rfl (hb hby d6_30) rfl k) ?_
  obtain ⟨cl6, Ar6, q6, S6, N6n, H6, G6⟩ := id V3
  have hin6 : ¬ ((1 : Int32) < 0 ∨ cl6.slots.size ≤ ((1 : Int32)).toNatClampNeg) := inb_of S6 ⟨by decide, by decide⟩
  obtain ⟨T6, h6, X6, e6, W6, st6⟩ := stB X3 hx hZ e3 Ar6 (j := (1 : Int32)) hin6 (g := (mkF m 31 #[vr o1, vi 1, vr o2, vi 1, vi 7, vi 1, vi 58] [(.int 58), (.int 1), (.ref o2)])) rfl rfl (hb hby d6_31)
  have N6 := Fr.snoc X6 N3 gn_o2
  have K6 : Keep h0 h6 [o2] := K3.wr W6 (Or.inl (List.mem_of_getElem? (i := 0) rfl))
  have V6 : Arv Z h6 o2 kc5 .byte (7 : Int32) [(.int (nar .byte (i2.toInt8.toInt32))), (.int 58), (.int 0), (.int 0), (.int 0), (.int 0), (.int 0)] (.int 0) := Arv.set Ar6 q6 S6 N6n H6 G6 (fits_nar_byte (58 : Int32)) W6 1 rfl (Nat.le_of_ble_eq_true rfl)
  refine step (T6.setTop (mkF m 32 #[vr o1, vi 1, vr o2, vi 1, vi 7, vi 1, vi 58] [])) (fun t k => st6 t k) ?_
  refine oii KK X6 d6_32 #[vr o1, vi 2, vr o2, vi 1, vi 7, vi 1, vi 58] 35 rfl rfl rfl ?_
  refine oii KK X6 d6_35 #[vr o1, vi 2, vr o2, vi 2, vi 7, vi 1, vi 58] 38 rfl rfl rfl ?_
  refine oii KK X6 d6_38 #[vr o1, vi 2, vr o2, vi 2, vi 7, vi 2, vi 58] 41 rfl rfl rfl ?_
  refine ogo KK X6 d6_41 3 (by decide) rfl ?_
  refine oiL KK X6 d6_3 (2 : Int32) 5 rfl rfl ?_
  refine oiL KK X6 d6_5 (7 : Int32) 7 rfl rfl ?_
  refine oin KK X6 d6_7 10 rfl (tlt (by decide : (2 : Int32) < (7 : Int32))).2.1 ?_
  refine oal KK X6 d6_10 (.ref o1) 11 rfl rfl rfl ?_
  refine oil KK X6 d6_11 (2 : Int32) 12 rfl rfl ?_
  have f7 := (f4.other W6 ne_o1_o2)
  obtain ⟨cl8, Ar8, q8, S8, N8n, H8, G8⟩ := id f7
  have hin8 : ¬ ((2 : Int32) < 0 ∨ cl8.slots.size ≤ ((2 : Int32)).toNatClampNeg) := inb_of S8 ⟨by decide, by decide⟩
  have hat8 : cl8.slots[((2 : Int32)).toNatClampNeg]? = some (.int 123) := H8.at hin8 rfl
  refine step (T6.setTop (mkF m 13 #[vr o1, vi 2, vr o2, vi 2, vi 7, vi 2, vi 58] [(.int 123)])) (fun t k => X6.caload hx (j := (2 : Int32)) (v := (.int 123)) (by rw [e6]; exact Ar8.1) (State.isArrayOf_alike hZ.alike Ar8.2.1) Ar8.2.2 hin8 hat8 (g := (mkF m 12 #[vr o1, vi 2, vr o2, vi 2, vi 7, vi 2, vi 58] [(.int 2), (.ref o1)])) rfl rfl (hb hby d6_12) t k) ?_
  refine oiS KK X6 d6_13 #[vr o1, vi 2, vr o2, vi 2, vi 7, vi 2, vi 123] 15 rfl rfl ?_
  refine oiL KK X6 d6_15 (123 : Int32) 17 rfl rfl ?_
  refine osi KK X6 d6_17 255 20 rfl rfl ?_
  refine oiy KK X6 d6_20 26 (flt (by decide : ¬ ((255 : Int32) < (123 : Int32)))).2.2.2 (by decide) rfl ?_
  refine oal KK X6 d6_26 (.ref o2) 27 rfl rfl rfl ?_
  refine oil KK X6 d6_27 (2 : Int32) 28 rfl rfl ?_
  refine oiL KK X6 d6_28 (123 : Int32) 30 rfl rfl ?_
  refine step (T6.setTop (mkF m 31 #[vr o1, vi 2, vr o2, vi 2, vi 7, vi 2, vi 123] [(.int 123), (.int 2), (.ref o2)])) (fun t k => XS.i2b X6.here hx rfl (hb hby d6_30) rfl k) ?_
  obtain ⟨cl9, Ar9, q9, S9, N9n, H9, G9⟩ := id V6
  have hin9 : ¬ ((2 : Int32) < 0 ∨ cl9.slots.size ≤ ((2 : Int32)).toNatClampNeg) := inb_of S9 ⟨by decide, by decide⟩
  obtain ⟨T9, h9, X9, e9, W9, st9⟩ := stB X6 hx hZ e6 Ar9 (j := (2 : Int32)) hin9 (g := (mkF m 31 #[vr o1, vi 2, vr o2, vi 2, vi 7, vi 2, vi 123] [(.int 123), (.int 2), (.ref o2)])) rfl rfl (hb hby d6_31)
  have N9 := Fr.snoc X9 N6 gn_o2
  have K9 : Keep h0 h9 [o2] := K6.wr W9 (Or.inl (List.mem_of_getElem? (i := 0) rfl))
  have V9 : Arv Z h9 o2 kc5 .byte (7 : Int32) [(.int (nar .byte (i2.toInt8.toInt32))), (.int 58), (.int 123), (.int 0), (.int 0), (.int 0), (.int 0)] (.int 0) := Arv.set Ar9 q9 S9 N9n H9 G9 (fits_nar_byte (123 : Int32)) W9 2 rfl (Nat.le_of_ble_eq_true rfl)
  refine step (T9.setTop (mkF m 32 #[vr o1, vi 2, vr o2, vi 2, vi 7, vi 2, vi 123] [])) (fun t k => st9 t k) ?_
  refine oii KK X9 d6_32 #[vr o1, vi 3, vr o2, vi 2, vi 7, vi 2, vi 123] 35 rfl rfl rfl ?_
  refine oii KK X9 d6_35 #[vr o1, vi 3, vr o2, vi 3, vi 7, vi 2, vi 123] 38 rfl rfl rfl ?_
  refine oii KK X9 d6_38 #[vr o1, vi 3, vr o2, vi 3, vi 7, vi 3, vi 123] 41 rfl rfl rfl ?_
  refine ogo KK X9 d6_41 3 (by decide) rfl ?_
  refine oiL KK X9 d6_3 (3 : Int32) 5 rfl rfl ?_
  refine oiL KK X9 d6_5 (7 : Int32) 7 rfl rfl ?_
  refine oin KK X9 d6_7 10 rfl (tlt (by decide : (3 : Int32) < (7 : Int32))).2.1 ?_
  refine oal KK X9 d6_10 (.ref o1) 11 rfl rfl rfl ?_
  refine oil KK X9 d6_11 (3 : Int32) 12 rfl rfl ?_
  have f10 := (f7.other W9 ne_o1_o2)
  obtain ⟨cl11, Ar11, q11, S11, N11n, H11, G11⟩ := id f10
  have hin11 : ¬ ((3 : Int32) < 0 ∨ cl11.slots.size ≤ ((3 : Int32)).toNatClampNeg) := inb_of S11 ⟨by decide, by decide⟩
  have hat11 : cl11.slots[((3 : Int32)).toNatClampNeg]? = some (.int i3) := H11.at hin11 rfl
  refine step (T9.setTop (mkF m 13 #[vr o1, vi 3, vr o2, vi 3, vi 7, vi 3, vi 123] [(.int i3)])) (fun t k => X9.caload hx (j := (3 : Int32)) (v := (.int i3)) (by rw [e9]; exact Ar11.1) (State.isArrayOf_alike hZ.alike Ar11.2.1) Ar11.2.2 hin11 hat11 (g := (mkF m 12 #[vr o1, vi 3, vr o2, vi 3, vi 7, vi 3, vi 123] [(.int 3), (.ref o1)])) rfl rfl (hb hby d6_12) t k) ?_
  refine oiS KK X9 d6_13 #[vr o1, vi 3, vr o2, vi 3, vi 7, vi 3, vi i3] 15 rfl rfl ?_
  refine oiL KK X9 d6_15 i3 17 rfl rfl ?_
  refine osi KK X9 d6_17 255 20 rfl rfl ?_
  have hc20_12 : ¬ ((255 : Int32) < i3) := hy6
  refine oiy KK X9 d6_20 26 (flt hc20_12).2.2.2 (by decide) rfl ?_
  refine oal KK X9 d6_26 (.ref o2) 27 rfl rfl rfl ?_
  refine oil KK X9 d6_27 (3 : Int32) 28 rfl rfl ?_
  refine oiL KK X9 d6_28 i3 30 rfl rfl ?_
  refine step (T9.setTop (mkF m 31 #[vr o1, vi 3, vr o2, vi 3, vi 7, vi 3, vi i3] [(.int (i3.toInt8.toInt32)), (.int 3), (.ref o2)])) (fun t k => XS.i2b X9.here hx rfl (hb hby d6_30) rfl k) ?_
  obtain ⟨cl13, Ar13, q13, S13, N13n, H13, G13⟩ := id V9
  have hin13 : ¬ ((3 : Int32) < 0 ∨ cl13.slots.size ≤ ((3 : Int32)).toNatClampNeg) := inb_of S13 ⟨by decide, by decide⟩
  obtain ⟨T13, h13, X13, e13, W13, st13⟩ := stB X9 hx hZ e9 Ar13 (j := (3 : Int32)) hin13 (g := (mkF m 31 #[vr o1, vi 3, vr o2, vi 3, vi 7, vi 3, vi i3] [(.int (i3.toInt8.toInt32)), (.int 3), (.ref o2)])) rfl rfl (hb hby d6_31)
  have N13 := Fr.snoc X13 N9 gn_o2
  have K13 : Keep h0 h13 [o2] := K9.wr W13 (Or.inl (List.mem_of_getElem? (i := 0) rfl))
  have V13 : Arv Z h13 o2 kc5 .byte (7 : Int32) [(.int (nar .byte (i2.toInt8.toInt32))), (.int 58), (.int 123), (.int (nar .byte (i3.toInt8.toInt32))), (.int 0), (.int 0), (.int 0)] (.int 0) := Arv.set Ar13 q13 S13 N13n H13 G13 (fits_nar_byte (i3.toInt8.toInt32)) W13 3 rfl (Nat.le_of_ble_eq_true rfl)
  refine step (T13.setTop (mkF m 32 #[vr o1, vi 3, vr o2, vi 3, vi 7, vi 3, vi i3] [])) (fun t k => st13 t k) ?_
  refine oii KK X13 d6_32 #[vr o1, vi 4, vr o2, vi 3, vi 7, vi 3, vi i3] 35 rfl rfl rfl ?_
  refine oii KK X13 d6_35 #[vr o1, vi 4, vr o2, vi 4, vi 7, vi 3, vi i3] 38 rfl rfl rfl ?_
  refine oii KK X13 d6_38 #[vr o1, vi 4, vr o2, vi 4, vi 7, vi 4, vi i3] 41 rfl rfl rfl ?_
  refine ogo KK X13 d6_41 3 (by decide) rfl ?_
  refine oiL KK X13 d6_3 (4 : Int32) 5 rfl rfl ?_
  refine oiL KK X13 d6_5 (7 : Int32) 7 rfl rfl ?_
  refine oin KK X13 d6_7 10 rfl (tlt (by decide : (4 : Int32) < (7 : Int32))).2.1 ?_
  refine oal KK X13 d6_10 (.ref o1) 11 rfl rfl rfl ?_
  refine oil KK X13 d6_11 (4 : Int32) 12 rfl rfl ?_
  have f14 := (f10.other W13 ne_o1_o2)
  obtain ⟨cl15, Ar15, q15, S15, N15n, H15, G15⟩ := id f14
  have hin15 : ¬ ((4 : Int32) < 0 ∨ cl15.slots.size ≤ ((4 : Int32)).toNatClampNeg) := inb_of S15 ⟨by decide, by decide⟩
  have hat15 : cl15.slots[((4 : Int32)).toNatClampNeg]? = some (.int 125) := H15.at hin15 rfl
  refine step (T13.setTop (mkF m 13 #[vr o1, vi 4, vr o2, vi 4, vi 7, vi 4, vi i3] [(.int 125)])) (fun t k => X13.caload hx (j := (4 : Int32)) (v := (.int 125)) (by rw [e13]; exact Ar15.1) (State.isArrayOf_alike hZ.alike Ar15.2.1) Ar15.2.2 hin15 hat15 (g := (mkF m 12 #[vr o1, vi 4, vr o2, vi 4, vi 7, vi 4, vi i3] [(.int 4), (.ref o1)])) rfl rfl (hb hby d6_12) t k) ?_
  refine oiS KK X13 d6_13 #[vr o1, vi 4, vr o2, vi 4, vi 7, vi 4, vi 125] 15 rfl rfl ?_
  refine oiL KK X13 d6_15 (125 : Int32) 17 rfl rfl ?_
  refine osi KK X13 d6_17 255 20 rfl rfl ?_
  refine oiy KK X13 d6_20 26 (flt (by decide : ¬ ((255 : Int32) < (125 : Int32)))).2.2.2 (by decide) rfl ?_
  refine oal KK X13 d6_26 (.ref o2) 27 rfl rfl rfl ?_
  refine oil KK X13 d6_27 (4 : Int32) 28 rfl rfl ?_
  refine oiL KK X13 d6_28 (125 : Int32) 30 rfl rfl ?_
  refine step (T13.setTop (mkF m 31 #[vr o1, vi 4, vr o2, vi 4, vi 7, vi 4, vi 125] [(.int 125), (.int 4), (.ref o2)])) (fun t k => XS.i2b X13.here hx rfl (hb hby d6_30) rfl k) ?_
  obtain ⟨cl16, Ar16, q16, S16, N16n, H16, G16⟩ := id V13
  have hin16 : ¬ ((4 : Int32) < 0 ∨ cl16.slots.size ≤ ((4 : Int32)).toNatClampNeg) := inb_of S16 ⟨by decide, by decide⟩
  obtain ⟨T16, h16, X16, e16, W16, st16⟩ := stB X13 hx hZ e13 Ar16 (j := (4 : Int32)) hin16 (g := (mkF m 31 #[vr o1, vi 4, vr o2, vi 4, vi 7, vi 4, vi 125] [(.int 125), (.int 4), (.ref o2)])) rfl rfl (hb hby d6_31)
  have N16 := Fr.snoc X16 N13 gn_o2
  have K16 : Keep h0 h16 [o2] := K13.wr W16 (Or.inl (List.mem_of_getElem? (i := 0) rfl))
  have V16 : Arv Z h16 o2 kc5 .byte (7 : Int32) [(.int (nar .byte (i2.toInt8.toInt32))), (.int 58), (.int 123), (.int (nar .byte (i3.toInt8.toInt32))), (.int 125), (.int 0), (.int 0)] (.int 0) := Arv.set Ar16 q16 S16 N16n H16 G16 (fits_nar_byte (125 : Int32)) W16 4 rfl (Nat.le_of_ble_eq_true rfl)
  refine step (T16.setTop (mkF m 32 #[vr o1, vi 4, vr o2, vi 4, vi 7, vi 4, vi 125] [])) (fun t k => st16 t k) ?_
  refine oii KK X16 d6_32 #[vr o1, vi 5, vr o2, vi 4, vi 7, vi 4, vi 125] 35 rfl rfl rfl ?_
  refine oii KK X16 d6_35 #[vr o1, vi 5, vr o2, vi 5, vi 7, vi 4, vi 125] 38 rfl rfl rfl ?_
  refine oii KK X16 d6_38 #[vr o1, vi 5, vr o2, vi 5, vi 7, vi 5, vi 125] 41 rfl rfl rfl ?_
  refine ogo KK X16 d6_41 3 (by decide) rfl ?_
  refine oiL KK X16 d6_3 (5 : Int32) 5 rfl rfl ?_
  refine oiL KK X16 d6_5 (7 : Int32) 7 rfl rfl ?_
  refine oin KK X16 d6_7 10 rfl (tlt (by decide : (5 : Int32) < (7 : Int32))).2.1 ?_
  refine oal KK X16 d6_10 (.ref o1) 11 rfl rfl rfl ?_
  refine oil KK X16 d6_11 (5 : Int32) 12 rfl rfl ?_
  have f17 := (f14.other W16 ne_o1_o2)
  obtain ⟨cl18, Ar18, q18, S18, N18n, H18, G18⟩ := id f17
  have hin18 : ¬ ((5 : Int32) < 0 ∨ cl18.slots.size ≤ ((5 : Int32)).toNatClampNeg) := inb_of S18 ⟨by decide, by decide⟩
  have hat18 : cl18.slots[((5 : Int32)).toNatClampNeg]? = some (.int 58) := H18.at hin18 rfl
  refine step (T16.setTop (mkF m 13 #[vr o1, vi 5, vr o2, vi 5, vi 7, vi 5, vi 125] [(.int 58)])) (fun t k => X16.caload hx (j := (5 : Int32)) (v := (.int 58)) (by rw [e16]; exact Ar18.1) (State.isArrayOf_alike hZ.alike Ar18.2.1) Ar18.2.2 hin18 hat18 (g := (mkF m 12 #[vr o1, vi 5, vr o2, vi 5, vi 7, vi 5, vi 125] [(.int 5), (.ref o1)])) rfl rfl (hb hby d6_12) t k) ?_
  refine oiS KK X16 d6_13 #[vr o1, vi 5, vr o2, vi 5, vi 7, vi 5, vi 58] 15 rfl rfl ?_
  refine oiL KK X16 d6_15 (58 : Int32) 17 rfl rfl ?_
  refine osi KK X16 d6_17 255 20 rfl rfl ?_
  refine oiy KK X16 d6_20 26 (flt (by decide : ¬ ((255 : Int32) < (58 : Int32)))).2.2.2 (by decide) rfl ?_
  refine oal KK X16 d6_26 (.ref o2) 27 rfl rfl rfl ?_
  refine oil KK X16 d6_27 (5 : Int32) 28 rfl rfl ?_
  refine oiL KK X16 d6_28 (58 : Int32) 30 rfl rfl ?_
  refine step (T16.setTop (mkF m 31 #[vr o1, vi 5, vr o2, vi 5, vi 7, vi 5, vi 58] [(.int 58), (.int 5), (.ref o2)])) (fun t k => XS.i2b X16.here hx rfl (hb hby d6_30) rfl k) ?_
  obtain ⟨cl19, Ar19, q19, S19, N19n, H19, G19⟩ := id V16
  have hin19 : ¬ ((5 : Int32) < 0 ∨ cl19.slots.size ≤ ((5 : Int32)).toNatClampNeg) := inb_of S19 ⟨by decide, by decide⟩
  obtain ⟨T19, h19, X19, e19, W19, st19⟩ := stB X16 hx hZ e16 Ar19 (j := (5 : Int32)) hin19 (g := (mkF m 31 #[vr o1, vi 5, vr o2, vi 5, vi 7, vi 5, vi 58] [(.int 58), (.int 5), (.ref o2)])) rfl rfl (hb hby d6_31)
  have N19 := Fr.snoc X19 N16 gn_o2
  have K19 : Keep h0 h19 [o2] := K16.wr W19 (Or.inl (List.mem_of_getElem? (i := 0) rfl))
  have V19 : Arv Z h19 o2 kc5 .byte (7 : Int32) [(.int (nar .byte (i2.toInt8.toInt32))), (.int 58), (.int 123), (.int (nar .byte (i3.toInt8.toInt32))), (.int 125), (.int 58), (.int 0)] (.int 0) := Arv.set Ar19 q19 S19 N19n H19 G19 (fits_nar_byte (58 : Int32)) W19 5 rfl (Nat.le_of_ble_eq_true rfl)
  refine step (T19.setTop (mkF m 32 #[vr o1, vi 5, vr o2, vi 5, vi 7, vi 5, vi 58] [])) (fun t k => st19 t k) ?_
  refine oii KK X19 d6_32 #[vr o1, vi 6, vr o2, vi 5, vi 7, vi 5, vi 58] 35 rfl rfl rfl ?_
  refine oii KK X19 d6_35 #[vr o1, vi 6, vr o2, vi 6, vi 7, vi 5, vi 58] 38 rfl rfl rfl ?_
  refine oii KK X19 d6_38 #[vr o1, vi 6, vr o2, vi 6, vi 7, vi 6, vi 58] 41 rfl rfl rfl ?_
  refine ogo KK X19 d6_41 3 (by decide) rfl ?_
  refine oiL KK X19 d6_3 (6 : Int32) 5 rfl rfl ?_
  refine oiL KK X19 d6_5 (7 : Int32) 7 rfl rfl ?_
  refine oin KK X19 d6_7 10 rfl (tlt (by decide : (6 : Int32) < (7 : Int32))).2.1 ?_
  refine oal KK X19 d6_10 (.ref o1) 11 rfl rfl rfl ?_
  refine oil KK X19 d6_11 (6 : Int32) 12 rfl rfl ?_
  have f20 := (f17.other W19 ne_o1_o2)
  obtain ⟨cl21, Ar21, q21, S21, N21n, H21, G21⟩ := id f20
  have hin21 : ¬ ((6 : Int32) < 0 ∨ cl21.slots.size ≤ ((6 : Int32)).toNatClampNeg) := inb_of S21 ⟨by decide, by decide⟩
  have hat21 : cl21.slots[((6 : Int32)).toNatClampNeg]? = some (.int i4) := H21.at hin21 rfl
  refine step (T19.setTop (mkF m 13 #[vr o1, vi 6, vr o2, vi 6, vi 7, vi 6, vi 58] [(.int i4)])) (fun t k => X19.caload hx (j := (6 : Int32)) (v := (.int i4)) (by rw [e19]; exact Ar21.1) (State.isArrayOf_alike hZ.alike Ar21.2.1) Ar21.2.2 hin21 hat21 (g := (mkF m 12 #[vr o1, vi 6, vr o2, vi 6, vi 7, vi 6, vi 58] [(.int 6), (.ref o1)])) rfl rfl (hb hby d6_12) t k) ?_
  refine oiS KK X19 d6_13 #[vr o1, vi 6, vr o2, vi 6, vi 7, vi 6, vi i4] 15 rfl rfl ?_
  refine oiL KK X19 d6_15 i4 17 rfl rfl ?_
  refine osi KK X19 d6_17 255 20 rfl rfl ?_
  have hc20_22 : ¬ ((255 : Int32) < i4) := hy7
  refine oiy KK X19 d6_20 26 (flt hc20_22).2.2.2 (by decide) rfl ?_
  refine oal KK X19 d6_26 (.ref o2) 27 rfl rfl rfl ?_
  refine oil KK X19 d6_27 (6 : Int32) 28 rfl rfl ?_
  refine oiL KK X19 d6_28 i4 30 rfl rfl ?_
  refine step (T19.setTop (mkF m 31 #[vr o1, vi 6, vr o2, vi 6, vi 7, vi 6, vi i4] [(.int (i4.toInt8.toInt32)), (.int 6), (.ref o2)])) (fun t k => XS.i2b X19.here hx rfl (hb hby d6_30) rfl k) ?_
  obtain ⟨cl23, Ar23, q23, S23, N23n, H23, G23⟩ := id V19
  have hin23 : ¬ ((6 : Int32) < 0 ∨ cl23.slots.size ≤ ((6 : Int32)).toNatClampNeg) := inb_of S23 ⟨by decide, by decide⟩
  obtain ⟨T23, h23, X23, e23, W23, st23⟩ := stB X19 hx hZ e19 Ar23 (j := (6 : Int32)) hin23 (g := (mkF m 31 #[vr o1, vi 6, vr o2, vi 6, vi 7, vi 6, vi i4] [(.int (i4.toInt8.toInt32)), (.int 6), (.ref o2)])) rfl rfl (hb hby d6_31)
  have N23 := Fr.snoc X23 N19 gn_o2
  have K23 : Keep h0 h23 [o2] := K19.wr W23 (Or.inl (List.mem_of_getElem? (i := 0) rfl))
  have V23 : Arv Z h23 o2 kc5 .byte (7 : Int32) [(.int (nar .byte (i2.toInt8.toInt32))), (.int 58), (.int 123), (.int (nar .byte (i3.toInt8.toInt32))), (.int 125), (.int 58), (.int (nar .byte (i4.toInt8.toInt32)))] (.int 0) := Arv.set Ar23 q23 S23 N23n H23 G23 (fits_nar_byte (i4.toInt8.toInt32)) W23 6 rfl (Nat.le_of_ble_eq_true rfl)
  refine step (T23.setTop (mkF m 32 #[vr o1, vi 6, vr o2, vi 6, vi 7, vi 6, vi i4] [])) (fun t k => st23 t k) ?_
  refine oii KK X23 d6_32 #[vr o1, vi 7, vr o2, vi 6, vi 7, vi 6, vi i4] 35 rfl rfl rfl ?_
  refine oii KK X23 d6_35 #[vr o1, vi 7, vr o2, vi 7, vi 7, vi 6, vi i4] 38 rfl rfl rfl ?_
  refine oii KK X23 d6_38 #[vr o1, vi 7, vr o2, vi 7, vi 7, vi 7, vi i4] 41 rfl rfl rfl ?_
  refine ogo KK X23 d6_41 3 (by decide) rfl ?_
  refine oiL KK X23 d6_3 (7 : Int32) 5 rfl rfl ?_
  refine oiL KK X23 d6_5 (7 : Int32) 7 rfl rfl ?_
  refine oiy KK X23 d6_7 44 (flt (by decide : ¬ ((7 : Int32) < (7 : Int32)))).2.1 (by decide) rfl ?_
  refine oiL KK X23 d6_44 (7 : Int32) 46 rfl rfl ?_
  refine fin (v := some (.int 7)) X23 (fun h => by cases h) ?_ (by decide) (by decide) (fun fs hr => retI X23 hx hret (hb hby d6_46) hr)
  show Q6_67 Z o1 o2 kc1 i2 i3 i4 kc5 h0 n0 (some (.int 7)) T23.heap _
  rw [e23]
  exact ⟨rfl, N23, K23, V23⟩
theorem ef_5_66 (m : MethodId) (x0 : Addr) : entryFrame m #[(.ref x0), (.int 0), (.int 7)] 6 = mkF m 0 #[.val (.ref x0), .val (.int 0), .val (.int 7), .unset, .unset, .unset] [] := by first | (simp [entryFrame, mkF, argsToLocals, Value.category]; done) | rfl
def Q5_66 (Z : State) (o1 : Addr) (kc1 : ClassId) (i2 : Int32) (i3 : Int32) (i4 : Int32) (h0 : Heap) (n0 : Nat) (v : Option Value) (h : Heap) (L : List Loc) : Prop := ∃ (b1 : Addr) (k1 : ClassId), v = some (.ref b1) ∧ Fr n0 L ∧ Keep h0 h [] ∧ h0.size ≤ b1 ∧ Arv Z h b1 k1 .byte (7 : Int32) [(.int (nar .byte (i2.toInt8.toInt32))), (.int 58), (.int 123), (.int (nar .byte (i3.toInt8.toInt32))), (.int 125), (.int 58), (.int (nar .byte (i4.toInt8.toInt32)))] (.int 0)
set_option maxRecDepth 65536 in
set_option maxHeartbeats 40000000 in
theorem rm5_66 (l : Launch) (Z : State) (a0 : Array Value) (hw : ∀ d ∈ tables_1, d.before a0 Z = true) (ws : List Jvm.Cond) (o1 : Addr) (kc1 : ClassId) (i2 : Int32) (i3 : Int32) (i4 : Int32) (h0 : Heap) (n0 : Nat) (Z0 : n0 ≤ h0.size) (Pm0 : Arv Z h0 o1 kc1 .char (7 : Int32) [(.int i2), (.int 58), (.int 123), (.int i3), (.int 125), (.int 58), (.int i4)] (.int 0)) (gn_o1 : n0 ≤ o1) (hy2 : ¬ ((255 : Int32) < i2)) (hy3 : ¬ ((255 : Int32) < i3)) (hy4 : ¬ ((255 : Int32) < i4))  :
    OwnM l Z nM2 jdk_52_method_16_code 6 (some (.array .byte)) ws ({ frames := 1, cells := 1, slots := 7, locals := 18 } : Room) #[(.ref o1), (.int 0), (.int 7)] h0 (Q5_66 Z o1 kc1 i2 i3 i4 h0 n0) := by
  refine own_body (plainFor_of_name pn_2) ?_
  intro p e s m below meth c s₁ G hx hby hml hZ hown hnm hret X0 e0 step fin
  replace hown : s.vm.findClass "java/lang/StringUTF16" = some m.cls := hown
  have N0 := Fr.nil n0
  have KK : OwnK p e below c _ G := ⟨step, hx, hby⟩
  refine step (s₁.setTop (mkF m 0 #[vr o1, vi 0, vi 7, .unset, .unset, .unset] [])) (fun t k => castTop (ef_5_66 m o1) k) ?_
  refine oil KK X0 d5_0 (7 : Int32) 1 rfl rfl ?_
  obtain ⟨T1, h1, k1, X1, e1, E1, A1, st1⟩ := newP X0 hx hZ (ow hw 23 rfl) e0 (g := (mkF m 1 #[vr o1, vi 0, vi 7, .unset, .unset, .unset] [(.int 7)])) rfl (hb hby d5_1) rfl (by decide) (cap := 7) (by decide) (by decide) (by decide) (by decide)
  obtain ⟨b1, g1⟩ : ∃ z, z = h0.size := ⟨_, rfl⟩
  rw [← g1] at A1 st1
  have ne_o1_b1 : o1 ≠ b1 := Nat.ne_of_lt (Nat.lt_of_lt_of_le Pm0.lt (Nat.le_of_eq g1.symm))
  have gn_b1 : n0 ≤ b1 := Nat.le_trans Z0 (Nat.le_of_eq g1.symm)
  have sz_b1 : h0.size ≤ b1 := Nat.le_of_eq g1.symm
  have K1 : Keep h0 h1 [] := (Keep.refl h0 []).ext E1
  have V1 : Arv Z h1 b1 k1 .byte (7 : Int32) [(.int 0), (.int 0), (.int 0), (.int 0), (.int 0), (.int 0), (.int 0)] (.int 0) := (Arv.new A1 (by decide)).pad (pad_rep [] (.int 0) 7)
  refine step (T1.setTop (mkF m 3 #[vr o1, vi 0, vi 7, .unset, .unset, .unset] [(.ref b1)])) (fun t k => st1 t k) ?_
  refine step (T1.setTop (mkF m 4 #[vr o1, vi 0, vi 7, vr b1, .unset, .unset] [])) (fun t k => XS.astoreN X1.here hx rfl (hb hby d5_3) rfl rfl (l' := #[vr o1, vi 0, vi 7, vr b1, .unset, .unset]) rfl k) ?_
  refine oal KK X1 d5_4 (.ref o1) 5 rfl rfl rfl ?_
  refine oil KK X1 d5_5 (0 : Int32) 6 rfl rfl ?_
  refine oal KK X1 d5_6 (.ref b1) 7 rfl rfl rfl ?_
  refine oic KK X1 d5_7 0 8 rfl rfl ?_
  refine oil KK X1 d5_8 (7 : Int32) 9 rfl rfl ?_
  have f2 := (Pm0.ext E1)
  obtain ⟨_, _, ⟨T3, L3, k3, n3⟩, -, X3, ⟨Lc3, hQ3, l3, y3, z3⟩, st3⟩ := Jvm.LawKit.callS X1 hx (y := nM1) hown (mvT hZ (ow hw 24 rfl)) (mvT hZ (ow hw 25 rfl)) (mvT hZ (ow hw 21 rfl)) (mvT hZ (ow hw 26 rfl)) (by decide) (backOf (W := 0) (rm6_67 l Z a0 hw [] o1 b1 kc1 i2 i3 i4 k1 h1 n0 (Nat.le_trans Z0 K1.1) f2 V1 gn_o1 ne_o1_b1 gn_b1 hy2 hy3 hy4) hZ (ow hw 26 rfl) (ow hw 21 rfl) (by decide) (by decide)) (g := (mkF m 9 #[vr o1, vi 0, vi 7, vr b1, .unset, .unset] [(.int 7), (.int 0), (.ref b1), (.int 0), (.ref o1)])) rfl (by rw [hml]; rfl) (argsL := [(.ref o1), (.int 0), (.ref b1), (.int 0), (.int 7)]) (rest := []) (lenOf pd_10 rfl) rfl (omw rfl rfl) (hb hby d5_9) (fun _ _ => ⟨rfl, e1, (by decide : 1 + 0 ≤ _), (by decide : 7 + 0 ≤ _)⟩)
  dsimp only [Pt.U, Pt.locs, Pt.cells, Pt.slots] at X3 l3 y3 z3 st3 hQ3
  subst l3 y3 z3
  obtain ⟨h3, e3⟩ : ∃ z, T3.heap = z := ⟨_, rfl⟩
  rw [e3] at hQ3
  obtain ⟨rfl, N3q, K3q, q0_3⟩ := hQ3
  have N3 := Fr.app N0 N3q
  have K3 : Keep h0 h3 [] := K1.trans K3q (allS (Or.inr sz_b1) all0)
  refine step (T3.setTop (mkF m 12 #[vr o1, vi 0, vi 7, vr b1, .unset, .unset] [(.int 7)])) (fun t k => st3 t k) ?_
  refine oiS KK X3 d5_12 #[vr o1, vi 0, vi 7, vr b1, vi 7, .unset] 14 rfl rfl ?_
  refine oiL KK X3 d5_14 (7 : Int32) 16 rfl rfl ?_
  refine oil KK X3 d5_16 (7 : Int32) 17 rfl rfl ?_
  refine oiy KK X3 d5_17 57 (teq (by decide : (7 : Int32) = (7 : Int32))).1 (by decide) rfl ?_
  refine oal KK X3 d5_57 (.ref b1) 58 rfl rfl rfl ?_
  refine fin (v := some (.ref b1)) X3 (fun h => by cases h) ?_ (by decide) (by decide) (fun fs hr => X3.areturnOut hx rfl hret rfl (hb hby d5_58) hr)
  show Q5_66 Z o1 kc1 i2 i3 i4 h0 n0 (some (.ref b1)) T3.heap _
  rw [e3]
  exact ⟨b1, k1, rfl, N3, K3, sz_b1, q0_3⟩
theorem ef_7_68 (m : MethodId) (x0 : Addr) : entryFrame m #[(.ref x0), (.int 7)] 2 = mkF m 0 #[.val (.ref x0), .val (.int 7)] [] := by first | (simp [entryFrame, mkF, argsToLocals, Value.category]; done) | rfl
def Q7_68 (Z : State) (o1 : Addr) (kc1 : ClassId) (i2 : Int32) (i3 : Int32) (i4 : Int32) (h0 : Heap) (n0 : Nat) (v : Option Value) (h : Heap) (L : List Loc) : Prop := v = some (.int 0) ∧ Fr n0 L ∧ h = h0
set_option maxRecDepth 65536 in
set_option maxHeartbeats 40000000 in
theorem rm7_68 (l : Launch) (Z : State) (a0 : Array Value) (hw : ∀ d ∈ tables_1, d.before a0 Z = true) (ws : List Jvm.Cond) (o1 : Addr) (kc1 : ClassId) (i2 : Int32) (i3 : Int32) (i4 : Int32) (h0 : Heap) (n0 : Nat) (Z0 : n0 ≤ h0.size) (Pm0 : Arv Z h0 o1 kc1 .byte (7 : Int32) [(.int i2), (.int 58), (.int 123), (.int i3), (.int 125), (.int 58), (.int i4)] (.int 0)) (gn_o1 : n0 ≤ o1)  :
    OwnM l Z nM3 jdk_52_method_15_code 2 (some .byte) ws ({ frames := 0, cells := 0, slots := 0, locals := 0 } : Room) #[(.ref o1), (.int 7)] h0 (Q7_68 Z o1 kc1 i2 i3 i4 h0 n0) := by
  refine own_body (plainFor_of_name pn_2) ?_
  intro p e s m below meth c s₁ G hx hby hml hZ hown hnm hret X0 e0 step fin
  replace hown : s.vm.findClass "java/lang/StringUTF16" = some m.cls := hown
  have N0 := Fr.nil n0
  have KK : OwnK p e below c _ G := ⟨step, hx, hby⟩
  refine step (s₁.setTop (mkF m 0 #[vr o1, vi 7] [])) (fun t k => castTop (ef_7_68 m o1) k) ?_
  refine oil KK X0 d7_0 (7 : Int32) 1 rfl rfl ?_
  refine oal KK X0 d7_1 (.ref o1) 2 rfl rfl rfl ?_
  obtain ⟨cl1, Ar1, q1, S1, N1n, H1, G1⟩ := id Pm0
  refine step (s₁.setTop (mkF m 3 #[vr o1, vi 7] [(.int 7), (.int 7)])) (fun t k => X0.arraylength hx (by rw [e0]; exact Ar1.1) (State.isArrayOf_alike hZ.alike Ar1.2.1) (g := (mkF m 2 #[vr o1, vi 7] [(.ref o1), (.int 7)])) rfl rfl (hb hby d7_2) t (by rw [len_of S1 N1n]; exact k)) ?_
  refine step (s₁.setTop (mkF m 4 #[vr o1, vi 7] [(.int 0)])) (fun t k => XS.isub X0.here hx rfl (hb hby d7_3) rfl k) ?_
  refine obi KK X0 d7_4 31 6 rfl rfl ?_
  refine step (s₁.setTop (mkF m 7 #[vr o1, vi 7] [(.int 0)])) (fun t k => XS.iushr X0.here hx rfl (hb hby d7_6) rfl k) ?_
  refine step (s₁.setTop (mkF m 8 #[vr o1, vi 7] [(.int 0)])) (fun t k => XS.i2b X0.here hx rfl (hb hby d7_7) rfl k) ?_
  refine fin (v := some (.int (nar .byte (0 : Int32)))) X0 (fun h => by cases h) ?_ (by decide) (by decide) (fun fs hr => retN X0 hx (t := .byte) hret (by simp) (hb hby d7_8) hr)
  show Q7_68 Z o1 kc1 i2 i3 i4 h0 n0 (some (.int (nar .byte (0 : Int32)))) s₁.heap _
  rw [e0]
  exact ⟨rfl, N0, rfl⟩
theorem ef_3_65 (m : MethodId) (x0 : Addr) (x1 : Addr) : entryFrame m #[(.ref x0), (.ref x1), (.int 0), (.int 7), .null] 6 = mkF m 0 #[.val (.ref x0), .val (.ref x1), .val (.int 0), .val (.int 7), .val .null, .unset] [] := by first | (simp [entryFrame, mkF, argsToLocals, Value.category]; done) | rfl
def Q3_65 (Z : State) (o1 : Addr) (o2 : Addr) (i1 : Int32) (kc2 : ClassId) (i3 : Int32) (i4 : Int32) (i5 : Int32) (h0 : Heap) (n0 : Nat) (v : Option Value) (h : Heap) (L : List Loc) : Prop := ∃ (b1_4 : Addr) (k1_4 : ClassId), v = none ∧ Fr n0 L ∧ Keep h0 h [o1] ∧ h0.size ≤ b1_4 ∧ Fld Z h o1 "java/lang/String" "coder" "B" (.int 0) ∧ Fld Z h o1 "java/lang/String" "value" "[B" (.ref b1_4) ∧ Arv Z h b1_4 k1_4 .byte (7 : Int32) [(.int (nar .byte (i3.toInt8.toInt32))), (.int 58), (.int 123), (.int (nar .byte (i4.toInt8.toInt32))), (.int 125), (.int 58), (.int (nar .byte (i5.toInt8.toInt32)))] (.int 0)
set_option maxRecDepth 65536 in
set_option maxHeartbeats 40000000 in
theorem rm3_65 (l : Launch) (Z : State) (a0 : Array Value) (hw : ∀ d ∈ tables_1, d.before a0 Z = true) (ws : List Jvm.Cond) (o1 : Addr) (o2 : Addr) (i1 : Int32) (kc2 : ClassId) (i3 : Int32) (i4 : Int32) (i5 : Int32) (h0 : Heap) (n0 : Nat) (Z0 : n0 ≤ h0.size) (S0 : Sta Z h0 "java/lang/String" "COMPACT_STRINGS" "Z" (.int i1)) (Pm1 : Exa Z h0 o1 "java/lang/String") (Pm2 : Fld Z h0 o1 "java/lang/String" "coder" "B" (.int 0)) (Pm3 : Fld Z h0 o1 "java/lang/String" "value" "[B" .null) (Pm4 : Arv Z h0 o2 kc2 .char (7 : Int32) [(.int i3), (.int 58), (.int 123), (.int i4), (.int 125), (.int 58), (.int i5)] (.int 0)) (gn_o1 : n0 ≤ o1) (ne_o1_o2 : o1 ≠ o2) (gn_o2 : n0 ≤ o2) (hy8 : ¬ ((255 : Int32) < i3)) (hy9 : ¬ ((255 : Int32) < i4)) (hy10 : ¬ ((255 : Int32) < i5)) (hy11 : ¬ (i1 = (0 : Int32)))  :
    OwnM l Z nM4 jdk_42_method_149_code 6 none ws ({ frames := 2, cells := 1, slots := 7, locals := 35 } : Room) #[(.ref o1), (.ref o2), (.int 0), (.int 7), .null] h0 (Q3_65 Z o1 o2 i1 kc2 i3 i4 i5 h0 n0) := by
  refine own_body (plainFor_of_name pn_1) ?_
  intro p e s m below meth c s₁ G hx hby hml hZ hown hnm hret X0 e0 step fin
  replace hown : s.vm.findClass "java/lang/String" = some m.cls := hown
  have N0 := Fr.nil n0
  have KK : OwnK p e below c _ G := ⟨step, hx, hby⟩
  refine step (s₁.setTop (mkF m 0 #[vr o1, vr o2, vi 0, vi 7, .val .null, .unset] [])) (fun t k => castTop (ef_3_65 m o1 o2) k) ?_
  refine oal KK X0 d3_0 (.ref o1) 1 rfl rfl rfl ?_
  obtain ⟨T1, X1, e1, st1⟩ := initO X0 hx hZ hown (ow hw 15 rfl) (ow hw 16 rfl) (ow hw 17 rfl) e0 (g := (mkF m 1 #[vr o1, vr o2, vi 0, vi 7, .val .null, .unset] [(.ref o1)])) rfl (by rw [hml]; rfl) rfl (hb hby d3_1) (by decide) (W := 0) (omw rfl rfl) (by decide)
  refine step (T1.setTop (mkF m 4 #[vr o1, vr o2, vi 0, vi 7, .val .null, .unset] [])) (fun t k => st1 t k) ?_
  refine oil KK X1 d3_4 (7 : Int32) 5 rfl rfl ?_
  refine step (T1.setTop (mkF m 27 #[vr o1, vr o2, vi 0, vi 7, .val .null, .unset] [])) (fun t k => XS.ifYes X1.here hx rfl (pc0 := 5) (pc' := 27) rfl (hb hby d3_5) rfl ((if0 _ _).trans (feq (by decide : ¬ ((7 : Int32) = (0 : Int32)))).2) (by decide) (by decide) k) ?_
  obtain ⟨T2, X2, e2, st2⟩ := getS2 X1 hx hZ hown (host := "") (Or.inl (ow hw 18 rfl)) Via.refl e1 S0 (g := (mkF m 27 #[vr o1, vr o2, vi 0, vi 7, .val .null, .unset] [])) rfl (hb hby d3_27)
  refine step (T2.setTop (mkF m 30 #[vr o1, vr o2, vi 0, vi 7, .val .null, .unset] [(.int i1)])) (fun t k => st2 t k) ?_
  have hc30_3 : ¬ (i1 = (0 : Int32)) := hy11
  refine step (T2.setTop (mkF m 33 #[vr o1, vr o2, vi 0, vi 7, .val .null, .unset] [])) (fun t k => XS.ifNo X2.here hx rfl (hb hby d3_30) rfl ((if0 _ _).trans (feq hc30_3).1) k) ?_
  refine oal KK X2 d3_33 (.ref o2) 34 rfl rfl rfl ?_
  refine oil KK X2 d3_34 (0 : Int32) 35 rfl rfl ?_
  refine oil KK X2 d3_35 (7 : Int32) 36 rfl rfl ?_
  obtain ⟨_, _, ⟨T4, L4, k4, n4⟩, -, X4, ⟨Lc4, hQ4, l4, y4, z4⟩, st4⟩ := Jvm.LawKit.callS X2 hx (y := nM2) hown (mvT hZ (ow hw 19 rfl)) (mvT hZ (ow hw 20 rfl)) (mvT hZ (ow hw 21 rfl)) (mvT hZ (ow hw 22 rfl)) (by decide) (backOf (W := 0) (rm5_66 l Z a0 hw [] o2 kc2 i3 i4 i5 h0 n0 Z0 Pm4 gn_o2 hy8 hy9 hy10) hZ (ow hw 22 rfl) (ow hw 21 rfl) (by decide) (by decide)) (g := (mkF m 36 #[vr o1, vr o2, vi 0, vi 7, .val .null, .unset] [(.int 7), (.int 0), (.ref o2)])) rfl (by rw [hml]; rfl) (argsL := [(.ref o2), (.int 0), (.int 7)]) (rest := []) (lenOf pd_8 rfl) rfl (omw rfl rfl) (hb hby d3_36) (fun _ _ => ⟨rfl, e2, (by decide : 0 + 1 ≤ _), (by decide : 0 + 7 ≤ _)⟩)
  dsimp only [Pt.U, Pt.locs, Pt.cells, Pt.slots] at X4 l4 y4 z4 st4 hQ4
  subst l4 y4 z4
  obtain ⟨h4, e4⟩ : ∃ z, T4.heap = z := ⟨_, rfl⟩
  rw [e4] at hQ4
  obtain ⟨b1_4, k1_4, rfl, N4q, K4q, sz_b1_4, q0_4⟩ := hQ4
  have N4 := Fr.app N0 N4q
  have lt4_o1 := Pm1.lt
  have lt4_o2 := Pm4.lt
  have ne_o1_b1_4 : o1 ≠ b1_4 := Nat.ne_of_lt (Nat.lt_of_lt_of_le lt4_o1 sz_b1_4)
  have ne_o2_b1_4 : o2 ≠ b1_4 := Nat.ne_of_lt (Nat.lt_of_lt_of_le lt4_o2 sz_b1_4)
  have gn_b1_4 : n0 ≤ b1_4 := Nat.le_trans Z0 sz_b1_4
  have K4 : Keep h0 h4 [o1] := (Keep.refl h0 [o1]).trans K4q all0
  have f5 := own_staK S0 K4q all0
  refine step (T4.setTop (mkF m 39 #[vr o1, vr o2, vi 0, vi 7, .val .null, .unset] [(.ref b1_4)])) (fun t k => st4 t k) ?_
  refine step (T4.setTop (mkF m 41 #[vr o1, vr o2, vi 0, vi 7, .val .null, vr b1_4] [])) (fun t k => XS.astore X4.here hx rfl (hb hby d3_39) rfl rfl (l' := #[vr o1, vr o2, vi 0, vi 7, .val .null, vr b1_4]) rfl k) ?_
  refine oal KK X4 d3_41 (.ref o1) 42 rfl rfl rfl ?_
  refine oaL KK X4 d3_42 (.ref b1_4) 44 rfl rfl rfl ?_
  refine oil KK X4 d3_44 (7 : Int32) 45 rfl rfl ?_
  obtain ⟨_, _, ⟨T6, L6, k6, n6⟩, -, X6, ⟨Lc6, hQ6, l6, y6, z6⟩, st6⟩ := Jvm.LawKit.callS X4 hx (y := nM3) hown (mvT hZ (ow hw 27 rfl)) (mvT hZ (ow hw 28 rfl)) (mvT hZ (ow hw 21 rfl)) (mvT hZ (ow hw 29 rfl)) (by decide) (backOf (W := 1) (rm7_68 l Z a0 hw [] b1_4 k1_4 (nar .byte (i3.toInt8.toInt32)) (nar .byte (i4.toInt8.toInt32)) (nar .byte (i5.toInt8.toInt32)) h4 n0 (Nat.le_trans Z0 K4.1) q0_4 gn_b1_4) hZ (ow hw 29 rfl) (ow hw 21 rfl) (by decide) (by decide)) (g := (mkF m 45 #[vr o1, vr o2, vi 0, vi 7, .val .null, vr b1_4] [(.int 7), (.ref b1_4), (.ref o1)])) rfl (by rw [hml]; rfl) (argsL := [(.ref b1_4), (.int 7)]) (rest := [(.ref o1)]) (lenOf pd_9 rfl) rfl (omw rfl rfl) (hb hby d3_45) (fun _ _ => ⟨rfl, e4, (by decide : 1 + 0 ≤ _), (by decide : 7 + 0 ≤ _)⟩)
  dsimp only [Pt.U, Pt.locs, Pt.cells, Pt.slots] at X6 l6 y6 z6 st6 hQ6
  subst l6 y6 z6
  obtain ⟨rfl, N6q, e6q⟩ := hQ6
  have N6 := Fr.app N4 N6q
  refine step (T6.setTop (mkF m 48 #[vr o1, vr o2, vi 0, vi 7, .val .null, vr b1_4] [(.int 0), (.ref o1)])) (fun t k => st6 t k) ?_
  have f7 := (Pm1.keep K4q)
  have f8 := (Pm2.keep K4q nin0)
  obtain ⟨T9, h9, X9, e9, W9, st9⟩ := putFN X6 hx hZ hown (ow hw 30 rfl) Via.refl e6q f8 f7 (Or.inr ⟨(ow hw 31 rfl), rfl, hnm⟩) (ow hw 5 rfl) (ty := .byte) (v' := (.int 0)) (by decide) rfl (fits_nar_byte (0 : Int32)) (g := (mkF m 48 #[vr o1, vr o2, vi 0, vi 7, .val .null, vr b1_4] [(.int 0), (.ref o1)])) rfl rfl (hb hby d3_48)
  have N9 := Fr.snoc X9 N6 gn_o1
  have K9 : Keep h0 h9 [o1] := K4.wr W9 (Or.inl (List.mem_of_getElem? (i := 0) rfl))
  have F9 := f8.same W9
  refine step (T9.setTop (mkF m 51 #[vr o1, vr o2, vi 0, vi 7, .val .null, vr b1_4] [])) (fun t k => st9 t k) ?_
  refine oal KK X9 d3_51 (.ref o1) 52 rfl rfl rfl ?_
  refine oaL KK X9 d3_52 (.ref b1_4) 54 rfl rfl rfl ?_
  have f10 := (f7.wr W9)
  have f11 := ((Pm3.keep K4q nin0).other W9 (Or.inr (slot_ne (Or.inr (ow hw 33 rfl)) (Or.inr (ow hw 31 rfl)) (by decide) (t := (.array .byte)) (t' := .byte) (by decide) (by decide))))
  obtain ⟨T12, h12, X12, e12, W12, st12⟩ := putF X9 hx hZ hown (host := "") (Or.inl (ow hw 32 rfl)) Via.refl e9 f11 f10 (Or.inr ⟨(ow hw 33 rfl), rfl, hnm⟩) (ow hw 5 rfl) (ty := (.array .byte)) (by decide) rfl rfl (g := (mkF m 54 #[vr o1, vr o2, vi 0, vi 7, .val .null, vr b1_4] [(.ref b1_4), (.ref o1)])) rfl rfl (hb hby d3_54)
  have N12 := Fr.snoc X12 N9 gn_o1
  have K12 : Keep h0 h12 [o1] := K9.wr W12 (Or.inl (List.mem_of_getElem? (i := 0) rfl))
  have F12 := f11.same W12
  refine step (T12.setTop (mkF m 57 #[vr o1, vr o2, vi 0, vi 7, .val .null, vr b1_4] [])) (fun t k => st12 t k) ?_
  have f13 := (F9.other W12 (Or.inr (slot_ne (Or.inr (ow hw 31 rfl)) (Or.inr (ow hw 33 rfl)) (by decide) (t := .byte) (t' := (.array .byte)) (by decide) (by decide))))
  have f14 := ((q0_4.other W9 (Ne.symm ne_o1_b1_4)).other W12 (Ne.symm ne_o1_b1_4))
  refine fin (v := none) X12 (fun _ => rfl) ?_ (by decide) (by decide) (fun fs hr => X12.returnOut hx hret (hb hby d3_57) hr)
  show Q3_65 Z o1 o2 i1 kc2 i3 i4 i5 h0 n0 (none) T12.heap _
  rw [e12]
  exact ⟨b1_4, k1_4, rfl, N12, K12, sz_b1_4, f13, F12, f14⟩
def Q2_64 (Z : State) (o1 : Addr) (o2 : Addr) (i1 : Int32) (kc2 : ClassId) (i3 : Int32) (i4 : Int32) (i5 : Int32) (h0 : Heap) (n0 : Nat) (v : Option Value) (h : Heap) (L : List Loc) : Prop := ∃ (b1_4_2 : Addr) (k1_4_2 : ClassId), v = none ∧ Fr n0 L ∧ Keep h0 h [o1] ∧ h0.size ≤ b1_4_2 ∧ Fld Z h o1 "java/lang/String" "coder" "B" (.int 0) ∧ Fld Z h o1 "java/lang/String" "value" "[B" (.ref b1_4_2) ∧ Arv Z h b1_4_2 k1_4_2 .byte (7 : Int32) [(.int (nar .byte (i3.toInt8.toInt32))), (.int 58), (.int 123), (.int (nar .byte (i4.toInt8.toInt32))), (.int 125), (.int 58), (.int (nar .byte (i5.toInt8.toInt32)))] (.int 0)
set_option maxRecDepth 65536 in
set_option maxHeartbeats 40000000 in
theorem rm2_64 (l : Launch) (Z : State) (a0 : Array Value) (hw : ∀ d ∈ tables_1, d.before a0 Z = true) (ws : List Jvm.Cond) (o1 : Addr) (o2 : Addr) (i1 : Int32) (kc2 : ClassId) (i3 : Int32) (i4 : Int32) (i5 : Int32) (h0 : Heap) (n0 : Nat) (Z0 : n0 ≤ h0.size) (S0 : Sta Z h0 "java/lang/String" "COMPACT_STRINGS" "Z" (.int i1)) (Pm1 : Exa Z h0 o1 "java/lang/String") (Pm2 : Fld Z h0 o1 "java/lang/String" "coder" "B" (.int 0)) (Pm3 : Fld Z h0 o1 "java/lang/String" "value" "[B" .null) (Pm4 : Arv Z h0 o2 kc2 .char (7 : Int32) [(.int i3), (.int 58), (.int 123), (.int i4), (.int 125), (.int 58), (.int i5)] (.int 0)) (gn_o1 : n0 ≤ o1) (ne_o1_o2 : o1 ≠ o2) (gn_o2 : n0 ≤ o2) (hy8 : ¬ ((255 : Int32) < i3)) (hy9 : ¬ ((255 : Int32) < i4)) (hy10 : ¬ ((255 : Int32) < i5)) (hy11 : ¬ (i1 = (0 : Int32)))  :
    OwnM l Z nM5 jdk_42_method_3_code 2 none ws ({ frames := 3, cells := 1, slots := 7, locals := 52 } : Room) #[(.ref o1), (.ref o2)] h0 (Q2_64 Z o1 o2 i1 kc2 i3 i4 i5 h0 n0) := by
  refine own_body (plainFor_of_name pn_1) ?_
  intro p e s m below meth c s₁ G hx hby hml hZ hown hnm hret X0 e0 step fin
  replace hown : s.vm.findClass "java/lang/String" = some m.cls := hown
  have N0 := Fr.nil n0
  have KK : OwnK p e below c _ G := ⟨step, hx, hby⟩
  refine step (s₁.setTop (mkF m 0 #[vr o1, vr o2] [])) (fun t k => castTop (ef_2_2 m o1 o2) k) ?_
  refine oal KK X0 d2_0 (.ref o1) 1 rfl rfl rfl ?_
  refine oal KK X0 d2_1 (.ref o2) 2 rfl rfl rfl ?_
  refine oic KK X0 d2_2 0 3 rfl rfl ?_
  refine oal KK X0 d2_3 (.ref o2) 4 rfl rfl rfl ?_
  obtain ⟨cl1, Ar1, q1, S1, N1n, H1, G1⟩ := id Pm4
  refine step (s₁.setTop (mkF m 5 #[vr o1, vr o2] [(.int 7), (.int 0), (.ref o2), (.ref o1)])) (fun t k => X0.arraylength hx (by rw [e0]; exact Ar1.1) (State.isArrayOf_alike hZ.alike Ar1.2.1) (g := (mkF m 4 #[vr o1, vr o2] [(.ref o2), (.int 0), (.ref o2), (.ref o1)])) rfl rfl (hb hby d2_4) t (by rw [len_of S1 N1n]; exact k)) ?_
  refine step (s₁.setTop (mkF m 6 #[vr o1, vr o2] [.null, (.int 7), (.int 0), (.ref o2), (.ref o1)])) (fun t k => XS.aconstNull X0.here hx rfl (hb hby d2_5) k) ?_
  obtain ⟨_, _, ⟨T2, L2, k2, n2⟩, -, X2, ⟨Lc2, hQ2, l2, y2, z2⟩, st2⟩ := X0.specialBack hx (y := nM4) rfl hown (mvT hZ (ow hw 11 rfl)) (mvT hZ (ow hw 12 rfl)) (mvT hZ (ow hw 14 rfl)) (by decide) (backOf (W := 0) (rm3_65 l Z a0 hw [] o1 o2 i1 kc2 i3 i4 i5 h0 n0 Z0 S0 Pm1 Pm2 Pm3 Pm4 gn_o1 ne_o1_o2 gn_o2 hy8 hy9 hy10 hy11) hZ (ow hw 14 rfl) (ow hw 6 rfl) (by decide) (by decide)) (g := (mkF m 6 #[vr o1, vr o2] [.null, (.int 7), (.int 0), (.ref o2), (.ref o1)])) rfl (by rw [hml]; rfl) (Steps.refl _) (a := o1) (argsL := [(.ref o2), (.int 0), (.int 7), .null]) (rest := []) (lenOf pd_6 rfl) rfl (omw rfl rfl) (hb hby d2_6) (fun _ _ => ⟨rfl, e0, (by decide : 0 + 1 ≤ _), (by decide : 0 + 7 ≤ _)⟩)
  dsimp only [Pt.U, Pt.locs, Pt.cells, Pt.slots] at X2 l2 y2 z2 st2 hQ2
  subst l2 y2 z2
  obtain ⟨h2, e2⟩ : ∃ z, T2.heap = z := ⟨_, rfl⟩
  rw [e2] at hQ2
  obtain ⟨b1_4_2, k1_4_2, rfl, N2q, K2q, sz_b1_4_2, q0_2, q1_2, q2_2⟩ := hQ2
  have N2 := Fr.app N0 N2q
  have lt2_o1 := Pm1.lt
  have lt2_o2 := Pm4.lt
  have ne_o1_b1_4_2 : o1 ≠ b1_4_2 := Nat.ne_of_lt (Nat.lt_of_lt_of_le lt2_o1 sz_b1_4_2)
  have ne_o2_b1_4_2 : o2 ≠ b1_4_2 := Nat.ne_of_lt (Nat.lt_of_lt_of_le lt2_o2 sz_b1_4_2)
  have gn_b1_4_2 : n0 ≤ b1_4_2 := Nat.le_trans Z0 sz_b1_4_2
  have K2 : Keep h0 h2 [o1] := (Keep.refl h0 [o1]).trans K2q (allS (Or.inl (List.mem_of_getElem? (i := 0) rfl)) all0)
  have f3 := own_staK S0 K2q (allS (own_exaP Pm1) all0)
  refine step (T2.setTop (mkF m 9 #[vr o1, vr o2] [])) (fun t k => st2.trans k) ?_
  refine fin (v := none) X2 (fun _ => rfl) ?_ (by decide) (by decide) (fun fs hr => X2.returnOut hx hret (hb hby d2_9) hr)
  show Q2_64 Z o1 o2 i1 kc2 i3 i4 i5 h0 n0 (none) T2.heap _
  rw [e2]
  exact ⟨b1_4_2, k1_4_2, rfl, N2, K2, sz_b1_4_2, q0_2, q1_2, q2_2⟩
theorem d46_0 : decode jdk_42_method_66_code 0 = .ok (.aload_n 0, 1) := by decide +kernel
theorem d46_1 : decode jdk_42_method_66_code 1 = .ok (.aload_n 1, 1) := by decide +kernel
theorem d46_2 : decode jdk_42_method_66_code 2 = .ok (.if_acmp .ne 5, 3) := by decide +kernel
theorem d46_5 : decode jdk_42_method_66_code 5 = .ok (.iconst 1, 1) := by decide +kernel
theorem d46_6 : decode jdk_42_method_66_code 6 = .ok (.ireturn, 1) := by decide +kernel
theorem d46_7 : decode jdk_42_method_66_code 7 = .ok (.aload_n 1, 1) := by decide +kernel
theorem d46_8 : decode jdk_42_method_66_code 8 = .ok (.instanceof 10, 3) := by decide +kernel
theorem d46_11 : decode jdk_42_method_66_code 11 = .ok (.ifCond .eq 43, 3) := by decide +kernel
theorem d46_14 : decode jdk_42_method_66_code 14 = .ok (.aload_n 1, 1) := by decide +kernel
theorem d46_15 : decode jdk_42_method_66_code 15 = .ok (.checkcast 10, 3) := by decide +kernel
theorem d46_18 : decode jdk_42_method_66_code 18 = .ok (.astore_n 2, 1) := by decide +kernel
theorem d46_19 : decode jdk_42_method_66_code 19 = .ok (.getstatic 38, 3) := by decide +kernel
theorem d46_22 : decode jdk_42_method_66_code 22 = .ok (.ifCond .eq 14, 3) := by decide +kernel
theorem d46_25 : decode jdk_42_method_66_code 25 = .ok (.aload_n 0, 1) := by decide +kernel
theorem d46_26 : decode jdk_42_method_66_code 26 = .ok (.getfield 15, 3) := by decide +kernel
theorem d46_29 : decode jdk_42_method_66_code 29 = .ok (.aload_n 2, 1) := by decide +kernel
theorem d46_30 : decode jdk_42_method_66_code 30 = .ok (.getfield 15, 3) := by decide +kernel
theorem d46_33 : decode jdk_42_method_66_code 33 = .ok (.if_icmp .ne 21, 3) := by decide +kernel
theorem d46_36 : decode jdk_42_method_66_code 36 = .ok (.aload_n 0, 1) := by decide +kernel
theorem d46_37 : decode jdk_42_method_66_code 37 = .ok (.getfield 9, 3) := by decide +kernel
theorem d46_40 : decode jdk_42_method_66_code 40 = .ok (.aload_n 2, 1) := by decide +kernel
theorem d46_41 : decode jdk_42_method_66_code 41 = .ok (.getfield 9, 3) := by decide +kernel
theorem d46_44 : decode jdk_42_method_66_code 44 = .ok (.invokestatic 541, 3) := by decide +kernel
theorem d46_47 : decode jdk_42_method_66_code 47 = .ok (.ifCond .eq 7, 3) := by decide +kernel
theorem d46_50 : decode jdk_42_method_66_code 50 = .ok (.iconst 1, 1) := by decide +kernel
theorem d46_51 : decode jdk_42_method_66_code 51 = .ok (.goto 4, 3) := by decide +kernel
theorem d46_54 : decode jdk_42_method_66_code 54 = .ok (.iconst 0, 1) := by decide +kernel
theorem d46_55 : decode jdk_42_method_66_code 55 = .ok (.ireturn, 1) := by decide +kernel
theorem pd_35 : parseMethodDescriptor "([B[B)Z" = some ⟨[(.array .byte), (.array .byte)], some .boolean⟩ := by decide +kernel
theorem d47_0 : decode jdk_43_method_13_code 0 = .ok (.aload_n 0, 1) := by decide +kernel
theorem d47_1 : decode jdk_43_method_13_code 1 = .ok (.arraylength, 1) := by decide +kernel
theorem d47_2 : decode jdk_43_method_13_code 2 = .ok (.aload_n 1, 1) := by decide +kernel
theorem d47_3 : decode jdk_43_method_13_code 3 = .ok (.arraylength, 1) := by decide +kernel
theorem d47_4 : decode jdk_43_method_13_code 4 = .ok (.if_icmp .ne 30, 3) := by decide +kernel
theorem d47_7 : decode jdk_43_method_13_code 7 = .ok (.iconst 0, 1) := by decide +kernel
theorem d47_8 : decode jdk_43_method_13_code 8 = .ok (.istore_n 2, 1) := by decide +kernel
theorem d47_9 : decode jdk_43_method_13_code 9 = .ok (.iload_n 2, 1) := by decide +kernel
theorem d47_10 : decode jdk_43_method_13_code 10 = .ok (.aload_n 0, 1) := by decide +kernel
theorem d47_11 : decode jdk_43_method_13_code 11 = .ok (.arraylength, 1) := by decide +kernel
theorem d47_12 : decode jdk_43_method_13_code 12 = .ok (.if_icmp .ge 20, 3) := by decide +kernel
theorem d47_15 : decode jdk_43_method_13_code 15 = .ok (.aload_n 0, 1) := by decide +kernel
theorem d47_16 : decode jdk_43_method_13_code 16 = .ok (.iload_n 2, 1) := by decide +kernel
theorem d47_17 : decode jdk_43_method_13_code 17 = .ok (.baload, 1) := by decide +kernel
theorem d47_18 : decode jdk_43_method_13_code 18 = .ok (.aload_n 1, 1) := by decide +kernel
theorem d47_19 : decode jdk_43_method_13_code 19 = .ok (.iload_n 2, 1) := by decide +kernel
theorem d47_20 : decode jdk_43_method_13_code 20 = .ok (.baload, 1) := by decide +kernel
theorem d47_21 : decode jdk_43_method_13_code 21 = .ok (.if_icmp .eq 5, 3) := by decide +kernel
theorem d47_24 : decode jdk_43_method_13_code 24 = .ok (.iconst 0, 1) := by decide +kernel
theorem d47_25 : decode jdk_43_method_13_code 25 = .ok (.ireturn, 1) := by decide +kernel
theorem d47_26 : decode jdk_43_method_13_code 26 = .ok (.iinc 2 1, 3) := by decide +kernel
theorem d47_29 : decode jdk_43_method_13_code 29 = .ok (.goto (-20), 3) := by decide +kernel
theorem d47_32 : decode jdk_43_method_13_code 32 = .ok (.iconst 1, 1) := by decide +kernel
theorem d47_33 : decode jdk_43_method_13_code 33 = .ok (.ireturn, 1) := by decide +kernel
theorem d47_34 : decode jdk_43_method_13_code 34 = .ok (.iconst 0, 1) := by decide +kernel
theorem d47_35 : decode jdk_43_method_13_code 35 = .ok (.ireturn, 1) := by decide +kernel
def Q47_70 (Z : State) (o1 : Addr) (o2 : Addr) (kc1 : ClassId) (i2 : Int32) (i3 : Int32) (i4 : Int32) (kc5 : ClassId) (h0 : Heap) (n0 : Nat) (v : Option Value) (h : Heap) (L : List Loc) : Prop := v = some (.int 1) ∧ Fr n0 L ∧ h = h0
set_option maxRecDepth 65536 in
set_option maxHeartbeats 40000000 in
theorem rm47_70 (l : Launch) (Z : State) (a0 : Array Value) (hw : ∀ d ∈ tables_1, d.before a0 Z = true) (ws : List Jvm.Cond) (o1 : Addr) (o2 : Addr) (kc1 : ClassId) (i2 : Int32) (i3 : Int32) (i4 : Int32) (kc5 : ClassId) (h0 : Heap) (n0 : Nat) (Z0 : n0 ≤ h0.size) (Pm0 : Arv Z h0 o1 kc1 .byte (7 : Int32) [(.int i2), (.int 58), (.int 123), (.int i3), (.int 125), (.int 58), (.int i4)] (.int 0)) (Pm1 : Arv Z h0 o2 kc5 .byte (7 : Int32) [(.int i2), (.int 58), (.int 123), (.int i3), (.int 125), (.int 58), (.int i4)] (.int 0)) (gn_o1 : n0 ≤ o1) (ne_o1_o2 : o1 ≠ o2) (gn_o2 : n0 ≤ o2) (hy5 : ¬ (i2 = (123 : Int32))) (hy6 : ¬ (i2 = (125 : Int32))) (hy7 : ¬ (i3 = (123 : Int32))) (hy8 : ¬ (i3 = (125 : Int32))) (hy9 : ¬ (i4 = (123 : Int32))) (hy10 : ¬ (i4 = (125 : Int32)))  :
    OwnM l Z nM44 jdk_43_method_13_code 3 (some .boolean) ws ({ frames := 0, cells := 0, slots := 0, locals := 0 } : Room) #[(.ref o1), (.ref o2)] h0 (Q47_70 Z o1 o2 kc1 i2 i3 i4 kc5 h0 n0) := by
  refine own_body (plainFor_of_name pn_3) ?_
  intro p e s m below meth c s₁ G hx hby hml hZ hown hnm hret X0 e0 step fin
  replace hown : s.vm.findClass "java/lang/StringLatin1" = some m.cls := hown
  have N0 := Fr.nil n0
  have KK : OwnK p e below c _ G := ⟨step, hx, hby⟩
  refine step (s₁.setTop (mkF m 0 #[vr o1, vr o2, .unset] [])) (fun t k => castTop (ef_31_35 m o1 o2) k) ?_
  refine oal KK X0 d47_0 (.ref o1) 1 rfl rfl rfl ?_
  obtain ⟨cl1, Ar1, q1, S1, N1n, H1, G1⟩ := id Pm0
  refine step (s₁.setTop (mkF m 2 #[vr o1, vr o2, .unset] [(.int 7)])) (fun t k => X0.arraylength hx (by rw [e0]; exact Ar1.1) (State.isArrayOf_alike hZ.alike Ar1.2.1) (g := (mkF m 1 #[vr o1, vr o2, .unset] [(.ref o1)])) rfl rfl (hb hby d47_1) t (by rw [len_of S1 N1n]; exact k)) ?_
  refine oal KK X0 d47_2 (.ref o2) 3 rfl rfl rfl ?_
  obtain ⟨cl2, Ar2, q2, S2, N2n, H2, G2⟩ := id Pm1
  refine step (s₁.setTop (mkF m 4 #[vr o1, vr o2, .unset] [(.int 7), (.int 7)])) (fun t k => X0.arraylength hx (by rw [e0]; exact Ar2.1) (State.isArrayOf_alike hZ.alike Ar2.2.1) (g := (mkF m 3 #[vr o1, vr o2, .unset] [(.ref o2), (.int 7)])) rfl rfl (hb hby d47_3) t (by rw [len_of S2 N2n]; exact k)) ?_
  refine oin KK X0 d47_4 7 rfl (teq (by decide : (7 : Int32) = (7 : Int32))).2 ?_
  refine oic KK X0 d47_7 0 8 rfl rfl ?_
  refine ois KK X0 d47_8 #[vr o1, vr o2, vi 0] 9 rfl rfl ?_
  refine oil KK X0 d47_9 (0 : Int32) 10 rfl rfl ?_
  refine oal KK X0 d47_10 (.ref o1) 11 rfl rfl rfl ?_
  obtain ⟨cl3, Ar3, q3, S3, N3n, H3, G3⟩ := id Pm0
  refine step (s₁.setTop (mkF m 12 #[vr o1, vr o2, vi 0] [(.int 7), (.int 0)])) (fun t k => X0.arraylength hx (by rw [e0]; exact Ar3.1) (State.isArrayOf_alike hZ.alike Ar3.2.1) (g := (mkF m 11 #[vr o1, vr o2, vi 0] [(.ref o1), (.int 0)])) rfl rfl (hb hby d47_11) t (by rw [len_of S3 N3n]; exact k)) ?_
  refine oin KK X0 d47_12 15 rfl (tlt (by decide : (0 : Int32) < (7 : Int32))).2.1 ?_
  refine oal KK X0 d47_15 (.ref o1) 16 rfl rfl rfl ?_
  refine oil KK X0 d47_16 (0 : Int32) 17 rfl rfl ?_
  obtain ⟨cl4, Ar4, q4, S4, N4n, H4, G4⟩ := id Pm0
  have hin4 : ¬ ((0 : Int32) < 0 ∨ cl4.slots.size ≤ ((0 : Int32)).toNatClampNeg) := inb_of S4 ⟨by decide, by decide⟩
  have hat4 : cl4.slots[((0 : Int32)).toNatClampNeg]? = some (.int i2) := H4.at hin4 rfl
  refine step (s₁.setTop (mkF m 18 #[vr o1, vr o2, vi 0] [(.int i2)])) (fun t k => X0.baloadBytes hx (j := (0 : Int32)) (v := (.int i2)) (by rw [e0]; exact Ar4.1) (State.isArrayOf_alike hZ.alike Ar4.2.1) Ar4.2.2 hin4 hat4 (g := (mkF m 17 #[vr o1, vr o2, vi 0] [(.int 0), (.ref o1)])) rfl rfl (hb hby d47_17) t k) ?_
  refine oal KK X0 d47_18 (.ref o2) 19 rfl rfl rfl ?_
  refine oil KK X0 d47_19 (0 : Int32) 20 rfl rfl ?_
  obtain ⟨cl5, Ar5, q5, S5, N5n, H5, G5⟩ := id Pm1
  have hin5 : ¬ ((0 : Int32) < 0 ∨ cl5.slots.size ≤ ((0 : Int32)).toNatClampNeg) := inb_of S5 ⟨by decide, by decide⟩
  have hat5 : cl5.slots[((0 : Int32)).toNatClampNeg]? = some (.int i2) := H5.at hin5 rfl
  refine step (s₁.setTop (mkF m 21 #[vr o1, vr o2, vi 0] [(.int i2), (.int i2)])) (fun t k => X0.baloadBytes hx (j := (0 : Int32)) (v := (.int i2)) (by rw [e0]; exact Ar5.1) (State.isArrayOf_alike hZ.alike Ar5.2.1) Ar5.2.2 hin5 hat5 (g := (mkF m 20 #[vr o1, vr o2, vi 0] [(.int 0), (.ref o2), (.int i2)])) rfl rfl (hb hby d47_20) t k) ?_
  refine oiy KK X0 d47_21 26 (teq (rfl : i2 = i2)).1 (by decide) rfl ?_
  refine oii KK X0 d47_26 #[vr o1, vr o2, vi 1] 29 rfl rfl rfl ?_
  refine ogo KK X0 d47_29 9 (by decide) rfl ?_
  refine oil KK X0 d47_9 (1 : Int32) 10 rfl rfl ?_
  refine oal KK X0 d47_10 (.ref o1) 11 rfl rfl rfl ?_
  obtain ⟨cl6, Ar6, q6, S6, N6n, H6, G6⟩ := id Pm0
  refine step (s₁.setTop (mkF m 12 #[vr o1, vr o2, vi 1] [(.int 7), (.int 1)])) (fun t k => X0.arraylength hx (by rw [e0]; exact Ar6.1) (State.isArrayOf_alike hZ.alike Ar6.2.1) (g := (mkF m 11 #[vr o1, vr o2, vi 1] [(.ref o1), (.int 1)])) rfl rfl (hb hby d47_11) t (by rw [len_of S6 N6n]; exact k)) ?_
  refine oin KK X0 d47_12 15 rfl (tlt (by decide : (1 : Int32) < (7 : Int32))).2.1 ?_
  refine oal KK X0 d47_15 (.ref o1) 16 rfl rfl rfl ?_
  refine oil KK X0 d47_16 (1 : Int32) 17 rfl rfl ?_
  obtain ⟨cl7, Ar7, q7, S7, N7n, H7, G7⟩ := id Pm0
  have hin7 : ¬ ((1 : Int32) < 0 ∨ cl7.slots.size ≤ ((1 : Int32)).toNatClampNeg) := inb_of S7 ⟨by decide, by decide⟩
  have hat7 : cl7.slots[((1 : Int32)).toNatClampNeg]? = some (.int 58) := H7.at hin7 rfl
  refine step (s₁.setTop (mkF m 18 #[vr o1, vr o2, vi 1] [(.int 58)])) (fun t k => X0.baloadBytes hx (j := (1 : Int32)) (v := (.int 58)) (by rw [e0]; exact Ar7.1) (State.isArrayOf_alike hZ.alike Ar7.2.1) Ar7.2.2 hin7 hat7 (g := (mkF m 17 #[vr o1, vr o2, vi 1] [(.int 1), (.ref o1)])) rfl rfl (hb hby d47_17) t k) ?_
  refine oal KK X0 d47_18 (.ref o2) 19 rfl rfl rfl ?_
  refine oil KK X0 d47_19 (1 : Int32) 20 rfl rfl ?_
  obtain ⟨cl8, Ar8, q8, S8, N8n, H8, G8⟩ := id Pm1
  have hin8 : ¬ ((1 : Int32) < 0 ∨ cl8.slots.size ≤ ((1 : Int32)).toNatClampNeg) := inb_of S8 ⟨by decide, by decide⟩
  have hat8 : cl8.slots[((1 : Int32)).toNatClampNeg]? = some (.int 58) := H8.at hin8 rfl
  refine step (s₁.setTop (mkF m 21 #[vr o1, vr o2, vi 1] [(.int 58), (.int 58)])) (fun t k => X0.baloadBytes hx (j := (1 : Int32)) (v := (.int 58)) (by rw [e0]; exact Ar8.1) (State.isArrayOf_alike hZ.alike Ar8.2.1) Ar8.2.2 hin8 hat8 (g := (mkF m 20 #[vr o1, vr o2, vi 1] [(.int 1), (.ref o2), (.int 58)])) rfl rfl (hb hby d47_20) t k) ?_
  refine oiy KK X0 d47_21 26 (teq (by decide : (58 : Int32) = (58 : Int32))).1 (by decide) rfl ?_
  refine oii KK X0 d47_26 #[vr o1, vr o2, vi 2] 29 rfl rfl rfl ?_
  refine ogo KK X0 d47_29 9 (by decide) rfl ?_
  refine oil KK X0 d47_9 (2 : Int32) 10 rfl rfl ?_
  refine oal KK X0 d47_10 (.ref o1) 11 rfl rfl rfl ?_
  obtain ⟨cl9, Ar9, q9, S9, N9n, H9, G9⟩ := id Pm0
  refine step (s₁.setTop (mkF m 12 #[vr o1, vr o2, vi 2] [(.int 7), (.int 2)])) (fun t k => X0.arraylength hx (by rw [e0]; exact Ar9.1) (State.isArrayOf_alike hZ.alike Ar9.2.1) (g := (mkF m 11 #[vr o1, vr o2, vi 2] [(.ref o1), (.int 2)])) rfl rfl (hb hby d47_11) t (by rw [len_of S9 N9n]; exact k)) ?_
  refine oin KK X0 d47_12 15 rfl (tlt (by decide : (2 : Int32) < (7 : Int32))).2.1 ?_
  refine oal KK X0 d47_15 (.ref o1) 16 rfl rfl rfl ?_
  refine oil KK X0 d47_16 (2 : Int32) 17 rfl rfl ?_
  obtain ⟨cl10, Ar10, q10, S10, N10n, H10, G10⟩ := id Pm0
  have hin10 : ¬ ((2 : Int32) < 0 ∨ cl10.slots.size ≤ ((2 : Int32)).toNatClampNeg) := inb_of S10 ⟨by decide, by decide⟩
  have hat10 : cl10.slots[((2 : Int32)).toNatClampNeg]? = some (.int 123) := H10.at hin10 rfl
  refine step (s₁.setTop (mkF m 18 #[vr o1, vr o2, vi 2] [(.int 123)])) (fun t k => X0.baloadBytes hx (j := (2 : Int32)) (v := (.int 123)) (by rw [e0]; exact Ar10.1) (State.isArrayOf_alike hZ.alike Ar10.2.1) Ar10.2.2 hin10 hat10 (g := (mkF m 17 #[vr o1, vr o2, vi 2] [(.int 2), (.ref o1)])) rfl rfl (hb hby d47_17) t k) ?_
  refine oal KK X0 d47_18 (.ref o2) 19 rfl rfl rfl ?_
  refine oil KK X0 d47_19 (2 : Int32) 20 rfl rfl ?_
  obtain ⟨cl11, Ar11, q11, S11, N11n, H11, G11⟩ := id Pm1
  have hin11 : ¬ ((2 : Int32) < 0 ∨ cl11.slots.size ≤ ((2 : Int32)).toNatClampNeg) := inb_of S11 ⟨by decide, by decide⟩
  have hat11 : cl11.slots[((2 : Int32)).toNatClampNeg]? = some (.int 123) := H11.at hin11 rfl
  refine step (s₁.setTop (mkF m 21 #[vr o1, vr o2, vi 2] [(.int 123), (.int 123)])) (fun t k => X0.baloadBytes hx (j := (2 : Int32)) (v := (.int 123)) (by rw [e0]; exact Ar11.1) (State.isArrayOf_alike hZ.alike Ar11.2.1) Ar11.2.2 hin11 hat11 (g := (mkF m 20 #[vr o1, vr o2, vi 2] [(.int 2), (.ref o2), (.int 123)])) rfl rfl (hb hby d47_20) t k) ?_
  refine oiy KK X0 d47_21 26 (teq (by decide : (123 : Int32) = (123 : Int32))).1 (by decide) rfl ?_
  refine oii KK X0 d47_26 #[vr o1, vr o2, vi 3] 29 rfl rfl rfl ?_
  refine ogo KK X0 d47_29 9 (by decide) rfl ?_
  refine oil KK X0 d47_9 (3 : Int32) 10 rfl rfl ?_
  refine oal KK X0 d47_10 (.ref o1) 11 rfl rfl rfl ?_
  obtain ⟨cl12, Ar12, q12, S12, N12n, H12, G12⟩ := id Pm0
  refine step (s₁.setTop (mkF m 12 #[vr o1, vr o2, vi 3] [(.int 7), (.int 3)])) (fun t k => X0.arraylength hx (by rw [e0]; exact Ar12.1) (State.isArrayOf_alike hZ.alike Ar12.2.1) (g := (mkF m 11 #[vr o1, vr o2, vi 3] [(.ref o1), (.int 3)])) rfl rfl (hb hby d47_11) t (by rw [len_of S12 N12n]; exact k)) ?_
  refine oin KK X0 d47_12 15 rfl (tlt (by decide : (3 : Int32) < (7 : Int32))).2.1 ?_
  refine oal KK X0 d47_15 (.ref o1) 16 rfl rfl rfl ?_
  refine oil KK X0 d47_16 (3 : Int32) 17 rfl rfl ?_
  obtain ⟨cl13, Ar13, q13, S13, N13n, H13, G13⟩ := id Pm0
  have hin13 : ¬ ((3 : Int32) < 0 ∨ cl13.slots.size ≤ ((3 : Int32)).toNatClampNeg) := inb_of S13 ⟨by decide, by decide⟩
  have hat13 : cl13.slots[((3 : Int32)).toNatClampNeg]? = some (.int i3) := H13.at hin13 rfl
  refine step (s₁.setTop (mkF m 18 #[vr o1, vr o2, vi 3] [(.int i3)])) (fun t k => X0.baloadBytes hx (j := (3 : Int32)) (v := (.int i3)) (by rw [e0]; exact Ar13.1) (State.isArrayOf_alike hZ.alike Ar13.2.1) Ar13.2.2 hin13 hat13 (g := (mkF m 17 #[vr o1, vr o2, vi 3] [(.int 3), (.ref o1)])) rfl rfl (hb hby d47_17) t k) ?_
  refine oal KK X0 d47_18 (.ref o2) 19 rfl rfl rfl ?_
  refine oil KK X0 d47_19 (3 : Int32) 20 rfl rfl ?_
  obtain ⟨cl14, Ar14, q14, S14, N14n, H14, G14⟩ := id Pm1
  have hin14 : ¬ ((3 : Int32) < 0 ∨ cl14.slots.size ≤ ((3 : Int32)).toNatClampNeg) := inb_of S14 ⟨by decide, by decide⟩
  have hat14 : cl14.slots[((3 : Int32)).toNatClampNeg]? = some (.int i3) := H14.at hin14 rfl
  refine step (s₁.setTop (mkF m 21 #[vr o1, vr o2, vi 3] [(.int i3), (.int i3)])) (fun t k => X0.baloadBytes hx (j := (3 : Int32)) (v := (.int i3)) (by rw [e0]; exact Ar14.1) (State.isArrayOf_alike hZ.alike Ar14.2.1) Ar14.2.2 hin14 hat14 (g := (mkF m 20 #[vr o1, vr o2, vi 3] [(.int 3), (.ref o2), (.int i3)])) rfl rfl (hb hby d47_20) t k) ?_
  refine oiy KK X0 d47_21 26 (teq (rfl : i3 = i3)).1 (by decide) rfl ?_
  refine oii KK X0 d47_26 #[vr o1, vr o2, vi 4] 29 rfl rfl rfl ?_
  refine ogo KK X0 d47_29 9 (by decide) rfl ?_
  refine oil KK X0 d47_9 (4 : Int32) 10 rfl rfl ?_
  refine oal KK X0 d47_10 (.ref o1) 11 rfl rfl rfl ?_
  obtain ⟨cl15, Ar15, q15, S15, N15n, H15, G15⟩ := id Pm0
  refine step (s₁.setTop (mkF m 12 #[vr o1, vr o2, vi 4] [(.int 7), (.int 4)])) (fun t k => X0.arraylength hx (by rw [e0]; exact Ar15.1) (State.isArrayOf_alike hZ.alike Ar15.2.1) (g := (mkF m 11 #[vr o1, vr o2, vi 4] [(.ref o1), (.int 4)])) rfl rfl (hb hby d47_11) t (by rw [len_of S15 N15n]; exact k)) ?_
  refine oin KK X0 d47_12 15 rfl (tlt (by decide : (4 : Int32) < (7 : Int32))).2.1 ?_
  refine oal KK X0 d47_15 (.ref o1) 16 rfl rfl rfl ?_
  refine oil KK X0 d47_16 (4 : Int32) 17 rfl rfl ?_
  obtain ⟨cl16, Ar16, q16, S16, N16n, H16, G16⟩ := id Pm0
  have hin16 : ¬ ((4 : Int32) < 0 ∨ cl16.slots.size ≤ ((4 : Int32)).toNatClampNeg) := inb_of S16 ⟨by decide, by decide⟩
  have hat16 : cl16.slots[((4 : Int32)).toNatClampNeg]? = some (.int 125) := H16.at hin16 rfl
  refine step (s₁.setTop (mkF m 18 #[vr o1, vr o2, vi 4] [(.int 125)])) (fun t k => X0.baloadBytes hx (j := (4 : Int32)) (v := (.int 125)) (by rw [e0]; exact Ar16.1) (State.isArrayOf_alike hZ.alike Ar16.2.1) Ar16.2.2 hin16 hat16 (g := (mkF m 17 #[vr o1, vr o2, vi 4] [(.int 4), (.ref o1)])) rfl rfl (hb hby d47_17) t k) ?_
  refine oal KK X0 d47_18 (.ref o2) 19 rfl rfl rfl ?_
  refine oil KK X0 d47_19 (4 : Int32) 20 rfl rfl ?_
  obtain ⟨cl17, Ar17, q17, S17, N17n, H17, G17⟩ := id Pm1
  have hin17 : ¬ ((4 : Int32) < 0 ∨ cl17.slots.size ≤ ((4 : Int32)).toNatClampNeg) := inb_of S17 ⟨by decide, by decide⟩
  have hat17 : cl17.slots[((4 : Int32)).toNatClampNeg]? = some (.int 125) := H17.at hin17 rfl
  refine step (s₁.setTop (mkF m 21 #[vr o1, vr o2, vi 4] [(.int 125), (.int 125)])) (fun t k => X0.baloadBytes hx (j := (4 : Int32)) (v := (.int 125)) (by rw [e0]; exact Ar17.1) (State.isArrayOf_alike hZ.alike Ar17.2.1) Ar17.2.2 hin17 hat17 (g := (mkF m 20 #[vr o1, vr o2, vi 4] [(.int 4), (.ref o2), (.int 125)])) rfl rfl (hb hby d47_20) t k) ?_
  refine oiy KK X0 d47_21 26 (teq (by decide : (125 : Int32) = (125 : Int32))).1 (by decide) rfl ?_
  refine oii KK X0 d47_26 #[vr o1, vr o2, vi 5] 29 rfl rfl rfl ?_
  refine ogo KK X0 d47_29 9 (by decide) rfl ?_
  refine oil KK X0 d47_9 (5 : Int32) 10 rfl rfl ?_
  refine oal KK X0 d47_10 (.ref o1) 11 rfl rfl rfl ?_
  obtain ⟨cl18, Ar18, q18, S18, N18n, H18, G18⟩ := id Pm0
  refine step (s₁.setTop (mkF m 12 #[vr o1, vr o2, vi 5] [(.int 7), (.int 5)])) (fun t k => X0.arraylength hx (by rw [e0]; exact Ar18.1) (State.isArrayOf_alike hZ.alike Ar18.2.1) (g := (mkF m 11 #[vr o1, vr o2, vi 5] [(.ref o1), (.int 5)])) rfl rfl (hb hby d47_11) t (by rw [len_of S18 N18n]; exact k)) ?_
  refine oin KK X0 d47_12 15 rfl (tlt (by decide : (5 : Int32) < (7 : Int32))).2.1 ?_
  refine oal KK X0 d47_15 (.ref o1) 16 rfl rfl rfl ?_
  refine oil KK X0 d47_16 (5 : Int32) 17 rfl rfl ?_
  obtain ⟨cl19, Ar19, q19, S19, N19n, H19, G19⟩ := id Pm0
  have hin19 : ¬ ((5 : Int32) < 0 ∨ cl19.slots.size ≤ ((5 : Int32)).toNatClampNeg) := inb_of S19 ⟨by decide, by decide⟩
  have hat19 : cl19.slots[((5 : Int32)).toNatClampNeg]? = some (.int 58) := H19.at hin19 rfl
  refine step (s₁.setTop (mkF m 18 #[vr o1, vr o2, vi 5] [(.int 58)])) (fun t k => X0.baloadBytes hx (j := (5 : Int32)) (v := (.int 58)) (by rw [e0]; exact Ar19.1) (State.isArrayOf_alike hZ.alike Ar19.2.1) Ar19.2.2 hin19 hat19 (g := (mkF m 17 #[vr o1, vr o2, vi 5] [(.int 5), (.ref o1)])) rfl rfl (hb hby d47_17) t k) ?_
  refine oal KK X0 d47_18 (.ref o2) 19 rfl rfl rfl ?_
  refine oil KK X0 d47_19 (5 : Int32) 20 rfl rfl ?_
  obtain ⟨cl20, Ar20, q20, S20, N20n, H20, G20⟩ := id Pm1
  have hin20 : ¬ ((5 : Int32) < 0 ∨ cl20.slots.size ≤ ((5 : Int32)).toNatClampNeg) := inb_of S20 ⟨by decide, by decide⟩
  have hat20 : cl20.slots[((5 : Int32)).toNatClampNeg]? = some (.int 58) := H20.at hin20 rfl
  refine step (s₁.setTop (mkF m 21 #[vr o1, vr o2, vi 5] [(.int 58), (.int 58)])) (fun t k => X0.baloadBytes hx (j := (5 : Int32)) (v := (.int 58)) (by rw [e0]; exact Ar20.1) (State.isArrayOf_alike hZ.alike Ar20.2.1) Ar20.2.2 hin20 hat20 (g := (mkF m 20 #[vr o1, vr o2, vi 5] [(.int 5), (.ref o2), (.int 58)])) rfl rfl (hb hby d47_20) t k) ?_
  refine oiy KK X0 d47_21 26 (teq (by decide : (58 : Int32) = (58 : Int32))).1 (by decide) rfl ?_
  refine oii KK X0 d47_26 #[vr o1, vr o2, vi 6] 29 rfl rfl rfl ?_
  refine ogo KK X0 d47_29 9 (by decide) rfl ?_
  refine oil KK X0 d47_9 (6 : Int32) 10 rfl rfl ?_
  refine oal KK X0 d47_10 (.ref o1) 11 rfl rfl rfl ?_
  obtain ⟨cl21, Ar21, q21, S21, N21n, H21, G21⟩ := id Pm0
  refine step (s₁.setTop (mkF m 12 #[vr o1, vr o2, vi 6] [(.int 7), (.int 6)])) (fun t k => X0.arraylength hx (by rw [e0]; exact Ar21.1) (State.isArrayOf_alike hZ.alike Ar21.2.1) (g := (mkF m 11 #[vr o1, vr o2, vi 6] [(.ref o1), (.int 6)])) rfl rfl (hb hby d47_11) t (by rw [len_of S21 N21n]; exact k)) ?_
  refine oin KK X0 d47_12 15 rfl (tlt (by decide : (6 : Int32) < (7 : Int32))).2.1 ?_
  refine oal KK X0 d47_15 (.ref o1) 16 rfl rfl rfl ?_
  refine oil KK X0 d47_16 (6 : Int32) 17 rfl rfl ?_
  obtain ⟨cl22, Ar22, q22, S22, N22n, H22, G22⟩ := id Pm0
  have hin22 : ¬ ((6 : Int32) < 0 ∨ cl22.slots.size ≤ ((6 : Int32)).toNatClampNeg) := inb_of S22 ⟨by decide, by decide⟩
  have hat22 : cl22.slots[((6 : Int32)).toNatClampNeg]? = some (.int i4) := H22.at hin22 rfl
  refine step (s₁.setTop (mkF m 18 #[vr o1, vr o2, vi 6] [(.int i4)])) (fun t k => X0.baloadBytes hx (j := (6 : Int32)) (v := (.int i4)) (by rw [e0]; exact Ar22.1) (State.isArrayOf_alike hZ.alike Ar22.2.1) Ar22.2.2 hin22 hat22 (g := (mkF m 17 #[vr o1, vr o2, vi 6] [(.int 6), (.ref o1)])) rfl rfl (hb hby d47_17) t k) ?_
  refine oal KK X0 d47_18 (.ref o2) 19 rfl rfl rfl ?_
  refine oil KK X0 d47_19 (6 : Int32) 20 rfl rfl ?_
  obtain ⟨cl23, Ar23, q23, S23, N23n, H23, G23⟩ := id Pm1
  have hin23 : ¬ ((6 : Int32) < 0 ∨ cl23.slots.size ≤ ((6 : Int32)).toNatClampNeg) := inb_of S23 ⟨by decide, by decide⟩
  have hat23 : cl23.slots[((6 : Int32)).toNatClampNeg]? = some (.int i4) := H23.at hin23 rfl
  refine step (s₁.setTop (mkF m 21 #[vr o1, vr o2, vi 6] [(.int i4), (.int i4)])) (fun t k => X0.baloadBytes hx (j := (6 : Int32)) (v := (.int i4)) (by rw [e0]; exact Ar23.1) (State.isArrayOf_alike hZ.alike Ar23.2.1) Ar23.2.2 hin23 hat23 (g := (mkF m 20 #[vr o1, vr o2, vi 6] [(.int 6), (.ref o2), (.int i4)])) rfl rfl (hb hby d47_20) t k) ?_
  refine oiy KK X0 d47_21 26 (teq (rfl : i4 = i4)).1 (by decide) rfl ?_
  refine oii KK X0 d47_26 #[vr o1, vr o2, vi 7] 29 rfl rfl rfl ?_
  refine ogo KK X0 d47_29 9 (by decide) rfl ?_
  refine oil KK X0 d47_9 (7 : Int32) 10 rfl rfl ?_
  refine oal KK X0 d47_10 (.ref o1) 11 rfl rfl rfl ?_
  obtain ⟨cl24, Ar24, q24, S24, N24n, H24, G24⟩ := id Pm0
  refine step (s₁.setTop (mkF m 12 #[vr o1, vr o2, vi 7] [(.int 7), (.int 7)])) (fun t k => X0.arraylength hx (by rw [e0]; exact Ar24.1) (State.isArrayOf_alike hZ.alike Ar24.2.1) (g := (mkF m 11 #[vr o1, vr o2, vi 7] [(.ref o1), (.int 7)])) rfl rfl (hb hby d47_11) t (by rw [len_of S24 N24n]; exact k)) ?_
  refine oiy KK X0 d47_12 32 (flt (by decide : ¬ ((7 : Int32) < (7 : Int32)))).2.1 (by decide) rfl ?_
  refine oic KK X0 d47_32 1 33 rfl rfl ?_
  refine fin (v := some (.int (nar .boolean (1 : Int32)))) X0 (fun h => by cases h) ?_ (by decide) (by decide) (fun fs hr => retN X0 hx (t := .boolean) hret (by simp) (hb hby d47_33) hr)
  show Q47_70 Z o1 o2 kc1 i2 i3 i4 kc5 h0 n0 (some (.int (nar .boolean (1 : Int32)))) s₁.heap _
  rw [e0]
  exact ⟨rfl, N0, rfl⟩
def Q46_69 (Z : State) (o1 : Addr) (o2 : Addr) (i1 : Int32) (o3 : Addr) (o4 : Addr) (kc2 : ClassId) (i3 : Int32) (i4 : Int32) (i5 : Int32) (kc6 : ClassId) (h0 : Heap) (n0 : Nat) (v : Option Value) (h : Heap) (L : List Loc) : Prop := v = some (.int 1) ∧ Fr n0 L ∧ h = h0
set_option maxRecDepth 65536 in
set_option maxHeartbeats 40000000 in
theorem rm46_69 (l : Launch) (Z : State) (a0 : Array Value) (hw : ∀ d ∈ tables_1, d.before a0 Z = true) (ws : List Jvm.Cond) (o1 : Addr) (o2 : Addr) (i1 : Int32) (o3 : Addr) (o4 : Addr) (kc2 : ClassId) (i3 : Int32) (i4 : Int32) (i5 : Int32) (kc6 : ClassId) (h0 : Heap) (n0 : Nat) (Z0 : n0 ≤ h0.size) (S0 : Sta Z h0 "java/lang/String" "COMPACT_STRINGS" "Z" (.int i1)) (Pm1 : Exa Z h0 o1 "java/lang/String") (Pm2 : Fld Z h0 o1 "java/lang/String" "coder" "B" (.int 0)) (Pm3 : Fld Z h0 o1 "java/lang/String" "value" "[B" (.ref o3)) (Pm4 : Exa Z h0 o2 "java/lang/String") (Pm5 : Fld Z h0 o2 "java/lang/String" "coder" "B" (.int 0)) (Pm6 : Fld Z h0 o2 "java/lang/String" "value" "[B" (.ref o4)) (Pm7 : Arv Z h0 o3 kc2 .byte (7 : Int32) [(.int i3), (.int 58), (.int 123), (.int i4), (.int 125), (.int 58), (.int i5)] (.int 0)) (Pm8 : Arv Z h0 o4 kc6 .byte (7 : Int32) [(.int i3), (.int 58), (.int 123), (.int i4), (.int 125), (.int 58), (.int i5)] (.int 0)) (gn_o1 : n0 ≤ o1) (ne_o1_o2 : o1 ≠ o2) (ne_o1_o3 : o1 ≠ o3) (ne_o1_o4 : o1 ≠ o4) (gn_o2 : n0 ≤ o2) (ne_o2_o3 : o2 ≠ o3) (ne_o2_o4 : o2 ≠ o4) (gn_o3 : n0 ≤ o3) (ne_o3_o4 : o3 ≠ o4) (gn_o4 : n0 ≤ o4) (hy19 : ¬ (i1 = (0 : Int32))) (hy20 : ¬ (i3 = (123 : Int32))) (hy21 : ¬ (i3 = (125 : Int32))) (hy22 : ¬ (i4 = (123 : Int32))) (hy23 : ¬ (i4 = (125 : Int32))) (hy24 : ¬ (i5 = (123 : Int32))) (hy25 : ¬ (i5 = (125 : Int32)))  :
    OwnM l Z nM45 jdk_42_method_66_code 3 (some .boolean) ws ({ frames := 1, cells := 0, slots := 0, locals := 14 } : Room) #[(.ref o1), (.ref o2)] h0 (Q46_69 Z o1 o2 i1 o3 o4 kc2 i3 i4 i5 kc6 h0 n0) := by
  refine own_body (plainFor_of_name pn_1) ?_
  intro p e s m below meth c s₁ G hx hby hml hZ hown hnm hret X0 e0 step fin
  replace hown : s.vm.findClass "java/lang/String" = some m.cls := hown
  have N0 := Fr.nil n0
  have KK : OwnK p e below c _ G := ⟨step, hx, hby⟩
  refine step (s₁.setTop (mkF m 0 #[vr o1, vr o2, .unset] [])) (fun t k => castTop (ef_31_35 m o1 o2) k) ?_
  refine oal KK X0 d46_0 (.ref o1) 1 rfl rfl rfl ?_
  refine oal KK X0 d46_1 (.ref o2) 2 rfl rfl rfl ?_
  have hc2_1 : ¬ (o1 = o2) := ne_o1_o2
  refine step (s₁.setTop (mkF m 7 #[vr o1, vr o2, .unset] [])) (fun t k => Jvm.RoadKit.acmp (g := (mkF m 2 #[vr o1, vr o2, .unset] [(.ref o2), (.ref o1)])) X0 hx rfl rfl rfl (pc0 := 2) (pc' := 7) (same := false) rfl (hb hby d46_2) rfl (decide_eq_false fun q => hc2_1 (Value.ref.inj q)) (by decide) (by decide) k) ?_
  refine oal KK X0 d46_7 (.ref o2) 8 rfl rfl rfl ?_
  obtain ⟨T2, X2, e2, st2⟩ := instY X0 hx hZ hown (ow hw 41 rfl) e0 (Ins.self Pm4) (g := (mkF m 8 #[vr o1, vr o2, .unset] [(.ref o2)])) rfl rfl (hb hby d46_8)
  refine step (T2.setTop (mkF m 11 #[vr o1, vr o2, .unset] [(.int 1)])) (fun t k => st2 t k) ?_
  refine step (T2.setTop (mkF m 14 #[vr o1, vr o2, .unset] [])) (fun t k => XS.ifNo X2.here hx rfl (hb hby d46_11) rfl ((if0 _ _).trans (feq (by decide : ¬ ((1 : Int32) = (0 : Int32)))).1) k) ?_
  refine oal KK X2 d46_14 (.ref o2) 15 rfl rfl rfl ?_
  obtain ⟨T3, X3, e3, st3⟩ := castY X2 hx hZ hown (ow hw 41 rfl) e2 (Ins.self Pm4) (g := (mkF m 15 #[vr o1, vr o2, .unset] [(.ref o2)])) rfl rfl (hb hby d46_15)
  refine step (T3.setTop (mkF m 18 #[vr o1, vr o2, .unset] [(.ref o2)])) (fun t k => st3 t k) ?_
  refine step (T3.setTop (mkF m 19 #[vr o1, vr o2, vr o2] [])) (fun t k => XS.astoreN X3.here hx rfl (hb hby d46_18) rfl rfl (l' := #[vr o1, vr o2, vr o2]) rfl k) ?_
  obtain ⟨T4, X4, e4, st4⟩ := getS2 X3 hx hZ hown (host := "") (Or.inl (ow hw 18 rfl)) Via.refl e3 S0 (g := (mkF m 19 #[vr o1, vr o2, vr o2] [])) rfl (hb hby d46_19)
  refine step (T4.setTop (mkF m 22 #[vr o1, vr o2, vr o2] [(.int i1)])) (fun t k => st4 t k) ?_
  have hc22_5 : ¬ (i1 = (0 : Int32)) := hy19
  refine step (T4.setTop (mkF m 25 #[vr o1, vr o2, vr o2] [])) (fun t k => XS.ifNo X4.here hx rfl (hb hby d46_22) rfl ((if0 _ _).trans (feq hc22_5).1) k) ?_
  refine oal KK X4 d46_25 (.ref o1) 26 rfl rfl rfl ?_
  obtain ⟨T6, X6, e6, st6⟩ := getF X4 hx hZ hown (host := "") (Or.inl (ow hw 30 rfl)) Via.refl e4 Pm2 (g := (mkF m 26 #[vr o1, vr o2, vr o2] [(.ref o1)])) rfl rfl (hb hby d46_26)
  refine step (T6.setTop (mkF m 29 #[vr o1, vr o2, vr o2] [(.int 0)])) (fun t k => st6 t k) ?_
  refine oal KK X6 d46_29 (.ref o2) 30 rfl rfl rfl ?_
  obtain ⟨T7, X7, e7, st7⟩ := getF X6 hx hZ hown (host := "") (Or.inl (ow hw 30 rfl)) Via.refl e6 Pm5 (g := (mkF m 30 #[vr o1, vr o2, vr o2] [(.ref o2), (.int 0)])) rfl rfl (hb hby d46_30)
  refine step (T7.setTop (mkF m 33 #[vr o1, vr o2, vr o2] [(.int 0), (.int 0)])) (fun t k => st7 t k) ?_
  refine oin KK X7 d46_33 36 rfl (teq (by decide : (0 : Int32) = (0 : Int32))).2 ?_
  refine oal KK X7 d46_36 (.ref o1) 37 rfl rfl rfl ?_
  obtain ⟨T8, X8, e8, st8⟩ := getF X7 hx hZ hown (host := "") (Or.inl (ow hw 32 rfl)) Via.refl e7 Pm3 (g := (mkF m 37 #[vr o1, vr o2, vr o2] [(.ref o1)])) rfl rfl (hb hby d46_37)
  refine step (T8.setTop (mkF m 40 #[vr o1, vr o2, vr o2] [(.ref o3)])) (fun t k => st8 t k) ?_
  refine oal KK X8 d46_40 (.ref o2) 41 rfl rfl rfl ?_
  obtain ⟨T9, X9, e9, st9⟩ := getF X8 hx hZ hown (host := "") (Or.inl (ow hw 32 rfl)) Via.refl e8 Pm6 (g := (mkF m 41 #[vr o1, vr o2, vr o2] [(.ref o2), (.ref o3)])) rfl rfl (hb hby d46_41)
  refine step (T9.setTop (mkF m 44 #[vr o1, vr o2, vr o2] [(.ref o4), (.ref o3)])) (fun t k => st9 t k) ?_
  obtain ⟨_, _, ⟨T10, L10, k10, n10⟩, -, X10, ⟨Lc10, hQ10, l10, y10, z10⟩, st10⟩ := Jvm.LawKit.callS X9 hx (y := nM44) hown (mvT hZ (ow hw 227 rfl)) (mvT hZ (ow hw 228 rfl)) (mvT hZ (ow hw 39 rfl)) (mvT hZ (ow hw 229 rfl)) (by decide) (backOf (W := 0) (rm47_70 l Z a0 hw [] o3 o4 kc2 i3 i4 i5 kc6 h0 n0 Z0 Pm7 Pm8 gn_o3 ne_o3_o4 gn_o4 hy20 hy21 hy22 hy23 hy24 hy25) hZ (ow hw 229 rfl) (ow hw 39 rfl) (by decide) (by decide)) (g := (mkF m 44 #[vr o1, vr o2, vr o2] [(.ref o4), (.ref o3)])) rfl (by rw [hml]; rfl) (argsL := [(.ref o3), (.ref o4)]) (rest := []) (lenOf pd_35 rfl) rfl (omw rfl rfl) (hb hby d46_44) (fun _ _ => ⟨rfl, e9, (by decide : 0 + 0 ≤ _), (by decide : 0 + 0 ≤ _)⟩)
  dsimp only [Pt.U, Pt.locs, Pt.cells, Pt.slots] at X10 l10 y10 z10 st10 hQ10
  subst l10 y10 z10
  obtain ⟨rfl, N10q, e10q⟩ := hQ10
  have N10 := Fr.app N0 N10q
  refine step (T10.setTop (mkF m 47 #[vr o1, vr o2, vr o2] [(.int 1)])) (fun t k => st10 t k) ?_
  refine step (T10.setTop (mkF m 50 #[vr o1, vr o2, vr o2] [])) (fun t k => XS.ifNo X10.here hx rfl (hb hby d46_47) rfl ((if0 _ _).trans (feq (by decide : ¬ ((1 : Int32) = (0 : Int32)))).1) k) ?_
  refine oic KK X10 d46_50 1 51 rfl rfl ?_
  refine ogo KK X10 d46_51 55 (by decide) rfl ?_
  refine fin (v := some (.int (nar .boolean (1 : Int32)))) X10 (fun h => by cases h) ?_ (by decide) (by decide) (fun fs hr => retN X10 hx (t := .boolean) hret (by simp) (hb hby d46_55) hr)
  show Q46_69 Z o1 o2 i1 o3 o4 kc2 i3 i4 i5 kc6 h0 n0 (some (.int (nar .boolean (1 : Int32)))) T10.heap _
  rw [e10q]
  exact ⟨rfl, N10, rfl⟩
theorem ef_6_74 (m : MethodId) (x0 : Addr) (x2 : Addr) : entryFrame m #[(.ref x0), (.int 0), (.ref x2), (.int 0), (.int 2)] 7 = mkF m 0 #[.val (.ref x0), .val (.int 0), .val (.ref x2), .val (.int 0), .val (.int 2), .unset, .unset] [] := by first | (simp [entryFrame, mkF, argsToLocals, Value.category]; done) | rfl
def Q6_74 (Z : State) (o1 : Addr) (o2 : Addr) (kc1 : ClassId) (i2 : Int32) (i3 : Int32) (kc4 : ClassId) (h0 : Heap) (n0 : Nat) (v : Option Value) (h : Heap) (L : List Loc) : Prop := v = some (.int 2) ∧ Fr n0 L ∧ Keep h0 h [o2] ∧ Arv Z h o2 kc4 .byte (2 : Int32) [(.int (nar .byte (i2.toInt8.toInt32))), (.int (nar .byte (i3.toInt8.toInt32)))] (.int 0)
set_option maxRecDepth 65536 in
set_option maxHeartbeats 40000000 in
theorem rm6_74 (l : Launch) (Z : State) (a0 : Array Value) (hw : ∀ d ∈ tables_1, d.before a0 Z = true) (ws : List Jvm.Cond) (o1 : Addr) (o2 : Addr) (kc1 : ClassId) (i2 : Int32) (i3 : Int32) (kc4 : ClassId) (h0 : Heap) (n0 : Nat) (Z0 : n0 ≤ h0.size) (Pm0 : Arv Z h0 o1 kc1 .char (2 : Int32) [(.int i2), (.int i3)] (.int 0)) (Pm1 : Arv Z h0 o2 kc4 .byte (2 : Int32) [(.int 0), (.int 0)] (.int 0)) (gn_o1 : n0 ≤ o1) (ne_o1_o2 : o1 ≠ o2) (gn_o2 : n0 ≤ o2) (hy5 : ¬ ((255 : Int32) < i2)) (hy6 : ¬ ((255 : Int32) < i3))  :
    OwnM l Z nM1 jdk_52_method_21_code 7 (some .int) ws ({ frames := 0, cells := 0, slots := 0, locals := 0 } : Room) #[(.ref o1), (.int 0), (.ref o2), (.int 0), (.int 2)] h0 (Q6_74 Z o1 o2 kc1 i2 i3 kc4 h0 n0) := by
  refine own_body (plainFor_of_name pn_2) ?_
  intro p e s m below meth c s₁ G hx hby hml hZ hown hnm hret X0 e0 step fin
  replace hown : s.vm.findClass "java/lang/StringUTF16" = some m.cls := hown
  have N0 := Fr.nil n0
  have KK : OwnK p e below c _ G := ⟨step, hx, hby⟩
  refine step (s₁.setTop (mkF m 0 #[vr o1, vi 0, vr o2, vi 0, vi 2, .unset, .unset] [])) (fun t k => castTop (ef_6_74 m o1 o2) k) ?_
  refine oic KK X0 d6_0 0 1 rfl rfl ?_
  refine oiS KK X0 d6_1 #[vr o1, vi 0, vr o2, vi 0, vi 2, vi 0, .unset] 3 rfl rfl ?_
  refine oiL KK X0 d6_3 (0 : Int32) 5 rfl rfl ?_
  refine oiL KK X0 d6_5 (2 : Int32) 7 rfl rfl ?_
  refine oin KK X0 d6_7 10 rfl (tlt (by decide : (0 : Int32) < (2 : Int32))).2.1 ?_
  refine oal KK X0 d6_10 (.ref o1) 11 rfl rfl rfl ?_
  refine oil KK X0 d6_11 (0 : Int32) 12 rfl rfl ?_
  obtain ⟨cl1, Ar1, q1, S1, N1n, H1, G1⟩ := id Pm0
  have hin1 : ¬ ((0 : Int32) < 0 ∨ cl1.slots.size ≤ ((0 : Int32)).toNatClampNeg) := inb_of S1 ⟨by decide, by decide⟩
  have hat1 : cl1.slots[((0 : Int32)).toNatClampNeg]? = some (.int i2) := H1.at hin1 rfl
  refine step (s₁.setTop (mkF m 13 #[vr o1, vi 0, vr o2, vi 0, vi 2, vi 0, .unset] [(.int i2)])) (fun t k => X0.caload hx (j := (0 : Int32)) (v := (.int i2)) (by rw [e0]; exact Ar1.1) (State.isArrayOf_alike hZ.alike Ar1.2.1) Ar1.2.2 hin1 hat1 (g := (mkF m 12 #[vr o1, vi 0, vr o2, vi 0, vi 2, vi 0, .unset] [(.int 0), (.ref o1)])) rfl rfl (hb hby d6_12) t k) ?_
  refine oiS KK X0 d6_13 #[vr o1, vi 0, vr o2, vi 0, vi 2, vi 0, vi i2] 15 rfl rfl ?_
  refine oiL KK X0 d6_15 i2 17 rfl rfl ?_
  refine osi KK X0 d6_17 255 20 rfl rfl ?_
  have hc20_2 : ¬ ((255 : Int32) < i2) := hy5
  refine oiy KK X0 d6_20 26 (flt hc20_2).2.2.2 (by decide) rfl ?_
  refine oal KK X0 d6_26 (.ref o2) 27 rfl rfl rfl ?_
  refine oil KK X0 d6_27 (0 : Int32) 28 rfl rfl ?_
  refine oiL KK X0 d6_28 i2 30 rfl rfl ?_
  refine step (s₁.setTop (mkF m 31 #[vr o1, vi 0, vr o2, vi 0, vi 2, vi 0, vi i2] [(.int (i2.toInt8.toInt32)), (.int 0), (.ref o2)])) (fun t k => XS.i2b X0.here hx rfl (hb hby d6_30) rfl k) ?_
  obtain ⟨cl3, Ar3, q3, S3, N3n, H3, G3⟩ := id Pm1
  have hin3 : ¬ ((0 : Int32) < 0 ∨ cl3.slots.size ≤ ((0 : Int32)).toNatClampNeg) := inb_of S3 ⟨by decide, by decide⟩
  obtain ⟨T3, h3, X3, e3, W3, st3⟩ := stB X0 hx hZ e0 Ar3 (j := (0 : Int32)) hin3 (g := (mkF m 31 #[vr o1, vi 0, vr o2, vi 0, vi 2, vi 0, vi i2] [(.int (i2.toInt8.toInt32)), (.int 0), (.ref o2)])) rfl rfl (hb hby d6_31)
  have N3 := Fr.snoc X3 N0 gn_o2
  have K3 : Keep h0 h3 [o2] := (Keep.refl h0 [o2]).wr W3 (Or.inl (List.mem_of_getElem? (i := 0) rfl))
  have V3 : Arv Z h3 o2 kc4 .byte (2 : Int32) [(.int (nar .byte (i2.toInt8.toInt32))), (.int 0)] (.int 0) := Arv.set Ar3 q3 S3 N3n H3 G3 (fits_nar_byte (i2.toInt8.toInt32)) W3 0 rfl (Nat.le_of_ble_eq_true rfl)
  refine step (T3.setTop (mkF m 32 #[vr o1, vi 0, vr o2, vi 0, vi 2, vi 0, vi i2] [])) (fun t k => st3 t k) ?_
  refine oii KK X3 d6_32 #[vr o1, vi 1, vr o2, vi 0, vi 2, vi 0, vi i2] 35 rfl rfl rfl ?_
  refine oii KK X3 d6_35 #[vr o1, vi 1, vr o2, vi 1, vi 2, vi 0, vi i2] 38 rfl rfl rfl ?_
  refine oii KK X3 d6_38 #[vr o1, vi 1, vr o2, vi 1, vi 2, vi 1, vi i2] 41 rfl rfl rfl ?_
  refine ogo KK X3 d6_41 3 (by decide) rfl ?_
  refine oiL KK X3 d6_3 (1 : Int32) 5 rfl rfl ?_
  refine oiL KK X3 d6_5 (2 : Int32) 7 rfl rfl ?_
  refine oin KK X3 d6_7 10 rfl (tlt (by decide : (1 : Int32) < (2 : Int32))).2.1 ?_
  refine oal KK X3 d6_10 (.ref o1) 11 rfl rfl rfl ?_
  refine oil KK X3 d6_11 (1 : Int32) 12 rfl rfl ?_
  have f4 := (Pm0.other W3 ne_o1_o2)
  obtain ⟨cl5, Ar5, q5, S5, N5n, H5, G5⟩ := id f4
  have hin5 : ¬ ((1 : Int32) < 0 ∨ cl5.slots.size ≤ ((1 : Int32)).toNatClampNeg) := inb_of S5 ⟨by decide, by decide⟩
  have hat5 : cl5.slots[((1 : Int32)).toNatClampNeg]? = some (.int i3) := H5.at hin5 rfl
  refine step (T3.setTop (mkF m 13 #[vr o1, vi 1, vr o2, vi 1, vi 2, vi 1, vi i2] [(.int i3)])) (fun t k => X3.caload hx (j := (1 : Int32)) (v := (.int i3)) (by rw [e3]; exact Ar5.1) (State.isArrayOf_alike hZ.alike Ar5.2.1) Ar5.2.2 hin5 hat5 (g := (mkF m 12 #[vr o1, vi 1, vr o2, vi 1, vi 2, vi 1, vi i2] [(.int 1), (.ref o1)])) rfl rfl (hb hby d6_12) t k) ?_
  refine oiS KK X3 d6_13 #[vr o1, vi 1, vr o2, vi 1, vi 2, vi 1, vi i3] 15 rfl rfl ?_
  refine oiL KK X3 d6_15 i3 17 rfl rfl ?_
  refine osi KK X3 d6_17 255 20 rfl rfl ?_
  have hc20_6 : ¬ ((255 : Int32) < i3) := hy6
  refine oiy KK X3 d6_20 26 (flt hc20_6).2.2.2 (by decide) rfl ?_
  refine oal KK X3 d6_26 (.ref o2) 27 rfl rfl rfl ?_
  refine oil KK X3 d6_27 (1 : Int32) 28 rfl rfl ?_
  refine oiL KK X3 d6_28 i3 30 rfl rfl ?_
  refine step (T3.setTop (mkF m 31 #[vr o1, vi 1, vr o2, vi 1, vi 2, vi 1, vi i3] [(.int (i3.toInt8.toInt32)), (.int 1), (.ref o2)])) (fun t k => XS.i2b X3.here hx rfl (hb hby d6_30) rfl k) ?_
  obtain ⟨cl7, Ar7, q7, S7, N7n, H7, G7⟩ := id V3
  have hin7 : ¬ ((1 : Int32) < 0 ∨ cl7.slots.size ≤ ((1 : Int32)).toNatClampNeg) := inb_of S7 ⟨by decide, by decide⟩
  obtain ⟨T7, h7, X7, e7, W7, st7⟩ := stB X3 hx hZ e3 Ar7 (j := (1 : Int32)) hin7 (g := (mkF m 31 #[vr o1, vi 1, vr o2, vi 1, vi 2, vi 1, vi i3] [(.int (i3.toInt8.toInt32)), (.int 1), (.ref o2)])) rfl rfl (hb hby d6_31)
  have N7 := Fr.snoc X7 N3 gn_o2
  have K7 : Keep h0 h7 [o2] := K3.wr W7 (Or.inl (List.mem_of_getElem? (i := 0) rfl))
  have V7 : Arv Z h7 o2 kc4 .byte (2 : Int32) [(.int (nar .byte (i2.toInt8.toInt32))), (.int (nar .byte (i3.toInt8.toInt32)))] (.int 0) := Arv.set Ar7 q7 S7 N7n H7 G7 (fits_nar_byte (i3.toInt8.toInt32)) W7 1 rfl (Nat.le_of_ble_eq_true rfl)
  refine step (T7.setTop (mkF m 32 #[vr o1, vi 1, vr o2, vi 1, vi 2, vi 1, vi i3] [])) (fun t k => st7 t k) ?_
  refine oii KK X7 d6_32 #[vr o1, vi 2, vr o2, vi 1, vi 2, vi 1, vi i3] 35 rfl rfl rfl ?_
  refine oii KK X7 d6_35 #[vr o1, vi 2, vr o2, vi 2, vi 2, vi 1, vi i3] 38 rfl rfl rfl ?_
  refine oii KK X7 d6_38 #[vr o1, vi 2, vr o2, vi 2, vi 2, vi 2, vi i3] 41 rfl rfl rfl ?_
  refine ogo KK X7 d6_41 3 (by decide) rfl ?_
  refine oiL KK X7 d6_3 (2 : Int32) 5 rfl rfl ?_
  refine oiL KK X7 d6_5 (2 : Int32) 7 rfl rfl ?_
  refine oiy KK X7 d6_7 44 (flt (by decide : ¬ ((2 : Int32) < (2 : Int32)))).2.1 (by decide) rfl ?_
  refine oiL KK X7 d6_44 (2 : Int32) 46 rfl rfl ?_
  refine fin (v := some (.int 2)) X7 (fun h => by cases h) ?_ (by decide) (by decide) (fun fs hr => retI X7 hx hret (hb hby d6_46) hr)
  show Q6_74 Z o1 o2 kc1 i2 i3 kc4 h0 n0 (some (.int 2)) T7.heap _
  rw [e7]
  exact ⟨rfl, N7, K7, V7⟩
theorem ef_5_73 (m : MethodId) (x0 : Addr) : entryFrame m #[(.ref x0), (.int 0), (.int 2)] 6 = mkF m 0 #[.val (.ref x0), .val (.int 0), .val (.int 2), .unset, .unset, .unset] [] := by first | (simp [entryFrame, mkF, argsToLocals, Value.category]; done) | rfl
def Q5_73 (Z : State) (o1 : Addr) (kc1 : ClassId) (i2 : Int32) (i3 : Int32) (h0 : Heap) (n0 : Nat) (v : Option Value) (h : Heap) (L : List Loc) : Prop := ∃ (b1 : Addr) (k1 : ClassId), v = some (.ref b1) ∧ Fr n0 L ∧ Keep h0 h [] ∧ h0.size ≤ b1 ∧ Arv Z h b1 k1 .byte (2 : Int32) [(.int (nar .byte (i2.toInt8.toInt32))), (.int (nar .byte (i3.toInt8.toInt32)))] (.int 0)
set_option maxRecDepth 65536 in
set_option maxHeartbeats 40000000 in
theorem rm5_73 (l : Launch) (Z : State) (a0 : Array Value) (hw : ∀ d ∈ tables_1, d.before a0 Z = true) (ws : List Jvm.Cond) (o1 : Addr) (kc1 : ClassId) (i2 : Int32) (i3 : Int32) (h0 : Heap) (n0 : Nat) (Z0 : n0 ≤ h0.size) (Pm0 : Arv Z h0 o1 kc1 .char (2 : Int32) [(.int i2), (.int i3)] (.int 0)) (gn_o1 : n0 ≤ o1) (hy2 : ¬ ((255 : Int32) < i2)) (hy3 : ¬ ((255 : Int32) < i3))  :
    OwnM l Z nM2 jdk_52_method_16_code 6 (some (.array .byte)) ws ({ frames := 1, cells := 1, slots := 2, locals := 18 } : Room) #[(.ref o1), (.int 0), (.int 2)] h0 (Q5_73 Z o1 kc1 i2 i3 h0 n0) := by
  refine own_body (plainFor_of_name pn_2) ?_
  intro p e s m below meth c s₁ G hx hby hml hZ hown hnm hret X0 e0 step fin
  replace hown : s.vm.findClass "java/lang/StringUTF16" = some m.cls := hown
  have N0 := Fr.nil n0
  have KK : OwnK p e below c _ G := ⟨step, hx, hby⟩
  refine step (s₁.setTop (mkF m 0 #[vr o1, vi 0, vi 2, .unset, .unset, .unset] [])) (fun t k => castTop (ef_5_73 m o1) k) ?_
  refine oil KK X0 d5_0 (2 : Int32) 1 rfl rfl ?_
  obtain ⟨T1, h1, k1, X1, e1, E1, A1, st1⟩ := newP X0 hx hZ (ow hw 23 rfl) e0 (g := (mkF m 1 #[vr o1, vi 0, vi 2, .unset, .unset, .unset] [(.int 2)])) rfl (hb hby d5_1) rfl (by decide) (cap := 2) (by decide) (by decide) (by decide) (by decide)
  obtain ⟨b1, g1⟩ : ∃ z, z = h0.size := ⟨_, rfl⟩
  rw [← g1] at A1 st1
  have ne_o1_b1 : o1 ≠ b1 := Nat.ne_of_lt (Nat.lt_of_lt_of_le Pm0.lt (Nat.le_of_eq g1.symm))
  have gn_b1 : n0 ≤ b1 := Nat.le_trans Z0 (Nat.le_of_eq g1.symm)
  have sz_b1 : h0.size ≤ b1 := Nat.le_of_eq g1.symm
  have K1 : Keep h0 h1 [] := (Keep.refl h0 []).ext E1
  have V1 : Arv Z h1 b1 k1 .byte (2 : Int32) [(.int 0), (.int 0)] (.int 0) := (Arv.new A1 (by decide)).pad (pad_rep [] (.int 0) 2)
  refine step (T1.setTop (mkF m 3 #[vr o1, vi 0, vi 2, .unset, .unset, .unset] [(.ref b1)])) (fun t k => st1 t k) ?_
  refine step (T1.setTop (mkF m 4 #[vr o1, vi 0, vi 2, vr b1, .unset, .unset] [])) (fun t k => XS.astoreN X1.here hx rfl (hb hby d5_3) rfl rfl (l' := #[vr o1, vi 0, vi 2, vr b1, .unset, .unset]) rfl k) ?_
  refine oal KK X1 d5_4 (.ref o1) 5 rfl rfl rfl ?_
  refine oil KK X1 d5_5 (0 : Int32) 6 rfl rfl ?_
  refine oal KK X1 d5_6 (.ref b1) 7 rfl rfl rfl ?_
  refine oic KK X1 d5_7 0 8 rfl rfl ?_
  refine oil KK X1 d5_8 (2 : Int32) 9 rfl rfl ?_
  have f2 := (Pm0.ext E1)
  obtain ⟨_, _, ⟨T3, L3, k3, n3⟩, -, X3, ⟨Lc3, hQ3, l3, y3, z3⟩, st3⟩ := Jvm.LawKit.callS X1 hx (y := nM1) hown (mvT hZ (ow hw 24 rfl)) (mvT hZ (ow hw 25 rfl)) (mvT hZ (ow hw 21 rfl)) (mvT hZ (ow hw 26 rfl)) (by decide) (backOf (W := 0) (rm6_74 l Z a0 hw [] o1 b1 kc1 i2 i3 k1 h1 n0 (Nat.le_trans Z0 K1.1) f2 V1 gn_o1 ne_o1_b1 gn_b1 hy2 hy3) hZ (ow hw 26 rfl) (ow hw 21 rfl) (by decide) (by decide)) (g := (mkF m 9 #[vr o1, vi 0, vi 2, vr b1, .unset, .unset] [(.int 2), (.int 0), (.ref b1), (.int 0), (.ref o1)])) rfl (by rw [hml]; rfl) (argsL := [(.ref o1), (.int 0), (.ref b1), (.int 0), (.int 2)]) (rest := []) (lenOf pd_10 rfl) rfl (omw rfl rfl) (hb hby d5_9) (fun _ _ => ⟨rfl, e1, (by decide : 1 + 0 ≤ _), (by decide : 2 + 0 ≤ _)⟩)
  dsimp only [Pt.U, Pt.locs, Pt.cells, Pt.slots] at X3 l3 y3 z3 st3 hQ3
  subst l3 y3 z3
  obtain ⟨h3, e3⟩ : ∃ z, T3.heap = z := ⟨_, rfl⟩
  rw [e3] at hQ3
  obtain ⟨rfl, N3q, K3q, q0_3⟩ := hQ3
  have N3 := Fr.app N0 N3q
  have K3 : Keep h0 h3 [] := K1.trans K3q (allS (Or.inr sz_b1) all0)
  refine step (T3.setTop (mkF m 12 #[vr o1, vi 0, vi 2, vr b1, .unset, .unset] [(.int 2)])) (fun t k => st3 t k) ?_
  refine oiS KK X3 d5_12 #[vr o1, vi 0, vi 2, vr b1, vi 2, .unset] 14 rfl rfl ?_
  refine oiL KK X3 d5_14 (2 : Int32) 16 rfl rfl ?_
  refine oil KK X3 d5_16 (2 : Int32) 17 rfl rfl ?_
  refine oiy KK X3 d5_17 57 (teq (by decide : (2 : Int32) = (2 : Int32))).1 (by decide) rfl ?_
  refine oal KK X3 d5_57 (.ref b1) 58 rfl rfl rfl ?_
  refine fin (v := some (.ref b1)) X3 (fun h => by cases h) ?_ (by decide) (by decide) (fun fs hr => X3.areturnOut hx rfl hret rfl (hb hby d5_58) hr)
  show Q5_73 Z o1 kc1 i2 i3 h0 n0 (some (.ref b1)) T3.heap _
  rw [e3]
  exact ⟨b1, k1, rfl, N3, K3, sz_b1, q0_3⟩
theorem ef_7_75 (m : MethodId) (x0 : Addr) : entryFrame m #[(.ref x0), (.int 2)] 2 = mkF m 0 #[.val (.ref x0), .val (.int 2)] [] := by first | (simp [entryFrame, mkF, argsToLocals, Value.category]; done) | rfl
def Q7_75 (Z : State) (o1 : Addr) (kc1 : ClassId) (i2 : Int32) (i3 : Int32) (h0 : Heap) (n0 : Nat) (v : Option Value) (h : Heap) (L : List Loc) : Prop := v = some (.int 0) ∧ Fr n0 L ∧ h = h0
set_option maxRecDepth 65536 in
set_option maxHeartbeats 40000000 in
theorem rm7_75 (l : Launch) (Z : State) (a0 : Array Value) (hw : ∀ d ∈ tables_1, d.before a0 Z = true) (ws : List Jvm.Cond) (o1 : Addr) (kc1 : ClassId) (i2 : Int32) (i3 : Int32) (h0 : Heap) (n0 : Nat) (Z0 : n0 ≤ h0.size) (Pm0 : Arv Z h0 o1 kc1 .byte (2 : Int32) [(.int i2), (.int i3)] (.int 0)) (gn_o1 : n0 ≤ o1)  :
    OwnM l Z nM3 jdk_52_method_15_code 2 (some .byte) ws ({ frames := 0, cells := 0, slots := 0, locals := 0 } : Room) #[(.ref o1), (.int 2)] h0 (Q7_75 Z o1 kc1 i2 i3 h0 n0) := by
  refine own_body (plainFor_of_name pn_2) ?_
  intro p e s m below meth c s₁ G hx hby hml hZ hown hnm hret X0 e0 step fin
  replace hown : s.vm.findClass "java/lang/StringUTF16" = some m.cls := hown
  have N0 := Fr.nil n0
  have KK : OwnK p e below c _ G := ⟨step, hx, hby⟩
  refine step (s₁.setTop (mkF m 0 #[vr o1, vi 2] [])) (fun t k => castTop (ef_7_75 m o1) k) ?_
  refine oil KK X0 d7_0 (2 : Int32) 1 rfl rfl ?_
  refine oal KK X0 d7_1 (.ref o1) 2 rfl rfl rfl ?_
  obtain ⟨cl1, Ar1, q1, S1, N1n, H1, G1⟩ := id Pm0
  refine step (s₁.setTop (mkF m 3 #[vr o1, vi 2] [(.int 2), (.int 2)])) (fun t k => X0.arraylength hx (by rw [e0]; exact Ar1.1) (State.isArrayOf_alike hZ.alike Ar1.2.1) (g := (mkF m 2 #[vr o1, vi 2] [(.ref o1), (.int 2)])) rfl rfl (hb hby d7_2) t (by rw [len_of S1 N1n]; exact k)) ?_
  refine step (s₁.setTop (mkF m 4 #[vr o1, vi 2] [(.int 0)])) (fun t k => XS.isub X0.here hx rfl (hb hby d7_3) rfl k) ?_
  refine obi KK X0 d7_4 31 6 rfl rfl ?_
  refine step (s₁.setTop (mkF m 7 #[vr o1, vi 2] [(.int 0)])) (fun t k => XS.iushr X0.here hx rfl (hb hby d7_6) rfl k) ?_
  refine step (s₁.setTop (mkF m 8 #[vr o1, vi 2] [(.int 0)])) (fun t k => XS.i2b X0.here hx rfl (hb hby d7_7) rfl k) ?_
  refine fin (v := some (.int (nar .byte (0 : Int32)))) X0 (fun h => by cases h) ?_ (by decide) (by decide) (fun fs hr => retN X0 hx (t := .byte) hret (by simp) (hb hby d7_8) hr)
  show Q7_75 Z o1 kc1 i2 i3 h0 n0 (some (.int (nar .byte (0 : Int32)))) s₁.heap _
  rw [e0]
  exact ⟨rfl, N0, rfl⟩
theorem ef_3_72 (m : MethodId) (x0 : Addr) (x1 : Addr) : entryFrame m #[(.ref x0), (.ref x1), (.int 0), (.int 2), .null] 6 = mkF m 0 #[.val (.ref x0), .val (.ref x1), .val (.int 0), .val (.int 2), .val .null, .unset] [] := by first | (simp [entryFrame, mkF, argsToLocals, Value.category]; done) | rfl
def Q3_72 (Z : State) (o1 : Addr) (o2 : Addr) (i1 : Int32) (kc2 : ClassId) (i3 : Int32) (i4 : Int32) (h0 : Heap) (n0 : Nat) (v : Option Value) (h : Heap) (L : List Loc) : Prop := ∃ (b1_4 : Addr) (k1_4 : ClassId), v = none ∧ Fr n0 L ∧ Keep h0 h [o1] ∧ h0.size ≤ b1_4 ∧ Fld Z h o1 "java/lang/String" "coder" "B" (.int 0) ∧ Fld Z h o1 "java/lang/String" "value" "[B" (.ref b1_4) ∧ Arv Z h b1_4 k1_4 .byte (2 : Int32) [(.int (nar .byte (i3.toInt8.toInt32))), (.int (nar .byte (i4.toInt8.toInt32)))] (.int 0)
set_option maxRecDepth 65536 in
set_option maxHeartbeats 40000000 in
theorem rm3_72 (l : Launch) (Z : State) (a0 : Array Value) (hw : ∀ d ∈ tables_1, d.before a0 Z = true) (ws : List Jvm.Cond) (o1 : Addr) (o2 : Addr) (i1 : Int32) (kc2 : ClassId) (i3 : Int32) (i4 : Int32) (h0 : Heap) (n0 : Nat) (Z0 : n0 ≤ h0.size) (S0 : Sta Z h0 "java/lang/String" "COMPACT_STRINGS" "Z" (.int i1)) (Pm1 : Exa Z h0 o1 "java/lang/String") (Pm2 : Fld Z h0 o1 "java/lang/String" "coder" "B" (.int 0)) (Pm3 : Fld Z h0 o1 "java/lang/String" "value" "[B" .null) (Pm4 : Arv Z h0 o2 kc2 .char (2 : Int32) [(.int i3), (.int i4)] (.int 0)) (gn_o1 : n0 ≤ o1) (ne_o1_o2 : o1 ≠ o2) (gn_o2 : n0 ≤ o2) (hy8 : ¬ ((255 : Int32) < i3)) (hy9 : ¬ ((255 : Int32) < i4)) (hy10 : ¬ (i1 = (0 : Int32)))  :
    OwnM l Z nM4 jdk_42_method_149_code 6 none ws ({ frames := 2, cells := 1, slots := 2, locals := 35 } : Room) #[(.ref o1), (.ref o2), (.int 0), (.int 2), .null] h0 (Q3_72 Z o1 o2 i1 kc2 i3 i4 h0 n0) := by
  refine own_body (plainFor_of_name pn_1) ?_
  intro p e s m below meth c s₁ G hx hby hml hZ hown hnm hret X0 e0 step fin
  replace hown : s.vm.findClass "java/lang/String" = some m.cls := hown
  have N0 := Fr.nil n0
  have KK : OwnK p e below c _ G := ⟨step, hx, hby⟩
  refine step (s₁.setTop (mkF m 0 #[vr o1, vr o2, vi 0, vi 2, .val .null, .unset] [])) (fun t k => castTop (ef_3_72 m o1 o2) k) ?_
  refine oal KK X0 d3_0 (.ref o1) 1 rfl rfl rfl ?_
  obtain ⟨T1, X1, e1, st1⟩ := initO X0 hx hZ hown (ow hw 15 rfl) (ow hw 16 rfl) (ow hw 17 rfl) e0 (g := (mkF m 1 #[vr o1, vr o2, vi 0, vi 2, .val .null, .unset] [(.ref o1)])) rfl (by rw [hml]; rfl) rfl (hb hby d3_1) (by decide) (W := 0) (omw rfl rfl) (by decide)
  refine step (T1.setTop (mkF m 4 #[vr o1, vr o2, vi 0, vi 2, .val .null, .unset] [])) (fun t k => st1 t k) ?_
  refine oil KK X1 d3_4 (2 : Int32) 5 rfl rfl ?_
  refine step (T1.setTop (mkF m 27 #[vr o1, vr o2, vi 0, vi 2, .val .null, .unset] [])) (fun t k => XS.ifYes X1.here hx rfl (pc0 := 5) (pc' := 27) rfl (hb hby d3_5) rfl ((if0 _ _).trans (feq (by decide : ¬ ((2 : Int32) = (0 : Int32)))).2) (by decide) (by decide) k) ?_
  obtain ⟨T2, X2, e2, st2⟩ := getS2 X1 hx hZ hown (host := "") (Or.inl (ow hw 18 rfl)) Via.refl e1 S0 (g := (mkF m 27 #[vr o1, vr o2, vi 0, vi 2, .val .null, .unset] [])) rfl (hb hby d3_27)
  refine step (T2.setTop (mkF m 30 #[vr o1, vr o2, vi 0, vi 2, .val .null, .unset] [(.int i1)])) (fun t k => st2 t k) ?_
  have hc30_3 : ¬ (i1 = (0 : Int32)) := hy10
  refine step (T2.setTop (mkF m 33 #[vr o1, vr o2, vi 0, vi 2, .val .null, .unset] [])) (fun t k => XS.ifNo X2.here hx rfl (hb hby d3_30) rfl ((if0 _ _).trans (feq hc30_3).1) k) ?_
  refine oal KK X2 d3_33 (.ref o2) 34 rfl rfl rfl ?_
  refine oil KK X2 d3_34 (0 : Int32) 35 rfl rfl ?_
  refine oil KK X2 d3_35 (2 : Int32) 36 rfl rfl ?_
  obtain ⟨_, _, ⟨T4, L4, k4, n4⟩, -, X4, ⟨Lc4, hQ4, l4, y4, z4⟩, st4⟩ := Jvm.LawKit.callS X2 hx (y := nM2) hown (mvT hZ (ow hw 19 rfl)) (mvT hZ (ow hw 20 rfl)) (mvT hZ (ow hw 21 rfl)) (mvT hZ (ow hw 22 rfl)) (by decide) (backOf (W := 0) (rm5_73 l Z a0 hw [] o2 kc2 i3 i4 h0 n0 Z0 Pm4 gn_o2 hy8 hy9) hZ (ow hw 22 rfl) (ow hw 21 rfl) (by decide) (by decide)) (g := (mkF m 36 #[vr o1, vr o2, vi 0, vi 2, .val .null, .unset] [(.int 2), (.int 0), (.ref o2)])) rfl (by rw [hml]; rfl) (argsL := [(.ref o2), (.int 0), (.int 2)]) (rest := []) (lenOf pd_8 rfl) rfl (omw rfl rfl) (hb hby d3_36) (fun _ _ => ⟨rfl, e2, (by decide : 0 + 1 ≤ _), (by decide : 0 + 2 ≤ _)⟩)
  dsimp only [Pt.U, Pt.locs, Pt.cells, Pt.slots] at X4 l4 y4 z4 st4 hQ4
  subst l4 y4 z4
  obtain ⟨h4, e4⟩ : ∃ z, T4.heap = z := ⟨_, rfl⟩
  rw [e4] at hQ4
  obtain ⟨b1_4, k1_4, rfl, N4q, K4q, sz_b1_4, q0_4⟩ := hQ4
  have N4 := Fr.app N0 N4q
  have lt4_o1 := Pm1.lt
  have lt4_o2 := Pm4.lt
  have ne_o1_b1_4 : o1 ≠ b1_4 := Nat.ne_of_lt (Nat.lt_of_lt_of_le lt4_o1 sz_b1_4)
  have ne_o2_b1_4 : o2 ≠ b1_4 := Nat.ne_of_lt (Nat.lt_of_lt_of_le lt4_o2 sz_b1_4)
  have gn_b1_4 : n0 ≤ b1_4 := Nat.le_trans Z0 sz_b1_4
  have K4 : Keep h0 h4 [o1] := (Keep.refl h0 [o1]).trans K4q all0
  have f5 := own_staK S0 K4q all0
  refine step (T4.setTop (mkF m 39 #[vr o1, vr o2, vi 0, vi 2, .val .null, .unset] [(.ref b1_4)])) (fun t k => st4 t k) ?_
  refine step (T4.setTop (mkF m 41 #[vr o1, vr o2, vi 0, vi 2, .val .null, vr b1_4] [])) (fun t k => XS.astore X4.here hx rfl (hb hby d3_39) rfl rfl (l' := #[vr o1, vr o2, vi 0, vi 2, .val .null, vr b1_4]) rfl k) ?_
  refine oal KK X4 d3_41 (.ref o1) 42 rfl rfl rfl ?_
  refine oaL KK X4 d3_42 (.ref b1_4) 44 rfl rfl rfl ?_
  refine oil KK X4 d3_44 (2 : Int32) 45 rfl rfl ?_
  obtain ⟨_, _, ⟨T6, L6, k6, n6⟩, -, X6, ⟨Lc6, hQ6, l6, y6, z6⟩, st6⟩ := Jvm.LawKit.callS X4 hx (y := nM3) hown (mvT hZ (ow hw 27 rfl)) (mvT hZ (ow hw 28 rfl)) (mvT hZ (ow hw 21 rfl)) (mvT hZ (ow hw 29 rfl)) (by decide) (backOf (W := 1) (rm7_75 l Z a0 hw [] b1_4 k1_4 (nar .byte (i3.toInt8.toInt32)) (nar .byte (i4.toInt8.toInt32)) h4 n0 (Nat.le_trans Z0 K4.1) q0_4 gn_b1_4) hZ (ow hw 29 rfl) (ow hw 21 rfl) (by decide) (by decide)) (g := (mkF m 45 #[vr o1, vr o2, vi 0, vi 2, .val .null, vr b1_4] [(.int 2), (.ref b1_4), (.ref o1)])) rfl (by rw [hml]; rfl) (argsL := [(.ref b1_4), (.int 2)]) (rest := [(.ref o1)]) (lenOf pd_9 rfl) rfl (omw rfl rfl) (hb hby d3_45) (fun _ _ => ⟨rfl, e4, (by decide : 1 + 0 ≤ _), (by decide : 2 + 0 ≤ _)⟩)
  dsimp only [Pt.U, Pt.locs, Pt.cells, Pt.slots] at X6 l6 y6 z6 st6 hQ6
  subst l6 y6 z6
  obtain ⟨rfl, N6q, e6q⟩ := hQ6
  have N6 := Fr.app N4 N6q
  refine step (T6.setTop (mkF m 48 #[vr o1, vr o2, vi 0, vi 2, .val .null, vr b1_4] [(.int 0), (.ref o1)])) (fun t k => st6 t k) ?_
  have f7 := (Pm1.keep K4q)
  have f8 := (Pm2.keep K4q nin0)
  obtain ⟨T9, h9, X9, e9, W9, st9⟩ := putFN X6 hx hZ hown (ow hw 30 rfl) Via.refl e6q f8 f7 (Or.inr ⟨(ow hw 31 rfl), rfl, hnm⟩) (ow hw 5 rfl) (ty := .byte) (v' := (.int 0)) (by decide) rfl (fits_nar_byte (0 : Int32)) (g := (mkF m 48 #[vr o1, vr o2, vi 0, vi 2, .val .null, vr b1_4] [(.int 0), (.ref o1)])) rfl rfl (hb hby d3_48)
  have N9 := Fr.snoc X9 N6 gn_o1
  have K9 : Keep h0 h9 [o1] := K4.wr W9 (Or.inl (List.mem_of_getElem? (i := 0) rfl))
  have F9 := f8.same W9
  refine step (T9.setTop (mkF m 51 #[vr o1, vr o2, vi 0, vi 2, .val .null, vr b1_4] [])) (fun t k => st9 t k) ?_
  refine oal KK X9 d3_51 (.ref o1) 52 rfl rfl rfl ?_
  refine oaL KK X9 d3_52 (.ref b1_4) 54 rfl rfl rfl ?_
  have f10 := (f7.wr W9)
  have f11 := ((Pm3.keep K4q nin0).other W9 (Or.inr (slot_ne (Or.inr (ow hw 33 rfl)) (Or.inr (ow hw 31 rfl)) (by decide) (t := (.array .byte)) (t' := .byte) (by decide) (by decide))))
  obtain ⟨T12, h12, X12, e12, W12, st12⟩ := putF X9 hx hZ hown (host := "") (Or.inl (ow hw 32 rfl)) Via.refl e9 f11 f10 (Or.inr ⟨(ow hw 33 rfl), rfl, hnm⟩) (ow hw 5 rfl) (ty := (.array .byte)) (by decide) rfl rfl (g := (mkF m 54 #[vr o1, vr o2, vi 0, vi 2, .val .null, vr b1_4] [(.ref b1_4), (.ref o1)])) rfl rfl (hb hby d3_54)
  have N12 := Fr.snoc X12 N9 gn_o1
  have K12 : Keep h0 h12 [o1] := K9.wr W12 (Or.inl (List.mem_of_getElem? (i := 0) rfl))
  have F12 := f11.same W12
  refine step (T12.setTop (mkF m 57 #[vr o1, vr o2, vi 0, vi 2, .val .null, vr b1_4] [])) (fun t k => st12 t k) ?_
  have f13 := (F9.other W12 (Or.inr (slot_ne (Or.inr (ow hw 31 rfl)) (Or.inr (ow hw 33 rfl)) (by decide) (t := .byte) (t' := (.array .byte)) (by decide) (by decide))))
  have f14 := ((q0_4.other W9 (Ne.symm ne_o1_b1_4)).other W12 (Ne.symm ne_o1_b1_4))
  refine fin (v := none) X12 (fun _ => rfl) ?_ (by decide) (by decide) (fun fs hr => X12.returnOut hx hret (hb hby d3_57) hr)
  show Q3_72 Z o1 o2 i1 kc2 i3 i4 h0 n0 (none) T12.heap _
  rw [e12]
  exact ⟨b1_4, k1_4, rfl, N12, K12, sz_b1_4, f13, F12, f14⟩
def Q2_71 (Z : State) (o1 : Addr) (o2 : Addr) (i1 : Int32) (kc2 : ClassId) (i3 : Int32) (i4 : Int32) (h0 : Heap) (n0 : Nat) (v : Option Value) (h : Heap) (L : List Loc) : Prop := ∃ (b1_4_2 : Addr) (k1_4_2 : ClassId), v = none ∧ Fr n0 L ∧ Keep h0 h [o1] ∧ h0.size ≤ b1_4_2 ∧ Fld Z h o1 "java/lang/String" "coder" "B" (.int 0) ∧ Fld Z h o1 "java/lang/String" "value" "[B" (.ref b1_4_2) ∧ Arv Z h b1_4_2 k1_4_2 .byte (2 : Int32) [(.int (nar .byte (i3.toInt8.toInt32))), (.int (nar .byte (i4.toInt8.toInt32)))] (.int 0)
set_option maxRecDepth 65536 in
set_option maxHeartbeats 40000000 in
theorem rm2_71 (l : Launch) (Z : State) (a0 : Array Value) (hw : ∀ d ∈ tables_1, d.before a0 Z = true) (ws : List Jvm.Cond) (o1 : Addr) (o2 : Addr) (i1 : Int32) (kc2 : ClassId) (i3 : Int32) (i4 : Int32) (h0 : Heap) (n0 : Nat) (Z0 : n0 ≤ h0.size) (S0 : Sta Z h0 "java/lang/String" "COMPACT_STRINGS" "Z" (.int i1)) (Pm1 : Exa Z h0 o1 "java/lang/String") (Pm2 : Fld Z h0 o1 "java/lang/String" "coder" "B" (.int 0)) (Pm3 : Fld Z h0 o1 "java/lang/String" "value" "[B" .null) (Pm4 : Arv Z h0 o2 kc2 .char (2 : Int32) [(.int i3), (.int i4)] (.int 0)) (gn_o1 : n0 ≤ o1) (ne_o1_o2 : o1 ≠ o2) (gn_o2 : n0 ≤ o2) (hy8 : ¬ ((255 : Int32) < i3)) (hy9 : ¬ ((255 : Int32) < i4)) (hy10 : ¬ (i1 = (0 : Int32)))  :
    OwnM l Z nM5 jdk_42_method_3_code 2 none ws ({ frames := 3, cells := 1, slots := 2, locals := 52 } : Room) #[(.ref o1), (.ref o2)] h0 (Q2_71 Z o1 o2 i1 kc2 i3 i4 h0 n0) := by
  refine own_body (plainFor_of_name pn_1) ?_
  intro p e s m below meth c s₁ G hx hby hml hZ hown hnm hret X0 e0 step fin
  replace hown : s.vm.findClass "java/lang/String" = some m.cls := hown
  have N0 := Fr.nil n0
  have KK : OwnK p e below c _ G := ⟨step, hx, hby⟩
  refine step (s₁.setTop (mkF m 0 #[vr o1, vr o2] [])) (fun t k => castTop (ef_2_2 m o1 o2) k) ?_
  refine oal KK X0 d2_0 (.ref o1) 1 rfl rfl rfl ?_
  refine oal KK X0 d2_1 (.ref o2) 2 rfl rfl rfl ?_
  refine oic KK X0 d2_2 0 3 rfl rfl ?_
  refine oal KK X0 d2_3 (.ref o2) 4 rfl rfl rfl ?_
  obtain ⟨cl1, Ar1, q1, S1, N1n, H1, G1⟩ := id Pm4
  refine step (s₁.setTop (mkF m 5 #[vr o1, vr o2] [(.int 2), (.int 0), (.ref o2), (.ref o1)])) (fun t k => X0.arraylength hx (by rw [e0]; exact Ar1.1) (State.isArrayOf_alike hZ.alike Ar1.2.1) (g := (mkF m 4 #[vr o1, vr o2] [(.ref o2), (.int 0), (.ref o2), (.ref o1)])) rfl rfl (hb hby d2_4) t (by rw [len_of S1 N1n]; exact k)) ?_
  refine step (s₁.setTop (mkF m 6 #[vr o1, vr o2] [.null, (.int 2), (.int 0), (.ref o2), (.ref o1)])) (fun t k => XS.aconstNull X0.here hx rfl (hb hby d2_5) k) ?_
  obtain ⟨_, _, ⟨T2, L2, k2, n2⟩, -, X2, ⟨Lc2, hQ2, l2, y2, z2⟩, st2⟩ := X0.specialBack hx (y := nM4) rfl hown (mvT hZ (ow hw 11 rfl)) (mvT hZ (ow hw 12 rfl)) (mvT hZ (ow hw 14 rfl)) (by decide) (backOf (W := 0) (rm3_72 l Z a0 hw [] o1 o2 i1 kc2 i3 i4 h0 n0 Z0 S0 Pm1 Pm2 Pm3 Pm4 gn_o1 ne_o1_o2 gn_o2 hy8 hy9 hy10) hZ (ow hw 14 rfl) (ow hw 6 rfl) (by decide) (by decide)) (g := (mkF m 6 #[vr o1, vr o2] [.null, (.int 2), (.int 0), (.ref o2), (.ref o1)])) rfl (by rw [hml]; rfl) (Steps.refl _) (a := o1) (argsL := [(.ref o2), (.int 0), (.int 2), .null]) (rest := []) (lenOf pd_6 rfl) rfl (omw rfl rfl) (hb hby d2_6) (fun _ _ => ⟨rfl, e0, (by decide : 0 + 1 ≤ _), (by decide : 0 + 2 ≤ _)⟩)
  dsimp only [Pt.U, Pt.locs, Pt.cells, Pt.slots] at X2 l2 y2 z2 st2 hQ2
  subst l2 y2 z2
  obtain ⟨h2, e2⟩ : ∃ z, T2.heap = z := ⟨_, rfl⟩
  rw [e2] at hQ2
  obtain ⟨b1_4_2, k1_4_2, rfl, N2q, K2q, sz_b1_4_2, q0_2, q1_2, q2_2⟩ := hQ2
  have N2 := Fr.app N0 N2q
  have lt2_o1 := Pm1.lt
  have lt2_o2 := Pm4.lt
  have ne_o1_b1_4_2 : o1 ≠ b1_4_2 := Nat.ne_of_lt (Nat.lt_of_lt_of_le lt2_o1 sz_b1_4_2)
  have ne_o2_b1_4_2 : o2 ≠ b1_4_2 := Nat.ne_of_lt (Nat.lt_of_lt_of_le lt2_o2 sz_b1_4_2)
  have gn_b1_4_2 : n0 ≤ b1_4_2 := Nat.le_trans Z0 sz_b1_4_2
  have K2 : Keep h0 h2 [o1] := (Keep.refl h0 [o1]).trans K2q (allS (Or.inl (List.mem_of_getElem? (i := 0) rfl)) all0)
  have f3 := own_staK S0 K2q (allS (own_exaP Pm1) all0)
  refine step (T2.setTop (mkF m 9 #[vr o1, vr o2] [])) (fun t k => st2.trans k) ?_
  refine fin (v := none) X2 (fun _ => rfl) ?_ (by decide) (by decide) (fun fs hr => X2.returnOut hx hret (hb hby d2_9) hr)
  show Q2_71 Z o1 o2 i1 kc2 i3 i4 h0 n0 (none) T2.heap _
  rw [e2]
  exact ⟨b1_4_2, k1_4_2, rfl, N2, K2, sz_b1_4_2, q0_2, q1_2, q2_2⟩
def Q14_78 (Z : State) (o1 : Addr) (o2 : Addr) (kc1 : ClassId) (i2 : Int32) (i3 : Int32) (h0 : Heap) (n0 : Nat) (v : Option Value) (h : Heap) (L : List Loc) : Prop := v = some (.int 0) ∧ Fr n0 L ∧ h = h0
set_option maxRecDepth 65536 in
set_option maxHeartbeats 40000000 in
theorem rm14_78 (l : Launch) (Z : State) (a0 : Array Value) (hw : ∀ d ∈ tables_1, d.before a0 Z = true) (ws : List Jvm.Cond) (o1 : Addr) (o2 : Addr) (kc1 : ClassId) (i2 : Int32) (i3 : Int32) (h0 : Heap) (n0 : Nat) (Z0 : n0 ≤ h0.size) (Pm0 : Exa Z h0 o1 "java/lang/String") (Pm1 : Fld Z h0 o1 "java/lang/String" "value" "[B" (.ref o2)) (Pm2 : Arv Z h0 o2 kc1 .byte (2 : Int32) [(.int i2), (.int i3)] (.int 0)) (gn_o1 : n0 ≤ o1) (ne_o1_o2 : o1 ≠ o2) (gn_o2 : n0 ≤ o2) (hy6 : ¬ (i2 = (123 : Int32))) (hy7 : ¬ (i2 = (125 : Int32))) (hy8 : ¬ (i3 = (123 : Int32))) (hy9 : ¬ (i3 = (125 : Int32)))  :
    OwnM l Z nM10 jdk_42_method_55_code 1 (some .boolean) ws ({ frames := 0, cells := 0, slots := 0, locals := 0 } : Room) #[(.ref o1)] h0 (Q14_78 Z o1 o2 kc1 i2 i3 h0 n0) := by
  refine own_body (plainFor_of_name pn_1) ?_
  intro p e s m below meth c s₁ G hx hby hml hZ hown hnm hret X0 e0 step fin
  replace hown : s.vm.findClass "java/lang/String" = some m.cls := hown
  have N0 := Fr.nil n0
  have KK : OwnK p e below c _ G := ⟨step, hx, hby⟩
  refine step (s₁.setTop (mkF m 0 #[vr o1] [])) (fun t k => castTop (ef_14_13 m o1) k) ?_
  refine oal KK X0 d14_0 (.ref o1) 1 rfl rfl rfl ?_
  obtain ⟨T1, X1, e1, st1⟩ := getF X0 hx hZ hown (host := "") (Or.inl (ow hw 32 rfl)) Via.refl e0 Pm1 (g := (mkF m 1 #[vr o1] [(.ref o1)])) rfl rfl (hb hby d14_1)
  refine step (T1.setTop (mkF m 4 #[vr o1] [(.ref o2)])) (fun t k => st1 t k) ?_
  obtain ⟨cl2, Ar2, q2, S2, N2n, H2, G2⟩ := id Pm2
  refine step (T1.setTop (mkF m 5 #[vr o1] [(.int 2)])) (fun t k => X1.arraylength hx (by rw [e1]; exact Ar2.1) (State.isArrayOf_alike hZ.alike Ar2.2.1) (g := (mkF m 4 #[vr o1] [(.ref o2)])) rfl rfl (hb hby d14_4) t (by rw [len_of S2 N2n]; exact k)) ?_
  refine step (T1.setTop (mkF m 12 #[vr o1] [])) (fun t k => XS.ifYes X1.here hx rfl (pc0 := 5) (pc' := 12) rfl (hb hby d14_5) rfl ((if0 _ _).trans (feq (by decide : ¬ ((2 : Int32) = (0 : Int32)))).2) (by decide) (by decide) k) ?_
  refine oic KK X1 d14_12 0 13 rfl rfl ?_
  refine fin (v := some (.int (nar .boolean (0 : Int32)))) X1 (fun h => by cases h) ?_ (by decide) (by decide) (fun fs hr => retN X1 hx (t := .boolean) hret (by simp) (hb hby d14_13) hr)
  show Q14_78 Z o1 o2 kc1 i2 i3 h0 n0 (some (.int (nar .boolean (0 : Int32)))) T1.heap _
  rw [e1]
  exact ⟨rfl, N0, rfl⟩
def Q18_81 (Z : State) (o1 : Addr) (i1 : Int32) (o2 : Addr) (kc2 : ClassId) (i3 : Int32) (i4 : Int32) (h0 : Heap) (n0 : Nat) (v : Option Value) (h : Heap) (L : List Loc) : Prop := v = some (.int 2) ∧ Fr n0 L ∧ h = h0
set_option maxRecDepth 65536 in
set_option maxHeartbeats 40000000 in
theorem rm18_81 (l : Launch) (Z : State) (a0 : Array Value) (hw : ∀ d ∈ tables_1, d.before a0 Z = true) (ws : List Jvm.Cond) (o1 : Addr) (i1 : Int32) (o2 : Addr) (kc2 : ClassId) (i3 : Int32) (i4 : Int32) (h0 : Heap) (n0 : Nat) (Z0 : n0 ≤ h0.size) (S0 : Sta Z h0 "java/lang/String" "COMPACT_STRINGS" "Z" (.int i1)) (Pm1 : Exa Z h0 o1 "java/lang/String") (Pm2 : Fld Z h0 o1 "java/lang/String" "coder" "B" (.int 0)) (Pm3 : Fld Z h0 o1 "java/lang/String" "value" "[B" (.ref o2)) (Pm4 : Arv Z h0 o2 kc2 .byte (2 : Int32) [(.int i3), (.int i4)] (.int 0)) (gn_o1 : n0 ≤ o1) (ne_o1_o2 : o1 ≠ o2) (gn_o2 : n0 ≤ o2) (hy8 : ¬ (i1 = (0 : Int32))) (hy9 : ¬ (i3 = (123 : Int32))) (hy10 : ¬ (i3 = (125 : Int32))) (hy11 : ¬ (i4 = (123 : Int32))) (hy12 : ¬ (i4 = (125 : Int32)))  :
    OwnM l Z nM13 jdk_42_method_54_code 1 (some .int) ws ({ frames := 1, cells := 0, slots := 0, locals := 13 } : Room) #[(.ref o1)] h0 (Q18_81 Z o1 i1 o2 kc2 i3 i4 h0 n0) := by
  refine own_body (plainFor_of_name pn_1) ?_
  intro p e s m below meth c s₁ G hx hby hml hZ hown hnm hret X0 e0 step fin
  replace hown : s.vm.findClass "java/lang/String" = some m.cls := hown
  have N0 := Fr.nil n0
  have KK : OwnK p e below c _ G := ⟨step, hx, hby⟩
  refine step (s₁.setTop (mkF m 0 #[vr o1] [])) (fun t k => castTop (ef_14_13 m o1) k) ?_
  refine oal KK X0 d18_0 (.ref o1) 1 rfl rfl rfl ?_
  obtain ⟨T1, X1, e1, st1⟩ := getF X0 hx hZ hown (host := "") (Or.inl (ow hw 32 rfl)) Via.refl e0 Pm3 (g := (mkF m 1 #[vr o1] [(.ref o1)])) rfl rfl (hb hby d18_1)
  refine step (T1.setTop (mkF m 4 #[vr o1] [(.ref o2)])) (fun t k => st1 t k) ?_
  obtain ⟨cl2, Ar2, q2, S2, N2n, H2, G2⟩ := id Pm4
  refine step (T1.setTop (mkF m 5 #[vr o1] [(.int 2)])) (fun t k => X1.arraylength hx (by rw [e1]; exact Ar2.1) (State.isArrayOf_alike hZ.alike Ar2.2.1) (g := (mkF m 4 #[vr o1] [(.ref o2)])) rfl rfl (hb hby d18_4) t (by rw [len_of S2 N2n]; exact k)) ?_
  refine oal KK X1 d18_5 (.ref o1) 6 rfl rfl rfl ?_
  obtain ⟨cq3, kq3, q3a, q3b, q3c⟩ := isOf hZ e1 Pm1
  obtain ⟨_, _, ⟨T3, L3, k3, n3⟩, -, X3, ⟨Lc3, hQ3, l3, y3, z3⟩, st3⟩ := X1.virtualBack hx (y := nM12) (z := nM12) hown (mvT hZ (ow hw 85 rfl)) (mvT hZ (ow hw 86 rfl)) (notFace_of_selects (args := #[]) (mvT hZ (ow hw 88 rfl))) (mvT hZ (ow hw 88 rfl)) (mvT hZ (ow hw 87 rfl)) (by decide) (backOf (W := 1) (rm19_18 l Z a0 hw [] o1 i1 h0 n0 Z0 S0 Pm1 Pm2 gn_o1 hy8) hZ (ow hw 89 rfl) (ow hw 6 rfl) (by decide) (by decide)) q3a q3c (g := (mkF m 6 #[vr o1] [(.ref o1), (.int 2)])) rfl (by rw [hml]; rfl) (Steps.refl _) (argsL := []) (rest := [(.int 2)]) (lenOf pd_22 rfl) rfl (omw rfl rfl) (hb hby d18_6) (fun _ _ => ⟨rfl, e1, (by decide : 0 + 0 ≤ _), (by decide : 0 + 0 ≤ _)⟩)
  dsimp only [Pt.U, Pt.locs, Pt.cells, Pt.slots] at X3 l3 y3 z3 st3 hQ3
  subst l3 y3 z3
  obtain ⟨rfl, N3q, e3q⟩ := hQ3
  have N3 := Fr.app N0 N3q
  refine step (T3.setTop (mkF m 9 #[vr o1] [(.int 0), (.int 2)])) (fun t k => st3.trans k) ?_
  refine step (T3.setTop (mkF m 10 #[vr o1] [(.int 2)])) (fun t k => XS.ishr X3.here hx rfl (hb hby d18_9) rfl k) ?_
  refine fin (v := some (.int 2)) X3 (fun h => by cases h) ?_ (by decide) (by decide) (fun fs hr => retI X3 hx hret (hb hby d18_10) hr)
  show Q18_81 Z o1 i1 o2 kc2 i3 i4 h0 n0 (some (.int 2)) T3.heap _
  rw [e3q]
  exact ⟨rfl, N3, rfl⟩
theorem ef_23_83 (m : MethodId)  : entryFrame m #[(.int 2), (.int 2)] 2 = mkF m 0 #[.val (.int 2), .val (.int 2)] [] := by first | (simp [entryFrame, mkF, argsToLocals, Value.category]; done) | rfl
def Q23_83 (Z : State)  (h0 : Heap) (n0 : Nat) (v : Option Value) (h : Heap) (L : List Loc) : Prop := v = some (.int 2) ∧ Fr n0 L ∧ h = h0
set_option maxRecDepth 65536 in
set_option maxHeartbeats 40000000 in
theorem rm23_83 (l : Launch) (Z : State) (a0 : Array Value) (hw : ∀ d ∈ tables_1, d.before a0 Z = true) (ws : List Jvm.Cond)  (h0 : Heap) (n0 : Nat) (Z0 : n0 ≤ h0.size)  :
    OwnM l Z nM16 jdk_29_method_69_code 2 (some .int) ws ({ frames := 0, cells := 0, slots := 0, locals := 0 } : Room) #[(.int 2), (.int 2)] h0 (Q23_83 Z  h0 n0) := by
  refine own_body (Jvm.Free.JP.mathPlain rfl (by decide +kernel)) ?_
  intro p e s m below meth c s₁ G hx hby hml hZ hown hnm hret X0 e0 step fin
  replace hown : s.vm.findClass "java/lang/Math" = some m.cls := hown
  have N0 := Fr.nil n0
  have KK : OwnK p e below c _ G := ⟨step, hx, hby⟩
  refine step (s₁.setTop (mkF m 0 #[vi 2, vi 2] [])) (fun t k => castTop (ef_23_83 m ) k) ?_
  refine oil KK X0 d23_0 (2 : Int32) 1 rfl rfl ?_
  refine oil KK X0 d23_1 (2 : Int32) 2 rfl rfl ?_
  refine oin KK X0 d23_2 5 rfl (flt (by decide : ¬ ((2 : Int32) < (2 : Int32)))).2.2.1 ?_
  refine oil KK X0 d23_5 (2 : Int32) 6 rfl rfl ?_
  refine ogo KK X0 d23_6 10 (by decide) rfl ?_
  refine fin (v := some (.int 2)) X0 (fun h => by cases h) ?_ (by decide) (by decide) (fun fs hr => retI X0 hx hret (hb hby d23_10) hr)
  show Q23_83 Z  h0 n0 (some (.int 2)) s₁.heap _
  rw [e0]
  exact ⟨rfl, N0, rfl⟩
theorem ef_24_84 (m : MethodId) (x0 : Addr) : entryFrame m #[(.ref x0), (.int 123), (.int 0), (.int 2)] 6 = mkF m 0 #[.val (.ref x0), .val (.int 123), .val (.int 0), .val (.int 2), .unset, .unset] [] := by first | (simp [entryFrame, mkF, argsToLocals, Value.category]; done) | rfl
def Q24_84 (Z : State) (o1 : Addr) (kc1 : ClassId) (i2 : Int32) (i3 : Int32) (h0 : Heap) (n0 : Nat) (v : Option Value) (h : Heap) (L : List Loc) : Prop := v = some (.int (-1)) ∧ Fr n0 L ∧ h = h0
set_option maxRecDepth 65536 in
set_option maxHeartbeats 40000000 in
theorem rm24_84 (l : Launch) (Z : State) (a0 : Array Value) (hw : ∀ d ∈ tables_1, d.before a0 Z = true) (ws : List Jvm.Cond) (o1 : Addr) (kc1 : ClassId) (i2 : Int32) (i3 : Int32) (h0 : Heap) (n0 : Nat) (Z0 : n0 ≤ h0.size) (Pm0 : Arv Z h0 o1 kc1 .byte (2 : Int32) [(.int i2), (.int i3)] (.int 0)) (gn_o1 : n0 ≤ o1) (hy2 : ¬ (i2 = (123 : Int32))) (hy3 : ¬ (i2 = (125 : Int32))) (hy4 : ¬ (i3 = (123 : Int32))) (hy5 : ¬ (i3 = (125 : Int32)))  :
    OwnM l Z nM17 jdk_43_method_23_code 6 (some .int) ws ({ frames := 0, cells := 0, slots := 0, locals := 0 } : Room) #[(.ref o1), (.int 123), (.int 0), (.int 2)] h0 (Q24_84 Z o1 kc1 i2 i3 h0 n0) := by
  refine own_body (plainFor_of_name pn_3) ?_
  intro p e s m below meth c s₁ G hx hby hml hZ hown hnm hret X0 e0 step fin
  replace hown : s.vm.findClass "java/lang/StringLatin1" = some m.cls := hown
  have N0 := Fr.nil n0
  have KK : OwnK p e below c _ G := ⟨step, hx, hby⟩
  refine step (s₁.setTop (mkF m 0 #[vr o1, vi 123, vi 0, vi 2, .unset, .unset] [])) (fun t k => castTop (ef_24_84 m o1) k) ?_
  refine oil KK X0 d24_0 (123 : Int32) 1 rfl rfl ?_
  refine step (s₁.setTop (mkF m 2 #[vr o1, vi 123, vi 0, vi 2, .unset, .unset] [(.int 123)])) (fun t k => XS.i2b X0.here hx rfl (hb hby d24_1) rfl k) ?_
  refine oiS KK X0 d24_2 #[vr o1, vi 123, vi 0, vi 2, vi 123, .unset] 4 rfl rfl ?_
  refine oil KK X0 d24_4 (0 : Int32) 5 rfl rfl ?_
  refine oiS KK X0 d24_5 #[vr o1, vi 123, vi 0, vi 2, vi 123, vi 0] 7 rfl rfl ?_
  refine oiL KK X0 d24_7 (0 : Int32) 9 rfl rfl ?_
  refine oil KK X0 d24_9 (2 : Int32) 10 rfl rfl ?_
  refine oin KK X0 d24_10 13 rfl (tlt (by decide : (0 : Int32) < (2 : Int32))).2.1 ?_
  refine oal KK X0 d24_13 (.ref o1) 14 rfl rfl rfl ?_
  refine oiL KK X0 d24_14 (0 : Int32) 16 rfl rfl ?_
  obtain ⟨cl1, Ar1, q1, S1, N1n, H1, G1⟩ := id Pm0
  have hin1 : ¬ ((0 : Int32) < 0 ∨ cl1.slots.size ≤ ((0 : Int32)).toNatClampNeg) := inb_of S1 ⟨by decide, by decide⟩
  have hat1 : cl1.slots[((0 : Int32)).toNatClampNeg]? = some (.int i2) := H1.at hin1 rfl
  refine step (s₁.setTop (mkF m 17 #[vr o1, vi 123, vi 0, vi 2, vi 123, vi 0] [(.int i2)])) (fun t k => X0.baloadBytes hx (j := (0 : Int32)) (v := (.int i2)) (by rw [e0]; exact Ar1.1) (State.isArrayOf_alike hZ.alike Ar1.2.1) Ar1.2.2 hin1 hat1 (g := (mkF m 16 #[vr o1, vi 123, vi 0, vi 2, vi 123, vi 0] [(.int 0), (.ref o1)])) rfl rfl (hb hby d24_16) t k) ?_
  refine oiL KK X0 d24_17 (123 : Int32) 19 rfl rfl ?_
  have hc19_2 : ¬ (i2 = (123 : Int32)) := hy2
  refine oiy KK X0 d24_19 25 (feq hc19_2).2 (by decide) rfl ?_
  refine oii KK X0 d24_25 #[vr o1, vi 123, vi 0, vi 2, vi 123, vi 1] 28 rfl rfl rfl ?_
  refine ogo KK X0 d24_28 7 (by decide) rfl ?_
  refine oiL KK X0 d24_7 (1 : Int32) 9 rfl rfl ?_
  refine oil KK X0 d24_9 (2 : Int32) 10 rfl rfl ?_
  refine oin KK X0 d24_10 13 rfl (tlt (by decide : (1 : Int32) < (2 : Int32))).2.1 ?_
  refine oal KK X0 d24_13 (.ref o1) 14 rfl rfl rfl ?_
  refine oiL KK X0 d24_14 (1 : Int32) 16 rfl rfl ?_
  obtain ⟨cl3, Ar3, q3, S3, N3n, H3, G3⟩ := id Pm0
  have hin3 : ¬ ((1 : Int32) < 0 ∨ cl3.slots.size ≤ ((1 : Int32)).toNatClampNeg) := inb_of S3 ⟨by decide, by decide⟩
  have hat3 : cl3.slots[((1 : Int32)).toNatClampNeg]? = some (.int i3) := H3.at hin3 rfl
  refine step (s₁.setTop (mkF m 17 #[vr o1, vi 123, vi 0, vi 2, vi 123, vi 1] [(.int i3)])) (fun t k => X0.baloadBytes hx (j := (1 : Int32)) (v := (.int i3)) (by rw [e0]; exact Ar3.1) (State.isArrayOf_alike hZ.alike Ar3.2.1) Ar3.2.2 hin3 hat3 (g := (mkF m 16 #[vr o1, vi 123, vi 0, vi 2, vi 123, vi 1] [(.int 1), (.ref o1)])) rfl rfl (hb hby d24_16) t k) ?_
  refine oiL KK X0 d24_17 (123 : Int32) 19 rfl rfl ?_
  have hc19_4 : ¬ (i3 = (123 : Int32)) := hy4
  refine oiy KK X0 d24_19 25 (feq hc19_4).2 (by decide) rfl ?_
  refine oii KK X0 d24_25 #[vr o1, vi 123, vi 0, vi 2, vi 123, vi 2] 28 rfl rfl rfl ?_
  refine ogo KK X0 d24_28 7 (by decide) rfl ?_
  refine oiL KK X0 d24_7 (2 : Int32) 9 rfl rfl ?_
  refine oil KK X0 d24_9 (2 : Int32) 10 rfl rfl ?_
  refine oiy KK X0 d24_10 31 (flt (by decide : ¬ ((2 : Int32) < (2 : Int32)))).2.1 (by decide) rfl ?_
  refine oic KK X0 d24_31 (-1) 32 rfl rfl ?_
  refine fin (v := some (.int (-1))) X0 (fun h => by cases h) ?_ (by decide) (by decide) (fun fs hr => retI X0 hx hret (hb hby d24_32) hr)
  show Q24_84 Z o1 kc1 i2 i3 h0 n0 (some (.int (-1))) s₁.heap _
  rw [e0]
  exact ⟨rfl, N0, rfl⟩
theorem ef_20_82 (m : MethodId) (x0 : Addr) : entryFrame m #[(.ref x0), (.int 123), (.int 0), (.int 2)] 4 = mkF m 0 #[.val (.ref x0), .val (.int 123), .val (.int 0), .val (.int 2)] [] := by first | (simp [entryFrame, mkF, argsToLocals, Value.category]; done) | rfl
def Q20_82 (Z : State) (o1 : Addr) (kc1 : ClassId) (i2 : Int32) (i3 : Int32) (h0 : Heap) (n0 : Nat) (v : Option Value) (h : Heap) (L : List Loc) : Prop := v = some (.int (-1)) ∧ Fr n0 L ∧ h = h0
set_option maxRecDepth 65536 in
set_option maxHeartbeats 40000000 in
theorem rm20_82 (l : Launch) (Z : State) (a0 : Array Value) (hw : ∀ d ∈ tables_1, d.before a0 Z = true) (ws : List Jvm.Cond) (o1 : Addr) (kc1 : ClassId) (i2 : Int32) (i3 : Int32) (h0 : Heap) (n0 : Nat) (Z0 : n0 ≤ h0.size) (Pm0 : Arv Z h0 o1 kc1 .byte (2 : Int32) [(.int i2), (.int i3)] (.int 0)) (gn_o1 : n0 ≤ o1) (hy2 : ¬ (i2 = (123 : Int32))) (hy3 : ¬ (i2 = (125 : Int32))) (hy4 : ¬ (i3 = (123 : Int32))) (hy5 : ¬ (i3 = (125 : Int32)))  :
    OwnM l Z nM18 jdk_43_method_22_code 4 (some .int) ws ({ frames := 1, cells := 0, slots := 0, locals := 17 } : Room) #[(.ref o1), (.int 123), (.int 0), (.int 2)] h0 (Q20_82 Z o1 kc1 i2 i3 h0 n0) := by
  refine own_body (plainFor_of_name pn_3) ?_
  intro p e s m below meth c s₁ G hx hby hml hZ hown hnm hret X0 e0 step fin
  replace hown : s.vm.findClass "java/lang/StringLatin1" = some m.cls := hown
  have N0 := Fr.nil n0
  have KK : OwnK p e below c _ G := ⟨step, hx, hby⟩
  refine step (s₁.setTop (mkF m 0 #[vr o1, vi 123, vi 0, vi 2] [])) (fun t k => castTop (ef_20_82 m o1) k) ?_
  refine oil KK X0 d20_0 (123 : Int32) 1 rfl rfl ?_
  obtain ⟨_, _, ⟨T1, L1, k1, n1⟩, -, X1, ⟨Lc1, hQ1, l1, y1, z1⟩, st1⟩ := Jvm.LawKit.callS X0 hx (y := nM14) hown (mvT hZ (ow hw 93 rfl)) (mvT hZ (ow hw 94 rfl)) (mvT hZ (ow hw 39 rfl)) (mvT hZ (ow hw 95 rfl)) (by decide) (backOf (W := 0) (rm21_20 l Z a0 hw []  h0 n0 Z0 ) hZ (ow hw 95 rfl) (ow hw 39 rfl) (by decide) (by decide)) (g := (mkF m 1 #[vr o1, vi 123, vi 0, vi 2] [(.int 123)])) rfl (by rw [hml]; rfl) (argsL := [(.int 123)]) (rest := []) (lenOf pd_23 rfl) rfl (omw rfl rfl) (hb hby d20_1) (fun _ _ => ⟨rfl, e0, (by decide : 0 + 0 ≤ _), (by decide : 0 + 0 ≤ _)⟩)
  dsimp only [Pt.U, Pt.locs, Pt.cells, Pt.slots] at X1 l1 y1 z1 st1 hQ1
  subst l1 y1 z1
  obtain ⟨rfl, N1q, e1q⟩ := hQ1
  have N1 := Fr.app N0 N1q
  refine step (T1.setTop (mkF m 4 #[vr o1, vi 123, vi 0, vi 2] [(.int 1)])) (fun t k => st1 t k) ?_
  refine step (T1.setTop (mkF m 9 #[vr o1, vi 123, vi 0, vi 2] [])) (fun t k => XS.ifYes X1.here hx rfl (pc0 := 4) (pc' := 9) rfl (hb hby d20_4) rfl ((if0 _ _).trans (feq (by decide : ¬ ((1 : Int32) = (0 : Int32)))).2) (by decide) (by decide) k) ?_
  refine oil KK X1 d20_9 (0 : Int32) 10 rfl rfl ?_
  refine oic KK X1 d20_10 0 11 rfl rfl ?_
  obtain ⟨_, _, ⟨T2, L2, k2, n2⟩, -, X2, ⟨Lc2, hQ2, l2, y2, z2⟩, st2⟩ := Jvm.LawKit.callS X1 hx (y := nM15) hown (mvT hZ (ow hw 96 rfl)) (mvT hZ (ow hw 97 rfl)) (mvT hZ (ow hw 98 rfl)) (mvT hZ (ow hw 99 rfl)) (by decide) (backOf (W := 0) (rm22_21 l Z a0 hw []  h0 n0 Z0 ) hZ (ow hw 99 rfl) (ow hw 98 rfl) (by decide) (by decide)) (g := (mkF m 11 #[vr o1, vi 123, vi 0, vi 2] [(.int 0), (.int 0)])) rfl (by rw [hml]; rfl) (argsL := [(.int 0), (.int 0)]) (rest := []) (lenOf pd_19 rfl) rfl (omw rfl rfl) (hb hby d20_11) (fun _ _ => ⟨rfl, e1q, (by decide : 0 + 0 ≤ _), (by decide : 0 + 0 ≤ _)⟩)
  dsimp only [Pt.U, Pt.locs, Pt.cells, Pt.slots] at X2 l2 y2 z2 st2 hQ2
  subst l2 y2 z2
  obtain ⟨rfl, N2q, e2q⟩ := hQ2
  have N2 := Fr.app N1 N2q
  refine step (T2.setTop (mkF m 14 #[vr o1, vi 123, vi 0, vi 2] [(.int 0)])) (fun t k => st2 t k) ?_
  refine ois KK X2 d20_14 #[vr o1, vi 123, vi 0, vi 2] 15 rfl rfl ?_
  refine oil KK X2 d20_15 (2 : Int32) 16 rfl rfl ?_
  refine oal KK X2 d20_16 (.ref o1) 17 rfl rfl rfl ?_
  obtain ⟨cl3, Ar3, q3, S3, N3n, H3, G3⟩ := id Pm0
  refine step (T2.setTop (mkF m 18 #[vr o1, vi 123, vi 0, vi 2] [(.int 2), (.int 2)])) (fun t k => X2.arraylength hx (by rw [e2q]; exact Ar3.1) (State.isArrayOf_alike hZ.alike Ar3.2.1) (g := (mkF m 17 #[vr o1, vi 123, vi 0, vi 2] [(.ref o1), (.int 2)])) rfl rfl (hb hby d20_17) t (by rw [len_of S3 N3n]; exact k)) ?_
  obtain ⟨_, _, ⟨T4, L4, k4, n4⟩, -, X4, ⟨Lc4, hQ4, l4, y4, z4⟩, st4⟩ := Jvm.LawKit.callS X2 hx (y := nM16) hown (mvT hZ (ow hw 100 rfl)) (mvT hZ (ow hw 101 rfl)) (mvT hZ (ow hw 98 rfl)) (mvT hZ (ow hw 102 rfl)) (by decide) (backOf (W := 0) (rm23_83 l Z a0 hw []  h0 n0 Z0 ) hZ (ow hw 102 rfl) (ow hw 98 rfl) (by decide) (by decide)) (g := (mkF m 18 #[vr o1, vi 123, vi 0, vi 2] [(.int 2), (.int 2)])) rfl (by rw [hml]; rfl) (argsL := [(.int 2), (.int 2)]) (rest := []) (lenOf pd_19 rfl) rfl (omw rfl rfl) (hb hby d20_18) (fun _ _ => ⟨rfl, e2q, (by decide : 0 + 0 ≤ _), (by decide : 0 + 0 ≤ _)⟩)
  dsimp only [Pt.U, Pt.locs, Pt.cells, Pt.slots] at X4 l4 y4 z4 st4 hQ4
  subst l4 y4 z4
  obtain ⟨rfl, N4q, e4q⟩ := hQ4
  have N4 := Fr.app N2 N4q
  refine step (T4.setTop (mkF m 21 #[vr o1, vi 123, vi 0, vi 2] [(.int 2)])) (fun t k => st4 t k) ?_
  refine ois KK X4 d20_21 #[vr o1, vi 123, vi 0, vi 2] 22 rfl rfl ?_
  refine oil KK X4 d20_22 (0 : Int32) 23 rfl rfl ?_
  refine oil KK X4 d20_23 (2 : Int32) 24 rfl rfl ?_
  refine oiy KK X4 d20_24 29 (tlt (by decide : (0 : Int32) < (2 : Int32))).1 (by decide) rfl ?_
  refine oal KK X4 d20_29 (.ref o1) 30 rfl rfl rfl ?_
  refine oil KK X4 d20_30 (123 : Int32) 31 rfl rfl ?_
  refine oil KK X4 d20_31 (0 : Int32) 32 rfl rfl ?_
  refine oil KK X4 d20_32 (2 : Int32) 33 rfl rfl ?_
  obtain ⟨_, _, ⟨T5, L5, k5, n5⟩, -, X5, ⟨Lc5, hQ5, l5, y5, z5⟩, st5⟩ := Jvm.LawKit.callS X4 hx (y := nM17) hown (mvT hZ (ow hw 103 rfl)) (mvT hZ (ow hw 104 rfl)) (mvT hZ (ow hw 39 rfl)) (mvT hZ (ow hw 105 rfl)) (by decide) (backOf (W := 0) (rm24_84 l Z a0 hw [] o1 kc1 i2 i3 h0 n0 Z0 Pm0 gn_o1 hy2 hy3 hy4 hy5) hZ (ow hw 105 rfl) (ow hw 39 rfl) (by decide) (by decide)) (g := (mkF m 33 #[vr o1, vi 123, vi 0, vi 2] [(.int 2), (.int 0), (.int 123), (.ref o1)])) rfl (by rw [hml]; rfl) (argsL := [(.ref o1), (.int 123), (.int 0), (.int 2)]) (rest := []) (lenOf pd_21 rfl) rfl (omw rfl rfl) (hb hby d20_33) (fun _ _ => ⟨rfl, e4q, (by decide : 0 + 0 ≤ _), (by decide : 0 + 0 ≤ _)⟩)
  dsimp only [Pt.U, Pt.locs, Pt.cells, Pt.slots] at X5 l5 y5 z5 st5 hQ5
  subst l5 y5 z5
  obtain ⟨rfl, N5q, e5q⟩ := hQ5
  have N5 := Fr.app N4 N5q
  refine step (T5.setTop (mkF m 36 #[vr o1, vi 123, vi 0, vi 2] [(.int (-1))])) (fun t k => st5 t k) ?_
  refine fin (v := some (.int (-1))) X5 (fun h => by cases h) ?_ (by decide) (by decide) (fun fs hr => retI X5 hx hret (hb hby d20_36) hr)
  show Q20_82 Z o1 kc1 i2 i3 h0 n0 (some (.int (-1))) T5.heap _
  rw [e5q]
  exact ⟨rfl, N5, rfl⟩
def Q16_80 (Z : State) (o1 : Addr) (i1 : Int32) (o2 : Addr) (kc2 : ClassId) (i3 : Int32) (i4 : Int32) (h0 : Heap) (n0 : Nat) (v : Option Value) (h : Heap) (L : List Loc) : Prop := v = some (.int (-1)) ∧ Fr n0 L ∧ h = h0
set_option maxRecDepth 65536 in
set_option maxHeartbeats 40000000 in
theorem rm16_80 (l : Launch) (Z : State) (a0 : Array Value) (hw : ∀ d ∈ tables_1, d.before a0 Z = true) (ws : List Jvm.Cond) (o1 : Addr) (i1 : Int32) (o2 : Addr) (kc2 : ClassId) (i3 : Int32) (i4 : Int32) (h0 : Heap) (n0 : Nat) (Z0 : n0 ≤ h0.size) (S0 : Sta Z h0 "java/lang/String" "COMPACT_STRINGS" "Z" (.int i1)) (Pm1 : Exa Z h0 o1 "java/lang/String") (Pm2 : Fld Z h0 o1 "java/lang/String" "coder" "B" (.int 0)) (Pm3 : Fld Z h0 o1 "java/lang/String" "value" "[B" (.ref o2)) (Pm4 : Arv Z h0 o2 kc2 .byte (2 : Int32) [(.int i3), (.int i4)] (.int 0)) (gn_o1 : n0 ≤ o1) (ne_o1_o2 : o1 ≠ o2) (gn_o2 : n0 ≤ o2) (hy8 : ¬ (i1 = (0 : Int32))) (hy9 : ¬ (i3 = (123 : Int32))) (hy10 : ¬ (i3 = (125 : Int32))) (hy11 : ¬ (i4 = (123 : Int32))) (hy12 : ¬ (i4 = (125 : Int32)))  :
    OwnM l Z nM19 jdk_42_method_80_code 3 (some .int) ws ({ frames := 2, cells := 0, slots := 0, locals := 32 } : Room) #[(.ref o1), (.int 123), (.int 0)] h0 (Q16_80 Z o1 i1 o2 kc2 i3 i4 h0 n0) := by
  refine own_body (plainFor_of_name pn_1) ?_
  intro p e s m below meth c s₁ G hx hby hml hZ hown hnm hret X0 e0 step fin
  replace hown : s.vm.findClass "java/lang/String" = some m.cls := hown
  have N0 := Fr.nil n0
  have KK : OwnK p e below c _ G := ⟨step, hx, hby⟩
  refine step (s₁.setTop (mkF m 0 #[vr o1, vi 123, vi 0] [])) (fun t k => castTop (ef_16_15 m o1) k) ?_
  refine oal KK X0 d16_0 (.ref o1) 1 rfl rfl rfl ?_
  obtain ⟨cq1, kq1, q1a, q1b, q1c⟩ := isOf hZ e0 Pm1
  obtain ⟨_, _, ⟨T1, L1, k1, n1⟩, -, X1, ⟨Lc1, hQ1, l1, y1, z1⟩, st1⟩ := X0.virtualBack hx (y := nM11) (z := nM11) hown (mvT hZ (ow hw 75 rfl)) (mvT hZ (ow hw 76 rfl)) (notFace_of_selects (args := #[]) (mvT hZ (ow hw 78 rfl))) (mvT hZ (ow hw 78 rfl)) (mvT hZ (ow hw 77 rfl)) (by decide) (backOf (W := 0) (rm17_16 l Z a0 hw [] o1 i1 h0 n0 Z0 S0 Pm1 Pm2 gn_o1 hy8) hZ (ow hw 79 rfl) (ow hw 6 rfl) (by decide) (by decide)) q1a q1c (g := (mkF m 1 #[vr o1, vi 123, vi 0] [(.ref o1)])) rfl (by rw [hml]; rfl) (Steps.refl _) (argsL := []) (rest := []) (lenOf pd_15 rfl) rfl (omw rfl rfl) (hb hby d16_1) (fun _ _ => ⟨rfl, e0, (by decide : 0 + 0 ≤ _), (by decide : 0 + 0 ≤ _)⟩)
  dsimp only [Pt.U, Pt.locs, Pt.cells, Pt.slots] at X1 l1 y1 z1 st1 hQ1
  subst l1 y1 z1
  obtain ⟨rfl, N1q, e1q⟩ := hQ1
  have N1 := Fr.app N0 N1q
  refine step (T1.setTop (mkF m 4 #[vr o1, vi 123, vi 0] [(.int 1)])) (fun t k => st1.trans k) ?_
  refine step (T1.setTop (mkF m 7 #[vr o1, vi 123, vi 0] [])) (fun t k => XS.ifNo X1.here hx rfl (hb hby d16_4) rfl ((if0 _ _).trans (feq (by decide : ¬ ((1 : Int32) = (0 : Int32)))).1) k) ?_
  refine oal KK X1 d16_7 (.ref o1) 8 rfl rfl rfl ?_
  obtain ⟨T2, X2, e2, st2⟩ := getF X1 hx hZ hown (host := "") (Or.inl (ow hw 32 rfl)) Via.refl e1q Pm3 (g := (mkF m 8 #[vr o1, vi 123, vi 0] [(.ref o1)])) rfl rfl (hb hby d16_8)
  refine step (T2.setTop (mkF m 11 #[vr o1, vi 123, vi 0] [(.ref o2)])) (fun t k => st2 t k) ?_
  refine oil KK X2 d16_11 (123 : Int32) 12 rfl rfl ?_
  refine oil KK X2 d16_12 (0 : Int32) 13 rfl rfl ?_
  refine oal KK X2 d16_13 (.ref o1) 14 rfl rfl rfl ?_
  obtain ⟨cq3, kq3, q3a, q3b, q3c⟩ := isOf hZ e2 Pm1
  obtain ⟨_, _, ⟨T3, L3, k3, n3⟩, -, X3, ⟨Lc3, hQ3, l3, y3, z3⟩, st3⟩ := X2.virtualBack hx (y := nM13) (z := nM13) hown (mvT hZ (ow hw 80 rfl)) (mvT hZ (ow hw 81 rfl)) (notFace_of_selects (args := #[]) (mvT hZ (ow hw 83 rfl))) (mvT hZ (ow hw 83 rfl)) (mvT hZ (ow hw 82 rfl)) (by decide) (backOf (W := 3) (rm18_81 l Z a0 hw [] o1 i1 o2 kc2 i3 i4 h0 n0 Z0 S0 Pm1 Pm2 Pm3 Pm4 gn_o1 ne_o1_o2 gn_o2 hy8 hy9 hy10 hy11 hy12) hZ (ow hw 84 rfl) (ow hw 6 rfl) (by decide) (by decide)) q3a q3c (g := (mkF m 14 #[vr o1, vi 123, vi 0] [(.ref o1), (.int 0), (.int 123), (.ref o2)])) rfl (by rw [hml]; rfl) (Steps.refl _) (argsL := []) (rest := [(.int 0), (.int 123), (.ref o2)]) (lenOf pd_20 rfl) rfl (omw rfl rfl) (hb hby d16_14) (fun _ _ => ⟨rfl, e2, (by decide : 0 + 0 ≤ _), (by decide : 0 + 0 ≤ _)⟩)
  dsimp only [Pt.U, Pt.locs, Pt.cells, Pt.slots] at X3 l3 y3 z3 st3 hQ3
  subst l3 y3 z3
  obtain ⟨rfl, N3q, e3q⟩ := hQ3
  have N3 := Fr.app N1 N3q
  refine step (T3.setTop (mkF m 17 #[vr o1, vi 123, vi 0] [(.int 2), (.int 0), (.int 123), (.ref o2)])) (fun t k => st3.trans k) ?_
  obtain ⟨_, _, ⟨T4, L4, k4, n4⟩, -, X4, ⟨Lc4, hQ4, l4, y4, z4⟩, st4⟩ := Jvm.LawKit.callS X3 hx (y := nM18) hown (mvT hZ (ow hw 90 rfl)) (mvT hZ (ow hw 91 rfl)) (mvT hZ (ow hw 39 rfl)) (mvT hZ (ow hw 92 rfl)) (by decide) (backOf (W := 0) (rm20_82 l Z a0 hw [] o2 kc2 i3 i4 h0 n0 Z0 Pm4 gn_o2 hy9 hy10 hy11 hy12) hZ (ow hw 92 rfl) (ow hw 39 rfl) (by decide) (by decide)) (g := (mkF m 17 #[vr o1, vi 123, vi 0] [(.int 2), (.int 0), (.int 123), (.ref o2)])) rfl (by rw [hml]; rfl) (argsL := [(.ref o2), (.int 123), (.int 0), (.int 2)]) (rest := []) (lenOf pd_21 rfl) rfl (omw rfl rfl) (hb hby d16_17) (fun _ _ => ⟨rfl, e3q, (by decide : 0 + 0 ≤ _), (by decide : 0 + 0 ≤ _)⟩)
  dsimp only [Pt.U, Pt.locs, Pt.cells, Pt.slots] at X4 l4 y4 z4 st4 hQ4
  subst l4 y4 z4
  obtain ⟨rfl, N4q, e4q⟩ := hQ4
  have N4 := Fr.app N3 N4q
  refine step (T4.setTop (mkF m 20 #[vr o1, vi 123, vi 0] [(.int (-1))])) (fun t k => st4 t k) ?_
  refine ogo KK X4 d16_20 36 (by decide) rfl ?_
  refine fin (v := some (.int (-1))) X4 (fun h => by cases h) ?_ (by decide) (by decide) (fun fs hr => retI X4 hx hret (hb hby d16_36) hr)
  show Q16_80 Z o1 i1 o2 kc2 i3 i4 h0 n0 (some (.int (-1))) T4.heap _
  rw [e4q]
  exact ⟨rfl, N4, rfl⟩
def Q15_79 (Z : State) (o1 : Addr) (i1 : Int32) (o2 : Addr) (kc2 : ClassId) (i3 : Int32) (i4 : Int32) (h0 : Heap) (n0 : Nat) (v : Option Value) (h : Heap) (L : List Loc) : Prop := v = some (.int (-1)) ∧ Fr n0 L ∧ h = h0
set_option maxRecDepth 65536 in
set_option maxHeartbeats 40000000 in
theorem rm15_79 (l : Launch) (Z : State) (a0 : Array Value) (hw : ∀ d ∈ tables_1, d.before a0 Z = true) (ws : List Jvm.Cond) (o1 : Addr) (i1 : Int32) (o2 : Addr) (kc2 : ClassId) (i3 : Int32) (i4 : Int32) (h0 : Heap) (n0 : Nat) (Z0 : n0 ≤ h0.size) (S0 : Sta Z h0 "java/lang/String" "COMPACT_STRINGS" "Z" (.int i1)) (Pm1 : Exa Z h0 o1 "java/lang/String") (Pm2 : Fld Z h0 o1 "java/lang/String" "coder" "B" (.int 0)) (Pm3 : Fld Z h0 o1 "java/lang/String" "value" "[B" (.ref o2)) (Pm4 : Arv Z h0 o2 kc2 .byte (2 : Int32) [(.int i3), (.int i4)] (.int 0)) (gn_o1 : n0 ≤ o1) (ne_o1_o2 : o1 ≠ o2) (gn_o2 : n0 ≤ o2) (hy8 : ¬ (i1 = (0 : Int32))) (hy9 : ¬ (i3 = (123 : Int32))) (hy10 : ¬ (i3 = (125 : Int32))) (hy11 : ¬ (i4 = (123 : Int32))) (hy12 : ¬ (i4 = (125 : Int32)))  :
    OwnM l Z nM20 jdk_42_method_79_code 2 (some .int) ws ({ frames := 3, cells := 0, slots := 0, locals := 46 } : Room) #[(.ref o1), (.int 123)] h0 (Q15_79 Z o1 i1 o2 kc2 i3 i4 h0 n0) := by
  refine own_body (plainFor_of_name pn_1) ?_
  intro p e s m below meth c s₁ G hx hby hml hZ hown hnm hret X0 e0 step fin
  replace hown : s.vm.findClass "java/lang/String" = some m.cls := hown
  have N0 := Fr.nil n0
  have KK : OwnK p e below c _ G := ⟨step, hx, hby⟩
  refine step (s₁.setTop (mkF m 0 #[vr o1, vi 123] [])) (fun t k => castTop (ef_15_14 m o1) k) ?_
  refine oal KK X0 d15_0 (.ref o1) 1 rfl rfl rfl ?_
  refine oil KK X0 d15_1 (123 : Int32) 2 rfl rfl ?_
  refine oic KK X0 d15_2 0 3 rfl rfl ?_
  obtain ⟨cq1, kq1, q1a, q1b, q1c⟩ := isOf hZ e0 Pm1
  obtain ⟨_, _, ⟨T1, L1, k1, n1⟩, -, X1, ⟨Lc1, hQ1, l1, y1, z1⟩, st1⟩ := X0.virtualBack hx (y := nM19) (z := nM19) hown (mvT hZ (ow hw 70 rfl)) (mvT hZ (ow hw 71 rfl)) (notFace_of_selects (args := #[]) (mvT hZ (ow hw 73 rfl))) (mvT hZ (ow hw 73 rfl)) (mvT hZ (ow hw 72 rfl)) (by decide) (backOf (W := 0) (rm16_80 l Z a0 hw [] o1 i1 o2 kc2 i3 i4 h0 n0 Z0 S0 Pm1 Pm2 Pm3 Pm4 gn_o1 ne_o1_o2 gn_o2 hy8 hy9 hy10 hy11 hy12) hZ (ow hw 74 rfl) (ow hw 6 rfl) (by decide) (by decide)) q1a q1c (g := (mkF m 3 #[vr o1, vi 123] [(.int 0), (.int 123), (.ref o1)])) rfl (by rw [hml]; rfl) (Steps.refl _) (argsL := [(.int 123), (.int 0)]) (rest := []) (lenOf pd_19 rfl) rfl (omw rfl rfl) (hb hby d15_3) (fun _ _ => ⟨rfl, e0, (by decide : 0 + 0 ≤ _), (by decide : 0 + 0 ≤ _)⟩)
  dsimp only [Pt.U, Pt.locs, Pt.cells, Pt.slots] at X1 l1 y1 z1 st1 hQ1
  subst l1 y1 z1
  obtain ⟨rfl, N1q, e1q⟩ := hQ1
  have N1 := Fr.app N0 N1q
  refine step (T1.setTop (mkF m 6 #[vr o1, vi 123] [(.int (-1))])) (fun t k => st1.trans k) ?_
  refine fin (v := some (.int (-1))) X1 (fun h => by cases h) ?_ (by decide) (by decide) (fun fs hr => retI X1 hx hret (hb hby d15_6) hr)
  show Q15_79 Z o1 i1 o2 kc2 i3 i4 h0 n0 (some (.int (-1))) T1.heap _
  rw [e1q]
  exact ⟨rfl, N1, rfl⟩
theorem ef_24_88 (m : MethodId) (x0 : Addr) : entryFrame m #[(.ref x0), (.int 125), (.int 0), (.int 2)] 6 = mkF m 0 #[.val (.ref x0), .val (.int 125), .val (.int 0), .val (.int 2), .unset, .unset] [] := by first | (simp [entryFrame, mkF, argsToLocals, Value.category]; done) | rfl
def Q24_88 (Z : State) (o1 : Addr) (kc1 : ClassId) (i2 : Int32) (i3 : Int32) (h0 : Heap) (n0 : Nat) (v : Option Value) (h : Heap) (L : List Loc) : Prop := v = some (.int (-1)) ∧ Fr n0 L ∧ h = h0
set_option maxRecDepth 65536 in
set_option maxHeartbeats 40000000 in
theorem rm24_88 (l : Launch) (Z : State) (a0 : Array Value) (hw : ∀ d ∈ tables_1, d.before a0 Z = true) (ws : List Jvm.Cond) (o1 : Addr) (kc1 : ClassId) (i2 : Int32) (i3 : Int32) (h0 : Heap) (n0 : Nat) (Z0 : n0 ≤ h0.size) (Pm0 : Arv Z h0 o1 kc1 .byte (2 : Int32) [(.int i2), (.int i3)] (.int 0)) (gn_o1 : n0 ≤ o1) (hy2 : ¬ (i2 = (123 : Int32))) (hy3 : ¬ (i2 = (125 : Int32))) (hy4 : ¬ (i3 = (123 : Int32))) (hy5 : ¬ (i3 = (125 : Int32)))  :
    OwnM l Z nM17 jdk_43_method_23_code 6 (some .int) ws ({ frames := 0, cells := 0, slots := 0, locals := 0 } : Room) #[(.ref o1), (.int 125), (.int 0), (.int 2)] h0 (Q24_88 Z o1 kc1 i2 i3 h0 n0) := by
  refine own_body (plainFor_of_name pn_3) ?_
  intro p e s m below meth c s₁ G hx hby hml hZ hown hnm hret X0 e0 step fin
  replace hown : s.vm.findClass "java/lang/StringLatin1" = some m.cls := hown
  have N0 := Fr.nil n0
  have KK : OwnK p e below c _ G := ⟨step, hx, hby⟩
  refine step (s₁.setTop (mkF m 0 #[vr o1, vi 125, vi 0, vi 2, .unset, .unset] [])) (fun t k => castTop (ef_24_88 m o1) k) ?_
  refine oil KK X0 d24_0 (125 : Int32) 1 rfl rfl ?_
  refine step (s₁.setTop (mkF m 2 #[vr o1, vi 125, vi 0, vi 2, .unset, .unset] [(.int 125)])) (fun t k => XS.i2b X0.here hx rfl (hb hby d24_1) rfl k) ?_
  refine oiS KK X0 d24_2 #[vr o1, vi 125, vi 0, vi 2, vi 125, .unset] 4 rfl rfl ?_
  refine oil KK X0 d24_4 (0 : Int32) 5 rfl rfl ?_
  refine oiS KK X0 d24_5 #[vr o1, vi 125, vi 0, vi 2, vi 125, vi 0] 7 rfl rfl ?_
  refine oiL KK X0 d24_7 (0 : Int32) 9 rfl rfl ?_
  refine oil KK X0 d24_9 (2 : Int32) 10 rfl rfl ?_
  refine oin KK X0 d24_10 13 rfl (tlt (by decide : (0 : Int32) < (2 : Int32))).2.1 ?_
  refine oal KK X0 d24_13 (.ref o1) 14 rfl rfl rfl ?_
  refine oiL KK X0 d24_14 (0 : Int32) 16 rfl rfl ?_
  obtain ⟨cl1, Ar1, q1, S1, N1n, H1, G1⟩ := id Pm0
  have hin1 : ¬ ((0 : Int32) < 0 ∨ cl1.slots.size ≤ ((0 : Int32)).toNatClampNeg) := inb_of S1 ⟨by decide, by decide⟩
  have hat1 : cl1.slots[((0 : Int32)).toNatClampNeg]? = some (.int i2) := H1.at hin1 rfl
  refine step (s₁.setTop (mkF m 17 #[vr o1, vi 125, vi 0, vi 2, vi 125, vi 0] [(.int i2)])) (fun t k => X0.baloadBytes hx (j := (0 : Int32)) (v := (.int i2)) (by rw [e0]; exact Ar1.1) (State.isArrayOf_alike hZ.alike Ar1.2.1) Ar1.2.2 hin1 hat1 (g := (mkF m 16 #[vr o1, vi 125, vi 0, vi 2, vi 125, vi 0] [(.int 0), (.ref o1)])) rfl rfl (hb hby d24_16) t k) ?_
  refine oiL KK X0 d24_17 (125 : Int32) 19 rfl rfl ?_
  have hc19_2 : ¬ (i2 = (125 : Int32)) := hy3
  refine oiy KK X0 d24_19 25 (feq hc19_2).2 (by decide) rfl ?_
  refine oii KK X0 d24_25 #[vr o1, vi 125, vi 0, vi 2, vi 125, vi 1] 28 rfl rfl rfl ?_
  refine ogo KK X0 d24_28 7 (by decide) rfl ?_
  refine oiL KK X0 d24_7 (1 : Int32) 9 rfl rfl ?_
  refine oil KK X0 d24_9 (2 : Int32) 10 rfl rfl ?_
  refine oin KK X0 d24_10 13 rfl (tlt (by decide : (1 : Int32) < (2 : Int32))).2.1 ?_
  refine oal KK X0 d24_13 (.ref o1) 14 rfl rfl rfl ?_
  refine oiL KK X0 d24_14 (1 : Int32) 16 rfl rfl ?_
  obtain ⟨cl3, Ar3, q3, S3, N3n, H3, G3⟩ := id Pm0
  have hin3 : ¬ ((1 : Int32) < 0 ∨ cl3.slots.size ≤ ((1 : Int32)).toNatClampNeg) := inb_of S3 ⟨by decide, by decide⟩
  have hat3 : cl3.slots[((1 : Int32)).toNatClampNeg]? = some (.int i3) := H3.at hin3 rfl
  refine step (s₁.setTop (mkF m 17 #[vr o1, vi 125, vi 0, vi 2, vi 125, vi 1] [(.int i3)])) (fun t k => X0.baloadBytes hx (j := (1 : Int32)) (v := (.int i3)) (by rw [e0]; exact Ar3.1) (State.isArrayOf_alike hZ.alike Ar3.2.1) Ar3.2.2 hin3 hat3 (g := (mkF m 16 #[vr o1, vi 125, vi 0, vi 2, vi 125, vi 1] [(.int 1), (.ref o1)])) rfl rfl (hb hby d24_16) t k) ?_
  refine oiL KK X0 d24_17 (125 : Int32) 19 rfl rfl ?_
  have hc19_4 : ¬ (i3 = (125 : Int32)) := hy5
  refine oiy KK X0 d24_19 25 (feq hc19_4).2 (by decide) rfl ?_
  refine oii KK X0 d24_25 #[vr o1, vi 125, vi 0, vi 2, vi 125, vi 2] 28 rfl rfl rfl ?_
  refine ogo KK X0 d24_28 7 (by decide) rfl ?_
  refine oiL KK X0 d24_7 (2 : Int32) 9 rfl rfl ?_
  refine oil KK X0 d24_9 (2 : Int32) 10 rfl rfl ?_
  refine oiy KK X0 d24_10 31 (flt (by decide : ¬ ((2 : Int32) < (2 : Int32)))).2.1 (by decide) rfl ?_
  refine oic KK X0 d24_31 (-1) 32 rfl rfl ?_
  refine fin (v := some (.int (-1))) X0 (fun h => by cases h) ?_ (by decide) (by decide) (fun fs hr => retI X0 hx hret (hb hby d24_32) hr)
  show Q24_88 Z o1 kc1 i2 i3 h0 n0 (some (.int (-1))) s₁.heap _
  rw [e0]
  exact ⟨rfl, N0, rfl⟩
theorem ef_20_87 (m : MethodId) (x0 : Addr) : entryFrame m #[(.ref x0), (.int 125), (.int 0), (.int 2)] 4 = mkF m 0 #[.val (.ref x0), .val (.int 125), .val (.int 0), .val (.int 2)] [] := by first | (simp [entryFrame, mkF, argsToLocals, Value.category]; done) | rfl
def Q20_87 (Z : State) (o1 : Addr) (kc1 : ClassId) (i2 : Int32) (i3 : Int32) (h0 : Heap) (n0 : Nat) (v : Option Value) (h : Heap) (L : List Loc) : Prop := v = some (.int (-1)) ∧ Fr n0 L ∧ h = h0
set_option maxRecDepth 65536 in
set_option maxHeartbeats 40000000 in
theorem rm20_87 (l : Launch) (Z : State) (a0 : Array Value) (hw : ∀ d ∈ tables_1, d.before a0 Z = true) (ws : List Jvm.Cond) (o1 : Addr) (kc1 : ClassId) (i2 : Int32) (i3 : Int32) (h0 : Heap) (n0 : Nat) (Z0 : n0 ≤ h0.size) (Pm0 : Arv Z h0 o1 kc1 .byte (2 : Int32) [(.int i2), (.int i3)] (.int 0)) (gn_o1 : n0 ≤ o1) (hy2 : ¬ (i2 = (123 : Int32))) (hy3 : ¬ (i2 = (125 : Int32))) (hy4 : ¬ (i3 = (123 : Int32))) (hy5 : ¬ (i3 = (125 : Int32)))  :
    OwnM l Z nM18 jdk_43_method_22_code 4 (some .int) ws ({ frames := 1, cells := 0, slots := 0, locals := 17 } : Room) #[(.ref o1), (.int 125), (.int 0), (.int 2)] h0 (Q20_87 Z o1 kc1 i2 i3 h0 n0) := by
  refine own_body (plainFor_of_name pn_3) ?_
  intro p e s m below meth c s₁ G hx hby hml hZ hown hnm hret X0 e0 step fin
  replace hown : s.vm.findClass "java/lang/StringLatin1" = some m.cls := hown
  have N0 := Fr.nil n0
  have KK : OwnK p e below c _ G := ⟨step, hx, hby⟩
  refine step (s₁.setTop (mkF m 0 #[vr o1, vi 125, vi 0, vi 2] [])) (fun t k => castTop (ef_20_87 m o1) k) ?_
  refine oil KK X0 d20_0 (125 : Int32) 1 rfl rfl ?_
  obtain ⟨_, _, ⟨T1, L1, k1, n1⟩, -, X1, ⟨Lc1, hQ1, l1, y1, z1⟩, st1⟩ := Jvm.LawKit.callS X0 hx (y := nM14) hown (mvT hZ (ow hw 93 rfl)) (mvT hZ (ow hw 94 rfl)) (mvT hZ (ow hw 39 rfl)) (mvT hZ (ow hw 95 rfl)) (by decide) (backOf (W := 0) (rm21_27 l Z a0 hw []  h0 n0 Z0 ) hZ (ow hw 95 rfl) (ow hw 39 rfl) (by decide) (by decide)) (g := (mkF m 1 #[vr o1, vi 125, vi 0, vi 2] [(.int 125)])) rfl (by rw [hml]; rfl) (argsL := [(.int 125)]) (rest := []) (lenOf pd_23 rfl) rfl (omw rfl rfl) (hb hby d20_1) (fun _ _ => ⟨rfl, e0, (by decide : 0 + 0 ≤ _), (by decide : 0 + 0 ≤ _)⟩)
  dsimp only [Pt.U, Pt.locs, Pt.cells, Pt.slots] at X1 l1 y1 z1 st1 hQ1
  subst l1 y1 z1
  obtain ⟨rfl, N1q, e1q⟩ := hQ1
  have N1 := Fr.app N0 N1q
  refine step (T1.setTop (mkF m 4 #[vr o1, vi 125, vi 0, vi 2] [(.int 1)])) (fun t k => st1 t k) ?_
  refine step (T1.setTop (mkF m 9 #[vr o1, vi 125, vi 0, vi 2] [])) (fun t k => XS.ifYes X1.here hx rfl (pc0 := 4) (pc' := 9) rfl (hb hby d20_4) rfl ((if0 _ _).trans (feq (by decide : ¬ ((1 : Int32) = (0 : Int32)))).2) (by decide) (by decide) k) ?_
  refine oil KK X1 d20_9 (0 : Int32) 10 rfl rfl ?_
  refine oic KK X1 d20_10 0 11 rfl rfl ?_
  obtain ⟨_, _, ⟨T2, L2, k2, n2⟩, -, X2, ⟨Lc2, hQ2, l2, y2, z2⟩, st2⟩ := Jvm.LawKit.callS X1 hx (y := nM15) hown (mvT hZ (ow hw 96 rfl)) (mvT hZ (ow hw 97 rfl)) (mvT hZ (ow hw 98 rfl)) (mvT hZ (ow hw 99 rfl)) (by decide) (backOf (W := 0) (rm22_21 l Z a0 hw []  h0 n0 Z0 ) hZ (ow hw 99 rfl) (ow hw 98 rfl) (by decide) (by decide)) (g := (mkF m 11 #[vr o1, vi 125, vi 0, vi 2] [(.int 0), (.int 0)])) rfl (by rw [hml]; rfl) (argsL := [(.int 0), (.int 0)]) (rest := []) (lenOf pd_19 rfl) rfl (omw rfl rfl) (hb hby d20_11) (fun _ _ => ⟨rfl, e1q, (by decide : 0 + 0 ≤ _), (by decide : 0 + 0 ≤ _)⟩)
  dsimp only [Pt.U, Pt.locs, Pt.cells, Pt.slots] at X2 l2 y2 z2 st2 hQ2
  subst l2 y2 z2
  obtain ⟨rfl, N2q, e2q⟩ := hQ2
  have N2 := Fr.app N1 N2q
  refine step (T2.setTop (mkF m 14 #[vr o1, vi 125, vi 0, vi 2] [(.int 0)])) (fun t k => st2 t k) ?_
  refine ois KK X2 d20_14 #[vr o1, vi 125, vi 0, vi 2] 15 rfl rfl ?_
  refine oil KK X2 d20_15 (2 : Int32) 16 rfl rfl ?_
  refine oal KK X2 d20_16 (.ref o1) 17 rfl rfl rfl ?_
  obtain ⟨cl3, Ar3, q3, S3, N3n, H3, G3⟩ := id Pm0
  refine step (T2.setTop (mkF m 18 #[vr o1, vi 125, vi 0, vi 2] [(.int 2), (.int 2)])) (fun t k => X2.arraylength hx (by rw [e2q]; exact Ar3.1) (State.isArrayOf_alike hZ.alike Ar3.2.1) (g := (mkF m 17 #[vr o1, vi 125, vi 0, vi 2] [(.ref o1), (.int 2)])) rfl rfl (hb hby d20_17) t (by rw [len_of S3 N3n]; exact k)) ?_
  obtain ⟨_, _, ⟨T4, L4, k4, n4⟩, -, X4, ⟨Lc4, hQ4, l4, y4, z4⟩, st4⟩ := Jvm.LawKit.callS X2 hx (y := nM16) hown (mvT hZ (ow hw 100 rfl)) (mvT hZ (ow hw 101 rfl)) (mvT hZ (ow hw 98 rfl)) (mvT hZ (ow hw 102 rfl)) (by decide) (backOf (W := 0) (rm23_83 l Z a0 hw []  h0 n0 Z0 ) hZ (ow hw 102 rfl) (ow hw 98 rfl) (by decide) (by decide)) (g := (mkF m 18 #[vr o1, vi 125, vi 0, vi 2] [(.int 2), (.int 2)])) rfl (by rw [hml]; rfl) (argsL := [(.int 2), (.int 2)]) (rest := []) (lenOf pd_19 rfl) rfl (omw rfl rfl) (hb hby d20_18) (fun _ _ => ⟨rfl, e2q, (by decide : 0 + 0 ≤ _), (by decide : 0 + 0 ≤ _)⟩)
  dsimp only [Pt.U, Pt.locs, Pt.cells, Pt.slots] at X4 l4 y4 z4 st4 hQ4
  subst l4 y4 z4
  obtain ⟨rfl, N4q, e4q⟩ := hQ4
  have N4 := Fr.app N2 N4q
  refine step (T4.setTop (mkF m 21 #[vr o1, vi 125, vi 0, vi 2] [(.int 2)])) (fun t k => st4 t k) ?_
  refine ois KK X4 d20_21 #[vr o1, vi 125, vi 0, vi 2] 22 rfl rfl ?_
  refine oil KK X4 d20_22 (0 : Int32) 23 rfl rfl ?_
  refine oil KK X4 d20_23 (2 : Int32) 24 rfl rfl ?_
  refine oiy KK X4 d20_24 29 (tlt (by decide : (0 : Int32) < (2 : Int32))).1 (by decide) rfl ?_
  refine oal KK X4 d20_29 (.ref o1) 30 rfl rfl rfl ?_
  refine oil KK X4 d20_30 (125 : Int32) 31 rfl rfl ?_
  refine oil KK X4 d20_31 (0 : Int32) 32 rfl rfl ?_
  refine oil KK X4 d20_32 (2 : Int32) 33 rfl rfl ?_
  obtain ⟨_, _, ⟨T5, L5, k5, n5⟩, -, X5, ⟨Lc5, hQ5, l5, y5, z5⟩, st5⟩ := Jvm.LawKit.callS X4 hx (y := nM17) hown (mvT hZ (ow hw 103 rfl)) (mvT hZ (ow hw 104 rfl)) (mvT hZ (ow hw 39 rfl)) (mvT hZ (ow hw 105 rfl)) (by decide) (backOf (W := 0) (rm24_88 l Z a0 hw [] o1 kc1 i2 i3 h0 n0 Z0 Pm0 gn_o1 hy2 hy3 hy4 hy5) hZ (ow hw 105 rfl) (ow hw 39 rfl) (by decide) (by decide)) (g := (mkF m 33 #[vr o1, vi 125, vi 0, vi 2] [(.int 2), (.int 0), (.int 125), (.ref o1)])) rfl (by rw [hml]; rfl) (argsL := [(.ref o1), (.int 125), (.int 0), (.int 2)]) (rest := []) (lenOf pd_21 rfl) rfl (omw rfl rfl) (hb hby d20_33) (fun _ _ => ⟨rfl, e4q, (by decide : 0 + 0 ≤ _), (by decide : 0 + 0 ≤ _)⟩)
  dsimp only [Pt.U, Pt.locs, Pt.cells, Pt.slots] at X5 l5 y5 z5 st5 hQ5
  subst l5 y5 z5
  obtain ⟨rfl, N5q, e5q⟩ := hQ5
  have N5 := Fr.app N4 N5q
  refine step (T5.setTop (mkF m 36 #[vr o1, vi 125, vi 0, vi 2] [(.int (-1))])) (fun t k => st5 t k) ?_
  refine fin (v := some (.int (-1))) X5 (fun h => by cases h) ?_ (by decide) (by decide) (fun fs hr => retI X5 hx hret (hb hby d20_36) hr)
  show Q20_87 Z o1 kc1 i2 i3 h0 n0 (some (.int (-1))) T5.heap _
  rw [e5q]
  exact ⟨rfl, N5, rfl⟩
def Q16_86 (Z : State) (o1 : Addr) (i1 : Int32) (o2 : Addr) (kc2 : ClassId) (i3 : Int32) (i4 : Int32) (h0 : Heap) (n0 : Nat) (v : Option Value) (h : Heap) (L : List Loc) : Prop := v = some (.int (-1)) ∧ Fr n0 L ∧ h = h0
set_option maxRecDepth 65536 in
set_option maxHeartbeats 40000000 in
theorem rm16_86 (l : Launch) (Z : State) (a0 : Array Value) (hw : ∀ d ∈ tables_1, d.before a0 Z = true) (ws : List Jvm.Cond) (o1 : Addr) (i1 : Int32) (o2 : Addr) (kc2 : ClassId) (i3 : Int32) (i4 : Int32) (h0 : Heap) (n0 : Nat) (Z0 : n0 ≤ h0.size) (S0 : Sta Z h0 "java/lang/String" "COMPACT_STRINGS" "Z" (.int i1)) (Pm1 : Exa Z h0 o1 "java/lang/String") (Pm2 : Fld Z h0 o1 "java/lang/String" "coder" "B" (.int 0)) (Pm3 : Fld Z h0 o1 "java/lang/String" "value" "[B" (.ref o2)) (Pm4 : Arv Z h0 o2 kc2 .byte (2 : Int32) [(.int i3), (.int i4)] (.int 0)) (gn_o1 : n0 ≤ o1) (ne_o1_o2 : o1 ≠ o2) (gn_o2 : n0 ≤ o2) (hy8 : ¬ (i1 = (0 : Int32))) (hy9 : ¬ (i3 = (123 : Int32))) (hy10 : ¬ (i3 = (125 : Int32))) (hy11 : ¬ (i4 = (123 : Int32))) (hy12 : ¬ (i4 = (125 : Int32)))  :
    OwnM l Z nM19 jdk_42_method_80_code 3 (some .int) ws ({ frames := 2, cells := 0, slots := 0, locals := 32 } : Room) #[(.ref o1), (.int 125), (.int 0)] h0 (Q16_86 Z o1 i1 o2 kc2 i3 i4 h0 n0) := by
  refine own_body (plainFor_of_name pn_1) ?_
  intro p e s m below meth c s₁ G hx hby hml hZ hown hnm hret X0 e0 step fin
  replace hown : s.vm.findClass "java/lang/String" = some m.cls := hown
  have N0 := Fr.nil n0
  have KK : OwnK p e below c _ G := ⟨step, hx, hby⟩
  refine step (s₁.setTop (mkF m 0 #[vr o1, vi 125, vi 0] [])) (fun t k => castTop (ef_16_25 m o1) k) ?_
  refine oal KK X0 d16_0 (.ref o1) 1 rfl rfl rfl ?_
  obtain ⟨cq1, kq1, q1a, q1b, q1c⟩ := isOf hZ e0 Pm1
  obtain ⟨_, _, ⟨T1, L1, k1, n1⟩, -, X1, ⟨Lc1, hQ1, l1, y1, z1⟩, st1⟩ := X0.virtualBack hx (y := nM11) (z := nM11) hown (mvT hZ (ow hw 75 rfl)) (mvT hZ (ow hw 76 rfl)) (notFace_of_selects (args := #[]) (mvT hZ (ow hw 78 rfl))) (mvT hZ (ow hw 78 rfl)) (mvT hZ (ow hw 77 rfl)) (by decide) (backOf (W := 0) (rm17_16 l Z a0 hw [] o1 i1 h0 n0 Z0 S0 Pm1 Pm2 gn_o1 hy8) hZ (ow hw 79 rfl) (ow hw 6 rfl) (by decide) (by decide)) q1a q1c (g := (mkF m 1 #[vr o1, vi 125, vi 0] [(.ref o1)])) rfl (by rw [hml]; rfl) (Steps.refl _) (argsL := []) (rest := []) (lenOf pd_15 rfl) rfl (omw rfl rfl) (hb hby d16_1) (fun _ _ => ⟨rfl, e0, (by decide : 0 + 0 ≤ _), (by decide : 0 + 0 ≤ _)⟩)
  dsimp only [Pt.U, Pt.locs, Pt.cells, Pt.slots] at X1 l1 y1 z1 st1 hQ1
  subst l1 y1 z1
  obtain ⟨rfl, N1q, e1q⟩ := hQ1
  have N1 := Fr.app N0 N1q
  refine step (T1.setTop (mkF m 4 #[vr o1, vi 125, vi 0] [(.int 1)])) (fun t k => st1.trans k) ?_
  refine step (T1.setTop (mkF m 7 #[vr o1, vi 125, vi 0] [])) (fun t k => XS.ifNo X1.here hx rfl (hb hby d16_4) rfl ((if0 _ _).trans (feq (by decide : ¬ ((1 : Int32) = (0 : Int32)))).1) k) ?_
  refine oal KK X1 d16_7 (.ref o1) 8 rfl rfl rfl ?_
  obtain ⟨T2, X2, e2, st2⟩ := getF X1 hx hZ hown (host := "") (Or.inl (ow hw 32 rfl)) Via.refl e1q Pm3 (g := (mkF m 8 #[vr o1, vi 125, vi 0] [(.ref o1)])) rfl rfl (hb hby d16_8)
  refine step (T2.setTop (mkF m 11 #[vr o1, vi 125, vi 0] [(.ref o2)])) (fun t k => st2 t k) ?_
  refine oil KK X2 d16_11 (125 : Int32) 12 rfl rfl ?_
  refine oil KK X2 d16_12 (0 : Int32) 13 rfl rfl ?_
  refine oal KK X2 d16_13 (.ref o1) 14 rfl rfl rfl ?_
  obtain ⟨cq3, kq3, q3a, q3b, q3c⟩ := isOf hZ e2 Pm1
  obtain ⟨_, _, ⟨T3, L3, k3, n3⟩, -, X3, ⟨Lc3, hQ3, l3, y3, z3⟩, st3⟩ := X2.virtualBack hx (y := nM13) (z := nM13) hown (mvT hZ (ow hw 80 rfl)) (mvT hZ (ow hw 81 rfl)) (notFace_of_selects (args := #[]) (mvT hZ (ow hw 83 rfl))) (mvT hZ (ow hw 83 rfl)) (mvT hZ (ow hw 82 rfl)) (by decide) (backOf (W := 3) (rm18_81 l Z a0 hw [] o1 i1 o2 kc2 i3 i4 h0 n0 Z0 S0 Pm1 Pm2 Pm3 Pm4 gn_o1 ne_o1_o2 gn_o2 hy8 hy9 hy10 hy11 hy12) hZ (ow hw 84 rfl) (ow hw 6 rfl) (by decide) (by decide)) q3a q3c (g := (mkF m 14 #[vr o1, vi 125, vi 0] [(.ref o1), (.int 0), (.int 125), (.ref o2)])) rfl (by rw [hml]; rfl) (Steps.refl _) (argsL := []) (rest := [(.int 0), (.int 125), (.ref o2)]) (lenOf pd_20 rfl) rfl (omw rfl rfl) (hb hby d16_14) (fun _ _ => ⟨rfl, e2, (by decide : 0 + 0 ≤ _), (by decide : 0 + 0 ≤ _)⟩)
  dsimp only [Pt.U, Pt.locs, Pt.cells, Pt.slots] at X3 l3 y3 z3 st3 hQ3
  subst l3 y3 z3
  obtain ⟨rfl, N3q, e3q⟩ := hQ3
  have N3 := Fr.app N1 N3q
  refine step (T3.setTop (mkF m 17 #[vr o1, vi 125, vi 0] [(.int 2), (.int 0), (.int 125), (.ref o2)])) (fun t k => st3.trans k) ?_
  obtain ⟨_, _, ⟨T4, L4, k4, n4⟩, -, X4, ⟨Lc4, hQ4, l4, y4, z4⟩, st4⟩ := Jvm.LawKit.callS X3 hx (y := nM18) hown (mvT hZ (ow hw 90 rfl)) (mvT hZ (ow hw 91 rfl)) (mvT hZ (ow hw 39 rfl)) (mvT hZ (ow hw 92 rfl)) (by decide) (backOf (W := 0) (rm20_87 l Z a0 hw [] o2 kc2 i3 i4 h0 n0 Z0 Pm4 gn_o2 hy9 hy10 hy11 hy12) hZ (ow hw 92 rfl) (ow hw 39 rfl) (by decide) (by decide)) (g := (mkF m 17 #[vr o1, vi 125, vi 0] [(.int 2), (.int 0), (.int 125), (.ref o2)])) rfl (by rw [hml]; rfl) (argsL := [(.ref o2), (.int 125), (.int 0), (.int 2)]) (rest := []) (lenOf pd_21 rfl) rfl (omw rfl rfl) (hb hby d16_17) (fun _ _ => ⟨rfl, e3q, (by decide : 0 + 0 ≤ _), (by decide : 0 + 0 ≤ _)⟩)
  dsimp only [Pt.U, Pt.locs, Pt.cells, Pt.slots] at X4 l4 y4 z4 st4 hQ4
  subst l4 y4 z4
  obtain ⟨rfl, N4q, e4q⟩ := hQ4
  have N4 := Fr.app N3 N4q
  refine step (T4.setTop (mkF m 20 #[vr o1, vi 125, vi 0] [(.int (-1))])) (fun t k => st4 t k) ?_
  refine ogo KK X4 d16_20 36 (by decide) rfl ?_
  refine fin (v := some (.int (-1))) X4 (fun h => by cases h) ?_ (by decide) (by decide) (fun fs hr => retI X4 hx hret (hb hby d16_36) hr)
  show Q16_86 Z o1 i1 o2 kc2 i3 i4 h0 n0 (some (.int (-1))) T4.heap _
  rw [e4q]
  exact ⟨rfl, N4, rfl⟩
def Q15_85 (Z : State) (o1 : Addr) (i1 : Int32) (o2 : Addr) (kc2 : ClassId) (i3 : Int32) (i4 : Int32) (h0 : Heap) (n0 : Nat) (v : Option Value) (h : Heap) (L : List Loc) : Prop := v = some (.int (-1)) ∧ Fr n0 L ∧ h = h0
set_option maxRecDepth 65536 in
set_option maxHeartbeats 40000000 in
theorem rm15_85 (l : Launch) (Z : State) (a0 : Array Value) (hw : ∀ d ∈ tables_1, d.before a0 Z = true) (ws : List Jvm.Cond) (o1 : Addr) (i1 : Int32) (o2 : Addr) (kc2 : ClassId) (i3 : Int32) (i4 : Int32) (h0 : Heap) (n0 : Nat) (Z0 : n0 ≤ h0.size) (S0 : Sta Z h0 "java/lang/String" "COMPACT_STRINGS" "Z" (.int i1)) (Pm1 : Exa Z h0 o1 "java/lang/String") (Pm2 : Fld Z h0 o1 "java/lang/String" "coder" "B" (.int 0)) (Pm3 : Fld Z h0 o1 "java/lang/String" "value" "[B" (.ref o2)) (Pm4 : Arv Z h0 o2 kc2 .byte (2 : Int32) [(.int i3), (.int i4)] (.int 0)) (gn_o1 : n0 ≤ o1) (ne_o1_o2 : o1 ≠ o2) (gn_o2 : n0 ≤ o2) (hy8 : ¬ (i1 = (0 : Int32))) (hy9 : ¬ (i3 = (123 : Int32))) (hy10 : ¬ (i3 = (125 : Int32))) (hy11 : ¬ (i4 = (123 : Int32))) (hy12 : ¬ (i4 = (125 : Int32)))  :
    OwnM l Z nM20 jdk_42_method_79_code 2 (some .int) ws ({ frames := 3, cells := 0, slots := 0, locals := 46 } : Room) #[(.ref o1), (.int 125)] h0 (Q15_85 Z o1 i1 o2 kc2 i3 i4 h0 n0) := by
  refine own_body (plainFor_of_name pn_1) ?_
  intro p e s m below meth c s₁ G hx hby hml hZ hown hnm hret X0 e0 step fin
  replace hown : s.vm.findClass "java/lang/String" = some m.cls := hown
  have N0 := Fr.nil n0
  have KK : OwnK p e below c _ G := ⟨step, hx, hby⟩
  refine step (s₁.setTop (mkF m 0 #[vr o1, vi 125] [])) (fun t k => castTop (ef_15_24 m o1) k) ?_
  refine oal KK X0 d15_0 (.ref o1) 1 rfl rfl rfl ?_
  refine oil KK X0 d15_1 (125 : Int32) 2 rfl rfl ?_
  refine oic KK X0 d15_2 0 3 rfl rfl ?_
  obtain ⟨cq1, kq1, q1a, q1b, q1c⟩ := isOf hZ e0 Pm1
  obtain ⟨_, _, ⟨T1, L1, k1, n1⟩, -, X1, ⟨Lc1, hQ1, l1, y1, z1⟩, st1⟩ := X0.virtualBack hx (y := nM19) (z := nM19) hown (mvT hZ (ow hw 70 rfl)) (mvT hZ (ow hw 71 rfl)) (notFace_of_selects (args := #[]) (mvT hZ (ow hw 73 rfl))) (mvT hZ (ow hw 73 rfl)) (mvT hZ (ow hw 72 rfl)) (by decide) (backOf (W := 0) (rm16_86 l Z a0 hw [] o1 i1 o2 kc2 i3 i4 h0 n0 Z0 S0 Pm1 Pm2 Pm3 Pm4 gn_o1 ne_o1_o2 gn_o2 hy8 hy9 hy10 hy11 hy12) hZ (ow hw 74 rfl) (ow hw 6 rfl) (by decide) (by decide)) q1a q1c (g := (mkF m 3 #[vr o1, vi 125] [(.int 0), (.int 125), (.ref o1)])) rfl (by rw [hml]; rfl) (Steps.refl _) (argsL := [(.int 125), (.int 0)]) (rest := []) (lenOf pd_19 rfl) rfl (omw rfl rfl) (hb hby d15_3) (fun _ _ => ⟨rfl, e0, (by decide : 0 + 0 ≤ _), (by decide : 0 + 0 ≤ _)⟩)
  dsimp only [Pt.U, Pt.locs, Pt.cells, Pt.slots] at X1 l1 y1 z1 st1 hQ1
  subst l1 y1 z1
  obtain ⟨rfl, N1q, e1q⟩ := hQ1
  have N1 := Fr.app N0 N1q
  refine step (T1.setTop (mkF m 6 #[vr o1, vi 125] [(.int (-1))])) (fun t k => st1.trans k) ?_
  refine fin (v := some (.int (-1))) X1 (fun h => by cases h) ?_ (by decide) (by decide) (fun fs hr => retI X1 hx hret (hb hby d15_6) hr)
  show Q15_85 Z o1 i1 o2 kc2 i3 i4 h0 n0 (some (.int (-1))) T1.heap _
  rw [e1q]
  exact ⟨rfl, N1, rfl⟩
def Q13_77 (Z : State) (o1 : Addr) (o2 : Addr) (i1 : Int32) (o3 : Addr) (kc2 : ClassId) (i3 : Int32) (i4 : Int32) (h0 : Heap) (n0 : Nat) (v : Option Value) (h : Heap) (L : List Loc) : Prop := v = some (.ref o2) ∧ Fr n0 L ∧ h = h0
set_option maxRecDepth 65536 in
set_option maxHeartbeats 40000000 in
theorem rm13_77 (l : Launch) (Z : State) (a0 : Array Value) (hw : ∀ d ∈ tables_1, d.before a0 Z = true) (ws : List Jvm.Cond) (o1 : Addr) (o2 : Addr) (i1 : Int32) (o3 : Addr) (kc2 : ClassId) (i3 : Int32) (i4 : Int32) (h0 : Heap) (n0 : Nat) (Z0 : n0 ≤ h0.size) (S0 : Sta Z h0 "java/lang/String" "COMPACT_STRINGS" "Z" (.int i1)) (Pm1 : Exa Z h0 o2 "java/lang/String") (Pm2 : Fld Z h0 o2 "java/lang/String" "coder" "B" (.int 0)) (Pm3 : Fld Z h0 o2 "java/lang/String" "value" "[B" (.ref o3)) (Pm4 : Arv Z h0 o3 kc2 .byte (2 : Int32) [(.int i3), (.int i4)] (.int 0)) (gn_o2 : n0 ≤ o2) (ne_o2_o3 : o2 ≠ o3) (gn_o3 : n0 ≤ o3) (hy8 : ¬ (i1 = (0 : Int32))) (hy9 : ¬ (i3 = (123 : Int32))) (hy10 : ¬ (i3 = (125 : Int32))) (hy11 : ¬ (i4 = (123 : Int32))) (hy12 : ¬ (i4 = (125 : Int32)))  :
    OwnM l Z nM21 prog_2_method_6_code 2 (some (.object "java/lang/String")) ws ({ frames := 4, cells := 0, slots := 0, locals := 59 } : Room) #[(.ref o1), (.ref o2)] h0 (Q13_77 Z o1 o2 i1 o3 kc2 i3 i4 h0 n0) := by
  refine own_body (plainFor_of_name pn_4) ?_
  intro p e s m below meth c s₁ G hx hby hml hZ hown hnm hret X0 e0 step fin
  replace hown : s.vm.findClass "com/example/dibs/dibs/core/Keyspace" = some m.cls := hown
  have N0 := Fr.nil n0
  have KK : OwnK p e below c _ G := ⟨step, hx, hby⟩
  refine step (s₁.setTop (mkF m 0 #[vr o1, vr o2] [])) (fun t k => castTop (ef_2_2 m o1 o2) k) ?_
  refine oal KK X0 d13_0 (.ref o2) 1 rfl rfl rfl ?_
  refine step (s₁.setTop (mkF m 4 #[vr o1, vr o2] [])) (fun t k => XS.ifnullNo X0.here hx rfl (hb hby d13_1) rfl k) ?_
  refine oal KK X0 d13_4 (.ref o2) 5 rfl rfl rfl ?_
  obtain ⟨cq1, kq1, q1a, q1b, q1c⟩ := isOf hZ e0 Pm1
  obtain ⟨_, _, ⟨T1, L1, k1, n1⟩, -, X1, ⟨Lc1, hQ1, l1, y1, z1⟩, st1⟩ := X0.virtualBack hx (y := nM10) (z := nM10) hown (mvT hZ (ow hw 60 rfl)) (mvT hZ (ow hw 61 rfl)) (notFace_of_selects (args := #[]) (mvT hZ (ow hw 63 rfl))) (mvT hZ (ow hw 63 rfl)) (mvT hZ (ow hw 62 rfl)) (by decide) (backOf (W := 0) (rm14_78 l Z a0 hw [] o2 o3 kc2 i3 i4 h0 n0 Z0 Pm1 Pm3 Pm4 gn_o2 ne_o2_o3 gn_o3 hy9 hy10 hy11 hy12) hZ (ow hw 64 rfl) (ow hw 6 rfl) (by decide) (by decide)) q1a q1c (g := (mkF m 5 #[vr o1, vr o2] [(.ref o2)])) rfl (by rw [hml]; rfl) (Steps.refl _) (argsL := []) (rest := []) (lenOf pd_15 rfl) rfl (omw rfl rfl) (hb hby d13_5) (fun _ _ => ⟨rfl, e0, (by decide : 0 + 0 ≤ _), (by decide : 0 + 0 ≤ _)⟩)
  dsimp only [Pt.U, Pt.locs, Pt.cells, Pt.slots] at X1 l1 y1 z1 st1 hQ1
  subst l1 y1 z1
  obtain ⟨rfl, N1q, e1q⟩ := hQ1
  have N1 := Fr.app N0 N1q
  refine step (T1.setTop (mkF m 8 #[vr o1, vr o2] [(.int 0)])) (fun t k => st1.trans k) ?_
  refine step (T1.setTop (mkF m 43 #[vr o1, vr o2] [])) (fun t k => XS.ifYes X1.here hx rfl (pc0 := 8) (pc' := 43) rfl (hb hby d13_8) rfl ((if0 _ _).trans (teq (by decide : (0 : Int32) = (0 : Int32))).1) (by decide) (by decide) k) ?_
  refine oal KK X1 d13_43 (.ref o2) 44 rfl rfl rfl ?_
  refine obi KK X1 d13_44 123 46 rfl rfl ?_
  obtain ⟨cq2, kq2, q2a, q2b, q2c⟩ := isOf hZ e1q Pm1
  obtain ⟨_, _, ⟨T2, L2, k2, n2⟩, -, X2, ⟨Lc2, hQ2, l2, y2, z2⟩, st2⟩ := X1.virtualBack hx (y := nM20) (z := nM20) hown (mvT hZ (ow hw 65 rfl)) (mvT hZ (ow hw 66 rfl)) (notFace_of_selects (args := #[]) (mvT hZ (ow hw 68 rfl))) (mvT hZ (ow hw 68 rfl)) (mvT hZ (ow hw 67 rfl)) (by decide) (backOf (W := 0) (rm15_79 l Z a0 hw [] o2 i1 o3 kc2 i3 i4 h0 n0 Z0 S0 Pm1 Pm2 Pm3 Pm4 gn_o2 ne_o2_o3 gn_o3 hy8 hy9 hy10 hy11 hy12) hZ (ow hw 69 rfl) (ow hw 6 rfl) (by decide) (by decide)) q2a q2c (g := (mkF m 46 #[vr o1, vr o2] [(.int 123), (.ref o2)])) rfl (by rw [hml]; rfl) (Steps.refl _) (argsL := [(.int 123)]) (rest := []) (lenOf pd_18 rfl) rfl (omw rfl rfl) (hb hby d13_46) (fun _ _ => ⟨rfl, e1q, (by decide : 0 + 0 ≤ _), (by decide : 0 + 0 ≤ _)⟩)
  dsimp only [Pt.U, Pt.locs, Pt.cells, Pt.slots] at X2 l2 y2 z2 st2 hQ2
  subst l2 y2 z2
  obtain ⟨rfl, N2q, e2q⟩ := hQ2
  have N2 := Fr.app N1 N2q
  refine step (T2.setTop (mkF m 49 #[vr o1, vr o2] [(.int (-1))])) (fun t k => st2.trans k) ?_
  refine step (T2.setTop (mkF m 52 #[vr o1, vr o2] [])) (fun t k => XS.ifNo X2.here hx rfl (hb hby d13_49) rfl ((if0 _ _).trans (tlt (by decide : (-1 : Int32) < (0 : Int32))).2.1) k) ?_
  refine oal KK X2 d13_52 (.ref o2) 53 rfl rfl rfl ?_
  refine obi KK X2 d13_53 125 55 rfl rfl ?_
  obtain ⟨cq3, kq3, q3a, q3b, q3c⟩ := isOf hZ e2q Pm1
  obtain ⟨_, _, ⟨T3, L3, k3, n3⟩, -, X3, ⟨Lc3, hQ3, l3, y3, z3⟩, st3⟩ := X2.virtualBack hx (y := nM20) (z := nM20) hown (mvT hZ (ow hw 65 rfl)) (mvT hZ (ow hw 66 rfl)) (notFace_of_selects (args := #[]) (mvT hZ (ow hw 68 rfl))) (mvT hZ (ow hw 68 rfl)) (mvT hZ (ow hw 67 rfl)) (by decide) (backOf (W := 0) (rm15_85 l Z a0 hw [] o2 i1 o3 kc2 i3 i4 h0 n0 Z0 S0 Pm1 Pm2 Pm3 Pm4 gn_o2 ne_o2_o3 gn_o3 hy8 hy9 hy10 hy11 hy12) hZ (ow hw 69 rfl) (ow hw 6 rfl) (by decide) (by decide)) q3a q3c (g := (mkF m 55 #[vr o1, vr o2] [(.int 125), (.ref o2)])) rfl (by rw [hml]; rfl) (Steps.refl _) (argsL := [(.int 125)]) (rest := []) (lenOf pd_18 rfl) rfl (omw rfl rfl) (hb hby d13_55) (fun _ _ => ⟨rfl, e2q, (by decide : 0 + 0 ≤ _), (by decide : 0 + 0 ≤ _)⟩)
  dsimp only [Pt.U, Pt.locs, Pt.cells, Pt.slots] at X3 l3 y3 z3 st3 hQ3
  subst l3 y3 z3
  obtain ⟨rfl, N3q, e3q⟩ := hQ3
  have N3 := Fr.app N2 N3q
  refine step (T3.setTop (mkF m 58 #[vr o1, vr o2] [(.int (-1))])) (fun t k => st3.trans k) ?_
  refine step (T3.setTop (mkF m 97 #[vr o1, vr o2] [])) (fun t k => XS.ifYes X3.here hx rfl (pc0 := 58) (pc' := 97) rfl (hb hby d13_58) rfl ((if0 _ _).trans (tlt (by decide : (-1 : Int32) < (0 : Int32))).1) (by decide) (by decide) k) ?_
  refine oal KK X3 d13_97 (.ref o2) 98 rfl rfl rfl ?_
  refine fin (v := some (.ref o2)) X3 (fun h => by cases h) ?_ (by decide) (by decide) (fun fs hr => X3.areturnOut hx rfl hret rfl (hb hby d13_98) hr)
  show Q13_77 Z o1 o2 i1 o3 kc2 i3 i4 h0 n0 (some (.ref o2)) T3.heap _
  rw [e3q]
  exact ⟨rfl, N3, rfl⟩
def Q12_76 (Z : State) (o1 : Addr) (i1 : Int32) (o2 : Addr) (kc2 : ClassId) (i3 : Int32) (i4 : Int32) (h0 : Heap) (n0 : Nat) (v : Option Value) (h : Heap) (L : List Loc) : Prop := ∃ (b1 : Addr), v = some (.ref b1) ∧ Fr n0 L ∧ Keep h0 h [] ∧ h0.size ≤ b1 ∧ Exa Z h b1 "com/example/dibs/dibs/core/Keyspace" ∧ Fld Z h b1 "com/example/dibs/dibs/core/Keyspace" "prefix" "Ljava/lang/String;" (.ref o1)
set_option maxRecDepth 65536 in
set_option maxHeartbeats 40000000 in
theorem rm12_76 (l : Launch) (Z : State) (a0 : Array Value) (hw : ∀ d ∈ tables_1, d.before a0 Z = true) (ws : List Jvm.Cond) (o1 : Addr) (i1 : Int32) (o2 : Addr) (kc2 : ClassId) (i3 : Int32) (i4 : Int32) (h0 : Heap) (n0 : Nat) (Z0 : n0 ≤ h0.size) (S0 : Sta Z h0 "java/lang/String" "COMPACT_STRINGS" "Z" (.int i1)) (Pm1 : Exa Z h0 o1 "java/lang/String") (Pm2 : Fld Z h0 o1 "java/lang/String" "coder" "B" (.int 0)) (Pm3 : Fld Z h0 o1 "java/lang/String" "value" "[B" (.ref o2)) (Pm4 : Arv Z h0 o2 kc2 .byte (2 : Int32) [(.int i3), (.int i4)] (.int 0)) (gn_o1 : n0 ≤ o1) (ne_o1_o2 : o1 ≠ o2) (gn_o2 : n0 ≤ o2) (hy8 : ¬ (i1 = (0 : Int32))) (hy9 : ¬ (i3 = (123 : Int32))) (hy10 : ¬ (i3 = (125 : Int32))) (hy11 : ¬ (i4 = (123 : Int32))) (hy12 : ¬ (i4 = (125 : Int32)))  :
    OwnMH l Z nM23 prog_2_method_3_code 1 (some (.object "com/example/dibs/dibs/core/Keyspace")) ws ({ frames := 5, cells := 3, slots := 29, locals := 74 } : Room) #[(.ref o1)] h0 own_EL (Q12_76 Z o1 i1 o2 kc2 i3 i4 h0 n0) := by
  refine own_bodyH (own_EWs hw) (plainFor_of_name pn_4) ?_
  intro p e s m below meth c s₁ G vm0 k0 hx hby hml hZ hown hnm hret hS hk hCH0 X0 e0 step fin
  replace hown : vm0.findClass "com/example/dibs/dibs/core/Keyspace" = some m.cls := hown
  have N0 := Fr.nil n0
  have KK : OwnK p e below c _ G := ⟨step, hx, hby⟩
  have C0 := CHr.refl hCH0
  refine step (s₁.setTop (mkF m 0 #[vr o1] [])) (fun t k => castTop (ef_14_13 m o1) k) ?_
  obtain ⟨T1, h1, X1, e1, E1, A1, D1, -, st1⟩ := newO X0 hx hZ hown (ow hw 52 rfl) (ow hw 53 rfl) (ow hw 50 rfl) e0 (g := (mkF m 0 #[vr o1] [])) rfl (hb hby d12_0) (by decide) (by decide)
  obtain ⟨b1, g1⟩ : ∃ z, z = h0.size := ⟨_, rfl⟩
  rw [← g1] at A1 D1 st1
  have ne_o1_b1 : o1 ≠ b1 := Nat.ne_of_lt (Nat.lt_of_lt_of_le Pm1.lt (Nat.le_of_eq g1.symm))
  have ne_o2_b1 : o2 ≠ b1 := Nat.ne_of_lt (Nat.lt_of_lt_of_le Pm4.lt (Nat.le_of_eq g1.symm))
  have gn_b1 : n0 ≤ b1 := Nat.le_trans Z0 (Nat.le_of_eq g1.symm)
  have sz_b1 : h0.size ≤ b1 := Nat.le_of_eq g1.symm
  have Sf1_b1 : Safe Z own_EL vm0 h0 b1 := Safe.new (Nat.le_of_eq g1.symm)
  have K1 : Keep h0 h1 [] := (Keep.refl h0 []).ext E1
  have F_prefix_b1 : Fld Z h1 b1 "com/example/dibs/dibs/core/Keyspace" "prefix" "Ljava/lang/String;" .null := D1 (Or.inr (ow hw 111 rfl)) (ty := (.object "java/lang/String")) (by decide)
  refine step (T1.setTop (mkF m 3 #[vr o1] [(.ref b1)])) (fun t k => st1 t k) ?_
  refine odu KK X1 d12_3 4 rfl rfl ?_
  have C3 := C0.trans (CHr.ext E1 C0.1)
  have Sf3_b1 := Safe.ext E1 C0.1 Sf1_b1
  have hl2_b1 := A1.lt
  obtain ⟨a2, T2, h2, kk2, X2, e2, E2, hS2, hk2, hZ2, hown2, hC2, -, st2⟩ := ldcOH X1 hx hZ hown (ow hw 54 rfl) (own_wS hw) e1 hS (Nat.le_trans hk E1.1) (own_EWs hw) C3.1 (g := (mkF m 4 #[vr o1] [(.ref b1), (.ref b1)])) rfl (hb hby d12_4) (n := 24) (by decide) (by decide) (by decide) (by decide)
  replace hS := hS2
  replace hZ : Z.Warmed39 T2.vm := hZ2
  replace hown : T2.vm.findClass "com/example/dibs/dibs/core/Keyspace" = some m.cls := hown2
  have K2 : Keep h0 h2 [] := K1.ext E2
  have C2 := C3.trans hC2
  have Sf2_b1 := hC2.safe hl2_b1 Sf3_b1
  refine step (T2.setTop (mkF m 6 #[vr o1] [(.ref a2), (.ref b1), (.ref b1)])) (fun t k => st2 t k) ?_
  refine oal KK X2 d12_6 (.ref o1) 7 rfl rfl rfl ?_
  have f4 := ((S0.ext E1).ext E2)
  have f5 := ((Pm1.ext E1).ext E2)
  have f6 := ((Pm2.ext E1).ext E2)
  have f7 := ((Pm3.ext E1).ext E2)
  have f8 := ((Pm4.ext E1).ext E2)
  obtain ⟨_, _, ⟨T9, L9, k9, n9⟩, -, X9, ⟨Lc9, hQ9, l9, y9, z9⟩, st9⟩ := Jvm.LawKit.callS X2 hx (y := nM21) hown (mvT hZ (ow hw 57 rfl)) (mvT hZ (ow hw 58 rfl)) (mvT hZ (ow hw 50 rfl)) (mvT hZ (ow hw 59 rfl)) (by decide) (backOf (W := 2) (rm13_77 l Z a0 hw [] a2 o1 i1 o2 kc2 i3 i4 h2 n0 (Nat.le_trans Z0 K2.1) f4 f5 f6 f7 f8 gn_o1 ne_o1_o2 gn_o2 hy8 hy9 hy10 hy11 hy12) hZ (ow hw 59 rfl) (ow hw 50 rfl) (by decide) (by decide)) (g := (mkF m 7 #[vr o1] [(.ref o1), (.ref a2), (.ref b1), (.ref b1)])) rfl (by rw [hml]; rfl) (argsL := [(.ref a2), (.ref o1)]) (rest := [(.ref b1), (.ref b1)]) (lenOf pd_4 rfl) rfl (omw rfl rfl) (hb hby d12_7) (fun _ _ => ⟨rfl, e2, (by decide : 3 + 0 ≤ _), (by decide : 29 + 0 ≤ _)⟩)
  dsimp only [Pt.U, Pt.locs, Pt.cells, Pt.slots] at X9 l9 y9 z9 st9 hQ9
  subst l9 y9 z9
  obtain ⟨rfl, N9q, e9q⟩ := hQ9
  have N9 := Fr.app N0 N9q
  refine step (T9.setTop (mkF m 10 #[vr o1] [(.ref o1), (.ref b1), (.ref b1)])) (fun t k => st9 t k) ?_
  have f10 := (A1.ext E2)
  have f11 := (F_prefix_b1.ext E2)
  obtain ⟨_, _, ⟨T12, L12, k12, n12⟩, -, X12, ⟨Lc12, hQ12, l12, y12, z12⟩, st12⟩ := X9.specialBack hx (y := nM22) rfl hown (mvT hZ (ow hw 106 rfl)) (mvT hZ (ow hw 107 rfl)) (mvT hZ (ow hw 108 rfl)) (by decide) (backOf (W := 1) (rm25_29 l Z a0 hw [] b1 o1 i1 o2 h2 n0 (Nat.le_trans Z0 K2.1) f4 f10 f11 f5 f6 f7 gn_b1 (Ne.symm ne_o1_b1) (Ne.symm ne_o2_b1) gn_o1 ne_o1_o2 gn_o2 hy8) hZ (ow hw 108 rfl) (ow hw 50 rfl) (by decide) (by decide)) (g := (mkF m 10 #[vr o1] [(.ref o1), (.ref b1), (.ref b1)])) rfl (by rw [hml]; rfl) (Steps.refl _) (a := b1) (argsL := [(.ref o1)]) (rest := [(.ref b1)]) (lenOf pd_14 rfl) rfl (omw rfl rfl) (hb hby d12_10) (fun _ _ => ⟨rfl, e9q, (by decide : 3 + 0 ≤ _), (by decide : 29 + 0 ≤ _)⟩)
  dsimp only [Pt.U, Pt.locs, Pt.cells, Pt.slots] at X12 l12 y12 z12 st12 hQ12
  subst l12 y12 z12
  obtain ⟨h12, e12⟩ : ∃ z, T12.heap = z := ⟨_, rfl⟩
  rw [e12] at hQ12
  obtain ⟨rfl, N12q, K12q, q0_12⟩ := hQ12
  have N12 := Fr.app N9 N12q
  have K12 : Keep h0 h12 [] := K2.trans K12q (allS (Or.inr sz_b1) all0)
  have f13 := own_staK f4 K12q (allS (own_exaP f10) all0)
  refine step (T12.setTop (mkF m 13 #[vr o1] [(.ref b1)])) (fun t k => st12.trans k) ?_
  have C14 := C2.trans (CHr.keep K12q (allS Sf2_b1 all0) C2.1)
  have Sf14_b1 := Safe.keep K12q (allS Sf2_b1 all0) C2.1 Sf2_b1
  have f15 := (f10.keep K12q)
  refine fin (v := some (.ref b1)) X12 hS (Nat.le_trans (Nat.le_trans hk2 K12q.1) (Nat.le_of_eq (congrArg Array.size e12.symm))) hZ (by rw [e12]; exact C14) (fun h => by cases h) ?_ (by decide) (by decide) (fun fs hr => X12.areturnOut hx rfl hret rfl (hb hby d12_13) hr)
  show Q12_76 Z o1 i1 o2 kc2 i3 i4 h0 n0 (some (.ref b1)) T12.heap _
  rw [e12]
  exact ⟨b1, rfl, N12, K12, sz_b1, f15, q0_12⟩
def Q35_93 (Z : State) (o1 : Addr) (o2 : Addr) (i1 : Int32) (i2 : Int32) (o3 : Addr) (kc3 : ClassId) (vs4 : List Value) (kc5 : ClassId) (i6 : Int32) (i7 : Int32) (h0 : Heap) (n0 : Nat) (v : Option Value) (h : Heap) (L : List Loc) : Prop := v = none ∧ Fr n0 L ∧ Keep h0 h [o2] ∧ Arv Z h o2 kc3 .byte (16 : Int32) (vs4 ++ [(.int i6), (.int i7)]) (.int 0)
set_option maxRecDepth 65536 in
set_option maxHeartbeats 40000000 in
theorem rm35_93 (l : Launch) (Z : State) (a0 : Array Value) (hw : ∀ d ∈ tables_1, d.before a0 Z = true) (ws : List Jvm.Cond) (o1 : Addr) (o2 : Addr) (i1 : Int32) (i2 : Int32) (o3 : Addr) (kc3 : ClassId) (vs4 : List Value) (kc5 : ClassId) (i6 : Int32) (i7 : Int32) (h0 : Heap) (n0 : Nat) (Z0 : n0 ≤ h0.size) (S0 : Sta Z h0 "java/lang/String" "COMPACT_STRINGS" "Z" (.int i2)) (Pm1 : Exa Z h0 o1 "java/lang/String") (Pm2 : Fld Z h0 o1 "java/lang/String" "coder" "B" (.int 0)) (Pm3 : Fld Z h0 o1 "java/lang/String" "value" "[B" (.ref o3)) (Pm4 : Arv Z h0 o2 kc3 .byte (16 : Int32) vs4 (.int 0)) (Pm5 : Arv Z h0 o3 kc5 .byte (2 : Int32) [(.int i6), (.int i7)] (.int 0)) (gn_o1 : n0 ≤ o1) (ne_o1_o2 : o1 ≠ o2) (ne_o1_o3 : o1 ≠ o3) (gn_o2 : n0 ≤ o2) (ne_o2_o3 : o2 ≠ o3) (gn_o3 : n0 ≤ o3) (hy12 : ¬ ((0 : Int32) < ((i1 + (2 : Int32)) - (16 : Int32)))) (hy13 : ¬ (i1 < (0 : Int32))) (hy14 : i1.toNatClampNeg + (2 : Int32).toNatClampNeg ≤ (16 : Int32).toNatClampNeg) (hy15 : ¬ (i2 = (0 : Int32))) (hy16 : ¬ (i6 = (123 : Int32))) (hy17 : ¬ (i6 = (125 : Int32))) (hy18 : ¬ (i7 = (123 : Int32))) (hy19 : ¬ (i7 = (125 : Int32))) (hy20 : vs4.length = i1.toNatClampNeg)  :
    OwnM l Z nM29 jdk_42_method_147_code 4 none ws ({ frames := 1, cells := 0, slots := 0, locals := 18 } : Room) #[(.ref o1), (.ref o2), (.int i1), (.int 0)] h0 (Q35_93 Z o1 o2 i1 i2 o3 kc3 vs4 kc5 i6 i7 h0 n0) := by
  refine own_body (plainFor_of_name pn_1) ?_
  intro p e s m below meth c s₁ G hx hby hml hZ hown hnm hret X0 e0 step fin
  replace hown : s.vm.findClass "java/lang/String" = some m.cls := hown
  have N0 := Fr.nil n0
  have KK : OwnK p e below c _ G := ⟨step, hx, hby⟩
  refine step (s₁.setTop (mkF m 0 #[vr o1, vr o2, vi i1, vi 0] [])) (fun t k => castTop (ef_35_39 m o1 o2 i1) k) ?_
  refine oal KK X0 d35_0 (.ref o1) 1 rfl rfl rfl ?_
  obtain ⟨cq1, kq1, q1a, q1b, q1c⟩ := isOf hZ e0 Pm1
  obtain ⟨_, _, ⟨T1, L1, k1, n1⟩, -, X1, ⟨Lc1, hQ1, l1, y1, z1⟩, st1⟩ := X0.virtualBack hx (y := nM12) (z := nM12) hown (mvT hZ (ow hw 85 rfl)) (mvT hZ (ow hw 86 rfl)) (notFace_of_selects (args := #[]) (mvT hZ (ow hw 88 rfl))) (mvT hZ (ow hw 88 rfl)) (mvT hZ (ow hw 87 rfl)) (by decide) (backOf (W := 0) (rm19_18 l Z a0 hw [] o1 i2 h0 n0 Z0 S0 Pm1 Pm2 gn_o1 hy15) hZ (ow hw 89 rfl) (ow hw 6 rfl) (by decide) (by decide)) q1a q1c (g := (mkF m 1 #[vr o1, vr o2, vi i1, vi 0] [(.ref o1)])) rfl (by rw [hml]; rfl) (Steps.refl _) (argsL := []) (rest := []) (lenOf pd_22 rfl) rfl (omw rfl rfl) (hb hby d35_1) (fun _ _ => ⟨rfl, e0, (by decide : 0 + 0 ≤ _), (by decide : 0 + 0 ≤ _)⟩)
  dsimp only [Pt.U, Pt.locs, Pt.cells, Pt.slots] at X1 l1 y1 z1 st1 hQ1
  subst l1 y1 z1
  obtain ⟨rfl, N1q, e1q⟩ := hQ1
  have N1 := Fr.app N0 N1q
  refine step (T1.setTop (mkF m 4 #[vr o1, vr o2, vi i1, vi 0] [(.int 0)])) (fun t k => st1.trans k) ?_
  refine oil KK X1 d35_4 (0 : Int32) 5 rfl rfl ?_
  refine oin KK X1 d35_5 8 rfl (teq (by decide : (0 : Int32) = (0 : Int32))).2 ?_
  refine oal KK X1 d35_8 (.ref o1) 9 rfl rfl rfl ?_
  obtain ⟨T2, X2, e2, st2⟩ := getF X1 hx hZ hown (host := "") (Or.inl (ow hw 32 rfl)) Via.refl e1q Pm3 (g := (mkF m 9 #[vr o1, vr o2, vi i1, vi 0] [(.ref o1)])) rfl rfl (hb hby d35_9)
  refine step (T2.setTop (mkF m 12 #[vr o1, vr o2, vi i1, vi 0] [(.ref o3)])) (fun t k => st2 t k) ?_
  refine oic KK X2 d35_12 0 13 rfl rfl ?_
  refine oal KK X2 d35_13 (.ref o2) 14 rfl rfl rfl ?_
  refine oil KK X2 d35_14 i1 15 rfl rfl ?_
  refine oil KK X2 d35_15 (0 : Int32) 16 rfl rfl ?_
  refine step (T2.setTop (mkF m 17 #[vr o1, vr o2, vi i1, vi 0] [(.int (i1 <<< ((0 : Int32) &&& 31))), (.ref o2), (.int 0), (.ref o3)])) (fun t k => XS.ishl X2.here hx rfl (hb hby d35_16) rfl k) ?_
  rw [own_shl0 i1]
  refine oal KK X2 d35_17 (.ref o1) 18 rfl rfl rfl ?_
  obtain ⟨T3, X3, e3, st3⟩ := getF X2 hx hZ hown (host := "") (Or.inl (ow hw 32 rfl)) Via.refl e2 Pm3 (g := (mkF m 18 #[vr o1, vr o2, vi i1, vi 0] [(.ref o1), (.int i1), (.ref o2), (.int 0), (.ref o3)])) rfl rfl (hb hby d35_18)
  refine step (T3.setTop (mkF m 21 #[vr o1, vr o2, vi i1, vi 0] [(.ref o3), (.int i1), (.ref o2), (.int 0), (.ref o3)])) (fun t k => st3 t k) ?_
  obtain ⟨cl4, Ar4, q4, S4, N4n, H4, G4⟩ := id Pm5
  refine step (T3.setTop (mkF m 22 #[vr o1, vr o2, vi i1, vi 0] [(.int 2), (.int i1), (.ref o2), (.int 0), (.ref o3)])) (fun t k => X3.arraylength hx (by rw [e3]; exact Ar4.1) (State.isArrayOf_alike hZ.alike Ar4.2.1) (g := (mkF m 21 #[vr o1, vr o2, vi i1, vi 0] [(.ref o3), (.int i1), (.ref o2), (.int 0), (.ref o3)])) rfl rfl (hb hby d35_21) t (by rw [len_of S4 N4n]; exact k)) ?_
  obtain ⟨T5, h5, L5, X5, e5, N5, K5q, Vq5, st5⟩ := cpA X3 hx hZ hown (ow hw 174 rfl) (ow hw 177 rfl) (ow hw 175 rfl) (ow hw 176 rfl) e3 Pm5 (Pm4.pad (pad_rep vs4 (.int 0) 2)) (us := [(.int i6), (.int i7)]) (Or.inl ⟨rfl, rfl⟩) (by decide) hy13 (by decide) (by decide) hy14 rfl (own_hl hy20) N1 gn_o2 (g := (mkF m 22 #[vr o1, vr o2, vi i1, vi 0] [(.int 2), (.int i1), (.ref o2), (.int 0), (.ref o3)])) rfl (by rw [hml]; rfl) (rest := []) rfl (hb hby d35_22) (by decide) (W := 0) (omw rfl rfl) (by decide)
  have K5 : Keep h0 h5 [o2] := (Keep.refl h0 [o2]).trans K5q (allS (Or.inl (List.mem_of_getElem? (i := 0) rfl)) all0)
  have f6 := own_staK S0 K5q (allS (own_arvP Pm4) all0)
  have V5 : Arv Z h5 o2 kc3 .byte (16 : Int32) (vs4 ++ [(.int i6), (.int i7)]) (.int 0) := own_arvA hy20 rfl Vq5
  refine step (T5.setTop (mkF m 25 #[vr o1, vr o2, vi i1, vi 0] [])) (fun t k => st5 t k) ?_
  refine ogo KK X5 d35_25 43 (by decide) rfl ?_
  refine fin (v := none) X5 (fun _ => rfl) ?_ (by decide) (by decide) (fun fs hr => X5.returnOut hx hret (hb hby d35_43) hr)
  show Q35_93 Z o1 o2 i1 i2 o3 kc3 vs4 kc5 i6 i7 h0 n0 (none) T5.heap _
  rw [e5]
  exact ⟨rfl, N5, K5, V5⟩
def Q33_92 (Z : State) (o1 : Addr) (i1 : Int32) (o2 : Addr) (i2 : Int32) (o3 : Addr) (o4 : Addr) (kc3 : ClassId) (vs4 : List Value) (kc5 : ClassId) (i6 : Int32) (i7 : Int32) (h0 : Heap) (n0 : Nat) (v : Option Value) (h : Heap) (L : List Loc) : Prop := v = none ∧ Fr n0 L ∧ Keep h0 h [o3] ∧ Arv Z h o3 kc3 .byte (16 : Int32) (vs4 ++ [(.int i6), (.int i7)]) (.int 0)
set_option maxRecDepth 65536 in
set_option maxHeartbeats 40000000 in
theorem rm33_92 (l : Launch) (Z : State) (a0 : Array Value) (hw : ∀ d ∈ tables_1, d.before a0 Z = true) (ws : List Jvm.Cond) (o1 : Addr) (i1 : Int32) (o2 : Addr) (i2 : Int32) (o3 : Addr) (o4 : Addr) (kc3 : ClassId) (vs4 : List Value) (kc5 : ClassId) (i6 : Int32) (i7 : Int32) (h0 : Heap) (n0 : Nat) (Z0 : n0 ≤ h0.size) (S0 : Sta Z h0 "java/lang/String" "COMPACT_STRINGS" "Z" (.int i2)) (Pm1 : Exa Z h0 o1 "java/lang/StringBuilder") (Pm2 : Fld Z h0 o1 "java/lang/AbstractStringBuilder" "coder" "B" (.int 0)) (Pm3 : Fld Z h0 o1 "java/lang/AbstractStringBuilder" "value" "[B" (.ref o3)) (Pm4 : Exa Z h0 o2 "java/lang/String") (Pm5 : Fld Z h0 o2 "java/lang/String" "coder" "B" (.int 0)) (Pm6 : Fld Z h0 o2 "java/lang/String" "value" "[B" (.ref o4)) (Pm7 : Arv Z h0 o3 kc3 .byte (16 : Int32) vs4 (.int 0)) (Pm8 : Arv Z h0 o4 kc5 .byte (2 : Int32) [(.int i6), (.int i7)] (.int 0)) (gn_o1 : n0 ≤ o1) (ne_o1_o2 : o1 ≠ o2) (ne_o1_o3 : o1 ≠ o3) (ne_o1_o4 : o1 ≠ o4) (gn_o2 : n0 ≤ o2) (ne_o2_o3 : o2 ≠ o3) (ne_o2_o4 : o2 ≠ o4) (gn_o3 : n0 ≤ o3) (ne_o3_o4 : o3 ≠ o4) (gn_o4 : n0 ≤ o4) (hy19 : ¬ ((0 : Int32) < ((i1 + (2 : Int32)) - (16 : Int32)))) (hy20 : ¬ (i2 = (0 : Int32))) (hy21 : ¬ (i1 < (0 : Int32))) (hy22 : i1.toNatClampNeg + (2 : Int32).toNatClampNeg ≤ (16 : Int32).toNatClampNeg) (hy23 : ¬ (i6 = (123 : Int32))) (hy24 : ¬ (i6 = (125 : Int32))) (hy25 : ¬ (i7 = (123 : Int32))) (hy26 : ¬ (i7 = (125 : Int32))) (hy27 : vs4.length = i1.toNatClampNeg)  :
    OwnM l Z nM30 jdk_68_method_73_code 3 none ws ({ frames := 2, cells := 0, slots := 0, locals := 33 } : Room) #[(.ref o1), (.int i1), (.ref o2)] h0 (Q33_92 Z o1 i1 o2 i2 o3 o4 kc3 vs4 kc5 i6 i7 h0 n0) := by
  refine own_body (plainFor_of_name pn_6) ?_
  intro p e s m below meth c s₁ G hx hby hml hZ hown hnm hret X0 e0 step fin
  replace hown : s.vm.findClass "java/lang/AbstractStringBuilder" = some m.cls := hown
  have N0 := Fr.nil n0
  have KK : OwnK p e below c _ G := ⟨step, hx, hby⟩
  refine step (s₁.setTop (mkF m 0 #[vr o1, vi i1, vr o2] [])) (fun t k => castTop (ef_33_37 m o1 i1 o2) k) ?_
  refine oal KK X0 d33_0 (.ref o1) 1 rfl rfl rfl ?_
  refine oal KK X0 d33_1 (.ref o2) 2 rfl rfl rfl ?_
  obtain ⟨cq1, q1, q1'⟩ := Pm1.cell
  obtain ⟨_, _, ⟨T1, L1, k1, n1⟩, -, X1, ⟨Lc1, hQ1, l1, y1, z1⟩, st1⟩ := X0.privateBack hx (y := nM28) hown (mvT hZ (ow hw 163 rfl)) (mvT hZ (ow hw 164 rfl)) (own_selP2 (mvT hZ (ow hw 166 rfl)) (mvT hZ (ow hw 164 rfl)) (Cond.privateMethod_at (mvP hZ (ow hw 165 rfl) (args := #[]))) (by decide)) (Cond.privateMethod_at (mvP hZ (ow hw 165 rfl) (args := #[]))) (mvT hZ (ow hw 167 rfl)) (by decide) (backOf (W := 0) (rm34_38 l Z a0 hw [] o1 o2 i2 h0 n0 Z0 S0 Pm1 Pm2 Pm4 Pm5 gn_o1 ne_o1_o2 gn_o2 hy20) hZ (ow hw 167 rfl) (ow hw 132 rfl) (by decide) (by decide)) (g := (mkF m 2 #[vr o1, vi i1, vr o2] [(.ref o2), (.ref o1)])) rfl (by rw [hml]; rfl) (Steps.refl _) (a := o1) (by rw [e0]; exact q1) q1' (argsL := [(.ref o2)]) (rest := []) (lenOf pd_14 rfl) rfl (omw rfl rfl) (hb hby d33_2) (fun _ _ => ⟨rfl, e0, (by decide : 0 + 0 ≤ _), (by decide : 0 + 0 ≤ _)⟩)
  dsimp only [Pt.U, Pt.locs, Pt.cells, Pt.slots] at X1 l1 y1 z1 st1 hQ1
  subst l1 y1 z1
  obtain ⟨rfl, N1q, e1q⟩ := hQ1
  have N1 := Fr.app N0 N1q
  refine step (T1.setTop (mkF m 5 #[vr o1, vi i1, vr o2] [])) (fun t k => st1.trans k) ?_
  refine oal KK X1 d33_5 (.ref o2) 6 rfl rfl rfl ?_
  refine oal KK X1 d33_6 (.ref o1) 7 rfl rfl rfl ?_
  obtain ⟨T2, X2, e2, st2⟩ := getF X1 hx hZ hown (host := "") (Or.inl (ow hw 136 rfl)) Via.refl e1q Pm3 (g := (mkF m 7 #[vr o1, vi i1, vr o2] [(.ref o1), (.ref o2)])) rfl rfl (hb hby d33_7)
  refine step (T2.setTop (mkF m 10 #[vr o1, vi i1, vr o2] [(.ref o3), (.ref o2)])) (fun t k => st2 t k) ?_
  refine oil KK X2 d33_10 i1 11 rfl rfl ?_
  refine oal KK X2 d33_11 (.ref o1) 12 rfl rfl rfl ?_
  obtain ⟨T3, X3, e3, st3⟩ := getF X2 hx hZ hown (host := "") (Or.inl (ow hw 138 rfl)) Via.refl e2 Pm2 (g := (mkF m 12 #[vr o1, vi i1, vr o2] [(.ref o1), (.int i1), (.ref o3), (.ref o2)])) rfl rfl (hb hby d33_12)
  refine step (T3.setTop (mkF m 15 #[vr o1, vi i1, vr o2] [(.int 0), (.int i1), (.ref o3), (.ref o2)])) (fun t k => st3 t k) ?_
  obtain ⟨cq4, kq4, q4a, q4b, q4c⟩ := isOf hZ e3 Pm4
  obtain ⟨_, _, ⟨T4, L4, k4, n4⟩, -, X4, ⟨Lc4, hQ4, l4, y4, z4⟩, st4⟩ := X3.virtualBack hx (y := nM29) (z := nM29) hown (mvT hZ (ow hw 169 rfl)) (mvT hZ (ow hw 170 rfl)) (notFace_of_selects (args := #[]) (mvT hZ (ow hw 172 rfl))) (mvT hZ (ow hw 172 rfl)) (mvT hZ (ow hw 171 rfl)) (by decide) (backOf (W := 0) (rm35_93 l Z a0 hw [] o2 o3 i1 i2 o4 kc3 vs4 kc5 i6 i7 h0 n0 Z0 S0 Pm4 Pm5 Pm6 Pm7 Pm8 gn_o2 ne_o2_o3 ne_o2_o4 gn_o3 ne_o3_o4 gn_o4 hy19 hy21 hy22 hy20 hy23 hy24 hy25 hy26 hy27) hZ (ow hw 173 rfl) (ow hw 6 rfl) (by decide) (by decide)) q4a q4c (g := (mkF m 15 #[vr o1, vi i1, vr o2] [(.int 0), (.int i1), (.ref o3), (.ref o2)])) rfl (by rw [hml]; rfl) (Steps.refl _) (argsL := [(.ref o3), (.int i1), (.int 0)]) (rest := []) (lenOf pd_28 rfl) rfl (omw rfl rfl) (hb hby d33_15) (fun _ _ => ⟨rfl, e3, (by decide : 0 + 0 ≤ _), (by decide : 0 + 0 ≤ _)⟩)
  dsimp only [Pt.U, Pt.locs, Pt.cells, Pt.slots] at X4 l4 y4 z4 st4 hQ4
  subst l4 y4 z4
  obtain ⟨h4, e4⟩ : ∃ z, T4.heap = z := ⟨_, rfl⟩
  rw [e4] at hQ4
  obtain ⟨rfl, N4q, K4q, q0_4⟩ := hQ4
  have N4 := Fr.app N1 N4q
  have K4 : Keep h0 h4 [o3] := (Keep.refl h0 [o3]).trans K4q (allS (Or.inl (List.mem_of_getElem? (i := 0) rfl)) all0)
  have f5 := own_staK S0 K4q (allS (own_arvP Pm7) all0)
  refine step (T4.setTop (mkF m 18 #[vr o1, vi i1, vr o2] [])) (fun t k => st4.trans k) ?_
  refine fin (v := none) X4 (fun _ => rfl) ?_ (by decide) (by decide) (fun fs hr => X4.returnOut hx hret (hb hby d33_18) hr)
  show Q33_92 Z o1 i1 o2 i2 o3 o4 kc3 vs4 kc5 i6 i7 h0 n0 (none) T4.heap _
  rw [e4]
  exact ⟨rfl, N4, K4, q0_4⟩
def Q31_91 (Z : State) (o1 : Addr) (o2 : Addr) (i1 : Int32) (i2 : Int32) (o3 : Addr) (o4 : Addr) (kc3 : ClassId) (vs4 : List Value) (kc5 : ClassId) (i6 : Int32) (i7 : Int32) (h0 : Heap) (n0 : Nat) (v : Option Value) (h : Heap) (L : List Loc) : Prop := v = some (.ref o1) ∧ Fr n0 L ∧ Keep h0 h [o3, o1] ∧ Arv Z h o3 kc3 .byte (16 : Int32) (vs4 ++ [(.int i6), (.int i7)]) (.int 0) ∧ Fld Z h o1 "java/lang/AbstractStringBuilder" "coder" "B" (.int 0) ∧ Fld Z h o1 "java/lang/AbstractStringBuilder" "count" "I" (.int (i2 + (2 : Int32))) ∧ Fld Z h o1 "java/lang/AbstractStringBuilder" "value" "[B" (.ref o3)
set_option maxRecDepth 65536 in
set_option maxHeartbeats 40000000 in
theorem rm31_91 (l : Launch) (Z : State) (a0 : Array Value) (hw : ∀ d ∈ tables_1, d.before a0 Z = true) (ws : List Jvm.Cond) (o1 : Addr) (o2 : Addr) (i1 : Int32) (i2 : Int32) (o3 : Addr) (o4 : Addr) (kc3 : ClassId) (vs4 : List Value) (kc5 : ClassId) (i6 : Int32) (i7 : Int32) (h0 : Heap) (n0 : Nat) (Z0 : n0 ≤ h0.size) (S0 : Sta Z h0 "java/lang/String" "COMPACT_STRINGS" "Z" (.int i1)) (Pm1 : Exa Z h0 o1 "java/lang/StringBuilder") (Pm2 : Fld Z h0 o1 "java/lang/AbstractStringBuilder" "coder" "B" (.int 0)) (Pm3 : Fld Z h0 o1 "java/lang/AbstractStringBuilder" "count" "I" (.int i2)) (Pm4 : Fld Z h0 o1 "java/lang/AbstractStringBuilder" "value" "[B" (.ref o3)) (Pm5 : Exa Z h0 o2 "java/lang/String") (Pm6 : Fld Z h0 o2 "java/lang/String" "coder" "B" (.int 0)) (Pm7 : Fld Z h0 o2 "java/lang/String" "value" "[B" (.ref o4)) (Pm8 : Arv Z h0 o3 kc3 .byte (16 : Int32) vs4 (.int 0)) (Pm9 : Arv Z h0 o4 kc5 .byte (2 : Int32) [(.int i6), (.int i7)] (.int 0)) (gn_o1 : n0 ≤ o1) (ne_o1_o2 : o1 ≠ o2) (ne_o1_o3 : o1 ≠ o3) (ne_o1_o4 : o1 ≠ o4) (gn_o2 : n0 ≤ o2) (ne_o2_o3 : o2 ≠ o3) (ne_o2_o4 : o2 ≠ o4) (gn_o3 : n0 ≤ o3) (ne_o3_o4 : o3 ≠ o4) (gn_o4 : n0 ≤ o4) (hy20 : ¬ ((0 : Int32) < ((i2 + (2 : Int32)) - (16 : Int32)))) (hy21 : ¬ (i2 < (0 : Int32))) (hy22 : i2.toNatClampNeg + (2 : Int32).toNatClampNeg ≤ (16 : Int32).toNatClampNeg) (hy23 : ¬ (i1 = (0 : Int32))) (hy24 : ¬ (i6 = (123 : Int32))) (hy25 : ¬ (i6 = (125 : Int32))) (hy26 : ¬ (i7 = (123 : Int32))) (hy27 : ¬ (i7 = (125 : Int32))) (hy28 : vs4.length = i2.toNatClampNeg)  :
    OwnM l Z nM31 jdk_68_method_22_code 3 (some (.object "java/lang/AbstractStringBuilder")) ws ({ frames := 3, cells := 0, slots := 0, locals := 47 } : Room) #[(.ref o1), (.ref o2)] h0 (Q31_91 Z o1 o2 i1 i2 o3 o4 kc3 vs4 kc5 i6 i7 h0 n0) := by
  refine own_body (plainFor_of_name pn_6) ?_
  intro p e s m below meth c s₁ G hx hby hml hZ hown hnm hret X0 e0 step fin
  replace hown : s.vm.findClass "java/lang/AbstractStringBuilder" = some m.cls := hown
  have N0 := Fr.nil n0
  have KK : OwnK p e below c _ G := ⟨step, hx, hby⟩
  refine step (s₁.setTop (mkF m 0 #[vr o1, vr o2, .unset] [])) (fun t k => castTop (ef_31_35 m o1 o2) k) ?_
  refine oal KK X0 d31_0 (.ref o2) 1 rfl rfl rfl ?_
  refine step (s₁.setTop (mkF m 9 #[vr o1, vr o2, .unset] [])) (fun t k => XS.ifnonnullYes X0.here hx rfl (pc0 := 1) (pc' := 9) rfl (hb hby d31_1) rfl (by decide) (by decide) k) ?_
  refine oal KK X0 d31_9 (.ref o2) 10 rfl rfl rfl ?_
  obtain ⟨cq1, kq1, q1a, q1b, q1c⟩ := isOf hZ e0 Pm5
  obtain ⟨_, _, ⟨T1, L1, k1, n1⟩, -, X1, ⟨Lc1, hQ1, l1, y1, z1⟩, st1⟩ := X0.virtualBack hx (y := nM13) (z := nM13) hown (mvT hZ (ow hw 150 rfl)) (mvT hZ (ow hw 81 rfl)) (notFace_of_selects (args := #[]) (mvT hZ (ow hw 83 rfl))) (mvT hZ (ow hw 83 rfl)) (mvT hZ (ow hw 82 rfl)) (by decide) (backOf (W := 0) (rm18_81 l Z a0 hw [] o2 i1 o4 kc5 i6 i7 h0 n0 Z0 S0 Pm5 Pm6 Pm7 Pm9 gn_o2 ne_o2_o4 gn_o4 hy23 hy24 hy25 hy26 hy27) hZ (ow hw 84 rfl) (ow hw 6 rfl) (by decide) (by decide)) q1a q1c (g := (mkF m 10 #[vr o1, vr o2, .unset] [(.ref o2)])) rfl (by rw [hml]; rfl) (Steps.refl _) (argsL := []) (rest := []) (lenOf pd_20 rfl) rfl (omw rfl rfl) (hb hby d31_10) (fun _ _ => ⟨rfl, e0, (by decide : 0 + 0 ≤ _), (by decide : 0 + 0 ≤ _)⟩)
  dsimp only [Pt.U, Pt.locs, Pt.cells, Pt.slots] at X1 l1 y1 z1 st1 hQ1
  subst l1 y1 z1
  obtain ⟨rfl, N1q, e1q⟩ := hQ1
  have N1 := Fr.app N0 N1q
  refine step (T1.setTop (mkF m 13 #[vr o1, vr o2, .unset] [(.int 2)])) (fun t k => st1.trans k) ?_
  refine ois KK X1 d31_13 #[vr o1, vr o2, vi 2] 14 rfl rfl ?_
  refine oal KK X1 d31_14 (.ref o1) 15 rfl rfl rfl ?_
  refine oal KK X1 d31_15 (.ref o1) 16 rfl rfl rfl ?_
  obtain ⟨T2, X2, e2, st2⟩ := getF X1 hx hZ hown (host := "") (Or.inl (ow hw 151 rfl)) Via.refl e1q Pm3 (g := (mkF m 16 #[vr o1, vr o2, vi 2] [(.ref o1), (.ref o1)])) rfl rfl (hb hby d31_16)
  refine step (T2.setTop (mkF m 19 #[vr o1, vr o2, vi 2] [(.int i2), (.ref o1)])) (fun t k => st2 t k) ?_
  refine oil KK X2 d31_19 (2 : Int32) 20 rfl rfl ?_
  refine step (T2.setTop (mkF m 21 #[vr o1, vr o2, vi 2] [(.int (i2 + (2 : Int32))), (.ref o1)])) (fun t k => XS.iadd X2.here hx rfl (hb hby d31_20) rfl k) ?_
  obtain ⟨cq3, q3, q3'⟩ := Pm1.cell
  obtain ⟨_, _, ⟨T3, L3, k3, n3⟩, -, X3, ⟨Lc3, hQ3, l3, y3, z3⟩, st3⟩ := X2.privateBack hx (y := nM27) hown (mvT hZ (ow hw 153 rfl)) (mvT hZ (ow hw 154 rfl)) (own_selP2 (mvT hZ (ow hw 156 rfl)) (mvT hZ (ow hw 154 rfl)) (Cond.privateMethod_at (mvP hZ (ow hw 155 rfl) (args := #[]))) (by decide)) (Cond.privateMethod_at (mvP hZ (ow hw 155 rfl) (args := #[]))) (mvT hZ (ow hw 157 rfl)) (by decide) (backOf (W := 0) (rm32_44 l Z a0 hw [] o1 (i2 + (2 : Int32)) i2 o3 kc3 vs4 h0 n0 Z0 Pm1 Pm2 Pm3 Pm4 Pm8 gn_o1 ne_o1_o3 gn_o3 hy20 hy21 hy22 hy28) hZ (ow hw 157 rfl) (ow hw 132 rfl) (by decide) (by decide)) (g := (mkF m 21 #[vr o1, vr o2, vi 2] [(.int (i2 + (2 : Int32))), (.ref o1)])) rfl (by rw [hml]; rfl) (Steps.refl _) (a := o1) (by rw [e2]; exact q3) q3' (argsL := [(.int (i2 + (2 : Int32)))]) (rest := []) (lenOf pd_25 rfl) rfl (omw rfl rfl) (hb hby d31_21) (fun _ _ => ⟨rfl, e2, (by decide : 0 + 0 ≤ _), (by decide : 0 + 0 ≤ _)⟩)
  dsimp only [Pt.U, Pt.locs, Pt.cells, Pt.slots] at X3 l3 y3 z3 st3 hQ3
  subst l3 y3 z3
  obtain ⟨rfl, N3q, e3q⟩ := hQ3
  have N3 := Fr.app N1 N3q
  refine step (T3.setTop (mkF m 24 #[vr o1, vr o2, vi 2] [])) (fun t k => st3.trans k) ?_
  refine oal KK X3 d31_24 (.ref o1) 25 rfl rfl rfl ?_
  refine oal KK X3 d31_25 (.ref o1) 26 rfl rfl rfl ?_
  obtain ⟨T4, X4, e4, st4⟩ := getF X3 hx hZ hown (host := "") (Or.inl (ow hw 151 rfl)) Via.refl e3q Pm3 (g := (mkF m 26 #[vr o1, vr o2, vi 2] [(.ref o1), (.ref o1)])) rfl rfl (hb hby d31_26)
  refine step (T4.setTop (mkF m 29 #[vr o1, vr o2, vi 2] [(.int i2), (.ref o1)])) (fun t k => st4 t k) ?_
  refine oal KK X4 d31_29 (.ref o2) 30 rfl rfl rfl ?_
  obtain ⟨cq5, q5, q5'⟩ := Pm1.cell
  obtain ⟨_, _, ⟨T5, L5, k5, n5⟩, -, X5, ⟨Lc5, hQ5, l5, y5, z5⟩, st5⟩ := X4.privateBack hx (y := nM30) hown (mvT hZ (ow hw 158 rfl)) (mvT hZ (ow hw 159 rfl)) (own_selP2 (mvT hZ (ow hw 161 rfl)) (mvT hZ (ow hw 159 rfl)) (Cond.privateMethod_at (mvP hZ (ow hw 160 rfl) (args := #[]))) (by decide)) (Cond.privateMethod_at (mvP hZ (ow hw 160 rfl) (args := #[]))) (mvT hZ (ow hw 162 rfl)) (by decide) (backOf (W := 0) (rm33_92 l Z a0 hw [] o1 i2 o2 i1 o3 o4 kc3 vs4 kc5 i6 i7 h0 n0 Z0 S0 Pm1 Pm2 Pm4 Pm5 Pm6 Pm7 Pm8 Pm9 gn_o1 ne_o1_o2 ne_o1_o3 ne_o1_o4 gn_o2 ne_o2_o3 ne_o2_o4 gn_o3 ne_o3_o4 gn_o4 hy20 hy23 hy21 hy22 hy24 hy25 hy26 hy27 hy28) hZ (ow hw 162 rfl) (ow hw 132 rfl) (by decide) (by decide)) (g := (mkF m 30 #[vr o1, vr o2, vi 2] [(.ref o2), (.int i2), (.ref o1)])) rfl (by rw [hml]; rfl) (Steps.refl _) (a := o1) (by rw [e4]; exact q5) q5' (argsL := [(.int i2), (.ref o2)]) (rest := []) (lenOf pd_27 rfl) rfl (omw rfl rfl) (hb hby d31_30) (fun _ _ => ⟨rfl, e4, (by decide : 0 + 0 ≤ _), (by decide : 0 + 0 ≤ _)⟩)
  dsimp only [Pt.U, Pt.locs, Pt.cells, Pt.slots] at X5 l5 y5 z5 st5 hQ5
  subst l5 y5 z5
  obtain ⟨h5, e5⟩ : ∃ z, T5.heap = z := ⟨_, rfl⟩
  rw [e5] at hQ5
  obtain ⟨rfl, N5q, K5q, q0_5⟩ := hQ5
  have N5 := Fr.app N3 N5q
  have K5 : Keep h0 h5 [o3, o1] := (Keep.refl h0 [o3, o1]).trans K5q (allS (Or.inl (List.mem_of_getElem? (i := 0) rfl)) all0)
  have f6 := own_staK S0 K5q (allS (own_arvP Pm8) all0)
  refine step (T5.setTop (mkF m 33 #[vr o1, vr o2, vi 2] [])) (fun t k => st5.trans k) ?_
  refine oal KK X5 d31_33 (.ref o1) 34 rfl rfl rfl ?_
  refine odu KK X5 d31_34 35 rfl rfl ?_
  have f7 := (Pm3.keep K5q (ninS ne_o1_o3 nin0))
  obtain ⟨T8, X8, e8, st8⟩ := getF X5 hx hZ hown (host := "") (Or.inl (ow hw 151 rfl)) Via.refl e5 f7 (g := (mkF m 35 #[vr o1, vr o2, vi 2] [(.ref o1), (.ref o1)])) rfl rfl (hb hby d31_35)
  refine step (T8.setTop (mkF m 38 #[vr o1, vr o2, vi 2] [(.int i2), (.ref o1)])) (fun t k => st8 t k) ?_
  refine oil KK X8 d31_38 (2 : Int32) 39 rfl rfl ?_
  refine step (T8.setTop (mkF m 40 #[vr o1, vr o2, vi 2] [(.int (i2 + (2 : Int32))), (.ref o1)])) (fun t k => XS.iadd X8.here hx rfl (hb hby d31_39) rfl k) ?_
  have f9 := (Pm1.keep K5q)
  obtain ⟨T10, h10, X10, e10, W10, st10⟩ := putF X8 hx hZ hown (host := "") (Or.inl (ow hw 151 rfl)) Via.refl e8 f7 f9 (Or.inl (ow hw 152 rfl)) (ow hw 123 rfl) (ty := .int) (by decide) rfl rfl (g := (mkF m 40 #[vr o1, vr o2, vi 2] [(.int (i2 + (2 : Int32))), (.ref o1)])) rfl rfl (hb hby d31_40)
  have N10 := Fr.snoc X10 N5 gn_o1
  have K10 : Keep h0 h10 [o3, o1] := K5.wr W10 (Or.inl (List.mem_of_getElem? (i := 1) rfl))
  have F10 := f7.same W10
  refine step (T10.setTop (mkF m 43 #[vr o1, vr o2, vi 2] [])) (fun t k => st10 t k) ?_
  refine oal KK X10 d31_43 (.ref o1) 44 rfl rfl rfl ?_
  have f11 := (q0_5.other W10 (Ne.symm ne_o1_o3))
  have f12 := ((Pm2.keep K5q (ninS ne_o1_o3 nin0)).other W10 (Or.inr (slot_ne (Or.inl (ow hw 139 rfl)) (Or.inl (ow hw 152 rfl)) (by decide) (t := .byte) (t' := .int) (by decide) (by decide))))
  have f13 := ((Pm4.keep K5q (ninS ne_o1_o3 nin0)).other W10 (Or.inr (slot_ne (Or.inl (ow hw 137 rfl)) (Or.inl (ow hw 152 rfl)) (by decide) (t := (.array .byte)) (t' := .int) (by decide) (by decide))))
  refine fin (v := some (.ref o1)) X10 (fun h => by cases h) ?_ (by decide) (by decide) (fun fs hr => X10.areturnOut hx rfl hret rfl (hb hby d31_44) hr)
  show Q31_91 Z o1 o2 i1 i2 o3 o4 kc3 vs4 kc5 i6 i7 h0 n0 (some (.ref o1)) T10.heap _
  rw [e10]
  exact ⟨rfl, N10, K10, f11, f12, F10, f13⟩
def Q30_90 (Z : State) (o1 : Addr) (o2 : Addr) (i1 : Int32) (c1 : Int32) (o3 : Addr) (o4 : Addr) (kc2 : ClassId) (vs1 : List Value) (kc3 : ClassId) (i4 : Int32) (i5 : Int32) (h0 : Heap) (n0 : Nat) (v : Option Value) (h : Heap) (L : List Loc) : Prop := v = some (.ref o1) ∧ Fr n0 L ∧ Keep h0 h [o3, o1] ∧ Arv Z h o3 kc2 .byte (16 : Int32) (vs1 ++ [(.int i4), (.int i5)]) (.int 0) ∧ Fld Z h o1 "java/lang/AbstractStringBuilder" "coder" "B" (.int 0) ∧ Fld Z h o1 "java/lang/AbstractStringBuilder" "count" "I" (.int (c1 + (2 : Int32))) ∧ Fld Z h o1 "java/lang/AbstractStringBuilder" "value" "[B" (.ref o3)
set_option maxRecDepth 65536 in
set_option maxHeartbeats 40000000 in
theorem rm30_90 (l : Launch) (Z : State) (a0 : Array Value) (hw : ∀ d ∈ tables_1, d.before a0 Z = true) (ws : List Jvm.Cond) (o1 : Addr) (o2 : Addr) (i1 : Int32) (c1 : Int32) (o3 : Addr) (o4 : Addr) (kc2 : ClassId) (vs1 : List Value) (kc3 : ClassId) (i4 : Int32) (i5 : Int32) (h0 : Heap) (n0 : Nat) (Z0 : n0 ≤ h0.size) (S0 : Sta Z h0 "java/lang/String" "COMPACT_STRINGS" "Z" (.int i1)) (Pm1 : Exa Z h0 o1 "java/lang/StringBuilder") (Pm2 : Fld Z h0 o1 "java/lang/AbstractStringBuilder" "coder" "B" (.int 0)) (Pm3 : Fld Z h0 o1 "java/lang/AbstractStringBuilder" "count" "I" (.int c1)) (Pm4 : Fld Z h0 o1 "java/lang/AbstractStringBuilder" "value" "[B" (.ref o3)) (Pm5 : Exa Z h0 o2 "java/lang/String") (Pm6 : Fld Z h0 o2 "java/lang/String" "coder" "B" (.int 0)) (Pm7 : Fld Z h0 o2 "java/lang/String" "value" "[B" (.ref o4)) (Pm8 : Arv Z h0 o3 kc2 .byte (16 : Int32) vs1 (.int 0)) (Pm9 : Arv Z h0 o4 kc3 .byte (2 : Int32) [(.int i4), (.int i5)] (.int 0)) (gn_o1 : n0 ≤ o1) (ne_o1_o2 : o1 ≠ o2) (ne_o1_o3 : o1 ≠ o3) (ne_o1_o4 : o1 ≠ o4) (gn_o2 : n0 ≤ o2) (ne_o2_o3 : o2 ≠ o3) (ne_o2_o4 : o2 ≠ o4) (gn_o3 : n0 ≤ o3) (ne_o3_o4 : o3 ≠ o4) (gn_o4 : n0 ≤ o4) (hg_g1 : vs1.length = c1.toNatClampNeg) (hg_g2 : ¬ (c1 < (0 : Int32))) (hg_g3 : ¬ ((0 : Int32) < ((c1 + (2 : Int32)) - (16 : Int32)))) (hg_g4 : c1.toNatClampNeg + (2 : Int32).toNatClampNeg ≤ (16 : Int32).toNatClampNeg) (hy24 : ¬ (i1 = (0 : Int32))) (hy25 : ¬ (i4 = (123 : Int32))) (hy26 : ¬ (i4 = (125 : Int32))) (hy27 : ¬ (i5 = (123 : Int32))) (hy28 : ¬ (i5 = (125 : Int32)))  :
    OwnM l Z nM32 jdk_67_method_7_code 2 (some (.object "java/lang/StringBuilder")) ws ({ frames := 4, cells := 0, slots := 0, locals := 61 } : Room) #[(.ref o1), (.ref o2)] h0 (Q30_90 Z o1 o2 i1 c1 o3 o4 kc2 vs1 kc3 i4 i5 h0 n0) := by
  refine own_body (plainFor_of_name pn_5) ?_
  intro p e s m below meth c s₁ G hx hby hml hZ hown hnm hret X0 e0 step fin
  replace hown : s.vm.findClass "java/lang/StringBuilder" = some m.cls := hown
  have N0 := Fr.nil n0
  have KK : OwnK p e below c _ G := ⟨step, hx, hby⟩
  refine step (s₁.setTop (mkF m 0 #[vr o1, vr o2] [])) (fun t k => castTop (ef_2_2 m o1 o2) k) ?_
  refine oal KK X0 d30_0 (.ref o1) 1 rfl rfl rfl ?_
  refine oal KK X0 d30_1 (.ref o2) 2 rfl rfl rfl ?_
  obtain ⟨_, _, ⟨T1, L1, k1, n1⟩, -, X1, ⟨Lc1, hQ1, l1, y1, z1⟩, st1⟩ := superBack X0 hx hZ (y := nM31) hown (ow hw 145 rfl) (own_same (y := nM31) (ow hw 148 rfl) (ow hw 156 rfl) rfl (by decide)) (ow hw 146 rfl) (ow hw 147 rfl) (by decide) (backOf (W := 0) (rm31_91 l Z a0 hw [] o1 o2 i1 c1 o3 o4 kc2 vs1 kc3 i4 i5 h0 n0 Z0 S0 Pm1 Pm2 Pm3 Pm4 Pm5 Pm6 Pm7 Pm8 Pm9 gn_o1 ne_o1_o2 ne_o1_o3 ne_o1_o4 gn_o2 ne_o2_o3 ne_o2_o4 gn_o3 ne_o3_o4 gn_o4 hg_g3 hg_g2 hg_g4 hy24 hy25 hy26 hy27 hy28 hg_g1) hZ (ow hw 149 rfl) (ow hw 132 rfl) (by decide) (by decide)) e0 (Ins.self Pm1) (g := (mkF m 2 #[vr o1, vr o2] [(.ref o2), (.ref o1)])) rfl (by rw [hml]; rfl) (ow hw 149 rfl) (argsL := [(.ref o2)]) (rest := []) (lenOf pd_26 rfl) rfl (omw rfl rfl) (hb hby d30_2) (fun _ _ => ⟨rfl, e0, (by decide : 0 + 0 ≤ _), (by decide : 0 + 0 ≤ _)⟩)
  dsimp only [Pt.U, Pt.locs, Pt.cells, Pt.slots] at X1 l1 y1 z1 st1 hQ1
  subst l1 y1 z1
  obtain ⟨h1, e1⟩ : ∃ z, T1.heap = z := ⟨_, rfl⟩
  rw [e1] at hQ1
  obtain ⟨rfl, N1q, K1q, q0_1, q1_1, q2_1, q3_1⟩ := hQ1
  have N1 := Fr.app N0 N1q
  have K1 : Keep h0 h1 [o3, o1] := (Keep.refl h0 [o3, o1]).trans K1q (allS (Or.inl (List.mem_of_getElem? (i := 0) rfl)) (allS (Or.inl (List.mem_of_getElem? (i := 1) rfl)) all0))
  have f2 := own_staK S0 K1q (allS (own_arvP Pm8) (allS (own_exaP Pm1) all0))
  refine step (T1.setTop (mkF m 5 #[vr o1, vr o2] [(.ref o1)])) (fun t k => st1.trans k) ?_
  refine step (T1.setTop (mkF m 6 #[vr o1, vr o2] [])) (fun t k => XS.pop X1.here hx rfl (hb hby d30_5) rfl rfl k) ?_
  refine oal KK X1 d30_6 (.ref o1) 7 rfl rfl rfl ?_
  refine fin (v := some (.ref o1)) X1 (fun h => by cases h) ?_ (by decide) (by decide) (fun fs hr => X1.areturnOut hx rfl hret rfl (hb hby d30_7) hr)
  show Q30_90 Z o1 o2 i1 c1 o3 o4 kc2 vs1 kc3 i4 i5 h0 n0 (some (.ref o1)) T1.heap _
  rw [e1]
  exact ⟨rfl, N1, K1, q0_1, q1_1, q2_1, q3_1⟩
def Q41_98 (Z : State) (o1 : Addr) (h0 : Heap) (n0 : Nat) (v : Option Value) (h : Heap) (L : List Loc) : Prop := v = some (.int 8) ∧ Fr n0 L ∧ h = h0
set_option maxRecDepth 65536 in
set_option maxHeartbeats 40000000 in
theorem rm41_98 (l : Launch) (Z : State) (a0 : Array Value) (hw : ∀ d ∈ tables_1, d.before a0 Z = true) (ws : List Jvm.Cond) (o1 : Addr) (h0 : Heap) (n0 : Nat) (Z0 : n0 ≤ h0.size) (Pm0 : Exa Z h0 o1 "java/lang/StringBuilder") (Pm1 : Fld Z h0 o1 "java/lang/AbstractStringBuilder" "count" "I" (.int 8)) (gn_o1 : n0 ≤ o1)  :
    OwnM l Z nM34 jdk_68_method_6_code 1 (some .int) ws ({ frames := 0, cells := 0, slots := 0, locals := 0 } : Room) #[(.ref o1)] h0 (Q41_98 Z o1 h0 n0) := by
  refine own_body (plainFor_of_name pn_6) ?_
  intro p e s m below meth c s₁ G hx hby hml hZ hown hnm hret X0 e0 step fin
  replace hown : s.vm.findClass "java/lang/AbstractStringBuilder" = some m.cls := hown
  have N0 := Fr.nil n0
  have KK : OwnK p e below c _ G := ⟨step, hx, hby⟩
  refine step (s₁.setTop (mkF m 0 #[vr o1] [])) (fun t k => castTop (ef_14_13 m o1) k) ?_
  refine oal KK X0 d41_0 (.ref o1) 1 rfl rfl rfl ?_
  obtain ⟨T1, X1, e1, st1⟩ := getF X0 hx hZ hown (host := "") (Or.inl (ow hw 151 rfl)) Via.refl e0 Pm1 (g := (mkF m 1 #[vr o1] [(.ref o1)])) rfl rfl (hb hby d41_1)
  refine step (T1.setTop (mkF m 4 #[vr o1] [(.int 8)])) (fun t k => st1 t k) ?_
  refine fin (v := some (.int 8)) X1 (fun h => by cases h) ?_ (by decide) (by decide) (fun fs hr => retI X1 hx hret (hb hby d41_4) hr)
  show Q41_98 Z o1 h0 n0 (some (.int 8)) T1.heap _
  rw [e1]
  exact ⟨rfl, N0, rfl⟩
def Q40_97 (Z : State) (o1 : Addr) (i1 : Int32) (o2 : Addr) (kc2 : ClassId) (i3 : Int32) (i4 : Int32) (i5 : Int32) (i6 : Int32) (h0 : Heap) (n0 : Nat) (v : Option Value) (h : Heap) (L : List Loc) : Prop := v = some (.int 8) ∧ Fr n0 L ∧ h = h0
set_option maxRecDepth 65536 in
set_option maxHeartbeats 40000000 in
theorem rm40_97 (l : Launch) (Z : State) (a0 : Array Value) (hw : ∀ d ∈ tables_1, d.before a0 Z = true) (ws : List Jvm.Cond) (o1 : Addr) (i1 : Int32) (o2 : Addr) (kc2 : ClassId) (i3 : Int32) (i4 : Int32) (i5 : Int32) (i6 : Int32) (h0 : Heap) (n0 : Nat) (Z0 : n0 ≤ h0.size) (S0 : Sta Z h0 "java/lang/String" "COMPACT_STRINGS" "Z" (.int i1)) (Pm1 : Exa Z h0 o1 "java/lang/StringBuilder") (Pm2 : Fld Z h0 o1 "java/lang/AbstractStringBuilder" "coder" "B" (.int 0)) (Pm3 : Fld Z h0 o1 "java/lang/AbstractStringBuilder" "count" "I" (.int 8)) (Pm4 : Fld Z h0 o1 "java/lang/AbstractStringBuilder" "value" "[B" (.ref o2)) (Pm5 : Arv Z h0 o2 kc2 .byte (16 : Int32) [(.int i3), (.int i4), (.int 58), (.int 123), (.int i5), (.int 125), (.int 58), (.int i6)] (.int 0)) (gn_o1 : n0 ≤ o1) (ne_o1_o2 : o1 ≠ o2) (gn_o2 : n0 ≤ o2) (hy9 : ¬ (i1 = (0 : Int32))) (hy10 : ¬ (i3 = (123 : Int32))) (hy11 : ¬ (i3 = (125 : Int32))) (hy12 : ¬ (i4 = (123 : Int32))) (hy13 : ¬ (i4 = (125 : Int32))) (hy14 : ¬ (i5 = (123 : Int32))) (hy15 : ¬ (i5 = (125 : Int32))) (hy16 : ¬ (i6 = (123 : Int32))) (hy17 : ¬ (i6 = (125 : Int32)))  :
    OwnM l Z nM35 jdk_67_method_93_code 1 (some .int) ws ({ frames := 1, cells := 0, slots := 0, locals := 12 } : Room) #[(.ref o1)] h0 (Q40_97 Z o1 i1 o2 kc2 i3 i4 i5 i6 h0 n0) := by
  refine own_body (plainFor_of_name pn_5) ?_
  intro p e s m below meth c s₁ G hx hby hml hZ hown hnm hret X0 e0 step fin
  replace hown : s.vm.findClass "java/lang/StringBuilder" = some m.cls := hown
  have N0 := Fr.nil n0
  have KK : OwnK p e below c _ G := ⟨step, hx, hby⟩
  refine step (s₁.setTop (mkF m 0 #[vr o1] [])) (fun t k => castTop (ef_14_13 m o1) k) ?_
  refine oal KK X0 d40_0 (.ref o1) 1 rfl rfl rfl ?_
  obtain ⟨_, _, ⟨T1, L1, k1, n1⟩, -, X1, ⟨Lc1, hQ1, l1, y1, z1⟩, st1⟩ := superBack X0 hx hZ (y := nM34) hown (ow hw 203 rfl) (own_same (y := nM34) (ow hw 198 rfl) (ow hw 156 rfl) rfl (by decide)) (ow hw 199 rfl) (ow hw 147 rfl) (by decide) (backOf (W := 0) (rm41_98 l Z a0 hw [] o1 h0 n0 Z0 Pm1 Pm3 gn_o1) hZ (ow hw 204 rfl) (ow hw 132 rfl) (by decide) (by decide)) e0 (Ins.self Pm1) (g := (mkF m 1 #[vr o1] [(.ref o1)])) rfl (by rw [hml]; rfl) (ow hw 204 rfl) (argsL := []) (rest := []) (lenOf pd_20 rfl) rfl (omw rfl rfl) (hb hby d40_1) (fun _ _ => ⟨rfl, e0, (by decide : 0 + 0 ≤ _), (by decide : 0 + 0 ≤ _)⟩)
  dsimp only [Pt.U, Pt.locs, Pt.cells, Pt.slots] at X1 l1 y1 z1 st1 hQ1
  subst l1 y1 z1
  obtain ⟨rfl, N1q, e1q⟩ := hQ1
  have N1 := Fr.app N0 N1q
  refine step (T1.setTop (mkF m 4 #[vr o1] [(.int 8)])) (fun t k => st1.trans k) ?_
  refine fin (v := some (.int 8)) X1 (fun h => by cases h) ?_ (by decide) (by decide) (fun fs hr => retI X1 hx hret (hb hby d40_4) hr)
  show Q40_97 Z o1 i1 o2 kc2 i3 i4 i5 i6 h0 n0 (some (.int 8)) T1.heap _
  rw [e1q]
  exact ⟨rfl, N1, rfl⟩
theorem ef_45_101 (m : MethodId)  : entryFrame m #[(.int 0), (.int 8)] 2 = mkF m 0 #[.val (.int 0), .val (.int 8)] [] := by first | (simp [entryFrame, mkF, argsToLocals, Value.category]; done) | rfl
def Q45_101 (Z : State)  (h0 : Heap) (n0 : Nat) (v : Option Value) (h : Heap) (L : List Loc) : Prop := v = none ∧ Fr n0 L ∧ h = h0
set_option maxRecDepth 65536 in
set_option maxHeartbeats 40000000 in
theorem rm45_101 (l : Launch) (Z : State) (a0 : Array Value) (hw : ∀ d ∈ tables_1, d.before a0 Z = true) (ws : List Jvm.Cond)  (h0 : Heap) (n0 : Nat) (Z0 : n0 ≤ h0.size)  :
    OwnM l Z nM37 jdk_65_method_131_code 2 none ws ({ frames := 0, cells := 0, slots := 0, locals := 0 } : Room) #[(.int 0), (.int 8)] h0 (Q45_101 Z  h0 n0) := by
  refine own_body (plainFor_of_name pn_7) ?_
  intro p e s m below meth c s₁ G hx hby hml hZ hown hnm hret X0 e0 step fin
  replace hown : s.vm.findClass "java/util/Arrays" = some m.cls := hown
  have N0 := Fr.nil n0
  have KK : OwnK p e below c _ G := ⟨step, hx, hby⟩
  refine step (s₁.setTop (mkF m 0 #[vi 0, vi 8] [])) (fun t k => castTop (ef_45_101 m ) k) ?_
  refine oil KK X0 d45_0 (8 : Int32) 1 rfl rfl ?_
  refine oil KK X0 d45_1 (0 : Int32) 2 rfl rfl ?_
  refine oiy KK X0 d45_2 37 (flt (by decide : ¬ ((8 : Int32) < (0 : Int32)))).2.1 (by decide) rfl ?_
  refine fin (v := none) X0 (fun _ => rfl) ?_ (by decide) (by decide) (fun fs hr => X0.returnOut hx hret (hb hby d45_37) hr)
  show Q45_101 Z  h0 n0 (none) s₁.heap _
  rw [e0]
  exact ⟨rfl, N0, rfl⟩
theorem ef_23_102 (m : MethodId)  : entryFrame m #[(.int 16), (.int 8)] 2 = mkF m 0 #[.val (.int 16), .val (.int 8)] [] := by first | (simp [entryFrame, mkF, argsToLocals, Value.category]; done) | rfl
def Q23_102 (Z : State)  (h0 : Heap) (n0 : Nat) (v : Option Value) (h : Heap) (L : List Loc) : Prop := v = some (.int 8) ∧ Fr n0 L ∧ h = h0
set_option maxRecDepth 65536 in
set_option maxHeartbeats 40000000 in
theorem rm23_102 (l : Launch) (Z : State) (a0 : Array Value) (hw : ∀ d ∈ tables_1, d.before a0 Z = true) (ws : List Jvm.Cond)  (h0 : Heap) (n0 : Nat) (Z0 : n0 ≤ h0.size)  :
    OwnM l Z nM16 jdk_29_method_69_code 2 (some .int) ws ({ frames := 0, cells := 0, slots := 0, locals := 0 } : Room) #[(.int 16), (.int 8)] h0 (Q23_102 Z  h0 n0) := by
  refine own_body (Jvm.Free.JP.mathPlain rfl (by decide +kernel)) ?_
  intro p e s m below meth c s₁ G hx hby hml hZ hown hnm hret X0 e0 step fin
  replace hown : s.vm.findClass "java/lang/Math" = some m.cls := hown
  have N0 := Fr.nil n0
  have KK : OwnK p e below c _ G := ⟨step, hx, hby⟩
  refine step (s₁.setTop (mkF m 0 #[vi 16, vi 8] [])) (fun t k => castTop (ef_23_102 m ) k) ?_
  refine oil KK X0 d23_0 (16 : Int32) 1 rfl rfl ?_
  refine oil KK X0 d23_1 (8 : Int32) 2 rfl rfl ?_
  refine oiy KK X0 d23_2 9 (tlt (by decide : (8 : Int32) < (16 : Int32))).2.2.1 (by decide) rfl ?_
  refine oil KK X0 d23_9 (8 : Int32) 10 rfl rfl ?_
  refine fin (v := some (.int 8)) X0 (fun h => by cases h) ?_ (by decide) (by decide) (fun fs hr => retI X0 hx hret (hb hby d23_10) hr)
  show Q23_102 Z  h0 n0 (some (.int 8)) s₁.heap _
  rw [e0]
  exact ⟨rfl, N0, rfl⟩
theorem ef_44_100 (m : MethodId) (x0 : Addr) : entryFrame m #[(.ref x0), (.int 0), (.int 8)] 5 = mkF m 0 #[.val (.ref x0), .val (.int 0), .val (.int 8), .unset, .unset] [] := by first | (simp [entryFrame, mkF, argsToLocals, Value.category]; done) | rfl
def Q44_100 (Z : State) (o1 : Addr) (kc1 : ClassId) (i2 : Int32) (i3 : Int32) (i4 : Int32) (i5 : Int32) (h0 : Heap) (n0 : Nat) (v : Option Value) (h : Heap) (L : List Loc) : Prop := ∃ (b2 : Addr) (k2 : ClassId), v = some (.ref b2) ∧ Fr n0 L ∧ Keep h0 h [] ∧ h0.size ≤ b2 ∧ Arv Z h b2 k2 .byte (8 : Int32) [(.int i2), (.int i3), (.int 58), (.int 123), (.int i4), (.int 125), (.int 58), (.int i5)] (.int 0)
set_option maxRecDepth 65536 in
set_option maxHeartbeats 40000000 in
theorem rm44_100 (l : Launch) (Z : State) (a0 : Array Value) (hw : ∀ d ∈ tables_1, d.before a0 Z = true) (ws : List Jvm.Cond) (o1 : Addr) (kc1 : ClassId) (i2 : Int32) (i3 : Int32) (i4 : Int32) (i5 : Int32) (h0 : Heap) (n0 : Nat) (Z0 : n0 ≤ h0.size) (Pm0 : Arv Z h0 o1 kc1 .byte (16 : Int32) [(.int i2), (.int i3), (.int 58), (.int 123), (.int i4), (.int 125), (.int 58), (.int i5)] (.int 0)) (gn_o1 : n0 ≤ o1) (hy2 : ¬ (i2 = (123 : Int32))) (hy3 : ¬ (i2 = (125 : Int32))) (hy4 : ¬ (i3 = (123 : Int32))) (hy5 : ¬ (i3 = (125 : Int32))) (hy6 : ¬ (i4 = (123 : Int32))) (hy7 : ¬ (i4 = (125 : Int32))) (hy8 : ¬ (i5 = (123 : Int32))) (hy9 : ¬ (i5 = (125 : Int32)))  :
    OwnM l Z nM38 jdk_65_method_133_code 5 (some (.array .byte)) ws ({ frames := 1, cells := 1, slots := 8, locals := 18 } : Room) #[(.ref o1), (.int 0), (.int 8)] h0 (Q44_100 Z o1 kc1 i2 i3 i4 i5 h0 n0) := by
  refine own_body (plainFor_of_name pn_7) ?_
  intro p e s m below meth c s₁ G hx hby hml hZ hown hnm hret X0 e0 step fin
  replace hown : s.vm.findClass "java/util/Arrays" = some m.cls := hown
  have N0 := Fr.nil n0
  have KK : OwnK p e below c _ G := ⟨step, hx, hby⟩
  refine step (s₁.setTop (mkF m 0 #[vr o1, vi 0, vi 8, .unset, .unset] [])) (fun t k => castTop (ef_44_100 m o1) k) ?_
  refine oil KK X0 d44_0 (0 : Int32) 1 rfl rfl ?_
  refine oil KK X0 d44_1 (8 : Int32) 2 rfl rfl ?_
  obtain ⟨_, _, ⟨T1, L1, k1, n1⟩, -, X1, ⟨Lc1, hQ1, l1, y1, z1⟩, st1⟩ := Jvm.LawKit.callS X0 hx (y := nM37) hown (mvT hZ (ow hw 217 rfl)) (mvT hZ (ow hw 218 rfl)) (mvT hZ (ow hw 212 rfl)) (mvT hZ (ow hw 219 rfl)) (by decide) (backOf (W := 0) (rm45_101 l Z a0 hw []  h0 n0 Z0 ) hZ (ow hw 219 rfl) (ow hw 212 rfl) (by decide) (by decide)) (g := (mkF m 2 #[vr o1, vi 0, vi 8, .unset, .unset] [(.int 8), (.int 0)])) rfl (by rw [hml]; rfl) (argsL := [(.int 0), (.int 8)]) (rest := []) (lenOf pd_34 rfl) rfl (omw rfl rfl) (hb hby d44_2) (fun _ _ => ⟨rfl, e0, (by decide : 0 + 0 ≤ _), (by decide : 0 + 0 ≤ _)⟩)
  dsimp only [Pt.U, Pt.locs, Pt.cells, Pt.slots] at X1 l1 y1 z1 st1 hQ1
  subst l1 y1 z1
  obtain ⟨rfl, N1q, e1q⟩ := hQ1
  have N1 := Fr.app N0 N1q
  refine step (T1.setTop (mkF m 5 #[vr o1, vi 0, vi 8, .unset, .unset] [])) (fun t k => st1 t k) ?_
  refine oil KK X1 d44_5 (8 : Int32) 6 rfl rfl ?_
  refine oil KK X1 d44_6 (0 : Int32) 7 rfl rfl ?_
  refine step (T1.setTop (mkF m 8 #[vr o1, vi 0, vi 8, .unset, .unset] [(.int 8)])) (fun t k => XS.isub X1.here hx rfl (hb hby d44_7) rfl k) ?_
  refine ois KK X1 d44_8 #[vr o1, vi 0, vi 8, vi 8, .unset] 9 rfl rfl ?_
  refine oil KK X1 d44_9 (8 : Int32) 10 rfl rfl ?_
  obtain ⟨T2, h2, k2, X2, e2, E2, A2, st2⟩ := newP X1 hx hZ (ow hw 23 rfl) e1q (g := (mkF m 10 #[vr o1, vi 0, vi 8, vi 8, .unset] [(.int 8)])) rfl (hb hby d44_10) rfl (by decide) (cap := 8) (by decide) (by decide) (by decide) (by decide)
  obtain ⟨b2, g2⟩ : ∃ z, z = h0.size := ⟨_, rfl⟩
  rw [← g2] at A2 st2
  have ne_o1_b2 : o1 ≠ b2 := Nat.ne_of_lt (Nat.lt_of_lt_of_le Pm0.lt (Nat.le_of_eq g2.symm))
  have gn_b2 : n0 ≤ b2 := Nat.le_trans Z0 (Nat.le_of_eq g2.symm)
  have sz_b2 : h0.size ≤ b2 := Nat.le_of_eq g2.symm
  have K2 : Keep h0 h2 [] := (Keep.refl h0 []).ext E2
  have V2 : Arv Z h2 b2 k2 .byte (8 : Int32) [(.int 0), (.int 0), (.int 0), (.int 0), (.int 0), (.int 0), (.int 0), (.int 0)] (.int 0) := (Arv.new A2 (by decide)).pad (pad_rep [] (.int 0) 8)
  refine step (T2.setTop (mkF m 12 #[vr o1, vi 0, vi 8, vi 8, .unset] [(.ref b2)])) (fun t k => st2 t k) ?_
  refine step (T2.setTop (mkF m 14 #[vr o1, vi 0, vi 8, vi 8, vr b2] [])) (fun t k => XS.astore X2.here hx rfl (hb hby d44_12) rfl rfl (l' := #[vr o1, vi 0, vi 8, vi 8, vr b2]) rfl k) ?_
  refine oal KK X2 d44_14 (.ref o1) 15 rfl rfl rfl ?_
  refine oil KK X2 d44_15 (0 : Int32) 16 rfl rfl ?_
  refine oaL KK X2 d44_16 (.ref b2) 18 rfl rfl rfl ?_
  refine oic KK X2 d44_18 0 19 rfl rfl ?_
  refine oal KK X2 d44_19 (.ref o1) 20 rfl rfl rfl ?_
  have f3 := (Pm0.ext E2)
  obtain ⟨cl4, Ar4, q4, S4, N4n, H4, G4⟩ := id f3
  refine step (T2.setTop (mkF m 21 #[vr o1, vi 0, vi 8, vi 8, vr b2] [(.int 16), (.int 0), (.ref b2), (.int 0), (.ref o1)])) (fun t k => X2.arraylength hx (by rw [e2]; exact Ar4.1) (State.isArrayOf_alike hZ.alike Ar4.2.1) (g := (mkF m 20 #[vr o1, vi 0, vi 8, vi 8, vr b2] [(.ref o1), (.int 0), (.ref b2), (.int 0), (.ref o1)])) rfl rfl (hb hby d44_20) t (by rw [len_of S4 N4n]; exact k)) ?_
  refine oil KK X2 d44_21 (0 : Int32) 22 rfl rfl ?_
  refine step (T2.setTop (mkF m 23 #[vr o1, vi 0, vi 8, vi 8, vr b2] [(.int 16), (.int 0), (.ref b2), (.int 0), (.ref o1)])) (fun t k => XS.isub X2.here hx rfl (hb hby d44_22) rfl k) ?_
  refine oil KK X2 d44_23 (8 : Int32) 24 rfl rfl ?_
  obtain ⟨_, _, ⟨T5, L5, k5, n5⟩, -, X5, ⟨Lc5, hQ5, l5, y5, z5⟩, st5⟩ := Jvm.LawKit.callS X2 hx (y := nM16) hown (mvT hZ (ow hw 220 rfl)) (mvT hZ (ow hw 101 rfl)) (mvT hZ (ow hw 98 rfl)) (mvT hZ (ow hw 102 rfl)) (by decide) (backOf (W := 4) (rm23_102 l Z a0 hw []  h2 n0 (Nat.le_trans Z0 K2.1) ) hZ (ow hw 102 rfl) (ow hw 98 rfl) (by decide) (by decide)) (g := (mkF m 24 #[vr o1, vi 0, vi 8, vi 8, vr b2] [(.int 8), (.int 16), (.int 0), (.ref b2), (.int 0), (.ref o1)])) rfl (by rw [hml]; rfl) (argsL := [(.int 16), (.int 8)]) (rest := [(.int 0), (.ref b2), (.int 0), (.ref o1)]) (lenOf pd_19 rfl) rfl (omw rfl rfl) (hb hby d44_24) (fun _ _ => ⟨rfl, e2, (by decide : 1 + 0 ≤ _), (by decide : 8 + 0 ≤ _)⟩)
  dsimp only [Pt.U, Pt.locs, Pt.cells, Pt.slots] at X5 l5 y5 z5 st5 hQ5
  subst l5 y5 z5
  obtain ⟨rfl, N5q, e5q⟩ := hQ5
  have N5 := Fr.app N1 N5q
  refine step (T5.setTop (mkF m 27 #[vr o1, vi 0, vi 8, vi 8, vr b2] [(.int 8), (.int 0), (.ref b2), (.int 0), (.ref o1)])) (fun t k => st5 t k) ?_
  obtain ⟨T6, h6, L6, X6, e6, N6, K6q, Vq6, st6⟩ := cpA X5 hx hZ hown (ow hw 221 rfl) (ow hw 177 rfl) (ow hw 175 rfl) (ow hw 176 rfl) e5q f3 V2 (us := [(.int i2), (.int i3), (.int 58), (.int 123), (.int i4), (.int 125), (.int 58), (.int i5)]) (Or.inl ⟨rfl, rfl⟩) (by decide) (by decide) (by decide) (by decide) (by decide) rfl (Nat.le_of_ble_eq_true rfl) N5 gn_b2 (g := (mkF m 27 #[vr o1, vi 0, vi 8, vi 8, vr b2] [(.int 8), (.int 0), (.ref b2), (.int 0), (.ref o1)])) rfl (by rw [hml]; rfl) (rest := []) rfl (hb hby d44_27) (by decide) (W := 0) (omw rfl rfl) (by decide)
  have K6 : Keep h0 h6 [] := K2.trans K6q (allS (Or.inr sz_b2) all0)
  have V6 : Arv Z h6 b2 k2 .byte (8 : Int32) [(.int i2), (.int i3), (.int 58), (.int 123), (.int i4), (.int 125), (.int 58), (.int i5)] (.int 0) := Vq6
  refine step (T6.setTop (mkF m 30 #[vr o1, vi 0, vi 8, vi 8, vr b2] [])) (fun t k => st6 t k) ?_
  refine oaL KK X6 d44_30 (.ref b2) 32 rfl rfl rfl ?_
  refine fin (v := some (.ref b2)) X6 (fun h => by cases h) ?_ (by decide) (by decide) (fun fs hr => X6.areturnOut hx rfl hret rfl (hb hby d44_32) hr)
  show Q44_100 Z o1 kc1 i2 i3 i4 i5 h0 n0 (some (.ref b2)) T6.heap _
  rw [e6]
  exact ⟨b2, k2, rfl, N6, K6, sz_b2, V6⟩
theorem ef_43_99 (m : MethodId) (x0 : Addr) : entryFrame m #[(.ref x0), (.int 0), (.int 8)] 3 = mkF m 0 #[.val (.ref x0), .val (.int 0), .val (.int 8)] [] := by first | (simp [entryFrame, mkF, argsToLocals, Value.category]; done) | rfl
def Q43_99 (Z : State) (o1 : Addr) (kc1 : ClassId) (i2 : Int32) (i3 : Int32) (i4 : Int32) (i5 : Int32) (h0 : Heap) (n0 : Nat) (v : Option Value) (h : Heap) (L : List Loc) : Prop := ∃ (b2_2 : Addr) (k2_2 : ClassId), v = some (.ref b2_2) ∧ Fr n0 L ∧ Keep h0 h [] ∧ h0.size ≤ b2_2 ∧ Arv Z h b2_2 k2_2 .byte (8 : Int32) [(.int i2), (.int i3), (.int 58), (.int 123), (.int i4), (.int 125), (.int 58), (.int i5)] (.int 0)
set_option maxRecDepth 65536 in
set_option maxHeartbeats 40000000 in
theorem rm43_99 (l : Launch) (Z : State) (a0 : Array Value) (hw : ∀ d ∈ tables_1, d.before a0 Z = true) (ws : List Jvm.Cond) (o1 : Addr) (kc1 : ClassId) (i2 : Int32) (i3 : Int32) (i4 : Int32) (i5 : Int32) (h0 : Heap) (n0 : Nat) (Z0 : n0 ≤ h0.size) (Pm0 : Arv Z h0 o1 kc1 .byte (16 : Int32) [(.int i2), (.int i3), (.int 58), (.int 123), (.int i4), (.int 125), (.int 58), (.int i5)] (.int 0)) (gn_o1 : n0 ≤ o1) (hy2 : ¬ (i2 = (123 : Int32))) (hy3 : ¬ (i2 = (125 : Int32))) (hy4 : ¬ (i3 = (123 : Int32))) (hy5 : ¬ (i3 = (125 : Int32))) (hy6 : ¬ (i4 = (123 : Int32))) (hy7 : ¬ (i4 = (125 : Int32))) (hy8 : ¬ (i5 = (123 : Int32))) (hy9 : ¬ (i5 = (125 : Int32)))  :
    OwnM l Z nM39 jdk_65_method_132_code 3 (some (.array .byte)) ws ({ frames := 2, cells := 1, slots := 8, locals := 34 } : Room) #[(.ref o1), (.int 0), (.int 8)] h0 (Q43_99 Z o1 kc1 i2 i3 i4 i5 h0 n0) := by
  refine own_body (plainFor_of_name pn_7) ?_
  intro p e s m below meth c s₁ G hx hby hml hZ hown hnm hret X0 e0 step fin
  replace hown : s.vm.findClass "java/util/Arrays" = some m.cls := hown
  have N0 := Fr.nil n0
  have KK : OwnK p e below c _ G := ⟨step, hx, hby⟩
  refine step (s₁.setTop (mkF m 0 #[vr o1, vi 0, vi 8] [])) (fun t k => castTop (ef_43_99 m o1) k) ?_
  refine oil KK X0 d43_0 (0 : Int32) 1 rfl rfl ?_
  refine step (s₁.setTop (mkF m 4 #[vr o1, vi 0, vi 8] [])) (fun t k => XS.ifNo X0.here hx rfl (hb hby d43_1) rfl ((if0 _ _).trans (teq (by decide : (0 : Int32) = (0 : Int32))).2) k) ?_
  refine oil KK X0 d43_4 (8 : Int32) 5 rfl rfl ?_
  refine oal KK X0 d43_5 (.ref o1) 6 rfl rfl rfl ?_
  obtain ⟨cl1, Ar1, q1, S1, N1n, H1, G1⟩ := id Pm0
  refine step (s₁.setTop (mkF m 7 #[vr o1, vi 0, vi 8] [(.int 16), (.int 8)])) (fun t k => X0.arraylength hx (by rw [e0]; exact Ar1.1) (State.isArrayOf_alike hZ.alike Ar1.2.1) (g := (mkF m 6 #[vr o1, vi 0, vi 8] [(.ref o1), (.int 8)])) rfl rfl (hb hby d43_6) t (by rw [len_of S1 N1n]; exact k)) ?_
  refine oin KK X0 d43_7 10 rfl (feq (by decide : ¬ ((8 : Int32) = (16 : Int32)))).1 ?_
  refine oal KK X0 d43_10 (.ref o1) 11 rfl rfl rfl ?_
  refine oil KK X0 d43_11 (0 : Int32) 12 rfl rfl ?_
  refine oil KK X0 d43_12 (8 : Int32) 13 rfl rfl ?_
  obtain ⟨_, _, ⟨T2, L2, k2, n2⟩, -, X2, ⟨Lc2, hQ2, l2, y2, z2⟩, st2⟩ := Jvm.LawKit.callS X0 hx (y := nM38) hown (mvT hZ (ow hw 214 rfl)) (mvT hZ (ow hw 215 rfl)) (mvT hZ (ow hw 212 rfl)) (mvT hZ (ow hw 216 rfl)) (by decide) (backOf (W := 0) (rm44_100 l Z a0 hw [] o1 kc1 i2 i3 i4 i5 h0 n0 Z0 Pm0 gn_o1 hy2 hy3 hy4 hy5 hy6 hy7 hy8 hy9) hZ (ow hw 216 rfl) (ow hw 212 rfl) (by decide) (by decide)) (g := (mkF m 13 #[vr o1, vi 0, vi 8] [(.int 8), (.int 0), (.ref o1)])) rfl (by rw [hml]; rfl) (argsL := [(.ref o1), (.int 0), (.int 8)]) (rest := []) (lenOf pd_33 rfl) rfl (omw rfl rfl) (hb hby d43_13) (fun _ _ => ⟨rfl, e0, (by decide : 0 + 1 ≤ _), (by decide : 0 + 8 ≤ _)⟩)
  dsimp only [Pt.U, Pt.locs, Pt.cells, Pt.slots] at X2 l2 y2 z2 st2 hQ2
  subst l2 y2 z2
  obtain ⟨h2, e2⟩ : ∃ z, T2.heap = z := ⟨_, rfl⟩
  rw [e2] at hQ2
  obtain ⟨b2_2, k2_2, rfl, N2q, K2q, sz_b2_2, q0_2⟩ := hQ2
  have N2 := Fr.app N0 N2q
  have lt2_o1 := Pm0.lt
  have ne_o1_b2_2 : o1 ≠ b2_2 := Nat.ne_of_lt (Nat.lt_of_lt_of_le lt2_o1 sz_b2_2)
  have gn_b2_2 : n0 ≤ b2_2 := Nat.le_trans Z0 sz_b2_2
  have K2 : Keep h0 h2 [] := (Keep.refl h0 []).trans K2q all0
  refine step (T2.setTop (mkF m 16 #[vr o1, vi 0, vi 8] [(.ref b2_2)])) (fun t k => st2 t k) ?_
  refine fin (v := some (.ref b2_2)) X2 (fun h => by cases h) ?_ (by decide) (by decide) (fun fs hr => X2.areturnOut hx rfl hret rfl (hb hby d43_16) hr)
  show Q43_99 Z o1 kc1 i2 i3 i4 i5 h0 n0 (some (.ref b2_2)) T2.heap _
  rw [e2]
  exact ⟨b2_2, k2_2, rfl, N2, K2, sz_b2_2, q0_2⟩
def Q38_96 (Z : State) (o1 : Addr) (o2 : Addr) (i1 : Int32) (o3 : Addr) (kc2 : ClassId) (i3 : Int32) (i4 : Int32) (i5 : Int32) (i6 : Int32) (h0 : Heap) (n0 : Nat) (v : Option Value) (h : Heap) (L : List Loc) : Prop := ∃ (b2_2_7 : Addr) (k2_2_7 : ClassId), v = none ∧ Fr n0 L ∧ Keep h0 h [o1] ∧ h0.size ≤ b2_2_7 ∧ Fld Z h o1 "java/lang/String" "coder" "B" (.int 0) ∧ Fld Z h o1 "java/lang/String" "value" "[B" (.ref b2_2_7) ∧ Arv Z h b2_2_7 k2_2_7 .byte (8 : Int32) [(.int i3), (.int i4), (.int 58), (.int 123), (.int i5), (.int 125), (.int 58), (.int i6)] (.int 0)
set_option maxRecDepth 65536 in
set_option maxHeartbeats 40000000 in
theorem rm38_96 (l : Launch) (Z : State) (a0 : Array Value) (hw : ∀ d ∈ tables_1, d.before a0 Z = true) (ws : List Jvm.Cond) (o1 : Addr) (o2 : Addr) (i1 : Int32) (o3 : Addr) (kc2 : ClassId) (i3 : Int32) (i4 : Int32) (i5 : Int32) (i6 : Int32) (h0 : Heap) (n0 : Nat) (Z0 : n0 ≤ h0.size) (S0 : Sta Z h0 "java/lang/String" "COMPACT_STRINGS" "Z" (.int i1)) (Pm1 : Exa Z h0 o1 "java/lang/String") (Pm2 : Fld Z h0 o1 "java/lang/String" "coder" "B" (.int 0)) (Pm3 : Fld Z h0 o1 "java/lang/String" "value" "[B" .null) (Pm4 : Exa Z h0 o2 "java/lang/StringBuilder") (Pm5 : Fld Z h0 o2 "java/lang/AbstractStringBuilder" "coder" "B" (.int 0)) (Pm6 : Fld Z h0 o2 "java/lang/AbstractStringBuilder" "count" "I" (.int 8)) (Pm7 : Fld Z h0 o2 "java/lang/AbstractStringBuilder" "value" "[B" (.ref o3)) (Pm8 : Arv Z h0 o3 kc2 .byte (16 : Int32) [(.int i3), (.int i4), (.int 58), (.int 123), (.int i5), (.int 125), (.int 58), (.int i6)] (.int 0)) (gn_o1 : n0 ≤ o1) (ne_o1_o2 : o1 ≠ o2) (ne_o1_o3 : o1 ≠ o3) (gn_o2 : n0 ≤ o2) (ne_o2_o3 : o2 ≠ o3) (gn_o3 : n0 ≤ o3) (hy15 : ¬ (i1 = (0 : Int32))) (hy16 : ¬ (i3 = (123 : Int32))) (hy17 : ¬ (i3 = (125 : Int32))) (hy18 : ¬ (i4 = (123 : Int32))) (hy19 : ¬ (i4 = (125 : Int32))) (hy20 : ¬ (i5 = (123 : Int32))) (hy21 : ¬ (i5 = (125 : Int32))) (hy22 : ¬ (i6 = (123 : Int32))) (hy23 : ¬ (i6 = (125 : Int32)))  :
    OwnM l Z nM40 jdk_42_method_150_code 5 none ws ({ frames := 3, cells := 1, slots := 8, locals := 49 } : Room) #[(.ref o1), (.ref o2), .null] h0 (Q38_96 Z o1 o2 i1 o3 kc2 i3 i4 i5 i6 h0 n0) := by
  refine own_body (plainFor_of_name pn_1) ?_
  intro p e s m below meth c s₁ G hx hby hml hZ hown hnm hret X0 e0 step fin
  replace hown : s.vm.findClass "java/lang/String" = some m.cls := hown
  have N0 := Fr.nil n0
  have KK : OwnK p e below c _ G := ⟨step, hx, hby⟩
  refine step (s₁.setTop (mkF m 0 #[vr o1, vr o2, .val .null, .unset, .unset] [])) (fun t k => castTop (ef_38_55 m o1 o2) k) ?_
  refine oal KK X0 d38_0 (.ref o1) 1 rfl rfl rfl ?_
  obtain ⟨T1, X1, e1, st1⟩ := initO X0 hx hZ hown (ow hw 15 rfl) (ow hw 16 rfl) (ow hw 17 rfl) e0 (g := (mkF m 1 #[vr o1, vr o2, .val .null, .unset, .unset] [(.ref o1)])) rfl (by rw [hml]; rfl) rfl (hb hby d38_1) (by decide) (W := 0) (omw rfl rfl) (by decide)
  refine step (T1.setTop (mkF m 4 #[vr o1, vr o2, .val .null, .unset, .unset] [])) (fun t k => st1 t k) ?_
  refine oal KK X1 d38_4 (.ref o2) 5 rfl rfl rfl ?_
  obtain ⟨cq2, kq2, q2a, q2b, q2c⟩ := isOf hZ e1 Pm4
  obtain ⟨_, _, ⟨T2, L2, k2, n2⟩, -, X2, ⟨Lc2, hQ2, l2, y2, z2⟩, st2⟩ := X1.virtualBack hx (y := nM33) (z := nM33) hown (mvT hZ (ow hw 192 rfl)) (mvT hZ (ow hw 193 rfl)) (notFace_of_selects (args := #[]) (mvT hZ (ow hw 195 rfl))) (mvT hZ (ow hw 195 rfl)) (mvT hZ (ow hw 194 rfl)) (by decide) (backOf (W := 0) (rm39_56 l Z a0 hw [] o2 o3 h0 n0 Z0 Pm4 Pm7 gn_o2 ne_o2_o3 gn_o3) hZ (ow hw 196 rfl) (ow hw 132 rfl) (by decide) (by decide)) q2a q2c (g := (mkF m 5 #[vr o1, vr o2, .val .null, .unset, .unset] [(.ref o2)])) rfl (by rw [hml]; rfl) (Steps.refl _) (argsL := []) (rest := []) (lenOf pd_32 rfl) rfl (omw rfl rfl) (hb hby d38_5) (fun _ _ => ⟨rfl, e1, (by decide : 0 + 0 ≤ _), (by decide : 0 + 0 ≤ _)⟩)
  dsimp only [Pt.U, Pt.locs, Pt.cells, Pt.slots] at X2 l2 y2 z2 st2 hQ2
  subst l2 y2 z2
  obtain ⟨rfl, N2q, e2q⟩ := hQ2
  have N2 := Fr.app N0 N2q
  refine step (T2.setTop (mkF m 8 #[vr o1, vr o2, .val .null, .unset, .unset] [(.ref o3)])) (fun t k => st2.trans k) ?_
  refine step (T2.setTop (mkF m 9 #[vr o1, vr o2, .val .null, vr o3, .unset] [])) (fun t k => XS.astoreN X2.here hx rfl (hb hby d38_8) rfl rfl (l' := #[vr o1, vr o2, .val .null, vr o3, .unset]) rfl k) ?_
  refine oal KK X2 d38_9 (.ref o2) 10 rfl rfl rfl ?_
  obtain ⟨cq3, kq3, q3a, q3b, q3c⟩ := isOf hZ e2q Pm4
  obtain ⟨_, _, ⟨T3, L3, k3, n3⟩, -, X3, ⟨Lc3, hQ3, l3, y3, z3⟩, st3⟩ := X2.virtualBack hx (y := nM34) (z := nM35) hown (mvT hZ (ow hw 197 rfl)) (mvT hZ (ow hw 198 rfl)) (own_notFace (y := nM34) (args := #[]) (mvT hZ (ow hw 156 rfl)) rfl) (mvT hZ (ow hw 200 rfl)) (mvT hZ (ow hw 201 rfl)) (by decide) (backOf (W := 0) (rm40_97 l Z a0 hw [] o2 i1 o3 kc2 i3 i4 i5 i6 h0 n0 Z0 S0 Pm4 Pm5 Pm6 Pm7 Pm8 gn_o2 ne_o2_o3 gn_o3 hy15 hy16 hy17 hy18 hy19 hy20 hy21 hy22 hy23) hZ (ow hw 202 rfl) (ow hw 124 rfl) (by decide) (by decide)) q3a q3c (g := (mkF m 10 #[vr o1, vr o2, .val .null, vr o3, .unset] [(.ref o2)])) rfl (by rw [hml]; rfl) (Steps.refl _) (argsL := []) (rest := []) (lenOf pd_20 rfl) rfl (omw rfl rfl) (hb hby d38_10) (fun _ _ => ⟨rfl, e2q, (by decide : 0 + 0 ≤ _), (by decide : 0 + 0 ≤ _)⟩)
  dsimp only [Pt.U, Pt.locs, Pt.cells, Pt.slots] at X3 l3 y3 z3 st3 hQ3
  subst l3 y3 z3
  obtain ⟨rfl, N3q, e3q⟩ := hQ3
  have N3 := Fr.app N2 N3q
  refine step (T3.setTop (mkF m 13 #[vr o1, vr o2, .val .null, vr o3, .unset] [(.int 8)])) (fun t k => st3.trans k) ?_
  refine oiS KK X3 d38_13 #[vr o1, vr o2, .val .null, vr o3, vi 8] 15 rfl rfl ?_
  refine oal KK X3 d38_15 (.ref o2) 16 rfl rfl rfl ?_
  obtain ⟨cq4, kq4, q4a, q4b, q4c⟩ := isOf hZ e3q Pm4
  obtain ⟨_, _, ⟨T4, L4, k4, n4⟩, -, X4, ⟨Lc4, hQ4, l4, y4, z4⟩, st4⟩ := X3.virtualBack hx (y := nM36) (z := nM36) hown (mvT hZ (ow hw 205 rfl)) (mvT hZ (ow hw 206 rfl)) (notFace_of_selects (args := #[]) (mvT hZ (ow hw 208 rfl))) (mvT hZ (ow hw 208 rfl)) (mvT hZ (ow hw 207 rfl)) (by decide) (backOf (W := 0) (rm42_59 l Z a0 hw [] o2 i1 h0 n0 Z0 S0 Pm4 Pm5 gn_o2 hy15) hZ (ow hw 209 rfl) (ow hw 132 rfl) (by decide) (by decide)) q4a q4c (g := (mkF m 16 #[vr o1, vr o2, .val .null, vr o3, vi 8] [(.ref o2)])) rfl (by rw [hml]; rfl) (Steps.refl _) (argsL := []) (rest := []) (lenOf pd_15 rfl) rfl (omw rfl rfl) (hb hby d38_16) (fun _ _ => ⟨rfl, e3q, (by decide : 0 + 0 ≤ _), (by decide : 0 + 0 ≤ _)⟩)
  dsimp only [Pt.U, Pt.locs, Pt.cells, Pt.slots] at X4 l4 y4 z4 st4 hQ4
  subst l4 y4 z4
  obtain ⟨rfl, N4q, e4q⟩ := hQ4
  have N4 := Fr.app N3 N4q
  refine step (T4.setTop (mkF m 19 #[vr o1, vr o2, .val .null, vr o3, vi 8] [(.int 1)])) (fun t k => st4.trans k) ?_
  refine step (T4.setTop (mkF m 22 #[vr o1, vr o2, .val .null, vr o3, vi 8] [])) (fun t k => XS.ifNo X4.here hx rfl (hb hby d38_19) rfl ((if0 _ _).trans (feq (by decide : ¬ ((1 : Int32) = (0 : Int32)))).1) k) ?_
  refine oal KK X4 d38_22 (.ref o1) 23 rfl rfl rfl ?_
  refine oic KK X4 d38_23 0 24 rfl rfl ?_
  obtain ⟨T5, h5, X5, e5, W5, st5⟩ := putFN X4 hx hZ hown (ow hw 30 rfl) Via.refl e4q Pm2 Pm1 (Or.inr ⟨(ow hw 31 rfl), rfl, hnm⟩) (ow hw 5 rfl) (ty := .byte) (v' := (.int 0)) (by decide) rfl (fits_nar_byte (0 : Int32)) (g := (mkF m 24 #[vr o1, vr o2, .val .null, vr o3, vi 8] [(.int 0), (.ref o1)])) rfl rfl (hb hby d38_24)
  have N5 := Fr.snoc X5 N4 gn_o1
  have K5 : Keep h0 h5 [o1] := (Keep.refl h0 [o1]).wr W5 (Or.inl (List.mem_of_getElem? (i := 0) rfl))
  have F5 := Pm2.same W5
  refine step (T5.setTop (mkF m 27 #[vr o1, vr o2, .val .null, vr o3, vi 8] [])) (fun t k => st5 t k) ?_
  refine oal KK X5 d38_27 (.ref o1) 28 rfl rfl rfl ?_
  refine oal KK X5 d38_28 (.ref o3) 29 rfl rfl rfl ?_
  refine oic KK X5 d38_29 0 30 rfl rfl ?_
  refine oiL KK X5 d38_30 (8 : Int32) 32 rfl rfl ?_
  have f6 := (Pm8.other W5 (Ne.symm ne_o1_o3))
  obtain ⟨_, _, ⟨T7, L7, k7, n7⟩, -, X7, ⟨Lc7, hQ7, l7, y7, z7⟩, st7⟩ := Jvm.LawKit.callS X5 hx (y := nM39) hown (mvT hZ (ow hw 210 rfl)) (mvT hZ (ow hw 211 rfl)) (mvT hZ (ow hw 212 rfl)) (mvT hZ (ow hw 213 rfl)) (by decide) (backOf (W := 1) (rm43_99 l Z a0 hw [] o3 kc2 i3 i4 i5 i6 h5 n0 (Nat.le_trans Z0 K5.1) f6 gn_o3 hy16 hy17 hy18 hy19 hy20 hy21 hy22 hy23) hZ (ow hw 213 rfl) (ow hw 212 rfl) (by decide) (by decide)) (g := (mkF m 32 #[vr o1, vr o2, .val .null, vr o3, vi 8] [(.int 8), (.int 0), (.ref o3), (.ref o1)])) rfl (by rw [hml]; rfl) (argsL := [(.ref o3), (.int 0), (.int 8)]) (rest := [(.ref o1)]) (lenOf pd_33 rfl) rfl (omw rfl rfl) (hb hby d38_32) (fun _ _ => ⟨rfl, e5, (by decide : 0 + 1 ≤ _), (by decide : 0 + 8 ≤ _)⟩)
  dsimp only [Pt.U, Pt.locs, Pt.cells, Pt.slots] at X7 l7 y7 z7 st7 hQ7
  subst l7 y7 z7
  obtain ⟨h7, e7⟩ : ∃ z, T7.heap = z := ⟨_, rfl⟩
  rw [e7] at hQ7
  obtain ⟨b2_2_7, k2_2_7, rfl, N7q, K7q, sz_b2_2_7, q0_7⟩ := hQ7
  have N7 := Fr.app N5 N7q
  have f8 := (Pm1.wr W5)
  have lt7_o1 := f8.lt
  have f9 := (Pm4.wr W5)
  have lt7_o2 := f9.lt
  have lt7_o3 := f6.lt
  have ne_o1_b2_2_7 : o1 ≠ b2_2_7 := Nat.ne_of_lt (Nat.lt_of_lt_of_le lt7_o1 sz_b2_2_7)
  have ne_o2_b2_2_7 : o2 ≠ b2_2_7 := Nat.ne_of_lt (Nat.lt_of_lt_of_le lt7_o2 sz_b2_2_7)
  have ne_o3_b2_2_7 : o3 ≠ b2_2_7 := Nat.ne_of_lt (Nat.lt_of_lt_of_le lt7_o3 sz_b2_2_7)
  have gn_b2_2_7 : n0 ≤ b2_2_7 := Nat.le_trans (Nat.le_trans Z0 K5.1) sz_b2_2_7
  have sz_b2_2_7' := Nat.le_trans K5.1 sz_b2_2_7
  replace sz_b2_2_7 := sz_b2_2_7'
  have f10 := (S0.wr W5)
  have K7 : Keep h0 h7 [o1] := K5.trans K7q all0
  have f11 := own_staK f10 K7q all0
  refine step (T7.setTop (mkF m 35 #[vr o1, vr o2, .val .null, vr o3, vi 8] [(.ref b2_2_7), (.ref o1)])) (fun t k => st7 t k) ?_
  have f12 := (f8.keep K7q)
  have f13 := ((Pm3.other W5 (Or.inr (slot_ne (Or.inr (ow hw 33 rfl)) (Or.inr (ow hw 31 rfl)) (by decide) (t := (.array .byte)) (t' := .byte) (by decide) (by decide)))).keep K7q nin0)
  obtain ⟨T14, h14, X14, e14, W14, st14⟩ := putF X7 hx hZ hown (host := "") (Or.inl (ow hw 32 rfl)) Via.refl e7 f13 f12 (Or.inr ⟨(ow hw 33 rfl), rfl, hnm⟩) (ow hw 5 rfl) (ty := (.array .byte)) (by decide) rfl rfl (g := (mkF m 35 #[vr o1, vr o2, .val .null, vr o3, vi 8] [(.ref b2_2_7), (.ref o1)])) rfl rfl (hb hby d38_35)
  have N14 := Fr.snoc X14 N7 gn_o1
  have K14 : Keep h0 h14 [o1] := K7.wr W14 (Or.inl (List.mem_of_getElem? (i := 0) rfl))
  have F14 := f13.same W14
  refine step (T14.setTop (mkF m 38 #[vr o1, vr o2, .val .null, vr o3, vi 8] [])) (fun t k => st14 t k) ?_
  refine ogo KK X14 d38_38 97 (by decide) rfl ?_
  have f15 := ((F5.keep K7q nin0).other W14 (Or.inr (slot_ne (Or.inr (ow hw 31 rfl)) (Or.inr (ow hw 33 rfl)) (by decide) (t := .byte) (t' := (.array .byte)) (by decide) (by decide))))
  have f16 := (q0_7.other W14 (Ne.symm ne_o1_b2_2_7))
  refine fin (v := none) X14 (fun _ => rfl) ?_ (by decide) (by decide) (fun fs hr => X14.returnOut hx hret (hb hby d38_97) hr)
  show Q38_96 Z o1 o2 i1 o3 kc2 i3 i4 i5 i6 h0 n0 (none) T14.heap _
  rw [e14]
  exact ⟨b2_2_7, k2_2_7, rfl, N14, K14, sz_b2_2_7, f15, F14, f16⟩
def Q37_95 (Z : State) (o1 : Addr) (o2 : Addr) (i1 : Int32) (o3 : Addr) (kc2 : ClassId) (i3 : Int32) (i4 : Int32) (i5 : Int32) (i6 : Int32) (h0 : Heap) (n0 : Nat) (v : Option Value) (h : Heap) (L : List Loc) : Prop := ∃ (b2_2_7_1 : Addr) (k2_2_7_1 : ClassId), v = none ∧ Fr n0 L ∧ Keep h0 h [o1] ∧ h0.size ≤ b2_2_7_1 ∧ Fld Z h o1 "java/lang/String" "coder" "B" (.int 0) ∧ Fld Z h o1 "java/lang/String" "value" "[B" (.ref b2_2_7_1) ∧ Arv Z h b2_2_7_1 k2_2_7_1 .byte (8 : Int32) [(.int i3), (.int i4), (.int 58), (.int 123), (.int i5), (.int 125), (.int 58), (.int i6)] (.int 0)
set_option maxRecDepth 65536 in
set_option maxHeartbeats 40000000 in
theorem rm37_95 (l : Launch) (Z : State) (a0 : Array Value) (hw : ∀ d ∈ tables_1, d.before a0 Z = true) (ws : List Jvm.Cond) (o1 : Addr) (o2 : Addr) (i1 : Int32) (o3 : Addr) (kc2 : ClassId) (i3 : Int32) (i4 : Int32) (i5 : Int32) (i6 : Int32) (h0 : Heap) (n0 : Nat) (Z0 : n0 ≤ h0.size) (S0 : Sta Z h0 "java/lang/String" "COMPACT_STRINGS" "Z" (.int i1)) (Pm1 : Exa Z h0 o1 "java/lang/String") (Pm2 : Fld Z h0 o1 "java/lang/String" "coder" "B" (.int 0)) (Pm3 : Fld Z h0 o1 "java/lang/String" "value" "[B" .null) (Pm4 : Exa Z h0 o2 "java/lang/StringBuilder") (Pm5 : Fld Z h0 o2 "java/lang/AbstractStringBuilder" "coder" "B" (.int 0)) (Pm6 : Fld Z h0 o2 "java/lang/AbstractStringBuilder" "count" "I" (.int 8)) (Pm7 : Fld Z h0 o2 "java/lang/AbstractStringBuilder" "value" "[B" (.ref o3)) (Pm8 : Arv Z h0 o3 kc2 .byte (16 : Int32) [(.int i3), (.int i4), (.int 58), (.int 123), (.int i5), (.int 125), (.int 58), (.int i6)] (.int 0)) (gn_o1 : n0 ≤ o1) (ne_o1_o2 : o1 ≠ o2) (ne_o1_o3 : o1 ≠ o3) (gn_o2 : n0 ≤ o2) (ne_o2_o3 : o2 ≠ o3) (gn_o3 : n0 ≤ o3) (hy15 : ¬ (i1 = (0 : Int32))) (hy16 : ¬ (i3 = (123 : Int32))) (hy17 : ¬ (i3 = (125 : Int32))) (hy18 : ¬ (i4 = (123 : Int32))) (hy19 : ¬ (i4 = (125 : Int32))) (hy20 : ¬ (i5 = (123 : Int32))) (hy21 : ¬ (i5 = (125 : Int32))) (hy22 : ¬ (i6 = (123 : Int32))) (hy23 : ¬ (i6 = (125 : Int32)))  :
    OwnM l Z nM41 jdk_42_method_53_code 2 none ws ({ frames := 4, cells := 1, slots := 8, locals := 65 } : Room) #[(.ref o1), (.ref o2)] h0 (Q37_95 Z o1 o2 i1 o3 kc2 i3 i4 i5 i6 h0 n0) := by
  refine own_body (plainFor_of_name pn_1) ?_
  intro p e s m below meth c s₁ G hx hby hml hZ hown hnm hret X0 e0 step fin
  replace hown : s.vm.findClass "java/lang/String" = some m.cls := hown
  have N0 := Fr.nil n0
  have KK : OwnK p e below c _ G := ⟨step, hx, hby⟩
  refine step (s₁.setTop (mkF m 0 #[vr o1, vr o2] [])) (fun t k => castTop (ef_2_2 m o1 o2) k) ?_
  refine oal KK X0 d37_0 (.ref o1) 1 rfl rfl rfl ?_
  refine oal KK X0 d37_1 (.ref o2) 2 rfl rfl rfl ?_
  refine step (s₁.setTop (mkF m 3 #[vr o1, vr o2] [.null, (.ref o2), (.ref o1)])) (fun t k => XS.aconstNull X0.here hx rfl (hb hby d37_2) k) ?_
  obtain ⟨_, _, ⟨T1, L1, k1, n1⟩, -, X1, ⟨Lc1, hQ1, l1, y1, z1⟩, st1⟩ := X0.specialBack hx (y := nM40) rfl hown (mvT hZ (ow hw 189 rfl)) (mvT hZ (ow hw 190 rfl)) (mvT hZ (ow hw 191 rfl)) (by decide) (backOf (W := 0) (rm38_96 l Z a0 hw [] o1 o2 i1 o3 kc2 i3 i4 i5 i6 h0 n0 Z0 S0 Pm1 Pm2 Pm3 Pm4 Pm5 Pm6 Pm7 Pm8 gn_o1 ne_o1_o2 ne_o1_o3 gn_o2 ne_o2_o3 gn_o3 hy15 hy16 hy17 hy18 hy19 hy20 hy21 hy22 hy23) hZ (ow hw 191 rfl) (ow hw 6 rfl) (by decide) (by decide)) (g := (mkF m 3 #[vr o1, vr o2] [.null, (.ref o2), (.ref o1)])) rfl (by rw [hml]; rfl) (Steps.refl _) (a := o1) (argsL := [(.ref o2), .null]) (rest := []) (lenOf pd_31 rfl) rfl (omw rfl rfl) (hb hby d37_3) (fun _ _ => ⟨rfl, e0, (by decide : 0 + 1 ≤ _), (by decide : 0 + 8 ≤ _)⟩)
  dsimp only [Pt.U, Pt.locs, Pt.cells, Pt.slots] at X1 l1 y1 z1 st1 hQ1
  subst l1 y1 z1
  obtain ⟨h1, e1⟩ : ∃ z, T1.heap = z := ⟨_, rfl⟩
  rw [e1] at hQ1
  obtain ⟨b2_2_7_1, k2_2_7_1, rfl, N1q, K1q, sz_b2_2_7_1, q0_1, q1_1, q2_1⟩ := hQ1
  have N1 := Fr.app N0 N1q
  have lt1_o1 := Pm1.lt
  have lt1_o2 := Pm4.lt
  have lt1_o3 := Pm8.lt
  have ne_o1_b2_2_7_1 : o1 ≠ b2_2_7_1 := Nat.ne_of_lt (Nat.lt_of_lt_of_le lt1_o1 sz_b2_2_7_1)
  have ne_o2_b2_2_7_1 : o2 ≠ b2_2_7_1 := Nat.ne_of_lt (Nat.lt_of_lt_of_le lt1_o2 sz_b2_2_7_1)
  have ne_o3_b2_2_7_1 : o3 ≠ b2_2_7_1 := Nat.ne_of_lt (Nat.lt_of_lt_of_le lt1_o3 sz_b2_2_7_1)
  have gn_b2_2_7_1 : n0 ≤ b2_2_7_1 := Nat.le_trans Z0 sz_b2_2_7_1
  have K1 : Keep h0 h1 [o1] := (Keep.refl h0 [o1]).trans K1q (allS (Or.inl (List.mem_of_getElem? (i := 0) rfl)) all0)
  have f2 := own_staK S0 K1q (allS (own_exaP Pm1) all0)
  refine step (T1.setTop (mkF m 6 #[vr o1, vr o2] [])) (fun t k => st1.trans k) ?_
  refine fin (v := none) X1 (fun _ => rfl) ?_ (by decide) (by decide) (fun fs hr => X1.returnOut hx hret (hb hby d37_6) hr)
  show Q37_95 Z o1 o2 i1 o3 kc2 i3 i4 i5 i6 h0 n0 (none) T1.heap _
  rw [e1]
  exact ⟨b2_2_7_1, k2_2_7_1, rfl, N1, K1, sz_b2_2_7_1, q0_1, q1_1, q2_1⟩
def Q36_94 (Z : State) (o1 : Addr) (i1 : Int32) (o2 : Addr) (kc2 : ClassId) (i3 : Int32) (i4 : Int32) (i5 : Int32) (i6 : Int32) (h0 : Heap) (n0 : Nat) (v : Option Value) (h : Heap) (L : List Loc) : Prop := ∃ (b1 : Addr) (b2_2_7_1_8 : Addr) (k2_2_7_1_8 : ClassId), v = some (.ref b1) ∧ Fr n0 L ∧ Keep h0 h [] ∧ h0.size ≤ b1 ∧ h0.size ≤ b2_2_7_1_8 ∧ b1 ≠ b2_2_7_1_8 ∧ Exa Z h b1 "java/lang/String" ∧ Fld Z h b1 "java/lang/String" "coder" "B" (.int 0) ∧ Fld Z h b1 "java/lang/String" "value" "[B" (.ref b2_2_7_1_8) ∧ Arv Z h b2_2_7_1_8 k2_2_7_1_8 .byte (8 : Int32) [(.int i3), (.int i4), (.int 58), (.int 123), (.int i5), (.int 125), (.int 58), (.int i6)] (.int 0)
set_option maxRecDepth 65536 in
set_option maxHeartbeats 40000000 in
theorem rm36_94 (l : Launch) (Z : State) (a0 : Array Value) (hw : ∀ d ∈ tables_1, d.before a0 Z = true) (ws : List Jvm.Cond) (o1 : Addr) (i1 : Int32) (o2 : Addr) (kc2 : ClassId) (i3 : Int32) (i4 : Int32) (i5 : Int32) (i6 : Int32) (h0 : Heap) (n0 : Nat) (Z0 : n0 ≤ h0.size) (S0 : Sta Z h0 "java/lang/String" "COMPACT_STRINGS" "Z" (.int i1)) (Pm1 : Exa Z h0 o1 "java/lang/StringBuilder") (Pm2 : Fld Z h0 o1 "java/lang/AbstractStringBuilder" "coder" "B" (.int 0)) (Pm3 : Fld Z h0 o1 "java/lang/AbstractStringBuilder" "count" "I" (.int 8)) (Pm4 : Fld Z h0 o1 "java/lang/AbstractStringBuilder" "value" "[B" (.ref o2)) (Pm5 : Arv Z h0 o2 kc2 .byte (16 : Int32) [(.int i3), (.int i4), (.int 58), (.int 123), (.int i5), (.int 125), (.int 58), (.int i6)] (.int 0)) (gn_o1 : n0 ≤ o1) (ne_o1_o2 : o1 ≠ o2) (gn_o2 : n0 ≤ o2) (hy9 : ¬ (i1 = (0 : Int32))) (hy10 : ¬ (i5 = (123 : Int32))) (hy11 : ¬ (i5 = (125 : Int32))) (hy12 : ¬ (i6 = (123 : Int32))) (hy13 : ¬ (i6 = (125 : Int32))) (hy14 : ¬ (i3 = (123 : Int32))) (hy15 : ¬ (i3 = (125 : Int32))) (hy16 : ¬ (i4 = (123 : Int32))) (hy17 : ¬ (i4 = (125 : Int32)))  :
    OwnM l Z nM42 jdk_67_method_42_code 1 (some (.object "java/lang/String")) ws ({ frames := 5, cells := 2, slots := 12, locals := 79 } : Room) #[(.ref o1)] h0 (Q36_94 Z o1 i1 o2 kc2 i3 i4 i5 i6 h0 n0) := by
  refine own_body (plainFor_of_name pn_5) ?_
  intro p e s m below meth c s₁ G hx hby hml hZ hown hnm hret X0 e0 step fin
  replace hown : s.vm.findClass "java/lang/StringBuilder" = some m.cls := hown
  have N0 := Fr.nil n0
  have KK : OwnK p e below c _ G := ⟨step, hx, hby⟩
  refine step (s₁.setTop (mkF m 0 #[vr o1] [])) (fun t k => castTop (ef_14_13 m o1) k) ?_
  obtain ⟨T1, h1, X1, e1, E1, A1, D1, -, st1⟩ := newO X0 hx hZ hown (ow hw 185 rfl) (ow hw 5 rfl) (ow hw 6 rfl) e0 (g := (mkF m 0 #[vr o1] [])) rfl (hb hby d36_0) (by decide) (by decide)
  obtain ⟨b1, g1⟩ : ∃ z, z = h0.size := ⟨_, rfl⟩
  rw [← g1] at A1 D1 st1
  have ne_o1_b1 : o1 ≠ b1 := Nat.ne_of_lt (Nat.lt_of_lt_of_le Pm1.lt (Nat.le_of_eq g1.symm))
  have ne_o2_b1 : o2 ≠ b1 := Nat.ne_of_lt (Nat.lt_of_lt_of_le Pm5.lt (Nat.le_of_eq g1.symm))
  have gn_b1 : n0 ≤ b1 := Nat.le_trans Z0 (Nat.le_of_eq g1.symm)
  have sz_b1 : h0.size ≤ b1 := Nat.le_of_eq g1.symm
  have K1 : Keep h0 h1 [] := (Keep.refl h0 []).ext E1
  have F_coder_b1 : Fld Z h1 b1 "java/lang/String" "coder" "B" (.int 0) := D1 (Or.inr (ow hw 31 rfl)) (ty := .byte) (by decide)
  have F_value_b1 : Fld Z h1 b1 "java/lang/String" "value" "[B" .null := D1 (Or.inr (ow hw 33 rfl)) (ty := (.array .byte)) (by decide)
  refine step (T1.setTop (mkF m 3 #[vr o1] [(.ref b1)])) (fun t k => st1 t k) ?_
  refine odu KK X1 d36_3 4 rfl rfl ?_
  refine oal KK X1 d36_4 (.ref o1) 5 rfl rfl rfl ?_
  have f2 := (S0.ext E1)
  have f3 := (Pm1.ext E1)
  have f4 := (Pm2.ext E1)
  have f5 := (Pm3.ext E1)
  have f6 := (Pm4.ext E1)
  have f7 := (Pm5.ext E1)
  obtain ⟨_, _, ⟨T8, L8, k8, n8⟩, -, X8, ⟨Lc8, hQ8, l8, y8, z8⟩, st8⟩ := X1.specialBack hx (y := nM41) rfl hown (mvT hZ (ow hw 186 rfl)) (mvT hZ (ow hw 187 rfl)) (mvT hZ (ow hw 188 rfl)) (by decide) (backOf (W := 1) (rm37_95 l Z a0 hw [] b1 o1 i1 o2 kc2 i3 i4 i5 i6 h1 n0 (Nat.le_trans Z0 K1.1) f2 A1 F_coder_b1 F_value_b1 f3 f4 f5 f6 f7 gn_b1 (Ne.symm ne_o1_b1) (Ne.symm ne_o2_b1) gn_o1 ne_o1_o2 gn_o2 hy9 hy14 hy15 hy16 hy17 hy10 hy11 hy12 hy13) hZ (ow hw 188 rfl) (ow hw 6 rfl) (by decide) (by decide)) (g := (mkF m 5 #[vr o1] [(.ref o1), (.ref b1), (.ref b1)])) rfl (by rw [hml]; rfl) (Steps.refl _) (a := b1) (argsL := [(.ref o1)]) (rest := [(.ref b1)]) (lenOf pd_30 rfl) rfl (omw rfl rfl) (hb hby d36_5) (fun _ _ => ⟨rfl, e1, (by decide : 1 + 1 ≤ _), (by decide : 4 + 8 ≤ _)⟩)
  dsimp only [Pt.U, Pt.locs, Pt.cells, Pt.slots] at X8 l8 y8 z8 st8 hQ8
  subst l8 y8 z8
  obtain ⟨h8, e8⟩ : ∃ z, T8.heap = z := ⟨_, rfl⟩
  rw [e8] at hQ8
  obtain ⟨b2_2_7_1_8, k2_2_7_1_8, rfl, N8q, K8q, sz_b2_2_7_1_8, q0_8, q1_8, q2_8⟩ := hQ8
  have N8 := Fr.app N0 N8q
  have lt8_o1 := f3.lt
  have lt8_o2 := f7.lt
  have lt8_b1 := A1.lt
  have ne_o1_b2_2_7_1_8 : o1 ≠ b2_2_7_1_8 := Nat.ne_of_lt (Nat.lt_of_lt_of_le lt8_o1 sz_b2_2_7_1_8)
  have ne_o2_b2_2_7_1_8 : o2 ≠ b2_2_7_1_8 := Nat.ne_of_lt (Nat.lt_of_lt_of_le lt8_o2 sz_b2_2_7_1_8)
  have ne_b1_b2_2_7_1_8 : b1 ≠ b2_2_7_1_8 := Nat.ne_of_lt (Nat.lt_of_lt_of_le lt8_b1 sz_b2_2_7_1_8)
  have gn_b2_2_7_1_8 : n0 ≤ b2_2_7_1_8 := Nat.le_trans (Nat.le_trans Z0 K1.1) sz_b2_2_7_1_8
  have sz_b2_2_7_1_8' := Nat.le_trans K1.1 sz_b2_2_7_1_8
  replace sz_b2_2_7_1_8 := sz_b2_2_7_1_8'
  have K8 : Keep h0 h8 [] := K1.trans K8q (allS (Or.inr sz_b1) all0)
  have f9 := own_staK f2 K8q (allS (own_exaP A1) all0)
  refine step (T8.setTop (mkF m 8 #[vr o1] [(.ref b1)])) (fun t k => st8.trans k) ?_
  have f10 := (A1.keep K8q)
  refine fin (v := some (.ref b1)) X8 (fun h => by cases h) ?_ (by decide) (by decide) (fun fs hr => X8.areturnOut hx rfl hret rfl (hb hby d36_8) hr)
  show Q36_94 Z o1 i1 o2 kc2 i3 i4 i5 i6 h0 n0 (some (.ref b1)) T8.heap _
  rw [e8]
  exact ⟨b1, b2_2_7_1_8, k2_2_7_1_8, rfl, N8, K8, sz_b1, sz_b2_2_7_1_8, ne_b1_b2_2_7_1_8, f10, q0_8, q1_8, q2_8⟩
def Q26_89 (Z : State) (o1 : Addr) (o2 : Addr) (o3 : Addr) (i1 : Int32) (o4 : Addr) (o5 : Addr) (o6 : Addr) (o7 : Addr) (kc2 : ClassId) (i3 : Int32) (kc4 : ClassId) (i5 : Int32) (kc6 : ClassId) (i7 : Int32) (i8 : Int32) (h0 : Heap) (n0 : Nat) (v : Option Value) (h : Heap) (L : List Loc) : Prop := ∃ (b1_76 : Addr) (b2_2_7_1_8_76 : Addr) (k2_2_7_1_8_76 : ClassId), v = some (.ref b1_76) ∧ Fr n0 L ∧ Keep h0 h [] ∧ h0.size ≤ b1_76 ∧ h0.size ≤ b2_2_7_1_8_76 ∧ b1_76 ≠ b2_2_7_1_8_76 ∧ Exa Z h b1_76 "java/lang/String" ∧ Fld Z h b1_76 "java/lang/String" "coder" "B" (.int 0) ∧ Fld Z h b1_76 "java/lang/String" "value" "[B" (.ref b2_2_7_1_8_76) ∧ Arv Z h b2_2_7_1_8_76 k2_2_7_1_8_76 .byte (8 : Int32) [(.int i7), (.int i8), (.int 58), (.int 123), (.int i3), (.int 125), (.int 58), (.int i5)] (.int 0)
set_option maxRecDepth 65536 in
set_option maxHeartbeats 40000000 in
theorem rm26_89 (l : Launch) (Z : State) (a0 : Array Value) (hw : ∀ d ∈ tables_1, d.before a0 Z = true) (ws : List Jvm.Cond) (o1 : Addr) (o2 : Addr) (o3 : Addr) (i1 : Int32) (o4 : Addr) (o5 : Addr) (o6 : Addr) (o7 : Addr) (kc2 : ClassId) (i3 : Int32) (kc4 : ClassId) (i5 : Int32) (kc6 : ClassId) (i7 : Int32) (i8 : Int32) (h0 : Heap) (n0 : Nat) (Z0 : n0 ≤ h0.size) (S0 : Sta Z h0 "java/lang/String" "COMPACT_STRINGS" "Z" (.int i1)) (Pm1 : Exa Z h0 o1 "com/example/dibs/dibs/core/Keyspace") (Pm2 : Fld Z h0 o1 "com/example/dibs/dibs/core/Keyspace" "prefix" "Ljava/lang/String;" (.ref o4)) (Pm3 : Exa Z h0 o2 "java/lang/String") (Pm4 : Fld Z h0 o2 "java/lang/String" "coder" "B" (.int 0)) (Pm5 : Fld Z h0 o2 "java/lang/String" "value" "[B" (.ref o5)) (Pm6 : Exa Z h0 o3 "java/lang/String") (Pm7 : Fld Z h0 o3 "java/lang/String" "coder" "B" (.int 0)) (Pm8 : Fld Z h0 o3 "java/lang/String" "value" "[B" (.ref o6)) (Pm9 : Exa Z h0 o4 "java/lang/String") (Pm10 : Fld Z h0 o4 "java/lang/String" "coder" "B" (.int 0)) (Pm11 : Fld Z h0 o4 "java/lang/String" "value" "[B" (.ref o7)) (Pm12 : Arv Z h0 o5 kc2 .byte (1 : Int32) [(.int i3)] (.int 0)) (Pm13 : Arv Z h0 o6 kc4 .byte (1 : Int32) [(.int i5)] (.int 0)) (Pm14 : Arv Z h0 o7 kc6 .byte (2 : Int32) [(.int i7), (.int i8)] (.int 0)) (gn_o1 : n0 ≤ o1) (ne_o1_o2 : o1 ≠ o2) (ne_o1_o3 : o1 ≠ o3) (ne_o1_o4 : o1 ≠ o4) (ne_o1_o5 : o1 ≠ o5) (ne_o1_o6 : o1 ≠ o6) (ne_o1_o7 : o1 ≠ o7) (gn_o2 : n0 ≤ o2) (ne_o2_o3 : o2 ≠ o3) (ne_o2_o4 : o2 ≠ o4) (ne_o2_o5 : o2 ≠ o5) (ne_o2_o6 : o2 ≠ o6) (ne_o2_o7 : o2 ≠ o7) (gn_o3 : n0 ≤ o3) (ne_o3_o4 : o3 ≠ o4) (ne_o3_o5 : o3 ≠ o5) (ne_o3_o6 : o3 ≠ o6) (ne_o3_o7 : o3 ≠ o7) (gn_o4 : n0 ≤ o4) (ne_o4_o5 : o4 ≠ o5) (ne_o4_o6 : o4 ≠ o6) (ne_o4_o7 : o4 ≠ o7) (gn_o5 : n0 ≤ o5) (ne_o5_o6 : o5 ≠ o6) (ne_o5_o7 : o5 ≠ o7) (gn_o6 : n0 ≤ o6) (ne_o6_o7 : o6 ≠ o7) (gn_o7 : n0 ≤ o7) (hy43 : ¬ (i1 = (0 : Int32))) (hy44 : ¬ (i7 = (123 : Int32))) (hy45 : ¬ (i7 = (125 : Int32))) (hy46 : ¬ (i8 = (123 : Int32))) (hy47 : ¬ (i8 = (125 : Int32))) (hy48 : ¬ (i3 = (123 : Int32))) (hy49 : ¬ (i3 = (125 : Int32))) (hy50 : ¬ (i5 = (123 : Int32))) (hy51 : ¬ (i5 = (125 : Int32)))  :
    OwnMH l Z nM43 prog_2_method_5_code 3 (some (.object "java/lang/String")) ws ({ frames := 6, cells := 12, slots := 96, locals := 91 } : Room) #[(.ref o1), (.ref o2), (.ref o3)] h0 own_EL (Q26_89 Z o1 o2 o3 i1 o4 o5 o6 o7 kc2 i3 kc4 i5 kc6 i7 i8 h0 n0) := by
  refine own_bodyH (own_EWs hw) (plainFor_of_name pn_4) ?_
  intro p e s m below meth c s₁ G vm0 k0 hx hby hml hZ hown hnm hret hS hk hCH0 X0 e0 step fin
  replace hown : vm0.findClass "com/example/dibs/dibs/core/Keyspace" = some m.cls := hown
  have N0 := Fr.nil n0
  have KK : OwnK p e below c _ G := ⟨step, hx, hby⟩
  have C0 := CHr.refl hCH0
  refine step (s₁.setTop (mkF m 0 #[vr o1, vr o2, vr o3] [])) (fun t k => castTop (ef_26_30 m o1 o2 o3) k) ?_
  refine oal KK X0 d26_0 (.ref o2) 1 rfl rfl rfl ?_
  obtain ⟨_, _, ⟨T1, L1, k1, n1⟩, -, X1', hS1', hg1, ⟨Lc1, hQ1, l1, y1, z1, hC1⟩, st1⟩ := callSS X0 hx (y := nM24) hown (mvT hZ (ow hw 117 rfl)) (mvT hZ (ow hw 118 rfl)) (mvT hZ (ow hw 50 rfl)) (mvT hZ (ow hw 119 rfl)) (by decide) (backOfSH (W := 0) (rm27_31 l Z a0 hw [] o2 i1 o5 kc2 i3 h0 n0 Z0 S0 Pm3 Pm4 Pm5 Pm12 gn_o2 ne_o2_o5 gn_o5 hy43 hy48 hy49) hZ (ow hw 119 rfl) (ow hw 50 rfl) (by decide) (by decide) (own_EWs hw) C0.1) (g := (mkF m 1 #[vr o1, vr o2, vr o3] [(.ref o2)])) rfl (by rw [hml]; rfl) (argsL := [(.ref o2)]) (rest := []) (lenOf pd_24 rfl) rfl (omw rfl rfl) (hb hby d26_1) (fun _ _ => ⟨rfl, e0, (by decide : 0 + 2 ≤ _), (by decide : 0 + 20 ≤ _)⟩)
  dsimp only [Pt.U, Pt.locs, Pt.cells, Pt.slots] at X1' hS1' hg1 l1 y1 z1 st1 hQ1 hC1
  subst l1 y1 z1
  obtain ⟨X1, hS1, hZ1, hown1⟩ := rebS hS (Nat.le_trans hk (Nat.le_of_eq (congrArg Array.size e0.symm))) X1' hS1' hg1 hZ hown
  replace hS := hS1
  replace hZ : Z.Warmed39 T1.vm := hZ1
  replace hown : T1.vm.findClass "com/example/dibs/dibs/core/Keyspace" = some m.cls := hown1
  obtain ⟨h1, e1⟩ : ∃ z, T1.heap = z := ⟨_, rfl⟩
  rw [e1] at hQ1
  obtain ⟨rfl, N1q, K1q⟩ := hQ1
  have N1 := Fr.app N0 N1q
  have K1 : Keep h0 h1 [] := (Keep.refl h0 []).trans K1q all0
  have f2 := own_staK S0 K1q all0
  rw [e1] at hC1
  have C1 := C0.trans hC1
  have hk1 : T1.heap.size ≤ h1.size := Nat.le_of_eq (congrArg Array.size e1)
  refine step (T1.setTop (mkF m 4 #[vr o1, vr o2, vr o3] [(.ref o2)])) (fun t k => st1.trans k) ?_
  refine step (T1.setTop (mkF m 5 #[vr o1, vr o2, vr o3] [])) (fun t k => XS.pop X1.here hx rfl (hb hby d26_4) rfl rfl k) ?_
  obtain ⟨a3, T3, h3, kk3, X3, e3, E3, hS3, hk3, hZ3, hown3, hC3, -, st3⟩ := ldcOH X1 hx hZ hown (ow hw 121 rfl) (own_wS hw) e1 hS hk1 (own_EWs hw) C1.1 (g := (mkF m 5 #[vr o1, vr o2, vr o3] [])) rfl (hb hby d26_5) (n := 16) (by decide) (by decide) (by decide) (by decide)
  replace hS := hS3
  replace hZ : Z.Warmed39 T3.vm := hZ3
  replace hown : T3.vm.findClass "com/example/dibs/dibs/core/Keyspace" = some m.cls := hown3
  have K3 : Keep h0 h3 [] := K1.ext E3
  have C3 := C1.trans hC3
  refine step (T3.setTop (mkF m 7 #[vr o1, vr o2, vr o3] [(.ref a3)])) (fun t k => st3 t k) ?_
  refine oal KK X3 d26_7 (.ref o3) 8 rfl rfl rfl ?_
  have f4 := (f2.ext E3)
  have f5 := ((Pm6.keep K1q).ext E3)
  have f6 := ((Pm7.keep K1q nin0).ext E3)
  have f7 := ((Pm8.keep K1q nin0).ext E3)
  have f8 := ((Pm13.keep K1q nin0).ext E3)
  obtain ⟨_, _, ⟨T9, L9, k9, n9⟩, -, X9, ⟨Lc9, hQ9, l9, y9, z9⟩, st9⟩ := Jvm.LawKit.callS X3 hx (y := nM21) hown (mvT hZ (ow hw 57 rfl)) (mvT hZ (ow hw 58 rfl)) (mvT hZ (ow hw 50 rfl)) (mvT hZ (ow hw 59 rfl)) (by decide) (backOf (W := 0) (rm13_12 l Z a0 hw [] a3 o3 i1 o6 kc4 i5 h3 n0 (Nat.le_trans Z0 K3.1) f4 f5 f6 f7 f8 gn_o3 ne_o3_o6 gn_o6 hy43 hy50 hy51) hZ (ow hw 59 rfl) (ow hw 50 rfl) (by decide) (by decide)) (g := (mkF m 8 #[vr o1, vr o2, vr o3] [(.ref o3), (.ref a3)])) rfl (by rw [hml]; rfl) (argsL := [(.ref a3), (.ref o3)]) (rest := []) (lenOf pd_4 rfl) rfl (omw rfl rfl) (hb hby d26_8) (fun _ _ => ⟨rfl, e3, (by decide : 4 + 0 ≤ _), (by decide : 40 + 0 ≤ _)⟩)
  dsimp only [Pt.U, Pt.locs, Pt.cells, Pt.slots] at X9 l9 y9 z9 st9 hQ9
  subst l9 y9 z9
  obtain ⟨rfl, N9q, e9q⟩ := hQ9
  have N9 := Fr.app N1 N9q
  refine step (T9.setTop (mkF m 11 #[vr o1, vr o2, vr o3] [(.ref o3)])) (fun t k => st9 t k) ?_
  refine step (T9.setTop (mkF m 12 #[vr o1, vr o2, vr o3] [])) (fun t k => XS.pop X9.here hx rfl (hb hby d26_11) rfl rfl k) ?_
  obtain ⟨T10, h10, X10, e10, E10, A10, D10, -, st10⟩ := newO X9 hx hZ hown (ow hw 122 rfl) (ow hw 123 rfl) (ow hw 124 rfl) e9q (g := (mkF m 12 #[vr o1, vr o2, vr o3] [])) rfl (hb hby d26_12) (by decide) (by decide)
  obtain ⟨b10, g10⟩ : ∃ z, z = h3.size := ⟨_, rfl⟩
  rw [← g10] at A10 D10 st10
  have f11 := ((Pm1.keep K1q).ext E3)
  have ne_o1_b10 : o1 ≠ b10 := Nat.ne_of_lt (Nat.lt_of_lt_of_le f11.lt (Nat.le_of_eq g10.symm))
  have f12 := ((Pm3.keep K1q).ext E3)
  have ne_o2_b10 : o2 ≠ b10 := Nat.ne_of_lt (Nat.lt_of_lt_of_le f12.lt (Nat.le_of_eq g10.symm))
  have ne_o3_b10 : o3 ≠ b10 := Nat.ne_of_lt (Nat.lt_of_lt_of_le f5.lt (Nat.le_of_eq g10.symm))
  have f13 := ((Pm9.keep K1q).ext E3)
  have ne_o4_b10 : o4 ≠ b10 := Nat.ne_of_lt (Nat.lt_of_lt_of_le f13.lt (Nat.le_of_eq g10.symm))
  have f14 := ((Pm12.keep K1q nin0).ext E3)
  have ne_o5_b10 : o5 ≠ b10 := Nat.ne_of_lt (Nat.lt_of_lt_of_le f14.lt (Nat.le_of_eq g10.symm))
  have ne_o6_b10 : o6 ≠ b10 := Nat.ne_of_lt (Nat.lt_of_lt_of_le f8.lt (Nat.le_of_eq g10.symm))
  have f15 := ((Pm14.keep K1q nin0).ext E3)
  have ne_o7_b10 : o7 ≠ b10 := Nat.ne_of_lt (Nat.lt_of_lt_of_le f15.lt (Nat.le_of_eq g10.symm))
  have gn_b10 : n0 ≤ b10 := Nat.le_trans (Nat.le_trans Z0 K3.1) (Nat.le_of_eq g10.symm)
  have sz_b10 : h0.size ≤ b10 := Nat.le_trans K3.1 (Nat.le_of_eq g10.symm)
  have Sf10_b10 : Safe Z own_EL T3.vm h3 b10 := Safe.new (Nat.le_of_eq g10.symm)
  have K10 : Keep h0 h10 [] := K3.ext E10
  have F_value_b10 : Fld Z h10 b10 "java/lang/AbstractStringBuilder" "value" "[B" .null := D10 (Or.inl (ow hw 137 rfl)) (ty := (.array .byte)) (by decide)
  have F_coder_b10 : Fld Z h10 b10 "java/lang/AbstractStringBuilder" "coder" "B" (.int 0) := D10 (Or.inl (ow hw 139 rfl)) (ty := .byte) (by decide)
  have F_count_b10 : Fld Z h10 b10 "java/lang/AbstractStringBuilder" "count" "I" (.int 0) := D10 (Or.inl (ow hw 152 rfl)) (ty := .int) (by decide)
  refine step (T10.setTop (mkF m 15 #[vr o1, vr o2, vr o3] [(.ref b10)])) (fun t k => st10 t k) ?_
  refine odu KK X10 d26_15 16 rfl rfl ?_
  have f16 := (f4.ext E10)
  have C18 := C3.trans (CHr.ext E10 C3.1)
  have Sf18_b10 := Safe.ext E10 C3.1 Sf10_b10
  obtain ⟨_, _, ⟨T17, L17, k17, n17⟩, -, X17, ⟨Lc17, hQ17, l17, y17, z17⟩, st17⟩ := X10.specialBack hx (y := nM26) rfl hown (mvT hZ (ow hw 125 rfl)) (mvT hZ (ow hw 126 rfl)) (mvT hZ (ow hw 127 rfl)) (by decide) (backOf (W := 1) (rm28_32 l Z a0 hw [] b10 i1 h10 n0 (Nat.le_trans Z0 K10.1) f16 A10 F_coder_b10 F_count_b10 F_value_b10 gn_b10 hy43) hZ (ow hw 127 rfl) (ow hw 124 rfl) (by decide) (by decide)) (g := (mkF m 16 #[vr o1, vr o2, vr o3] [(.ref b10), (.ref b10)])) rfl (by rw [hml]; rfl) (Steps.refl _) (a := b10) (argsL := []) (rest := [(.ref b10)]) (lenOf pd_7 rfl) rfl (omw rfl rfl) (hb hby d26_16) (fun _ _ => ⟨rfl, e10, (by decide : 5 + 1 ≤ _), (by decide : 44 + 16 ≤ _)⟩)
  dsimp only [Pt.U, Pt.locs, Pt.cells, Pt.slots] at X17 l17 y17 z17 st17 hQ17
  subst l17 y17 z17
  obtain ⟨h17, e17⟩ : ∃ z, T17.heap = z := ⟨_, rfl⟩
  rw [e17] at hQ17
  obtain ⟨b4_1_17, k4_1_17, rfl, N17q, K17q, sz_b4_1_17, q0_17, q1_17, q2_17, q3_17⟩ := hQ17
  have N17 := Fr.app N9 N17q
  have f19 := (f11.ext E10)
  have lt17_o1 := f19.lt
  have f20 := (f12.ext E10)
  have lt17_o2 := f20.lt
  have f21 := (f5.ext E10)
  have lt17_o3 := f21.lt
  have f22 := (f13.ext E10)
  have lt17_o4 := f22.lt
  have f23 := (f14.ext E10)
  have lt17_o5 := f23.lt
  have f24 := (f8.ext E10)
  have lt17_o6 := f24.lt
  have f25 := (f15.ext E10)
  have lt17_o7 := f25.lt
  have lt17_b10 := A10.lt
  have Sf17_b4_1_17 : Safe Z own_EL T3.vm h10 b4_1_17 := Safe.new sz_b4_1_17
  have ne_o1_b4_1_17 : o1 ≠ b4_1_17 := Nat.ne_of_lt (Nat.lt_of_lt_of_le lt17_o1 sz_b4_1_17)
  have ne_o2_b4_1_17 : o2 ≠ b4_1_17 := Nat.ne_of_lt (Nat.lt_of_lt_of_le lt17_o2 sz_b4_1_17)
  have ne_o3_b4_1_17 : o3 ≠ b4_1_17 := Nat.ne_of_lt (Nat.lt_of_lt_of_le lt17_o3 sz_b4_1_17)
  have ne_o4_b4_1_17 : o4 ≠ b4_1_17 := Nat.ne_of_lt (Nat.lt_of_lt_of_le lt17_o4 sz_b4_1_17)
  have ne_o5_b4_1_17 : o5 ≠ b4_1_17 := Nat.ne_of_lt (Nat.lt_of_lt_of_le lt17_o5 sz_b4_1_17)
  have ne_o6_b4_1_17 : o6 ≠ b4_1_17 := Nat.ne_of_lt (Nat.lt_of_lt_of_le lt17_o6 sz_b4_1_17)
  have ne_o7_b4_1_17 : o7 ≠ b4_1_17 := Nat.ne_of_lt (Nat.lt_of_lt_of_le lt17_o7 sz_b4_1_17)
  have ne_b10_b4_1_17 : b10 ≠ b4_1_17 := Nat.ne_of_lt (Nat.lt_of_lt_of_le lt17_b10 sz_b4_1_17)
  have gn_b4_1_17 : n0 ≤ b4_1_17 := Nat.le_trans (Nat.le_trans Z0 K10.1) sz_b4_1_17
  have sz_b4_1_17' := Nat.le_trans K10.1 sz_b4_1_17
  replace sz_b4_1_17 := sz_b4_1_17'
  have K17 : Keep h0 h17 [] := K10.trans K17q (allS (Or.inr sz_b10) all0)
  have f26 := own_staK f16 K17q (allS (own_exaP A10) all0)
  refine step (T17.setTop (mkF m 19 #[vr o1, vr o2, vr o3] [(.ref b10)])) (fun t k => st17.trans k) ?_
  refine oal KK X17 d26_19 (.ref o1) 20 rfl rfl rfl ?_
  have f27 := ((((Pm2.keep K1q nin0).ext E3).ext E10).keep K17q (ninS ne_o1_b10 nin0))
  obtain ⟨T28, X28, e28, st28⟩ := getF X17 hx hZ hown (host := "") (Or.inl (ow hw 110 rfl)) Via.refl e17 f27 (g := (mkF m 20 #[vr o1, vr o2, vr o3] [(.ref o1), (.ref b10)])) rfl rfl (hb hby d26_20)
  refine step (T28.setTop (mkF m 23 #[vr o1, vr o2, vr o3] [(.ref o4), (.ref b10)])) (fun t k => st28 t k) ?_
  have f29 := (A10.keep K17q)
  have f30 := (f22.keep K17q)
  have f31 := ((((Pm10.keep K1q nin0).ext E3).ext E10).keep K17q (ninS ne_o4_b10 nin0))
  have f32 := ((((Pm11.keep K1q nin0).ext E3).ext E10).keep K17q (ninS ne_o4_b10 nin0))
  have f33 := (f25.keep K17q (ninS ne_o7_b10 nin0))
  have C35 := C18.trans (CHr.keep K17q (allS Sf18_b10 all0) C18.1)
  have Sf35_b10 := Safe.keep K17q (allS Sf18_b10 all0) C18.1 Sf18_b10
  have Sf35_b4_1_17 := Safe.keep K17q (allS Sf18_b10 all0) C18.1 Sf17_b4_1_17
  obtain ⟨cq34, kq34, q34a, q34b, q34c⟩ := isOf hZ e28 f29
  obtain ⟨_, _, ⟨T34, L34, k34, n34⟩, -, X34, ⟨Lc34, hQ34, l34, y34, z34⟩, st34⟩ := X28.virtualBack hx (y := nM32) (z := nM32) hown (mvT hZ (ow hw 140 rfl)) (mvT hZ (ow hw 141 rfl)) (notFace_of_selects (args := #[]) (mvT hZ (ow hw 143 rfl))) (mvT hZ (ow hw 143 rfl)) (mvT hZ (ow hw 142 rfl)) (by decide) (backOf (W := 0) (rm30_90 l Z a0 hw [] b10 o4 i1 (0 : Int32) b4_1_17 o7 k4_1_17 ([]) kc6 i7 i8 h17 n0 (Nat.le_trans Z0 K17.1) f26 f29 q0_17 q1_17 q2_17 f30 f31 f32 q3_17 f33 gn_b10 (Ne.symm ne_o4_b10) ne_b10_b4_1_17 (Ne.symm ne_o7_b10) gn_o4 ne_o4_b4_1_17 ne_o4_o7 gn_b4_1_17 (Ne.symm ne_o7_b4_1_17) gn_o7 rfl (by decide) (by decide) (by decide) hy43 hy44 hy45 hy46 hy47) hZ (ow hw 144 rfl) (ow hw 124 rfl) (by decide) (by decide)) q34a q34c (g := (mkF m 23 #[vr o1, vr o2, vr o3] [(.ref o4), (.ref b10)])) rfl (by rw [hml]; rfl) (Steps.refl _) (argsL := [(.ref o4)]) (rest := []) (lenOf pd_16 rfl) rfl (omw rfl rfl) (hb hby d26_23) (fun _ _ => ⟨rfl, e28, (by decide : 6 + 0 ≤ _), (by decide : 60 + 0 ≤ _)⟩)
  dsimp only [Pt.U, Pt.locs, Pt.cells, Pt.slots] at X34 l34 y34 z34 st34 hQ34
  subst l34 y34 z34
  obtain ⟨h34, e34⟩ : ∃ z, T34.heap = z := ⟨_, rfl⟩
  rw [e34] at hQ34
  obtain ⟨rfl, N34q, K34q, q0_34, q1_34, q2_34, q3_34⟩ := hQ34
  have N34 := Fr.app N17 N34q
  have K34 : Keep h0 h34 [] := K17.trans K34q (allS (Or.inr sz_b4_1_17) (allS (Or.inr sz_b10) all0))
  have f36 := own_staK f26 K34q (allS (own_arvP q3_17) (allS (own_exaP f29) all0))
  have q0_34' : Arv Z h34 b4_1_17 k4_1_17 .byte (16 : Int32) [(.int i7), (.int i8)] (.int 0) := q0_34
  have q2_34' : Fld Z h34 b10 "java/lang/AbstractStringBuilder" "count" "I" (.int 2) := q2_34
  refine step (T34.setTop (mkF m 26 #[vr o1, vr o2, vr o3] [(.ref b10)])) (fun t k => st34.trans k) ?_
  have C38 := C35.trans (CHr.keep K34q (allS Sf35_b4_1_17 (allS Sf35_b10 all0)) C35.1)
  have Sf38_b10 := Safe.keep K34q (allS Sf35_b4_1_17 (allS Sf35_b10 all0)) C35.1 Sf35_b10
  have Sf38_b4_1_17 := Safe.keep K34q (allS Sf35_b4_1_17 (allS Sf35_b10 all0)) C35.1 Sf35_b4_1_17
  have f39 := (f29.keep K34q)
  have hl37_b10 := f39.lt
  have hl37_b4_1_17 := q0_34'.lt
  obtain ⟨a37, T37, h37, kk37, bb37, kb37, X37, e37, E37, hS37, hk37, hZ37, hown37, Ex37, Fc37, Fv37, Va37, -, -, hC37, -, hne37, st37⟩ := ldcCH X34 hx hZ hown (ow hw 178 rfl) (own_wS hw) e34 hS (Nat.le_trans (Nat.le_trans (Nat.le_trans hk3 E10.1) K17q.1) K34q.1) (own_EWs hw) (List.mem_of_getElem? (i := 3) rfl) C38.1 (vs := [(.int 58), (.int 123)]) (z := (2 : Int32)) ⟨by decide, rfl⟩ (by decide) rfl (g := (mkF m 26 #[vr o1, vr o2, vr o3] [(.ref b10)])) rfl (hb hby d26_26) (n := 8) (by decide) (by decide) (by decide) (by decide)
  replace hS := hS37
  replace hZ : Z.Warmed39 T37.vm := hZ37
  replace hown : T37.vm.findClass "com/example/dibs/dibs/core/Keyspace" = some m.cls := hown37
  have K37 : Keep h0 h37 [] := K34.ext E37
  have C37 := C38.trans hC37
  have Sf37_b10 := hC37.safe hl37_b10 Sf38_b10
  have Sf37_b4_1_17 := hC37.safe hl37_b4_1_17 Sf38_b4_1_17
  have ne_b10_a37 := (hne37 b10 Sf37_b10).1
  have ne_b10_bb37 := (hne37 b10 Sf37_b10).2
  have ne_b4_1_17_a37 := (hne37 b4_1_17 Sf37_b4_1_17).1
  have ne_b4_1_17_bb37 := (hne37 b4_1_17 Sf37_b4_1_17).2
  refine step (T37.setTop (mkF m 28 #[vr o1, vr o2, vr o3] [(.ref a37), (.ref b10)])) (fun t k => st37 t k) ?_
  have f40 := (f36.ext E37)
  have f41 := (f39.ext E37)
  have f42 := (q1_34.ext E37)
  have f43 := (q2_34'.ext E37)
  have f44 := (q3_34.ext E37)
  have f45 := (q0_34'.ext E37)
  obtain ⟨cq46, kq46, q46a, q46b, q46c⟩ := isOf hZ e37 f41
  obtain ⟨_, _, ⟨T46, L46, k46, n46⟩, -, X46, ⟨Lc46, hQ46, l46, y46, z46⟩, st46⟩ := X37.virtualBack hx (y := nM32) (z := nM32) hown (mvT hZ (ow hw 140 rfl)) (mvT hZ (ow hw 141 rfl)) (notFace_of_selects (args := #[]) (mvT hZ (ow hw 143 rfl))) (mvT hZ (ow hw 143 rfl)) (mvT hZ (ow hw 142 rfl)) (by decide) (backOf (W := 0) (rm30_40 l Z a0 hw [] b10 a37 i1 (2 : Int32) b4_1_17 bb37 k4_1_17 ([(.int i7), (.int i8)]) kb37 h37 n0 (Nat.le_trans Z0 K37.1) f40 f41 f42 f43 f44 Ex37 Fc37 Fv37 f45 Va37 gn_b10 ne_b10_a37 ne_b10_b4_1_17 ne_b10_bb37 (Ne.symm ne_b4_1_17_a37) gn_b4_1_17 ne_b4_1_17_bb37 rfl (by decide) (by decide) (by decide) hy43) hZ (ow hw 144 rfl) (ow hw 124 rfl) (by decide) (by decide)) q46a q46c (g := (mkF m 28 #[vr o1, vr o2, vr o3] [(.ref a37), (.ref b10)])) rfl (by rw [hml]; rfl) (Steps.refl _) (argsL := [(.ref a37)]) (rest := []) (lenOf pd_16 rfl) rfl (omw rfl rfl) (hb hby d26_28) (fun _ _ => ⟨rfl, e37, (by decide : 8 + 0 ≤ _), (by decide : 72 + 0 ≤ _)⟩)
  dsimp only [Pt.U, Pt.locs, Pt.cells, Pt.slots] at X46 l46 y46 z46 st46 hQ46
  subst l46 y46 z46
  obtain ⟨h46, e46⟩ : ∃ z, T46.heap = z := ⟨_, rfl⟩
  rw [e46] at hQ46
  obtain ⟨rfl, N46q, K46q, q0_46, q1_46, q2_46, q3_46⟩ := hQ46
  have N46 := Fr.app N34 N46q
  have K46 : Keep h0 h46 [] := K37.trans K46q (allS (Or.inr sz_b4_1_17) (allS (Or.inr sz_b10) all0))
  have f47 := own_staK f40 K46q (allS (own_arvP f45) (allS (own_exaP f41) all0))
  have q0_46' : Arv Z h46 b4_1_17 k4_1_17 .byte (16 : Int32) [(.int i7), (.int i8), (.int 58), (.int 123)] (.int 0) := q0_46
  have q2_46' : Fld Z h46 b10 "java/lang/AbstractStringBuilder" "count" "I" (.int 4) := q2_46
  refine step (T46.setTop (mkF m 31 #[vr o1, vr o2, vr o3] [(.ref b10)])) (fun t k => st46.trans k) ?_
  refine oal KK X46 d26_31 (.ref o2) 32 rfl rfl rfl ?_
  have f48 := (f41.keep K46q)
  have f49 := ((((f20.keep K17q).keep K34q).ext E37).keep K46q)
  have f50 := (((((((Pm4.keep K1q nin0).ext E3).ext E10).keep K17q (ninS ne_o2_b10 nin0)).keep K34q (ninS ne_o2_b4_1_17 (ninS ne_o2_b10 nin0))).ext E37).keep K46q (ninS ne_o2_b4_1_17 (ninS ne_o2_b10 nin0)))
  have f51 := (((((((Pm5.keep K1q nin0).ext E3).ext E10).keep K17q (ninS ne_o2_b10 nin0)).keep K34q (ninS ne_o2_b4_1_17 (ninS ne_o2_b10 nin0))).ext E37).keep K46q (ninS ne_o2_b4_1_17 (ninS ne_o2_b10 nin0)))
  have f52 := ((((f23.keep K17q (ninS ne_o5_b10 nin0)).keep K34q (ninS ne_o5_b4_1_17 (ninS ne_o5_b10 nin0))).ext E37).keep K46q (ninS ne_o5_b4_1_17 (ninS ne_o5_b10 nin0)))
  have C54 := C37.trans (CHr.keep K46q (allS Sf37_b4_1_17 (allS Sf37_b10 all0)) C37.1)
  have Sf54_b10 := Safe.keep K46q (allS Sf37_b4_1_17 (allS Sf37_b10 all0)) C37.1 Sf37_b10
  have Sf54_b4_1_17 := Safe.keep K46q (allS Sf37_b4_1_17 (allS Sf37_b10 all0)) C37.1 Sf37_b4_1_17
  obtain ⟨cq53, kq53, q53a, q53b, q53c⟩ := isOf hZ e46 f48
  obtain ⟨_, _, ⟨T53, L53, k53, n53⟩, -, X53, ⟨Lc53, hQ53, l53, y53, z53⟩, st53⟩ := X46.virtualBack hx (y := nM32) (z := nM32) hown (mvT hZ (ow hw 140 rfl)) (mvT hZ (ow hw 141 rfl)) (notFace_of_selects (args := #[]) (mvT hZ (ow hw 143 rfl))) (mvT hZ (ow hw 143 rfl)) (mvT hZ (ow hw 142 rfl)) (by decide) (backOf (W := 0) (rm30_34 l Z a0 hw [] b10 o2 i1 (4 : Int32) b4_1_17 o5 k4_1_17 ([(.int i7), (.int i8), (.int 58), (.int 123)]) kc2 i3 h46 n0 (Nat.le_trans Z0 K46.1) f47 f48 q1_46 q2_46' q3_46 f49 f50 f51 q0_46' f52 gn_b10 (Ne.symm ne_o2_b10) ne_b10_b4_1_17 (Ne.symm ne_o5_b10) gn_o2 ne_o2_b4_1_17 ne_o2_o5 gn_b4_1_17 (Ne.symm ne_o5_b4_1_17) gn_o5 rfl (by decide) (by decide) (by decide) hy43 hy48 hy49) hZ (ow hw 144 rfl) (ow hw 124 rfl) (by decide) (by decide)) q53a q53c (g := (mkF m 32 #[vr o1, vr o2, vr o3] [(.ref o2), (.ref b10)])) rfl (by rw [hml]; rfl) (Steps.refl _) (argsL := [(.ref o2)]) (rest := []) (lenOf pd_16 rfl) rfl (omw rfl rfl) (hb hby d26_32) (fun _ _ => ⟨rfl, e46, (by decide : 8 + 0 ≤ _), (by decide : 72 + 0 ≤ _)⟩)
  dsimp only [Pt.U, Pt.locs, Pt.cells, Pt.slots] at X53 l53 y53 z53 st53 hQ53
  subst l53 y53 z53
  obtain ⟨h53, e53⟩ : ∃ z, T53.heap = z := ⟨_, rfl⟩
  rw [e53] at hQ53
  obtain ⟨rfl, N53q, K53q, q0_53, q1_53, q2_53, q3_53⟩ := hQ53
  have N53 := Fr.app N46 N53q
  have K53 : Keep h0 h53 [] := K46.trans K53q (allS (Or.inr sz_b4_1_17) (allS (Or.inr sz_b10) all0))
  have f55 := own_staK f47 K53q (allS (own_arvP q0_46') (allS (own_exaP f48) all0))
  have q0_53' : Arv Z h53 b4_1_17 k4_1_17 .byte (16 : Int32) [(.int i7), (.int i8), (.int 58), (.int 123), (.int i3)] (.int 0) := q0_53
  have q2_53' : Fld Z h53 b10 "java/lang/AbstractStringBuilder" "count" "I" (.int 5) := q2_53
  refine step (T53.setTop (mkF m 35 #[vr o1, vr o2, vr o3] [(.ref b10)])) (fun t k => st53.trans k) ?_
  have C57 := C54.trans (CHr.keep K53q (allS Sf54_b4_1_17 (allS Sf54_b10 all0)) C54.1)
  have Sf57_b10 := Safe.keep K53q (allS Sf54_b4_1_17 (allS Sf54_b10 all0)) C54.1 Sf54_b10
  have Sf57_b4_1_17 := Safe.keep K53q (allS Sf54_b4_1_17 (allS Sf54_b10 all0)) C54.1 Sf54_b4_1_17
  have f58 := (f48.keep K53q)
  have hl56_b10 := f58.lt
  have hl56_b4_1_17 := q0_53'.lt
  obtain ⟨a56, T56, h56, kk56, bb56, kb56, X56, e56, E56, hS56, hk56, hZ56, hown56, Ex56, Fc56, Fv56, Va56, -, -, hC56, -, hne56, st56⟩ := ldcCH X53 hx hZ hown (ow hw 179 rfl) (own_wS hw) e53 hS (Nat.le_trans (Nat.le_trans hk37 K46q.1) K53q.1) (own_EWs hw) (List.mem_of_getElem? (i := 4) rfl) C57.1 (vs := [(.int 125), (.int 58)]) (z := (2 : Int32)) ⟨by decide, rfl⟩ (by decide) rfl (g := (mkF m 35 #[vr o1, vr o2, vr o3] [(.ref b10)])) rfl (hb hby d26_35) (n := 8) (by decide) (by decide) (by decide) (by decide)
  replace hS := hS56
  replace hZ : Z.Warmed39 T56.vm := hZ56
  replace hown : T56.vm.findClass "com/example/dibs/dibs/core/Keyspace" = some m.cls := hown56
  have K56 : Keep h0 h56 [] := K53.ext E56
  have C56 := C57.trans hC56
  have Sf56_b10 := hC56.safe hl56_b10 Sf57_b10
  have Sf56_b4_1_17 := hC56.safe hl56_b4_1_17 Sf57_b4_1_17
  have ne_b10_a56 := (hne56 b10 Sf56_b10).1
  have ne_b10_bb56 := (hne56 b10 Sf56_b10).2
  have ne_b4_1_17_a56 := (hne56 b4_1_17 Sf56_b4_1_17).1
  have ne_b4_1_17_bb56 := (hne56 b4_1_17 Sf56_b4_1_17).2
  refine step (T56.setTop (mkF m 37 #[vr o1, vr o2, vr o3] [(.ref a56), (.ref b10)])) (fun t k => st56 t k) ?_
  have f59 := (f55.ext E56)
  have f60 := (f58.ext E56)
  have f61 := (q1_53.ext E56)
  have f62 := (q2_53'.ext E56)
  have f63 := (q3_53.ext E56)
  have f64 := (q0_53'.ext E56)
  obtain ⟨cq65, kq65, q65a, q65b, q65c⟩ := isOf hZ e56 f60
  obtain ⟨_, _, ⟨T65, L65, k65, n65⟩, -, X65, ⟨Lc65, hQ65, l65, y65, z65⟩, st65⟩ := X56.virtualBack hx (y := nM32) (z := nM32) hown (mvT hZ (ow hw 140 rfl)) (mvT hZ (ow hw 141 rfl)) (notFace_of_selects (args := #[]) (mvT hZ (ow hw 143 rfl))) (mvT hZ (ow hw 143 rfl)) (mvT hZ (ow hw 142 rfl)) (by decide) (backOf (W := 0) (rm30_48 l Z a0 hw [] b10 a56 i1 (5 : Int32) b4_1_17 bb56 k4_1_17 ([(.int i7), (.int i8), (.int 58), (.int 123), (.int i3)]) kb56 h56 n0 (Nat.le_trans Z0 K56.1) f59 f60 f61 f62 f63 Ex56 Fc56 Fv56 f64 Va56 gn_b10 ne_b10_a56 ne_b10_b4_1_17 ne_b10_bb56 (Ne.symm ne_b4_1_17_a56) gn_b4_1_17 ne_b4_1_17_bb56 rfl (by decide) (by decide) (by decide) hy43) hZ (ow hw 144 rfl) (ow hw 124 rfl) (by decide) (by decide)) q65a q65c (g := (mkF m 37 #[vr o1, vr o2, vr o3] [(.ref a56), (.ref b10)])) rfl (by rw [hml]; rfl) (Steps.refl _) (argsL := [(.ref a56)]) (rest := []) (lenOf pd_16 rfl) rfl (omw rfl rfl) (hb hby d26_37) (fun _ _ => ⟨rfl, e56, (by decide : 10 + 0 ≤ _), (by decide : 84 + 0 ≤ _)⟩)
  dsimp only [Pt.U, Pt.locs, Pt.cells, Pt.slots] at X65 l65 y65 z65 st65 hQ65
  subst l65 y65 z65
  obtain ⟨h65, e65⟩ : ∃ z, T65.heap = z := ⟨_, rfl⟩
  rw [e65] at hQ65
  obtain ⟨rfl, N65q, K65q, q0_65, q1_65, q2_65, q3_65⟩ := hQ65
  have N65 := Fr.app N53 N65q
  have K65 : Keep h0 h65 [] := K56.trans K65q (allS (Or.inr sz_b4_1_17) (allS (Or.inr sz_b10) all0))
  have f66 := own_staK f59 K65q (allS (own_arvP f64) (allS (own_exaP f60) all0))
  have q0_65' : Arv Z h65 b4_1_17 k4_1_17 .byte (16 : Int32) [(.int i7), (.int i8), (.int 58), (.int 123), (.int i3), (.int 125), (.int 58)] (.int 0) := q0_65
  have q2_65' : Fld Z h65 b10 "java/lang/AbstractStringBuilder" "count" "I" (.int 7) := q2_65
  refine step (T65.setTop (mkF m 40 #[vr o1, vr o2, vr o3] [(.ref b10)])) (fun t k => st65.trans k) ?_
  refine oal KK X65 d26_40 (.ref o3) 41 rfl rfl rfl ?_
  have f67 := (f60.keep K65q)
  have f68 := (((((((f21.keep K17q).keep K34q).ext E37).keep K46q).keep K53q).ext E56).keep K65q)
  have f69 := ((((((((f6.ext E10).keep K17q (ninS ne_o3_b10 nin0)).keep K34q (ninS ne_o3_b4_1_17 (ninS ne_o3_b10 nin0))).ext E37).keep K46q (ninS ne_o3_b4_1_17 (ninS ne_o3_b10 nin0))).keep K53q (ninS ne_o3_b4_1_17 (ninS ne_o3_b10 nin0))).ext E56).keep K65q (ninS ne_o3_b4_1_17 (ninS ne_o3_b10 nin0)))
  have f70 := ((((((((f7.ext E10).keep K17q (ninS ne_o3_b10 nin0)).keep K34q (ninS ne_o3_b4_1_17 (ninS ne_o3_b10 nin0))).ext E37).keep K46q (ninS ne_o3_b4_1_17 (ninS ne_o3_b10 nin0))).keep K53q (ninS ne_o3_b4_1_17 (ninS ne_o3_b10 nin0))).ext E56).keep K65q (ninS ne_o3_b4_1_17 (ninS ne_o3_b10 nin0)))
  have f71 := (((((((f24.keep K17q (ninS ne_o6_b10 nin0)).keep K34q (ninS ne_o6_b4_1_17 (ninS ne_o6_b10 nin0))).ext E37).keep K46q (ninS ne_o6_b4_1_17 (ninS ne_o6_b10 nin0))).keep K53q (ninS ne_o6_b4_1_17 (ninS ne_o6_b10 nin0))).ext E56).keep K65q (ninS ne_o6_b4_1_17 (ninS ne_o6_b10 nin0)))
  have C73 := C56.trans (CHr.keep K65q (allS Sf56_b4_1_17 (allS Sf56_b10 all0)) C56.1)
  have Sf73_b10 := Safe.keep K65q (allS Sf56_b4_1_17 (allS Sf56_b10 all0)) C56.1 Sf56_b10
  have Sf73_b4_1_17 := Safe.keep K65q (allS Sf56_b4_1_17 (allS Sf56_b10 all0)) C56.1 Sf56_b4_1_17
  obtain ⟨cq72, kq72, q72a, q72b, q72c⟩ := isOf hZ e65 f67
  obtain ⟨_, _, ⟨T72, L72, k72, n72⟩, -, X72, ⟨Lc72, hQ72, l72, y72, z72⟩, st72⟩ := X65.virtualBack hx (y := nM32) (z := nM32) hown (mvT hZ (ow hw 140 rfl)) (mvT hZ (ow hw 141 rfl)) (notFace_of_selects (args := #[]) (mvT hZ (ow hw 143 rfl))) (mvT hZ (ow hw 143 rfl)) (mvT hZ (ow hw 142 rfl)) (by decide) (backOf (W := 0) (rm30_34 l Z a0 hw [] b10 o3 i1 (7 : Int32) b4_1_17 o6 k4_1_17 ([(.int i7), (.int i8), (.int 58), (.int 123), (.int i3), (.int 125), (.int 58)]) kc4 i5 h65 n0 (Nat.le_trans Z0 K65.1) f66 f67 q1_65 q2_65' q3_65 f68 f69 f70 q0_65' f71 gn_b10 (Ne.symm ne_o3_b10) ne_b10_b4_1_17 (Ne.symm ne_o6_b10) gn_o3 ne_o3_b4_1_17 ne_o3_o6 gn_b4_1_17 (Ne.symm ne_o6_b4_1_17) gn_o6 rfl (by decide) (by decide) (by decide) hy43 hy50 hy51) hZ (ow hw 144 rfl) (ow hw 124 rfl) (by decide) (by decide)) q72a q72c (g := (mkF m 41 #[vr o1, vr o2, vr o3] [(.ref o3), (.ref b10)])) rfl (by rw [hml]; rfl) (Steps.refl _) (argsL := [(.ref o3)]) (rest := []) (lenOf pd_16 rfl) rfl (omw rfl rfl) (hb hby d26_41) (fun _ _ => ⟨rfl, e65, (by decide : 10 + 0 ≤ _), (by decide : 84 + 0 ≤ _)⟩)
  dsimp only [Pt.U, Pt.locs, Pt.cells, Pt.slots] at X72 l72 y72 z72 st72 hQ72
  subst l72 y72 z72
  obtain ⟨h72, e72⟩ : ∃ z, T72.heap = z := ⟨_, rfl⟩
  rw [e72] at hQ72
  obtain ⟨rfl, N72q, K72q, q0_72, q1_72, q2_72, q3_72⟩ := hQ72
  have N72 := Fr.app N65 N72q
  have K72 : Keep h0 h72 [] := K65.trans K72q (allS (Or.inr sz_b4_1_17) (allS (Or.inr sz_b10) all0))
  have f74 := own_staK f66 K72q (allS (own_arvP q0_65') (allS (own_exaP f67) all0))
  have q0_72' : Arv Z h72 b4_1_17 k4_1_17 .byte (16 : Int32) [(.int i7), (.int i8), (.int 58), (.int 123), (.int i3), (.int 125), (.int 58), (.int i5)] (.int 0) := q0_72
  have q2_72' : Fld Z h72 b10 "java/lang/AbstractStringBuilder" "count" "I" (.int 8) := q2_72
  refine step (T72.setTop (mkF m 44 #[vr o1, vr o2, vr o3] [(.ref b10)])) (fun t k => st72.trans k) ?_
  have f75 := (f67.keep K72q)
  have C77 := C73.trans (CHr.keep K72q (allS Sf73_b4_1_17 (allS Sf73_b10 all0)) C73.1)
  have Sf77_b10 := Safe.keep K72q (allS Sf73_b4_1_17 (allS Sf73_b10 all0)) C73.1 Sf73_b10
  have Sf77_b4_1_17 := Safe.keep K72q (allS Sf73_b4_1_17 (allS Sf73_b10 all0)) C73.1 Sf73_b4_1_17
  obtain ⟨cq76, kq76, q76a, q76b, q76c⟩ := isOf hZ e72 f75
  obtain ⟨_, _, ⟨T76, L76, k76, n76⟩, -, X76, ⟨Lc76, hQ76, l76, y76, z76⟩, st76⟩ := X72.virtualBack hx (y := nM42) (z := nM42) hown (mvT hZ (ow hw 180 rfl)) (mvT hZ (ow hw 181 rfl)) (notFace_of_selects (args := #[]) (mvT hZ (ow hw 183 rfl))) (mvT hZ (ow hw 183 rfl)) (mvT hZ (ow hw 182 rfl)) (by decide) (backOf (W := 0) (rm36_94 l Z a0 hw [] b10 i1 b4_1_17 k4_1_17 i7 i8 i3 i5 h72 n0 (Nat.le_trans Z0 K72.1) f74 f75 q1_72 q2_72' q3_72 q0_72' gn_b10 ne_b10_b4_1_17 gn_b4_1_17 hy43 hy48 hy49 hy50 hy51 hy44 hy45 hy46 hy47) hZ (ow hw 184 rfl) (ow hw 124 rfl) (by decide) (by decide)) q76a q76c (g := (mkF m 44 #[vr o1, vr o2, vr o3] [(.ref b10)])) rfl (by rw [hml]; rfl) (Steps.refl _) (argsL := []) (rest := []) (lenOf pd_17 rfl) rfl (omw rfl rfl) (hb hby d26_44) (fun _ _ => ⟨rfl, e72, (by decide : 10 + 2 ≤ _), (by decide : 84 + 12 ≤ _)⟩)
  dsimp only [Pt.U, Pt.locs, Pt.cells, Pt.slots] at X76 l76 y76 z76 st76 hQ76
  subst l76 y76 z76
  obtain ⟨h76, e76⟩ : ∃ z, T76.heap = z := ⟨_, rfl⟩
  rw [e76] at hQ76
  obtain ⟨b1_76, b2_2_7_1_8_76, k2_2_7_1_8_76, rfl, N76q, K76q, sz_b1_76, sz_b2_2_7_1_8_76, ne_b1_b2_2_7_1_8_76, q0_76, q1_76, q2_76, q3_76⟩ := hQ76
  have N76 := Fr.app N72 N76q
  have f78 := ((((((((f19.keep K17q).keep K34q).ext E37).keep K46q).keep K53q).ext E56).keep K65q).keep K72q)
  have lt76_o1 := f78.lt
  have f79 := ((((f49.keep K53q).ext E56).keep K65q).keep K72q)
  have lt76_o2 := f79.lt
  have f80 := (f68.keep K72q)
  have lt76_o3 := f80.lt
  have f81 := (((((((f30.keep K34q).ext E37).keep K46q).keep K53q).ext E56).keep K65q).keep K72q)
  have lt76_o4 := f81.lt
  have f82 := ((((f52.keep K53q (ninS ne_o5_b4_1_17 (ninS ne_o5_b10 nin0))).ext E56).keep K65q (ninS ne_o5_b4_1_17 (ninS ne_o5_b10 nin0))).keep K72q (ninS ne_o5_b4_1_17 (ninS ne_o5_b10 nin0)))
  have lt76_o5 := f82.lt
  have f83 := (f71.keep K72q (ninS ne_o6_b4_1_17 (ninS ne_o6_b10 nin0)))
  have lt76_o6 := f83.lt
  have f84 := (((((((f33.keep K34q (ninS ne_o7_b4_1_17 (ninS ne_o7_b10 nin0))).ext E37).keep K46q (ninS ne_o7_b4_1_17 (ninS ne_o7_b10 nin0))).keep K53q (ninS ne_o7_b4_1_17 (ninS ne_o7_b10 nin0))).ext E56).keep K65q (ninS ne_o7_b4_1_17 (ninS ne_o7_b10 nin0))).keep K72q (ninS ne_o7_b4_1_17 (ninS ne_o7_b10 nin0)))
  have lt76_o7 := f84.lt
  have lt76_b10 := f75.lt
  have f85 := (((((Ex37.keep K46q).keep K53q).ext E56).keep K65q).keep K72q)
  have lt76_a37 := f85.lt
  have f86 := (((((Va37.keep K46q (ninS (Ne.symm ne_b4_1_17_bb37) (ninS (Ne.symm ne_b10_bb37) nin0))).keep K53q (ninS (Ne.symm ne_b4_1_17_bb37) (ninS (Ne.symm ne_b10_bb37) nin0))).ext E56).keep K65q (ninS (Ne.symm ne_b4_1_17_bb37) (ninS (Ne.symm ne_b10_bb37) nin0))).keep K72q (ninS (Ne.symm ne_b4_1_17_bb37) (ninS (Ne.symm ne_b10_bb37) nin0)))
  have lt76_bb37 := f86.lt
  have f87 := ((Ex56.keep K65q).keep K72q)
  have lt76_a56 := f87.lt
  have f88 := ((Va56.keep K65q (ninS (Ne.symm ne_b4_1_17_bb56) (ninS (Ne.symm ne_b10_bb56) nin0))).keep K72q (ninS (Ne.symm ne_b4_1_17_bb56) (ninS (Ne.symm ne_b10_bb56) nin0)))
  have lt76_bb56 := f88.lt
  have lt76_b4_1_17 := q0_72'.lt
  have Sf76_b1_76 : Safe Z own_EL T56.vm h72 b1_76 := Safe.new sz_b1_76
  have ne_o1_b1_76 : o1 ≠ b1_76 := Nat.ne_of_lt (Nat.lt_of_lt_of_le lt76_o1 sz_b1_76)
  have ne_o2_b1_76 : o2 ≠ b1_76 := Nat.ne_of_lt (Nat.lt_of_lt_of_le lt76_o2 sz_b1_76)
  have ne_o3_b1_76 : o3 ≠ b1_76 := Nat.ne_of_lt (Nat.lt_of_lt_of_le lt76_o3 sz_b1_76)
  have ne_o4_b1_76 : o4 ≠ b1_76 := Nat.ne_of_lt (Nat.lt_of_lt_of_le lt76_o4 sz_b1_76)
  have ne_o5_b1_76 : o5 ≠ b1_76 := Nat.ne_of_lt (Nat.lt_of_lt_of_le lt76_o5 sz_b1_76)
  have ne_o6_b1_76 : o6 ≠ b1_76 := Nat.ne_of_lt (Nat.lt_of_lt_of_le lt76_o6 sz_b1_76)
  have ne_o7_b1_76 : o7 ≠ b1_76 := Nat.ne_of_lt (Nat.lt_of_lt_of_le lt76_o7 sz_b1_76)
  have ne_b10_b1_76 : b10 ≠ b1_76 := Nat.ne_of_lt (Nat.lt_of_lt_of_le lt76_b10 sz_b1_76)
  have ne_a37_b1_76 : a37 ≠ b1_76 := Nat.ne_of_lt (Nat.lt_of_lt_of_le lt76_a37 sz_b1_76)
  have ne_bb37_b1_76 : bb37 ≠ b1_76 := Nat.ne_of_lt (Nat.lt_of_lt_of_le lt76_bb37 sz_b1_76)
  have ne_a56_b1_76 : a56 ≠ b1_76 := Nat.ne_of_lt (Nat.lt_of_lt_of_le lt76_a56 sz_b1_76)
  have ne_bb56_b1_76 : bb56 ≠ b1_76 := Nat.ne_of_lt (Nat.lt_of_lt_of_le lt76_bb56 sz_b1_76)
  have ne_b4_1_17_b1_76 : b4_1_17 ≠ b1_76 := Nat.ne_of_lt (Nat.lt_of_lt_of_le lt76_b4_1_17 sz_b1_76)
  have gn_b1_76 : n0 ≤ b1_76 := Nat.le_trans (Nat.le_trans Z0 K72.1) sz_b1_76
  have sz_b1_76' := Nat.le_trans K72.1 sz_b1_76
  replace sz_b1_76 := sz_b1_76'
  have Sf76_b2_2_7_1_8_76 : Safe Z own_EL T56.vm h72 b2_2_7_1_8_76 := Safe.new sz_b2_2_7_1_8_76
  have ne_o1_b2_2_7_1_8_76 : o1 ≠ b2_2_7_1_8_76 := Nat.ne_of_lt (Nat.lt_of_lt_of_le lt76_o1 sz_b2_2_7_1_8_76)
  have ne_o2_b2_2_7_1_8_76 : o2 ≠ b2_2_7_1_8_76 := Nat.ne_of_lt (Nat.lt_of_lt_of_le lt76_o2 sz_b2_2_7_1_8_76)
  have ne_o3_b2_2_7_1_8_76 : o3 ≠ b2_2_7_1_8_76 := Nat.ne_of_lt (Nat.lt_of_lt_of_le lt76_o3 sz_b2_2_7_1_8_76)
  have ne_o4_b2_2_7_1_8_76 : o4 ≠ b2_2_7_1_8_76 := Nat.ne_of_lt (Nat.lt_of_lt_of_le lt76_o4 sz_b2_2_7_1_8_76)
  have ne_o5_b2_2_7_1_8_76 : o5 ≠ b2_2_7_1_8_76 := Nat.ne_of_lt (Nat.lt_of_lt_of_le lt76_o5 sz_b2_2_7_1_8_76)
  have ne_o6_b2_2_7_1_8_76 : o6 ≠ b2_2_7_1_8_76 := Nat.ne_of_lt (Nat.lt_of_lt_of_le lt76_o6 sz_b2_2_7_1_8_76)
  have ne_o7_b2_2_7_1_8_76 : o7 ≠ b2_2_7_1_8_76 := Nat.ne_of_lt (Nat.lt_of_lt_of_le lt76_o7 sz_b2_2_7_1_8_76)
  have ne_b10_b2_2_7_1_8_76 : b10 ≠ b2_2_7_1_8_76 := Nat.ne_of_lt (Nat.lt_of_lt_of_le lt76_b10 sz_b2_2_7_1_8_76)
  have ne_a37_b2_2_7_1_8_76 : a37 ≠ b2_2_7_1_8_76 := Nat.ne_of_lt (Nat.lt_of_lt_of_le lt76_a37 sz_b2_2_7_1_8_76)
  have ne_bb37_b2_2_7_1_8_76 : bb37 ≠ b2_2_7_1_8_76 := Nat.ne_of_lt (Nat.lt_of_lt_of_le lt76_bb37 sz_b2_2_7_1_8_76)
  have ne_a56_b2_2_7_1_8_76 : a56 ≠ b2_2_7_1_8_76 := Nat.ne_of_lt (Nat.lt_of_lt_of_le lt76_a56 sz_b2_2_7_1_8_76)
  have ne_bb56_b2_2_7_1_8_76 : bb56 ≠ b2_2_7_1_8_76 := Nat.ne_of_lt (Nat.lt_of_lt_of_le lt76_bb56 sz_b2_2_7_1_8_76)
  have ne_b4_1_17_b2_2_7_1_8_76 : b4_1_17 ≠ b2_2_7_1_8_76 := Nat.ne_of_lt (Nat.lt_of_lt_of_le lt76_b4_1_17 sz_b2_2_7_1_8_76)
  have gn_b2_2_7_1_8_76 : n0 ≤ b2_2_7_1_8_76 := Nat.le_trans (Nat.le_trans Z0 K72.1) sz_b2_2_7_1_8_76
  have sz_b2_2_7_1_8_76' := Nat.le_trans K72.1 sz_b2_2_7_1_8_76
  replace sz_b2_2_7_1_8_76 := sz_b2_2_7_1_8_76'
  have K76 : Keep h0 h76 [] := K72.trans K76q all0
  have f89 := own_staK f74 K76q all0
  refine step (T76.setTop (mkF m 47 #[vr o1, vr o2, vr o3] [(.ref b1_76)])) (fun t k => st76.trans k) ?_
  have C90 := C77.trans (CHr.keep K76q all0 C77.1)
  have Sf90_b10 := Safe.keep K76q all0 C77.1 Sf77_b10
  have Sf90_b4_1_17 := Safe.keep K76q all0 C77.1 Sf77_b4_1_17
  have Sf90_b1_76 := Safe.keep K76q all0 C77.1 Sf76_b1_76
  have Sf90_b2_2_7_1_8_76 := Safe.keep K76q all0 C77.1 Sf76_b2_2_7_1_8_76
  refine fin (v := some (.ref b1_76)) X76 hS (Nat.le_trans (Nat.le_trans (Nat.le_trans (Nat.le_trans hk56 K65q.1) K72q.1) K76q.1) (Nat.le_of_eq (congrArg Array.size e76.symm))) hZ (by rw [e76]; exact C90) (fun h => by cases h) ?_ (by decide) (by decide) (fun fs hr => X76.areturnOut hx rfl hret rfl (hb hby d26_47) hr)
  show Q26_89 Z o1 o2 o3 i1 o4 o5 o6 o7 kc2 i3 kc4 i5 kc6 i7 i8 h0 n0 (some (.ref b1_76)) T76.heap _
  rw [e76]
  exact ⟨b1_76, b2_2_7_1_8_76, k2_2_7_1_8_76, rfl, N76, K76, sz_b1_76, sz_b2_2_7_1_8_76, ne_b1_b2_2_7_1_8_76, q0_76, q1_76, q2_76, q3_76⟩
theorem ef_6_106 (m : MethodId) (x0 : Addr) (x2 : Addr) : entryFrame m #[(.ref x0), (.int 0), (.ref x2), (.int 0), (.int 8)] 7 = mkF m 0 #[.val (.ref x0), .val (.int 0), .val (.ref x2), .val (.int 0), .val (.int 8), .unset, .unset] [] := by first | (simp [entryFrame, mkF, argsToLocals, Value.category]; done) | rfl
def Q6_106 (Z : State) (o1 : Addr) (o2 : Addr) (kc1 : ClassId) (i2 : Int32) (i3 : Int32) (i4 : Int32) (i5 : Int32) (kc6 : ClassId) (h0 : Heap) (n0 : Nat) (v : Option Value) (h : Heap) (L : List Loc) : Prop := v = some (.int 8) ∧ Fr n0 L ∧ Keep h0 h [o2] ∧ Arv Z h o2 kc6 .byte (8 : Int32) [(.int (nar .byte (i2.toInt8.toInt32))), (.int (nar .byte (i3.toInt8.toInt32))), (.int 58), (.int 123), (.int (nar .byte (i4.toInt8.toInt32))), (.int 125), (.int 58), (.int (nar .byte (i5.toInt8.toInt32)))] (.int 0)
set_option maxRecDepth 65536 in
set_option maxHeartbeats 40000000 in
theorem rm6_106 (l : Launch) (Z : State) (a0 : Array Value) (hw : ∀ d ∈ tables_1, d.before a0 Z = true) (ws : List Jvm.Cond) (o1 : Addr) (o2 : Addr) (kc1 : ClassId) (i2 : Int32) (i3 : Int32) (i4 : Int32) (i5 : Int32) (kc6 : ClassId) (h0 : Heap) (n0 : Nat) (Z0 : n0 ≤ h0.size) (Pm0 : Arv Z h0 o1 kc1 .char (8 : Int32) [(.int i2), (.int i3), (.int 58), (.int 123), (.int i4), (.int 125), (.int 58), (.int i5)] (.int 0)) (Pm1 : Arv Z h0 o2 kc6 .byte (8 : Int32) [(.int 0), (.int 0), (.int 0), (.int 0), (.int 0), (.int 0), (.int 0), (.int 0)] (.int 0)) (gn_o1 : n0 ≤ o1) (ne_o1_o2 : o1 ≠ o2) (gn_o2 : n0 ≤ o2) (hy5 : ¬ ((255 : Int32) < i2)) (hy6 : ¬ ((255 : Int32) < i3)) (hy7 : ¬ ((255 : Int32) < i4)) (hy8 : ¬ ((255 : Int32) < i5))  :
    OwnM l Z nM1 jdk_52_method_21_code 7 (some .int) ws ({ frames := 0, cells := 0, slots := 0, locals := 0 } : Room) #[(.ref o1), (.int 0), (.ref o2), (.int 0), (.int 8)] h0 (Q6_106 Z o1 o2 kc1 i2 i3 i4 i5 kc6 h0 n0) := by
  refine own_body (plainFor_of_name pn_2) ?_
  intro p e s m below meth c s₁ G hx hby hml hZ hown hnm hret X0 e0 step fin
  replace hown : s.vm.findClass "java/lang/StringUTF16" = some m.cls := hown
  have N0 := Fr.nil n0
  have KK : OwnK p e below c _ G := ⟨step, hx, hby⟩
  refine step (s₁.setTop (mkF m 0 #[vr o1, vi 0, vr o2, vi 0, vi 8, .unset, .unset] [])) (fun t k => castTop (ef_6_106 m o1 o2) k) ?_
  refine oic KK X0 d6_0 0 1 rfl rfl ?_
  refine oiS KK X0 d6_1 #[vr o1, vi 0, vr o2, vi 0, vi 8, vi 0, .unset] 3 rfl rfl ?_
  refine oiL KK X0 d6_3 (0 : Int32) 5 rfl rfl ?_
  refine oiL KK X0 d6_5 (8 : Int32) 7 rfl rfl ?_
  refine oin KK X0 d6_7 10 rfl (tlt (by decide : (0 : Int32) < (8 : Int32))).2.1 ?_
  refine oal KK X0 d6_10 (.ref o1) 11 rfl rfl rfl ?_
  refine oil KK X0 d6_11 (0 : Int32) 12 rfl rfl ?_
  obtain ⟨cl1, Ar1, q1, S1, N1n, H1, G1⟩ := id Pm0
  have hin1 : ¬ ((0 : Int32) < 0 ∨ cl1.slots.size ≤ ((0 : Int32)).toNatClampNeg) := inb_of S1 ⟨by decide, by decide⟩
  have hat1 : cl1.slots[((0 : Int32)).toNatClampNeg]? = some (.int i2) := H1.at hin1 rfl
  refine step (s₁.setTop (mkF m 13 #[vr o1, vi 0, vr o2, vi 0, vi 8, vi 0, .unset] [(.int i2)])) (fun t k => X0.caload hx (j := (0 : Int32)) (v := (.int i2)) (by rw [e0]; exact Ar1.1) (State.isArrayOf_alike hZ.alike Ar1.2.1) Ar1.2.2 hin1 hat1 (g := (mkF m 12 #[vr o1, vi 0, vr o2, vi 0, vi 8, vi 0, .unset] [(.int 0), (.ref o1)])) rfl rfl (hb hby d6_12) t k) ?_
  refine oiS KK X0 d6_13 #[vr o1, vi 0, vr o2, vi 0, vi 8, vi 0, vi i2] 15 rfl rfl ?_
  refine oiL KK X0 d6_15 i2 17 rfl rfl ?_
  refine osi KK X0 d6_17 255 20 rfl rfl ?_
  have hc20_2 : ¬ ((255 : Int32) < i2) := hy5
  refine oiy KK X0 d6_20 26 (flt hc20_2).2.2.2 (by decide) rfl ?_
  refine oal KK X0 d6_26 (.ref o2) 27 rfl rfl rfl ?_
  refine oil KK X0 d6_27 (0 : Int32) 28 rfl rfl ?_
  refine oiL KK X0 d6_28 i2 30 rfl rfl ?_
  refine step (s₁.setTop (mkF m 31 #[vr o1, vi 0, vr o2, vi 0, vi 8, vi 0, vi i2] [(.int (i2.toInt8.toInt32)), (.int 0), (.ref o2)])) (fun t k => XS.i2b X0.here hx rfl (hb hby d6_30) rfl k) ?_
  obtain ⟨cl3, Ar3, q3, S3, N3n, H3, G3⟩ := id Pm1
  have hin3 : ¬ ((0 : Int32) < 0 ∨ cl3.slots.size ≤ ((0 : Int32)).toNatClampNeg) := inb_of S3 ⟨by decide, by decide⟩
  obtain ⟨T3, h3, X3, e3, W3, st3⟩ := stB X0 hx hZ e0 Ar3 (j := (0 : Int32)) hin3 (g := (mkF m 31 #[vr o1, vi 0, vr o2, vi 0, vi 8, vi 0, vi i2] [(.int (i2.toInt8.toInt32)), (.int 0), (.ref o2)])) rfl rfl (hb hby d6_31)
  have N3 := Fr.snoc X3 N0 gn_o2
  have K3 : Keep h0 h3 [o2] := (Keep.refl h0 [o2]).wr W3 (Or.inl (List.mem_of_getElem? (i := 0) rfl))
  have V3 : Arv Z h3 o2 kc6 .byte (8 : Int32) [(.int (nar .byte (i2.toInt8.toInt32))), (.int 0), (.int 0), (.int 0), (.int 0), (.int 0), (.int 0), (.int 0)] (.int 0) := Arv.set Ar3 q3 S3 N3n H3 G3 (fits_nar_byte (i2.toInt8.toInt32)) W3 0 rfl (Nat.le_of_ble_eq_true rfl)
  refine step (T3.setTop (mkF m 32 #[vr o1, vi 0, vr o2, vi 0, vi 8, vi 0, vi i2] [])) (fun t k => st3 t k) ?_
  refine oii KK X3 d6_32 #[vr o1, vi 1, vr o2, vi 0, vi 8, vi 0, vi i2] 35 rfl rfl rfl ?_
  refine oii KK X3 d6_35 #[vr o1, vi 1, vr o2, vi 1, vi 8, vi 0, vi i2] 38 rfl rfl rfl ?_
  refine oii KK X3 d6_38 #[vr o1, vi 1, vr o2, vi 1, vi 8, vi 1, vi i2] 41 rfl rfl rfl ?_
  refine ogo KK X3 d6_41 3 (by decide) rfl ?_
  refine oiL KK X3 d6_3 (1 : Int32) 5 rfl rfl ?_
  refine oiL KK X3 d6_5 (8 : Int32) 7 rfl rfl ?_
  refine oin KK X3 d6_7 10 rfl (tlt (by decide : (1 : Int32) < (8 : Int32))).2.1 ?_
  refine oal KK X3 d6_10 (.ref o1) 11 rfl rfl rfl ?_
  refine oil KK X3 d6_11 (1 : Int32) 12 rfl rfl ?_
  have f4 := (Pm0.other W3 ne_o1_o2)
  obtain ⟨cl5, Ar5, q5, S5, N5n, H5, G5⟩ := id f4
  have hin5 : ¬ ((1 : Int32) < 0 ∨ cl5.slots.size ≤ ((1 : Int32)).toNatClampNeg) := inb_of S5 ⟨by decide, by decide⟩
  have hat5 : cl5.slots[((1 : Int32)).toNatClampNeg]? = some (.int i3) := H5.at hin5 rfl
  refine step (T3.setTop (mkF m 13 #[vr o1, vi 1, vr o2, vi 1, vi 8, vi 1, vi i2] [(.int i3)])) (fun t k => X3.caload hx (j := (1 : Int32)) (v := (.int i3)) (by rw [e3]; exact Ar5.1) (State.isArrayOf_alike hZ.alike Ar5.2.1) Ar5.2.2 hin5 hat5 (g := (mkF m 12 #[vr o1, vi 1, vr o2, vi 1, vi 8, vi 1, vi i2] [(.int 1), (.ref o1)])) rfl rfl (hb hby d6_12) t k) ?_
  refine oiS KK X3 d6_13 #[vr o1, vi 1, vr o2, vi 1, vi 8, vi 1, vi i3] 15 rfl rfl ?_
  refine oiL KK X3 d6_15 i3 17 rfl rfl ?_
  refine osi KK X3 d6_17 255 20 rfl rfl ?_
  have hc20_6 : ¬ ((255 : Int32) < i3) := hy6
  refine oiy KK X3 d6_20 26 (flt hc20_6).2.2.2 (by decide) rfl ?_
  refine oal KK X3 d6_26 (.ref o2) 27 rfl rfl rfl ?_
  refine oil KK X3 d6_27 (1 : Int32) 28 rfl rfl ?_
  refine oiL KK X3 d6_28 i3 30 rfl rfl ?_
  refine step (T3.setTop (mkF m 31 #[vr o1, vi 1, vr o2, vi 1, vi 8, vi 1, vi i3] [(.int (i3.toInt8.toInt32)), (.int 1), (.ref o2)])) (fun t k => XS.i2b X3.here hx rfl (hb hby d6_30) rfl k) ?_
  obtain ⟨cl7, Ar7, q7, S7, N7n, H7, G7⟩ := id V3
  have hin7 : ¬ ((1 : Int32) < 0 ∨ cl7.slots.size ≤ ((1 : Int32)).toNatClampNeg) := inb_of S7 ⟨by decide, by decide⟩
  obtain ⟨T7, h7, X7, e7, W7, st7⟩ := stB X3 hx hZ e3 Ar7 (j := (1 : Int32)) hin7 (g := (mkF m 31 #[vr o1, vi 1, vr o2, vi 1, vi 8, vi 1, vi i3] [(.int (i3.toInt8.toInt32)), (.int 1), (.ref o2)])) rfl rfl (hb hby d6_31)
  have N7 := Fr.snoc X7 N3 gn_o2
  have K7 : Keep h0 h7 [o2] := K3.wr W7 (Or.inl (List.mem_of_getElem? (i := 0) rfl))
  have V7 : Arv Z h7 o2 kc6 .byte (8 : Int32) [(.int (nar .byte (i2.toInt8.toInt32))), (.int (nar .byte (i3.toInt8.toInt32))), (.int 0), (.int 0), (.int 0), (.int 0), (.int 0), (.int 0)] (.int 0) := Arv.set Ar7 q7 S7 N7n H7 G7 (fits_nar_byte (i3.toInt8.toInt32)) W7 1 rfl (Nat.le_of_ble_eq_true rfl)
  refine step (T7.setTop (mkF m 32 #[vr o1, vi 1, vr o2, vi 1, vi 8, vi 1, vi i3] [])) (fun t k => st7 t k) ?_
  refine oii KK X7 d6_32 #[vr o1, vi 2, vr o2, vi 1, vi 8, vi 1, vi i3] 35 rfl rfl rfl ?_
  refine oii KK X7 d6_35 #[vr o1, vi 2, vr o2, vi 2, vi 8, vi 1, vi i3] 38 rfl rfl rfl ?_
  refine oii KK X7 d6_38 #[vr o1, vi 2, vr o2, vi 2, vi 8, vi 2, vi i3] 41 rfl rfl rfl ?_
  refine ogo KK X7 d6_41 3 (by decide) rfl ?_
  refine oiL KK X7 d6_3 (2 : Int32) 5 rfl rfl ?_
  refine oiL KK X7 d6_5 (8 : Int32) 7 rfl rfl ?_
  refine oin KK X7 d6_7 10 rfl (tlt (by decide : (2 : Int32) < (8 : Int32))).2.1 ?_
  refine oal KK X7 d6_10 (.ref o1) 11 rfl rfl rfl ?_
  refine oil KK X7 d6_11 (2 : Int32) 12 rfl rfl ?_
  have f8 := (f4.other W7 ne_o1_o2)
  obtain ⟨cl9, Ar9, q9, S9, N9n, H9, G9⟩ := id f8
  have hin9 : ¬ ((2 : Int32) < 0 ∨ cl9.slots.size ≤ ((2 : Int32)).toNatClampNeg) := inb_of S9 ⟨by decide, by decide⟩
  have hat9 : cl9.slots[((2 : Int32)).toNatClampNeg]? = some (.int 58) := H9.at hin9 rfl
  refine step (T7.setTop (mkF m 13 #[vr o1, vi 2, vr o2, vi 2, vi 8, vi 2, vi i3] [(.int 58)])) (fun t k => X7.caload hx (j := (2 : Int32)) (v := (.int 58)) (by rw [e7]; exact Ar9.1) (State.isArrayOf_alike hZ.alike Ar9.2.1) Ar9.2.2 hin9 hat9 (g := (mkF m 12 #[vr o1, vi 2, vr o2, vi 2, vi 8, vi 2, vi i3] [(.int 2), (.ref o1)])) rfl rfl (hb hby d6_12) t k) ?_
  refine oiS KK X7 d6_13 #[vr o1, vi 2, vr o2, vi 2, vi 8, vi 2, vi 58] 15 rfl rfl ?_
  refine oiL KK X7 d6_15 (58 : Int32) 17 rfl rfl ?_
  refine osi KK X7 d6_17 255 20 rfl rfl ?_
  refine oiy KK X7 d6_20 26 (flt (by decide : ¬ ((255 : Int32) < (58 : Int32)))).2.2.2 (by decide) rfl ?_
  refine oal KK X7 d6_26 (.ref o2) 27 rfl rfl rfl ?_
  refine oil KK X7 d6_27 (2 : Int32) 28 rfl rfl ?_
  refine oiL KK X7 d6_28 (58 : Int32) 30 rfl rfl ?_
  refine step (T7.setTop (mkF m 31 #[vr o1, vi 2, vr o2, vi 2, vi 8, vi 2, vi 58] [(.int 58), (.int 2), (.ref o2)])) (fun t k => XS.i2b X7.here hx rfl (hb hby d6_30) rfl k) ?_
  obtain ⟨cl10, Ar10, q10, S10, N10n, H10, G10⟩ := id V7
  have hin10 : ¬ ((2 : Int32) < 0 ∨ cl10.slots.size ≤ ((2 : Int32)).toNatClampNeg) := inb_of S10 ⟨by decide, by decide⟩
  obtain ⟨T10, h10, X10, e10, W10, st10⟩ := stB X7 hx hZ e7 Ar10 (j := (2 : Int32)) hin10 (g := (mkF m 31 #[vr o1, vi 2, vr o2, vi 2, vi 8, vi 2, vi 58] [(.int 58), (.int 2), (.ref o2)])) rfl rfl (hb hby d6_31)
  have N10 := Fr.snoc X10 N7 gn_o2
  have K10 : Keep h0 h10 [o2] := K7.wr W10 (Or.inl (List.mem_of_getElem? (i := 0) rfl))
  have V10 : Arv Z h10 o2 kc6 .byte (8 : Int32) [(.int (nar .byte (i2.toInt8.toInt32))), (.int (nar .byte (i3.toInt8.toInt32))), (.int 58), (.int 0), (.int 0), (.int 0), (.int 0), (.int 0)] (.int 0) := Arv.set Ar10 q10 S10 N10n H10 G10 (fits_nar_byte (58 : Int32)) W10 2 rfl (Nat.le_of_ble_eq_true rfl)
  refine step (T10.setTop (mkF m 32 #[vr o1, vi 2, vr o2, vi 2, vi 8, vi 2, vi 58] [])) (fun t k => st10 t k) ?_
  refine oii KK X10 d6_32 #[vr o1, vi 3, vr o2, vi 2, vi 8, vi 2, vi 58] 35 rfl rfl rfl ?_
  refine oii KK X10 d6_35 #[vr o1, vi 3, vr o2, vi 3, vi 8, vi 2, vi 58] 38 rfl rfl rfl ?_
  refine oii KK X10 d6_38 #[vr o1, vi 3, vr o2, vi 3, vi 8, vi 3, vi 58] 41 rfl rfl rfl ?_
  refine ogo KK X10 d6_41 3 (by decide) rfl ?_
  refine oiL KK X10 d6_3 (3 : Int32) 5 rfl rfl ?_
  refine oiL KK X10 d6_5 (8 : Int32) 7 rfl rfl ?_
  refine oin KK X10 d6_7 10 rfl (tlt (by decide : (3 : Int32) < (8 : Int32))).2.1 ?_
  refine oal KK X10 d6_10 (.ref o1) 11 rfl rfl rfl ?_
  refine oil KK X10 d6_11 (3 : Int32) 12 rfl rfl ?_
  have f11 := (f8.other W10 ne_o1_o2)
  obtain ⟨cl12, Ar12, q12, S12, N12n, H12, G12⟩ := id f11
  have hin12 : ¬ ((3 : Int32) < 0 ∨ cl12.slots.size ≤ ((3 : Int32)).toNatClampNeg) := inb_of S12 ⟨by decide, by decide⟩
  have hat12 : cl12.slots[((3 : Int32)).toNatClampNeg]? = some (.int 123) := H12.at hin12 rfl
  refine step (T10.setTop (mkF m 13 #[vr o1, vi 3, vr o2, vi 3, vi 8, vi 3, vi 58] [(.int 123)])) (fun t k => X10.caload hx (j := (3 : Int32)) (v := (.int 123)) (by rw [e10]; exact Ar12.1) (State.isArrayOf_alike hZ.alike Ar12.2.1) Ar12.2.2 hin12 hat12 (g := (mkF m 12 #[vr o1, vi 3, vr o2, vi 3, vi 8, vi 3, vi 58] [(.int 3), (.ref o1)])) rfl rfl (hb hby d6_12) t k) ?_
  refine oiS KK X10 d6_13 #[vr o1, vi 3, vr o2, vi 3, vi 8, vi 3, vi 123] 15 rfl rfl ?_
  refine oiL KK X10 d6_15 (123 : Int32) 17 rfl rfl ?_
  refine osi KK X10 d6_17 255 20 rfl rfl ?_
  refine oiy KK X10 d6_20 26 (flt (by decide : ¬ ((255 : Int32) < (123 : Int32)))).2.2.2 (by decide) rfl ?_
  refine oal KK X10 d6_26 (.ref o2) 27 rfl rfl rfl ?_
  refine oil KK X10 d6_27 (3 : Int32) 28 rfl rfl ?_
  refine oiL KK X10 d6_28 (123 : Int32) 30 rfl rfl ?_
  refine step (T10.setTop (mkF m 31 #[vr o1, vi 3, vr o2, vi 3, vi 8, vi 3, vi 123] [(.int 123), (.int 3), (.ref o2)])) (fun t k => XS.i2b X10.here hx rfl (hb hby d6_30) rfl k) ?_
  obtain ⟨cl13, Ar13, q13, S13, N13n, H13, G13⟩ := id V10
  have hin13 : ¬ ((3 : Int32) < 0 ∨ cl13.slots.size ≤ ((3 : Int32)).toNatClampNeg) := inb_of S13 ⟨by decide, by decide⟩
  obtain ⟨T13, h13, X13, e13, W13, st13⟩ := stB X10 hx hZ e10 Ar13 (j := (3 : Int32)) hin13 (g := (mkF m 31 #[vr o1, vi 3, vr o2, vi 3, vi 8, vi 3, vi 123] [(.int 123), (.int 3), (.ref o2)])) rfl rfl (hb hby d6_31)
  have N13 := Fr.snoc X13 N10 gn_o2
  have K13 : Keep h0 h13 [o2] := K10.wr W13 (Or.inl (List.mem_of_getElem? (i := 0) rfl))
  have V13 : Arv Z h13 o2 kc6 .byte (8 : Int32) [(.int (nar .byte (i2.toInt8.toInt32))), (.int (nar .byte (i3.toInt8.toInt32))), (.int 58), (.int 123), (.int 0), (.int 0), (.int 0), (.int 0)] (.int 0) := Arv.set Ar13 q13 S13 N13n H13 G13 (fits_nar_byte (123 : Int32)) W13 3 rfl (Nat.le_of_ble_eq_true rfl)
  refine step (T13.setTop (mkF m 32 #[vr o1, vi 3, vr o2, vi 3, vi 8, vi 3, vi 123] [])) (fun t k => st13 t k) ?_
  refine oii KK X13 d6_32 #[vr o1, vi 4, vr o2, vi 3, vi 8, vi 3, vi 123] 35 rfl rfl rfl ?_
  refine oii KK X13 d6_35 #[vr o1, vi 4, vr o2, vi 4, vi 8, vi 3, vi 123] 38 rfl rfl rfl ?_
  refine oii KK X13 d6_38 #[vr o1, vi 4, vr o2, vi 4, vi 8, vi 4, vi 123] 41 rfl rfl rfl ?_
  refine ogo KK X13 d6_41 3 (by decide) rfl ?_
  refine oiL KK X13 d6_3 (4 : Int32) 5 rfl rfl ?_
  refine oiL KK X13 d6_5 (8 : Int32) 7 rfl rfl ?_
  refine oin KK X13 d6_7 10 rfl (tlt (by decide : (4 : Int32) < (8 : Int32))).2.1 ?_
  refine oal KK X13 d6_10 (.ref o1) 11 rfl rfl rfl ?_
  refine oil KK X13 d6_11 (4 : Int32) 12 rfl rfl ?_
  have f14 := (f11.other W13 ne_o1_o2)
  obtain ⟨cl15, Ar15, q15, S15, N15n, H15, G15⟩ := id f14
  have hin15 : ¬ ((4 : Int32) < 0 ∨ cl15.slots.size ≤ ((4 : Int32)).toNatClampNeg) := inb_of S15 ⟨by decide, by decide⟩
  have hat15 : cl15.slots[((4 : Int32)).toNatClampNeg]? = some (.int i4) := H15.at hin15 rfl
  refine step (T13.setTop (mkF m 13 #[vr o1, vi 4, vr o2, vi 4, vi 8, vi 4, vi 123] [(.int i4)])) (fun t k => X13.caload hx (j := (4 : Int32)) (v := (.int i4)) (by rw [e13]; exact Ar15.1) (State.isArrayOf_alike hZ.alike Ar15.2.1) Ar15.2.2 hin15 hat15 (g := (mkF m 12 #[vr o1, vi 4, vr o2, vi 4, vi 8, vi 4, vi 123] [(.int 4), (.ref o1)])) rfl rfl (hb hby d6_12) t k) ?_
  refine oiS KK X13 d6_13 #[vr o1, vi 4, vr o2, vi 4, vi 8, vi 4, vi i4] 15 rfl rfl ?_
  refine oiL KK X13 d6_15 i4 17 rfl rfl ?_
  refine osi KK X13 d6_17 255 20 rfl rfl ?_
  have hc20_16 : ¬ ((255 : Int32) < i4) := hy7
  refine oiy KK X13 d6_20 26 (flt hc20_16).2.2.2 (by decide) rfl ?_
  refine oal KK X13 d6_26 (.ref o2) 27 rfl rfl rfl ?_
  refine oil KK X13 d6_27 (4 : Int32) 28 rfl rfl ?_
  refine oiL KK X13 d6_28 i4 30 rfl rfl ?_
  refine step (T13.setTop (mkF m 31 #[vr o1, vi 4, vr o2, vi 4, vi 8, vi 4, vi i4] [(.int (i4.toInt8.toInt32)), (.int 4), (.ref o2)])) (fun t k => XS.i2b X13.here hx rfl (hb hby d6_30) rfl k) ?_
  obtain ⟨cl17, Ar17, q17, S17, N17n, H17, G17⟩ := id V13
  have hin17 : ¬ ((4 : Int32) < 0 ∨ cl17.slots.size ≤ ((4 : Int32)).toNatClampNeg) := inb_of S17 ⟨by decide, by decide⟩
  obtain ⟨T17, h17, X17, e17, W17, st17⟩ := stB X13 hx hZ e13 Ar17 (j := (4 : Int32)) hin17 (g := (mkF m 31 #[vr o1, vi 4, vr o2, vi 4, vi 8, vi 4, vi i4] [(.int (i4.toInt8.toInt32)), (.int 4), (.ref o2)])) rfl rfl (hb hby d6_31)
  have N17 := Fr.snoc X17 N13 gn_o2
  have K17 : Keep h0 h17 [o2] := K13.wr W17 (Or.inl (List.mem_of_getElem? (i := 0) rfl))
  have V17 : Arv Z h17 o2 kc6 .byte (8 : Int32) [(.int (nar .byte (i2.toInt8.toInt32))), (.int (nar .byte (i3.toInt8.toInt32))), (.int 58), (.int 123), (.int (nar .byte (i4.toInt8.toInt32))), (.int 0), (.int 0), (.int 0)] (.int 0) := Arv.set Ar17 q17 S17 N17n H17 G17 (fits_nar_byte (i4.toInt8.toInt32)) W17 4 rfl (Nat.le_of_ble_eq_true rfl)
  refine step (T17.setTop (mkF m 32 #[vr o1, vi 4, vr o2, vi 4, vi 8, vi 4, vi i4] [])) (fun t k => st17 t k) ?_
  refine oii KK X17 d6_32 #[vr o1, vi 5, vr o2, vi 4, vi 8, vi 4, vi i4] 35 rfl rfl rfl ?_
  refine oii KK X17 d6_35 #[vr o1, vi 5, vr o2, vi 5, vi 8, vi 4, vi i4] 38 rfl rfl rfl ?_
  refine oii KK X17 d6_38 #[vr o1, vi 5, vr o2, vi 5, vi 8, vi 5, vi i4] 41 rfl rfl rfl ?_
  refine ogo KK X17 d6_41 3 (by decide) rfl ?_
  refine oiL KK X17 d6_3 (5 : Int32) 5 rfl rfl ?_
  refine oiL KK X17 d6_5 (8 : Int32) 7 rfl rfl ?_
  refine oin KK X17 d6_7 10 rfl (tlt (by decide : (5 : Int32) < (8 : Int32))).2.1 ?_
  refine oal KK X17 d6_10 (.ref o1) 11 rfl rfl rfl ?_
  refine oil KK X17 d6_11 (5 : Int32) 12 rfl rfl ?_
  have f18 := (f14.other W17 ne_o1_o2)
  obtain ⟨cl19, Ar19, q19, S19, N19n, H19, G19⟩ := id f18
  have hin19 : ¬ ((5 : Int32) < 0 ∨ cl19.slots.size ≤ ((5 : Int32)).toNatClampNeg) := inb_of S19 ⟨by decide, by decide⟩
  have hat19 : cl19.slots[((5 : Int32)).toNatClampNeg]? = some (.int 125) := H19.at hin19 rfl
  refine step (T17.setTop (mkF m 13 #[vr o1, vi 5, vr o2, vi 5, vi 8, vi 5, vi i4] [(.int 125)])) (fun t k => X17.caload hx (j := (5 : Int32)) (v := (.int 125)) (by rw [e17]; exact Ar19.1) (State.isArrayOf_alike hZ.alike Ar19.2.1) Ar19.2.2 hin19 hat19 (g := (mkF m 12 #[vr o1, vi 5, vr o2, vi 5, vi 8, vi 5, vi i4] [(.int 5), (.ref o1)])) rfl rfl (hb hby d6_12) t k) ?_
  refine oiS KK X17 d6_13 #[vr o1, vi 5, vr o2, vi 5, vi 8, vi 5, vi 125] 15 rfl rfl ?_
  refine oiL KK X17 d6_15 (125 : Int32) 17 rfl rfl ?_
  refine osi KK X17 d6_17 255 20 rfl rfl ?_
  refine oiy KK X17 d6_20 26 (flt (by decide : ¬ ((255 : Int32) < (125 : Int32)))).2.2.2 (by decide) rfl ?_
  refine oal KK X17 d6_26 (.ref o2) 27 rfl rfl rfl ?_
  refine oil KK X17 d6_27 (5 : Int32) 28 rfl rfl ?_
  refine oiL KK X17 d6_28 (125 : Int32) 30 rfl rfl ?_
  refine step (T17.setTop (mkF m 31 #[vr o1, vi 5, vr o2, vi 5, vi 8, vi 5, vi 125] [(.int 125), (.int 5), (.ref o2)])) (fun t k => XS.i2b X17.here hx rfl (hb hby d6_30) rfl k) ?_
  obtain ⟨cl20, Ar20, q20, S20, N20n, H20, G20⟩ := id V17
  have hin20 : ¬ ((5 : Int32) < 0 ∨ cl20.slots.size ≤ ((5 : Int32)).toNatClampNeg) := inb_of S20 ⟨by decide, by decide⟩
  obtain ⟨T20, h20, X20, e20, W20, st20⟩ := stB X17 hx hZ e17 Ar20 (j := (5 : Int32)) hin20 (g := (mkF m 31 #[vr o1, vi 5, vr o2, vi 5, vi 8, vi 5, vi 125] [(.int 125), (.int 5), (.ref o2)])) rfl rfl (hb hby d6_31)
  have N20 := Fr.snoc X20 N17 gn_o2
  have K20 : Keep h0 h20 [o2] := K17.wr W20 (Or.inl (List.mem_of_getElem? (i := 0) rfl))
  have V20 : Arv Z h20 o2 kc6 .byte (8 : Int32) [(.int (nar .byte (i2.toInt8.toInt32))), (.int (nar .byte (i3.toInt8.toInt32))), (.int 58), (.int 123), (.int (nar .byte (i4.toInt8.toInt32))), (.int 125), (.int 0), (.int 0)] (.int 0) := Arv.set Ar20 q20 S20 N20n H20 G20 (fits_nar_byte (125 : Int32)) W20 5 rfl (Nat.le_of_ble_eq_true rfl)
  refine step (T20.setTop (mkF m 32 #[vr o1, vi 5, vr o2, vi 5, vi 8, vi 5, vi 125] [])) (fun t k => st20 t k) ?_
  refine oii KK X20 d6_32 #[vr o1, vi 6, vr o2, vi 5, vi 8, vi 5, vi 125] 35 rfl rfl rfl ?_
  refine oii KK X20 d6_35 #[vr o1, vi 6, vr o2, vi 6, vi 8, vi 5, vi 125] 38 rfl rfl rfl ?_
  refine oii KK X20 d6_38 #[vr o1, vi 6, vr o2, vi 6, vi 8, vi 6, vi 125] 41 rfl rfl rfl ?_
  refine ogo KK X20 d6_41 3 (by decide) rfl ?_
  refine oiL KK X20 d6_3 (6 : Int32) 5 rfl rfl ?_
  refine oiL KK X20 d6_5 (8 : Int32) 7 rfl rfl ?_
  refine oin KK X20 d6_7 10 rfl (tlt (by decide : (6 : Int32) < (8 : Int32))).2.1 ?_
  refine oal KK X20 d6_10 (.ref o1) 11 rfl rfl rfl ?_
  refine oil KK X20 d6_11 (6 : Int32) 12 rfl rfl ?_
  have f21 := (f18.other W20 ne_o1_o2)
  obtain ⟨cl22, Ar22, q22, S22, N22n, H22, G22⟩ := id f21
  have hin22 : ¬ ((6 : Int32) < 0 ∨ cl22.slots.size ≤ ((6 : Int32)).toNatClampNeg) := inb_of S22 ⟨by decide, by decide⟩
  have hat22 : cl22.slots[((6 : Int32)).toNatClampNeg]? = some (.int 58) := H22.at hin22 rfl
  refine step (T20.setTop (mkF m 13 #[vr o1, vi 6, vr o2, vi 6, vi 8, vi 6, vi 125] [(.int 58)])) (fun t k => X20.caload hx (j := (6 : Int32)) (v := (.int 58)) (by rw [e20]; exact Ar22.1) (State.isArrayOf_alike hZ.alike Ar22.2.1) Ar22.2.2 hin22 hat22 (g := (mkF m 12 #[vr o1, vi 6, vr o2, vi 6, vi 8, vi 6, vi 125] [(.int 6), (.ref o1)])) rfl rfl (hb hby d6_12) t k) ?_
  refine oiS KK X20 d6_13 #[vr o1, vi 6, vr o2, vi 6, vi 8, vi 6, vi 58] 15 rfl rfl ?_
  refine oiL KK X20 d6_15 (58 : Int32) 17 rfl rfl ?_
  refine osi KK X20 d6_17 255 20 rfl rfl ?_
  refine oiy KK X20 d6_20 26 (flt (by decide : ¬ ((255 : Int32) < (58 : Int32)))).2.2.2 (by decide) rfl ?_
  refine oal KK X20 d6_26 (.ref o2) 27 rfl rfl rfl ?_
  refine oil KK X20 d6_27 (6 : Int32) 28 rfl rfl ?_
  refine oiL KK X20 d6_28 (58 : Int32) 30 rfl rfl ?_
  refine step (T20.setTop (mkF m 31 #[vr o1, vi 6, vr o2, vi 6, vi 8, vi 6, vi 58] [(.int 58), (.int 6), (.ref o2)])) (fun t k => XS.i2b X20.here hx rfl (hb hby d6_30) rfl k) ?_
  obtain ⟨cl23, Ar23, q23, S23, N23n, H23, G23⟩ := id V20
  have hin23 : ¬ ((6 : Int32) < 0 ∨ cl23.slots.size ≤ ((6 : Int32)).toNatClampNeg) := inb_of S23 ⟨by decide, by decide⟩
  obtain ⟨T23, h23, X23, e23, W23, st23⟩ := stB X20 hx hZ e20 Ar23 (j := (6 : Int32)) hin23 (g := (mkF m 31 #[vr o1, vi 6, vr o2, vi 6, vi 8, vi 6, vi 58] [(.int 58), (.int 6), (.ref o2)])) rfl rfl (hb hby d6_31)
  have N23 := Fr.snoc X23 N20 gn_o2
  have K23 : Keep h0 h23 [o2] := K20.wr W23 (Or.inl (List.mem_of_getElem? (i := 0) rfl))
  have V23 : Arv Z h23 o2 kc6 .byte (8 : Int32) [(.int (nar .byte (i2.toInt8.toInt32))), (.int (nar .byte (i3.toInt8.toInt32))), (.int 58), (.int 123), (.int (nar .byte (i4.toInt8.toInt32))), (.int 125), (.int 58), (.int 0)] (.int 0) := Arv.set Ar23 q23 S23 N23n H23 G23 (fits_nar_byte (58 : Int32)) W23 6 rfl (Nat.le_of_ble_eq_true rfl)
  refine step (T23.setTop (mkF m 32 #[vr o1, vi 6, vr o2, vi 6, vi 8, vi 6, vi 58] [])) (fun t k => st23 t k) ?_
  refine oii KK X23 d6_32 #[vr o1, vi 7, vr o2, vi 6, vi 8, vi 6, vi 58] 35 rfl rfl rfl ?_
  refine oii KK X23 d6_35 #[vr o1, vi 7, vr o2, vi 7, vi 8, vi 6, vi 58] 38 rfl rfl rfl ?_
  refine oii KK X23 d6_38 #[vr o1, vi 7, vr o2, vi 7, vi 8, vi 7, vi 58] 41 rfl rfl rfl ?_
  refine ogo KK X23 d6_41 3 (by decide) rfl ?_
  refine oiL KK X23 d6_3 (7 : Int32) 5 rfl rfl ?_
  refine oiL KK X23 d6_5 (8 : Int32) 7 rfl rfl ?_
  refine oin KK X23 d6_7 10 rfl (tlt (by decide : (7 : Int32) < (8 : Int32))).2.1 ?_
  refine oal KK X23 d6_10 (.ref o1) 11 rfl rfl rfl ?_
  refine oil KK X23 d6_11 (7 : Int32) 12 rfl rfl ?_
  have f24 := (f21.other W23 ne_o1_o2)
  obtain ⟨cl25, Ar25, q25, S25, N25n, H25, G25⟩ := id f24
  have hin25 : ¬ ((7 : Int32) < 0 ∨ cl25.slots.size ≤ ((7 : Int32)).toNatClampNeg) := inb_of S25 ⟨by decide, by decide⟩
  have hat25 : cl25.slots[((7 : Int32)).toNatClampNeg]? = some (.int i5) := H25.at hin25 rfl
  refine step (T23.setTop (mkF m 13 #[vr o1, vi 7, vr o2, vi 7, vi 8, vi 7, vi 58] [(.int i5)])) (fun t k => X23.caload hx (j := (7 : Int32)) (v := (.int i5)) (by rw [e23]; exact Ar25.1) (State.isArrayOf_alike hZ.alike Ar25.2.1) Ar25.2.2 hin25 hat25 (g := (mkF m 12 #[vr o1, vi 7, vr o2, vi 7, vi 8, vi 7, vi 58] [(.int 7), (.ref o1)])) rfl rfl (hb hby d6_12) t k) ?_
  refine oiS KK X23 d6_13 #[vr o1, vi 7, vr o2, vi 7, vi 8, vi 7, vi i5] 15 rfl rfl ?_
  refine oiL KK X23 d6_15 i5 17 rfl rfl ?_
  refine osi KK X23 d6_17 255 20 rfl rfl ?_
  have hc20_26 : ¬ ((255 : Int32) < i5) := hy8
  refine oiy KK X23 d6_20 26 (flt hc20_26).2.2.2 (by decide) rfl ?_
  refine oal KK X23 d6_26 (.ref o2) 27 rfl rfl rfl ?_
  refine oil KK X23 d6_27 (7 : Int32) 28 rfl rfl ?_
  refine oiL KK X23 d6_28 i5 30 rfl rfl ?_
  refine step (T23.setTop (mkF m 31 #[vr o1, vi 7, vr o2, vi 7, vi 8, vi 7, vi i5] [(.int (i5.toInt8.toInt32)), (.int 7), (.ref o2)])) (fun t k => XS.i2b X23.here hx rfl (hb hby d6_30) rfl k) ?_
  obtain ⟨cl27, Ar27, q27, S27, N27n, H27, G27⟩ := id V23
  have hin27 : ¬ ((7 : Int32) < 0 ∨ cl27.slots.size ≤ ((7 : Int32)).toNatClampNeg) := inb_of S27 ⟨by decide, by decide⟩
  obtain ⟨T27, h27, X27, e27, W27, st27⟩ := stB X23 hx hZ e23 Ar27 (j := (7 : Int32)) hin27 (g := (mkF m 31 #[vr o1, vi 7, vr o2, vi 7, vi 8, vi 7, vi i5] [(.int (i5.toInt8.toInt32)), (.int 7), (.ref o2)])) rfl rfl (hb hby d6_31)
  have N27 := Fr.snoc X27 N23 gn_o2
  have K27 : Keep h0 h27 [o2] := K23.wr W27 (Or.inl (List.mem_of_getElem? (i := 0) rfl))
  have V27 : Arv Z h27 o2 kc6 .byte (8 : Int32) [(.int (nar .byte (i2.toInt8.toInt32))), (.int (nar .byte (i3.toInt8.toInt32))), (.int 58), (.int 123), (.int (nar .byte (i4.toInt8.toInt32))), (.int 125), (.int 58), (.int (nar .byte (i5.toInt8.toInt32)))] (.int 0) := Arv.set Ar27 q27 S27 N27n H27 G27 (fits_nar_byte (i5.toInt8.toInt32)) W27 7 rfl (Nat.le_of_ble_eq_true rfl)
  refine step (T27.setTop (mkF m 32 #[vr o1, vi 7, vr o2, vi 7, vi 8, vi 7, vi i5] [])) (fun t k => st27 t k) ?_
  refine oii KK X27 d6_32 #[vr o1, vi 8, vr o2, vi 7, vi 8, vi 7, vi i5] 35 rfl rfl rfl ?_
  refine oii KK X27 d6_35 #[vr o1, vi 8, vr o2, vi 8, vi 8, vi 7, vi i5] 38 rfl rfl rfl ?_
  refine oii KK X27 d6_38 #[vr o1, vi 8, vr o2, vi 8, vi 8, vi 8, vi i5] 41 rfl rfl rfl ?_
  refine ogo KK X27 d6_41 3 (by decide) rfl ?_
  refine oiL KK X27 d6_3 (8 : Int32) 5 rfl rfl ?_
  refine oiL KK X27 d6_5 (8 : Int32) 7 rfl rfl ?_
  refine oiy KK X27 d6_7 44 (flt (by decide : ¬ ((8 : Int32) < (8 : Int32)))).2.1 (by decide) rfl ?_
  refine oiL KK X27 d6_44 (8 : Int32) 46 rfl rfl ?_
  refine fin (v := some (.int 8)) X27 (fun h => by cases h) ?_ (by decide) (by decide) (fun fs hr => retI X27 hx hret (hb hby d6_46) hr)
  show Q6_106 Z o1 o2 kc1 i2 i3 i4 i5 kc6 h0 n0 (some (.int 8)) T27.heap _
  rw [e27]
  exact ⟨rfl, N27, K27, V27⟩
theorem ef_5_105 (m : MethodId) (x0 : Addr) : entryFrame m #[(.ref x0), (.int 0), (.int 8)] 6 = mkF m 0 #[.val (.ref x0), .val (.int 0), .val (.int 8), .unset, .unset, .unset] [] := by first | (simp [entryFrame, mkF, argsToLocals, Value.category]; done) | rfl
def Q5_105 (Z : State) (o1 : Addr) (kc1 : ClassId) (i2 : Int32) (i3 : Int32) (i4 : Int32) (i5 : Int32) (h0 : Heap) (n0 : Nat) (v : Option Value) (h : Heap) (L : List Loc) : Prop := ∃ (b1 : Addr) (k1 : ClassId), v = some (.ref b1) ∧ Fr n0 L ∧ Keep h0 h [] ∧ h0.size ≤ b1 ∧ Arv Z h b1 k1 .byte (8 : Int32) [(.int (nar .byte (i2.toInt8.toInt32))), (.int (nar .byte (i3.toInt8.toInt32))), (.int 58), (.int 123), (.int (nar .byte (i4.toInt8.toInt32))), (.int 125), (.int 58), (.int (nar .byte (i5.toInt8.toInt32)))] (.int 0)
set_option maxRecDepth 65536 in
set_option maxHeartbeats 40000000 in
theorem rm5_105 (l : Launch) (Z : State) (a0 : Array Value) (hw : ∀ d ∈ tables_1, d.before a0 Z = true) (ws : List Jvm.Cond) (o1 : Addr) (kc1 : ClassId) (i2 : Int32) (i3 : Int32) (i4 : Int32) (i5 : Int32) (h0 : Heap) (n0 : Nat) (Z0 : n0 ≤ h0.size) (Pm0 : Arv Z h0 o1 kc1 .char (8 : Int32) [(.int i2), (.int i3), (.int 58), (.int 123), (.int i4), (.int 125), (.int 58), (.int i5)] (.int 0)) (gn_o1 : n0 ≤ o1) (hy2 : ¬ ((255 : Int32) < i2)) (hy3 : ¬ ((255 : Int32) < i3)) (hy4 : ¬ ((255 : Int32) < i4)) (hy5 : ¬ ((255 : Int32) < i5))  :
    OwnM l Z nM2 jdk_52_method_16_code 6 (some (.array .byte)) ws ({ frames := 1, cells := 1, slots := 8, locals := 18 } : Room) #[(.ref o1), (.int 0), (.int 8)] h0 (Q5_105 Z o1 kc1 i2 i3 i4 i5 h0 n0) := by
  refine own_body (plainFor_of_name pn_2) ?_
  intro p e s m below meth c s₁ G hx hby hml hZ hown hnm hret X0 e0 step fin
  replace hown : s.vm.findClass "java/lang/StringUTF16" = some m.cls := hown
  have N0 := Fr.nil n0
  have KK : OwnK p e below c _ G := ⟨step, hx, hby⟩
  refine step (s₁.setTop (mkF m 0 #[vr o1, vi 0, vi 8, .unset, .unset, .unset] [])) (fun t k => castTop (ef_5_105 m o1) k) ?_
  refine oil KK X0 d5_0 (8 : Int32) 1 rfl rfl ?_
  obtain ⟨T1, h1, k1, X1, e1, E1, A1, st1⟩ := newP X0 hx hZ (ow hw 23 rfl) e0 (g := (mkF m 1 #[vr o1, vi 0, vi 8, .unset, .unset, .unset] [(.int 8)])) rfl (hb hby d5_1) rfl (by decide) (cap := 8) (by decide) (by decide) (by decide) (by decide)
  obtain ⟨b1, g1⟩ : ∃ z, z = h0.size := ⟨_, rfl⟩
  rw [← g1] at A1 st1
  have ne_o1_b1 : o1 ≠ b1 := Nat.ne_of_lt (Nat.lt_of_lt_of_le Pm0.lt (Nat.le_of_eq g1.symm))
  have gn_b1 : n0 ≤ b1 := Nat.le_trans Z0 (Nat.le_of_eq g1.symm)
  have sz_b1 : h0.size ≤ b1 := Nat.le_of_eq g1.symm
  have K1 : Keep h0 h1 [] := (Keep.refl h0 []).ext E1
  have V1 : Arv Z h1 b1 k1 .byte (8 : Int32) [(.int 0), (.int 0), (.int 0), (.int 0), (.int 0), (.int 0), (.int 0), (.int 0)] (.int 0) := (Arv.new A1 (by decide)).pad (pad_rep [] (.int 0) 8)
  refine step (T1.setTop (mkF m 3 #[vr o1, vi 0, vi 8, .unset, .unset, .unset] [(.ref b1)])) (fun t k => st1 t k) ?_
  refine step (T1.setTop (mkF m 4 #[vr o1, vi 0, vi 8, vr b1, .unset, .unset] [])) (fun t k => XS.astoreN X1.here hx rfl (hb hby d5_3) rfl rfl (l' := #[vr o1, vi 0, vi 8, vr b1, .unset, .unset]) rfl k) ?_
  refine oal KK X1 d5_4 (.ref o1) 5 rfl rfl rfl ?_
  refine oil KK X1 d5_5 (0 : Int32) 6 rfl rfl ?_
  refine oal KK X1 d5_6 (.ref b1) 7 rfl rfl rfl ?_
  refine oic KK X1 d5_7 0 8 rfl rfl ?_
  refine oil KK X1 d5_8 (8 : Int32) 9 rfl rfl ?_
  have f2 := (Pm0.ext E1)
  obtain ⟨_, _, ⟨T3, L3, k3, n3⟩, -, X3, ⟨Lc3, hQ3, l3, y3, z3⟩, st3⟩ := Jvm.LawKit.callS X1 hx (y := nM1) hown (mvT hZ (ow hw 24 rfl)) (mvT hZ (ow hw 25 rfl)) (mvT hZ (ow hw 21 rfl)) (mvT hZ (ow hw 26 rfl)) (by decide) (backOf (W := 0) (rm6_106 l Z a0 hw [] o1 b1 kc1 i2 i3 i4 i5 k1 h1 n0 (Nat.le_trans Z0 K1.1) f2 V1 gn_o1 ne_o1_b1 gn_b1 hy2 hy3 hy4 hy5) hZ (ow hw 26 rfl) (ow hw 21 rfl) (by decide) (by decide)) (g := (mkF m 9 #[vr o1, vi 0, vi 8, vr b1, .unset, .unset] [(.int 8), (.int 0), (.ref b1), (.int 0), (.ref o1)])) rfl (by rw [hml]; rfl) (argsL := [(.ref o1), (.int 0), (.ref b1), (.int 0), (.int 8)]) (rest := []) (lenOf pd_10 rfl) rfl (omw rfl rfl) (hb hby d5_9) (fun _ _ => ⟨rfl, e1, (by decide : 1 + 0 ≤ _), (by decide : 8 + 0 ≤ _)⟩)
  dsimp only [Pt.U, Pt.locs, Pt.cells, Pt.slots] at X3 l3 y3 z3 st3 hQ3
  subst l3 y3 z3
  obtain ⟨h3, e3⟩ : ∃ z, T3.heap = z := ⟨_, rfl⟩
  rw [e3] at hQ3
  obtain ⟨rfl, N3q, K3q, q0_3⟩ := hQ3
  have N3 := Fr.app N0 N3q
  have K3 : Keep h0 h3 [] := K1.trans K3q (allS (Or.inr sz_b1) all0)
  refine step (T3.setTop (mkF m 12 #[vr o1, vi 0, vi 8, vr b1, .unset, .unset] [(.int 8)])) (fun t k => st3 t k) ?_
  refine oiS KK X3 d5_12 #[vr o1, vi 0, vi 8, vr b1, vi 8, .unset] 14 rfl rfl ?_
  refine oiL KK X3 d5_14 (8 : Int32) 16 rfl rfl ?_
  refine oil KK X3 d5_16 (8 : Int32) 17 rfl rfl ?_
  refine oiy KK X3 d5_17 57 (teq (by decide : (8 : Int32) = (8 : Int32))).1 (by decide) rfl ?_
  refine oal KK X3 d5_57 (.ref b1) 58 rfl rfl rfl ?_
  refine fin (v := some (.ref b1)) X3 (fun h => by cases h) ?_ (by decide) (by decide) (fun fs hr => X3.areturnOut hx rfl hret rfl (hb hby d5_58) hr)
  show Q5_105 Z o1 kc1 i2 i3 i4 i5 h0 n0 (some (.ref b1)) T3.heap _
  rw [e3]
  exact ⟨b1, k1, rfl, N3, K3, sz_b1, q0_3⟩
theorem ef_7_107 (m : MethodId) (x0 : Addr) : entryFrame m #[(.ref x0), (.int 8)] 2 = mkF m 0 #[.val (.ref x0), .val (.int 8)] [] := by first | (simp [entryFrame, mkF, argsToLocals, Value.category]; done) | rfl
def Q7_107 (Z : State) (o1 : Addr) (kc1 : ClassId) (i2 : Int32) (i3 : Int32) (i4 : Int32) (i5 : Int32) (h0 : Heap) (n0 : Nat) (v : Option Value) (h : Heap) (L : List Loc) : Prop := v = some (.int 0) ∧ Fr n0 L ∧ h = h0
set_option maxRecDepth 65536 in
set_option maxHeartbeats 40000000 in
theorem rm7_107 (l : Launch) (Z : State) (a0 : Array Value) (hw : ∀ d ∈ tables_1, d.before a0 Z = true) (ws : List Jvm.Cond) (o1 : Addr) (kc1 : ClassId) (i2 : Int32) (i3 : Int32) (i4 : Int32) (i5 : Int32) (h0 : Heap) (n0 : Nat) (Z0 : n0 ≤ h0.size) (Pm0 : Arv Z h0 o1 kc1 .byte (8 : Int32) [(.int i2), (.int i3), (.int 58), (.int 123), (.int i4), (.int 125), (.int 58), (.int i5)] (.int 0)) (gn_o1 : n0 ≤ o1)  :
    OwnM l Z nM3 jdk_52_method_15_code 2 (some .byte) ws ({ frames := 0, cells := 0, slots := 0, locals := 0 } : Room) #[(.ref o1), (.int 8)] h0 (Q7_107 Z o1 kc1 i2 i3 i4 i5 h0 n0) := by
  refine own_body (plainFor_of_name pn_2) ?_
  intro p e s m below meth c s₁ G hx hby hml hZ hown hnm hret X0 e0 step fin
  replace hown : s.vm.findClass "java/lang/StringUTF16" = some m.cls := hown
  have N0 := Fr.nil n0
  have KK : OwnK p e below c _ G := ⟨step, hx, hby⟩
  refine step (s₁.setTop (mkF m 0 #[vr o1, vi 8] [])) (fun t k => castTop (ef_7_107 m o1) k) ?_
  refine oil KK X0 d7_0 (8 : Int32) 1 rfl rfl ?_
  refine oal KK X0 d7_1 (.ref o1) 2 rfl rfl rfl ?_
  obtain ⟨cl1, Ar1, q1, S1, N1n, H1, G1⟩ := id Pm0
  refine step (s₁.setTop (mkF m 3 #[vr o1, vi 8] [(.int 8), (.int 8)])) (fun t k => X0.arraylength hx (by rw [e0]; exact Ar1.1) (State.isArrayOf_alike hZ.alike Ar1.2.1) (g := (mkF m 2 #[vr o1, vi 8] [(.ref o1), (.int 8)])) rfl rfl (hb hby d7_2) t (by rw [len_of S1 N1n]; exact k)) ?_
  refine step (s₁.setTop (mkF m 4 #[vr o1, vi 8] [(.int 0)])) (fun t k => XS.isub X0.here hx rfl (hb hby d7_3) rfl k) ?_
  refine obi KK X0 d7_4 31 6 rfl rfl ?_
  refine step (s₁.setTop (mkF m 7 #[vr o1, vi 8] [(.int 0)])) (fun t k => XS.iushr X0.here hx rfl (hb hby d7_6) rfl k) ?_
  refine step (s₁.setTop (mkF m 8 #[vr o1, vi 8] [(.int 0)])) (fun t k => XS.i2b X0.here hx rfl (hb hby d7_7) rfl k) ?_
  refine fin (v := some (.int (nar .byte (0 : Int32)))) X0 (fun h => by cases h) ?_ (by decide) (by decide) (fun fs hr => retN X0 hx (t := .byte) hret (by simp) (hb hby d7_8) hr)
  show Q7_107 Z o1 kc1 i2 i3 i4 i5 h0 n0 (some (.int (nar .byte (0 : Int32)))) s₁.heap _
  rw [e0]
  exact ⟨rfl, N0, rfl⟩
theorem ef_3_104 (m : MethodId) (x0 : Addr) (x1 : Addr) : entryFrame m #[(.ref x0), (.ref x1), (.int 0), (.int 8), .null] 6 = mkF m 0 #[.val (.ref x0), .val (.ref x1), .val (.int 0), .val (.int 8), .val .null, .unset] [] := by first | (simp [entryFrame, mkF, argsToLocals, Value.category]; done) | rfl
def Q3_104 (Z : State) (o1 : Addr) (o2 : Addr) (i1 : Int32) (kc2 : ClassId) (i3 : Int32) (i4 : Int32) (i5 : Int32) (i6 : Int32) (h0 : Heap) (n0 : Nat) (v : Option Value) (h : Heap) (L : List Loc) : Prop := ∃ (b1_4 : Addr) (k1_4 : ClassId), v = none ∧ Fr n0 L ∧ Keep h0 h [o1] ∧ h0.size ≤ b1_4 ∧ Fld Z h o1 "java/lang/String" "coder" "B" (.int 0) ∧ Fld Z h o1 "java/lang/String" "value" "[B" (.ref b1_4) ∧ Arv Z h b1_4 k1_4 .byte (8 : Int32) [(.int (nar .byte (i3.toInt8.toInt32))), (.int (nar .byte (i4.toInt8.toInt32))), (.int 58), (.int 123), (.int (nar .byte (i5.toInt8.toInt32))), (.int 125), (.int 58), (.int (nar .byte (i6.toInt8.toInt32)))] (.int 0)
set_option maxRecDepth 65536 in
set_option maxHeartbeats 40000000 in
theorem rm3_104 (l : Launch) (Z : State) (a0 : Array Value) (hw : ∀ d ∈ tables_1, d.before a0 Z = true) (ws : List Jvm.Cond) (o1 : Addr) (o2 : Addr) (i1 : Int32) (kc2 : ClassId) (i3 : Int32) (i4 : Int32) (i5 : Int32) (i6 : Int32) (h0 : Heap) (n0 : Nat) (Z0 : n0 ≤ h0.size) (S0 : Sta Z h0 "java/lang/String" "COMPACT_STRINGS" "Z" (.int i1)) (Pm1 : Exa Z h0 o1 "java/lang/String") (Pm2 : Fld Z h0 o1 "java/lang/String" "coder" "B" (.int 0)) (Pm3 : Fld Z h0 o1 "java/lang/String" "value" "[B" .null) (Pm4 : Arv Z h0 o2 kc2 .char (8 : Int32) [(.int i3), (.int i4), (.int 58), (.int 123), (.int i5), (.int 125), (.int 58), (.int i6)] (.int 0)) (gn_o1 : n0 ≤ o1) (ne_o1_o2 : o1 ≠ o2) (gn_o2 : n0 ≤ o2) (hy8 : ¬ ((255 : Int32) < i3)) (hy9 : ¬ ((255 : Int32) < i4)) (hy10 : ¬ ((255 : Int32) < i5)) (hy11 : ¬ ((255 : Int32) < i6)) (hy12 : ¬ (i1 = (0 : Int32)))  :
    OwnM l Z nM4 jdk_42_method_149_code 6 none ws ({ frames := 2, cells := 1, slots := 8, locals := 35 } : Room) #[(.ref o1), (.ref o2), (.int 0), (.int 8), .null] h0 (Q3_104 Z o1 o2 i1 kc2 i3 i4 i5 i6 h0 n0) := by
  refine own_body (plainFor_of_name pn_1) ?_
  intro p e s m below meth c s₁ G hx hby hml hZ hown hnm hret X0 e0 step fin
  replace hown : s.vm.findClass "java/lang/String" = some m.cls := hown
  have N0 := Fr.nil n0
  have KK : OwnK p e below c _ G := ⟨step, hx, hby⟩
  refine step (s₁.setTop (mkF m 0 #[vr o1, vr o2, vi 0, vi 8, .val .null, .unset] [])) (fun t k => castTop (ef_3_104 m o1 o2) k) ?_
  refine oal KK X0 d3_0 (.ref o1) 1 rfl rfl rfl ?_
  obtain ⟨T1, X1, e1, st1⟩ := initO X0 hx hZ hown (ow hw 15 rfl) (ow hw 16 rfl) (ow hw 17 rfl) e0 (g := (mkF m 1 #[vr o1, vr o2, vi 0, vi 8, .val .null, .unset] [(.ref o1)])) rfl (by rw [hml]; rfl) rfl (hb hby d3_1) (by decide) (W := 0) (omw rfl rfl) (by decide)
  refine step (T1.setTop (mkF m 4 #[vr o1, vr o2, vi 0, vi 8, .val .null, .unset] [])) (fun t k => st1 t k) ?_
  refine oil KK X1 d3_4 (8 : Int32) 5 rfl rfl ?_
  refine step (T1.setTop (mkF m 27 #[vr o1, vr o2, vi 0, vi 8, .val .null, .unset] [])) (fun t k => XS.ifYes X1.here hx rfl (pc0 := 5) (pc' := 27) rfl (hb hby d3_5) rfl ((if0 _ _).trans (feq (by decide : ¬ ((8 : Int32) = (0 : Int32)))).2) (by decide) (by decide) k) ?_
  obtain ⟨T2, X2, e2, st2⟩ := getS2 X1 hx hZ hown (host := "") (Or.inl (ow hw 18 rfl)) Via.refl e1 S0 (g := (mkF m 27 #[vr o1, vr o2, vi 0, vi 8, .val .null, .unset] [])) rfl (hb hby d3_27)
  refine step (T2.setTop (mkF m 30 #[vr o1, vr o2, vi 0, vi 8, .val .null, .unset] [(.int i1)])) (fun t k => st2 t k) ?_
  have hc30_3 : ¬ (i1 = (0 : Int32)) := hy12
  refine step (T2.setTop (mkF m 33 #[vr o1, vr o2, vi 0, vi 8, .val .null, .unset] [])) (fun t k => XS.ifNo X2.here hx rfl (hb hby d3_30) rfl ((if0 _ _).trans (feq hc30_3).1) k) ?_
  refine oal KK X2 d3_33 (.ref o2) 34 rfl rfl rfl ?_
  refine oil KK X2 d3_34 (0 : Int32) 35 rfl rfl ?_
  refine oil KK X2 d3_35 (8 : Int32) 36 rfl rfl ?_
  obtain ⟨_, _, ⟨T4, L4, k4, n4⟩, -, X4, ⟨Lc4, hQ4, l4, y4, z4⟩, st4⟩ := Jvm.LawKit.callS X2 hx (y := nM2) hown (mvT hZ (ow hw 19 rfl)) (mvT hZ (ow hw 20 rfl)) (mvT hZ (ow hw 21 rfl)) (mvT hZ (ow hw 22 rfl)) (by decide) (backOf (W := 0) (rm5_105 l Z a0 hw [] o2 kc2 i3 i4 i5 i6 h0 n0 Z0 Pm4 gn_o2 hy8 hy9 hy10 hy11) hZ (ow hw 22 rfl) (ow hw 21 rfl) (by decide) (by decide)) (g := (mkF m 36 #[vr o1, vr o2, vi 0, vi 8, .val .null, .unset] [(.int 8), (.int 0), (.ref o2)])) rfl (by rw [hml]; rfl) (argsL := [(.ref o2), (.int 0), (.int 8)]) (rest := []) (lenOf pd_8 rfl) rfl (omw rfl rfl) (hb hby d3_36) (fun _ _ => ⟨rfl, e2, (by decide : 0 + 1 ≤ _), (by decide : 0 + 8 ≤ _)⟩)
  dsimp only [Pt.U, Pt.locs, Pt.cells, Pt.slots] at X4 l4 y4 z4 st4 hQ4
  subst l4 y4 z4
  obtain ⟨h4, e4⟩ : ∃ z, T4.heap = z := ⟨_, rfl⟩
  rw [e4] at hQ4
  obtain ⟨b1_4, k1_4, rfl, N4q, K4q, sz_b1_4, q0_4⟩ := hQ4
  have N4 := Fr.app N0 N4q
  have lt4_o1 := Pm1.lt
  have lt4_o2 := Pm4.lt
  have ne_o1_b1_4 : o1 ≠ b1_4 := Nat.ne_of_lt (Nat.lt_of_lt_of_le lt4_o1 sz_b1_4)
  have ne_o2_b1_4 : o2 ≠ b1_4 := Nat.ne_of_lt (Nat.lt_of_lt_of_le lt4_o2 sz_b1_4)
  have gn_b1_4 : n0 ≤ b1_4 := Nat.le_trans Z0 sz_b1_4
  have K4 : Keep h0 h4 [o1] := (Keep.refl h0 [o1]).trans K4q all0
  have f5 := own_staK S0 K4q all0
  refine step (T4.setTop (mkF m 39 #[vr o1, vr o2, vi 0, vi 8, .val .null, .unset] [(.ref b1_4)])) (fun t k => st4 t k) ?_
  refine step (T4.setTop (mkF m 41 #[vr o1, vr o2, vi 0, vi 8, .val .null, vr b1_4] [])) (fun t k => XS.astore X4.here hx rfl (hb hby d3_39) rfl rfl (l' := #[vr o1, vr o2, vi 0, vi 8, .val .null, vr b1_4]) rfl k) ?_
  refine oal KK X4 d3_41 (.ref o1) 42 rfl rfl rfl ?_
  refine oaL KK X4 d3_42 (.ref b1_4) 44 rfl rfl rfl ?_
  refine oil KK X4 d3_44 (8 : Int32) 45 rfl rfl ?_
  obtain ⟨_, _, ⟨T6, L6, k6, n6⟩, -, X6, ⟨Lc6, hQ6, l6, y6, z6⟩, st6⟩ := Jvm.LawKit.callS X4 hx (y := nM3) hown (mvT hZ (ow hw 27 rfl)) (mvT hZ (ow hw 28 rfl)) (mvT hZ (ow hw 21 rfl)) (mvT hZ (ow hw 29 rfl)) (by decide) (backOf (W := 1) (rm7_107 l Z a0 hw [] b1_4 k1_4 (nar .byte (i3.toInt8.toInt32)) (nar .byte (i4.toInt8.toInt32)) (nar .byte (i5.toInt8.toInt32)) (nar .byte (i6.toInt8.toInt32)) h4 n0 (Nat.le_trans Z0 K4.1) q0_4 gn_b1_4) hZ (ow hw 29 rfl) (ow hw 21 rfl) (by decide) (by decide)) (g := (mkF m 45 #[vr o1, vr o2, vi 0, vi 8, .val .null, vr b1_4] [(.int 8), (.ref b1_4), (.ref o1)])) rfl (by rw [hml]; rfl) (argsL := [(.ref b1_4), (.int 8)]) (rest := [(.ref o1)]) (lenOf pd_9 rfl) rfl (omw rfl rfl) (hb hby d3_45) (fun _ _ => ⟨rfl, e4, (by decide : 1 + 0 ≤ _), (by decide : 8 + 0 ≤ _)⟩)
  dsimp only [Pt.U, Pt.locs, Pt.cells, Pt.slots] at X6 l6 y6 z6 st6 hQ6
  subst l6 y6 z6
  obtain ⟨rfl, N6q, e6q⟩ := hQ6
  have N6 := Fr.app N4 N6q
  refine step (T6.setTop (mkF m 48 #[vr o1, vr o2, vi 0, vi 8, .val .null, vr b1_4] [(.int 0), (.ref o1)])) (fun t k => st6 t k) ?_
  have f7 := (Pm1.keep K4q)
  have f8 := (Pm2.keep K4q nin0)
  obtain ⟨T9, h9, X9, e9, W9, st9⟩ := putFN X6 hx hZ hown (ow hw 30 rfl) Via.refl e6q f8 f7 (Or.inr ⟨(ow hw 31 rfl), rfl, hnm⟩) (ow hw 5 rfl) (ty := .byte) (v' := (.int 0)) (by decide) rfl (fits_nar_byte (0 : Int32)) (g := (mkF m 48 #[vr o1, vr o2, vi 0, vi 8, .val .null, vr b1_4] [(.int 0), (.ref o1)])) rfl rfl (hb hby d3_48)
  have N9 := Fr.snoc X9 N6 gn_o1
  have K9 : Keep h0 h9 [o1] := K4.wr W9 (Or.inl (List.mem_of_getElem? (i := 0) rfl))
  have F9 := f8.same W9
  refine step (T9.setTop (mkF m 51 #[vr o1, vr o2, vi 0, vi 8, .val .null, vr b1_4] [])) (fun t k => st9 t k) ?_
  refine oal KK X9 d3_51 (.ref o1) 52 rfl rfl rfl ?_
  refine oaL KK X9 d3_52 (.ref b1_4) 54 rfl rfl rfl ?_
  have f10 := (f7.wr W9)
  have f11 := ((Pm3.keep K4q nin0).other W9 (Or.inr (slot_ne (Or.inr (ow hw 33 rfl)) (Or.inr (ow hw 31 rfl)) (by decide) (t := (.array .byte)) (t' := .byte) (by decide) (by decide))))
  obtain ⟨T12, h12, X12, e12, W12, st12⟩ := putF X9 hx hZ hown (host := "") (Or.inl (ow hw 32 rfl)) Via.refl e9 f11 f10 (Or.inr ⟨(ow hw 33 rfl), rfl, hnm⟩) (ow hw 5 rfl) (ty := (.array .byte)) (by decide) rfl rfl (g := (mkF m 54 #[vr o1, vr o2, vi 0, vi 8, .val .null, vr b1_4] [(.ref b1_4), (.ref o1)])) rfl rfl (hb hby d3_54)
  have N12 := Fr.snoc X12 N9 gn_o1
  have K12 : Keep h0 h12 [o1] := K9.wr W12 (Or.inl (List.mem_of_getElem? (i := 0) rfl))
  have F12 := f11.same W12
  refine step (T12.setTop (mkF m 57 #[vr o1, vr o2, vi 0, vi 8, .val .null, vr b1_4] [])) (fun t k => st12 t k) ?_
  have f13 := (F9.other W12 (Or.inr (slot_ne (Or.inr (ow hw 31 rfl)) (Or.inr (ow hw 33 rfl)) (by decide) (t := .byte) (t' := (.array .byte)) (by decide) (by decide))))
  have f14 := ((q0_4.other W9 (Ne.symm ne_o1_b1_4)).other W12 (Ne.symm ne_o1_b1_4))
  refine fin (v := none) X12 (fun _ => rfl) ?_ (by decide) (by decide) (fun fs hr => X12.returnOut hx hret (hb hby d3_57) hr)
  show Q3_104 Z o1 o2 i1 kc2 i3 i4 i5 i6 h0 n0 (none) T12.heap _
  rw [e12]
  exact ⟨b1_4, k1_4, rfl, N12, K12, sz_b1_4, f13, F12, f14⟩
def Q2_103 (Z : State) (o1 : Addr) (o2 : Addr) (i1 : Int32) (kc2 : ClassId) (i3 : Int32) (i4 : Int32) (i5 : Int32) (i6 : Int32) (h0 : Heap) (n0 : Nat) (v : Option Value) (h : Heap) (L : List Loc) : Prop := ∃ (b1_4_2 : Addr) (k1_4_2 : ClassId), v = none ∧ Fr n0 L ∧ Keep h0 h [o1] ∧ h0.size ≤ b1_4_2 ∧ Fld Z h o1 "java/lang/String" "coder" "B" (.int 0) ∧ Fld Z h o1 "java/lang/String" "value" "[B" (.ref b1_4_2) ∧ Arv Z h b1_4_2 k1_4_2 .byte (8 : Int32) [(.int (nar .byte (i3.toInt8.toInt32))), (.int (nar .byte (i4.toInt8.toInt32))), (.int 58), (.int 123), (.int (nar .byte (i5.toInt8.toInt32))), (.int 125), (.int 58), (.int (nar .byte (i6.toInt8.toInt32)))] (.int 0)
set_option maxRecDepth 65536 in
set_option maxHeartbeats 40000000 in
theorem rm2_103 (l : Launch) (Z : State) (a0 : Array Value) (hw : ∀ d ∈ tables_1, d.before a0 Z = true) (ws : List Jvm.Cond) (o1 : Addr) (o2 : Addr) (i1 : Int32) (kc2 : ClassId) (i3 : Int32) (i4 : Int32) (i5 : Int32) (i6 : Int32) (h0 : Heap) (n0 : Nat) (Z0 : n0 ≤ h0.size) (S0 : Sta Z h0 "java/lang/String" "COMPACT_STRINGS" "Z" (.int i1)) (Pm1 : Exa Z h0 o1 "java/lang/String") (Pm2 : Fld Z h0 o1 "java/lang/String" "coder" "B" (.int 0)) (Pm3 : Fld Z h0 o1 "java/lang/String" "value" "[B" .null) (Pm4 : Arv Z h0 o2 kc2 .char (8 : Int32) [(.int i3), (.int i4), (.int 58), (.int 123), (.int i5), (.int 125), (.int 58), (.int i6)] (.int 0)) (gn_o1 : n0 ≤ o1) (ne_o1_o2 : o1 ≠ o2) (gn_o2 : n0 ≤ o2) (hy8 : ¬ ((255 : Int32) < i3)) (hy9 : ¬ ((255 : Int32) < i4)) (hy10 : ¬ ((255 : Int32) < i5)) (hy11 : ¬ ((255 : Int32) < i6)) (hy12 : ¬ (i1 = (0 : Int32)))  :
    OwnM l Z nM5 jdk_42_method_3_code 2 none ws ({ frames := 3, cells := 1, slots := 8, locals := 52 } : Room) #[(.ref o1), (.ref o2)] h0 (Q2_103 Z o1 o2 i1 kc2 i3 i4 i5 i6 h0 n0) := by
  refine own_body (plainFor_of_name pn_1) ?_
  intro p e s m below meth c s₁ G hx hby hml hZ hown hnm hret X0 e0 step fin
  replace hown : s.vm.findClass "java/lang/String" = some m.cls := hown
  have N0 := Fr.nil n0
  have KK : OwnK p e below c _ G := ⟨step, hx, hby⟩
  refine step (s₁.setTop (mkF m 0 #[vr o1, vr o2] [])) (fun t k => castTop (ef_2_2 m o1 o2) k) ?_
  refine oal KK X0 d2_0 (.ref o1) 1 rfl rfl rfl ?_
  refine oal KK X0 d2_1 (.ref o2) 2 rfl rfl rfl ?_
  refine oic KK X0 d2_2 0 3 rfl rfl ?_
  refine oal KK X0 d2_3 (.ref o2) 4 rfl rfl rfl ?_
  obtain ⟨cl1, Ar1, q1, S1, N1n, H1, G1⟩ := id Pm4
  refine step (s₁.setTop (mkF m 5 #[vr o1, vr o2] [(.int 8), (.int 0), (.ref o2), (.ref o1)])) (fun t k => X0.arraylength hx (by rw [e0]; exact Ar1.1) (State.isArrayOf_alike hZ.alike Ar1.2.1) (g := (mkF m 4 #[vr o1, vr o2] [(.ref o2), (.int 0), (.ref o2), (.ref o1)])) rfl rfl (hb hby d2_4) t (by rw [len_of S1 N1n]; exact k)) ?_
  refine step (s₁.setTop (mkF m 6 #[vr o1, vr o2] [.null, (.int 8), (.int 0), (.ref o2), (.ref o1)])) (fun t k => XS.aconstNull X0.here hx rfl (hb hby d2_5) k) ?_
  obtain ⟨_, _, ⟨T2, L2, k2, n2⟩, -, X2, ⟨Lc2, hQ2, l2, y2, z2⟩, st2⟩ := X0.specialBack hx (y := nM4) rfl hown (mvT hZ (ow hw 11 rfl)) (mvT hZ (ow hw 12 rfl)) (mvT hZ (ow hw 14 rfl)) (by decide) (backOf (W := 0) (rm3_104 l Z a0 hw [] o1 o2 i1 kc2 i3 i4 i5 i6 h0 n0 Z0 S0 Pm1 Pm2 Pm3 Pm4 gn_o1 ne_o1_o2 gn_o2 hy8 hy9 hy10 hy11 hy12) hZ (ow hw 14 rfl) (ow hw 6 rfl) (by decide) (by decide)) (g := (mkF m 6 #[vr o1, vr o2] [.null, (.int 8), (.int 0), (.ref o2), (.ref o1)])) rfl (by rw [hml]; rfl) (Steps.refl _) (a := o1) (argsL := [(.ref o2), (.int 0), (.int 8), .null]) (rest := []) (lenOf pd_6 rfl) rfl (omw rfl rfl) (hb hby d2_6) (fun _ _ => ⟨rfl, e0, (by decide : 0 + 1 ≤ _), (by decide : 0 + 8 ≤ _)⟩)
  dsimp only [Pt.U, Pt.locs, Pt.cells, Pt.slots] at X2 l2 y2 z2 st2 hQ2
  subst l2 y2 z2
  obtain ⟨h2, e2⟩ : ∃ z, T2.heap = z := ⟨_, rfl⟩
  rw [e2] at hQ2
  obtain ⟨b1_4_2, k1_4_2, rfl, N2q, K2q, sz_b1_4_2, q0_2, q1_2, q2_2⟩ := hQ2
  have N2 := Fr.app N0 N2q
  have lt2_o1 := Pm1.lt
  have lt2_o2 := Pm4.lt
  have ne_o1_b1_4_2 : o1 ≠ b1_4_2 := Nat.ne_of_lt (Nat.lt_of_lt_of_le lt2_o1 sz_b1_4_2)
  have ne_o2_b1_4_2 : o2 ≠ b1_4_2 := Nat.ne_of_lt (Nat.lt_of_lt_of_le lt2_o2 sz_b1_4_2)
  have gn_b1_4_2 : n0 ≤ b1_4_2 := Nat.le_trans Z0 sz_b1_4_2
  have K2 : Keep h0 h2 [o1] := (Keep.refl h0 [o1]).trans K2q (allS (Or.inl (List.mem_of_getElem? (i := 0) rfl)) all0)
  have f3 := own_staK S0 K2q (allS (own_exaP Pm1) all0)
  refine step (T2.setTop (mkF m 9 #[vr o1, vr o2] [])) (fun t k => st2.trans k) ?_
  refine fin (v := none) X2 (fun _ => rfl) ?_ (by decide) (by decide) (fun fs hr => X2.returnOut hx hret (hb hby d2_9) hr)
  show Q2_103 Z o1 o2 i1 kc2 i3 i4 i5 i6 h0 n0 (none) T2.heap _
  rw [e2]
  exact ⟨b1_4_2, k1_4_2, rfl, N2, K2, sz_b1_4_2, q0_2, q1_2, q2_2⟩
def Q47_109 (Z : State) (o1 : Addr) (o2 : Addr) (kc1 : ClassId) (i2 : Int32) (i3 : Int32) (i4 : Int32) (i5 : Int32) (kc6 : ClassId) (h0 : Heap) (n0 : Nat) (v : Option Value) (h : Heap) (L : List Loc) : Prop := v = some (.int 1) ∧ Fr n0 L ∧ h = h0
set_option maxRecDepth 65536 in
set_option maxHeartbeats 40000000 in
theorem rm47_109 (l : Launch) (Z : State) (a0 : Array Value) (hw : ∀ d ∈ tables_1, d.before a0 Z = true) (ws : List Jvm.Cond) (o1 : Addr) (o2 : Addr) (kc1 : ClassId) (i2 : Int32) (i3 : Int32) (i4 : Int32) (i5 : Int32) (kc6 : ClassId) (h0 : Heap) (n0 : Nat) (Z0 : n0 ≤ h0.size) (Pm0 : Arv Z h0 o1 kc1 .byte (8 : Int32) [(.int i2), (.int i3), (.int 58), (.int 123), (.int i4), (.int 125), (.int 58), (.int i5)] (.int 0)) (Pm1 : Arv Z h0 o2 kc6 .byte (8 : Int32) [(.int i2), (.int i3), (.int 58), (.int 123), (.int i4), (.int 125), (.int 58), (.int i5)] (.int 0)) (gn_o1 : n0 ≤ o1) (ne_o1_o2 : o1 ≠ o2) (gn_o2 : n0 ≤ o2) (hy5 : ¬ (i2 = (123 : Int32))) (hy6 : ¬ (i2 = (125 : Int32))) (hy7 : ¬ (i3 = (123 : Int32))) (hy8 : ¬ (i3 = (125 : Int32))) (hy9 : ¬ (i4 = (123 : Int32))) (hy10 : ¬ (i4 = (125 : Int32))) (hy11 : ¬ (i5 = (123 : Int32))) (hy12 : ¬ (i5 = (125 : Int32)))  :
    OwnM l Z nM44 jdk_43_method_13_code 3 (some .boolean) ws ({ frames := 0, cells := 0, slots := 0, locals := 0 } : Room) #[(.ref o1), (.ref o2)] h0 (Q47_109 Z o1 o2 kc1 i2 i3 i4 i5 kc6 h0 n0) := by
  refine own_body (plainFor_of_name pn_3) ?_
  intro p e s m below meth c s₁ G hx hby hml hZ hown hnm hret X0 e0 step fin
  replace hown : s.vm.findClass "java/lang/StringLatin1" = some m.cls := hown
  have N0 := Fr.nil n0
  have KK : OwnK p e below c _ G := ⟨step, hx, hby⟩
  refine step (s₁.setTop (mkF m 0 #[vr o1, vr o2, .unset] [])) (fun t k => castTop (ef_31_35 m o1 o2) k) ?_
  refine oal KK X0 d47_0 (.ref o1) 1 rfl rfl rfl ?_
  obtain ⟨cl1, Ar1, q1, S1, N1n, H1, G1⟩ := id Pm0
  refine step (s₁.setTop (mkF m 2 #[vr o1, vr o2, .unset] [(.int 8)])) (fun t k => X0.arraylength hx (by rw [e0]; exact Ar1.1) (State.isArrayOf_alike hZ.alike Ar1.2.1) (g := (mkF m 1 #[vr o1, vr o2, .unset] [(.ref o1)])) rfl rfl (hb hby d47_1) t (by rw [len_of S1 N1n]; exact k)) ?_
  refine oal KK X0 d47_2 (.ref o2) 3 rfl rfl rfl ?_
  obtain ⟨cl2, Ar2, q2, S2, N2n, H2, G2⟩ := id Pm1
  refine step (s₁.setTop (mkF m 4 #[vr o1, vr o2, .unset] [(.int 8), (.int 8)])) (fun t k => X0.arraylength hx (by rw [e0]; exact Ar2.1) (State.isArrayOf_alike hZ.alike Ar2.2.1) (g := (mkF m 3 #[vr o1, vr o2, .unset] [(.ref o2), (.int 8)])) rfl rfl (hb hby d47_3) t (by rw [len_of S2 N2n]; exact k)) ?_
  refine oin KK X0 d47_4 7 rfl (teq (by decide : (8 : Int32) = (8 : Int32))).2 ?_
  refine oic KK X0 d47_7 0 8 rfl rfl ?_
  refine ois KK X0 d47_8 #[vr o1, vr o2, vi 0] 9 rfl rfl ?_
  refine oil KK X0 d47_9 (0 : Int32) 10 rfl rfl ?_
  refine oal KK X0 d47_10 (.ref o1) 11 rfl rfl rfl ?_
  obtain ⟨cl3, Ar3, q3, S3, N3n, H3, G3⟩ := id Pm0
  refine step (s₁.setTop (mkF m 12 #[vr o1, vr o2, vi 0] [(.int 8), (.int 0)])) (fun t k => X0.arraylength hx (by rw [e0]; exact Ar3.1) (State.isArrayOf_alike hZ.alike Ar3.2.1) (g := (mkF m 11 #[vr o1, vr o2, vi 0] [(.ref o1), (.int 0)])) rfl rfl (hb hby d47_11) t (by rw [len_of S3 N3n]; exact k)) ?_
  refine oin KK X0 d47_12 15 rfl (tlt (by decide : (0 : Int32) < (8 : Int32))).2.1 ?_
  refine oal KK X0 d47_15 (.ref o1) 16 rfl rfl rfl ?_
  refine oil KK X0 d47_16 (0 : Int32) 17 rfl rfl ?_
  obtain ⟨cl4, Ar4, q4, S4, N4n, H4, G4⟩ := id Pm0
  have hin4 : ¬ ((0 : Int32) < 0 ∨ cl4.slots.size ≤ ((0 : Int32)).toNatClampNeg) := inb_of S4 ⟨by decide, by decide⟩
  have hat4 : cl4.slots[((0 : Int32)).toNatClampNeg]? = some (.int i2) := H4.at hin4 rfl
  refine step (s₁.setTop (mkF m 18 #[vr o1, vr o2, vi 0] [(.int i2)])) (fun t k => X0.baloadBytes hx (j := (0 : Int32)) (v := (.int i2)) (by rw [e0]; exact Ar4.1) (State.isArrayOf_alike hZ.alike Ar4.2.1) Ar4.2.2 hin4 hat4 (g := (mkF m 17 #[vr o1, vr o2, vi 0] [(.int 0), (.ref o1)])) rfl rfl (hb hby d47_17) t k) ?_
  refine oal KK X0 d47_18 (.ref o2) 19 rfl rfl rfl ?_
  refine oil KK X0 d47_19 (0 : Int32) 20 rfl rfl ?_
  obtain ⟨cl5, Ar5, q5, S5, N5n, H5, G5⟩ := id Pm1
  have hin5 : ¬ ((0 : Int32) < 0 ∨ cl5.slots.size ≤ ((0 : Int32)).toNatClampNeg) := inb_of S5 ⟨by decide, by decide⟩
  have hat5 : cl5.slots[((0 : Int32)).toNatClampNeg]? = some (.int i2) := H5.at hin5 rfl
  refine step (s₁.setTop (mkF m 21 #[vr o1, vr o2, vi 0] [(.int i2), (.int i2)])) (fun t k => X0.baloadBytes hx (j := (0 : Int32)) (v := (.int i2)) (by rw [e0]; exact Ar5.1) (State.isArrayOf_alike hZ.alike Ar5.2.1) Ar5.2.2 hin5 hat5 (g := (mkF m 20 #[vr o1, vr o2, vi 0] [(.int 0), (.ref o2), (.int i2)])) rfl rfl (hb hby d47_20) t k) ?_
  refine oiy KK X0 d47_21 26 (teq (rfl : i2 = i2)).1 (by decide) rfl ?_
  refine oii KK X0 d47_26 #[vr o1, vr o2, vi 1] 29 rfl rfl rfl ?_
  refine ogo KK X0 d47_29 9 (by decide) rfl ?_
  refine oil KK X0 d47_9 (1 : Int32) 10 rfl rfl ?_
  refine oal KK X0 d47_10 (.ref o1) 11 rfl rfl rfl ?_
  obtain ⟨cl6, Ar6, q6, S6, N6n, H6, G6⟩ := id Pm0
  refine step (s₁.setTop (mkF m 12 #[vr o1, vr o2, vi 1] [(.int 8), (.int 1)])) (fun t k => X0.arraylength hx (by rw [e0]; exact Ar6.1) (State.isArrayOf_alike hZ.alike Ar6.2.1) (g := (mkF m 11 #[vr o1, vr o2, vi 1] [(.ref o1), (.int 1)])) rfl rfl (hb hby d47_11) t (by rw [len_of S6 N6n]; exact k)) ?_
  refine oin KK X0 d47_12 15 rfl (tlt (by decide : (1 : Int32) < (8 : Int32))).2.1 ?_
  refine oal KK X0 d47_15 (.ref o1) 16 rfl rfl rfl ?_
  refine oil KK X0 d47_16 (1 : Int32) 17 rfl rfl ?_
  obtain ⟨cl7, Ar7, q7, S7, N7n, H7, G7⟩ := id Pm0
  have hin7 : ¬ ((1 : Int32) < 0 ∨ cl7.slots.size ≤ ((1 : Int32)).toNatClampNeg) := inb_of S7 ⟨by decide, by decide⟩
  have hat7 : cl7.slots[((1 : Int32)).toNatClampNeg]? = some (.int i3) := H7.at hin7 rfl
  refine step (s₁.setTop (mkF m 18 #[vr o1, vr o2, vi 1] [(.int i3)])) (fun t k => X0.baloadBytes hx (j := (1 : Int32)) (v := (.int i3)) (by rw [e0]; exact Ar7.1) (State.isArrayOf_alike hZ.alike Ar7.2.1) Ar7.2.2 hin7 hat7 (g := (mkF m 17 #[vr o1, vr o2, vi 1] [(.int 1), (.ref o1)])) rfl rfl (hb hby d47_17) t k) ?_
  refine oal KK X0 d47_18 (.ref o2) 19 rfl rfl rfl ?_
  refine oil KK X0 d47_19 (1 : Int32) 20 rfl rfl ?_
  obtain ⟨cl8, Ar8, q8, S8, N8n, H8, G8⟩ := id Pm1
  have hin8 : ¬ ((1 : Int32) < 0 ∨ cl8.slots.size ≤ ((1 : Int32)).toNatClampNeg) := inb_of S8 ⟨by decide, by decide⟩
  have hat8 : cl8.slots[((1 : Int32)).toNatClampNeg]? = some (.int i3) := H8.at hin8 rfl
  refine step (s₁.setTop (mkF m 21 #[vr o1, vr o2, vi 1] [(.int i3), (.int i3)])) (fun t k => X0.baloadBytes hx (j := (1 : Int32)) (v := (.int i3)) (by rw [e0]; exact Ar8.1) (State.isArrayOf_alike hZ.alike Ar8.2.1) Ar8.2.2 hin8 hat8 (g := (mkF m 20 #[vr o1, vr o2, vi 1] [(.int 1), (.ref o2), (.int i3)])) rfl rfl (hb hby d47_20) t k) ?_
  refine oiy KK X0 d47_21 26 (teq (rfl : i3 = i3)).1 (by decide) rfl ?_
  refine oii KK X0 d47_26 #[vr o1, vr o2, vi 2] 29 rfl rfl rfl ?_
  refine ogo KK X0 d47_29 9 (by decide) rfl ?_
  refine oil KK X0 d47_9 (2 : Int32) 10 rfl rfl ?_
  refine oal KK X0 d47_10 (.ref o1) 11 rfl rfl rfl ?_
  obtain ⟨cl9, Ar9, q9, S9, N9n, H9, G9⟩ := id Pm0
  refine step (s₁.setTop (mkF m 12 #[vr o1, vr o2, vi 2] [(.int 8), (.int 2)])) (fun t k => X0.arraylength hx (by rw [e0]; exact Ar9.1) (State.isArrayOf_alike hZ.alike Ar9.2.1) (g := (mkF m 11 #[vr o1, vr o2, vi 2] [(.ref o1), (.int 2)])) rfl rfl (hb hby d47_11) t (by rw [len_of S9 N9n]; exact k)) ?_
  refine oin KK X0 d47_12 15 rfl (tlt (by decide : (2 : Int32) < (8 : Int32))).2.1 ?_
  refine oal KK X0 d47_15 (.ref o1) 16 rfl rfl rfl ?_
  refine oil KK X0 d47_16 (2 : Int32) 17 rfl rfl ?_
  obtain ⟨cl10, Ar10, q10, S10, N10n, H10, G10⟩ := id Pm0
  have hin10 : ¬ ((2 : Int32) < 0 ∨ cl10.slots.size ≤ ((2 : Int32)).toNatClampNeg) := inb_of S10 ⟨by decide, by decide⟩
  have hat10 : cl10.slots[((2 : Int32)).toNatClampNeg]? = some (.int 58) := H10.at hin10 rfl
  refine step (s₁.setTop (mkF m 18 #[vr o1, vr o2, vi 2] [(.int 58)])) (fun t k => X0.baloadBytes hx (j := (2 : Int32)) (v := (.int 58)) (by rw [e0]; exact Ar10.1) (State.isArrayOf_alike hZ.alike Ar10.2.1) Ar10.2.2 hin10 hat10 (g := (mkF m 17 #[vr o1, vr o2, vi 2] [(.int 2), (.ref o1)])) rfl rfl (hb hby d47_17) t k) ?_
  refine oal KK X0 d47_18 (.ref o2) 19 rfl rfl rfl ?_
  refine oil KK X0 d47_19 (2 : Int32) 20 rfl rfl ?_
  obtain ⟨cl11, Ar11, q11, S11, N11n, H11, G11⟩ := id Pm1
  have hin11 : ¬ ((2 : Int32) < 0 ∨ cl11.slots.size ≤ ((2 : Int32)).toNatClampNeg) := inb_of S11 ⟨by decide, by decide⟩
  have hat11 : cl11.slots[((2 : Int32)).toNatClampNeg]? = some (.int 58) := H11.at hin11 rfl
  refine step (s₁.setTop (mkF m 21 #[vr o1, vr o2, vi 2] [(.int 58), (.int 58)])) (fun t k => X0.baloadBytes hx (j := (2 : Int32)) (v := (.int 58)) (by rw [e0]; exact Ar11.1) (State.isArrayOf_alike hZ.alike Ar11.2.1) Ar11.2.2 hin11 hat11 (g := (mkF m 20 #[vr o1, vr o2, vi 2] [(.int 2), (.ref o2), (.int 58)])) rfl rfl (hb hby d47_20) t k) ?_
  refine oiy KK X0 d47_21 26 (teq (by decide : (58 : Int32) = (58 : Int32))).1 (by decide) rfl ?_
  refine oii KK X0 d47_26 #[vr o1, vr o2, vi 3] 29 rfl rfl rfl ?_
  refine ogo KK X0 d47_29 9 (by decide) rfl ?_
  refine oil KK X0 d47_9 (3 : Int32) 10 rfl rfl ?_
  refine oal KK X0 d47_10 (.ref o1) 11 rfl rfl rfl ?_
  obtain ⟨cl12, Ar12, q12, S12, N12n, H12, G12⟩ := id Pm0
  refine step (s₁.setTop (mkF m 12 #[vr o1, vr o2, vi 3] [(.int 8), (.int 3)])) (fun t k => X0.arraylength hx (by rw [e0]; exact Ar12.1) (State.isArrayOf_alike hZ.alike Ar12.2.1) (g := (mkF m 11 #[vr o1, vr o2, vi 3] [(.ref o1), (.int 3)])) rfl rfl (hb hby d47_11) t (by rw [len_of S12 N12n]; exact k)) ?_
  refine oin KK X0 d47_12 15 rfl (tlt (by decide : (3 : Int32) < (8 : Int32))).2.1 ?_
  refine oal KK X0 d47_15 (.ref o1) 16 rfl rfl rfl ?_
  refine oil KK X0 d47_16 (3 : Int32) 17 rfl rfl ?_
  obtain ⟨cl13, Ar13, q13, S13, N13n, H13, G13⟩ := id Pm0
  have hin13 : ¬ ((3 : Int32) < 0 ∨ cl13.slots.size ≤ ((3 : Int32)).toNatClampNeg) := inb_of S13 ⟨by decide, by decide⟩
  have hat13 : cl13.slots[((3 : Int32)).toNatClampNeg]? = some (.int 123) := H13.at hin13 rfl
  refine step (s₁.setTop (mkF m 18 #[vr o1, vr o2, vi 3] [(.int 123)])) (fun t k => X0.baloadBytes hx (j := (3 : Int32)) (v := (.int 123)) (by rw [e0]; exact Ar13.1) (State.isArrayOf_alike hZ.alike Ar13.2.1) Ar13.2.2 hin13 hat13 (g := (mkF m 17 #[vr o1, vr o2, vi 3] [(.int 3), (.ref o1)])) rfl rfl (hb hby d47_17) t k) ?_
  refine oal KK X0 d47_18 (.ref o2) 19 rfl rfl rfl ?_
  refine oil KK X0 d47_19 (3 : Int32) 20 rfl rfl ?_
  obtain ⟨cl14, Ar14, q14, S14, N14n, H14, G14⟩ := id Pm1
  have hin14 : ¬ ((3 : Int32) < 0 ∨ cl14.slots.size ≤ ((3 : Int32)).toNatClampNeg) := inb_of S14 ⟨by decide, by decide⟩
  have hat14 : cl14.slots[((3 : Int32)).toNatClampNeg]? = some (.int 123) := H14.at hin14 rfl
  refine step (s₁.setTop (mkF m 21 #[vr o1, vr o2, vi 3] [(.int 123), (.int 123)])) (fun t k => X0.baloadBytes hx (j := (3 : Int32)) (v := (.int 123)) (by rw [e0]; exact Ar14.1) (State.isArrayOf_alike hZ.alike Ar14.2.1) Ar14.2.2 hin14 hat14 (g := (mkF m 20 #[vr o1, vr o2, vi 3] [(.int 3), (.ref o2), (.int 123)])) rfl rfl (hb hby d47_20) t k) ?_
  refine oiy KK X0 d47_21 26 (teq (by decide : (123 : Int32) = (123 : Int32))).1 (by decide) rfl ?_
  refine oii KK X0 d47_26 #[vr o1, vr o2, vi 4] 29 rfl rfl rfl ?_
  refine ogo KK X0 d47_29 9 (by decide) rfl ?_
  refine oil KK X0 d47_9 (4 : Int32) 10 rfl rfl ?_
  refine oal KK X0 d47_10 (.ref o1) 11 rfl rfl rfl ?_
  obtain ⟨cl15, Ar15, q15, S15, N15n, H15, G15⟩ := id Pm0
  refine step (s₁.setTop (mkF m 12 #[vr o1, vr o2, vi 4] [(.int 8), (.int 4)])) (fun t k => X0.arraylength hx (by rw [e0]; exact Ar15.1) (State.isArrayOf_alike hZ.alike Ar15.2.1) (g := (mkF m 11 #[vr o1, vr o2, vi 4] [(.ref o1), (.int 4)])) rfl rfl (hb hby d47_11) t (by rw [len_of S15 N15n]; exact k)) ?_
  refine oin KK X0 d47_12 15 rfl (tlt (by decide : (4 : Int32) < (8 : Int32))).2.1 ?_
  refine oal KK X0 d47_15 (.ref o1) 16 rfl rfl rfl ?_
  refine oil KK X0 d47_16 (4 : Int32) 17 rfl rfl ?_
  obtain ⟨cl16, Ar16, q16, S16, N16n, H16, G16⟩ := id Pm0
  have hin16 : ¬ ((4 : Int32) < 0 ∨ cl16.slots.size ≤ ((4 : Int32)).toNatClampNeg) := inb_of S16 ⟨by decide, by decide⟩
  have hat16 : cl16.slots[((4 : Int32)).toNatClampNeg]? = some (.int i4) := H16.at hin16 rfl
  refine step (s₁.setTop (mkF m 18 #[vr o1, vr o2, vi 4] [(.int i4)])) (fun t k => X0.baloadBytes hx (j := (4 : Int32)) (v := (.int i4)) (by rw [e0]; exact Ar16.1) (State.isArrayOf_alike hZ.alike Ar16.2.1) Ar16.2.2 hin16 hat16 (g := (mkF m 17 #[vr o1, vr o2, vi 4] [(.int 4), (.ref o1)])) rfl rfl (hb hby d47_17) t k) ?_
  refine oal KK X0 d47_18 (.ref o2) 19 rfl rfl rfl ?_
  refine oil KK X0 d47_19 (4 : Int32) 20 rfl rfl ?_
  obtain ⟨cl17, Ar17, q17, S17, N17n, H17, G17⟩ := id Pm1
  have hin17 : ¬ ((4 : Int32) < 0 ∨ cl17.slots.size ≤ ((4 : Int32)).toNatClampNeg) := inb_of S17 ⟨by decide, by decide⟩
  have hat17 : cl17.slots[((4 : Int32)).toNatClampNeg]? = some (.int i4) := H17.at hin17 rfl
  refine step (s₁.setTop (mkF m 21 #[vr o1, vr o2, vi 4] [(.int i4), (.int i4)])) (fun t k => X0.baloadBytes hx (j := (4 : Int32)) (v := (.int i4)) (by rw [e0]; exact Ar17.1) (State.isArrayOf_alike hZ.alike Ar17.2.1) Ar17.2.2 hin17 hat17 (g := (mkF m 20 #[vr o1, vr o2, vi 4] [(.int 4), (.ref o2), (.int i4)])) rfl rfl (hb hby d47_20) t k) ?_
  refine oiy KK X0 d47_21 26 (teq (rfl : i4 = i4)).1 (by decide) rfl ?_
  refine oii KK X0 d47_26 #[vr o1, vr o2, vi 5] 29 rfl rfl rfl ?_
  refine ogo KK X0 d47_29 9 (by decide) rfl ?_
  refine oil KK X0 d47_9 (5 : Int32) 10 rfl rfl ?_
  refine oal KK X0 d47_10 (.ref o1) 11 rfl rfl rfl ?_
  obtain ⟨cl18, Ar18, q18, S18, N18n, H18, G18⟩ := id Pm0
  refine step (s₁.setTop (mkF m 12 #[vr o1, vr o2, vi 5] [(.int 8), (.int 5)])) (fun t k => X0.arraylength hx (by rw [e0]; exact Ar18.1) (State.isArrayOf_alike hZ.alike Ar18.2.1) (g := (mkF m 11 #[vr o1, vr o2, vi 5] [(.ref o1), (.int 5)])) rfl rfl (hb hby d47_11) t (by rw [len_of S18 N18n]; exact k)) ?_
  refine oin KK X0 d47_12 15 rfl (tlt (by decide : (5 : Int32) < (8 : Int32))).2.1 ?_
  refine oal KK X0 d47_15 (.ref o1) 16 rfl rfl rfl ?_
  refine oil KK X0 d47_16 (5 : Int32) 17 rfl rfl ?_
  obtain ⟨cl19, Ar19, q19, S19, N19n, H19, G19⟩ := id Pm0
  have hin19 : ¬ ((5 : Int32) < 0 ∨ cl19.slots.size ≤ ((5 : Int32)).toNatClampNeg) := inb_of S19 ⟨by decide, by decide⟩
  have hat19 : cl19.slots[((5 : Int32)).toNatClampNeg]? = some (.int 125) := H19.at hin19 rfl
  refine step (s₁.setTop (mkF m 18 #[vr o1, vr o2, vi 5] [(.int 125)])) (fun t k => X0.baloadBytes hx (j := (5 : Int32)) (v := (.int 125)) (by rw [e0]; exact Ar19.1) (State.isArrayOf_alike hZ.alike Ar19.2.1) Ar19.2.2 hin19 hat19 (g := (mkF m 17 #[vr o1, vr o2, vi 5] [(.int 5), (.ref o1)])) rfl rfl (hb hby d47_17) t k) ?_
  refine oal KK X0 d47_18 (.ref o2) 19 rfl rfl rfl ?_
  refine oil KK X0 d47_19 (5 : Int32) 20 rfl rfl ?_
  obtain ⟨cl20, Ar20, q20, S20, N20n, H20, G20⟩ := id Pm1
  have hin20 : ¬ ((5 : Int32) < 0 ∨ cl20.slots.size ≤ ((5 : Int32)).toNatClampNeg) := inb_of S20 ⟨by decide, by decide⟩
  have hat20 : cl20.slots[((5 : Int32)).toNatClampNeg]? = some (.int 125) := H20.at hin20 rfl
  refine step (s₁.setTop (mkF m 21 #[vr o1, vr o2, vi 5] [(.int 125), (.int 125)])) (fun t k => X0.baloadBytes hx (j := (5 : Int32)) (v := (.int 125)) (by rw [e0]; exact Ar20.1) (State.isArrayOf_alike hZ.alike Ar20.2.1) Ar20.2.2 hin20 hat20 (g := (mkF m 20 #[vr o1, vr o2, vi 5] [(.int 5), (.ref o2), (.int 125)])) rfl rfl (hb hby d47_20) t k) ?_
  refine oiy KK X0 d47_21 26 (teq (by decide : (125 : Int32) = (125 : Int32))).1 (by decide) rfl ?_
  refine oii KK X0 d47_26 #[vr o1, vr o2, vi 6] 29 rfl rfl rfl ?_
  refine ogo KK X0 d47_29 9 (by decide) rfl ?_
  refine oil KK X0 d47_9 (6 : Int32) 10 rfl rfl ?_
  refine oal KK X0 d47_10 (.ref o1) 11 rfl rfl rfl ?_
  obtain ⟨cl21, Ar21, q21, S21, N21n, H21, G21⟩ := id Pm0
  refine step (s₁.setTop (mkF m 12 #[vr o1, vr o2, vi 6] [(.int 8), (.int 6)])) (fun t k => X0.arraylength hx (by rw [e0]; exact Ar21.1) (State.isArrayOf_alike hZ.alike Ar21.2.1) (g := (mkF m 11 #[vr o1, vr o2, vi 6] [(.ref o1), (.int 6)])) rfl rfl (hb hby d47_11) t (by rw [len_of S21 N21n]; exact k)) ?_
  refine oin KK X0 d47_12 15 rfl (tlt (by decide : (6 : Int32) < (8 : Int32))).2.1 ?_
  refine oal KK X0 d47_15 (.ref o1) 16 rfl rfl rfl ?_
  refine oil KK X0 d47_16 (6 : Int32) 17 rfl rfl ?_
  obtain ⟨cl22, Ar22, q22, S22, N22n, H22, G22⟩ := id Pm0
  have hin22 : ¬ ((6 : Int32) < 0 ∨ cl22.slots.size ≤ ((6 : Int32)).toNatClampNeg) := inb_of S22 ⟨by decide, by decide⟩
  have hat22 : cl22.slots[((6 : Int32)).toNatClampNeg]? = some (.int 58) := H22.at hin22 rfl
  refine step (s₁.setTop (mkF m 18 #[vr o1, vr o2, vi 6] [(.int 58)])) (fun t k => X0.baloadBytes hx (j := (6 : Int32)) (v := (.int 58)) (by rw [e0]; exact Ar22.1) (State.isArrayOf_alike hZ.alike Ar22.2.1) Ar22.2.2 hin22 hat22 (g := (mkF m 17 #[vr o1, vr o2, vi 6] [(.int 6), (.ref o1)])) rfl rfl (hb hby d47_17) t k) ?_
  refine oal KK X0 d47_18 (.ref o2) 19 rfl rfl rfl ?_
  refine oil KK X0 d47_19 (6 : Int32) 20 rfl rfl ?_
  obtain ⟨cl23, Ar23, q23, S23, N23n, H23, G23⟩ := id Pm1
  have hin23 : ¬ ((6 : Int32) < 0 ∨ cl23.slots.size ≤ ((6 : Int32)).toNatClampNeg) := inb_of S23 ⟨by decide, by decide⟩
  have hat23 : cl23.slots[((6 : Int32)).toNatClampNeg]? = some (.int 58) := H23.at hin23 rfl
  refine step (s₁.setTop (mkF m 21 #[vr o1, vr o2, vi 6] [(.int 58), (.int 58)])) (fun t k => X0.baloadBytes hx (j := (6 : Int32)) (v := (.int 58)) (by rw [e0]; exact Ar23.1) (State.isArrayOf_alike hZ.alike Ar23.2.1) Ar23.2.2 hin23 hat23 (g := (mkF m 20 #[vr o1, vr o2, vi 6] [(.int 6), (.ref o2), (.int 58)])) rfl rfl (hb hby d47_20) t k) ?_
  refine oiy KK X0 d47_21 26 (teq (by decide : (58 : Int32) = (58 : Int32))).1 (by decide) rfl ?_
  refine oii KK X0 d47_26 #[vr o1, vr o2, vi 7] 29 rfl rfl rfl ?_
  refine ogo KK X0 d47_29 9 (by decide) rfl ?_
  refine oil KK X0 d47_9 (7 : Int32) 10 rfl rfl ?_
  refine oal KK X0 d47_10 (.ref o1) 11 rfl rfl rfl ?_
  obtain ⟨cl24, Ar24, q24, S24, N24n, H24, G24⟩ := id Pm0
  refine step (s₁.setTop (mkF m 12 #[vr o1, vr o2, vi 7] [(.int 8), (.int 7)])) (fun t k => X0.arraylength hx (by rw [e0]; exact Ar24.1) (State.isArrayOf_alike hZ.alike Ar24.2.1) (g := (mkF m 11 #[vr o1, vr o2, vi 7] [(.ref o1), (.int 7)])) rfl rfl (hb hby d47_11) t (by rw [len_of S24 N24n]; exact k)) ?_
  refine oin KK X0 d47_12 15 rfl (tlt (by decide : (7 : Int32) < (8 : Int32))).2.1 ?_
  refine oal KK X0 d47_15 (.ref o1) 16 rfl rfl rfl ?_
  refine oil KK X0 d47_16 (7 : Int32) 17 rfl rfl ?_
  obtain ⟨cl25, Ar25, q25, S25, N25n, H25, G25⟩ := id Pm0
  have hin25 : ¬ ((7 : Int32) < 0 ∨ cl25.slots.size ≤ ((7 : Int32)).toNatClampNeg) := inb_of S25 ⟨by decide, by decide⟩
  have hat25 : cl25.slots[((7 : Int32)).toNatClampNeg]? = some (.int i5) := H25.at hin25 rfl
  refine step (s₁.setTop (mkF m 18 #[vr o1, vr o2, vi 7] [(.int i5)])) (fun t k => X0.baloadBytes hx (j := (7 : Int32)) (v := (.int i5)) (by rw [e0]; exact Ar25.1) (State.isArrayOf_alike hZ.alike Ar25.2.1) Ar25.2.2 hin25 hat25 (g := (mkF m 17 #[vr o1, vr o2, vi 7] [(.int 7), (.ref o1)])) rfl rfl (hb hby d47_17) t k) ?_
  refine oal KK X0 d47_18 (.ref o2) 19 rfl rfl rfl ?_
  refine oil KK X0 d47_19 (7 : Int32) 20 rfl rfl ?_
  obtain ⟨cl26, Ar26, q26, S26, N26n, H26, G26⟩ := id Pm1
  have hin26 : ¬ ((7 : Int32) < 0 ∨ cl26.slots.size ≤ ((7 : Int32)).toNatClampNeg) := inb_of S26 ⟨by decide, by decide⟩
  have hat26 : cl26.slots[((7 : Int32)).toNatClampNeg]? = some (.int i5) := H26.at hin26 rfl
  refine step (s₁.setTop (mkF m 21 #[vr o1, vr o2, vi 7] [(.int i5), (.int i5)])) (fun t k => X0.baloadBytes hx (j := (7 : Int32)) (v := (.int i5)) (by rw [e0]; exact Ar26.1) (State.isArrayOf_alike hZ.alike Ar26.2.1) Ar26.2.2 hin26 hat26 (g := (mkF m 20 #[vr o1, vr o2, vi 7] [(.int 7), (.ref o2), (.int i5)])) rfl rfl (hb hby d47_20) t k) ?_
  refine oiy KK X0 d47_21 26 (teq (rfl : i5 = i5)).1 (by decide) rfl ?_
  refine oii KK X0 d47_26 #[vr o1, vr o2, vi 8] 29 rfl rfl rfl ?_
  refine ogo KK X0 d47_29 9 (by decide) rfl ?_
  refine oil KK X0 d47_9 (8 : Int32) 10 rfl rfl ?_
  refine oal KK X0 d47_10 (.ref o1) 11 rfl rfl rfl ?_
  obtain ⟨cl27, Ar27, q27, S27, N27n, H27, G27⟩ := id Pm0
  refine step (s₁.setTop (mkF m 12 #[vr o1, vr o2, vi 8] [(.int 8), (.int 8)])) (fun t k => X0.arraylength hx (by rw [e0]; exact Ar27.1) (State.isArrayOf_alike hZ.alike Ar27.2.1) (g := (mkF m 11 #[vr o1, vr o2, vi 8] [(.ref o1), (.int 8)])) rfl rfl (hb hby d47_11) t (by rw [len_of S27 N27n]; exact k)) ?_
  refine oiy KK X0 d47_12 32 (flt (by decide : ¬ ((8 : Int32) < (8 : Int32)))).2.1 (by decide) rfl ?_
  refine oic KK X0 d47_32 1 33 rfl rfl ?_
  refine fin (v := some (.int (nar .boolean (1 : Int32)))) X0 (fun h => by cases h) ?_ (by decide) (by decide) (fun fs hr => retN X0 hx (t := .boolean) hret (by simp) (hb hby d47_33) hr)
  show Q47_109 Z o1 o2 kc1 i2 i3 i4 i5 kc6 h0 n0 (some (.int (nar .boolean (1 : Int32)))) s₁.heap _
  rw [e0]
  exact ⟨rfl, N0, rfl⟩
def Q46_108 (Z : State) (o1 : Addr) (o2 : Addr) (i1 : Int32) (o3 : Addr) (o4 : Addr) (kc2 : ClassId) (i3 : Int32) (i4 : Int32) (i5 : Int32) (i6 : Int32) (kc7 : ClassId) (h0 : Heap) (n0 : Nat) (v : Option Value) (h : Heap) (L : List Loc) : Prop := v = some (.int 1) ∧ Fr n0 L ∧ h = h0
set_option maxRecDepth 65536 in
set_option maxHeartbeats 40000000 in
theorem rm46_108 (l : Launch) (Z : State) (a0 : Array Value) (hw : ∀ d ∈ tables_1, d.before a0 Z = true) (ws : List Jvm.Cond) (o1 : Addr) (o2 : Addr) (i1 : Int32) (o3 : Addr) (o4 : Addr) (kc2 : ClassId) (i3 : Int32) (i4 : Int32) (i5 : Int32) (i6 : Int32) (kc7 : ClassId) (h0 : Heap) (n0 : Nat) (Z0 : n0 ≤ h0.size) (S0 : Sta Z h0 "java/lang/String" "COMPACT_STRINGS" "Z" (.int i1)) (Pm1 : Exa Z h0 o1 "java/lang/String") (Pm2 : Fld Z h0 o1 "java/lang/String" "coder" "B" (.int 0)) (Pm3 : Fld Z h0 o1 "java/lang/String" "value" "[B" (.ref o3)) (Pm4 : Exa Z h0 o2 "java/lang/String") (Pm5 : Fld Z h0 o2 "java/lang/String" "coder" "B" (.int 0)) (Pm6 : Fld Z h0 o2 "java/lang/String" "value" "[B" (.ref o4)) (Pm7 : Arv Z h0 o3 kc2 .byte (8 : Int32) [(.int i3), (.int i4), (.int 58), (.int 123), (.int i5), (.int 125), (.int 58), (.int i6)] (.int 0)) (Pm8 : Arv Z h0 o4 kc7 .byte (8 : Int32) [(.int i3), (.int i4), (.int 58), (.int 123), (.int i5), (.int 125), (.int 58), (.int i6)] (.int 0)) (gn_o1 : n0 ≤ o1) (ne_o1_o2 : o1 ≠ o2) (ne_o1_o3 : o1 ≠ o3) (ne_o1_o4 : o1 ≠ o4) (gn_o2 : n0 ≤ o2) (ne_o2_o3 : o2 ≠ o3) (ne_o2_o4 : o2 ≠ o4) (gn_o3 : n0 ≤ o3) (ne_o3_o4 : o3 ≠ o4) (gn_o4 : n0 ≤ o4) (hy19 : ¬ (i1 = (0 : Int32))) (hy20 : ¬ (i3 = (123 : Int32))) (hy21 : ¬ (i3 = (125 : Int32))) (hy22 : ¬ (i4 = (123 : Int32))) (hy23 : ¬ (i4 = (125 : Int32))) (hy24 : ¬ (i5 = (123 : Int32))) (hy25 : ¬ (i5 = (125 : Int32))) (hy26 : ¬ (i6 = (123 : Int32))) (hy27 : ¬ (i6 = (125 : Int32)))  :
    OwnM l Z nM45 jdk_42_method_66_code 3 (some .boolean) ws ({ frames := 1, cells := 0, slots := 0, locals := 14 } : Room) #[(.ref o1), (.ref o2)] h0 (Q46_108 Z o1 o2 i1 o3 o4 kc2 i3 i4 i5 i6 kc7 h0 n0) := by
  refine own_body (plainFor_of_name pn_1) ?_
  intro p e s m below meth c s₁ G hx hby hml hZ hown hnm hret X0 e0 step fin
  replace hown : s.vm.findClass "java/lang/String" = some m.cls := hown
  have N0 := Fr.nil n0
  have KK : OwnK p e below c _ G := ⟨step, hx, hby⟩
  refine step (s₁.setTop (mkF m 0 #[vr o1, vr o2, .unset] [])) (fun t k => castTop (ef_31_35 m o1 o2) k) ?_
  refine oal KK X0 d46_0 (.ref o1) 1 rfl rfl rfl ?_
  refine oal KK X0 d46_1 (.ref o2) 2 rfl rfl rfl ?_
  have hc2_1 : ¬ (o1 = o2) := ne_o1_o2
  refine step (s₁.setTop (mkF m 7 #[vr o1, vr o2, .unset] [])) (fun t k => Jvm.RoadKit.acmp (g := (mkF m 2 #[vr o1, vr o2, .unset] [(.ref o2), (.ref o1)])) X0 hx rfl rfl rfl (pc0 := 2) (pc' := 7) (same := false) rfl (hb hby d46_2) rfl (decide_eq_false fun q => hc2_1 (Value.ref.inj q)) (by decide) (by decide) k) ?_
  refine oal KK X0 d46_7 (.ref o2) 8 rfl rfl rfl ?_
  obtain ⟨T2, X2, e2, st2⟩ := instY X0 hx hZ hown (ow hw 41 rfl) e0 (Ins.self Pm4) (g := (mkF m 8 #[vr o1, vr o2, .unset] [(.ref o2)])) rfl rfl (hb hby d46_8)
  refine step (T2.setTop (mkF m 11 #[vr o1, vr o2, .unset] [(.int 1)])) (fun t k => st2 t k) ?_
  refine step (T2.setTop (mkF m 14 #[vr o1, vr o2, .unset] [])) (fun t k => XS.ifNo X2.here hx rfl (hb hby d46_11) rfl ((if0 _ _).trans (feq (by decide : ¬ ((1 : Int32) = (0 : Int32)))).1) k) ?_
  refine oal KK X2 d46_14 (.ref o2) 15 rfl rfl rfl ?_
  obtain ⟨T3, X3, e3, st3⟩ := castY X2 hx hZ hown (ow hw 41 rfl) e2 (Ins.self Pm4) (g := (mkF m 15 #[vr o1, vr o2, .unset] [(.ref o2)])) rfl rfl (hb hby d46_15)
  refine step (T3.setTop (mkF m 18 #[vr o1, vr o2, .unset] [(.ref o2)])) (fun t k => st3 t k) ?_
  refine step (T3.setTop (mkF m 19 #[vr o1, vr o2, vr o2] [])) (fun t k => XS.astoreN X3.here hx rfl (hb hby d46_18) rfl rfl (l' := #[vr o1, vr o2, vr o2]) rfl k) ?_
  obtain ⟨T4, X4, e4, st4⟩ := getS2 X3 hx hZ hown (host := "") (Or.inl (ow hw 18 rfl)) Via.refl e3 S0 (g := (mkF m 19 #[vr o1, vr o2, vr o2] [])) rfl (hb hby d46_19)
  refine step (T4.setTop (mkF m 22 #[vr o1, vr o2, vr o2] [(.int i1)])) (fun t k => st4 t k) ?_
  have hc22_5 : ¬ (i1 = (0 : Int32)) := hy19
  refine step (T4.setTop (mkF m 25 #[vr o1, vr o2, vr o2] [])) (fun t k => XS.ifNo X4.here hx rfl (hb hby d46_22) rfl ((if0 _ _).trans (feq hc22_5).1) k) ?_
  refine oal KK X4 d46_25 (.ref o1) 26 rfl rfl rfl ?_
  obtain ⟨T6, X6, e6, st6⟩ := getF X4 hx hZ hown (host := "") (Or.inl (ow hw 30 rfl)) Via.refl e4 Pm2 (g := (mkF m 26 #[vr o1, vr o2, vr o2] [(.ref o1)])) rfl rfl (hb hby d46_26)
  refine step (T6.setTop (mkF m 29 #[vr o1, vr o2, vr o2] [(.int 0)])) (fun t k => st6 t k) ?_
  refine oal KK X6 d46_29 (.ref o2) 30 rfl rfl rfl ?_
  obtain ⟨T7, X7, e7, st7⟩ := getF X6 hx hZ hown (host := "") (Or.inl (ow hw 30 rfl)) Via.refl e6 Pm5 (g := (mkF m 30 #[vr o1, vr o2, vr o2] [(.ref o2), (.int 0)])) rfl rfl (hb hby d46_30)
  refine step (T7.setTop (mkF m 33 #[vr o1, vr o2, vr o2] [(.int 0), (.int 0)])) (fun t k => st7 t k) ?_
  refine oin KK X7 d46_33 36 rfl (teq (by decide : (0 : Int32) = (0 : Int32))).2 ?_
  refine oal KK X7 d46_36 (.ref o1) 37 rfl rfl rfl ?_
  obtain ⟨T8, X8, e8, st8⟩ := getF X7 hx hZ hown (host := "") (Or.inl (ow hw 32 rfl)) Via.refl e7 Pm3 (g := (mkF m 37 #[vr o1, vr o2, vr o2] [(.ref o1)])) rfl rfl (hb hby d46_37)
  refine step (T8.setTop (mkF m 40 #[vr o1, vr o2, vr o2] [(.ref o3)])) (fun t k => st8 t k) ?_
  refine oal KK X8 d46_40 (.ref o2) 41 rfl rfl rfl ?_
  obtain ⟨T9, X9, e9, st9⟩ := getF X8 hx hZ hown (host := "") (Or.inl (ow hw 32 rfl)) Via.refl e8 Pm6 (g := (mkF m 41 #[vr o1, vr o2, vr o2] [(.ref o2), (.ref o3)])) rfl rfl (hb hby d46_41)
  refine step (T9.setTop (mkF m 44 #[vr o1, vr o2, vr o2] [(.ref o4), (.ref o3)])) (fun t k => st9 t k) ?_
  obtain ⟨_, _, ⟨T10, L10, k10, n10⟩, -, X10, ⟨Lc10, hQ10, l10, y10, z10⟩, st10⟩ := Jvm.LawKit.callS X9 hx (y := nM44) hown (mvT hZ (ow hw 227 rfl)) (mvT hZ (ow hw 228 rfl)) (mvT hZ (ow hw 39 rfl)) (mvT hZ (ow hw 229 rfl)) (by decide) (backOf (W := 0) (rm47_109 l Z a0 hw [] o3 o4 kc2 i3 i4 i5 i6 kc7 h0 n0 Z0 Pm7 Pm8 gn_o3 ne_o3_o4 gn_o4 hy20 hy21 hy22 hy23 hy24 hy25 hy26 hy27) hZ (ow hw 229 rfl) (ow hw 39 rfl) (by decide) (by decide)) (g := (mkF m 44 #[vr o1, vr o2, vr o2] [(.ref o4), (.ref o3)])) rfl (by rw [hml]; rfl) (argsL := [(.ref o3), (.ref o4)]) (rest := []) (lenOf pd_35 rfl) rfl (omw rfl rfl) (hb hby d46_44) (fun _ _ => ⟨rfl, e9, (by decide : 0 + 0 ≤ _), (by decide : 0 + 0 ≤ _)⟩)
  dsimp only [Pt.U, Pt.locs, Pt.cells, Pt.slots] at X10 l10 y10 z10 st10 hQ10
  subst l10 y10 z10
  obtain ⟨rfl, N10q, e10q⟩ := hQ10
  have N10 := Fr.app N0 N10q
  refine step (T10.setTop (mkF m 47 #[vr o1, vr o2, vr o2] [(.int 1)])) (fun t k => st10 t k) ?_
  refine step (T10.setTop (mkF m 50 #[vr o1, vr o2, vr o2] [])) (fun t k => XS.ifNo X10.here hx rfl (hb hby d46_47) rfl ((if0 _ _).trans (feq (by decide : ¬ ((1 : Int32) = (0 : Int32)))).1) k) ?_
  refine oic KK X10 d46_50 1 51 rfl rfl ?_
  refine ogo KK X10 d46_51 55 (by decide) rfl ?_
  refine fin (v := some (.int (nar .boolean (1 : Int32)))) X10 (fun h => by cases h) ?_ (by decide) (by decide) (fun fs hr => retN X10 hx (t := .boolean) hret (by simp) (hb hby d46_55) hr)
  show Q46_108 Z o1 o2 i1 o3 o4 kc2 i3 i4 i5 i6 kc7 h0 n0 (some (.int (nar .boolean (1 : Int32)))) T10.heap _
  rw [e10q]
  exact ⟨rfl, N10, rfl⟩
theorem ef_0 (m : MethodId) (x0 : Int32) (x1 : Int32) (x2 : Int32) (x3 : Int32) (x4 : Int32) : entryFrame m #[(.int x0), (.int x1), (.int x2), (.int x3), (.int x4)] maxLocals = mkF m 0 #[.val (.int x0), .val (.int x1), .val (.int x2), .val (.int x3), .val (.int x4), .unset, .unset, .unset, .unset, .unset, .unset, .unset, .unset, .unset, .unset, .unset] [] := by first | (simp [entryFrame, mkF, argsToLocals, Value.category, maxLocals]; done) | rfl
def Q0 (Z : State) (p0 p1 p2 p3 p4 cs : Int32) (h0 : Heap) (n0 : Nat) (v : Option Value) (h : Heap) (L : List Loc) : Prop := v = some (.int 1) ∧ Fr n0 L
set_option maxRecDepth 65536 in
set_option maxHeartbeats 40000000 in
theorem rm0 (l : Launch) (Z : State) (a0 : Array Value) (hw : ∀ d ∈ tables_1, d.before a0 Z = true) (ws : List Jvm.Cond) (p0 p1 p2 p3 p4 cs : Int32) (h0 : Heap) (n0 : Nat) (Z0 : n0 ≤ h0.size) (S_cs : Sta Z h0 "java/lang/String" "COMPACT_STRINGS" "Z" (.int cs)) (c_cs : ¬ (cs = (0 : Int32))) :
    MetFree l x (head1 (Jvm.Cond.code x code maxLocals ret :: ws) room_1) (fun a U => a = #[(.int p0), (.int p1), (.int p2), (.int p3), (.int p4)] ∧ Z.Warmed39 U.vm ∧ U.heap = h0 ∧ CHv Z own_EL U.vm h0) (fun _ _ _ _ _ => True) (fun _ U o U' => ∃ v L, o = .returned v ∧ Q0 Z p0 p1 p2 p3 p4 cs h0 n0 v U'.heap L ∧ CHr Z own_EL U.vm U.heap U'.vm U'.heap ∧ ReturnedEndW U o U' L room_1.cells room_1.slots) := by
  refine own_bodyH (own_EWs hw) (plainFor_of_name pn_0) ?_
  intro p e s m below meth c s₁ G vm0 k0 hx hby hml hZ hown hnm hret hS hk hCH0 X0 e0 step fin
  replace hown : vm0.findClass "com/example/dibs/dibs/core/KeyspaceWithPrefixPinLaw" = some m.cls := hown
  replace hnm : meth.name = "law" := hnm
  replace hret : meth.sig.returnType = some .boolean := hret
  replace hml : c.maxLocals = 16 := hml
  have N0 := Fr.nil n0
  have KK : OwnK p e below c _ G := ⟨step, hx, hby⟩
  have C0 := CHr.refl hCH0
  refine step (s₁.setTop (mkF m 0 #[vi p0, vi p1, vi p2, vi p3, vi p4, .unset, .unset, .unset, .unset, .unset, .unset, .unset, .unset, .unset, .unset, .unset] [])) (fun t k => castTop (ef_0 m p0 p1 p2 p3 p4) k) ?_
  refine oil KK X0 at_0 p0 1 rfl rfl ?_
  obtain ⟨_, _, ⟨T1, L1, k1, n1⟩, -, X1, ⟨Lc1, hQ1, l1, y1, z1⟩, st1⟩ := Jvm.LawKit.callS X0 hx (y := nM0) hown (mvT hZ (ow hw 0 rfl)) (mvT hZ (ow hw 1 rfl)) (mvT hZ (ow hw 2 rfl)) (mvT hZ (ow hw 3 rfl)) (by decide) (backOf (W := 0) (rm1_1 l Z a0 hw [] p0 h0 n0 Z0 ) hZ (ow hw 3 rfl) (ow hw 2 rfl) (by decide) (by decide)) (g := (mkF m 1 #[vi p0, vi p1, vi p2, vi p3, vi p4, .unset, .unset, .unset, .unset, .unset, .unset, .unset, .unset, .unset, .unset, .unset] [(.int p0)])) rfl (by rw [hml]; rfl) (argsL := [(.int p0)]) (rest := []) (lenOf pd_0 rfl) rfl (omw rfl rfl) (hb hby at_1) (fun _ _ => ⟨rfl, e0, (by decide : 0 + 0 ≤ _), (by decide : 0 + 0 ≤ _)⟩)
  dsimp only [Pt.U, Pt.locs, Pt.cells, Pt.slots] at X1 l1 y1 z1 st1 hQ1
  subst l1 y1 z1
  obtain ⟨z_1_1, rfl, N1q, e1q, hz_1_1⟩ := hQ1
  have N1 := Fr.app N0 N1q
  refine step (T1.setTop (mkF m 4 #[vi p0, vi p1, vi p2, vi p3, vi p4, .unset, .unset, .unset, .unset, .unset, .unset, .unset, .unset, .unset, .unset, .unset] [(.int (nar .char z_1_1))])) (fun t k => st1 t k) ?_
  generalize hya : (nar .char z_1_1) = ya
  have sf_ya := own_safe hz_1_1 hya
  obtain ⟨le_ya, lx_ya⟩ := own_safeL hz_1_1 hya
  obtain ⟨wya, hb_ya⟩ : ∃ z, (nar .byte ((nar .char ya).toInt8.toInt32)) = z := ⟨_, rfl⟩
  obtain ⟨na_ya, nb_ya, hd_ya⟩ := own_safeB sf_ya hb_ya
  refine oiS KK X1 at_4 #[vi p0, vi p1, vi p2, vi p3, vi p4, vi ya, .unset, .unset, .unset, .unset, .unset, .unset, .unset, .unset, .unset, .unset] 6 rfl rfl ?_
  refine oil KK X1 at_6 p1 7 rfl rfl ?_
  obtain ⟨_, _, ⟨T2, L2, k2, n2⟩, -, X2, ⟨Lc2, hQ2, l2, y2, z2⟩, st2⟩ := Jvm.LawKit.callS X1 hx (y := nM0) hown (mvT hZ (ow hw 0 rfl)) (mvT hZ (ow hw 1 rfl)) (mvT hZ (ow hw 2 rfl)) (mvT hZ (ow hw 3 rfl)) (by decide) (backOf (W := 0) (rm1_1 l Z a0 hw [] p1 h0 n0 Z0 ) hZ (ow hw 3 rfl) (ow hw 2 rfl) (by decide) (by decide)) (g := (mkF m 7 #[vi p0, vi p1, vi p2, vi p3, vi p4, vi ya, .unset, .unset, .unset, .unset, .unset, .unset, .unset, .unset, .unset, .unset] [(.int p1)])) rfl (by rw [hml]; rfl) (argsL := [(.int p1)]) (rest := []) (lenOf pd_0 rfl) rfl (omw rfl rfl) (hb hby at_7) (fun _ _ => ⟨rfl, e1q, (by decide : 0 + 0 ≤ _), (by decide : 0 + 0 ≤ _)⟩)
  dsimp only [Pt.U, Pt.locs, Pt.cells, Pt.slots] at X2 l2 y2 z2 st2 hQ2
  subst l2 y2 z2
  obtain ⟨z_1_2, rfl, N2q, e2q, hz_1_2⟩ := hQ2
  have N2 := Fr.app N1 N2q
  refine step (T2.setTop (mkF m 10 #[vi p0, vi p1, vi p2, vi p3, vi p4, vi ya, .unset, .unset, .unset, .unset, .unset, .unset, .unset, .unset, .unset, .unset] [(.int (nar .char z_1_2))])) (fun t k => st2 t k) ?_
  generalize hyb : (nar .char z_1_2) = yb
  have sf_yb := own_safe hz_1_2 hyb
  obtain ⟨le_yb, lx_yb⟩ := own_safeL hz_1_2 hyb
  obtain ⟨wyb, hb_yb⟩ : ∃ z, (nar .byte ((nar .char yb).toInt8.toInt32)) = z := ⟨_, rfl⟩
  obtain ⟨na_yb, nb_yb, hd_yb⟩ := own_safeB sf_yb hb_yb
  refine oiS KK X2 at_10 #[vi p0, vi p1, vi p2, vi p3, vi p4, vi ya, vi yb, .unset, .unset, .unset, .unset, .unset, .unset, .unset, .unset, .unset] 12 rfl rfl ?_
  refine oil KK X2 at_12 p2 13 rfl rfl ?_
  obtain ⟨_, _, ⟨T3, L3, k3, n3⟩, -, X3, ⟨Lc3, hQ3, l3, y3, z3⟩, st3⟩ := Jvm.LawKit.callS X2 hx (y := nM0) hown (mvT hZ (ow hw 0 rfl)) (mvT hZ (ow hw 1 rfl)) (mvT hZ (ow hw 2 rfl)) (mvT hZ (ow hw 3 rfl)) (by decide) (backOf (W := 0) (rm1_1 l Z a0 hw [] p2 h0 n0 Z0 ) hZ (ow hw 3 rfl) (ow hw 2 rfl) (by decide) (by decide)) (g := (mkF m 13 #[vi p0, vi p1, vi p2, vi p3, vi p4, vi ya, vi yb, .unset, .unset, .unset, .unset, .unset, .unset, .unset, .unset, .unset] [(.int p2)])) rfl (by rw [hml]; rfl) (argsL := [(.int p2)]) (rest := []) (lenOf pd_0 rfl) rfl (omw rfl rfl) (hb hby at_13) (fun _ _ => ⟨rfl, e2q, (by decide : 0 + 0 ≤ _), (by decide : 0 + 0 ≤ _)⟩)
  dsimp only [Pt.U, Pt.locs, Pt.cells, Pt.slots] at X3 l3 y3 z3 st3 hQ3
  subst l3 y3 z3
  obtain ⟨z_1_3, rfl, N3q, e3q, hz_1_3⟩ := hQ3
  have N3 := Fr.app N2 N3q
  refine step (T3.setTop (mkF m 16 #[vi p0, vi p1, vi p2, vi p3, vi p4, vi ya, vi yb, .unset, .unset, .unset, .unset, .unset, .unset, .unset, .unset, .unset] [(.int (nar .char z_1_3))])) (fun t k => st3 t k) ?_
  generalize hyc : (nar .char z_1_3) = yc
  have sf_yc := own_safe hz_1_3 hyc
  obtain ⟨le_yc, lx_yc⟩ := own_safeL hz_1_3 hyc
  obtain ⟨wyc, hb_yc⟩ : ∃ z, (nar .byte ((nar .char yc).toInt8.toInt32)) = z := ⟨_, rfl⟩
  obtain ⟨na_yc, nb_yc, hd_yc⟩ := own_safeB sf_yc hb_yc
  refine oiS KK X3 at_16 #[vi p0, vi p1, vi p2, vi p3, vi p4, vi ya, vi yb, vi yc, .unset, .unset, .unset, .unset, .unset, .unset, .unset, .unset] 18 rfl rfl ?_
  refine oil KK X3 at_18 p3 19 rfl rfl ?_
  obtain ⟨_, _, ⟨T4, L4, k4, n4⟩, -, X4, ⟨Lc4, hQ4, l4, y4, z4⟩, st4⟩ := Jvm.LawKit.callS X3 hx (y := nM0) hown (mvT hZ (ow hw 0 rfl)) (mvT hZ (ow hw 1 rfl)) (mvT hZ (ow hw 2 rfl)) (mvT hZ (ow hw 3 rfl)) (by decide) (backOf (W := 0) (rm1_1 l Z a0 hw [] p3 h0 n0 Z0 ) hZ (ow hw 3 rfl) (ow hw 2 rfl) (by decide) (by decide)) (g := (mkF m 19 #[vi p0, vi p1, vi p2, vi p3, vi p4, vi ya, vi yb, vi yc, .unset, .unset, .unset, .unset, .unset, .unset, .unset, .unset] [(.int p3)])) rfl (by rw [hml]; rfl) (argsL := [(.int p3)]) (rest := []) (lenOf pd_0 rfl) rfl (omw rfl rfl) (hb hby at_19) (fun _ _ => ⟨rfl, e3q, (by decide : 0 + 0 ≤ _), (by decide : 0 + 0 ≤ _)⟩)
  dsimp only [Pt.U, Pt.locs, Pt.cells, Pt.slots] at X4 l4 y4 z4 st4 hQ4
  subst l4 y4 z4
  obtain ⟨z_1_4, rfl, N4q, e4q, hz_1_4⟩ := hQ4
  have N4 := Fr.app N3 N4q
  refine step (T4.setTop (mkF m 22 #[vi p0, vi p1, vi p2, vi p3, vi p4, vi ya, vi yb, vi yc, .unset, .unset, .unset, .unset, .unset, .unset, .unset, .unset] [(.int (nar .char z_1_4))])) (fun t k => st4 t k) ?_
  generalize hyd : (nar .char z_1_4) = yd
  have sf_yd := own_safe hz_1_4 hyd
  obtain ⟨le_yd, lx_yd⟩ := own_safeL hz_1_4 hyd
  obtain ⟨wyd, hb_yd⟩ : ∃ z, (nar .byte ((nar .char yd).toInt8.toInt32)) = z := ⟨_, rfl⟩
  obtain ⟨na_yd, nb_yd, hd_yd⟩ := own_safeB sf_yd hb_yd
  refine oiS KK X4 at_22 #[vi p0, vi p1, vi p2, vi p3, vi p4, vi ya, vi yb, vi yc, vi yd, .unset, .unset, .unset, .unset, .unset, .unset, .unset] 24 rfl rfl ?_
  refine oiL KK X4 at_24 p4 26 rfl rfl ?_
  refine oic KK X4 at_26 1 27 rfl rfl ?_
  refine step (T4.setTop (mkF m 28 #[vi p0, vi p1, vi p2, vi p3, vi p4, vi ya, vi yb, vi yc, vi yd, .unset, .unset, .unset, .unset, .unset, .unset, .unset] [(.int (p4 &&& (1 : Int32)))])) (fun t k => XS.iand X4.here hx rfl (hb hby at_27) rfl k) ?_
  suffices J36_6 : ∀ (z36_5 : Int32), z36_5 = (if (p4 &&& (1 : Int32)) = (0 : Int32) then (0 : Int32) else (1 : Int32)) → G (T4.setTop (mkF m 36 #[vi p0, vi p1, vi p2, vi p3, vi p4, vi ya, vi yb, vi yc, vi yd, .unset, .unset, .unset, .unset, .unset, .unset, .unset] [(.int z36_5)])) by
    by_cases hc28_7 : (p4 &&& (1 : Int32)) = (0 : Int32)
    · -- 28 True
      refine step (T4.setTop (mkF m 35 #[vi p0, vi p1, vi p2, vi p3, vi p4, vi ya, vi yb, vi yc, vi yd, .unset, .unset, .unset, .unset, .unset, .unset, .unset] [])) (fun t k => XS.ifYes X4.here hx rfl (pc0 := 28) (pc' := 35) rfl (hb hby at_28) rfl ((if0 _ _).trans (teq hc28_7).1) (by decide) (by decide) k) ?_
      refine oic KK X4 at_35 0 36 rfl rfl ?_
      exact J36_6 _ (by simp only [if_pos hc28_7, if_true, if_false] <;> rfl)
    · -- 28 False
      refine step (T4.setTop (mkF m 31 #[vi p0, vi p1, vi p2, vi p3, vi p4, vi ya, vi yb, vi yc, vi yd, .unset, .unset, .unset, .unset, .unset, .unset, .unset] [])) (fun t k => XS.ifNo X4.here hx rfl (hb hby at_28) rfl ((if0 _ _).trans (feq hc28_7).1) k) ?_
      refine oic KK X4 at_31 1 32 rfl rfl ?_
      refine ogo KK X4 at_32 36 (by decide) rfl ?_
      exact J36_6 _ (by simp only [if_neg hc28_7, if_true, if_false] <;> rfl)
  intro z36_5 hz36_5
  refine oiS KK X4 at_36 #[vi p0, vi p1, vi p2, vi p3, vi p4, vi ya, vi yb, vi yc, vi yd, vi z36_5, .unset, .unset, .unset, .unset, .unset, .unset] 38 rfl rfl ?_
  refine oiL KK X4 at_38 z36_5 40 rfl rfl ?_
  by_cases hc40_8 : z36_5 = (0 : Int32)
  · -- pc 40: z36_5 = (0 : Int32) True
    refine step (T4.setTop (mkF m 116 #[vi p0, vi p1, vi p2, vi p3, vi p4, vi ya, vi yb, vi yc, vi yd, vi z36_5, .unset, .unset, .unset, .unset, .unset, .unset] [])) (fun t k => XS.ifYes X4.here hx rfl (pc0 := 40) (pc' := 116) rfl (hb hby at_40) rfl ((if0 _ _).trans (teq hc40_8).1) (by decide) (by decide) k) ?_
    obtain ⟨T9, h9, X9, e9, E9, A9, D9, -, st9⟩ := newO X4 hx hZ hown (ow hw 4 rfl) (ow hw 5 rfl) (ow hw 6 rfl) e4q (g := (mkF m 116 #[vi p0, vi p1, vi p2, vi p3, vi p4, vi ya, vi yb, vi yc, vi yd, vi z36_5, .unset, .unset, .unset, .unset, .unset, .unset] [])) rfl (hb hby at_116) (by decide) (by decide)
    obtain ⟨b9, g9⟩ : ∃ z, z = h0.size := ⟨_, rfl⟩
    rw [← g9] at A9 D9 st9
    have gn_b9 : n0 ≤ b9 := Nat.le_trans Z0 (Nat.le_of_eq g9.symm)
    have sz_b9 : h0.size ≤ b9 := Nat.le_of_eq g9.symm
    have Sf9_b9 : Safe Z own_EL vm0 h0 b9 := Safe.new (Nat.le_of_eq g9.symm)
    have K9 : Keep h0 h9 [] := (Keep.refl h0 []).ext E9
    have F_coder_b9 : Fld Z h9 b9 "java/lang/String" "coder" "B" (.int 0) := D9 (Or.inr (ow hw 31 rfl)) (ty := .byte) (by decide)
    have F_value_b9 : Fld Z h9 b9 "java/lang/String" "value" "[B" .null := D9 (Or.inr (ow hw 33 rfl)) (ty := (.array .byte)) (by decide)
    refine step (T9.setTop (mkF m 119 #[vi p0, vi p1, vi p2, vi p3, vi p4, vi ya, vi yb, vi yc, vi yd, vi z36_5, .unset, .unset, .unset, .unset, .unset, .unset] [(.ref b9)])) (fun t k => st9 t k) ?_
    refine odu KK X9 at_119 120 rfl rfl ?_
    refine oic KK X9 at_120 1 121 rfl rfl ?_
    obtain ⟨T10, h10, k10, X10, e10, E10, A10, st10⟩ := newP X9 hx hZ (ow hw 7 rfl) e9 (g := (mkF m 121 #[vi p0, vi p1, vi p2, vi p3, vi p4, vi ya, vi yb, vi yc, vi yd, vi z36_5, .unset, .unset, .unset, .unset, .unset, .unset] [(.int 1), (.ref b9), (.ref b9)])) rfl (hb hby at_121) rfl (by decide) (cap := 1) (by decide) (by decide) (by decide) (by decide)
    obtain ⟨b10, g10⟩ : ∃ z, z = h9.size := ⟨_, rfl⟩
    rw [← g10] at A10 st10
    have ne_b9_b10 : b9 ≠ b10 := Nat.ne_of_lt (Nat.lt_of_lt_of_le A9.lt (Nat.le_of_eq g10.symm))
    have gn_b10 : n0 ≤ b10 := Nat.le_trans (Nat.le_trans Z0 K9.1) (Nat.le_of_eq g10.symm)
    have sz_b10 : h0.size ≤ b10 := Nat.le_trans K9.1 (Nat.le_of_eq g10.symm)
    have C11 := C0.trans (CHr.ext E9 C0.1)
    have Sf11_b9 := Safe.ext E9 C0.1 Sf9_b9
    have Sf10_b10 : Safe Z own_EL vm0 h9 b10 := Safe.new (Nat.le_of_eq g10.symm)
    have K10 : Keep h0 h10 [] := K9.ext E10
    have V10 : Arv Z h10 b10 k10 .char (1 : Int32) [(.int 0)] (.int 0) := (Arv.new A10 (by decide)).pad (pad_rep [] (.int 0) 1)
    refine step (T10.setTop (mkF m 123 #[vi p0, vi p1, vi p2, vi p3, vi p4, vi ya, vi yb, vi yc, vi yd, vi z36_5, .unset, .unset, .unset, .unset, .unset, .unset] [(.ref b10), (.ref b9), (.ref b9)])) (fun t k => st10 t k) ?_
    refine odu KK X10 at_123 124 rfl rfl ?_
    refine oic KK X10 at_124 0 125 rfl rfl ?_
    refine oiL KK X10 at_125 ya 127 rfl rfl ?_
    obtain ⟨cl12, Ar12, q12, S12, N12n, H12, G12⟩ := id V10
    have hin12 : ¬ ((0 : Int32) < 0 ∨ cl12.slots.size ≤ ((0 : Int32)).toNatClampNeg) := inb_of S12 ⟨by decide, by decide⟩
    obtain ⟨T12, h12, X12, e12, W12, st12⟩ := stC X10 hx hZ e10 Ar12 (j := (0 : Int32)) hin12 (g := (mkF m 127 #[vi p0, vi p1, vi p2, vi p3, vi p4, vi ya, vi yb, vi yc, vi yd, vi z36_5, .unset, .unset, .unset, .unset, .unset, .unset] [(.int ya), (.int 0), (.ref b10), (.ref b10), (.ref b9), (.ref b9)])) rfl rfl (hb hby at_127)
    have N12 := Fr.snoc X12 N4 gn_b10
    have K12 : Keep h0 h12 [] := K10.wr W12 (Or.inr sz_b10)
    have V12 : Arv Z h12 b10 k10 .char (1 : Int32) [(.int (nar .char ya))] (.int 0) := Arv.set Ar12 q12 S12 N12n H12 G12 (fits_nar_char ya) W12 0 rfl (Nat.le_of_ble_eq_true rfl)
    refine step (T12.setTop (mkF m 128 #[vi p0, vi p1, vi p2, vi p3, vi p4, vi ya, vi yb, vi yc, vi yd, vi z36_5, .unset, .unset, .unset, .unset, .unset, .unset] [(.ref b10), (.ref b9), (.ref b9)])) (fun t k => st12 t k) ?_
    have f13 := (((S_cs.ext E9).ext E10).wr W12)
    have f14 := ((A9.ext E10).wr W12)
    have f15 := ((F_coder_b9.ext E10).other W12 (Or.inl ne_b9_b10))
    have f16 := ((F_value_b9.ext E10).other W12 (Or.inl ne_b9_b10))
    have C18 := C11.trans (CHr.ext E10 C11.1)
    have Sf18_b9 := Safe.ext E10 C11.1 Sf11_b9
    have Sf18_b10 := Safe.ext E10 C11.1 Sf10_b10
    have C19 := C18.trans (CHr.wr W12 Sf18_b10 C18.1)
    have Sf19_b9 := Safe.wr W12 Sf18_b10 C18.1 Sf18_b9
    have Sf19_b10 := Safe.wr W12 Sf18_b10 C18.1 Sf18_b10
    obtain ⟨_, _, ⟨T17, L17, k17, n17⟩, -, X17, ⟨Lc17, hQ17, l17, y17, z17⟩, st17⟩ := X12.specialBack hx (y := nM5) rfl hown (mvT hZ (ow hw 8 rfl)) (mvT hZ (ow hw 9 rfl)) (mvT hZ (ow hw 10 rfl)) (by decide) (backOf (W := 1) (rm2_2 l Z a0 hw [] b9 b10 cs k10 (nar .char ya) h12 n0 (Nat.le_trans Z0 K12.1) f13 f14 f15 f16 V12 gn_b9 ne_b9_b10 gn_b10 le_ya c_cs) hZ (ow hw 10 rfl) (ow hw 6 rfl) (by decide) (by decide)) (g := (mkF m 128 #[vi p0, vi p1, vi p2, vi p3, vi p4, vi ya, vi yb, vi yc, vi yd, vi z36_5, .unset, .unset, .unset, .unset, .unset, .unset] [(.ref b10), (.ref b9), (.ref b9)])) rfl (by rw [hml]; rfl) (Steps.refl _) (a := b9) (argsL := [(.ref b10)]) (rest := [(.ref b9)]) (lenOf pd_1 rfl) rfl (omw rfl rfl) (hb hby at_128) (fun _ _ => ⟨rfl, e12, (by decide : 2 + 1 ≤ _), (by decide : 5 + 1 ≤ _)⟩)
    dsimp only [Pt.U, Pt.locs, Pt.cells, Pt.slots] at X17 l17 y17 z17 st17 hQ17
    subst l17 y17 z17
    obtain ⟨h17, e17⟩ : ∃ z, T17.heap = z := ⟨_, rfl⟩
    rw [e17] at hQ17
    obtain ⟨b1_4_2_17, k1_4_2_17, rfl, N17q, K17q, sz_b1_4_2_17, q0_17, q1_17, q2_17⟩ := hQ17
    have N17 := Fr.app N12 N17q
    have lt17_b9 := f14.lt
    have lt17_b10 := V12.lt
    have Sf17_b1_4_2_17 : Safe Z own_EL vm0 h12 b1_4_2_17 := Safe.new sz_b1_4_2_17
    have ne_b9_b1_4_2_17 : b9 ≠ b1_4_2_17 := Nat.ne_of_lt (Nat.lt_of_lt_of_le lt17_b9 sz_b1_4_2_17)
    have ne_b10_b1_4_2_17 : b10 ≠ b1_4_2_17 := Nat.ne_of_lt (Nat.lt_of_lt_of_le lt17_b10 sz_b1_4_2_17)
    have gn_b1_4_2_17 : n0 ≤ b1_4_2_17 := Nat.le_trans (Nat.le_trans Z0 K12.1) sz_b1_4_2_17
    have sz_b1_4_2_17' := Nat.le_trans K12.1 sz_b1_4_2_17
    replace sz_b1_4_2_17 := sz_b1_4_2_17'
    have K17 : Keep h0 h17 [] := K12.trans K17q (allS (Or.inr sz_b9) all0)
    have f20 := own_staK f13 K17q (allS (own_exaP f14) all0)
    refine step (T17.setTop (mkF m 131 #[vi p0, vi p1, vi p2, vi p3, vi p4, vi ya, vi yb, vi yc, vi yd, vi z36_5, .unset, .unset, .unset, .unset, .unset, .unset] [(.ref b9)])) (fun t k => st17.trans k) ?_
    have f21 := q2_17
    rw [hb_ya] at f21
    refine step (T17.setTop (mkF m 133 #[vi p0, vi p1, vi p2, vi p3, vi p4, vi ya, vi yb, vi yc, vi yd, vi z36_5, vr b9, .unset, .unset, .unset, .unset, .unset] [])) (fun t k => XS.astore X17.here hx rfl (hb hby at_131) rfl rfl (l' := #[vi p0, vi p1, vi p2, vi p3, vi p4, vi ya, vi yb, vi yc, vi yd, vi z36_5, vr b9, .unset, .unset, .unset, .unset, .unset]) rfl k) ?_
    refine obi KK X17 at_133 7 135 rfl rfl ?_
    obtain ⟨T22, h22, k22, X22, e22, E22, A22, st22⟩ := newP X17 hx hZ (ow hw 7 rfl) e17 (g := (mkF m 135 #[vi p0, vi p1, vi p2, vi p3, vi p4, vi ya, vi yb, vi yc, vi yd, vi z36_5, vr b9, .unset, .unset, .unset, .unset, .unset] [(.int 7)])) rfl (hb hby at_135) rfl (by decide) (cap := 7) (by decide) (by decide) (by decide) (by decide)
    obtain ⟨b22, g22⟩ : ∃ z, z = h17.size := ⟨_, rfl⟩
    rw [← g22] at A22 st22
    have f23 := (f14.keep K17q)
    have ne_b9_b22 : b9 ≠ b22 := Nat.ne_of_lt (Nat.lt_of_lt_of_le f23.lt (Nat.le_of_eq g22.symm))
    have f24 := (V12.keep K17q (ninS (Ne.symm ne_b9_b10) nin0))
    have ne_b10_b22 : b10 ≠ b22 := Nat.ne_of_lt (Nat.lt_of_lt_of_le f24.lt (Nat.le_of_eq g22.symm))
    have ne_b1_4_2_17_b22 : b1_4_2_17 ≠ b22 := Nat.ne_of_lt (Nat.lt_of_lt_of_le f21.lt (Nat.le_of_eq g22.symm))
    have gn_b22 : n0 ≤ b22 := Nat.le_trans (Nat.le_trans Z0 K17.1) (Nat.le_of_eq g22.symm)
    have sz_b22 : h0.size ≤ b22 := Nat.le_trans K17.1 (Nat.le_of_eq g22.symm)
    have C25 := C19.trans (CHr.keep K17q (allS Sf19_b9 all0) C19.1)
    have Sf25_b9 := Safe.keep K17q (allS Sf19_b9 all0) C19.1 Sf19_b9
    have Sf25_b10 := Safe.keep K17q (allS Sf19_b9 all0) C19.1 Sf19_b10
    have Sf25_b1_4_2_17 := Safe.keep K17q (allS Sf19_b9 all0) C19.1 Sf17_b1_4_2_17
    have Sf22_b22 : Safe Z own_EL vm0 h17 b22 := Safe.new (Nat.le_of_eq g22.symm)
    have K22 : Keep h0 h22 [] := K17.ext E22
    have V22 : Arv Z h22 b22 k22 .char (7 : Int32) [(.int 0), (.int 0), (.int 0), (.int 0), (.int 0), (.int 0), (.int 0)] (.int 0) := (Arv.new A22 (by decide)).pad (pad_rep [] (.int 0) 7)
    refine step (T22.setTop (mkF m 137 #[vi p0, vi p1, vi p2, vi p3, vi p4, vi ya, vi yb, vi yc, vi yd, vi z36_5, vr b9, .unset, .unset, .unset, .unset, .unset] [(.ref b22)])) (fun t k => st22 t k) ?_
    refine odu KK X22 at_137 138 rfl rfl ?_
    refine oic KK X22 at_138 0 139 rfl rfl ?_
    refine oiL KK X22 at_139 ya 141 rfl rfl ?_
    obtain ⟨cl26, Ar26, q26, S26, N26n, H26, G26⟩ := id V22
    have hin26 : ¬ ((0 : Int32) < 0 ∨ cl26.slots.size ≤ ((0 : Int32)).toNatClampNeg) := inb_of S26 ⟨by decide, by decide⟩
    obtain ⟨T26, h26, X26, e26, W26, st26⟩ := stC X22 hx hZ e22 Ar26 (j := (0 : Int32)) hin26 (g := (mkF m 141 #[vi p0, vi p1, vi p2, vi p3, vi p4, vi ya, vi yb, vi yc, vi yd, vi z36_5, vr b9, .unset, .unset, .unset, .unset, .unset] [(.int ya), (.int 0), (.ref b22), (.ref b22)])) rfl rfl (hb hby at_141)
    have N26 := Fr.snoc X26 N17 gn_b22
    have K26 : Keep h0 h26 [] := K22.wr W26 (Or.inr sz_b22)
    have V26 : Arv Z h26 b22 k22 .char (7 : Int32) [(.int (nar .char ya)), (.int 0), (.int 0), (.int 0), (.int 0), (.int 0), (.int 0)] (.int 0) := Arv.set Ar26 q26 S26 N26n H26 G26 (fits_nar_char ya) W26 0 rfl (Nat.le_of_ble_eq_true rfl)
    refine step (T26.setTop (mkF m 142 #[vi p0, vi p1, vi p2, vi p3, vi p4, vi ya, vi yb, vi yc, vi yd, vi z36_5, vr b9, .unset, .unset, .unset, .unset, .unset] [(.ref b22)])) (fun t k => st26 t k) ?_
    refine odu KK X26 at_142 143 rfl rfl ?_
    refine oic KK X26 at_143 1 144 rfl rfl ?_
    refine obi KK X26 at_144 58 146 rfl rfl ?_
    obtain ⟨cl27, Ar27, q27, S27, N27n, H27, G27⟩ := id V26
    have hin27 : ¬ ((1 : Int32) < 0 ∨ cl27.slots.size ≤ ((1 : Int32)).toNatClampNeg) := inb_of S27 ⟨by decide, by decide⟩
    obtain ⟨T27, h27, X27, e27, W27, st27⟩ := stC X26 hx hZ e26 Ar27 (j := (1 : Int32)) hin27 (g := (mkF m 146 #[vi p0, vi p1, vi p2, vi p3, vi p4, vi ya, vi yb, vi yc, vi yd, vi z36_5, vr b9, .unset, .unset, .unset, .unset, .unset] [(.int 58), (.int 1), (.ref b22), (.ref b22)])) rfl rfl (hb hby at_146)
    have N27 := Fr.snoc X27 N26 gn_b22
    have K27 : Keep h0 h27 [] := K26.wr W27 (Or.inr sz_b22)
    have V27 : Arv Z h27 b22 k22 .char (7 : Int32) [(.int (nar .char ya)), (.int 58), (.int 0), (.int 0), (.int 0), (.int 0), (.int 0)] (.int 0) := Arv.set Ar27 q27 S27 N27n H27 G27 (fits_nar_char (58 : Int32)) W27 1 rfl (Nat.le_of_ble_eq_true rfl)
    refine step (T27.setTop (mkF m 147 #[vi p0, vi p1, vi p2, vi p3, vi p4, vi ya, vi yb, vi yc, vi yd, vi z36_5, vr b9, .unset, .unset, .unset, .unset, .unset] [(.ref b22)])) (fun t k => st27 t k) ?_
    refine odu KK X27 at_147 148 rfl rfl ?_
    refine oic KK X27 at_148 2 149 rfl rfl ?_
    refine obi KK X27 at_149 123 151 rfl rfl ?_
    obtain ⟨cl28, Ar28, q28, S28, N28n, H28, G28⟩ := id V27
    have hin28 : ¬ ((2 : Int32) < 0 ∨ cl28.slots.size ≤ ((2 : Int32)).toNatClampNeg) := inb_of S28 ⟨by decide, by decide⟩
    obtain ⟨T28, h28, X28, e28, W28, st28⟩ := stC X27 hx hZ e27 Ar28 (j := (2 : Int32)) hin28 (g := (mkF m 151 #[vi p0, vi p1, vi p2, vi p3, vi p4, vi ya, vi yb, vi yc, vi yd, vi z36_5, vr b9, .unset, .unset, .unset, .unset, .unset] [(.int 123), (.int 2), (.ref b22), (.ref b22)])) rfl rfl (hb hby at_151)
    have N28 := Fr.snoc X28 N27 gn_b22
    have K28 : Keep h0 h28 [] := K27.wr W28 (Or.inr sz_b22)
    have V28 : Arv Z h28 b22 k22 .char (7 : Int32) [(.int (nar .char ya)), (.int 58), (.int 123), (.int 0), (.int 0), (.int 0), (.int 0)] (.int 0) := Arv.set Ar28 q28 S28 N28n H28 G28 (fits_nar_char (123 : Int32)) W28 2 rfl (Nat.le_of_ble_eq_true rfl)
    refine step (T28.setTop (mkF m 152 #[vi p0, vi p1, vi p2, vi p3, vi p4, vi ya, vi yb, vi yc, vi yd, vi z36_5, vr b9, .unset, .unset, .unset, .unset, .unset] [(.ref b22)])) (fun t k => st28 t k) ?_
    refine odu KK X28 at_152 153 rfl rfl ?_
    refine oic KK X28 at_153 3 154 rfl rfl ?_
    refine oiL KK X28 at_154 yc 156 rfl rfl ?_
    obtain ⟨cl29, Ar29, q29, S29, N29n, H29, G29⟩ := id V28
    have hin29 : ¬ ((3 : Int32) < 0 ∨ cl29.slots.size ≤ ((3 : Int32)).toNatClampNeg) := inb_of S29 ⟨by decide, by decide⟩
    obtain ⟨T29, h29, X29, e29, W29, st29⟩ := stC X28 hx hZ e28 Ar29 (j := (3 : Int32)) hin29 (g := (mkF m 156 #[vi p0, vi p1, vi p2, vi p3, vi p4, vi ya, vi yb, vi yc, vi yd, vi z36_5, vr b9, .unset, .unset, .unset, .unset, .unset] [(.int yc), (.int 3), (.ref b22), (.ref b22)])) rfl rfl (hb hby at_156)
    have N29 := Fr.snoc X29 N28 gn_b22
    have K29 : Keep h0 h29 [] := K28.wr W29 (Or.inr sz_b22)
    have V29 : Arv Z h29 b22 k22 .char (7 : Int32) [(.int (nar .char ya)), (.int 58), (.int 123), (.int (nar .char yc)), (.int 0), (.int 0), (.int 0)] (.int 0) := Arv.set Ar29 q29 S29 N29n H29 G29 (fits_nar_char yc) W29 3 rfl (Nat.le_of_ble_eq_true rfl)
    refine step (T29.setTop (mkF m 157 #[vi p0, vi p1, vi p2, vi p3, vi p4, vi ya, vi yb, vi yc, vi yd, vi z36_5, vr b9, .unset, .unset, .unset, .unset, .unset] [(.ref b22)])) (fun t k => st29 t k) ?_
    refine odu KK X29 at_157 158 rfl rfl ?_
    refine oic KK X29 at_158 4 159 rfl rfl ?_
    refine obi KK X29 at_159 125 161 rfl rfl ?_
    obtain ⟨cl30, Ar30, q30, S30, N30n, H30, G30⟩ := id V29
    have hin30 : ¬ ((4 : Int32) < 0 ∨ cl30.slots.size ≤ ((4 : Int32)).toNatClampNeg) := inb_of S30 ⟨by decide, by decide⟩
    obtain ⟨T30, h30, X30, e30, W30, st30⟩ := stC X29 hx hZ e29 Ar30 (j := (4 : Int32)) hin30 (g := (mkF m 161 #[vi p0, vi p1, vi p2, vi p3, vi p4, vi ya, vi yb, vi yc, vi yd, vi z36_5, vr b9, .unset, .unset, .unset, .unset, .unset] [(.int 125), (.int 4), (.ref b22), (.ref b22)])) rfl rfl (hb hby at_161)
    have N30 := Fr.snoc X30 N29 gn_b22
    have K30 : Keep h0 h30 [] := K29.wr W30 (Or.inr sz_b22)
    have V30 : Arv Z h30 b22 k22 .char (7 : Int32) [(.int (nar .char ya)), (.int 58), (.int 123), (.int (nar .char yc)), (.int 125), (.int 0), (.int 0)] (.int 0) := Arv.set Ar30 q30 S30 N30n H30 G30 (fits_nar_char (125 : Int32)) W30 4 rfl (Nat.le_of_ble_eq_true rfl)
    refine step (T30.setTop (mkF m 162 #[vi p0, vi p1, vi p2, vi p3, vi p4, vi ya, vi yb, vi yc, vi yd, vi z36_5, vr b9, .unset, .unset, .unset, .unset, .unset] [(.ref b22)])) (fun t k => st30 t k) ?_
    refine odu KK X30 at_162 163 rfl rfl ?_
    refine oic KK X30 at_163 5 164 rfl rfl ?_
    refine obi KK X30 at_164 58 166 rfl rfl ?_
    obtain ⟨cl31, Ar31, q31, S31, N31n, H31, G31⟩ := id V30
    have hin31 : ¬ ((5 : Int32) < 0 ∨ cl31.slots.size ≤ ((5 : Int32)).toNatClampNeg) := inb_of S31 ⟨by decide, by decide⟩
    obtain ⟨T31, h31, X31, e31, W31, st31⟩ := stC X30 hx hZ e30 Ar31 (j := (5 : Int32)) hin31 (g := (mkF m 166 #[vi p0, vi p1, vi p2, vi p3, vi p4, vi ya, vi yb, vi yc, vi yd, vi z36_5, vr b9, .unset, .unset, .unset, .unset, .unset] [(.int 58), (.int 5), (.ref b22), (.ref b22)])) rfl rfl (hb hby at_166)
    have N31 := Fr.snoc X31 N30 gn_b22
    have K31 : Keep h0 h31 [] := K30.wr W31 (Or.inr sz_b22)
    have V31 : Arv Z h31 b22 k22 .char (7 : Int32) [(.int (nar .char ya)), (.int 58), (.int 123), (.int (nar .char yc)), (.int 125), (.int 58), (.int 0)] (.int 0) := Arv.set Ar31 q31 S31 N31n H31 G31 (fits_nar_char (58 : Int32)) W31 5 rfl (Nat.le_of_ble_eq_true rfl)
    refine step (T31.setTop (mkF m 167 #[vi p0, vi p1, vi p2, vi p3, vi p4, vi ya, vi yb, vi yc, vi yd, vi z36_5, vr b9, .unset, .unset, .unset, .unset, .unset] [(.ref b22)])) (fun t k => st31 t k) ?_
    refine odu KK X31 at_167 168 rfl rfl ?_
    refine obi KK X31 at_168 6 170 rfl rfl ?_
    refine oiL KK X31 at_170 yd 172 rfl rfl ?_
    obtain ⟨cl32, Ar32, q32, S32, N32n, H32, G32⟩ := id V31
    have hin32 : ¬ ((6 : Int32) < 0 ∨ cl32.slots.size ≤ ((6 : Int32)).toNatClampNeg) := inb_of S32 ⟨by decide, by decide⟩
    obtain ⟨T32, h32, X32, e32, W32, st32⟩ := stC X31 hx hZ e31 Ar32 (j := (6 : Int32)) hin32 (g := (mkF m 172 #[vi p0, vi p1, vi p2, vi p3, vi p4, vi ya, vi yb, vi yc, vi yd, vi z36_5, vr b9, .unset, .unset, .unset, .unset, .unset] [(.int yd), (.int 6), (.ref b22), (.ref b22)])) rfl rfl (hb hby at_172)
    have N32 := Fr.snoc X32 N31 gn_b22
    have K32 : Keep h0 h32 [] := K31.wr W32 (Or.inr sz_b22)
    have V32 : Arv Z h32 b22 k22 .char (7 : Int32) [(.int (nar .char ya)), (.int 58), (.int 123), (.int (nar .char yc)), (.int 125), (.int 58), (.int (nar .char yd))] (.int 0) := Arv.set Ar32 q32 S32 N32n H32 G32 (fits_nar_char yd) W32 6 rfl (Nat.le_of_ble_eq_true rfl)
    refine step (T32.setTop (mkF m 173 #[vi p0, vi p1, vi p2, vi p3, vi p4, vi ya, vi yb, vi yc, vi yd, vi z36_5, vr b9, .unset, .unset, .unset, .unset, .unset] [(.ref b22)])) (fun t k => st32 t k) ?_
    refine step (T32.setTop (mkF m 175 #[vi p0, vi p1, vi p2, vi p3, vi p4, vi ya, vi yb, vi yc, vi yd, vi z36_5, vr b9, vr b22, .unset, .unset, .unset, .unset] [])) (fun t k => XS.astore X32.here hx rfl (hb hby at_173) rfl rfl (l' := #[vi p0, vi p1, vi p2, vi p3, vi p4, vi ya, vi yb, vi yc, vi yd, vi z36_5, vr b9, vr b22, .unset, .unset, .unset, .unset]) rfl k) ?_
    refine oiL KK X32 at_175 yc 177 rfl rfl ?_
    have f33 := ((((((((f20.ext E22).wr W26).wr W27).wr W28).wr W29).wr W30).wr W31).wr W32)
    have C35 := C25.trans (CHr.ext E22 C25.1)
    have Sf35_b9 := Safe.ext E22 C25.1 Sf25_b9
    have Sf35_b10 := Safe.ext E22 C25.1 Sf25_b10
    have Sf35_b1_4_2_17 := Safe.ext E22 C25.1 Sf25_b1_4_2_17
    have Sf35_b22 := Safe.ext E22 C25.1 Sf22_b22
    have C36 := C35.trans (CHr.wr W26 Sf35_b22 C35.1)
    have Sf36_b9 := Safe.wr W26 Sf35_b22 C35.1 Sf35_b9
    have Sf36_b10 := Safe.wr W26 Sf35_b22 C35.1 Sf35_b10
    have Sf36_b1_4_2_17 := Safe.wr W26 Sf35_b22 C35.1 Sf35_b1_4_2_17
    have Sf36_b22 := Safe.wr W26 Sf35_b22 C35.1 Sf35_b22
    have C37 := C36.trans (CHr.wr W27 Sf36_b22 C36.1)
    have Sf37_b9 := Safe.wr W27 Sf36_b22 C36.1 Sf36_b9
    have Sf37_b10 := Safe.wr W27 Sf36_b22 C36.1 Sf36_b10
    have Sf37_b1_4_2_17 := Safe.wr W27 Sf36_b22 C36.1 Sf36_b1_4_2_17
    have Sf37_b22 := Safe.wr W27 Sf36_b22 C36.1 Sf36_b22
    have C38 := C37.trans (CHr.wr W28 Sf37_b22 C37.1)
    have Sf38_b9 := Safe.wr W28 Sf37_b22 C37.1 Sf37_b9
    have Sf38_b10 := Safe.wr W28 Sf37_b22 C37.1 Sf37_b10
    have Sf38_b1_4_2_17 := Safe.wr W28 Sf37_b22 C37.1 Sf37_b1_4_2_17
    have Sf38_b22 := Safe.wr W28 Sf37_b22 C37.1 Sf37_b22
    have C39 := C38.trans (CHr.wr W29 Sf38_b22 C38.1)
    have Sf39_b9 := Safe.wr W29 Sf38_b22 C38.1 Sf38_b9
    have Sf39_b10 := Safe.wr W29 Sf38_b22 C38.1 Sf38_b10
    have Sf39_b1_4_2_17 := Safe.wr W29 Sf38_b22 C38.1 Sf38_b1_4_2_17
    have Sf39_b22 := Safe.wr W29 Sf38_b22 C38.1 Sf38_b22
    have C40 := C39.trans (CHr.wr W30 Sf39_b22 C39.1)
    have Sf40_b9 := Safe.wr W30 Sf39_b22 C39.1 Sf39_b9
    have Sf40_b10 := Safe.wr W30 Sf39_b22 C39.1 Sf39_b10
    have Sf40_b1_4_2_17 := Safe.wr W30 Sf39_b22 C39.1 Sf39_b1_4_2_17
    have Sf40_b22 := Safe.wr W30 Sf39_b22 C39.1 Sf39_b22
    have C41 := C40.trans (CHr.wr W31 Sf40_b22 C40.1)
    have Sf41_b9 := Safe.wr W31 Sf40_b22 C40.1 Sf40_b9
    have Sf41_b10 := Safe.wr W31 Sf40_b22 C40.1 Sf40_b10
    have Sf41_b1_4_2_17 := Safe.wr W31 Sf40_b22 C40.1 Sf40_b1_4_2_17
    have Sf41_b22 := Safe.wr W31 Sf40_b22 C40.1 Sf40_b22
    have C42 := C41.trans (CHr.wr W32 Sf41_b22 C41.1)
    have Sf42_b9 := Safe.wr W32 Sf41_b22 C41.1 Sf41_b9
    have Sf42_b10 := Safe.wr W32 Sf41_b22 C41.1 Sf41_b10
    have Sf42_b1_4_2_17 := Safe.wr W32 Sf41_b22 C41.1 Sf41_b1_4_2_17
    have Sf42_b22 := Safe.wr W32 Sf41_b22 C41.1 Sf41_b22
    obtain ⟨_, _, ⟨T34, L34, k34, n34⟩, -, X34, ⟨Lc34, hQ34, l34, y34, z34⟩, st34⟩ := Jvm.LawKit.callS X32 hx (y := nM9) hown (mvT hZ (ow hw 34 rfl)) (mvT hZ (ow hw 35 rfl)) (mvT hZ (ow hw 6 rfl)) (mvT hZ (ow hw 36 rfl)) (by decide) (backOf (W := 0) (rm8_7 l Z a0 hw [] yc cs h32 n0 (Nat.le_trans Z0 K32.1) f33 le_yc lx_yc c_cs) hZ (ow hw 36 rfl) (ow hw 6 rfl) (by decide) (by decide)) (g := (mkF m 177 #[vi p0, vi p1, vi p2, vi p3, vi p4, vi ya, vi yb, vi yc, vi yd, vi z36_5, vr b9, vr b22, .unset, .unset, .unset, .unset] [(.int yc)])) rfl (by rw [hml]; rfl) (argsL := [(.int yc)]) (rest := []) (lenOf pd_2 rfl) rfl (omw rfl rfl) (hb hby at_177) (fun _ _ => ⟨rfl, e32, (by decide : 4 + 2 ≤ _), (by decide : 13 + 5 ≤ _)⟩)
    dsimp only [Pt.U, Pt.locs, Pt.cells, Pt.slots] at X34 l34 y34 z34 st34 hQ34
    subst l34 y34 z34
    obtain ⟨h34, e34⟩ : ∃ z, T34.heap = z := ⟨_, rfl⟩
    rw [e34] at hQ34
    obtain ⟨b4_34, b1_5_34, k1_5_34, rfl, N34q, K34q, sz_b4_34, sz_b1_5_34, ne_b1_5_b4_34, q0_34, q1_34, q2_34, q3_34⟩ := hQ34
    have N34 := Fr.app N32 N34q
    have f43 := ((((((((f23.ext E22).wr W26).wr W27).wr W28).wr W29).wr W30).wr W31).wr W32)
    have lt34_b9 := f43.lt
    have f44 := ((((((((f24.ext E22).other W26 ne_b10_b22).other W27 ne_b10_b22).other W28 ne_b10_b22).other W29 ne_b10_b22).other W30 ne_b10_b22).other W31 ne_b10_b22).other W32 ne_b10_b22)
    have lt34_b10 := f44.lt
    have f45 := ((((((((f21.ext E22).other W26 ne_b1_4_2_17_b22).other W27 ne_b1_4_2_17_b22).other W28 ne_b1_4_2_17_b22).other W29 ne_b1_4_2_17_b22).other W30 ne_b1_4_2_17_b22).other W31 ne_b1_4_2_17_b22).other W32 ne_b1_4_2_17_b22)
    have lt34_b1_4_2_17 := f45.lt
    have lt34_b22 := V32.lt
    have Sf34_b4_34 : Safe Z own_EL vm0 h32 b4_34 := Safe.new sz_b4_34
    have ne_b9_b4_34 : b9 ≠ b4_34 := Nat.ne_of_lt (Nat.lt_of_lt_of_le lt34_b9 sz_b4_34)
    have ne_b10_b4_34 : b10 ≠ b4_34 := Nat.ne_of_lt (Nat.lt_of_lt_of_le lt34_b10 sz_b4_34)
    have ne_b1_4_2_17_b4_34 : b1_4_2_17 ≠ b4_34 := Nat.ne_of_lt (Nat.lt_of_lt_of_le lt34_b1_4_2_17 sz_b4_34)
    have ne_b22_b4_34 : b22 ≠ b4_34 := Nat.ne_of_lt (Nat.lt_of_lt_of_le lt34_b22 sz_b4_34)
    have gn_b4_34 : n0 ≤ b4_34 := Nat.le_trans (Nat.le_trans Z0 K32.1) sz_b4_34
    have sz_b4_34' := Nat.le_trans K32.1 sz_b4_34
    replace sz_b4_34 := sz_b4_34'
    have Sf34_b1_5_34 : Safe Z own_EL vm0 h32 b1_5_34 := Safe.new sz_b1_5_34
    have ne_b9_b1_5_34 : b9 ≠ b1_5_34 := Nat.ne_of_lt (Nat.lt_of_lt_of_le lt34_b9 sz_b1_5_34)
    have ne_b10_b1_5_34 : b10 ≠ b1_5_34 := Nat.ne_of_lt (Nat.lt_of_lt_of_le lt34_b10 sz_b1_5_34)
    have ne_b1_4_2_17_b1_5_34 : b1_4_2_17 ≠ b1_5_34 := Nat.ne_of_lt (Nat.lt_of_lt_of_le lt34_b1_4_2_17 sz_b1_5_34)
    have ne_b22_b1_5_34 : b22 ≠ b1_5_34 := Nat.ne_of_lt (Nat.lt_of_lt_of_le lt34_b22 sz_b1_5_34)
    have gn_b1_5_34 : n0 ≤ b1_5_34 := Nat.le_trans (Nat.le_trans Z0 K32.1) sz_b1_5_34
    have sz_b1_5_34' := Nat.le_trans K32.1 sz_b1_5_34
    replace sz_b1_5_34 := sz_b1_5_34'
    have K34 : Keep h0 h34 [] := K32.trans K34q all0
    have f46 := own_staK f33 K34q all0
    refine step (T34.setTop (mkF m 180 #[vi p0, vi p1, vi p2, vi p3, vi p4, vi ya, vi yb, vi yc, vi yd, vi z36_5, vr b9, vr b22, .unset, .unset, .unset, .unset] [(.ref b4_34)])) (fun t k => st34 t k) ?_
    have f47 := q3_34
    rw [hd_yc] at f47
    refine step (T34.setTop (mkF m 182 #[vi p0, vi p1, vi p2, vi p3, vi p4, vi ya, vi yb, vi yc, vi yd, vi z36_5, vr b9, vr b22, vr b4_34, .unset, .unset, .unset] [])) (fun t k => XS.astore X34.here hx rfl (hb hby at_180) rfl rfl (l' := #[vi p0, vi p1, vi p2, vi p3, vi p4, vi ya, vi yb, vi yc, vi yd, vi z36_5, vr b9, vr b22, vr b4_34, .unset, .unset, .unset]) rfl k) ?_
    refine oiL KK X34 at_182 yd 184 rfl rfl ?_
    have C49 := C42.trans (CHr.keep K34q all0 C42.1)
    have Sf49_b9 := Safe.keep K34q all0 C42.1 Sf42_b9
    have Sf49_b10 := Safe.keep K34q all0 C42.1 Sf42_b10
    have Sf49_b1_4_2_17 := Safe.keep K34q all0 C42.1 Sf42_b1_4_2_17
    have Sf49_b22 := Safe.keep K34q all0 C42.1 Sf42_b22
    have Sf49_b4_34 := Safe.keep K34q all0 C42.1 Sf34_b4_34
    have Sf49_b1_5_34 := Safe.keep K34q all0 C42.1 Sf34_b1_5_34
    obtain ⟨_, _, ⟨T48, L48, k48, n48⟩, -, X48, ⟨Lc48, hQ48, l48, y48, z48⟩, st48⟩ := Jvm.LawKit.callS X34 hx (y := nM9) hown (mvT hZ (ow hw 34 rfl)) (mvT hZ (ow hw 35 rfl)) (mvT hZ (ow hw 6 rfl)) (mvT hZ (ow hw 36 rfl)) (by decide) (backOf (W := 0) (rm8_7 l Z a0 hw [] yd cs h34 n0 (Nat.le_trans Z0 K34.1) f46 le_yd lx_yd c_cs) hZ (ow hw 36 rfl) (ow hw 6 rfl) (by decide) (by decide)) (g := (mkF m 184 #[vi p0, vi p1, vi p2, vi p3, vi p4, vi ya, vi yb, vi yc, vi yd, vi z36_5, vr b9, vr b22, vr b4_34, .unset, .unset, .unset] [(.int yd)])) rfl (by rw [hml]; rfl) (argsL := [(.int yd)]) (rest := []) (lenOf pd_2 rfl) rfl (omw rfl rfl) (hb hby at_184) (fun _ _ => ⟨rfl, e34, (by decide : 6 + 2 ≤ _), (by decide : 18 + 5 ≤ _)⟩)
    dsimp only [Pt.U, Pt.locs, Pt.cells, Pt.slots] at X48 l48 y48 z48 st48 hQ48
    subst l48 y48 z48
    obtain ⟨h48, e48⟩ : ∃ z, T48.heap = z := ⟨_, rfl⟩
    rw [e48] at hQ48
    obtain ⟨b4_48, b1_5_48, k1_5_48, rfl, N48q, K48q, sz_b4_48, sz_b1_5_48, ne_b1_5_b4_48, q0_48, q1_48, q2_48, q3_48⟩ := hQ48
    have N48 := Fr.app N34 N48q
    have f50 := (f43.keep K34q)
    have lt48_b9 := f50.lt
    have f51 := (f44.keep K34q nin0)
    have lt48_b10 := f51.lt
    have f52 := (f45.keep K34q nin0)
    have lt48_b1_4_2_17 := f52.lt
    have f53 := (V32.keep K34q nin0)
    have lt48_b22 := f53.lt
    have lt48_b4_34 := q0_34.lt
    have lt48_b1_5_34 := f47.lt
    have Sf48_b4_48 : Safe Z own_EL vm0 h34 b4_48 := Safe.new sz_b4_48
    have ne_b9_b4_48 : b9 ≠ b4_48 := Nat.ne_of_lt (Nat.lt_of_lt_of_le lt48_b9 sz_b4_48)
    have ne_b10_b4_48 : b10 ≠ b4_48 := Nat.ne_of_lt (Nat.lt_of_lt_of_le lt48_b10 sz_b4_48)
    have ne_b1_4_2_17_b4_48 : b1_4_2_17 ≠ b4_48 := Nat.ne_of_lt (Nat.lt_of_lt_of_le lt48_b1_4_2_17 sz_b4_48)
    have ne_b22_b4_48 : b22 ≠ b4_48 := Nat.ne_of_lt (Nat.lt_of_lt_of_le lt48_b22 sz_b4_48)
    have ne_b4_34_b4_48 : b4_34 ≠ b4_48 := Nat.ne_of_lt (Nat.lt_of_lt_of_le lt48_b4_34 sz_b4_48)
    have ne_b1_5_34_b4_48 : b1_5_34 ≠ b4_48 := Nat.ne_of_lt (Nat.lt_of_lt_of_le lt48_b1_5_34 sz_b4_48)
    have gn_b4_48 : n0 ≤ b4_48 := Nat.le_trans (Nat.le_trans Z0 K34.1) sz_b4_48
    have sz_b4_48' := Nat.le_trans K34.1 sz_b4_48
    replace sz_b4_48 := sz_b4_48'
    have Sf48_b1_5_48 : Safe Z own_EL vm0 h34 b1_5_48 := Safe.new sz_b1_5_48
    have ne_b9_b1_5_48 : b9 ≠ b1_5_48 := Nat.ne_of_lt (Nat.lt_of_lt_of_le lt48_b9 sz_b1_5_48)
    have ne_b10_b1_5_48 : b10 ≠ b1_5_48 := Nat.ne_of_lt (Nat.lt_of_lt_of_le lt48_b10 sz_b1_5_48)
    have ne_b1_4_2_17_b1_5_48 : b1_4_2_17 ≠ b1_5_48 := Nat.ne_of_lt (Nat.lt_of_lt_of_le lt48_b1_4_2_17 sz_b1_5_48)
    have ne_b22_b1_5_48 : b22 ≠ b1_5_48 := Nat.ne_of_lt (Nat.lt_of_lt_of_le lt48_b22 sz_b1_5_48)
    have ne_b4_34_b1_5_48 : b4_34 ≠ b1_5_48 := Nat.ne_of_lt (Nat.lt_of_lt_of_le lt48_b4_34 sz_b1_5_48)
    have ne_b1_5_34_b1_5_48 : b1_5_34 ≠ b1_5_48 := Nat.ne_of_lt (Nat.lt_of_lt_of_le lt48_b1_5_34 sz_b1_5_48)
    have gn_b1_5_48 : n0 ≤ b1_5_48 := Nat.le_trans (Nat.le_trans Z0 K34.1) sz_b1_5_48
    have sz_b1_5_48' := Nat.le_trans K34.1 sz_b1_5_48
    replace sz_b1_5_48 := sz_b1_5_48'
    have K48 : Keep h0 h48 [] := K34.trans K48q all0
    have f54 := own_staK f46 K48q all0
    refine step (T48.setTop (mkF m 187 #[vi p0, vi p1, vi p2, vi p3, vi p4, vi ya, vi yb, vi yc, vi yd, vi z36_5, vr b9, vr b22, vr b4_34, .unset, .unset, .unset] [(.ref b4_48)])) (fun t k => st48 t k) ?_
    have f55 := q3_48
    rw [hd_yd] at f55
    refine step (T48.setTop (mkF m 189 #[vi p0, vi p1, vi p2, vi p3, vi p4, vi ya, vi yb, vi yc, vi yd, vi z36_5, vr b9, vr b22, vr b4_34, vr b4_48, .unset, .unset] [])) (fun t k => XS.astore X48.here hx rfl (hb hby at_187) rfl rfl (l' := #[vi p0, vi p1, vi p2, vi p3, vi p4, vi ya, vi yb, vi yc, vi yd, vi z36_5, vr b9, vr b22, vr b4_34, vr b4_48, .unset, .unset]) rfl k) ?_
    refine oaL KK X48 at_189 (.ref b9) 191 rfl rfl rfl ?_
    have f56 := (f50.keep K48q)
    have f57 := ((((((((((q0_17.ext E22).other W26 (Or.inl ne_b9_b22)).other W27 (Or.inl ne_b9_b22)).other W28 (Or.inl ne_b9_b22)).other W29 (Or.inl ne_b9_b22)).other W30 (Or.inl ne_b9_b22)).other W31 (Or.inl ne_b9_b22)).other W32 (Or.inl ne_b9_b22)).keep K34q nin0).keep K48q nin0)
    have f58 := ((((((((((q1_17.ext E22).other W26 (Or.inl ne_b9_b22)).other W27 (Or.inl ne_b9_b22)).other W28 (Or.inl ne_b9_b22)).other W29 (Or.inl ne_b9_b22)).other W30 (Or.inl ne_b9_b22)).other W31 (Or.inl ne_b9_b22)).other W32 (Or.inl ne_b9_b22)).keep K34q nin0).keep K48q nin0)
    have f59 := (f52.keep K48q nin0)
    have C61 := C49.trans (CHr.keep K48q all0 C49.1)
    have Sf61_b9 := Safe.keep K48q all0 C49.1 Sf49_b9
    have Sf61_b10 := Safe.keep K48q all0 C49.1 Sf49_b10
    have Sf61_b1_4_2_17 := Safe.keep K48q all0 C49.1 Sf49_b1_4_2_17
    have Sf61_b22 := Safe.keep K48q all0 C49.1 Sf49_b22
    have Sf61_b4_34 := Safe.keep K48q all0 C49.1 Sf49_b4_34
    have Sf61_b1_5_34 := Safe.keep K48q all0 C49.1 Sf49_b1_5_34
    have Sf61_b4_48 := Safe.keep K48q all0 C49.1 Sf48_b4_48
    have Sf61_b1_5_48 := Safe.keep K48q all0 C49.1 Sf48_b1_5_48
    have hl60_b9 := f56.lt
    have f62 := (f51.keep K48q nin0)
    have hl60_b10 := f62.lt
    have hl60_b1_4_2_17 := f59.lt
    have f63 := (f53.keep K48q nin0)
    have hl60_b22 := f63.lt
    have f64 := (q0_34.keep K48q)
    have hl60_b4_34 := f64.lt
    have f65 := (f47.keep K48q nin0)
    have hl60_b1_5_34 := f65.lt
    have hl60_b4_48 := q0_48.lt
    have hl60_b1_5_48 := f55.lt
    obtain ⟨_, _, ⟨T60, L60, k60, n60⟩, -, X60', hS60', hg60, ⟨Lc60, hQ60, l60, y60, z60, hC60⟩, st60⟩ := callSS X48 hx (y := nM23) hown (mvT hZ (ow hw 48 rfl)) (mvT hZ (ow hw 49 rfl)) (mvT hZ (ow hw 50 rfl)) (mvT hZ (ow hw 51 rfl)) (by decide) (backOfSH (W := 0) (rm12_11 l Z a0 hw [] b9 cs b1_4_2_17 k1_4_2_17 wya h48 n0 (Nat.le_trans Z0 K48.1) f54 f56 f57 f58 f59 gn_b9 ne_b9_b1_4_2_17 gn_b1_4_2_17 c_cs na_ya nb_ya) hZ (ow hw 51 rfl) (ow hw 50 rfl) (by decide) (by decide) (own_EWs hw) C61.1) (g := (mkF m 191 #[vi p0, vi p1, vi p2, vi p3, vi p4, vi ya, vi yb, vi yc, vi yd, vi z36_5, vr b9, vr b22, vr b4_34, vr b4_48, .unset, .unset] [(.ref b9)])) rfl (by rw [hml]; rfl) (argsL := [(.ref b9)]) (rest := []) (lenOf pd_3 rfl) rfl (omw rfl rfl) (hb hby at_191) (fun _ _ => ⟨rfl, e48, (by decide : 8 + 3 ≤ _), (by decide : 23 + 29 ≤ _)⟩)
    dsimp only [Pt.U, Pt.locs, Pt.cells, Pt.slots] at X60' hS60' hg60 l60 y60 z60 st60 hQ60 hC60
    subst l60 y60 z60
    obtain ⟨X60, hS60, hZ60, hown60⟩ := rebS hS (Nat.le_trans (Nat.le_trans (Nat.le_trans (Nat.le_trans (Nat.le_trans (Nat.le_trans (Nat.le_trans (Nat.le_trans (Nat.le_trans (Nat.le_trans (Nat.le_trans (Nat.le_trans (Nat.le_trans (Nat.le_trans (Nat.le_trans hk E9.1) E10.1) (Keep.of_wr W12).1) K17q.1) E22.1) (Keep.of_wr W26).1) (Keep.of_wr W27).1) (Keep.of_wr W28).1) (Keep.of_wr W29).1) (Keep.of_wr W30).1) (Keep.of_wr W31).1) (Keep.of_wr W32).1) K34q.1) K48q.1) (Nat.le_of_eq (congrArg Array.size e48.symm))) X60' hS60' hg60 hZ hown
    replace hS := hS60
    replace hZ : Z.Warmed39 T60.vm := hZ60
    replace hown : T60.vm.findClass "com/example/dibs/dibs/core/KeyspaceWithPrefixPinLaw" = some m.cls := hown60
    obtain ⟨h60, e60⟩ : ∃ z, T60.heap = z := ⟨_, rfl⟩
    rw [e60] at hQ60
    obtain ⟨b1_60, rfl, N60q, K60q, sz_b1_60, q0_60, q1_60⟩ := hQ60
    have N60 := Fr.app N48 N60q
    have lt60_b9 := f56.lt
    have lt60_b10 := f62.lt
    have lt60_b1_4_2_17 := f59.lt
    have lt60_b22 := f63.lt
    have lt60_b4_34 := f64.lt
    have lt60_b1_5_34 := f65.lt
    have lt60_b4_48 := q0_48.lt
    have lt60_b1_5_48 := f55.lt
    have ne_b9_b1_60 : b9 ≠ b1_60 := Nat.ne_of_lt (Nat.lt_of_lt_of_le lt60_b9 sz_b1_60)
    have ne_b10_b1_60 : b10 ≠ b1_60 := Nat.ne_of_lt (Nat.lt_of_lt_of_le lt60_b10 sz_b1_60)
    have ne_b1_4_2_17_b1_60 : b1_4_2_17 ≠ b1_60 := Nat.ne_of_lt (Nat.lt_of_lt_of_le lt60_b1_4_2_17 sz_b1_60)
    have ne_b22_b1_60 : b22 ≠ b1_60 := Nat.ne_of_lt (Nat.lt_of_lt_of_le lt60_b22 sz_b1_60)
    have ne_b4_34_b1_60 : b4_34 ≠ b1_60 := Nat.ne_of_lt (Nat.lt_of_lt_of_le lt60_b4_34 sz_b1_60)
    have ne_b1_5_34_b1_60 : b1_5_34 ≠ b1_60 := Nat.ne_of_lt (Nat.lt_of_lt_of_le lt60_b1_5_34 sz_b1_60)
    have ne_b4_48_b1_60 : b4_48 ≠ b1_60 := Nat.ne_of_lt (Nat.lt_of_lt_of_le lt60_b4_48 sz_b1_60)
    have ne_b1_5_48_b1_60 : b1_5_48 ≠ b1_60 := Nat.ne_of_lt (Nat.lt_of_lt_of_le lt60_b1_5_48 sz_b1_60)
    have gn_b1_60 : n0 ≤ b1_60 := Nat.le_trans (Nat.le_trans Z0 K48.1) sz_b1_60
    have sz_b1_60' := Nat.le_trans K48.1 sz_b1_60
    replace sz_b1_60 := sz_b1_60'
    have K60 : Keep h0 h60 [] := K48.trans K60q all0
    have f66 := own_staK f54 K60q all0
    rw [e60] at hC60
    have C60 := C61.trans hC60
    have Sf60_b9 := hC60.safe hl60_b9 Sf61_b9
    have Sf60_b10 := hC60.safe hl60_b10 Sf61_b10
    have Sf60_b1_4_2_17 := hC60.safe hl60_b1_4_2_17 Sf61_b1_4_2_17
    have Sf60_b22 := hC60.safe hl60_b22 Sf61_b22
    have Sf60_b4_34 := hC60.safe hl60_b4_34 Sf61_b4_34
    have Sf60_b1_5_34 := hC60.safe hl60_b1_5_34 Sf61_b1_5_34
    have Sf60_b4_48 := hC60.safe hl60_b4_48 Sf61_b4_48
    have Sf60_b1_5_48 := hC60.safe hl60_b1_5_48 Sf61_b1_5_48
    have hk60 : T60.heap.size ≤ h60.size := Nat.le_of_eq (congrArg Array.size e60)
    refine step (T60.setTop (mkF m 194 #[vi p0, vi p1, vi p2, vi p3, vi p4, vi ya, vi yb, vi yc, vi yd, vi z36_5, vr b9, vr b22, vr b4_34, vr b4_48, .unset, .unset] [(.ref b1_60)])) (fun t k => st60.trans k) ?_
    refine step (T60.setTop (mkF m 196 #[vi p0, vi p1, vi p2, vi p3, vi p4, vi ya, vi yb, vi yc, vi yd, vi z36_5, vr b9, vr b22, vr b4_34, vr b4_48, vr b1_60, .unset] [])) (fun t k => XS.astore X60.here hx rfl (hb hby at_194) rfl rfl (l' := #[vi p0, vi p1, vi p2, vi p3, vi p4, vi ya, vi yb, vi yc, vi yd, vi z36_5, vr b9, vr b22, vr b4_34, vr b4_48, vr b1_60, .unset]) rfl k) ?_
    refine oaL KK X60 at_196 (.ref b1_60) 198 rfl rfl rfl ?_
    refine oaL KK X60 at_198 (.ref b4_34) 200 rfl rfl rfl ?_
    refine oaL KK X60 at_200 (.ref b4_48) 202 rfl rfl rfl ?_
    have f67 := (f64.keep K60q)
    have f68 := ((q1_34.keep K48q nin0).keep K60q nin0)
    have f69 := ((q2_34.keep K48q nin0).keep K60q nin0)
    have f70 := (q0_48.keep K60q)
    have f71 := (q1_48.keep K60q nin0)
    have f72 := (q2_48.keep K60q nin0)
    have f73 := (f56.keep K60q)
    have f74 := (f57.keep K60q nin0)
    have f75 := (f58.keep K60q nin0)
    have f76 := (f65.keep K60q nin0)
    have f77 := (f55.keep K60q nin0)
    have f78 := (f59.keep K60q nin0)
    have hl79_b9 := f73.lt
    have f80 := (f62.keep K60q nin0)
    have hl79_b10 := f80.lt
    have hl79_b1_4_2_17 := f78.lt
    have f81 := (f63.keep K60q nin0)
    have hl79_b22 := f81.lt
    have hl79_b4_34 := f67.lt
    have hl79_b1_5_34 := f76.lt
    have hl79_b4_48 := f70.lt
    have hl79_b1_5_48 := f77.lt
    obtain ⟨cq79, kq79, q79a, q79b, q79c⟩ := isOf hZ e60 q0_60
    obtain ⟨_, _, ⟨T79, L79, k79, n79⟩, -, X79', hS79', hg79, ⟨Lc79, hQ79, l79, y79, z79, hC79⟩, st79⟩ := X60.virtualBackS hx (y := nM43) (z := nM43) hown (mvT hZ (ow hw 112 rfl)) (mvT hZ (ow hw 113 rfl)) (notFace_of_selects (args := #[]) (mvT hZ (ow hw 115 rfl))) (mvT hZ (ow hw 115 rfl)) (mvT hZ (ow hw 114 rfl)) (by decide) (backOfSH (W := 0) (rm26_30 l Z a0 hw [] b1_60 b4_34 b4_48 cs b9 b1_5_34 b1_5_48 b1_4_2_17 k1_5_34 wyc k1_5_48 wyd k1_4_2_17 wya h60 n0 (Nat.le_trans Z0 K60.1) f66 q0_60 q1_60 f67 f68 f69 f70 f71 f72 f73 f74 f75 f76 f77 f78 gn_b1_60 (Ne.symm ne_b4_34_b1_60) (Ne.symm ne_b4_48_b1_60) (Ne.symm ne_b9_b1_60) (Ne.symm ne_b1_5_34_b1_60) (Ne.symm ne_b1_5_48_b1_60) (Ne.symm ne_b1_4_2_17_b1_60) gn_b4_34 ne_b4_34_b4_48 (Ne.symm ne_b9_b4_34) (Ne.symm ne_b1_5_b4_34) ne_b4_34_b1_5_48 (Ne.symm ne_b1_4_2_17_b4_34) gn_b4_48 (Ne.symm ne_b9_b4_48) (Ne.symm ne_b1_5_34_b4_48) (Ne.symm ne_b1_5_b4_48) (Ne.symm ne_b1_4_2_17_b4_48) gn_b9 ne_b9_b1_5_34 ne_b9_b1_5_48 ne_b9_b1_4_2_17 gn_b1_5_34 ne_b1_5_34_b1_5_48 (Ne.symm ne_b1_4_2_17_b1_5_34) gn_b1_5_48 (Ne.symm ne_b1_4_2_17_b1_5_48) gn_b1_4_2_17 c_cs na_ya nb_ya na_yc nb_yc na_yd nb_yd) hZ (ow hw 116 rfl) (ow hw 50 rfl) (by decide) (by decide) (own_EWs hw) C60.1) q79a q79c (g := (mkF m 202 #[vi p0, vi p1, vi p2, vi p3, vi p4, vi ya, vi yb, vi yc, vi yd, vi z36_5, vr b9, vr b22, vr b4_34, vr b4_48, vr b1_60, .unset] [(.ref b4_48), (.ref b4_34), (.ref b1_60)])) rfl (by rw [hml]; rfl) (Steps.refl _) (argsL := [(.ref b4_34), (.ref b4_48)]) (rest := []) (lenOf pd_4 rfl) rfl (omw rfl rfl) (hb hby at_202) (fun _ _ => ⟨rfl, e60, (by decide : 11 + 12 ≤ _), (by decide : 52 + 95 ≤ _)⟩)
    dsimp only [Pt.U, Pt.locs, Pt.cells, Pt.slots] at X79' hS79' hg79 l79 y79 z79 st79 hQ79 hC79
    subst l79 y79 z79
    obtain ⟨X79, hS79, hZ79, hown79⟩ := rebS hS (Nat.le_trans hk60 (Nat.le_of_eq (congrArg Array.size e60.symm))) X79' hS79' hg79 hZ hown
    replace hS := hS79
    replace hZ : Z.Warmed39 T79.vm := hZ79
    replace hown : T79.vm.findClass "com/example/dibs/dibs/core/KeyspaceWithPrefixPinLaw" = some m.cls := hown79
    obtain ⟨h79, e79⟩ : ∃ z, T79.heap = z := ⟨_, rfl⟩
    rw [e79] at hQ79
    obtain ⟨b1_76_79, b2_2_7_1_8_76_79, k2_2_7_1_8_76_79, rfl, N79q, K79q, sz_b1_76_79, sz_b2_2_7_1_8_76_79, ne_b1_76_b2_2_7_1_8_76_79, q0_79, q1_79, q2_79, q3_79⟩ := hQ79
    have N79 := Fr.app N60 N79q
    have lt79_b9 := f73.lt
    have lt79_b10 := f80.lt
    have lt79_b1_4_2_17 := f78.lt
    have lt79_b22 := f81.lt
    have lt79_b4_34 := f67.lt
    have lt79_b1_5_34 := f76.lt
    have lt79_b4_48 := f70.lt
    have lt79_b1_5_48 := f77.lt
    have lt79_b1_60 := q0_60.lt
    have ne_b9_b1_76_79 : b9 ≠ b1_76_79 := Nat.ne_of_lt (Nat.lt_of_lt_of_le lt79_b9 sz_b1_76_79)
    have ne_b10_b1_76_79 : b10 ≠ b1_76_79 := Nat.ne_of_lt (Nat.lt_of_lt_of_le lt79_b10 sz_b1_76_79)
    have ne_b1_4_2_17_b1_76_79 : b1_4_2_17 ≠ b1_76_79 := Nat.ne_of_lt (Nat.lt_of_lt_of_le lt79_b1_4_2_17 sz_b1_76_79)
    have ne_b22_b1_76_79 : b22 ≠ b1_76_79 := Nat.ne_of_lt (Nat.lt_of_lt_of_le lt79_b22 sz_b1_76_79)
    have ne_b4_34_b1_76_79 : b4_34 ≠ b1_76_79 := Nat.ne_of_lt (Nat.lt_of_lt_of_le lt79_b4_34 sz_b1_76_79)
    have ne_b1_5_34_b1_76_79 : b1_5_34 ≠ b1_76_79 := Nat.ne_of_lt (Nat.lt_of_lt_of_le lt79_b1_5_34 sz_b1_76_79)
    have ne_b4_48_b1_76_79 : b4_48 ≠ b1_76_79 := Nat.ne_of_lt (Nat.lt_of_lt_of_le lt79_b4_48 sz_b1_76_79)
    have ne_b1_5_48_b1_76_79 : b1_5_48 ≠ b1_76_79 := Nat.ne_of_lt (Nat.lt_of_lt_of_le lt79_b1_5_48 sz_b1_76_79)
    have ne_b1_60_b1_76_79 : b1_60 ≠ b1_76_79 := Nat.ne_of_lt (Nat.lt_of_lt_of_le lt79_b1_60 sz_b1_76_79)
    have gn_b1_76_79 : n0 ≤ b1_76_79 := Nat.le_trans (Nat.le_trans Z0 K60.1) sz_b1_76_79
    have sz_b1_76_79' := Nat.le_trans K60.1 sz_b1_76_79
    replace sz_b1_76_79 := sz_b1_76_79'
    have ne_b9_b2_2_7_1_8_76_79 : b9 ≠ b2_2_7_1_8_76_79 := Nat.ne_of_lt (Nat.lt_of_lt_of_le lt79_b9 sz_b2_2_7_1_8_76_79)
    have ne_b10_b2_2_7_1_8_76_79 : b10 ≠ b2_2_7_1_8_76_79 := Nat.ne_of_lt (Nat.lt_of_lt_of_le lt79_b10 sz_b2_2_7_1_8_76_79)
    have ne_b1_4_2_17_b2_2_7_1_8_76_79 : b1_4_2_17 ≠ b2_2_7_1_8_76_79 := Nat.ne_of_lt (Nat.lt_of_lt_of_le lt79_b1_4_2_17 sz_b2_2_7_1_8_76_79)
    have ne_b22_b2_2_7_1_8_76_79 : b22 ≠ b2_2_7_1_8_76_79 := Nat.ne_of_lt (Nat.lt_of_lt_of_le lt79_b22 sz_b2_2_7_1_8_76_79)
    have ne_b4_34_b2_2_7_1_8_76_79 : b4_34 ≠ b2_2_7_1_8_76_79 := Nat.ne_of_lt (Nat.lt_of_lt_of_le lt79_b4_34 sz_b2_2_7_1_8_76_79)
    have ne_b1_5_34_b2_2_7_1_8_76_79 : b1_5_34 ≠ b2_2_7_1_8_76_79 := Nat.ne_of_lt (Nat.lt_of_lt_of_le lt79_b1_5_34 sz_b2_2_7_1_8_76_79)
    have ne_b4_48_b2_2_7_1_8_76_79 : b4_48 ≠ b2_2_7_1_8_76_79 := Nat.ne_of_lt (Nat.lt_of_lt_of_le lt79_b4_48 sz_b2_2_7_1_8_76_79)
    have ne_b1_5_48_b2_2_7_1_8_76_79 : b1_5_48 ≠ b2_2_7_1_8_76_79 := Nat.ne_of_lt (Nat.lt_of_lt_of_le lt79_b1_5_48 sz_b2_2_7_1_8_76_79)
    have ne_b1_60_b2_2_7_1_8_76_79 : b1_60 ≠ b2_2_7_1_8_76_79 := Nat.ne_of_lt (Nat.lt_of_lt_of_le lt79_b1_60 sz_b2_2_7_1_8_76_79)
    have gn_b2_2_7_1_8_76_79 : n0 ≤ b2_2_7_1_8_76_79 := Nat.le_trans (Nat.le_trans Z0 K60.1) sz_b2_2_7_1_8_76_79
    have sz_b2_2_7_1_8_76_79' := Nat.le_trans K60.1 sz_b2_2_7_1_8_76_79
    replace sz_b2_2_7_1_8_76_79 := sz_b2_2_7_1_8_76_79'
    have K79 : Keep h0 h79 [] := K60.trans K79q all0
    have f82 := own_staK f66 K79q all0
    rw [e79] at hC79
    have C79 := C60.trans hC79
    have Sf79_b9 := hC79.safe hl79_b9 Sf60_b9
    have Sf79_b10 := hC79.safe hl79_b10 Sf60_b10
    have Sf79_b1_4_2_17 := hC79.safe hl79_b1_4_2_17 Sf60_b1_4_2_17
    have Sf79_b22 := hC79.safe hl79_b22 Sf60_b22
    have Sf79_b4_34 := hC79.safe hl79_b4_34 Sf60_b4_34
    have Sf79_b1_5_34 := hC79.safe hl79_b1_5_34 Sf60_b1_5_34
    have Sf79_b4_48 := hC79.safe hl79_b4_48 Sf60_b4_48
    have Sf79_b1_5_48 := hC79.safe hl79_b1_5_48 Sf60_b1_5_48
    have hk79 : T79.heap.size ≤ h79.size := Nat.le_of_eq (congrArg Array.size e79)
    refine step (T79.setTop (mkF m 205 #[vi p0, vi p1, vi p2, vi p3, vi p4, vi ya, vi yb, vi yc, vi yd, vi z36_5, vr b9, vr b22, vr b4_34, vr b4_48, vr b1_60, .unset] [(.ref b1_76_79)])) (fun t k => st79.trans k) ?_
    refine step (T79.setTop (mkF m 207 #[vi p0, vi p1, vi p2, vi p3, vi p4, vi ya, vi yb, vi yc, vi yd, vi z36_5, vr b9, vr b22, vr b4_34, vr b4_48, vr b1_60, vr b1_76_79] [])) (fun t k => XS.astore X79.here hx rfl (hb hby at_205) rfl rfl (l' := #[vi p0, vi p1, vi p2, vi p3, vi p4, vi ya, vi yb, vi yc, vi yd, vi z36_5, vr b9, vr b22, vr b4_34, vr b4_48, vr b1_60, vr b1_76_79]) rfl k) ?_
    refine oaL KK X79 at_207 (.ref b1_76_79) 209 rfl rfl rfl ?_
    obtain ⟨T83, h83, X83, e83, E83, A83, D83, -, st83⟩ := newO X79 hx hZ hown (ow hw 4 rfl) (ow hw 5 rfl) (ow hw 6 rfl) e79 (g := (mkF m 209 #[vi p0, vi p1, vi p2, vi p3, vi p4, vi ya, vi yb, vi yc, vi yd, vi z36_5, vr b9, vr b22, vr b4_34, vr b4_48, vr b1_60, vr b1_76_79] [(.ref b1_76_79)])) rfl (hb hby at_209) (by decide) (by decide)
    obtain ⟨b83, g83⟩ : ∃ z, z = h79.size := ⟨_, rfl⟩
    rw [← g83] at A83 D83 st83
    have f84 := (f73.keep K79q)
    have ne_b9_b83 : b9 ≠ b83 := Nat.ne_of_lt (Nat.lt_of_lt_of_le f84.lt (Nat.le_of_eq g83.symm))
    have f85 := (f80.keep K79q nin0)
    have ne_b10_b83 : b10 ≠ b83 := Nat.ne_of_lt (Nat.lt_of_lt_of_le f85.lt (Nat.le_of_eq g83.symm))
    have f86 := (f78.keep K79q nin0)
    have ne_b1_4_2_17_b83 : b1_4_2_17 ≠ b83 := Nat.ne_of_lt (Nat.lt_of_lt_of_le f86.lt (Nat.le_of_eq g83.symm))
    have f87 := (f81.keep K79q nin0)
    have ne_b22_b83 : b22 ≠ b83 := Nat.ne_of_lt (Nat.lt_of_lt_of_le f87.lt (Nat.le_of_eq g83.symm))
    have f88 := (f67.keep K79q)
    have ne_b4_34_b83 : b4_34 ≠ b83 := Nat.ne_of_lt (Nat.lt_of_lt_of_le f88.lt (Nat.le_of_eq g83.symm))
    have f89 := (f76.keep K79q nin0)
    have ne_b1_5_34_b83 : b1_5_34 ≠ b83 := Nat.ne_of_lt (Nat.lt_of_lt_of_le f89.lt (Nat.le_of_eq g83.symm))
    have f90 := (f70.keep K79q)
    have ne_b4_48_b83 : b4_48 ≠ b83 := Nat.ne_of_lt (Nat.lt_of_lt_of_le f90.lt (Nat.le_of_eq g83.symm))
    have f91 := (f77.keep K79q nin0)
    have ne_b1_5_48_b83 : b1_5_48 ≠ b83 := Nat.ne_of_lt (Nat.lt_of_lt_of_le f91.lt (Nat.le_of_eq g83.symm))
    have f92 := (q0_60.keep K79q)
    have ne_b1_60_b83 : b1_60 ≠ b83 := Nat.ne_of_lt (Nat.lt_of_lt_of_le f92.lt (Nat.le_of_eq g83.symm))
    have ne_b1_76_79_b83 : b1_76_79 ≠ b83 := Nat.ne_of_lt (Nat.lt_of_lt_of_le q0_79.lt (Nat.le_of_eq g83.symm))
    have ne_b2_2_7_1_8_76_79_b83 : b2_2_7_1_8_76_79 ≠ b83 := Nat.ne_of_lt (Nat.lt_of_lt_of_le q3_79.lt (Nat.le_of_eq g83.symm))
    have gn_b83 : n0 ≤ b83 := Nat.le_trans (Nat.le_trans Z0 K79.1) (Nat.le_of_eq g83.symm)
    have sz_b83 : h0.size ≤ b83 := Nat.le_trans K79.1 (Nat.le_of_eq g83.symm)
    have Sf83_b83 : Safe Z own_EL T79.vm h79 b83 := Safe.new (Nat.le_of_eq g83.symm)
    have K83 : Keep h0 h83 [] := K79.ext E83
    have F_coder_b83 : Fld Z h83 b83 "java/lang/String" "coder" "B" (.int 0) := D83 (Or.inr (ow hw 31 rfl)) (ty := .byte) (by decide)
    have F_value_b83 : Fld Z h83 b83 "java/lang/String" "value" "[B" .null := D83 (Or.inr (ow hw 33 rfl)) (ty := (.array .byte)) (by decide)
    refine step (T83.setTop (mkF m 212 #[vi p0, vi p1, vi p2, vi p3, vi p4, vi ya, vi yb, vi yc, vi yd, vi z36_5, vr b9, vr b22, vr b4_34, vr b4_48, vr b1_60, vr b1_76_79] [(.ref b83), (.ref b1_76_79)])) (fun t k => st83 t k) ?_
    refine odu KK X83 at_212 213 rfl rfl ?_
    refine oaL KK X83 at_213 (.ref b22) 215 rfl rfl rfl ?_
    have f93 := (f82.ext E83)
    have f94 := (f87.ext E83)
    have C96 := C79.trans (CHr.ext E83 C79.1)
    have Sf96_b9 := Safe.ext E83 C79.1 Sf79_b9
    have Sf96_b10 := Safe.ext E83 C79.1 Sf79_b10
    have Sf96_b1_4_2_17 := Safe.ext E83 C79.1 Sf79_b1_4_2_17
    have Sf96_b22 := Safe.ext E83 C79.1 Sf79_b22
    have Sf96_b4_34 := Safe.ext E83 C79.1 Sf79_b4_34
    have Sf96_b1_5_34 := Safe.ext E83 C79.1 Sf79_b1_5_34
    have Sf96_b4_48 := Safe.ext E83 C79.1 Sf79_b4_48
    have Sf96_b1_5_48 := Safe.ext E83 C79.1 Sf79_b1_5_48
    have Sf96_b83 := Safe.ext E83 C79.1 Sf83_b83
    obtain ⟨_, _, ⟨T95, L95, k95, n95⟩, -, X95, ⟨Lc95, hQ95, l95, y95, z95⟩, st95⟩ := X83.specialBack hx (y := nM5) rfl hown (mvT hZ (ow hw 8 rfl)) (mvT hZ (ow hw 9 rfl)) (mvT hZ (ow hw 10 rfl)) (by decide) (backOf (W := 2) (rm2_64 l Z a0 hw [] b83 b22 cs k22 (nar .char ya) (nar .char yc) (nar .char yd) h83 n0 (Nat.le_trans Z0 K83.1) f93 A83 F_coder_b83 F_value_b83 f94 gn_b83 (Ne.symm ne_b22_b83) gn_b22 le_ya le_yc le_yd c_cs) hZ (ow hw 10 rfl) (ow hw 6 rfl) (by decide) (by decide)) (g := (mkF m 215 #[vi p0, vi p1, vi p2, vi p3, vi p4, vi ya, vi yb, vi yc, vi yd, vi z36_5, vr b9, vr b22, vr b4_34, vr b4_48, vr b1_60, vr b1_76_79] [(.ref b22), (.ref b83), (.ref b83), (.ref b1_76_79)])) rfl (by rw [hml]; rfl) (Steps.refl _) (a := b83) (argsL := [(.ref b22)]) (rest := [(.ref b83), (.ref b1_76_79)]) (lenOf pd_1 rfl) rfl (omw rfl rfl) (hb hby at_215) (fun _ _ => ⟨rfl, e83, (by decide : 24 + 1 ≤ _), (by decide : 151 + 7 ≤ _)⟩)
    dsimp only [Pt.U, Pt.locs, Pt.cells, Pt.slots] at X95 l95 y95 z95 st95 hQ95
    subst l95 y95 z95
    obtain ⟨h95, e95⟩ : ∃ z, T95.heap = z := ⟨_, rfl⟩
    rw [e95] at hQ95
    obtain ⟨b1_4_2_95, k1_4_2_95, rfl, N95q, K95q, sz_b1_4_2_95, q0_95, q1_95, q2_95⟩ := hQ95
    have N95 := Fr.app N79 N95q
    have f97 := (f84.ext E83)
    have lt95_b9 := f97.lt
    have f98 := (f85.ext E83)
    have lt95_b10 := f98.lt
    have f99 := (f86.ext E83)
    have lt95_b1_4_2_17 := f99.lt
    have lt95_b22 := f94.lt
    have f100 := (f88.ext E83)
    have lt95_b4_34 := f100.lt
    have f101 := (f89.ext E83)
    have lt95_b1_5_34 := f101.lt
    have f102 := (f90.ext E83)
    have lt95_b4_48 := f102.lt
    have f103 := (f91.ext E83)
    have lt95_b1_5_48 := f103.lt
    have f104 := (f92.ext E83)
    have lt95_b1_60 := f104.lt
    have f105 := (q0_79.ext E83)
    have lt95_b1_76_79 := f105.lt
    have f106 := (q3_79.ext E83)
    have lt95_b2_2_7_1_8_76_79 := f106.lt
    have lt95_b83 := A83.lt
    have Sf95_b1_4_2_95 : Safe Z own_EL T79.vm h83 b1_4_2_95 := Safe.new sz_b1_4_2_95
    have ne_b9_b1_4_2_95 : b9 ≠ b1_4_2_95 := Nat.ne_of_lt (Nat.lt_of_lt_of_le lt95_b9 sz_b1_4_2_95)
    have ne_b10_b1_4_2_95 : b10 ≠ b1_4_2_95 := Nat.ne_of_lt (Nat.lt_of_lt_of_le lt95_b10 sz_b1_4_2_95)
    have ne_b1_4_2_17_b1_4_2_95 : b1_4_2_17 ≠ b1_4_2_95 := Nat.ne_of_lt (Nat.lt_of_lt_of_le lt95_b1_4_2_17 sz_b1_4_2_95)
    have ne_b22_b1_4_2_95 : b22 ≠ b1_4_2_95 := Nat.ne_of_lt (Nat.lt_of_lt_of_le lt95_b22 sz_b1_4_2_95)
    have ne_b4_34_b1_4_2_95 : b4_34 ≠ b1_4_2_95 := Nat.ne_of_lt (Nat.lt_of_lt_of_le lt95_b4_34 sz_b1_4_2_95)
    have ne_b1_5_34_b1_4_2_95 : b1_5_34 ≠ b1_4_2_95 := Nat.ne_of_lt (Nat.lt_of_lt_of_le lt95_b1_5_34 sz_b1_4_2_95)
    have ne_b4_48_b1_4_2_95 : b4_48 ≠ b1_4_2_95 := Nat.ne_of_lt (Nat.lt_of_lt_of_le lt95_b4_48 sz_b1_4_2_95)
    have ne_b1_5_48_b1_4_2_95 : b1_5_48 ≠ b1_4_2_95 := Nat.ne_of_lt (Nat.lt_of_lt_of_le lt95_b1_5_48 sz_b1_4_2_95)
    have ne_b1_60_b1_4_2_95 : b1_60 ≠ b1_4_2_95 := Nat.ne_of_lt (Nat.lt_of_lt_of_le lt95_b1_60 sz_b1_4_2_95)
    have ne_b1_76_79_b1_4_2_95 : b1_76_79 ≠ b1_4_2_95 := Nat.ne_of_lt (Nat.lt_of_lt_of_le lt95_b1_76_79 sz_b1_4_2_95)
    have ne_b2_2_7_1_8_76_79_b1_4_2_95 : b2_2_7_1_8_76_79 ≠ b1_4_2_95 := Nat.ne_of_lt (Nat.lt_of_lt_of_le lt95_b2_2_7_1_8_76_79 sz_b1_4_2_95)
    have ne_b83_b1_4_2_95 : b83 ≠ b1_4_2_95 := Nat.ne_of_lt (Nat.lt_of_lt_of_le lt95_b83 sz_b1_4_2_95)
    have gn_b1_4_2_95 : n0 ≤ b1_4_2_95 := Nat.le_trans (Nat.le_trans Z0 K83.1) sz_b1_4_2_95
    have sz_b1_4_2_95' := Nat.le_trans K83.1 sz_b1_4_2_95
    replace sz_b1_4_2_95 := sz_b1_4_2_95'
    have K95 : Keep h0 h95 [] := K83.trans K95q (allS (Or.inr sz_b83) all0)
    have f107 := own_staK f93 K95q (allS (own_exaP A83) all0)
    refine step (T95.setTop (mkF m 218 #[vi p0, vi p1, vi p2, vi p3, vi p4, vi ya, vi yb, vi yc, vi yd, vi z36_5, vr b9, vr b22, vr b4_34, vr b4_48, vr b1_60, vr b1_76_79] [(.ref b83), (.ref b1_76_79)])) (fun t k => st95.trans k) ?_
    have f108 := q2_95
    rw [hb_ya, hb_yc, hb_yd] at f108
    have f109 := (f105.keep K95q)
    have f110 := ((q1_79.ext E83).keep K95q (ninS ne_b1_76_79_b83 nin0))
    have f111 := ((q2_79.ext E83).keep K95q (ninS ne_b1_76_79_b83 nin0))
    have f112 := (A83.keep K95q)
    have f113 := (f106.keep K95q (ninS ne_b2_2_7_1_8_76_79_b83 nin0))
    have C115 := C96.trans (CHr.keep K95q (allS Sf96_b83 all0) C96.1)
    have Sf115_b9 := Safe.keep K95q (allS Sf96_b83 all0) C96.1 Sf96_b9
    have Sf115_b10 := Safe.keep K95q (allS Sf96_b83 all0) C96.1 Sf96_b10
    have Sf115_b1_4_2_17 := Safe.keep K95q (allS Sf96_b83 all0) C96.1 Sf96_b1_4_2_17
    have Sf115_b22 := Safe.keep K95q (allS Sf96_b83 all0) C96.1 Sf96_b22
    have Sf115_b4_34 := Safe.keep K95q (allS Sf96_b83 all0) C96.1 Sf96_b4_34
    have Sf115_b1_5_34 := Safe.keep K95q (allS Sf96_b83 all0) C96.1 Sf96_b1_5_34
    have Sf115_b4_48 := Safe.keep K95q (allS Sf96_b83 all0) C96.1 Sf96_b4_48
    have Sf115_b1_5_48 := Safe.keep K95q (allS Sf96_b83 all0) C96.1 Sf96_b1_5_48
    have Sf115_b83 := Safe.keep K95q (allS Sf96_b83 all0) C96.1 Sf96_b83
    have Sf115_b1_4_2_95 := Safe.keep K95q (allS Sf96_b83 all0) C96.1 Sf95_b1_4_2_95
    obtain ⟨cq114, kq114, q114a, q114b, q114c⟩ := isOf hZ e95 f109
    obtain ⟨_, _, ⟨T114, L114, k114, n114⟩, -, X114, ⟨Lc114, hQ114, l114, y114, z114⟩, st114⟩ := X95.virtualBack hx (y := nM45) (z := nM45) hown (mvT hZ (ow hw 222 rfl)) (mvT hZ (ow hw 223 rfl)) (notFace_of_selects (args := #[]) (mvT hZ (ow hw 225 rfl))) (mvT hZ (ow hw 225 rfl)) (mvT hZ (ow hw 224 rfl)) (by decide) (backOf (W := 0) (rm46_69 l Z a0 hw [] b1_76_79 b83 cs b2_2_7_1_8_76_79 b1_4_2_95 k2_2_7_1_8_76_79 wya wyc wyd k1_4_2_95 h95 n0 (Nat.le_trans Z0 K95.1) f107 f109 f110 f111 f112 q0_95 q1_95 f113 f108 gn_b1_76_79 ne_b1_76_79_b83 ne_b1_76_b2_2_7_1_8_76_79 ne_b1_76_79_b1_4_2_95 gn_b83 (Ne.symm ne_b2_2_7_1_8_76_79_b83) ne_b83_b1_4_2_95 gn_b2_2_7_1_8_76_79 ne_b2_2_7_1_8_76_79_b1_4_2_95 gn_b1_4_2_95 c_cs na_ya nb_ya na_yc nb_yc na_yd nb_yd) hZ (ow hw 226 rfl) (ow hw 6 rfl) (by decide) (by decide)) q114a q114c (g := (mkF m 218 #[vi p0, vi p1, vi p2, vi p3, vi p4, vi ya, vi yb, vi yc, vi yd, vi z36_5, vr b9, vr b22, vr b4_34, vr b4_48, vr b1_60, vr b1_76_79] [(.ref b83), (.ref b1_76_79)])) rfl (by rw [hml]; rfl) (Steps.refl _) (argsL := [(.ref b83)]) (rest := []) (lenOf pd_5 rfl) rfl (omw rfl rfl) (hb hby at_218) (fun _ _ => ⟨rfl, e95, (by decide : 25 + 0 ≤ _), (by decide : 158 + 0 ≤ _)⟩)
    dsimp only [Pt.U, Pt.locs, Pt.cells, Pt.slots] at X114 l114 y114 z114 st114 hQ114
    subst l114 y114 z114
    obtain ⟨rfl, N114q, e114q⟩ := hQ114
    have N114 := Fr.app N95 N114q
    refine step (T114.setTop (mkF m 221 #[vi p0, vi p1, vi p2, vi p3, vi p4, vi ya, vi yb, vi yc, vi yd, vi z36_5, vr b9, vr b22, vr b4_34, vr b4_48, vr b1_60, vr b1_76_79] [(.int 1)])) (fun t k => st114.trans k) ?_
    refine fin (v := some (.int (nar .boolean (1 : Int32)))) X114 hS (Nat.le_trans (Nat.le_trans (Nat.le_trans hk79 E83.1) K95q.1) (Nat.le_of_eq (congrArg Array.size e114q.symm))) hZ (by rw [e114q]; exact C115) (fun h => by cases h) ?_ (by decide) (by decide) (fun fs hr => retN X114 hx (t := .boolean) hret (by simp) (hb hby at_221) hr)
    show Q0 Z p0 p1 p2 p3 p4 cs h0 n0 (some (.int (nar .boolean (1 : Int32)))) T114.heap _
    rw [e114q]
    exact ⟨own_fin rfl, N114⟩
  · -- pc 40: z36_5 = (0 : Int32) False
    refine step (T4.setTop (mkF m 43 #[vi p0, vi p1, vi p2, vi p3, vi p4, vi ya, vi yb, vi yc, vi yd, vi z36_5, .unset, .unset, .unset, .unset, .unset, .unset] [])) (fun t k => XS.ifNo X4.here hx rfl (hb hby at_40) rfl ((if0 _ _).trans (feq hc40_8).1) k) ?_
    obtain ⟨T116, h116, X116, e116, E116, A116, D116, -, st116⟩ := newO X4 hx hZ hown (ow hw 4 rfl) (ow hw 5 rfl) (ow hw 6 rfl) e4q (g := (mkF m 43 #[vi p0, vi p1, vi p2, vi p3, vi p4, vi ya, vi yb, vi yc, vi yd, vi z36_5, .unset, .unset, .unset, .unset, .unset, .unset] [])) rfl (hb hby at_43) (by decide) (by decide)
    obtain ⟨b116, g116⟩ : ∃ z, z = h0.size := ⟨_, rfl⟩
    rw [← g116] at A116 D116 st116
    have gn_b116 : n0 ≤ b116 := Nat.le_trans Z0 (Nat.le_of_eq g116.symm)
    have sz_b116 : h0.size ≤ b116 := Nat.le_of_eq g116.symm
    have Sf116_b116 : Safe Z own_EL vm0 h0 b116 := Safe.new (Nat.le_of_eq g116.symm)
    have K116 : Keep h0 h116 [] := (Keep.refl h0 []).ext E116
    have F_coder_b116 : Fld Z h116 b116 "java/lang/String" "coder" "B" (.int 0) := D116 (Or.inr (ow hw 31 rfl)) (ty := .byte) (by decide)
    have F_value_b116 : Fld Z h116 b116 "java/lang/String" "value" "[B" .null := D116 (Or.inr (ow hw 33 rfl)) (ty := (.array .byte)) (by decide)
    refine step (T116.setTop (mkF m 46 #[vi p0, vi p1, vi p2, vi p3, vi p4, vi ya, vi yb, vi yc, vi yd, vi z36_5, .unset, .unset, .unset, .unset, .unset, .unset] [(.ref b116)])) (fun t k => st116 t k) ?_
    refine odu KK X116 at_46 47 rfl rfl ?_
    refine oic KK X116 at_47 2 48 rfl rfl ?_
    obtain ⟨T117, h117, k117, X117, e117, E117, A117, st117⟩ := newP X116 hx hZ (ow hw 7 rfl) e116 (g := (mkF m 48 #[vi p0, vi p1, vi p2, vi p3, vi p4, vi ya, vi yb, vi yc, vi yd, vi z36_5, .unset, .unset, .unset, .unset, .unset, .unset] [(.int 2), (.ref b116), (.ref b116)])) rfl (hb hby at_48) rfl (by decide) (cap := 2) (by decide) (by decide) (by decide) (by decide)
    obtain ⟨b117, g117⟩ : ∃ z, z = h116.size := ⟨_, rfl⟩
    rw [← g117] at A117 st117
    have ne_b116_b117 : b116 ≠ b117 := Nat.ne_of_lt (Nat.lt_of_lt_of_le A116.lt (Nat.le_of_eq g117.symm))
    have gn_b117 : n0 ≤ b117 := Nat.le_trans (Nat.le_trans Z0 K116.1) (Nat.le_of_eq g117.symm)
    have sz_b117 : h0.size ≤ b117 := Nat.le_trans K116.1 (Nat.le_of_eq g117.symm)
    have C118 := C0.trans (CHr.ext E116 C0.1)
    have Sf118_b116 := Safe.ext E116 C0.1 Sf116_b116
    have Sf117_b117 : Safe Z own_EL vm0 h116 b117 := Safe.new (Nat.le_of_eq g117.symm)
    have K117 : Keep h0 h117 [] := K116.ext E117
    have V117 : Arv Z h117 b117 k117 .char (2 : Int32) [(.int 0), (.int 0)] (.int 0) := (Arv.new A117 (by decide)).pad (pad_rep [] (.int 0) 2)
    refine step (T117.setTop (mkF m 50 #[vi p0, vi p1, vi p2, vi p3, vi p4, vi ya, vi yb, vi yc, vi yd, vi z36_5, .unset, .unset, .unset, .unset, .unset, .unset] [(.ref b117), (.ref b116), (.ref b116)])) (fun t k => st117 t k) ?_
    refine odu KK X117 at_50 51 rfl rfl ?_
    refine oic KK X117 at_51 0 52 rfl rfl ?_
    refine oiL KK X117 at_52 ya 54 rfl rfl ?_
    obtain ⟨cl119, Ar119, q119, S119, N119n, H119, G119⟩ := id V117
    have hin119 : ¬ ((0 : Int32) < 0 ∨ cl119.slots.size ≤ ((0 : Int32)).toNatClampNeg) := inb_of S119 ⟨by decide, by decide⟩
    obtain ⟨T119, h119, X119, e119, W119, st119⟩ := stC X117 hx hZ e117 Ar119 (j := (0 : Int32)) hin119 (g := (mkF m 54 #[vi p0, vi p1, vi p2, vi p3, vi p4, vi ya, vi yb, vi yc, vi yd, vi z36_5, .unset, .unset, .unset, .unset, .unset, .unset] [(.int ya), (.int 0), (.ref b117), (.ref b117), (.ref b116), (.ref b116)])) rfl rfl (hb hby at_54)
    have N119 := Fr.snoc X119 N4 gn_b117
    have K119 : Keep h0 h119 [] := K117.wr W119 (Or.inr sz_b117)
    have V119 : Arv Z h119 b117 k117 .char (2 : Int32) [(.int (nar .char ya)), (.int 0)] (.int 0) := Arv.set Ar119 q119 S119 N119n H119 G119 (fits_nar_char ya) W119 0 rfl (Nat.le_of_ble_eq_true rfl)
    refine step (T119.setTop (mkF m 55 #[vi p0, vi p1, vi p2, vi p3, vi p4, vi ya, vi yb, vi yc, vi yd, vi z36_5, .unset, .unset, .unset, .unset, .unset, .unset] [(.ref b117), (.ref b116), (.ref b116)])) (fun t k => st119 t k) ?_
    refine odu KK X119 at_55 56 rfl rfl ?_
    refine oic KK X119 at_56 1 57 rfl rfl ?_
    refine oiL KK X119 at_57 yb 59 rfl rfl ?_
    obtain ⟨cl120, Ar120, q120, S120, N120n, H120, G120⟩ := id V119
    have hin120 : ¬ ((1 : Int32) < 0 ∨ cl120.slots.size ≤ ((1 : Int32)).toNatClampNeg) := inb_of S120 ⟨by decide, by decide⟩
    obtain ⟨T120, h120, X120, e120, W120, st120⟩ := stC X119 hx hZ e119 Ar120 (j := (1 : Int32)) hin120 (g := (mkF m 59 #[vi p0, vi p1, vi p2, vi p3, vi p4, vi ya, vi yb, vi yc, vi yd, vi z36_5, .unset, .unset, .unset, .unset, .unset, .unset] [(.int yb), (.int 1), (.ref b117), (.ref b117), (.ref b116), (.ref b116)])) rfl rfl (hb hby at_59)
    have N120 := Fr.snoc X120 N119 gn_b117
    have K120 : Keep h0 h120 [] := K119.wr W120 (Or.inr sz_b117)
    have V120 : Arv Z h120 b117 k117 .char (2 : Int32) [(.int (nar .char ya)), (.int (nar .char yb))] (.int 0) := Arv.set Ar120 q120 S120 N120n H120 G120 (fits_nar_char yb) W120 1 rfl (Nat.le_of_ble_eq_true rfl)
    refine step (T120.setTop (mkF m 60 #[vi p0, vi p1, vi p2, vi p3, vi p4, vi ya, vi yb, vi yc, vi yd, vi z36_5, .unset, .unset, .unset, .unset, .unset, .unset] [(.ref b117), (.ref b116), (.ref b116)])) (fun t k => st120 t k) ?_
    have f121 := ((((S_cs.ext E116).ext E117).wr W119).wr W120)
    have f122 := (((A116.ext E117).wr W119).wr W120)
    have f123 := (((F_coder_b116.ext E117).other W119 (Or.inl ne_b116_b117)).other W120 (Or.inl ne_b116_b117))
    have f124 := (((F_value_b116.ext E117).other W119 (Or.inl ne_b116_b117)).other W120 (Or.inl ne_b116_b117))
    have C126 := C118.trans (CHr.ext E117 C118.1)
    have Sf126_b116 := Safe.ext E117 C118.1 Sf118_b116
    have Sf126_b117 := Safe.ext E117 C118.1 Sf117_b117
    have C127 := C126.trans (CHr.wr W119 Sf126_b117 C126.1)
    have Sf127_b116 := Safe.wr W119 Sf126_b117 C126.1 Sf126_b116
    have Sf127_b117 := Safe.wr W119 Sf126_b117 C126.1 Sf126_b117
    have C128 := C127.trans (CHr.wr W120 Sf127_b117 C127.1)
    have Sf128_b116 := Safe.wr W120 Sf127_b117 C127.1 Sf127_b116
    have Sf128_b117 := Safe.wr W120 Sf127_b117 C127.1 Sf127_b117
    obtain ⟨_, _, ⟨T125, L125, k125, n125⟩, -, X125, ⟨Lc125, hQ125, l125, y125, z125⟩, st125⟩ := X120.specialBack hx (y := nM5) rfl hown (mvT hZ (ow hw 8 rfl)) (mvT hZ (ow hw 9 rfl)) (mvT hZ (ow hw 10 rfl)) (by decide) (backOf (W := 1) (rm2_71 l Z a0 hw [] b116 b117 cs k117 (nar .char ya) (nar .char yb) h120 n0 (Nat.le_trans Z0 K120.1) f121 f122 f123 f124 V120 gn_b116 ne_b116_b117 gn_b117 le_ya le_yb c_cs) hZ (ow hw 10 rfl) (ow hw 6 rfl) (by decide) (by decide)) (g := (mkF m 60 #[vi p0, vi p1, vi p2, vi p3, vi p4, vi ya, vi yb, vi yc, vi yd, vi z36_5, .unset, .unset, .unset, .unset, .unset, .unset] [(.ref b117), (.ref b116), (.ref b116)])) rfl (by rw [hml]; rfl) (Steps.refl _) (a := b116) (argsL := [(.ref b117)]) (rest := [(.ref b116)]) (lenOf pd_1 rfl) rfl (omw rfl rfl) (hb hby at_60) (fun _ _ => ⟨rfl, e120, (by decide : 2 + 1 ≤ _), (by decide : 6 + 2 ≤ _)⟩)
    dsimp only [Pt.U, Pt.locs, Pt.cells, Pt.slots] at X125 l125 y125 z125 st125 hQ125
    subst l125 y125 z125
    obtain ⟨h125, e125⟩ : ∃ z, T125.heap = z := ⟨_, rfl⟩
    rw [e125] at hQ125
    obtain ⟨b1_4_2_125, k1_4_2_125, rfl, N125q, K125q, sz_b1_4_2_125, q0_125, q1_125, q2_125⟩ := hQ125
    have N125 := Fr.app N120 N125q
    have lt125_b116 := f122.lt
    have lt125_b117 := V120.lt
    have Sf125_b1_4_2_125 : Safe Z own_EL vm0 h120 b1_4_2_125 := Safe.new sz_b1_4_2_125
    have ne_b116_b1_4_2_125 : b116 ≠ b1_4_2_125 := Nat.ne_of_lt (Nat.lt_of_lt_of_le lt125_b116 sz_b1_4_2_125)
    have ne_b117_b1_4_2_125 : b117 ≠ b1_4_2_125 := Nat.ne_of_lt (Nat.lt_of_lt_of_le lt125_b117 sz_b1_4_2_125)
    have gn_b1_4_2_125 : n0 ≤ b1_4_2_125 := Nat.le_trans (Nat.le_trans Z0 K120.1) sz_b1_4_2_125
    have sz_b1_4_2_125' := Nat.le_trans K120.1 sz_b1_4_2_125
    replace sz_b1_4_2_125 := sz_b1_4_2_125'
    have K125 : Keep h0 h125 [] := K120.trans K125q (allS (Or.inr sz_b116) all0)
    have f129 := own_staK f121 K125q (allS (own_exaP f122) all0)
    refine step (T125.setTop (mkF m 63 #[vi p0, vi p1, vi p2, vi p3, vi p4, vi ya, vi yb, vi yc, vi yd, vi z36_5, .unset, .unset, .unset, .unset, .unset, .unset] [(.ref b116)])) (fun t k => st125.trans k) ?_
    have f130 := q2_125
    rw [hb_ya, hb_yb] at f130
    refine step (T125.setTop (mkF m 65 #[vi p0, vi p1, vi p2, vi p3, vi p4, vi ya, vi yb, vi yc, vi yd, vi z36_5, vr b116, .unset, .unset, .unset, .unset, .unset] [])) (fun t k => XS.astore X125.here hx rfl (hb hby at_63) rfl rfl (l' := #[vi p0, vi p1, vi p2, vi p3, vi p4, vi ya, vi yb, vi yc, vi yd, vi z36_5, vr b116, .unset, .unset, .unset, .unset, .unset]) rfl k) ?_
    refine obi KK X125 at_65 8 67 rfl rfl ?_
    obtain ⟨T131, h131, k131, X131, e131, E131, A131, st131⟩ := newP X125 hx hZ (ow hw 7 rfl) e125 (g := (mkF m 67 #[vi p0, vi p1, vi p2, vi p3, vi p4, vi ya, vi yb, vi yc, vi yd, vi z36_5, vr b116, .unset, .unset, .unset, .unset, .unset] [(.int 8)])) rfl (hb hby at_67) rfl (by decide) (cap := 8) (by decide) (by decide) (by decide) (by decide)
    obtain ⟨b131, g131⟩ : ∃ z, z = h125.size := ⟨_, rfl⟩
    rw [← g131] at A131 st131
    have f132 := (f122.keep K125q)
    have ne_b116_b131 : b116 ≠ b131 := Nat.ne_of_lt (Nat.lt_of_lt_of_le f132.lt (Nat.le_of_eq g131.symm))
    have f133 := (V120.keep K125q (ninS (Ne.symm ne_b116_b117) nin0))
    have ne_b117_b131 : b117 ≠ b131 := Nat.ne_of_lt (Nat.lt_of_lt_of_le f133.lt (Nat.le_of_eq g131.symm))
    have ne_b1_4_2_125_b131 : b1_4_2_125 ≠ b131 := Nat.ne_of_lt (Nat.lt_of_lt_of_le f130.lt (Nat.le_of_eq g131.symm))
    have gn_b131 : n0 ≤ b131 := Nat.le_trans (Nat.le_trans Z0 K125.1) (Nat.le_of_eq g131.symm)
    have sz_b131 : h0.size ≤ b131 := Nat.le_trans K125.1 (Nat.le_of_eq g131.symm)
    have C134 := C128.trans (CHr.keep K125q (allS Sf128_b116 all0) C128.1)
    have Sf134_b116 := Safe.keep K125q (allS Sf128_b116 all0) C128.1 Sf128_b116
    have Sf134_b117 := Safe.keep K125q (allS Sf128_b116 all0) C128.1 Sf128_b117
    have Sf134_b1_4_2_125 := Safe.keep K125q (allS Sf128_b116 all0) C128.1 Sf125_b1_4_2_125
    have Sf131_b131 : Safe Z own_EL vm0 h125 b131 := Safe.new (Nat.le_of_eq g131.symm)
    have K131 : Keep h0 h131 [] := K125.ext E131
    have V131 : Arv Z h131 b131 k131 .char (8 : Int32) [(.int 0), (.int 0), (.int 0), (.int 0), (.int 0), (.int 0), (.int 0), (.int 0)] (.int 0) := (Arv.new A131 (by decide)).pad (pad_rep [] (.int 0) 8)
    refine step (T131.setTop (mkF m 69 #[vi p0, vi p1, vi p2, vi p3, vi p4, vi ya, vi yb, vi yc, vi yd, vi z36_5, vr b116, .unset, .unset, .unset, .unset, .unset] [(.ref b131)])) (fun t k => st131 t k) ?_
    refine odu KK X131 at_69 70 rfl rfl ?_
    refine oic KK X131 at_70 0 71 rfl rfl ?_
    refine oiL KK X131 at_71 ya 73 rfl rfl ?_
    obtain ⟨cl135, Ar135, q135, S135, N135n, H135, G135⟩ := id V131
    have hin135 : ¬ ((0 : Int32) < 0 ∨ cl135.slots.size ≤ ((0 : Int32)).toNatClampNeg) := inb_of S135 ⟨by decide, by decide⟩
    obtain ⟨T135, h135, X135, e135, W135, st135⟩ := stC X131 hx hZ e131 Ar135 (j := (0 : Int32)) hin135 (g := (mkF m 73 #[vi p0, vi p1, vi p2, vi p3, vi p4, vi ya, vi yb, vi yc, vi yd, vi z36_5, vr b116, .unset, .unset, .unset, .unset, .unset] [(.int ya), (.int 0), (.ref b131), (.ref b131)])) rfl rfl (hb hby at_73)
    have N135 := Fr.snoc X135 N125 gn_b131
    have K135 : Keep h0 h135 [] := K131.wr W135 (Or.inr sz_b131)
    have V135 : Arv Z h135 b131 k131 .char (8 : Int32) [(.int (nar .char ya)), (.int 0), (.int 0), (.int 0), (.int 0), (.int 0), (.int 0), (.int 0)] (.int 0) := Arv.set Ar135 q135 S135 N135n H135 G135 (fits_nar_char ya) W135 0 rfl (Nat.le_of_ble_eq_true rfl)
    refine step (T135.setTop (mkF m 74 #[vi p0, vi p1, vi p2, vi p3, vi p4, vi ya, vi yb, vi yc, vi yd, vi z36_5, vr b116, .unset, .unset, .unset, .unset, .unset] [(.ref b131)])) (fun t k => st135 t k) ?_
    refine odu KK X135 at_74 75 rfl rfl ?_
    refine oic KK X135 at_75 1 76 rfl rfl ?_
    refine oiL KK X135 at_76 yb 78 rfl rfl ?_
    obtain ⟨cl136, Ar136, q136, S136, N136n, H136, G136⟩ := id V135
    have hin136 : ¬ ((1 : Int32) < 0 ∨ cl136.slots.size ≤ ((1 : Int32)).toNatClampNeg) := inb_of S136 ⟨by decide, by decide⟩
    obtain ⟨T136, h136, X136, e136, W136, st136⟩ := stC X135 hx hZ e135 Ar136 (j := (1 : Int32)) hin136 (g := (mkF m 78 #[vi p0, vi p1, vi p2, vi p3, vi p4, vi ya, vi yb, vi yc, vi yd, vi z36_5, vr b116, .unset, .unset, .unset, .unset, .unset] [(.int yb), (.int 1), (.ref b131), (.ref b131)])) rfl rfl (hb hby at_78)
    have N136 := Fr.snoc X136 N135 gn_b131
    have K136 : Keep h0 h136 [] := K135.wr W136 (Or.inr sz_b131)
    have V136 : Arv Z h136 b131 k131 .char (8 : Int32) [(.int (nar .char ya)), (.int (nar .char yb)), (.int 0), (.int 0), (.int 0), (.int 0), (.int 0), (.int 0)] (.int 0) := Arv.set Ar136 q136 S136 N136n H136 G136 (fits_nar_char yb) W136 1 rfl (Nat.le_of_ble_eq_true rfl)
    refine step (T136.setTop (mkF m 79 #[vi p0, vi p1, vi p2, vi p3, vi p4, vi ya, vi yb, vi yc, vi yd, vi z36_5, vr b116, .unset, .unset, .unset, .unset, .unset] [(.ref b131)])) (fun t k => st136 t k) ?_
    refine odu KK X136 at_79 80 rfl rfl ?_
    refine oic KK X136 at_80 2 81 rfl rfl ?_
    refine obi KK X136 at_81 58 83 rfl rfl ?_
    obtain ⟨cl137, Ar137, q137, S137, N137n, H137, G137⟩ := id V136
    have hin137 : ¬ ((2 : Int32) < 0 ∨ cl137.slots.size ≤ ((2 : Int32)).toNatClampNeg) := inb_of S137 ⟨by decide, by decide⟩
    obtain ⟨T137, h137, X137, e137, W137, st137⟩ := stC X136 hx hZ e136 Ar137 (j := (2 : Int32)) hin137 (g := (mkF m 83 #[vi p0, vi p1, vi p2, vi p3, vi p4, vi ya, vi yb, vi yc, vi yd, vi z36_5, vr b116, .unset, .unset, .unset, .unset, .unset] [(.int 58), (.int 2), (.ref b131), (.ref b131)])) rfl rfl (hb hby at_83)
    have N137 := Fr.snoc X137 N136 gn_b131
    have K137 : Keep h0 h137 [] := K136.wr W137 (Or.inr sz_b131)
    have V137 : Arv Z h137 b131 k131 .char (8 : Int32) [(.int (nar .char ya)), (.int (nar .char yb)), (.int 58), (.int 0), (.int 0), (.int 0), (.int 0), (.int 0)] (.int 0) := Arv.set Ar137 q137 S137 N137n H137 G137 (fits_nar_char (58 : Int32)) W137 2 rfl (Nat.le_of_ble_eq_true rfl)
    refine step (T137.setTop (mkF m 84 #[vi p0, vi p1, vi p2, vi p3, vi p4, vi ya, vi yb, vi yc, vi yd, vi z36_5, vr b116, .unset, .unset, .unset, .unset, .unset] [(.ref b131)])) (fun t k => st137 t k) ?_
    refine odu KK X137 at_84 85 rfl rfl ?_
    refine oic KK X137 at_85 3 86 rfl rfl ?_
    refine obi KK X137 at_86 123 88 rfl rfl ?_
    obtain ⟨cl138, Ar138, q138, S138, N138n, H138, G138⟩ := id V137
    have hin138 : ¬ ((3 : Int32) < 0 ∨ cl138.slots.size ≤ ((3 : Int32)).toNatClampNeg) := inb_of S138 ⟨by decide, by decide⟩
    obtain ⟨T138, h138, X138, e138, W138, st138⟩ := stC X137 hx hZ e137 Ar138 (j := (3 : Int32)) hin138 (g := (mkF m 88 #[vi p0, vi p1, vi p2, vi p3, vi p4, vi ya, vi yb, vi yc, vi yd, vi z36_5, vr b116, .unset, .unset, .unset, .unset, .unset] [(.int 123), (.int 3), (.ref b131), (.ref b131)])) rfl rfl (hb hby at_88)
    have N138 := Fr.snoc X138 N137 gn_b131
    have K138 : Keep h0 h138 [] := K137.wr W138 (Or.inr sz_b131)
    have V138 : Arv Z h138 b131 k131 .char (8 : Int32) [(.int (nar .char ya)), (.int (nar .char yb)), (.int 58), (.int 123), (.int 0), (.int 0), (.int 0), (.int 0)] (.int 0) := Arv.set Ar138 q138 S138 N138n H138 G138 (fits_nar_char (123 : Int32)) W138 3 rfl (Nat.le_of_ble_eq_true rfl)
    refine step (T138.setTop (mkF m 89 #[vi p0, vi p1, vi p2, vi p3, vi p4, vi ya, vi yb, vi yc, vi yd, vi z36_5, vr b116, .unset, .unset, .unset, .unset, .unset] [(.ref b131)])) (fun t k => st138 t k) ?_
    refine odu KK X138 at_89 90 rfl rfl ?_
    refine oic KK X138 at_90 4 91 rfl rfl ?_
    refine oiL KK X138 at_91 yc 93 rfl rfl ?_
    obtain ⟨cl139, Ar139, q139, S139, N139n, H139, G139⟩ := id V138
    have hin139 : ¬ ((4 : Int32) < 0 ∨ cl139.slots.size ≤ ((4 : Int32)).toNatClampNeg) := inb_of S139 ⟨by decide, by decide⟩
    obtain ⟨T139, h139, X139, e139, W139, st139⟩ := stC X138 hx hZ e138 Ar139 (j := (4 : Int32)) hin139 (g := (mkF m 93 #[vi p0, vi p1, vi p2, vi p3, vi p4, vi ya, vi yb, vi yc, vi yd, vi z36_5, vr b116, .unset, .unset, .unset, .unset, .unset] [(.int yc), (.int 4), (.ref b131), (.ref b131)])) rfl rfl (hb hby at_93)
    have N139 := Fr.snoc X139 N138 gn_b131
    have K139 : Keep h0 h139 [] := K138.wr W139 (Or.inr sz_b131)
    have V139 : Arv Z h139 b131 k131 .char (8 : Int32) [(.int (nar .char ya)), (.int (nar .char yb)), (.int 58), (.int 123), (.int (nar .char yc)), (.int 0), (.int 0), (.int 0)] (.int 0) := Arv.set Ar139 q139 S139 N139n H139 G139 (fits_nar_char yc) W139 4 rfl (Nat.le_of_ble_eq_true rfl)
    refine step (T139.setTop (mkF m 94 #[vi p0, vi p1, vi p2, vi p3, vi p4, vi ya, vi yb, vi yc, vi yd, vi z36_5, vr b116, .unset, .unset, .unset, .unset, .unset] [(.ref b131)])) (fun t k => st139 t k) ?_
    refine odu KK X139 at_94 95 rfl rfl ?_
    refine oic KK X139 at_95 5 96 rfl rfl ?_
    refine obi KK X139 at_96 125 98 rfl rfl ?_
    obtain ⟨cl140, Ar140, q140, S140, N140n, H140, G140⟩ := id V139
    have hin140 : ¬ ((5 : Int32) < 0 ∨ cl140.slots.size ≤ ((5 : Int32)).toNatClampNeg) := inb_of S140 ⟨by decide, by decide⟩
    obtain ⟨T140, h140, X140, e140, W140, st140⟩ := stC X139 hx hZ e139 Ar140 (j := (5 : Int32)) hin140 (g := (mkF m 98 #[vi p0, vi p1, vi p2, vi p3, vi p4, vi ya, vi yb, vi yc, vi yd, vi z36_5, vr b116, .unset, .unset, .unset, .unset, .unset] [(.int 125), (.int 5), (.ref b131), (.ref b131)])) rfl rfl (hb hby at_98)
    have N140 := Fr.snoc X140 N139 gn_b131
    have K140 : Keep h0 h140 [] := K139.wr W140 (Or.inr sz_b131)
    have V140 : Arv Z h140 b131 k131 .char (8 : Int32) [(.int (nar .char ya)), (.int (nar .char yb)), (.int 58), (.int 123), (.int (nar .char yc)), (.int 125), (.int 0), (.int 0)] (.int 0) := Arv.set Ar140 q140 S140 N140n H140 G140 (fits_nar_char (125 : Int32)) W140 5 rfl (Nat.le_of_ble_eq_true rfl)
    refine step (T140.setTop (mkF m 99 #[vi p0, vi p1, vi p2, vi p3, vi p4, vi ya, vi yb, vi yc, vi yd, vi z36_5, vr b116, .unset, .unset, .unset, .unset, .unset] [(.ref b131)])) (fun t k => st140 t k) ?_
    refine odu KK X140 at_99 100 rfl rfl ?_
    refine obi KK X140 at_100 6 102 rfl rfl ?_
    refine obi KK X140 at_102 58 104 rfl rfl ?_
    obtain ⟨cl141, Ar141, q141, S141, N141n, H141, G141⟩ := id V140
    have hin141 : ¬ ((6 : Int32) < 0 ∨ cl141.slots.size ≤ ((6 : Int32)).toNatClampNeg) := inb_of S141 ⟨by decide, by decide⟩
    obtain ⟨T141, h141, X141, e141, W141, st141⟩ := stC X140 hx hZ e140 Ar141 (j := (6 : Int32)) hin141 (g := (mkF m 104 #[vi p0, vi p1, vi p2, vi p3, vi p4, vi ya, vi yb, vi yc, vi yd, vi z36_5, vr b116, .unset, .unset, .unset, .unset, .unset] [(.int 58), (.int 6), (.ref b131), (.ref b131)])) rfl rfl (hb hby at_104)
    have N141 := Fr.snoc X141 N140 gn_b131
    have K141 : Keep h0 h141 [] := K140.wr W141 (Or.inr sz_b131)
    have V141 : Arv Z h141 b131 k131 .char (8 : Int32) [(.int (nar .char ya)), (.int (nar .char yb)), (.int 58), (.int 123), (.int (nar .char yc)), (.int 125), (.int 58), (.int 0)] (.int 0) := Arv.set Ar141 q141 S141 N141n H141 G141 (fits_nar_char (58 : Int32)) W141 6 rfl (Nat.le_of_ble_eq_true rfl)
    refine step (T141.setTop (mkF m 105 #[vi p0, vi p1, vi p2, vi p3, vi p4, vi ya, vi yb, vi yc, vi yd, vi z36_5, vr b116, .unset, .unset, .unset, .unset, .unset] [(.ref b131)])) (fun t k => st141 t k) ?_
    refine odu KK X141 at_105 106 rfl rfl ?_
    refine obi KK X141 at_106 7 108 rfl rfl ?_
    refine oiL KK X141 at_108 yd 110 rfl rfl ?_
    obtain ⟨cl142, Ar142, q142, S142, N142n, H142, G142⟩ := id V141
    have hin142 : ¬ ((7 : Int32) < 0 ∨ cl142.slots.size ≤ ((7 : Int32)).toNatClampNeg) := inb_of S142 ⟨by decide, by decide⟩
    obtain ⟨T142, h142, X142, e142, W142, st142⟩ := stC X141 hx hZ e141 Ar142 (j := (7 : Int32)) hin142 (g := (mkF m 110 #[vi p0, vi p1, vi p2, vi p3, vi p4, vi ya, vi yb, vi yc, vi yd, vi z36_5, vr b116, .unset, .unset, .unset, .unset, .unset] [(.int yd), (.int 7), (.ref b131), (.ref b131)])) rfl rfl (hb hby at_110)
    have N142 := Fr.snoc X142 N141 gn_b131
    have K142 : Keep h0 h142 [] := K141.wr W142 (Or.inr sz_b131)
    have V142 : Arv Z h142 b131 k131 .char (8 : Int32) [(.int (nar .char ya)), (.int (nar .char yb)), (.int 58), (.int 123), (.int (nar .char yc)), (.int 125), (.int 58), (.int (nar .char yd))] (.int 0) := Arv.set Ar142 q142 S142 N142n H142 G142 (fits_nar_char yd) W142 7 rfl (Nat.le_of_ble_eq_true rfl)
    refine step (T142.setTop (mkF m 111 #[vi p0, vi p1, vi p2, vi p3, vi p4, vi ya, vi yb, vi yc, vi yd, vi z36_5, vr b116, .unset, .unset, .unset, .unset, .unset] [(.ref b131)])) (fun t k => st142 t k) ?_
    refine step (T142.setTop (mkF m 113 #[vi p0, vi p1, vi p2, vi p3, vi p4, vi ya, vi yb, vi yc, vi yd, vi z36_5, vr b116, vr b131, .unset, .unset, .unset, .unset] [])) (fun t k => XS.astore X142.here hx rfl (hb hby at_111) rfl rfl (l' := #[vi p0, vi p1, vi p2, vi p3, vi p4, vi ya, vi yb, vi yc, vi yd, vi z36_5, vr b116, vr b131, .unset, .unset, .unset, .unset]) rfl k) ?_
    refine ogo KK X142 at_113 175 (by decide) rfl ?_
    refine oiL KK X142 at_175 yc 177 rfl rfl ?_
    have f143 := (((((((((f129.ext E131).wr W135).wr W136).wr W137).wr W138).wr W139).wr W140).wr W141).wr W142)
    have C145 := C134.trans (CHr.ext E131 C134.1)
    have Sf145_b116 := Safe.ext E131 C134.1 Sf134_b116
    have Sf145_b117 := Safe.ext E131 C134.1 Sf134_b117
    have Sf145_b1_4_2_125 := Safe.ext E131 C134.1 Sf134_b1_4_2_125
    have Sf145_b131 := Safe.ext E131 C134.1 Sf131_b131
    have C146 := C145.trans (CHr.wr W135 Sf145_b131 C145.1)
    have Sf146_b116 := Safe.wr W135 Sf145_b131 C145.1 Sf145_b116
    have Sf146_b117 := Safe.wr W135 Sf145_b131 C145.1 Sf145_b117
    have Sf146_b1_4_2_125 := Safe.wr W135 Sf145_b131 C145.1 Sf145_b1_4_2_125
    have Sf146_b131 := Safe.wr W135 Sf145_b131 C145.1 Sf145_b131
    have C147 := C146.trans (CHr.wr W136 Sf146_b131 C146.1)
    have Sf147_b116 := Safe.wr W136 Sf146_b131 C146.1 Sf146_b116
    have Sf147_b117 := Safe.wr W136 Sf146_b131 C146.1 Sf146_b117
    have Sf147_b1_4_2_125 := Safe.wr W136 Sf146_b131 C146.1 Sf146_b1_4_2_125
    have Sf147_b131 := Safe.wr W136 Sf146_b131 C146.1 Sf146_b131
    have C148 := C147.trans (CHr.wr W137 Sf147_b131 C147.1)
    have Sf148_b116 := Safe.wr W137 Sf147_b131 C147.1 Sf147_b116
    have Sf148_b117 := Safe.wr W137 Sf147_b131 C147.1 Sf147_b117
    have Sf148_b1_4_2_125 := Safe.wr W137 Sf147_b131 C147.1 Sf147_b1_4_2_125
    have Sf148_b131 := Safe.wr W137 Sf147_b131 C147.1 Sf147_b131
    have C149 := C148.trans (CHr.wr W138 Sf148_b131 C148.1)
    have Sf149_b116 := Safe.wr W138 Sf148_b131 C148.1 Sf148_b116
    have Sf149_b117 := Safe.wr W138 Sf148_b131 C148.1 Sf148_b117
    have Sf149_b1_4_2_125 := Safe.wr W138 Sf148_b131 C148.1 Sf148_b1_4_2_125
    have Sf149_b131 := Safe.wr W138 Sf148_b131 C148.1 Sf148_b131
    have C150 := C149.trans (CHr.wr W139 Sf149_b131 C149.1)
    have Sf150_b116 := Safe.wr W139 Sf149_b131 C149.1 Sf149_b116
    have Sf150_b117 := Safe.wr W139 Sf149_b131 C149.1 Sf149_b117
    have Sf150_b1_4_2_125 := Safe.wr W139 Sf149_b131 C149.1 Sf149_b1_4_2_125
    have Sf150_b131 := Safe.wr W139 Sf149_b131 C149.1 Sf149_b131
    have C151 := C150.trans (CHr.wr W140 Sf150_b131 C150.1)
    have Sf151_b116 := Safe.wr W140 Sf150_b131 C150.1 Sf150_b116
    have Sf151_b117 := Safe.wr W140 Sf150_b131 C150.1 Sf150_b117
    have Sf151_b1_4_2_125 := Safe.wr W140 Sf150_b131 C150.1 Sf150_b1_4_2_125
    have Sf151_b131 := Safe.wr W140 Sf150_b131 C150.1 Sf150_b131
    have C152 := C151.trans (CHr.wr W141 Sf151_b131 C151.1)
    have Sf152_b116 := Safe.wr W141 Sf151_b131 C151.1 Sf151_b116
    have Sf152_b117 := Safe.wr W141 Sf151_b131 C151.1 Sf151_b117
    have Sf152_b1_4_2_125 := Safe.wr W141 Sf151_b131 C151.1 Sf151_b1_4_2_125
    have Sf152_b131 := Safe.wr W141 Sf151_b131 C151.1 Sf151_b131
    have C153 := C152.trans (CHr.wr W142 Sf152_b131 C152.1)
    have Sf153_b116 := Safe.wr W142 Sf152_b131 C152.1 Sf152_b116
    have Sf153_b117 := Safe.wr W142 Sf152_b131 C152.1 Sf152_b117
    have Sf153_b1_4_2_125 := Safe.wr W142 Sf152_b131 C152.1 Sf152_b1_4_2_125
    have Sf153_b131 := Safe.wr W142 Sf152_b131 C152.1 Sf152_b131
    obtain ⟨_, _, ⟨T144, L144, k144, n144⟩, -, X144, ⟨Lc144, hQ144, l144, y144, z144⟩, st144⟩ := Jvm.LawKit.callS X142 hx (y := nM9) hown (mvT hZ (ow hw 34 rfl)) (mvT hZ (ow hw 35 rfl)) (mvT hZ (ow hw 6 rfl)) (mvT hZ (ow hw 36 rfl)) (by decide) (backOf (W := 0) (rm8_7 l Z a0 hw [] yc cs h142 n0 (Nat.le_trans Z0 K142.1) f143 le_yc lx_yc c_cs) hZ (ow hw 36 rfl) (ow hw 6 rfl) (by decide) (by decide)) (g := (mkF m 177 #[vi p0, vi p1, vi p2, vi p3, vi p4, vi ya, vi yb, vi yc, vi yd, vi z36_5, vr b116, vr b131, .unset, .unset, .unset, .unset] [(.int yc)])) rfl (by rw [hml]; rfl) (argsL := [(.int yc)]) (rest := []) (lenOf pd_2 rfl) rfl (omw rfl rfl) (hb hby at_177) (fun _ _ => ⟨rfl, e142, (by decide : 4 + 2 ≤ _), (by decide : 16 + 5 ≤ _)⟩)
    dsimp only [Pt.U, Pt.locs, Pt.cells, Pt.slots] at X144 l144 y144 z144 st144 hQ144
    subst l144 y144 z144
    obtain ⟨h144, e144⟩ : ∃ z, T144.heap = z := ⟨_, rfl⟩
    rw [e144] at hQ144
    obtain ⟨b4_144, b1_5_144, k1_5_144, rfl, N144q, K144q, sz_b4_144, sz_b1_5_144, ne_b1_5_b4_144, q0_144, q1_144, q2_144, q3_144⟩ := hQ144
    have N144 := Fr.app N142 N144q
    have f154 := (((((((((f132.ext E131).wr W135).wr W136).wr W137).wr W138).wr W139).wr W140).wr W141).wr W142)
    have lt144_b116 := f154.lt
    have f155 := (((((((((f133.ext E131).other W135 ne_b117_b131).other W136 ne_b117_b131).other W137 ne_b117_b131).other W138 ne_b117_b131).other W139 ne_b117_b131).other W140 ne_b117_b131).other W141 ne_b117_b131).other W142 ne_b117_b131)
    have lt144_b117 := f155.lt
    have f156 := (((((((((f130.ext E131).other W135 ne_b1_4_2_125_b131).other W136 ne_b1_4_2_125_b131).other W137 ne_b1_4_2_125_b131).other W138 ne_b1_4_2_125_b131).other W139 ne_b1_4_2_125_b131).other W140 ne_b1_4_2_125_b131).other W141 ne_b1_4_2_125_b131).other W142 ne_b1_4_2_125_b131)
    have lt144_b1_4_2_125 := f156.lt
    have lt144_b131 := V142.lt
    have Sf144_b4_144 : Safe Z own_EL vm0 h142 b4_144 := Safe.new sz_b4_144
    have ne_b116_b4_144 : b116 ≠ b4_144 := Nat.ne_of_lt (Nat.lt_of_lt_of_le lt144_b116 sz_b4_144)
    have ne_b117_b4_144 : b117 ≠ b4_144 := Nat.ne_of_lt (Nat.lt_of_lt_of_le lt144_b117 sz_b4_144)
    have ne_b1_4_2_125_b4_144 : b1_4_2_125 ≠ b4_144 := Nat.ne_of_lt (Nat.lt_of_lt_of_le lt144_b1_4_2_125 sz_b4_144)
    have ne_b131_b4_144 : b131 ≠ b4_144 := Nat.ne_of_lt (Nat.lt_of_lt_of_le lt144_b131 sz_b4_144)
    have gn_b4_144 : n0 ≤ b4_144 := Nat.le_trans (Nat.le_trans Z0 K142.1) sz_b4_144
    have sz_b4_144' := Nat.le_trans K142.1 sz_b4_144
    replace sz_b4_144 := sz_b4_144'
    have Sf144_b1_5_144 : Safe Z own_EL vm0 h142 b1_5_144 := Safe.new sz_b1_5_144
    have ne_b116_b1_5_144 : b116 ≠ b1_5_144 := Nat.ne_of_lt (Nat.lt_of_lt_of_le lt144_b116 sz_b1_5_144)
    have ne_b117_b1_5_144 : b117 ≠ b1_5_144 := Nat.ne_of_lt (Nat.lt_of_lt_of_le lt144_b117 sz_b1_5_144)
    have ne_b1_4_2_125_b1_5_144 : b1_4_2_125 ≠ b1_5_144 := Nat.ne_of_lt (Nat.lt_of_lt_of_le lt144_b1_4_2_125 sz_b1_5_144)
    have ne_b131_b1_5_144 : b131 ≠ b1_5_144 := Nat.ne_of_lt (Nat.lt_of_lt_of_le lt144_b131 sz_b1_5_144)
    have gn_b1_5_144 : n0 ≤ b1_5_144 := Nat.le_trans (Nat.le_trans Z0 K142.1) sz_b1_5_144
    have sz_b1_5_144' := Nat.le_trans K142.1 sz_b1_5_144
    replace sz_b1_5_144 := sz_b1_5_144'
    have K144 : Keep h0 h144 [] := K142.trans K144q all0
    have f157 := own_staK f143 K144q all0
    refine step (T144.setTop (mkF m 180 #[vi p0, vi p1, vi p2, vi p3, vi p4, vi ya, vi yb, vi yc, vi yd, vi z36_5, vr b116, vr b131, .unset, .unset, .unset, .unset] [(.ref b4_144)])) (fun t k => st144 t k) ?_
    have f158 := q3_144
    rw [hd_yc] at f158
    refine step (T144.setTop (mkF m 182 #[vi p0, vi p1, vi p2, vi p3, vi p4, vi ya, vi yb, vi yc, vi yd, vi z36_5, vr b116, vr b131, vr b4_144, .unset, .unset, .unset] [])) (fun t k => XS.astore X144.here hx rfl (hb hby at_180) rfl rfl (l' := #[vi p0, vi p1, vi p2, vi p3, vi p4, vi ya, vi yb, vi yc, vi yd, vi z36_5, vr b116, vr b131, vr b4_144, .unset, .unset, .unset]) rfl k) ?_
    refine oiL KK X144 at_182 yd 184 rfl rfl ?_
    have C160 := C153.trans (CHr.keep K144q all0 C153.1)
    have Sf160_b116 := Safe.keep K144q all0 C153.1 Sf153_b116
    have Sf160_b117 := Safe.keep K144q all0 C153.1 Sf153_b117
    have Sf160_b1_4_2_125 := Safe.keep K144q all0 C153.1 Sf153_b1_4_2_125
    have Sf160_b131 := Safe.keep K144q all0 C153.1 Sf153_b131
    have Sf160_b4_144 := Safe.keep K144q all0 C153.1 Sf144_b4_144
    have Sf160_b1_5_144 := Safe.keep K144q all0 C153.1 Sf144_b1_5_144
    obtain ⟨_, _, ⟨T159, L159, k159, n159⟩, -, X159, ⟨Lc159, hQ159, l159, y159, z159⟩, st159⟩ := Jvm.LawKit.callS X144 hx (y := nM9) hown (mvT hZ (ow hw 34 rfl)) (mvT hZ (ow hw 35 rfl)) (mvT hZ (ow hw 6 rfl)) (mvT hZ (ow hw 36 rfl)) (by decide) (backOf (W := 0) (rm8_7 l Z a0 hw [] yd cs h144 n0 (Nat.le_trans Z0 K144.1) f157 le_yd lx_yd c_cs) hZ (ow hw 36 rfl) (ow hw 6 rfl) (by decide) (by decide)) (g := (mkF m 184 #[vi p0, vi p1, vi p2, vi p3, vi p4, vi ya, vi yb, vi yc, vi yd, vi z36_5, vr b116, vr b131, vr b4_144, .unset, .unset, .unset] [(.int yd)])) rfl (by rw [hml]; rfl) (argsL := [(.int yd)]) (rest := []) (lenOf pd_2 rfl) rfl (omw rfl rfl) (hb hby at_184) (fun _ _ => ⟨rfl, e144, (by decide : 6 + 2 ≤ _), (by decide : 21 + 5 ≤ _)⟩)
    dsimp only [Pt.U, Pt.locs, Pt.cells, Pt.slots] at X159 l159 y159 z159 st159 hQ159
    subst l159 y159 z159
    obtain ⟨h159, e159⟩ : ∃ z, T159.heap = z := ⟨_, rfl⟩
    rw [e159] at hQ159
    obtain ⟨b4_159, b1_5_159, k1_5_159, rfl, N159q, K159q, sz_b4_159, sz_b1_5_159, ne_b1_5_b4_159, q0_159, q1_159, q2_159, q3_159⟩ := hQ159
    have N159 := Fr.app N144 N159q
    have f161 := (f154.keep K144q)
    have lt159_b116 := f161.lt
    have f162 := (f155.keep K144q nin0)
    have lt159_b117 := f162.lt
    have f163 := (f156.keep K144q nin0)
    have lt159_b1_4_2_125 := f163.lt
    have f164 := (V142.keep K144q nin0)
    have lt159_b131 := f164.lt
    have lt159_b4_144 := q0_144.lt
    have lt159_b1_5_144 := f158.lt
    have Sf159_b4_159 : Safe Z own_EL vm0 h144 b4_159 := Safe.new sz_b4_159
    have ne_b116_b4_159 : b116 ≠ b4_159 := Nat.ne_of_lt (Nat.lt_of_lt_of_le lt159_b116 sz_b4_159)
    have ne_b117_b4_159 : b117 ≠ b4_159 := Nat.ne_of_lt (Nat.lt_of_lt_of_le lt159_b117 sz_b4_159)
    have ne_b1_4_2_125_b4_159 : b1_4_2_125 ≠ b4_159 := Nat.ne_of_lt (Nat.lt_of_lt_of_le lt159_b1_4_2_125 sz_b4_159)
    have ne_b131_b4_159 : b131 ≠ b4_159 := Nat.ne_of_lt (Nat.lt_of_lt_of_le lt159_b131 sz_b4_159)
    have ne_b4_144_b4_159 : b4_144 ≠ b4_159 := Nat.ne_of_lt (Nat.lt_of_lt_of_le lt159_b4_144 sz_b4_159)
    have ne_b1_5_144_b4_159 : b1_5_144 ≠ b4_159 := Nat.ne_of_lt (Nat.lt_of_lt_of_le lt159_b1_5_144 sz_b4_159)
    have gn_b4_159 : n0 ≤ b4_159 := Nat.le_trans (Nat.le_trans Z0 K144.1) sz_b4_159
    have sz_b4_159' := Nat.le_trans K144.1 sz_b4_159
    replace sz_b4_159 := sz_b4_159'
    have Sf159_b1_5_159 : Safe Z own_EL vm0 h144 b1_5_159 := Safe.new sz_b1_5_159
    have ne_b116_b1_5_159 : b116 ≠ b1_5_159 := Nat.ne_of_lt (Nat.lt_of_lt_of_le lt159_b116 sz_b1_5_159)
    have ne_b117_b1_5_159 : b117 ≠ b1_5_159 := Nat.ne_of_lt (Nat.lt_of_lt_of_le lt159_b117 sz_b1_5_159)
    have ne_b1_4_2_125_b1_5_159 : b1_4_2_125 ≠ b1_5_159 := Nat.ne_of_lt (Nat.lt_of_lt_of_le lt159_b1_4_2_125 sz_b1_5_159)
    have ne_b131_b1_5_159 : b131 ≠ b1_5_159 := Nat.ne_of_lt (Nat.lt_of_lt_of_le lt159_b131 sz_b1_5_159)
    have ne_b4_144_b1_5_159 : b4_144 ≠ b1_5_159 := Nat.ne_of_lt (Nat.lt_of_lt_of_le lt159_b4_144 sz_b1_5_159)
    have ne_b1_5_144_b1_5_159 : b1_5_144 ≠ b1_5_159 := Nat.ne_of_lt (Nat.lt_of_lt_of_le lt159_b1_5_144 sz_b1_5_159)
    have gn_b1_5_159 : n0 ≤ b1_5_159 := Nat.le_trans (Nat.le_trans Z0 K144.1) sz_b1_5_159
    have sz_b1_5_159' := Nat.le_trans K144.1 sz_b1_5_159
    replace sz_b1_5_159 := sz_b1_5_159'
    have K159 : Keep h0 h159 [] := K144.trans K159q all0
    have f165 := own_staK f157 K159q all0
    refine step (T159.setTop (mkF m 187 #[vi p0, vi p1, vi p2, vi p3, vi p4, vi ya, vi yb, vi yc, vi yd, vi z36_5, vr b116, vr b131, vr b4_144, .unset, .unset, .unset] [(.ref b4_159)])) (fun t k => st159 t k) ?_
    have f166 := q3_159
    rw [hd_yd] at f166
    refine step (T159.setTop (mkF m 189 #[vi p0, vi p1, vi p2, vi p3, vi p4, vi ya, vi yb, vi yc, vi yd, vi z36_5, vr b116, vr b131, vr b4_144, vr b4_159, .unset, .unset] [])) (fun t k => XS.astore X159.here hx rfl (hb hby at_187) rfl rfl (l' := #[vi p0, vi p1, vi p2, vi p3, vi p4, vi ya, vi yb, vi yc, vi yd, vi z36_5, vr b116, vr b131, vr b4_144, vr b4_159, .unset, .unset]) rfl k) ?_
    refine oaL KK X159 at_189 (.ref b116) 191 rfl rfl rfl ?_
    have f167 := (f161.keep K159q)
    have f168 := (((((((((((q0_125.ext E131).other W135 (Or.inl ne_b116_b131)).other W136 (Or.inl ne_b116_b131)).other W137 (Or.inl ne_b116_b131)).other W138 (Or.inl ne_b116_b131)).other W139 (Or.inl ne_b116_b131)).other W140 (Or.inl ne_b116_b131)).other W141 (Or.inl ne_b116_b131)).other W142 (Or.inl ne_b116_b131)).keep K144q nin0).keep K159q nin0)
    have f169 := (((((((((((q1_125.ext E131).other W135 (Or.inl ne_b116_b131)).other W136 (Or.inl ne_b116_b131)).other W137 (Or.inl ne_b116_b131)).other W138 (Or.inl ne_b116_b131)).other W139 (Or.inl ne_b116_b131)).other W140 (Or.inl ne_b116_b131)).other W141 (Or.inl ne_b116_b131)).other W142 (Or.inl ne_b116_b131)).keep K144q nin0).keep K159q nin0)
    have f170 := (f163.keep K159q nin0)
    have C172 := C160.trans (CHr.keep K159q all0 C160.1)
    have Sf172_b116 := Safe.keep K159q all0 C160.1 Sf160_b116
    have Sf172_b117 := Safe.keep K159q all0 C160.1 Sf160_b117
    have Sf172_b1_4_2_125 := Safe.keep K159q all0 C160.1 Sf160_b1_4_2_125
    have Sf172_b131 := Safe.keep K159q all0 C160.1 Sf160_b131
    have Sf172_b4_144 := Safe.keep K159q all0 C160.1 Sf160_b4_144
    have Sf172_b1_5_144 := Safe.keep K159q all0 C160.1 Sf160_b1_5_144
    have Sf172_b4_159 := Safe.keep K159q all0 C160.1 Sf159_b4_159
    have Sf172_b1_5_159 := Safe.keep K159q all0 C160.1 Sf159_b1_5_159
    have hl171_b116 := f167.lt
    have f173 := (f162.keep K159q nin0)
    have hl171_b117 := f173.lt
    have hl171_b1_4_2_125 := f170.lt
    have f174 := (f164.keep K159q nin0)
    have hl171_b131 := f174.lt
    have f175 := (q0_144.keep K159q)
    have hl171_b4_144 := f175.lt
    have f176 := (f158.keep K159q nin0)
    have hl171_b1_5_144 := f176.lt
    have hl171_b4_159 := q0_159.lt
    have hl171_b1_5_159 := f166.lt
    obtain ⟨_, _, ⟨T171, L171, k171, n171⟩, -, X171', hS171', hg171, ⟨Lc171, hQ171, l171, y171, z171, hC171⟩, st171⟩ := callSS X159 hx (y := nM23) hown (mvT hZ (ow hw 48 rfl)) (mvT hZ (ow hw 49 rfl)) (mvT hZ (ow hw 50 rfl)) (mvT hZ (ow hw 51 rfl)) (by decide) (backOfSH (W := 0) (rm12_76 l Z a0 hw [] b116 cs b1_4_2_125 k1_4_2_125 wya wyb h159 n0 (Nat.le_trans Z0 K159.1) f165 f167 f168 f169 f170 gn_b116 ne_b116_b1_4_2_125 gn_b1_4_2_125 c_cs na_ya nb_ya na_yb nb_yb) hZ (ow hw 51 rfl) (ow hw 50 rfl) (by decide) (by decide) (own_EWs hw) C172.1) (g := (mkF m 191 #[vi p0, vi p1, vi p2, vi p3, vi p4, vi ya, vi yb, vi yc, vi yd, vi z36_5, vr b116, vr b131, vr b4_144, vr b4_159, .unset, .unset] [(.ref b116)])) rfl (by rw [hml]; rfl) (argsL := [(.ref b116)]) (rest := []) (lenOf pd_3 rfl) rfl (omw rfl rfl) (hb hby at_191) (fun _ _ => ⟨rfl, e159, (by decide : 8 + 3 ≤ _), (by decide : 26 + 29 ≤ _)⟩)
    dsimp only [Pt.U, Pt.locs, Pt.cells, Pt.slots] at X171' hS171' hg171 l171 y171 z171 st171 hQ171 hC171
    subst l171 y171 z171
    obtain ⟨X171, hS171, hZ171, hown171⟩ := rebS hS (Nat.le_trans (Nat.le_trans (Nat.le_trans (Nat.le_trans (Nat.le_trans (Nat.le_trans (Nat.le_trans (Nat.le_trans (Nat.le_trans (Nat.le_trans (Nat.le_trans (Nat.le_trans (Nat.le_trans (Nat.le_trans (Nat.le_trans (Nat.le_trans (Nat.le_trans hk E116.1) E117.1) (Keep.of_wr W119).1) (Keep.of_wr W120).1) K125q.1) E131.1) (Keep.of_wr W135).1) (Keep.of_wr W136).1) (Keep.of_wr W137).1) (Keep.of_wr W138).1) (Keep.of_wr W139).1) (Keep.of_wr W140).1) (Keep.of_wr W141).1) (Keep.of_wr W142).1) K144q.1) K159q.1) (Nat.le_of_eq (congrArg Array.size e159.symm))) X171' hS171' hg171 hZ hown
    replace hS := hS171
    replace hZ : Z.Warmed39 T171.vm := hZ171
    replace hown : T171.vm.findClass "com/example/dibs/dibs/core/KeyspaceWithPrefixPinLaw" = some m.cls := hown171
    obtain ⟨h171, e171⟩ : ∃ z, T171.heap = z := ⟨_, rfl⟩
    rw [e171] at hQ171
    obtain ⟨b1_171, rfl, N171q, K171q, sz_b1_171, q0_171, q1_171⟩ := hQ171
    have N171 := Fr.app N159 N171q
    have lt171_b116 := f167.lt
    have lt171_b117 := f173.lt
    have lt171_b1_4_2_125 := f170.lt
    have lt171_b131 := f174.lt
    have lt171_b4_144 := f175.lt
    have lt171_b1_5_144 := f176.lt
    have lt171_b4_159 := q0_159.lt
    have lt171_b1_5_159 := f166.lt
    have ne_b116_b1_171 : b116 ≠ b1_171 := Nat.ne_of_lt (Nat.lt_of_lt_of_le lt171_b116 sz_b1_171)
    have ne_b117_b1_171 : b117 ≠ b1_171 := Nat.ne_of_lt (Nat.lt_of_lt_of_le lt171_b117 sz_b1_171)
    have ne_b1_4_2_125_b1_171 : b1_4_2_125 ≠ b1_171 := Nat.ne_of_lt (Nat.lt_of_lt_of_le lt171_b1_4_2_125 sz_b1_171)
    have ne_b131_b1_171 : b131 ≠ b1_171 := Nat.ne_of_lt (Nat.lt_of_lt_of_le lt171_b131 sz_b1_171)
    have ne_b4_144_b1_171 : b4_144 ≠ b1_171 := Nat.ne_of_lt (Nat.lt_of_lt_of_le lt171_b4_144 sz_b1_171)
    have ne_b1_5_144_b1_171 : b1_5_144 ≠ b1_171 := Nat.ne_of_lt (Nat.lt_of_lt_of_le lt171_b1_5_144 sz_b1_171)
    have ne_b4_159_b1_171 : b4_159 ≠ b1_171 := Nat.ne_of_lt (Nat.lt_of_lt_of_le lt171_b4_159 sz_b1_171)
    have ne_b1_5_159_b1_171 : b1_5_159 ≠ b1_171 := Nat.ne_of_lt (Nat.lt_of_lt_of_le lt171_b1_5_159 sz_b1_171)
    have gn_b1_171 : n0 ≤ b1_171 := Nat.le_trans (Nat.le_trans Z0 K159.1) sz_b1_171
    have sz_b1_171' := Nat.le_trans K159.1 sz_b1_171
    replace sz_b1_171 := sz_b1_171'
    have K171 : Keep h0 h171 [] := K159.trans K171q all0
    have f177 := own_staK f165 K171q all0
    rw [e171] at hC171
    have C171 := C172.trans hC171
    have Sf171_b116 := hC171.safe hl171_b116 Sf172_b116
    have Sf171_b117 := hC171.safe hl171_b117 Sf172_b117
    have Sf171_b1_4_2_125 := hC171.safe hl171_b1_4_2_125 Sf172_b1_4_2_125
    have Sf171_b131 := hC171.safe hl171_b131 Sf172_b131
    have Sf171_b4_144 := hC171.safe hl171_b4_144 Sf172_b4_144
    have Sf171_b1_5_144 := hC171.safe hl171_b1_5_144 Sf172_b1_5_144
    have Sf171_b4_159 := hC171.safe hl171_b4_159 Sf172_b4_159
    have Sf171_b1_5_159 := hC171.safe hl171_b1_5_159 Sf172_b1_5_159
    have hk171 : T171.heap.size ≤ h171.size := Nat.le_of_eq (congrArg Array.size e171)
    refine step (T171.setTop (mkF m 194 #[vi p0, vi p1, vi p2, vi p3, vi p4, vi ya, vi yb, vi yc, vi yd, vi z36_5, vr b116, vr b131, vr b4_144, vr b4_159, .unset, .unset] [(.ref b1_171)])) (fun t k => st171.trans k) ?_
    refine step (T171.setTop (mkF m 196 #[vi p0, vi p1, vi p2, vi p3, vi p4, vi ya, vi yb, vi yc, vi yd, vi z36_5, vr b116, vr b131, vr b4_144, vr b4_159, vr b1_171, .unset] [])) (fun t k => XS.astore X171.here hx rfl (hb hby at_194) rfl rfl (l' := #[vi p0, vi p1, vi p2, vi p3, vi p4, vi ya, vi yb, vi yc, vi yd, vi z36_5, vr b116, vr b131, vr b4_144, vr b4_159, vr b1_171, .unset]) rfl k) ?_
    refine oaL KK X171 at_196 (.ref b1_171) 198 rfl rfl rfl ?_
    refine oaL KK X171 at_198 (.ref b4_144) 200 rfl rfl rfl ?_
    refine oaL KK X171 at_200 (.ref b4_159) 202 rfl rfl rfl ?_
    have f178 := (f175.keep K171q)
    have f179 := ((q1_144.keep K159q nin0).keep K171q nin0)
    have f180 := ((q2_144.keep K159q nin0).keep K171q nin0)
    have f181 := (q0_159.keep K171q)
    have f182 := (q1_159.keep K171q nin0)
    have f183 := (q2_159.keep K171q nin0)
    have f184 := (f167.keep K171q)
    have f185 := (f168.keep K171q nin0)
    have f186 := (f169.keep K171q nin0)
    have f187 := (f176.keep K171q nin0)
    have f188 := (f166.keep K171q nin0)
    have f189 := (f170.keep K171q nin0)
    have hl190_b116 := f184.lt
    have f191 := (f173.keep K171q nin0)
    have hl190_b117 := f191.lt
    have hl190_b1_4_2_125 := f189.lt
    have f192 := (f174.keep K171q nin0)
    have hl190_b131 := f192.lt
    have hl190_b4_144 := f178.lt
    have hl190_b1_5_144 := f187.lt
    have hl190_b4_159 := f181.lt
    have hl190_b1_5_159 := f188.lt
    obtain ⟨cq190, kq190, q190a, q190b, q190c⟩ := isOf hZ e171 q0_171
    obtain ⟨_, _, ⟨T190, L190, k190, n190⟩, -, X190', hS190', hg190, ⟨Lc190, hQ190, l190, y190, z190, hC190⟩, st190⟩ := X171.virtualBackS hx (y := nM43) (z := nM43) hown (mvT hZ (ow hw 112 rfl)) (mvT hZ (ow hw 113 rfl)) (notFace_of_selects (args := #[]) (mvT hZ (ow hw 115 rfl))) (mvT hZ (ow hw 115 rfl)) (mvT hZ (ow hw 114 rfl)) (by decide) (backOfSH (W := 0) (rm26_89 l Z a0 hw [] b1_171 b4_144 b4_159 cs b116 b1_5_144 b1_5_159 b1_4_2_125 k1_5_144 wyc k1_5_159 wyd k1_4_2_125 wya wyb h171 n0 (Nat.le_trans Z0 K171.1) f177 q0_171 q1_171 f178 f179 f180 f181 f182 f183 f184 f185 f186 f187 f188 f189 gn_b1_171 (Ne.symm ne_b4_144_b1_171) (Ne.symm ne_b4_159_b1_171) (Ne.symm ne_b116_b1_171) (Ne.symm ne_b1_5_144_b1_171) (Ne.symm ne_b1_5_159_b1_171) (Ne.symm ne_b1_4_2_125_b1_171) gn_b4_144 ne_b4_144_b4_159 (Ne.symm ne_b116_b4_144) (Ne.symm ne_b1_5_b4_144) ne_b4_144_b1_5_159 (Ne.symm ne_b1_4_2_125_b4_144) gn_b4_159 (Ne.symm ne_b116_b4_159) (Ne.symm ne_b1_5_144_b4_159) (Ne.symm ne_b1_5_b4_159) (Ne.symm ne_b1_4_2_125_b4_159) gn_b116 ne_b116_b1_5_144 ne_b116_b1_5_159 ne_b116_b1_4_2_125 gn_b1_5_144 ne_b1_5_144_b1_5_159 (Ne.symm ne_b1_4_2_125_b1_5_144) gn_b1_5_159 (Ne.symm ne_b1_4_2_125_b1_5_159) gn_b1_4_2_125 c_cs na_ya nb_ya na_yb nb_yb na_yc nb_yc na_yd nb_yd) hZ (ow hw 116 rfl) (ow hw 50 rfl) (by decide) (by decide) (own_EWs hw) C171.1) q190a q190c (g := (mkF m 202 #[vi p0, vi p1, vi p2, vi p3, vi p4, vi ya, vi yb, vi yc, vi yd, vi z36_5, vr b116, vr b131, vr b4_144, vr b4_159, vr b1_171, .unset] [(.ref b4_159), (.ref b4_144), (.ref b1_171)])) rfl (by rw [hml]; rfl) (Steps.refl _) (argsL := [(.ref b4_144), (.ref b4_159)]) (rest := []) (lenOf pd_4 rfl) rfl (omw rfl rfl) (hb hby at_202) (fun _ _ => ⟨rfl, e171, (by decide : 11 + 12 ≤ _), (by decide : 55 + 96 ≤ _)⟩)
    dsimp only [Pt.U, Pt.locs, Pt.cells, Pt.slots] at X190' hS190' hg190 l190 y190 z190 st190 hQ190 hC190
    subst l190 y190 z190
    obtain ⟨X190, hS190, hZ190, hown190⟩ := rebS hS (Nat.le_trans hk171 (Nat.le_of_eq (congrArg Array.size e171.symm))) X190' hS190' hg190 hZ hown
    replace hS := hS190
    replace hZ : Z.Warmed39 T190.vm := hZ190
    replace hown : T190.vm.findClass "com/example/dibs/dibs/core/KeyspaceWithPrefixPinLaw" = some m.cls := hown190
    obtain ⟨h190, e190⟩ : ∃ z, T190.heap = z := ⟨_, rfl⟩
    rw [e190] at hQ190
    obtain ⟨b1_76_190, b2_2_7_1_8_76_190, k2_2_7_1_8_76_190, rfl, N190q, K190q, sz_b1_76_190, sz_b2_2_7_1_8_76_190, ne_b1_76_b2_2_7_1_8_76_190, q0_190, q1_190, q2_190, q3_190⟩ := hQ190
    have N190 := Fr.app N171 N190q
    have lt190_b116 := f184.lt
    have lt190_b117 := f191.lt
    have lt190_b1_4_2_125 := f189.lt
    have lt190_b131 := f192.lt
    have lt190_b4_144 := f178.lt
    have lt190_b1_5_144 := f187.lt
    have lt190_b4_159 := f181.lt
    have lt190_b1_5_159 := f188.lt
    have lt190_b1_171 := q0_171.lt
    have ne_b116_b1_76_190 : b116 ≠ b1_76_190 := Nat.ne_of_lt (Nat.lt_of_lt_of_le lt190_b116 sz_b1_76_190)
    have ne_b117_b1_76_190 : b117 ≠ b1_76_190 := Nat.ne_of_lt (Nat.lt_of_lt_of_le lt190_b117 sz_b1_76_190)
    have ne_b1_4_2_125_b1_76_190 : b1_4_2_125 ≠ b1_76_190 := Nat.ne_of_lt (Nat.lt_of_lt_of_le lt190_b1_4_2_125 sz_b1_76_190)
    have ne_b131_b1_76_190 : b131 ≠ b1_76_190 := Nat.ne_of_lt (Nat.lt_of_lt_of_le lt190_b131 sz_b1_76_190)
    have ne_b4_144_b1_76_190 : b4_144 ≠ b1_76_190 := Nat.ne_of_lt (Nat.lt_of_lt_of_le lt190_b4_144 sz_b1_76_190)
    have ne_b1_5_144_b1_76_190 : b1_5_144 ≠ b1_76_190 := Nat.ne_of_lt (Nat.lt_of_lt_of_le lt190_b1_5_144 sz_b1_76_190)
    have ne_b4_159_b1_76_190 : b4_159 ≠ b1_76_190 := Nat.ne_of_lt (Nat.lt_of_lt_of_le lt190_b4_159 sz_b1_76_190)
    have ne_b1_5_159_b1_76_190 : b1_5_159 ≠ b1_76_190 := Nat.ne_of_lt (Nat.lt_of_lt_of_le lt190_b1_5_159 sz_b1_76_190)
    have ne_b1_171_b1_76_190 : b1_171 ≠ b1_76_190 := Nat.ne_of_lt (Nat.lt_of_lt_of_le lt190_b1_171 sz_b1_76_190)
    have gn_b1_76_190 : n0 ≤ b1_76_190 := Nat.le_trans (Nat.le_trans Z0 K171.1) sz_b1_76_190
    have sz_b1_76_190' := Nat.le_trans K171.1 sz_b1_76_190
    replace sz_b1_76_190 := sz_b1_76_190'
    have ne_b116_b2_2_7_1_8_76_190 : b116 ≠ b2_2_7_1_8_76_190 := Nat.ne_of_lt (Nat.lt_of_lt_of_le lt190_b116 sz_b2_2_7_1_8_76_190)
    have ne_b117_b2_2_7_1_8_76_190 : b117 ≠ b2_2_7_1_8_76_190 := Nat.ne_of_lt (Nat.lt_of_lt_of_le lt190_b117 sz_b2_2_7_1_8_76_190)
    have ne_b1_4_2_125_b2_2_7_1_8_76_190 : b1_4_2_125 ≠ b2_2_7_1_8_76_190 := Nat.ne_of_lt (Nat.lt_of_lt_of_le lt190_b1_4_2_125 sz_b2_2_7_1_8_76_190)
    have ne_b131_b2_2_7_1_8_76_190 : b131 ≠ b2_2_7_1_8_76_190 := Nat.ne_of_lt (Nat.lt_of_lt_of_le lt190_b131 sz_b2_2_7_1_8_76_190)
    have ne_b4_144_b2_2_7_1_8_76_190 : b4_144 ≠ b2_2_7_1_8_76_190 := Nat.ne_of_lt (Nat.lt_of_lt_of_le lt190_b4_144 sz_b2_2_7_1_8_76_190)
    have ne_b1_5_144_b2_2_7_1_8_76_190 : b1_5_144 ≠ b2_2_7_1_8_76_190 := Nat.ne_of_lt (Nat.lt_of_lt_of_le lt190_b1_5_144 sz_b2_2_7_1_8_76_190)
    have ne_b4_159_b2_2_7_1_8_76_190 : b4_159 ≠ b2_2_7_1_8_76_190 := Nat.ne_of_lt (Nat.lt_of_lt_of_le lt190_b4_159 sz_b2_2_7_1_8_76_190)
    have ne_b1_5_159_b2_2_7_1_8_76_190 : b1_5_159 ≠ b2_2_7_1_8_76_190 := Nat.ne_of_lt (Nat.lt_of_lt_of_le lt190_b1_5_159 sz_b2_2_7_1_8_76_190)
    have ne_b1_171_b2_2_7_1_8_76_190 : b1_171 ≠ b2_2_7_1_8_76_190 := Nat.ne_of_lt (Nat.lt_of_lt_of_le lt190_b1_171 sz_b2_2_7_1_8_76_190)
    have gn_b2_2_7_1_8_76_190 : n0 ≤ b2_2_7_1_8_76_190 := Nat.le_trans (Nat.le_trans Z0 K171.1) sz_b2_2_7_1_8_76_190
    have sz_b2_2_7_1_8_76_190' := Nat.le_trans K171.1 sz_b2_2_7_1_8_76_190
    replace sz_b2_2_7_1_8_76_190 := sz_b2_2_7_1_8_76_190'
    have K190 : Keep h0 h190 [] := K171.trans K190q all0
    have f193 := own_staK f177 K190q all0
    rw [e190] at hC190
    have C190 := C171.trans hC190
    have Sf190_b116 := hC190.safe hl190_b116 Sf171_b116
    have Sf190_b117 := hC190.safe hl190_b117 Sf171_b117
    have Sf190_b1_4_2_125 := hC190.safe hl190_b1_4_2_125 Sf171_b1_4_2_125
    have Sf190_b131 := hC190.safe hl190_b131 Sf171_b131
    have Sf190_b4_144 := hC190.safe hl190_b4_144 Sf171_b4_144
    have Sf190_b1_5_144 := hC190.safe hl190_b1_5_144 Sf171_b1_5_144
    have Sf190_b4_159 := hC190.safe hl190_b4_159 Sf171_b4_159
    have Sf190_b1_5_159 := hC190.safe hl190_b1_5_159 Sf171_b1_5_159
    have hk190 : T190.heap.size ≤ h190.size := Nat.le_of_eq (congrArg Array.size e190)
    refine step (T190.setTop (mkF m 205 #[vi p0, vi p1, vi p2, vi p3, vi p4, vi ya, vi yb, vi yc, vi yd, vi z36_5, vr b116, vr b131, vr b4_144, vr b4_159, vr b1_171, .unset] [(.ref b1_76_190)])) (fun t k => st190.trans k) ?_
    refine step (T190.setTop (mkF m 207 #[vi p0, vi p1, vi p2, vi p3, vi p4, vi ya, vi yb, vi yc, vi yd, vi z36_5, vr b116, vr b131, vr b4_144, vr b4_159, vr b1_171, vr b1_76_190] [])) (fun t k => XS.astore X190.here hx rfl (hb hby at_205) rfl rfl (l' := #[vi p0, vi p1, vi p2, vi p3, vi p4, vi ya, vi yb, vi yc, vi yd, vi z36_5, vr b116, vr b131, vr b4_144, vr b4_159, vr b1_171, vr b1_76_190]) rfl k) ?_
    refine oaL KK X190 at_207 (.ref b1_76_190) 209 rfl rfl rfl ?_
    obtain ⟨T194, h194, X194, e194, E194, A194, D194, -, st194⟩ := newO X190 hx hZ hown (ow hw 4 rfl) (ow hw 5 rfl) (ow hw 6 rfl) e190 (g := (mkF m 209 #[vi p0, vi p1, vi p2, vi p3, vi p4, vi ya, vi yb, vi yc, vi yd, vi z36_5, vr b116, vr b131, vr b4_144, vr b4_159, vr b1_171, vr b1_76_190] [(.ref b1_76_190)])) rfl (hb hby at_209) (by decide) (by decide)
    obtain ⟨b194, g194⟩ : ∃ z, z = h190.size := ⟨_, rfl⟩
    rw [← g194] at A194 D194 st194
    have f195 := (f184.keep K190q)
    have ne_b116_b194 : b116 ≠ b194 := Nat.ne_of_lt (Nat.lt_of_lt_of_le f195.lt (Nat.le_of_eq g194.symm))
    have f196 := (f191.keep K190q nin0)
    have ne_b117_b194 : b117 ≠ b194 := Nat.ne_of_lt (Nat.lt_of_lt_of_le f196.lt (Nat.le_of_eq g194.symm))
    have f197 := (f189.keep K190q nin0)
    have ne_b1_4_2_125_b194 : b1_4_2_125 ≠ b194 := Nat.ne_of_lt (Nat.lt_of_lt_of_le f197.lt (Nat.le_of_eq g194.symm))
    have f198 := (f192.keep K190q nin0)
    have ne_b131_b194 : b131 ≠ b194 := Nat.ne_of_lt (Nat.lt_of_lt_of_le f198.lt (Nat.le_of_eq g194.symm))
    have f199 := (f178.keep K190q)
    have ne_b4_144_b194 : b4_144 ≠ b194 := Nat.ne_of_lt (Nat.lt_of_lt_of_le f199.lt (Nat.le_of_eq g194.symm))
    have f200 := (f187.keep K190q nin0)
    have ne_b1_5_144_b194 : b1_5_144 ≠ b194 := Nat.ne_of_lt (Nat.lt_of_lt_of_le f200.lt (Nat.le_of_eq g194.symm))
    have f201 := (f181.keep K190q)
    have ne_b4_159_b194 : b4_159 ≠ b194 := Nat.ne_of_lt (Nat.lt_of_lt_of_le f201.lt (Nat.le_of_eq g194.symm))
    have f202 := (f188.keep K190q nin0)
    have ne_b1_5_159_b194 : b1_5_159 ≠ b194 := Nat.ne_of_lt (Nat.lt_of_lt_of_le f202.lt (Nat.le_of_eq g194.symm))
    have f203 := (q0_171.keep K190q)
    have ne_b1_171_b194 : b1_171 ≠ b194 := Nat.ne_of_lt (Nat.lt_of_lt_of_le f203.lt (Nat.le_of_eq g194.symm))
    have ne_b1_76_190_b194 : b1_76_190 ≠ b194 := Nat.ne_of_lt (Nat.lt_of_lt_of_le q0_190.lt (Nat.le_of_eq g194.symm))
    have ne_b2_2_7_1_8_76_190_b194 : b2_2_7_1_8_76_190 ≠ b194 := Nat.ne_of_lt (Nat.lt_of_lt_of_le q3_190.lt (Nat.le_of_eq g194.symm))
    have gn_b194 : n0 ≤ b194 := Nat.le_trans (Nat.le_trans Z0 K190.1) (Nat.le_of_eq g194.symm)
    have sz_b194 : h0.size ≤ b194 := Nat.le_trans K190.1 (Nat.le_of_eq g194.symm)
    have Sf194_b194 : Safe Z own_EL T190.vm h190 b194 := Safe.new (Nat.le_of_eq g194.symm)
    have K194 : Keep h0 h194 [] := K190.ext E194
    have F_coder_b194 : Fld Z h194 b194 "java/lang/String" "coder" "B" (.int 0) := D194 (Or.inr (ow hw 31 rfl)) (ty := .byte) (by decide)
    have F_value_b194 : Fld Z h194 b194 "java/lang/String" "value" "[B" .null := D194 (Or.inr (ow hw 33 rfl)) (ty := (.array .byte)) (by decide)
    refine step (T194.setTop (mkF m 212 #[vi p0, vi p1, vi p2, vi p3, vi p4, vi ya, vi yb, vi yc, vi yd, vi z36_5, vr b116, vr b131, vr b4_144, vr b4_159, vr b1_171, vr b1_76_190] [(.ref b194), (.ref b1_76_190)])) (fun t k => st194 t k) ?_
    refine odu KK X194 at_212 213 rfl rfl ?_
    refine oaL KK X194 at_213 (.ref b131) 215 rfl rfl rfl ?_
    have f204 := (f193.ext E194)
    have f205 := (f198.ext E194)
    have C207 := C190.trans (CHr.ext E194 C190.1)
    have Sf207_b116 := Safe.ext E194 C190.1 Sf190_b116
    have Sf207_b117 := Safe.ext E194 C190.1 Sf190_b117
    have Sf207_b1_4_2_125 := Safe.ext E194 C190.1 Sf190_b1_4_2_125
    have Sf207_b131 := Safe.ext E194 C190.1 Sf190_b131
    have Sf207_b4_144 := Safe.ext E194 C190.1 Sf190_b4_144
    have Sf207_b1_5_144 := Safe.ext E194 C190.1 Sf190_b1_5_144
    have Sf207_b4_159 := Safe.ext E194 C190.1 Sf190_b4_159
    have Sf207_b1_5_159 := Safe.ext E194 C190.1 Sf190_b1_5_159
    have Sf207_b194 := Safe.ext E194 C190.1 Sf194_b194
    obtain ⟨_, _, ⟨T206, L206, k206, n206⟩, -, X206, ⟨Lc206, hQ206, l206, y206, z206⟩, st206⟩ := X194.specialBack hx (y := nM5) rfl hown (mvT hZ (ow hw 8 rfl)) (mvT hZ (ow hw 9 rfl)) (mvT hZ (ow hw 10 rfl)) (by decide) (backOf (W := 2) (rm2_103 l Z a0 hw [] b194 b131 cs k131 (nar .char ya) (nar .char yb) (nar .char yc) (nar .char yd) h194 n0 (Nat.le_trans Z0 K194.1) f204 A194 F_coder_b194 F_value_b194 f205 gn_b194 (Ne.symm ne_b131_b194) gn_b131 le_ya le_yb le_yc le_yd c_cs) hZ (ow hw 10 rfl) (ow hw 6 rfl) (by decide) (by decide)) (g := (mkF m 215 #[vi p0, vi p1, vi p2, vi p3, vi p4, vi ya, vi yb, vi yc, vi yd, vi z36_5, vr b116, vr b131, vr b4_144, vr b4_159, vr b1_171, vr b1_76_190] [(.ref b131), (.ref b194), (.ref b194), (.ref b1_76_190)])) rfl (by rw [hml]; rfl) (Steps.refl _) (a := b194) (argsL := [(.ref b131)]) (rest := [(.ref b194), (.ref b1_76_190)]) (lenOf pd_1 rfl) rfl (omw rfl rfl) (hb hby at_215) (fun _ _ => ⟨rfl, e194, (by decide : 24 + 1 ≤ _), (by decide : 155 + 8 ≤ _)⟩)
    dsimp only [Pt.U, Pt.locs, Pt.cells, Pt.slots] at X206 l206 y206 z206 st206 hQ206
    subst l206 y206 z206
    obtain ⟨h206, e206⟩ : ∃ z, T206.heap = z := ⟨_, rfl⟩
    rw [e206] at hQ206
    obtain ⟨b1_4_2_206, k1_4_2_206, rfl, N206q, K206q, sz_b1_4_2_206, q0_206, q1_206, q2_206⟩ := hQ206
    have N206 := Fr.app N190 N206q
    have f208 := (f195.ext E194)
    have lt206_b116 := f208.lt
    have f209 := (f196.ext E194)
    have lt206_b117 := f209.lt
    have f210 := (f197.ext E194)
    have lt206_b1_4_2_125 := f210.lt
    have lt206_b131 := f205.lt
    have f211 := (f199.ext E194)
    have lt206_b4_144 := f211.lt
    have f212 := (f200.ext E194)
    have lt206_b1_5_144 := f212.lt
    have f213 := (f201.ext E194)
    have lt206_b4_159 := f213.lt
    have f214 := (f202.ext E194)
    have lt206_b1_5_159 := f214.lt
    have f215 := (f203.ext E194)
    have lt206_b1_171 := f215.lt
    have f216 := (q0_190.ext E194)
    have lt206_b1_76_190 := f216.lt
    have f217 := (q3_190.ext E194)
    have lt206_b2_2_7_1_8_76_190 := f217.lt
    have lt206_b194 := A194.lt
    have Sf206_b1_4_2_206 : Safe Z own_EL T190.vm h194 b1_4_2_206 := Safe.new sz_b1_4_2_206
    have ne_b116_b1_4_2_206 : b116 ≠ b1_4_2_206 := Nat.ne_of_lt (Nat.lt_of_lt_of_le lt206_b116 sz_b1_4_2_206)
    have ne_b117_b1_4_2_206 : b117 ≠ b1_4_2_206 := Nat.ne_of_lt (Nat.lt_of_lt_of_le lt206_b117 sz_b1_4_2_206)
    have ne_b1_4_2_125_b1_4_2_206 : b1_4_2_125 ≠ b1_4_2_206 := Nat.ne_of_lt (Nat.lt_of_lt_of_le lt206_b1_4_2_125 sz_b1_4_2_206)
    have ne_b131_b1_4_2_206 : b131 ≠ b1_4_2_206 := Nat.ne_of_lt (Nat.lt_of_lt_of_le lt206_b131 sz_b1_4_2_206)
    have ne_b4_144_b1_4_2_206 : b4_144 ≠ b1_4_2_206 := Nat.ne_of_lt (Nat.lt_of_lt_of_le lt206_b4_144 sz_b1_4_2_206)
    have ne_b1_5_144_b1_4_2_206 : b1_5_144 ≠ b1_4_2_206 := Nat.ne_of_lt (Nat.lt_of_lt_of_le lt206_b1_5_144 sz_b1_4_2_206)
    have ne_b4_159_b1_4_2_206 : b4_159 ≠ b1_4_2_206 := Nat.ne_of_lt (Nat.lt_of_lt_of_le lt206_b4_159 sz_b1_4_2_206)
    have ne_b1_5_159_b1_4_2_206 : b1_5_159 ≠ b1_4_2_206 := Nat.ne_of_lt (Nat.lt_of_lt_of_le lt206_b1_5_159 sz_b1_4_2_206)
    have ne_b1_171_b1_4_2_206 : b1_171 ≠ b1_4_2_206 := Nat.ne_of_lt (Nat.lt_of_lt_of_le lt206_b1_171 sz_b1_4_2_206)
    have ne_b1_76_190_b1_4_2_206 : b1_76_190 ≠ b1_4_2_206 := Nat.ne_of_lt (Nat.lt_of_lt_of_le lt206_b1_76_190 sz_b1_4_2_206)
    have ne_b2_2_7_1_8_76_190_b1_4_2_206 : b2_2_7_1_8_76_190 ≠ b1_4_2_206 := Nat.ne_of_lt (Nat.lt_of_lt_of_le lt206_b2_2_7_1_8_76_190 sz_b1_4_2_206)
    have ne_b194_b1_4_2_206 : b194 ≠ b1_4_2_206 := Nat.ne_of_lt (Nat.lt_of_lt_of_le lt206_b194 sz_b1_4_2_206)
    have gn_b1_4_2_206 : n0 ≤ b1_4_2_206 := Nat.le_trans (Nat.le_trans Z0 K194.1) sz_b1_4_2_206
    have sz_b1_4_2_206' := Nat.le_trans K194.1 sz_b1_4_2_206
    replace sz_b1_4_2_206 := sz_b1_4_2_206'
    have K206 : Keep h0 h206 [] := K194.trans K206q (allS (Or.inr sz_b194) all0)
    have f218 := own_staK f204 K206q (allS (own_exaP A194) all0)
    refine step (T206.setTop (mkF m 218 #[vi p0, vi p1, vi p2, vi p3, vi p4, vi ya, vi yb, vi yc, vi yd, vi z36_5, vr b116, vr b131, vr b4_144, vr b4_159, vr b1_171, vr b1_76_190] [(.ref b194), (.ref b1_76_190)])) (fun t k => st206.trans k) ?_
    have f219 := q2_206
    rw [hb_ya, hb_yb, hb_yc, hb_yd] at f219
    have f220 := (f216.keep K206q)
    have f221 := ((q1_190.ext E194).keep K206q (ninS ne_b1_76_190_b194 nin0))
    have f222 := ((q2_190.ext E194).keep K206q (ninS ne_b1_76_190_b194 nin0))
    have f223 := (A194.keep K206q)
    have f224 := (f217.keep K206q (ninS ne_b2_2_7_1_8_76_190_b194 nin0))
    have C226 := C207.trans (CHr.keep K206q (allS Sf207_b194 all0) C207.1)
    have Sf226_b116 := Safe.keep K206q (allS Sf207_b194 all0) C207.1 Sf207_b116
    have Sf226_b117 := Safe.keep K206q (allS Sf207_b194 all0) C207.1 Sf207_b117
    have Sf226_b1_4_2_125 := Safe.keep K206q (allS Sf207_b194 all0) C207.1 Sf207_b1_4_2_125
    have Sf226_b131 := Safe.keep K206q (allS Sf207_b194 all0) C207.1 Sf207_b131
    have Sf226_b4_144 := Safe.keep K206q (allS Sf207_b194 all0) C207.1 Sf207_b4_144
    have Sf226_b1_5_144 := Safe.keep K206q (allS Sf207_b194 all0) C207.1 Sf207_b1_5_144
    have Sf226_b4_159 := Safe.keep K206q (allS Sf207_b194 all0) C207.1 Sf207_b4_159
    have Sf226_b1_5_159 := Safe.keep K206q (allS Sf207_b194 all0) C207.1 Sf207_b1_5_159
    have Sf226_b194 := Safe.keep K206q (allS Sf207_b194 all0) C207.1 Sf207_b194
    have Sf226_b1_4_2_206 := Safe.keep K206q (allS Sf207_b194 all0) C207.1 Sf206_b1_4_2_206
    obtain ⟨cq225, kq225, q225a, q225b, q225c⟩ := isOf hZ e206 f220
    obtain ⟨_, _, ⟨T225, L225, k225, n225⟩, -, X225, ⟨Lc225, hQ225, l225, y225, z225⟩, st225⟩ := X206.virtualBack hx (y := nM45) (z := nM45) hown (mvT hZ (ow hw 222 rfl)) (mvT hZ (ow hw 223 rfl)) (notFace_of_selects (args := #[]) (mvT hZ (ow hw 225 rfl))) (mvT hZ (ow hw 225 rfl)) (mvT hZ (ow hw 224 rfl)) (by decide) (backOf (W := 0) (rm46_108 l Z a0 hw [] b1_76_190 b194 cs b2_2_7_1_8_76_190 b1_4_2_206 k2_2_7_1_8_76_190 wya wyb wyc wyd k1_4_2_206 h206 n0 (Nat.le_trans Z0 K206.1) f218 f220 f221 f222 f223 q0_206 q1_206 f224 f219 gn_b1_76_190 ne_b1_76_190_b194 ne_b1_76_b2_2_7_1_8_76_190 ne_b1_76_190_b1_4_2_206 gn_b194 (Ne.symm ne_b2_2_7_1_8_76_190_b194) ne_b194_b1_4_2_206 gn_b2_2_7_1_8_76_190 ne_b2_2_7_1_8_76_190_b1_4_2_206 gn_b1_4_2_206 c_cs na_ya nb_ya na_yb nb_yb na_yc nb_yc na_yd nb_yd) hZ (ow hw 226 rfl) (ow hw 6 rfl) (by decide) (by decide)) q225a q225c (g := (mkF m 218 #[vi p0, vi p1, vi p2, vi p3, vi p4, vi ya, vi yb, vi yc, vi yd, vi z36_5, vr b116, vr b131, vr b4_144, vr b4_159, vr b1_171, vr b1_76_190] [(.ref b194), (.ref b1_76_190)])) rfl (by rw [hml]; rfl) (Steps.refl _) (argsL := [(.ref b194)]) (rest := []) (lenOf pd_5 rfl) rfl (omw rfl rfl) (hb hby at_218) (fun _ _ => ⟨rfl, e206, (by decide : 25 + 0 ≤ _), (by decide : 163 + 0 ≤ _)⟩)
    dsimp only [Pt.U, Pt.locs, Pt.cells, Pt.slots] at X225 l225 y225 z225 st225 hQ225
    subst l225 y225 z225
    obtain ⟨rfl, N225q, e225q⟩ := hQ225
    have N225 := Fr.app N206 N225q
    refine step (T225.setTop (mkF m 221 #[vi p0, vi p1, vi p2, vi p3, vi p4, vi ya, vi yb, vi yc, vi yd, vi z36_5, vr b116, vr b131, vr b4_144, vr b4_159, vr b1_171, vr b1_76_190] [(.int 1)])) (fun t k => st225.trans k) ?_
    refine fin (v := some (.int (nar .boolean (1 : Int32)))) X225 hS (Nat.le_trans (Nat.le_trans (Nat.le_trans hk190 E194.1) K206q.1) (Nat.le_of_eq (congrArg Array.size e225q.symm))) hZ (by rw [e225q]; exact C226) (fun h => by cases h) ?_ (by decide) (by decide) (fun fs hr => retN X225 hx (t := .boolean) hret (by simp) (hb hby at_221) hr)
    show Q0 Z p0 p1 p2 p3 p4 cs h0 n0 (some (.int (nar .boolean (1 : Int32)))) T225.heap _
    rw [e225q]
    exact ⟨own_fin rfl, N225⟩
set_option maxRecDepth 65536 in
set_option maxHeartbeats 40000000 in
theorem comes_1 {Post : Tables → Env → Array Value → State → Outcome → State → Prop} (hpost : ∀ tb e args s v u, (limb_1_1.after args s (.returned v) u = true ∧ limb_1_2.after args s (.returned v) u = true ∧ True) → ReturnedEndW s (.returned v) u (Jvm.fieldLocs frame_1_writes args s ++ Jvm.arrayLocs frame_1_arrays args s ++ Jvm.staticLocs frame_1_statics s) 48 5376 → Post tb e args s (.returned v) u) :
    ArmFor flags0 classFile x code maxLocals ret World_1 tables_1 room_1 Calls_1 rest_1 Pre_1 Post := by
  intro l hfl _ _ p e ha hc hk s m args below hf hA hF happ hP
  obtain ⟨hcalls, hrest, hpre⟩ := hP
  obtain ⟨-, -, -, hnamed, -, -, -, hat⟩ := (Spec.applies_iff hf).mp happ
  obtain ⟨hg, hn⟩ := and_e (Cond.before_iff.mp (show (Jvm.Cond.and given_1 narrow_1).before args s = true from hpre))
  obtain ⟨hcount, hr0⟩ := and_e hg
  obtain ⟨ha0, hr1⟩ := and_e hr0
  obtain ⟨ha1, hr2⟩ := and_e hr1
  obtain ⟨ha2, hr3⟩ := and_e hr2
  obtain ⟨ha3, hr4⟩ := and_e hr3
  have ha4 := hr4
  obtain ⟨w0, w1, w2, w3, w4, rfl⟩ : ∃ w0 w1 w2 w3 w4 : Value, args = #[w0, w1, w2, w3, w4] := by
    have hs : args.size = 5 := by simpa [Cond.value, given_1] using hcount
    obtain ⟨L⟩ := args
    match L, hs with
    | [w0, w1, w2, w3, w4], _ => exact ⟨w0, w1, w2, w3, w4, rfl⟩
  have hw := fun d (hd : d ∈ tables_1) => atoms_spec (ws := Jvm.Cond.code x code maxLocals ret :: tables_1) hat d (List.mem_cons_of_mem _ hd)
  have hfit : Fit s := fun {y c} hc i hi => by
    obtain ⟨ha, rfl⟩ := Array.getElem?_eq_some_iff.mp hc
    have q := List.all_eq_true.mp ((Array.all_eq_true_iff_forall_mem.mp hF) _ (Array.getElem_mem ha)) i (List.mem_range.mpr hi)
    simpa [Array.getElem?_eq_getElem hi] using q
  obtain ⟨hsets, hown0⟩ := atoms_of _ (rest_1_c_eq ▸ (show rest_1_c.before _ s = true from hrest))
  have hr00 := Cond.before_iff.mp hown0
  obtain ⟨i0, ei0⟩ := is_v ha0
  obtain rfl : w0 = (.int i0) := Option.some.inj ei0
  obtain ⟨i1, ei1⟩ := is_v ha1
  obtain rfl : w1 = (.int i1) := Option.some.inj ei1
  obtain ⟨i2, ei2⟩ := is_v ha2
  obtain rfl : w2 = (.int i2) := Option.some.inj ei2
  obtain ⟨i3, ei3⟩ := is_v ha3
  obtain rfl : w3 = (.int i3) := Option.some.inj ei3
  obtain ⟨i4, ei4⟩ := is_v ha4
  obtain rfl : w4 = (.int i4) := Option.some.inj ei4
  have n3 := not_v (Cond.before_iff.mp (hsets _ (List.mem_of_getElem? (i := 2) rfl)))
  obtain ⟨cs, e6⟩ := is_v (Cond.before_iff.mp (hsets _ (List.mem_of_getElem? (i := 1) rfl)))
  have S_cs : Sta s s.heap "java/lang/String" "COMPACT_STRINGS" "Z" (.int cs) := Sta.start e6 (Or.inl (hsets _ (List.mem_of_getElem? (i := 0) rfl)))
  have c_cs : ¬ (cs = (0 : Int32)) := gotF (Cond.eq_ints e6 (Term.int_eval (0))) n3
  have hCH : CHv s own_EL s.vm s.heap := CHv.start (own_EWs hw) (fun p hp => hcalls.1 p hp) (hsets _ (List.mem_of_getElem? (i := 2) rfl)) (ow hw 23 rfl) (ow hw 5 rfl)
  obtain ⟨n, o, h1, h2, h3, _, L, rfl, ⟨rfl, N⟩, -, hq⟩ := rm0 l s _ hw tables_1 i0 i1 i2 i3 i4 cs s.heap s.heap.size (Nat.le_refl _) S_cs c_cs p e ha hc hk s m _ below hf ((Spec.applies_iff_loose hf).mp happ).1 ⟨rfl, State.Warmed39.refl s, rfl, hCH⟩ trivial
  refine ⟨n, _, h1, h2, h3, hpost _ _ _ _ _ _ ⟨Cond.after_iff.mpr rfl, Cond.after_iff.mpr (eq_i res_at (Term.int_eval (1)) rfl), trivial⟩ ⟨hq.1, hq.2.1, hq.2.2.1, (hq.2.2.2.sift fun y hy => Or.inr (N y hy)).mono (by decide) (by decide)⟩⟩
theorem main_1_1 : Claimed_1_1 := comes_1 fun _ _ _ _ _ _ h hF => ⟨h.1, hF⟩
theorem main_1_2 : Claimed_1_2 := comes_1 fun _ _ _ _ _ _ h hF => ⟨h.2.1, hF⟩
end Jvm.Pilot.@@N@@
namespace Jvm.Pilot.@@N@@
open Jvm Jvm.ClassFile Sem Op Lib Jvm.Free Jvm.Stand Jvm.Pilot.@@N@@.Jvm.D
/-! MADE BY PROGRAM (witnessworld.py) out of the Statement's table words and the real class files: 26 classes; the members and pool entries that the words name. The judged class is class 1, her method 2. -/
namespace start1
open Jvm.ClassFile
def u (s : String) : CpInfo := .utf8 (stringToUtf16 s)
/-- a pool by its gaps: so many unusable entries, then the entry; so many at the end -/
def gap : Nat → List CpInfo → List CpInfo
  | 0, r => r
  | n + 1, r => .unusable :: gap n r
def poolList (es : List (Nat × CpInfo)) (last : Nat) : List CpInfo := es.foldr (fun e r => gap e.1 (e.2 :: r)) (gap last [])
def pool (es : List (Nat × CpInfo)) (last : Nat) : Array CpInfo := ⟨poolList es last⟩
def fileOf (pool : Array CpInfo) (this : Nat) (attrs : Array Attribute := #[]) (ms : Array MethodInfo := #[]) (fl : Nat := 33) (sup : Nat := 0) (ifs : Array Nat := #[]) (fds : Array FieldInfo := #[]) : ClassFile where
  minorVersion := 0
  majorVersion := 65
  constantPool := pool
  accessFlags := fl
  thisClass := this
  superClass := sup
  interfaces := ifs
  fields := fds
  methods := ms
  attributes := attrs
def plain (name : String) (sup : Option ClassId) : Class where
  name := name
  kind := .ordinary
  loader := none
  accessFlags := 33
  super := sup
  interfaces := #[]
  cf := none
  fields := #[]
  methods := #[]
  instanceTypes := #[]
  staticTypes := #[]
  resolved := #[]
  callSites := []
  init := .initialized
  statics := none
  mirror := none

def pool0 : Array CpInfo := pool [(5, u "<init>"), (0, u "()V"), (1, .class_ 10), (1, u "java/lang/Object")] 113

def k0c0 : Code := { maxStack := 0, maxLocals := 1, code := object_method_1_code, exceptionTable := #[], attributes := #[] }
def k0m0 : Method := { name := "<init>", desc := "()V", sig := { parameters := [], returnType := none }, accessFlags := 1, code := some k0c0 }
/-- java/lang/Object -/
def k0 : Class := { plain "java/lang/Object" none with
  accessFlags := 33
  interfaces := #[]
  cf := some (fileOf pool0 8 #[] #[{ accessFlags := 1, nameIndex := 5, descriptorIndex := 6, attributes := #[] }] 33 0 #[] #[])
  fields := #[]
  methods := #[k0m0]
  instanceTypes := #[]
  staticTypes := #[]
  resolved := Array.replicate 124 none
  statics := none }

def pool1 : Array CpInfo := pool [(2, .class_ 4), (1, u "java/lang/Object"), (0, u "<init>"), (0, u "()V"), (0, .methodref 8 9), (0, .class_ 10), (0, .nameAndType 11 12), (0, u "com/example/dibs/dibs/core/KeyspaceWithPrefixPinLaw"), (0, u "safe"), (0, u "(I)C"), (0, .class_ 14), (0, u "java/lang/String"), (0, .methodref 13 16), (0, .nameAndType 5 17), (0, u "([C)V"), (0, .methodref 13 19), (0, .nameAndType 20 21), (0, u "valueOf"), (0, u "(C)Ljava/lang/String;"), (0, .methodref 23 24), (0, .class_ 25), (0, .nameAndType 26 27), (0, u "com/example/dibs/dibs/core/Keyspace"), (0, u "withPrefix"), (0, u "(Ljava/lang/String;)Lcom/example/dibs/dibs/core/Keyspace;"), (0, .methodref 23 29), (0, .nameAndType 30 31), (0, u "key"), (0, u "(Ljava/lang/String;Ljava/lang/String;)Ljava/lang/String;"), (0, .methodref 13 33), (0, .nameAndType 34 35), (0, u "equals"), (0, u "(Ljava/lang/Object;)Z"), (3, u "law"), (0, u "(IIIII)Z")] 4

def k1m0 : Method := { name := "<init>", desc := "()V", sig := { parameters := [], returnType := none }, accessFlags := 1, code := none }
def k1c1 : Code := { maxStack := 2, maxLocals := 2, code := method_2_code, exceptionTable := #[], attributes := #[] }
def k1m1 : Method := { name := "safe", desc := "(I)C", sig := { parameters := [.int], returnType := some .char }, accessFlags := 10, code := some k1c1 }
def k1c2 : Code := { maxStack := 6, maxLocals := 16, code := code, exceptionTable := #[], attributes := #[] }
def k1m2 : Method := { name := "law", desc := "(IIIII)Z", sig := { parameters := [.int, .int, .int, .int, .int], returnType := some .boolean }, accessFlags := 9, code := some k1c2 }
/-- com/example/dibs/dibs/core/KeyspaceWithPrefixPinLaw -/
def k1 : Class := { plain "com/example/dibs/dibs/core/KeyspaceWithPrefixPinLaw" (some 0) with
  accessFlags := 49
  interfaces := #[]
  cf := some (fileOf pool1 8 #[] #[{ accessFlags := 1, nameIndex := 5, descriptorIndex := 6, attributes := #[] }, { accessFlags := 10, nameIndex := 11, descriptorIndex := 12, attributes := #[] }, { accessFlags := 9, nameIndex := 39, descriptorIndex := 40, attributes := #[] }] 49 2 #[] #[])
  fields := #[]
  methods := #[k1m0, k1m1, k1m2]
  instanceTypes := #[]
  staticTypes := #[]
  resolved := Array.replicate 45 none
  statics := none }

def pool2 : Array CpInfo := pool [(1, .class_ 2), (0, u "java/io/Serializable"), (0, .class_ 4), (0, u "java/lang/Object")] 2

/-- java/io/Serializable -/
def k2 : Class := { plain "java/io/Serializable" (some 0) with
  accessFlags := 1537
  interfaces := #[]
  cf := some (fileOf pool2 1 #[] #[] 1537 3 #[] #[])
  fields := #[]
  methods := #[]
  instanceTypes := #[]
  staticTypes := #[]
  resolved := Array.replicate 7 none
  statics := none }

def pool3 : Array CpInfo := pool [(1, .class_ 2), (0, u "java/lang/Comparable"), (0, .class_ 4), (0, u "java/lang/Object")] 7

/-- java/lang/Comparable -/
def k3 : Class := { plain "java/lang/Comparable" (some 0) with
  accessFlags := 1537
  interfaces := #[]
  cf := some (fileOf pool3 1 #[] #[] 1537 3 #[] #[])
  fields := #[]
  methods := #[]
  instanceTypes := #[]
  staticTypes := #[]
  resolved := Array.replicate 12 none
  statics := none }

def pool4 : Array CpInfo := pool [(2, .class_ 4), (1, u "java/lang/CharSequence"), (42, .class_ 48), (0, u "java/lang/CharSequence$1CodePointIterator"), (10, .class_ 60), (0, u "java/lang/CharSequence$1CharIterator"), (5, .class_ 67), (0, u "java/lang/Object")] 63

/-- java/lang/CharSequence -/
def k4 : Class := { plain "java/lang/CharSequence" (some 0) with
  accessFlags := 1537
  interfaces := #[]
  cf := some (fileOf pool4 2 #[.nestMembers #[47, 59]] #[] 1537 66 #[] #[])
  fields := #[]
  methods := #[]
  instanceTypes := #[]
  staticTypes := #[]
  resolved := Array.replicate 131 none
  statics := none }

def pool5 : Array CpInfo := pool [(1, .class_ 2), (0, u "java/lang/constant/Constable"), (0, .class_ 4), (0, u "java/lang/Object")] 6

/-- java/lang/constant/Constable -/
def k5 : Class := { plain "java/lang/constant/Constable" (some 0) with
  accessFlags := 1537
  interfaces := #[]
  cf := some (fileOf pool5 1 #[] #[] 1537 3 #[] #[])
  fields := #[]
  methods := #[]
  instanceTypes := #[]
  staticTypes := #[]
  resolved := Array.replicate 11 none
  statics := none }

def pool6 : Array CpInfo := pool [(1, .class_ 2), (0, u "java/lang/constant/ConstantDesc"), (0, .class_ 4), (0, u "java/lang/Object")] 32

/-- java/lang/constant/ConstantDesc -/
def k6 : Class := { plain "java/lang/constant/ConstantDesc" (some 0) with
  accessFlags := 1537
  interfaces := #[]
  cf := some (fileOf pool6 1 #[] #[] 1537 3 #[] #[])
  fields := #[]
  methods := #[]
  instanceTypes := #[]
  staticTypes := #[]
  resolved := Array.replicate 37 none
  statics := none }

def pool7 : Array CpInfo := pool [(1, .methodref 2 3), (0, .class_ 4), (0, .nameAndType 5 6), (0, u "java/lang/Object"), (0, u "<init>"), (0, u "()V"), (2, .fieldref 10 11), (0, .class_ 12), (0, .nameAndType 13 14), (0, u "java/lang/String"), (0, u "value"), (0, u "[B"), (0, .fieldref 10 16), (0, .nameAndType 17 18), (0, u "coder"), (0, u "B"), (2, u "hash"), (0, u "I"), (2, u "hashIsZero"), (0, u "Z"), (0, .methodref 10 28), (0, .nameAndType 5 29), (0, u "([CIILjava/lang/Void;)V"), (8, .fieldref 10 39), (0, .nameAndType 40 26), (0, u "COMPACT_STRINGS"), (1, .class_ 44), (1, u "java/lang/StringUTF16"), (0, u "compress"), (1, .methodref 42 48), (0, .nameAndType 49 50), (0, u "coderFromArrayLen"), (0, u "([BI)B"), (2, u "toBytes"), (0, .methodref 55 56), (0, .class_ 57), (0, .nameAndType 58 59), (0, u "java/util/Arrays"), (0, u "copyOfRange"), (0, u "([BII)[B"), (47, .class_ 109), (1, u "java/lang/StringLatin1"), (32, u "()Z"), (34, .methodref 42 178), (0, .nameAndType 45 179), (0, u "([CII)[B"), (13, .class_ 195), (1, u "java/lang/System"), (13, .methodref 10 210), (0, .nameAndType 5 211), (0, u "([BB)V"), (0, .methodref 193 213), (0, .nameAndType 214 215), (0, u "arraycopy"), (0, u "(Ljava/lang/Object;ILjava/lang/Object;II)V"), (118, u "()I"), (0, .methodref 10 336), (0, .nameAndType 17 337), (0, u "()B"), (2, u "()[B"), (28, u "(C)Z"), (119, .methodref 10 490), (0, .nameAndType 5 491), (0, u "(Ljava/lang/AbstractStringBuilder;Ljava/lang/Void;)V"), (0, .methodref 10 493), (0, .nameAndType 494 142), (0, u "isLatin1"), (10, .methodref 10 506), (0, .nameAndType 507 334), (0, u "length"), (24, u "getBytes"), (8, .methodref 107 542), (0, .nameAndType 543 544), (0, u "equals"), (0, u "([B[B)Z"), (4, .methodref 550 506), (0, .class_ 551), (0, u "java/lang/AbstractStringBuilder"), (0, .methodref 550 553), (0, .nameAndType 554 340), (0, u "getValue"), (18, u "(Ljava/lang/Object;)Z"), (1, .class_ 576), (0, u "java/lang/CharSequence"), (22, u "CASE_INSENSITIVE_ORDER"), (0, u "Ljava/util/Comparator;"), (32, .methodref 10 634), (0, .nameAndType 635 636), (0, u "indexOf"), (0, u "(II)I"), (0, .methodref 107 638), (0, .nameAndType 635 639), (0, u "([BIII)I"), (52, u "isEmpty"), (72, u "(I)I"), (16, u "valueOf"), (0, u "(C)Ljava/lang/String;"), (37, u "([BIB)V"), (188, u "([C)V"), (4, .methodref 107 1016), (0, .nameAndType 1017 369), (0, u "canEncode"), (0, .methodref 107 1019), (0, .nameAndType 53 1020), (0, u "(C)[B"), (26, .methodref 550 493), (53, u "serialPersistentFields"), (0, u "[Ljava/io/ObjectStreamField;"), (0, .class_ 1104), (0, u "java/lang/String$CaseInsensitiveComparator"), (1, .class_ 1107), (0, u "java/io/Serializable"), (0, .class_ 1109), (0, u "java/lang/Comparable"), (0, .class_ 1111), (0, u "java/lang/constant/Constable"), (0, .class_ 1113), (0, u "java/lang/constant/ConstantDesc"), (2, u "serialVersionUID"), (0, u "J"), (3, u "REPL"), (0, u "C"), (2, u "LATIN1"), (1, u "UTF16"), (105, u "(Ljava/lang/StringBuilder;)V")] 217

def k7m0 : Method := { name := "<init>", desc := "()V", sig := { parameters := [], returnType := none }, accessFlags := 1, code := none }
def k7c1 : Code := { maxStack := 5, maxLocals := 2, code := jdk_42_method_3_code, exceptionTable := #[], attributes := #[] }
def k7m1 : Method := { name := "<init>", desc := "([C)V", sig := { parameters := [(.array .char)], returnType := none }, accessFlags := 1, code := some k7c1 }
def k7c2 : Code := { maxStack := 3, maxLocals := 2, code := jdk_42_method_53_code, exceptionTable := #[], attributes := #[] }
def k7m2 : Method := { name := "<init>", desc := "(Ljava/lang/StringBuilder;)V", sig := { parameters := [(.object "java/lang/StringBuilder")], returnType := none }, accessFlags := 1, code := some k7c2 }
def k7c3 : Code := { maxStack := 2, maxLocals := 1, code := jdk_42_method_54_code, exceptionTable := #[], attributes := #[] }
def k7m3 : Method := { name := "length", desc := "()I", sig := { parameters := [], returnType := some .int }, accessFlags := 1, code := some k7c3 }
def k7c4 : Code := { maxStack := 1, maxLocals := 1, code := jdk_42_method_55_code, exceptionTable := #[], attributes := #[] }
def k7m4 : Method := { name := "isEmpty", desc := "()Z", sig := { parameters := [], returnType := some .boolean }, accessFlags := 1, code := some k7c4 }
def k7c5 : Code := { maxStack := 2, maxLocals := 3, code := jdk_42_method_66_code, exceptionTable := #[], attributes := #[] }
def k7m5 : Method := { name := "equals", desc := "(Ljava/lang/Object;)Z", sig := { parameters := [(.object "java/lang/Object")], returnType := some .boolean }, accessFlags := 1, code := some k7c5 }
def k7c6 : Code := { maxStack := 3, maxLocals := 2, code := jdk_42_method_79_code, exceptionTable := #[], attributes := #[] }
def k7m6 : Method := { name := "indexOf", desc := "(I)I", sig := { parameters := [.int], returnType := some .int }, accessFlags := 1, code := some k7c6 }
def k7c7 : Code := { maxStack := 4, maxLocals := 3, code := jdk_42_method_80_code, exceptionTable := #[], attributes := #[] }
def k7m7 : Method := { name := "indexOf", desc := "(II)I", sig := { parameters := [.int, .int], returnType := some .int }, accessFlags := 1, code := some k7c7 }
def k7c8 : Code := { maxStack := 4, maxLocals := 1, code := jdk_42_method_139_code, exceptionTable := #[], attributes := #[] }
def k7m8 : Method := { name := "valueOf", desc := "(C)Ljava/lang/String;", sig := { parameters := [.char], returnType := some (.object "java/lang/String") }, accessFlags := 9, code := some k7c8 }
def k7c9 : Code := { maxStack := 5, maxLocals := 4, code := jdk_42_method_147_code, exceptionTable := #[], attributes := #[] }
def k7m9 : Method := { name := "getBytes", desc := "([BIB)V", sig := { parameters := [(.array .byte), .int, .byte], returnType := none }, accessFlags := 0, code := some k7c9 }
def k7c10 : Code := { maxStack := 4, maxLocals := 6, code := jdk_42_method_149_code, exceptionTable := #[], attributes := #[] }
def k7m10 : Method := { name := "<init>", desc := "([CIILjava/lang/Void;)V", sig := { parameters := [(.array .char), .int, .int, (.object "java/lang/Void")], returnType := none }, accessFlags := 2, code := some k7c10 }
def k7c11 : Code := { maxStack := 5, maxLocals := 5, code := jdk_42_method_150_code, exceptionTable := #[], attributes := #[] }
def k7m11 : Method := { name := "<init>", desc := "(Ljava/lang/AbstractStringBuilder;Ljava/lang/Void;)V", sig := { parameters := [(.object "java/lang/AbstractStringBuilder"), (.object "java/lang/Void")], returnType := none }, accessFlags := 0, code := some k7c11 }
def k7c12 : Code := { maxStack := 2, maxLocals := 3, code := jdk_42_method_151_code, exceptionTable := #[], attributes := #[] }
def k7m12 : Method := { name := "<init>", desc := "([BB)V", sig := { parameters := [(.array .byte), .byte], returnType := none }, accessFlags := 0, code := some k7c12 }
def k7c13 : Code := { maxStack := 1, maxLocals := 1, code := jdk_42_method_152_code, exceptionTable := #[], attributes := #[] }
def k7m13 : Method := { name := "coder", desc := "()B", sig := { parameters := [], returnType := some .byte }, accessFlags := 0, code := some k7c13 }
def k7c14 : Code := { maxStack := 1, maxLocals := 1, code := jdk_42_method_154_code, exceptionTable := #[], attributes := #[] }
def k7m14 : Method := { name := "isLatin1", desc := "()Z", sig := { parameters := [], returnType := some .boolean }, accessFlags := 0, code := some k7c14 }
/-- java/lang/String -/
def k7 : Class := { plain "java/lang/String" (some 0) with
  accessFlags := 49
  interfaces := #[2, 3, 4, 5, 6]
  cf := some (fileOf pool7 10 #[.nestMembers #[1103]] #[{ accessFlags := 1, nameIndex := 5, descriptorIndex := 6, attributes := #[] }, { accessFlags := 1, nameIndex := 5, descriptorIndex := 1010, attributes := #[] }, { accessFlags := 1, nameIndex := 5, descriptorIndex := 1233, attributes := #[] }, { accessFlags := 1, nameIndex := 507, descriptorIndex := 334, attributes := #[] }, { accessFlags := 1, nameIndex := 692, descriptorIndex := 142, attributes := #[] }, { accessFlags := 1, nameIndex := 543, descriptorIndex := 573, attributes := #[] }, { accessFlags := 1, nameIndex := 635, descriptorIndex := 765, attributes := #[] }, { accessFlags := 1, nameIndex := 635, descriptorIndex := 636, attributes := #[] }, { accessFlags := 9, nameIndex := 782, descriptorIndex := 783, attributes := #[] }, { accessFlags := 0, nameIndex := 532, descriptorIndex := 821, attributes := #[] }, { accessFlags := 2, nameIndex := 5, descriptorIndex := 29, attributes := #[] }, { accessFlags := 0, nameIndex := 5, descriptorIndex := 491, attributes := #[] }, { accessFlags := 0, nameIndex := 5, descriptorIndex := 211, attributes := #[] }, { accessFlags := 0, nameIndex := 17, descriptorIndex := 337, attributes := #[] }, { accessFlags := 0, nameIndex := 494, descriptorIndex := 142, attributes := #[] }] 49 2 #[1106, 1108, 575, 1110, 1112] #[{ accessFlags := 18, nameIndex := 13, descriptorIndex := 14, attributes := #[] }, { accessFlags := 18, nameIndex := 17, descriptorIndex := 18, attributes := #[] }, { accessFlags := 2, nameIndex := 21, descriptorIndex := 22, attributes := #[] }, { accessFlags := 2, nameIndex := 25, descriptorIndex := 26, attributes := #[] }, { accessFlags := 26, nameIndex := 1116, descriptorIndex := 1117, attributes := #[] }, { accessFlags := 24, nameIndex := 40, descriptorIndex := 26, attributes := #[] }, { accessFlags := 26, nameIndex := 1101, descriptorIndex := 1102, attributes := #[] }, { accessFlags := 26, nameIndex := 1121, descriptorIndex := 1122, attributes := #[] }, { accessFlags := 25, nameIndex := 599, descriptorIndex := 600, attributes := #[] }, { accessFlags := 24, nameIndex := 1125, descriptorIndex := 18, attributes := #[] }, { accessFlags := 24, nameIndex := 1127, descriptorIndex := 18, attributes := #[] }])
  fields := #[{ name := "value", type := (.array .byte), accessFlags := 18, slot := 0, constantValue := 0 }, { name := "coder", type := .byte, accessFlags := 18, slot := 1, constantValue := 0 }, { name := "hash", type := .int, accessFlags := 2, slot := 2, constantValue := 0 }, { name := "hashIsZero", type := .boolean, accessFlags := 2, slot := 3, constantValue := 0 }, { name := "serialVersionUID", type := .long, accessFlags := 26, slot := 0, constantValue := 0 }, { name := "COMPACT_STRINGS", type := .boolean, accessFlags := 24, slot := 1, constantValue := 0 }, { name := "serialPersistentFields", type := (.array (.object "java/io/ObjectStreamField")), accessFlags := 26, slot := 2, constantValue := 0 }, { name := "REPL", type := .char, accessFlags := 26, slot := 3, constantValue := 0 }, { name := "CASE_INSENSITIVE_ORDER", type := (.object "java/util/Comparator"), accessFlags := 25, slot := 4, constantValue := 0 }, { name := "LATIN1", type := .byte, accessFlags := 24, slot := 5, constantValue := 0 }, { name := "UTF16", type := .byte, accessFlags := 24, slot := 6, constantValue := 0 }]
  methods := #[k7m0, k7m1, k7m2, k7m3, k7m4, k7m5, k7m6, k7m7, k7m8, k7m9, k7m10, k7m11, k7m12, k7m13, k7m14]
  instanceTypes := #[(.array .byte), .byte, .int, .boolean]
  staticTypes := #[.long, .boolean, (.array (.object "java/io/ObjectStreamField")), .char, (.object "java/util/Comparator"), .byte, .byte]
  resolved := Array.replicate 1451 none
  statics := some 0 }

def pool8 : Array CpInfo := pool [(6, .class_ 8), (1, u "java/lang/Object"), (0, u "<init>"), (0, u "()V"), (1, .class_ 14), (1, u "java/lang/StringUTF16"), (31, u "$assertionsDisabled"), (0, u "Z"), (13, u "HI_BYTE_SHIFT"), (0, u "I"), (2, u "LO_BYTE_SHIFT"), (49, .methodref 12 116), (0, .nameAndType 117 118), (0, u "compress"), (0, u "([CI[BII)I"), (3, u "([CII)[B"), (138, u "coderFromArrayLen"), (0, u "([BI)B"), (106, .class_ 371), (1, u "java/lang/StringUTF16$LinesSpliterator"), (58, u "MAX_LENGTH"), (196, .class_ 628), (0, u "java/lang/StringUTF16$CodePointsSpliterator"), (0, .class_ 630), (0, u "java/lang/StringUTF16$CharsSpliterator")] 4

def k8m0 : Method := { name := "<init>", desc := "()V", sig := { parameters := [], returnType := none }, accessFlags := 0, code := none }
def k8c1 : Code := { maxStack := 2, maxLocals := 2, code := jdk_52_method_15_code, exceptionTable := #[], attributes := #[] }
def k8m1 : Method := { name := "coderFromArrayLen", desc := "([BI)B", sig := { parameters := [(.array .byte), .int], returnType := some .byte }, accessFlags := 8, code := some k8c1 }
def k8c2 : Code := { maxStack := 5, maxLocals := 6, code := jdk_52_method_16_code, exceptionTable := #[], attributes := #[] }
def k8m2 : Method := { name := "compress", desc := "([CII)[B", sig := { parameters := [(.array .char), .int, .int], returnType := some (.array .byte) }, accessFlags := 9, code := some k8c2 }
def k8c3 : Code := { maxStack := 3, maxLocals := 7, code := jdk_52_method_21_code, exceptionTable := #[], attributes := #[] }
def k8m3 : Method := { name := "compress", desc := "([CI[BII)I", sig := { parameters := [(.array .char), .int, (.array .byte), .int, .int], returnType := some .int }, accessFlags := 9, code := some k8c3 }
/-- java/lang/StringUTF16 -/
def k8 : Class := { plain "java/lang/StringUTF16" (some 0) with
  accessFlags := 48
  interfaces := #[]
  cf := some (fileOf pool8 12 #[.nestMembers #[627, 629, 369]] #[{ accessFlags := 0, nameIndex := 9, descriptorIndex := 10, attributes := #[] }, { accessFlags := 8, nameIndex := 261, descriptorIndex := 262, attributes := #[] }, { accessFlags := 9, nameIndex := 117, descriptorIndex := 122, attributes := #[] }, { accessFlags := 9, nameIndex := 117, descriptorIndex := 118, attributes := #[] }] 48 6 #[] #[{ accessFlags := 26, nameIndex := 61, descriptorIndex := 62, attributes := #[] }, { accessFlags := 26, nameIndex := 65, descriptorIndex := 62, attributes := #[] }, { accessFlags := 24, nameIndex := 430, descriptorIndex := 62, attributes := #[] }, { accessFlags := 4120, nameIndex := 46, descriptorIndex := 47, attributes := #[] }])
  fields := #[{ name := "HI_BYTE_SHIFT", type := .int, accessFlags := 26, slot := 0, constantValue := 0 }, { name := "LO_BYTE_SHIFT", type := .int, accessFlags := 26, slot := 1, constantValue := 0 }, { name := "MAX_LENGTH", type := .int, accessFlags := 24, slot := 2, constantValue := 0 }, { name := "$assertionsDisabled", type := .boolean, accessFlags := 4120, slot := 3, constantValue := 0 }]
  methods := #[k8m0, k8m1, k8m2, k8m3]
  instanceTypes := #[]
  staticTypes := #[.int, .int, .int, .boolean]
  resolved := Array.replicate 635 none
  statics := none }

def pool9 : Array CpInfo := pool [(4, .class_ 6), (1, u "java/lang/Object"), (0, u "<init>"), (0, u "()V"), (5, .class_ 16), (1, u "java/lang/StringLatin1"), (21, .methodref 39 40), (0, .class_ 41), (0, .nameAndType 42 43), (0, u "java/lang/Math"), (0, u "min"), (0, u "(II)I"), (44, .methodref 14 89), (0, .nameAndType 90 91), (0, u "canEncode"), (0, u "(I)Z"), (0, .methodref 39 93), (0, .nameAndType 94 43), (0, u "max"), (0, .methodref 14 96), (0, .nameAndType 97 98), (0, u "indexOfChar"), (0, u "([BIII)I"), (2, u "indexOf"), (3, u "(C)Z"), (15, u "$assertionsDisabled"), (0, u "Z"), (98, .class_ 223), (1, u "java/lang/StringLatin1$LinesSpliterator"), (57, u "equals"), (0, u "([B[B)Z"), (97, u "toBytes"), (1, u "(C)[B"), (7, .class_ 391), (0, u "java/lang/StringLatin1$CharsSpliterator")] 3

def k9m0 : Method := { name := "<init>", desc := "()V", sig := { parameters := [], returnType := none }, accessFlags := 0, code := none }
def k9c1 : Code := { maxStack := 2, maxLocals := 1, code := jdk_43_method_3_code, exceptionTable := #[], attributes := #[] }
def k9m1 : Method := { name := "canEncode", desc := "(C)Z", sig := { parameters := [.char], returnType := some .boolean }, accessFlags := 9, code := some k9c1 }
def k9c2 : Code := { maxStack := 2, maxLocals := 1, code := jdk_43_method_4_code, exceptionTable := #[], attributes := #[] }
def k9m2 : Method := { name := "canEncode", desc := "(I)Z", sig := { parameters := [.int], returnType := some .boolean }, accessFlags := 9, code := some k9c2 }
def k9c3 : Code := { maxStack := 3, maxLocals := 3, code := jdk_43_method_13_code, exceptionTable := #[], attributes := #[] }
def k9m3 : Method := { name := "equals", desc := "([B[B)Z", sig := { parameters := [(.array .byte), (.array .byte)], returnType := some .boolean }, accessFlags := 9, code := some k9c3 }
def k9c4 : Code := { maxStack := 4, maxLocals := 4, code := jdk_43_method_22_code, exceptionTable := #[], attributes := #[] }
def k9m4 : Method := { name := "indexOf", desc := "([BIII)I", sig := { parameters := [(.array .byte), .int, .int, .int], returnType := some .int }, accessFlags := 9, code := some k9c4 }
def k9c5 : Code := { maxStack := 2, maxLocals := 6, code := jdk_43_method_23_code, exceptionTable := #[], attributes := #[] }
def k9m5 : Method := { name := "indexOfChar", desc := "([BIII)I", sig := { parameters := [(.array .byte), .int, .int, .int], returnType := some .int }, accessFlags := 10, code := some k9c5 }
def k9c6 : Code := { maxStack := 4, maxLocals := 1, code := jdk_43_method_46_code, exceptionTable := #[], attributes := #[] }
def k9m6 : Method := { name := "toBytes", desc := "(C)[B", sig := { parameters := [.char], returnType := some (.array .byte) }, accessFlags := 9, code := some k9c6 }
/-- java/lang/StringLatin1 -/
def k9 : Class := { plain "java/lang/StringLatin1" (some 0) with
  accessFlags := 48
  interfaces := #[]
  cf := some (fileOf pool9 14 #[.nestMembers #[390, 221]] #[{ accessFlags := 0, nameIndex := 7, descriptorIndex := 8, attributes := #[] }, { accessFlags := 9, nameIndex := 90, descriptorIndex := 105, attributes := #[] }, { accessFlags := 9, nameIndex := 90, descriptorIndex := 91, attributes := #[] }, { accessFlags := 9, nameIndex := 281, descriptorIndex := 282, attributes := #[] }, { accessFlags := 9, nameIndex := 101, descriptorIndex := 98, attributes := #[] }, { accessFlags := 10, nameIndex := 97, descriptorIndex := 98, attributes := #[] }, { accessFlags := 9, nameIndex := 380, descriptorIndex := 382, attributes := #[] }] 48 4 #[] #[{ accessFlags := 4120, nameIndex := 121, descriptorIndex := 122, attributes := #[] }])
  fields := #[{ name := "$assertionsDisabled", type := .boolean, accessFlags := 4120, slot := 0, constantValue := 0 }]
  methods := #[k9m0, k9m1, k9m2, k9m3, k9m4, k9m5, k9m6]
  instanceTypes := #[]
  staticTypes := #[.boolean]
  resolved := Array.replicate 395 none
  statics := none }

def pool10 : Array CpInfo := pool [(1, .methodref 2 3), (0, .class_ 4), (0, .nameAndType 5 6), (0, u "java/lang/Object"), (0, u "<init>"), (0, u "()V"), (0, .fieldref 8 9), (0, .class_ 10), (0, .nameAndType 11 12), (0, u "com/example/dibs/dibs/core/Keyspace"), (0, u "prefix"), (0, u "Ljava/lang/String;"), (2, u "DEFAULT"), (0, u "Lcom/example/dibs/dibs/core/Keyspace;"), (0, .string 11), (0, .methodref 8 19), (0, .nameAndType 20 21), (0, u "requireBraceFree"), (0, u "(Ljava/lang/String;Ljava/lang/String;)Ljava/lang/String;"), (0, .methodref 8 23), (0, .nameAndType 5 24), (0, u "(Ljava/lang/String;)V"), (0, .string 26), (0, u "name"), (0, .methodref 8 28), (0, .nameAndType 29 30), (0, u "requireName"), (0, u "(Ljava/lang/String;)Ljava/lang/String;"), (0, .string 32), (0, u "part"), (0, .class_ 34), (0, u "java/lang/StringBuilder"), (0, .methodref 33 3), (0, .methodref 33 37), (0, .nameAndType 38 39), (0, u "append"), (0, u "(Ljava/lang/String;)Ljava/lang/StringBuilder;"), (0, .string 41), (0, u ":{"), (0, .string 43), (0, u "}:"), (0, .methodref 33 45), (0, .nameAndType 46 47), (0, u "toString"), (0, u "()Ljava/lang/String;"), (0, .methodref 49 50), (0, .class_ 51), (0, .nameAndType 52 53), (0, u "java/lang/String"), (0, u "isEmpty"), (0, u "()Z"), (7, .methodref 49 62), (0, .nameAndType 63 64), (0, u "indexOf"), (0, u "(I)I"), (4, u "DEFAULT_PREFIX"), (5, u "withPrefix"), (0, u "(Ljava/lang/String;)Lcom/example/dibs/dibs/core/Keyspace;"), (0, u "key")] 4

def k10c0 : Code := { maxStack := 2, maxLocals := 2, code := prog_2_method_1_code, exceptionTable := #[], attributes := #[] }
def k10m0 : Method := { name := "<init>", desc := "(Ljava/lang/String;)V", sig := { parameters := [(.object "java/lang/String")], returnType := none }, accessFlags := 2, code := some k10c0 }
def k10c1 : Code := { maxStack := 4, maxLocals := 1, code := prog_2_method_3_code, exceptionTable := #[], attributes := #[] }
def k10m1 : Method := { name := "withPrefix", desc := "(Ljava/lang/String;)Lcom/example/dibs/dibs/core/Keyspace;", sig := { parameters := [(.object "java/lang/String")], returnType := some (.object "com/example/dibs/dibs/core/Keyspace") }, accessFlags := 9, code := some k10c1 }
def k10c2 : Code := { maxStack := 2, maxLocals := 1, code := prog_2_method_4_code, exceptionTable := #[], attributes := #[] }
def k10m2 : Method := { name := "requireName", desc := "(Ljava/lang/String;)Ljava/lang/String;", sig := { parameters := [(.object "java/lang/String")], returnType := some (.object "java/lang/String") }, accessFlags := 9, code := some k10c2 }
def k10c3 : Code := { maxStack := 2, maxLocals := 3, code := prog_2_method_5_code, exceptionTable := #[], attributes := #[] }
def k10m3 : Method := { name := "key", desc := "(Ljava/lang/String;Ljava/lang/String;)Ljava/lang/String;", sig := { parameters := [(.object "java/lang/String"), (.object "java/lang/String")], returnType := some (.object "java/lang/String") }, accessFlags := 1, code := some k10c3 }
def k10c4 : Code := { maxStack := 4, maxLocals := 2, code := prog_2_method_6_code, exceptionTable := #[], attributes := #[] }
def k10m4 : Method := { name := "requireBraceFree", desc := "(Ljava/lang/String;Ljava/lang/String;)Ljava/lang/String;", sig := { parameters := [(.object "java/lang/String"), (.object "java/lang/String")], returnType := some (.object "java/lang/String") }, accessFlags := 10, code := some k10c4 }
/-- com/example/dibs/dibs/core/Keyspace -/
def k10 : Class := { plain "com/example/dibs/dibs/core/Keyspace" (some 0) with
  accessFlags := 49
  interfaces := #[]
  cf := some (fileOf pool10 8 #[] #[{ accessFlags := 2, nameIndex := 5, descriptorIndex := 24, attributes := #[] }, { accessFlags := 9, nameIndex := 75, descriptorIndex := 76, attributes := #[] }, { accessFlags := 9, nameIndex := 29, descriptorIndex := 30, attributes := #[] }, { accessFlags := 1, nameIndex := 77, descriptorIndex := 21, attributes := #[] }, { accessFlags := 10, nameIndex := 20, descriptorIndex := 21, attributes := #[] }] 49 2 #[] #[{ accessFlags := 25, nameIndex := 69, descriptorIndex := 12, attributes := #[] }, { accessFlags := 26, nameIndex := 15, descriptorIndex := 16, attributes := #[] }, { accessFlags := 18, nameIndex := 11, descriptorIndex := 12, attributes := #[] }])
  fields := #[{ name := "DEFAULT_PREFIX", type := (.object "java/lang/String"), accessFlags := 25, slot := 0, constantValue := 0 }, { name := "DEFAULT", type := (.object "com/example/dibs/dibs/core/Keyspace"), accessFlags := 26, slot := 1, constantValue := 0 }, { name := "prefix", type := (.object "java/lang/String"), accessFlags := 18, slot := 0, constantValue := 0 }]
  methods := #[k10m0, k10m1, k10m2, k10m3, k10m4]
  instanceTypes := #[(.object "java/lang/String")]
  staticTypes := #[(.object "java/lang/String"), (.object "com/example/dibs/dibs/core/Keyspace")]
  resolved := Array.replicate 82 none
  statics := none }

def pool11 : Array CpInfo := pool [(1, .class_ 2), (0, u "java/lang/Math"), (1, .class_ 6), (1, u "java/lang/Object"), (0, u "<init>"), (0, u "()V"), (89, .class_ 100), (1, u "java/lang/Math$RandomNumberGeneratorHolder"), (71, u "negativeZeroFloatBits"), (0, u "J"), (2, u "negativeZeroDoubleBits"), (21, u "max"), (2, u "min"), (43, u "$assertionsDisabled"), (0, u "Z"), (88, u "(II)I"), (2, u "twoToTheDoubleScaleDown"), (0, u "D"), (4, u "twoToTheDoubleScaleUp"), (9, u "E"), (3, u "PI"), (2, u "TAU"), (2, u "DEGREES_TO_RADIANS"), (0, u "RADIANS_TO_DEGREES")] 94

def k11m0 : Method := { name := "<init>", desc := "()V", sig := { parameters := [], returnType := none }, accessFlags := 2, code := none }
def k11c1 : Code := { maxStack := 2, maxLocals := 2, code := jdk_29_method_65_code, exceptionTable := #[], attributes := #[] }
def k11m1 : Method := { name := "max", desc := "(II)I", sig := { parameters := [.int, .int], returnType := some .int }, accessFlags := 9, code := some k11c1 }
def k11c2 : Code := { maxStack := 2, maxLocals := 2, code := jdk_29_method_69_code, exceptionTable := #[], attributes := #[] }
def k11m2 : Method := { name := "min", desc := "(II)I", sig := { parameters := [.int, .int], returnType := some .int }, accessFlags := 9, code := some k11c2 }
/-- java/lang/Math -/
def k11 : Class := { plain "java/lang/Math" (some 0) with
  accessFlags := 49
  interfaces := #[]
  cf := some (fileOf pool11 1 #[.nestMembers #[98]] #[{ accessFlags := 2, nameIndex := 7, descriptorIndex := 8, attributes := #[] }, { accessFlags := 9, nameIndex := 198, descriptorIndex := 335, attributes := #[] }, { accessFlags := 9, nameIndex := 201, descriptorIndex := 335, attributes := #[] }] 49 4 #[] #[{ accessFlags := 25, nameIndex := 354, descriptorIndex := 339, attributes := #[] }, { accessFlags := 25, nameIndex := 358, descriptorIndex := 339, attributes := #[] }, { accessFlags := 25, nameIndex := 361, descriptorIndex := 339, attributes := #[] }, { accessFlags := 26, nameIndex := 364, descriptorIndex := 339, attributes := #[] }, { accessFlags := 26, nameIndex := 365, descriptorIndex := 339, attributes := #[] }, { accessFlags := 26, nameIndex := 172, descriptorIndex := 173, attributes := #[] }, { accessFlags := 26, nameIndex := 176, descriptorIndex := 173, attributes := #[] }, { accessFlags := 8, nameIndex := 344, descriptorIndex := 339, attributes := #[] }, { accessFlags := 8, nameIndex := 338, descriptorIndex := 339, attributes := #[] }, { accessFlags := 4120, nameIndex := 245, descriptorIndex := 246, attributes := #[] }])
  fields := #[{ name := "E", type := .double, accessFlags := 25, slot := 0, constantValue := 0 }, { name := "PI", type := .double, accessFlags := 25, slot := 1, constantValue := 0 }, { name := "TAU", type := .double, accessFlags := 25, slot := 2, constantValue := 0 }, { name := "DEGREES_TO_RADIANS", type := .double, accessFlags := 26, slot := 3, constantValue := 0 }, { name := "RADIANS_TO_DEGREES", type := .double, accessFlags := 26, slot := 4, constantValue := 0 }, { name := "negativeZeroFloatBits", type := .long, accessFlags := 26, slot := 5, constantValue := 0 }, { name := "negativeZeroDoubleBits", type := .long, accessFlags := 26, slot := 6, constantValue := 0 }, { name := "twoToTheDoubleScaleUp", type := .double, accessFlags := 8, slot := 7, constantValue := 0 }, { name := "twoToTheDoubleScaleDown", type := .double, accessFlags := 8, slot := 8, constantValue := 0 }, { name := "$assertionsDisabled", type := .boolean, accessFlags := 4120, slot := 9, constantValue := 0 }]
  methods := #[k11m0, k11m1, k11m2]
  instanceTypes := #[]
  staticTypes := #[.double, .double, .double, .double, .double, .long, .long, .double, .double, .boolean]
  resolved := Array.replicate 460 none
  statics := none }

def pool12 : Array CpInfo := pool [(1, .class_ 2), (0, u "java/lang/Appendable"), (0, .class_ 4), (0, u "java/lang/Object")] 9

/-- java/lang/Appendable -/
def k12 : Class := { plain "java/lang/Appendable" (some 0) with
  accessFlags := 1537
  interfaces := #[]
  cf := some (fileOf pool12 1 #[] #[] 1537 3 #[] #[])
  fields := #[]
  methods := #[]
  instanceTypes := #[]
  staticTypes := #[]
  resolved := Array.replicate 14 none
  statics := none }

def pool13 : Array CpInfo := pool [(1, .class_ 2), (0, u "java/lang/String"), (0, .methodref 4 5), (0, .class_ 6), (0, .nameAndType 7 8), (0, u "java/lang/Object"), (0, u "<init>"), (0, u "()V"), (1, .class_ 12), (1, u "java/lang/AbstractStringBuilder"), (0, u "EMPTYVALUE"), (0, u "[B"), (0, .fieldref 10 16), (0, .nameAndType 17 14), (0, u "value"), (0, .fieldref 1 19), (0, .nameAndType 20 21), (0, u "COMPACT_STRINGS"), (0, u "Z"), (0, .fieldref 10 23), (0, .nameAndType 24 25), (0, u "coder"), (0, u "B"), (6, .methodref 1 33), (0, .nameAndType 34 35), (0, u "length"), (0, u "()I"), (4, .methodref 1 41), (0, .nameAndType 24 42), (0, u "()B"), (2, u "append"), (0, u "(Ljava/lang/String;)Ljava/lang/AbstractStringBuilder;"), (1, .class_ 49), (0, u "java/lang/CharSequence"), (19, u "(Ljava/lang/String;)V"), (5, u "maybeLatin1"), (3, .fieldref 10 80), (0, .nameAndType 81 82), (0, u "count"), (0, u "I"), (2, u "isLatin1"), (0, u "()Z"), (13, .methodref 10 101), (0, .nameAndType 102 103), (0, u "ensureCapacityInternal"), (0, u "(I)V"), (104, .methodref 10 209), (0, .nameAndType 210 211), (0, u "putStringAt"), (0, u "(ILjava/lang/String;)V"), (5, u "inflateIfNeededFor"), (2, .nameAndType 221 222), (0, u "getBytes"), (0, u "([BIB)V"), (174, .methodref 10 398), (0, .nameAndType 217 69), (0, .methodref 1 220), (3, u "()[B"), (40, .class_ 445), (0, u "java/lang/Appendable"), (106, u "getValue")] 56

def k13m0 : Method := { name := "<init>", desc := "()V", sig := { parameters := [], returnType := none }, accessFlags := 0, code := none }
def k13c1 : Code := { maxStack := 2, maxLocals := 2, code := jdk_68_method_2_code, exceptionTable := #[], attributes := #[] }
def k13m1 : Method := { name := "<init>", desc := "(I)V", sig := { parameters := [.int], returnType := none }, accessFlags := 0, code := some k13c1 }
def k13c2 : Code := { maxStack := 1, maxLocals := 1, code := jdk_68_method_6_code, exceptionTable := #[], attributes := #[] }
def k13m2 : Method := { name := "length", desc := "()I", sig := { parameters := [], returnType := some .int }, accessFlags := 1, code := some k13c2 }
def k13c3 : Code := { maxStack := 4, maxLocals := 3, code := jdk_68_method_9_code, exceptionTable := #[], attributes := #[] }
def k13m3 : Method := { name := "ensureCapacityInternal", desc := "(I)V", sig := { parameters := [.int], returnType := none }, accessFlags := 2, code := some k13c3 }
def k13c4 : Code := { maxStack := 3, maxLocals := 3, code := jdk_68_method_22_code, exceptionTable := #[], attributes := #[] }
def k13m4 : Method := { name := "append", desc := "(Ljava/lang/String;)Ljava/lang/AbstractStringBuilder;", sig := { parameters := [(.object "java/lang/String")], returnType := some (.object "java/lang/AbstractStringBuilder") }, accessFlags := 1, code := some k13c4 }
def k13c5 : Code := { maxStack := 1, maxLocals := 1, code := jdk_68_method_64_code, exceptionTable := #[], attributes := #[] }
def k13m5 : Method := { name := "getValue", desc := "()[B", sig := { parameters := [], returnType := some (.array .byte) }, accessFlags := 16, code := some k13c5 }
def k13c6 : Code := { maxStack := 1, maxLocals := 1, code := jdk_68_method_68_code, exceptionTable := #[], attributes := #[] }
def k13m6 : Method := { name := "isLatin1", desc := "()Z", sig := { parameters := [], returnType := some .boolean }, accessFlags := 16, code := some k13c6 }
def k13c7 : Code := { maxStack := 2, maxLocals := 2, code := jdk_68_method_71_code, exceptionTable := #[], attributes := #[] }
def k13m7 : Method := { name := "inflateIfNeededFor", desc := "(Ljava/lang/String;)V", sig := { parameters := [(.object "java/lang/String")], returnType := none }, accessFlags := 2, code := some k13c7 }
def k13c8 : Code := { maxStack := 4, maxLocals := 3, code := jdk_68_method_73_code, exceptionTable := #[], attributes := #[] }
def k13m8 : Method := { name := "putStringAt", desc := "(ILjava/lang/String;)V", sig := { parameters := [.int, (.object "java/lang/String")], returnType := none }, accessFlags := 2, code := some k13c8 }
/-- java/lang/AbstractStringBuilder -/
def k13 : Class := { plain "java/lang/AbstractStringBuilder" (some 0) with
  accessFlags := 1056
  interfaces := #[12, 4]
  cf := some (fileOf pool13 10 #[] #[{ accessFlags := 0, nameIndex := 7, descriptorIndex := 8, attributes := #[] }, { accessFlags := 0, nameIndex := 7, descriptorIndex := 103, attributes := #[] }, { accessFlags := 1, nameIndex := 34, descriptorIndex := 35, attributes := #[] }, { accessFlags := 2, nameIndex := 102, descriptorIndex := 103, attributes := #[] }, { accessFlags := 1, nameIndex := 45, descriptorIndex := 46, attributes := #[] }, { accessFlags := 16, nameIndex := 552, descriptorIndex := 403, attributes := #[] }, { accessFlags := 16, nameIndex := 85, descriptorIndex := 86, attributes := #[] }, { accessFlags := 2, nameIndex := 217, descriptorIndex := 69, attributes := #[] }, { accessFlags := 2, nameIndex := 210, descriptorIndex := 211, attributes := #[] }] 1056 4 #[444, 48] #[{ accessFlags := 0, nameIndex := 17, descriptorIndex := 14, attributes := #[] }, { accessFlags := 0, nameIndex := 24, descriptorIndex := 25, attributes := #[] }, { accessFlags := 0, nameIndex := 75, descriptorIndex := 21, attributes := #[] }, { accessFlags := 0, nameIndex := 81, descriptorIndex := 82, attributes := #[] }, { accessFlags := 26, nameIndex := 13, descriptorIndex := 14, attributes := #[] }])
  fields := #[{ name := "value", type := (.array .byte), accessFlags := 0, slot := 0, constantValue := 0 }, { name := "coder", type := .byte, accessFlags := 0, slot := 1, constantValue := 0 }, { name := "maybeLatin1", type := .boolean, accessFlags := 0, slot := 2, constantValue := 0 }, { name := "count", type := .int, accessFlags := 0, slot := 3, constantValue := 0 }, { name := "EMPTYVALUE", type := (.array .byte), accessFlags := 26, slot := 0, constantValue := 0 }]
  methods := #[k13m0, k13m1, k13m2, k13m3, k13m4, k13m5, k13m6, k13m7, k13m8]
  instanceTypes := #[(.array .byte), .byte, .boolean, .int]
  staticTypes := #[(.array .byte)]
  resolved := Array.replicate 609 none
  statics := none }

def pool14 : Array CpInfo := pool [(1, .methodref 2 3), (0, .class_ 4), (0, .nameAndType 5 6), (0, u "java/lang/AbstractStringBuilder"), (0, u "<init>"), (0, u "(I)V"), (11, .class_ 20), (1, u "java/lang/String"), (3, .class_ 26), (1, u "java/lang/StringBuilder"), (0, u "append"), (0, u "(Ljava/lang/String;)Ljava/lang/StringBuilder;"), (0, .methodref 2 30), (0, .nameAndType 27 31), (0, u "(Ljava/lang/String;)Ljava/lang/AbstractStringBuilder;"), (105, .methodref 18 138), (0, .nameAndType 5 139), (0, u "(Ljava/lang/StringBuilder;)V"), (5, u "()V"), (10, u "()I"), (186, .methodref 2 344), (0, .nameAndType 345 156), (0, u "length"), (3, .class_ 350), (0, u "java/lang/Appendable"), (0, .class_ 352), (0, u "java/io/Serializable"), (0, .class_ 354), (0, u "java/lang/Comparable"), (0, .class_ 356), (0, u "java/lang/CharSequence"), (0, u "serialVersionUID"), (0, u "J"), (40, u "toString"), (0, u "()Ljava/lang/String;")] 21

def k14c0 : Code := { maxStack := 2, maxLocals := 1, code := jdk_67_method_1_code, exceptionTable := #[], attributes := #[] }
def k14m0 : Method := { name := "<init>", desc := "()V", sig := { parameters := [], returnType := none }, accessFlags := 1, code := some k14c0 }
def k14c1 : Code := { maxStack := 2, maxLocals := 2, code := jdk_67_method_7_code, exceptionTable := #[], attributes := #[] }
def k14m1 : Method := { name := "append", desc := "(Ljava/lang/String;)Ljava/lang/StringBuilder;", sig := { parameters := [(.object "java/lang/String")], returnType := some (.object "java/lang/StringBuilder") }, accessFlags := 1, code := some k14c1 }
def k14c2 : Code := { maxStack := 3, maxLocals := 1, code := jdk_67_method_42_code, exceptionTable := #[], attributes := #[] }
def k14m2 : Method := { name := "toString", desc := "()Ljava/lang/String;", sig := { parameters := [], returnType := some (.object "java/lang/String") }, accessFlags := 1, code := some k14c2 }
def k14c3 : Code := { maxStack := 1, maxLocals := 1, code := jdk_67_method_93_code, exceptionTable := #[], attributes := #[] }
def k14m3 : Method := { name := "length", desc := "()I", sig := { parameters := [], returnType := some .int }, accessFlags := 4161, code := some k14c3 }
/-- java/lang/StringBuilder -/
def k14 : Class := { plain "java/lang/StringBuilder" (some 13) with
  accessFlags := 49
  interfaces := #[12, 2, 3, 4]
  cf := some (fileOf pool14 24 #[] #[{ accessFlags := 1, nameIndex := 5, descriptorIndex := 145, attributes := #[] }, { accessFlags := 1, nameIndex := 27, descriptorIndex := 28, attributes := #[] }, { accessFlags := 1, nameIndex := 399, descriptorIndex := 400, attributes := #[] }, { accessFlags := 4161, nameIndex := 345, descriptorIndex := 156, attributes := #[] }] 49 2 #[349, 351, 353, 355] #[{ accessFlags := 24, nameIndex := 357, descriptorIndex := 358, attributes := #[] }])
  fields := #[{ name := "serialVersionUID", type := .long, accessFlags := 24, slot := 0, constantValue := 0 }]
  methods := #[k14m0, k14m1, k14m2, k14m3]
  instanceTypes := #[(.array .byte), .byte, .boolean, .int]
  staticTypes := #[.long]
  resolved := Array.replicate 422 none
  statics := none }

def pool15 : Array CpInfo := pool [(2, .class_ 4), (1, u "java/lang/Object"), (0, u "<init>"), (0, u "()V"), (1, .class_ 10), (1, u "java/lang/System"), (0, u "allowSecurityManager"), (0, u "I"), (16, u "cons"), (0, u "Ljava/io/Console;"), (77, .class_ 110), (1, u "java/lang/System$CallersHolder"), (43, u "initialErrStream"), (0, u "Ljava/io/PrintStream;"), (19, u "security"), (0, u "Ljava/lang/SecurityManager;"), (31, .class_ 209), (0, u "java/lang/System$1"), (7, u "props"), (0, u "Ljava/util/Properties;"), (2, u "lineSeparator"), (0, u "Ljava/lang/String;"), (96, .class_ 321), (1, u "java/lang/System$LoggerFinder"), (5, .class_ 328), (0, u "java/lang/System$Logger"), (67, u "err"), (2, u "out"), (91, u "notSupportedJnuEncoding"), (15, u "in"), (17, u "initialIn"), (0, u "Ljava/io/InputStream;"), (35, u "bootLayer"), (0, u "Ljava/lang/ModuleLayer;"), (99, .class_ 664), (0, u "java/lang/System$2"), (9, u "NEVER"), (2, u "MAYBE"), (49, u "arraycopy"), (0, u "(Ljava/lang/Object;ILjava/lang/Object;II)V"), (72, .class_ 802), (0, u "java/lang/System$Logger$Level")] 31

def k15m0 : Method := { name := "<init>", desc := "()V", sig := { parameters := [], returnType := none }, accessFlags := 2, code := none }
def k15m1 : Method := { name := "arraycopy", desc := "(Ljava/lang/Object;ILjava/lang/Object;II)V", sig := { parameters := [(.object "java/lang/Object"), .int, (.object "java/lang/Object"), .int, .int], returnType := none }, accessFlags := 265, code := none }
/-- java/lang/System -/
def k15 : Class := { plain "java/lang/System" (some 0) with
  accessFlags := 49
  interfaces := #[]
  cf := some (fileOf pool15 8 #[.nestMembers #[319, 327, 801, 108, 663, 208]] #[{ accessFlags := 2, nameIndex := 5, descriptorIndex := 6, attributes := #[] }, { accessFlags := 265, nameIndex := 727, descriptorIndex := 728, attributes := #[] }] 49 2 #[] #[{ accessFlags := 25, nameIndex := 507, descriptorIndex := 526, attributes := #[] }, { accessFlags := 25, nameIndex := 399, descriptorIndex := 155, attributes := #[] }, { accessFlags := 25, nameIndex := 396, descriptorIndex := 155, attributes := #[] }, { accessFlags := 10, nameIndex := 525, descriptorIndex := 526, attributes := #[] }, { accessFlags := 26, nameIndex := 674, descriptorIndex := 12, attributes := #[] }, { accessFlags := 26, nameIndex := 677, descriptorIndex := 12, attributes := #[] }, { accessFlags := 10, nameIndex := 11, descriptorIndex := 12, attributes := #[] }, { accessFlags := 74, nameIndex := 175, descriptorIndex := 176, attributes := #[] }, { accessFlags := 10, nameIndex := 491, descriptorIndex := 222, attributes := #[] }, { accessFlags := 74, nameIndex := 29, descriptorIndex := 30, attributes := #[] }, { accessFlags := 74, nameIndex := 154, descriptorIndex := 155, attributes := #[] }, { accessFlags := 10, nameIndex := 217, descriptorIndex := 218, attributes := #[] }, { accessFlags := 10, nameIndex := 221, descriptorIndex := 222, attributes := #[] }, { accessFlags := 8, nameIndex := 562, descriptorIndex := 563, attributes := #[] }])
  fields := #[{ name := "in", type := (.object "java/io/InputStream"), accessFlags := 25, slot := 0, constantValue := 0 }, { name := "out", type := (.object "java/io/PrintStream"), accessFlags := 25, slot := 1, constantValue := 0 }, { name := "err", type := (.object "java/io/PrintStream"), accessFlags := 25, slot := 2, constantValue := 0 }, { name := "initialIn", type := (.object "java/io/InputStream"), accessFlags := 10, slot := 3, constantValue := 0 }, { name := "NEVER", type := .int, accessFlags := 26, slot := 4, constantValue := 0 }, { name := "MAYBE", type := .int, accessFlags := 26, slot := 5, constantValue := 0 }, { name := "allowSecurityManager", type := .int, accessFlags := 10, slot := 6, constantValue := 0 }, { name := "security", type := (.object "java/lang/SecurityManager"), accessFlags := 74, slot := 7, constantValue := 0 }, { name := "notSupportedJnuEncoding", type := (.object "java/lang/String"), accessFlags := 10, slot := 8, constantValue := 0 }, { name := "cons", type := (.object "java/io/Console"), accessFlags := 74, slot := 9, constantValue := 0 }, { name := "initialErrStream", type := (.object "java/io/PrintStream"), accessFlags := 74, slot := 10, constantValue := 0 }, { name := "props", type := (.object "java/util/Properties"), accessFlags := 10, slot := 11, constantValue := 0 }, { name := "lineSeparator", type := (.object "java/lang/String"), accessFlags := 10, slot := 12, constantValue := 0 }, { name := "bootLayer", type := (.object "java/lang/ModuleLayer"), accessFlags := 8, slot := 13, constantValue := 0 }]
  methods := #[k15m0, k15m1]
  instanceTypes := #[]
  staticTypes := #[(.object "java/io/InputStream"), (.object "java/io/PrintStream"), (.object "java/io/PrintStream"), (.object "java/io/InputStream"), .int, .int, .int, (.object "java/lang/SecurityManager"), (.object "java/lang/String"), (.object "java/io/Console"), (.object "java/io/PrintStream"), (.object "java/util/Properties"), (.object "java/lang/String"), (.object "java/lang/ModuleLayer")]
  resolved := Array.replicate 834 none
  statics := none }

def pool16 : Array CpInfo := pool [(2, .class_ 4), (1, u "java/lang/Object"), (0, u "<init>"), (0, u "()V"), (7, .class_ 16), (1, u "java/util/Arrays"), (57, .class_ 76), (1, u "java/util/Arrays$NaturalOrder"), (36, .class_ 115), (1, u "java/util/Arrays$LegacyMergeSort"), (1, u "Z"), (21, u "copyOfRange"), (10, .methodref 151 152), (0, .class_ 153), (0, .nameAndType 154 155), (0, u "java/lang/System"), (0, u "arraycopy"), (0, u "(Ljava/lang/Object;ILjava/lang/Object;II)V"), (148, .methodref 305 306), (0, .class_ 307), (0, .nameAndType 308 309), (0, u "java/lang/Math"), (0, u "min"), (0, u "(II)I"), (29, .methodref 14 340), (0, .nameAndType 341 342), (0, u "copyOfRangeByte"), (0, u "([BII)[B"), (0, .methodref 14 344), (0, .nameAndType 345 346), (0, u "checkLength"), (0, u "(II)V"), (28, .class_ 376), (0, u "java/util/Arrays$ArrayList"), (68, u "$assertionsDisabled"), (269, u "MIN_ARRAY_SORT_GRAN"), (0, u "I"), (2, u "INSERTIONSORT_THRESHOLD"), (255, .class_ 976), (0, u "java/util/Arrays$ArrayItr")] 52

def k16m0 : Method := { name := "<init>", desc := "()V", sig := { parameters := [], returnType := none }, accessFlags := 2, code := none }
def k16c1 : Code := { maxStack := 4, maxLocals := 2, code := jdk_65_method_131_code, exceptionTable := #[], attributes := #[] }
def k16m1 : Method := { name := "checkLength", desc := "(II)V", sig := { parameters := [.int, .int], returnType := none }, accessFlags := 10, code := some k16c1 }
def k16c2 : Code := { maxStack := 3, maxLocals := 3, code := jdk_65_method_132_code, exceptionTable := #[], attributes := #[] }
def k16m2 : Method := { name := "copyOfRange", desc := "([BII)[B", sig := { parameters := [(.array .byte), .int, .int], returnType := some (.array .byte) }, accessFlags := 9, code := some k16c2 }
def k16c3 : Code := { maxStack := 6, maxLocals := 5, code := jdk_65_method_133_code, exceptionTable := #[], attributes := #[] }
def k16m3 : Method := { name := "copyOfRangeByte", desc := "([BII)[B", sig := { parameters := [(.array .byte), .int, .int], returnType := some (.array .byte) }, accessFlags := 10, code := some k16c3 }
/-- java/util/Arrays -/
def k16 : Class := { plain "java/util/Arrays" (some 0) with
  accessFlags := 49
  interfaces := #[]
  cf := some (fileOf pool16 14 #[.nestMembers #[975, 375, 113, 74]] #[{ accessFlags := 2, nameIndex := 5, descriptorIndex := 6, attributes := #[] }, { accessFlags := 10, nameIndex := 345, descriptorIndex := 346, attributes := #[] }, { accessFlags := 9, nameIndex := 139, descriptorIndex := 342, attributes := #[] }, { accessFlags := 10, nameIndex := 341, descriptorIndex := 342, attributes := #[] }] 49 2 #[] #[{ accessFlags := 26, nameIndex := 715, descriptorIndex := 716, attributes := #[] }, { accessFlags := 26, nameIndex := 719, descriptorIndex := 716, attributes := #[] }, { accessFlags := 4120, nameIndex := 445, descriptorIndex := 117, attributes := #[] }])
  fields := #[{ name := "MIN_ARRAY_SORT_GRAN", type := .int, accessFlags := 26, slot := 0, constantValue := 0 }, { name := "INSERTIONSORT_THRESHOLD", type := .int, accessFlags := 26, slot := 1, constantValue := 0 }, { name := "$assertionsDisabled", type := .boolean, accessFlags := 4120, slot := 2, constantValue := 0 }]
  methods := #[k16m0, k16m1, k16m2, k16m3]
  instanceTypes := #[]
  staticTypes := #[.int, .int, .boolean]
  resolved := Array.replicate 1029 none
  statics := none }

def pool17 : Array CpInfo := pool [(2, .class_ 4), (1, u "java/lang/Object"), (0, u "<init>"), (0, u "()V"), (17, .class_ 26), (1, u "jdk/internal/util/Preconditions"), (28, .class_ 56), (0, u "jdk/internal/util/Preconditions$4"), (57, .class_ 115), (0, u "jdk/internal/util/Preconditions$1"), (7, u "SIOOBE_FORMATTER"), (0, u "Ljava/util/function/BiFunction;"), (0, .class_ 126), (0, u "jdk/internal/util/Preconditions$2"), (3, u "AIOOBE_FORMATTER"), (0, .class_ 132), (0, u "jdk/internal/util/Preconditions$3"), (3, u "IOOBE_FORMATTER")] 57

def k17m0 : Method := { name := "<init>", desc := "()V", sig := { parameters := [], returnType := none }, accessFlags := 1, code := none }
/-- jdk/internal/util/Preconditions -/
def k17 : Class := { plain "jdk/internal/util/Preconditions" (some 0) with
  accessFlags := 33
  interfaces := #[]
  cf := some (fileOf pool17 24 #[.nestMembers #[55, 131, 125, 114]] #[{ accessFlags := 1, nameIndex := 5, descriptorIndex := 6, attributes := #[] }] 33 2 #[] #[{ accessFlags := 25, nameIndex := 123, descriptorIndex := 124, attributes := #[] }, { accessFlags := 25, nameIndex := 130, descriptorIndex := 124, attributes := #[] }, { accessFlags := 25, nameIndex := 136, descriptorIndex := 124, attributes := #[] }])
  fields := #[{ name := "SIOOBE_FORMATTER", type := (.object "java/util/function/BiFunction"), accessFlags := 25, slot := 0, constantValue := 0 }, { name := "AIOOBE_FORMATTER", type := (.object "java/util/function/BiFunction"), accessFlags := 25, slot := 1, constantValue := 0 }, { name := "IOOBE_FORMATTER", type := (.object "java/util/function/BiFunction"), accessFlags := 25, slot := 2, constantValue := 0 }]
  methods := #[k17m0]
  instanceTypes := #[]
  staticTypes := #[(.object "java/util/function/BiFunction"), (.object "java/util/function/BiFunction"), (.object "java/util/function/BiFunction")]
  resolved := Array.replicate 194 none
  statics := some 1 }

def pool18 : Array CpInfo := pool [(9, u "<init>"), (6, .class_ 18), (1, u "java/lang/Object"), (0, u "()V"), (1, .class_ 23), (1, u "jdk/internal/util/ArraysSupport"), (0, u "LOG2_ARRAY_LONG_INDEX_SCALE"), (0, u "I"), (2, u "U"), (0, u "Ljdk/internal/misc/Unsafe;"), (8, u "BIG_ENDIAN"), (0, u "Z"), (8, u "LOG2_BYTE_BIT_SIZE"), (4, u "LOG2_ARRAY_INT_INDEX_SCALE"), (54, u "JLA"), (0, u "Ljdk/internal/access/JavaLangAccess;"), (11, u "LOG2_ARRAY_BOOLEAN_INDEX_SCALE"), (9, u "LOG2_ARRAY_BYTE_INDEX_SCALE"), (5, u "LOG2_ARRAY_CHAR_INDEX_SCALE"), (5, u "LOG2_ARRAY_SHORT_INDEX_SCALE"), (18, u "LOG2_ARRAY_FLOAT_INDEX_SCALE"), (24, u "LOG2_ARRAY_DOUBLE_INDEX_SCALE"), (89, u "T_BOOLEAN"), (2, u "T_CHAR"), (1, u "T_FLOAT"), (1, u "T_DOUBLE"), (1, u "T_BYTE"), (1, u "T_SHORT"), (1, u "T_INT"), (1, u "T_LONG"), (1, u "SOFT_MAX_ARRAY_LENGTH")] 83

def k18m0 : Method := { name := "<init>", desc := "()V", sig := { parameters := [], returnType := none }, accessFlags := 2, code := none }
/-- jdk/internal/util/ArraysSupport -/
def k18 : Class := { plain "jdk/internal/util/ArraysSupport" (some 0) with
  accessFlags := 33
  interfaces := #[]
  cf := some (fileOf pool18 21 #[] #[{ accessFlags := 2, nameIndex := 9, descriptorIndex := 19, attributes := #[] }] 33 16 #[] #[{ accessFlags := 24, nameIndex := 28, descriptorIndex := 29, attributes := #[] }, { accessFlags := 26, nameIndex := 38, descriptorIndex := 39, attributes := #[] }, { accessFlags := 25, nameIndex := 121, descriptorIndex := 25, attributes := #[] }, { accessFlags := 25, nameIndex := 131, descriptorIndex := 25, attributes := #[] }, { accessFlags := 25, nameIndex := 137, descriptorIndex := 25, attributes := #[] }, { accessFlags := 25, nameIndex := 143, descriptorIndex := 25, attributes := #[] }, { accessFlags := 25, nameIndex := 53, descriptorIndex := 25, attributes := #[] }, { accessFlags := 25, nameIndex := 24, descriptorIndex := 25, attributes := #[] }, { accessFlags := 25, nameIndex := 162, descriptorIndex := 25, attributes := #[] }, { accessFlags := 25, nameIndex := 187, descriptorIndex := 25, attributes := #[] }, { accessFlags := 26, nameIndex := 48, descriptorIndex := 25, attributes := #[] }, { accessFlags := 25, nameIndex := 277, descriptorIndex := 25, attributes := #[] }, { accessFlags := 25, nameIndex := 280, descriptorIndex := 25, attributes := #[] }, { accessFlags := 25, nameIndex := 282, descriptorIndex := 25, attributes := #[] }, { accessFlags := 25, nameIndex := 284, descriptorIndex := 25, attributes := #[] }, { accessFlags := 25, nameIndex := 286, descriptorIndex := 25, attributes := #[] }, { accessFlags := 25, nameIndex := 288, descriptorIndex := 25, attributes := #[] }, { accessFlags := 25, nameIndex := 290, descriptorIndex := 25, attributes := #[] }, { accessFlags := 25, nameIndex := 292, descriptorIndex := 25, attributes := #[] }, { accessFlags := 26, nameIndex := 108, descriptorIndex := 109, attributes := #[] }, { accessFlags := 25, nameIndex := 294, descriptorIndex := 25, attributes := #[] }])
  fields := #[{ name := "U", type := (.object "jdk/internal/misc/Unsafe"), accessFlags := 24, slot := 0, constantValue := 0 }, { name := "BIG_ENDIAN", type := .boolean, accessFlags := 26, slot := 1, constantValue := 0 }, { name := "LOG2_ARRAY_BOOLEAN_INDEX_SCALE", type := .int, accessFlags := 25, slot := 2, constantValue := 0 }, { name := "LOG2_ARRAY_BYTE_INDEX_SCALE", type := .int, accessFlags := 25, slot := 3, constantValue := 0 }, { name := "LOG2_ARRAY_CHAR_INDEX_SCALE", type := .int, accessFlags := 25, slot := 4, constantValue := 0 }, { name := "LOG2_ARRAY_SHORT_INDEX_SCALE", type := .int, accessFlags := 25, slot := 5, constantValue := 0 }, { name := "LOG2_ARRAY_INT_INDEX_SCALE", type := .int, accessFlags := 25, slot := 6, constantValue := 0 }, { name := "LOG2_ARRAY_LONG_INDEX_SCALE", type := .int, accessFlags := 25, slot := 7, constantValue := 0 }, { name := "LOG2_ARRAY_FLOAT_INDEX_SCALE", type := .int, accessFlags := 25, slot := 8, constantValue := 0 }, { name := "LOG2_ARRAY_DOUBLE_INDEX_SCALE", type := .int, accessFlags := 25, slot := 9, constantValue := 0 }, { name := "LOG2_BYTE_BIT_SIZE", type := .int, accessFlags := 26, slot := 10, constantValue := 0 }, { name := "T_BOOLEAN", type := .int, accessFlags := 25, slot := 11, constantValue := 0 }, { name := "T_CHAR", type := .int, accessFlags := 25, slot := 12, constantValue := 0 }, { name := "T_FLOAT", type := .int, accessFlags := 25, slot := 13, constantValue := 0 }, { name := "T_DOUBLE", type := .int, accessFlags := 25, slot := 14, constantValue := 0 }, { name := "T_BYTE", type := .int, accessFlags := 25, slot := 15, constantValue := 0 }, { name := "T_SHORT", type := .int, accessFlags := 25, slot := 16, constantValue := 0 }, { name := "T_INT", type := .int, accessFlags := 25, slot := 17, constantValue := 0 }, { name := "T_LONG", type := .int, accessFlags := 25, slot := 18, constantValue := 0 }, { name := "JLA", type := (.object "jdk/internal/access/JavaLangAccess"), accessFlags := 26, slot := 19, constantValue := 0 }, { name := "SOFT_MAX_ARRAY_LENGTH", type := .int, accessFlags := 25, slot := 20, constantValue := 0 }]
  methods := #[k18m0]
  instanceTypes := #[]
  staticTypes := #[(.object "jdk/internal/misc/Unsafe"), .boolean, .int, .int, .int, .int, .int, .int, .int, .int, .int, .int, .int, .int, .int, .int, .int, .int, .int, (.object "jdk/internal/access/JavaLangAccess"), .int]
  resolved := Array.replicate 378 none
  statics := none }

def pool19 : Array CpInfo := pool [(1, u "java/lang/Cloneable"), (0, .class_ 1), (0, u "java/lang/Object"), (0, .class_ 3)] 3

/-- java/lang/Cloneable -/
def k19 : Class := { plain "java/lang/Cloneable" (some 0) with
  accessFlags := 1537
  interfaces := #[]
  cf := some (fileOf pool19 2 #[] #[] 1537 4 #[] #[])
  fields := #[]
  methods := #[]
  instanceTypes := #[]
  staticTypes := #[]
  resolved := Array.replicate 8 none
  statics := none }

/-- the primitive byte -/
def k20 : Class := { plain "byte" none with kind := .primitive 'B', accessFlags := 0x411 }
/-- [B -/
def k21 : Class := { plain "[B" (some 0) with kind := .array 20 .byte, interfaces := #[19, 2], accessFlags := 1041 }

/-- the primitive char -/
def k22 : Class := { plain "char" none with kind := .primitive 'C', accessFlags := 0x411 }
/-- [C -/
def k23 : Class := { plain "[C" (some 0) with kind := .array 22 .char, interfaces := #[19, 2], accessFlags := 1041 }

/-- the primitive int -/
def k24 : Class := { plain "int" none with kind := .primitive 'I', accessFlags := 0x411 }
/-- [I -/
def k25 : Class := { plain "[I" (some 0) with kind := .array 24 .int, interfaces := #[19, 2], accessFlags := 1041 }

def heap : Heap := #[{ cls := 7, slots := #[.long 0, .int 1, .null, .int 0, .null, .int 0, .int 0], vm := .statics 7 },
  { cls := 17, slots := #[.null, .null, .null], vm := .statics 17 }]
def classes : Array Class := #[k0, k1, k2, k3, k4, k5, k6, k7, k8, k9, k10, k11, k12, k13, k14, k15, k16, k17, k18, k19, k20, k21, k22, k23, k24, k25]
def interned : List (Array UInt16 × Addr) := []
def slotsUsed : Nat := 10
def theMethod : MethodId := ⟨1, 2⟩
def args0 : Array Value := #[.int 5, .int 6, .int 7, .int 8, .int 9]
def aboutOver (below : List Frame) : State where
  vm := { classes := classes, interned := interned.toArray }
  heap := heap
  slotsUsed := slotsUsed
  threads := #[{ frames := .invoking theMethod args0 :: below }]
def below0 : List Frame := [.native { method := ⟨0, 0⟩, args := #[] }]
def about1 : State := aboutOver below0
def p0 : Program := .bare "" "" ""
def e0 : Env := launch0.env 0 0 0
theorem w_frames : about1.frames = Frame.invoking theMethod args0 :: below0 := rfl
set_option maxRecDepth 65536 in
theorem w_args : argsFit about1.vm theMethod args0 = true := by decide +kernel
set_option maxRecDepth 65536 in
theorem w_heap : heapFits about1 = true := by decide +kernel
set_option maxRecDepth 65536 in
theorem w_runnable : about1.curStatus? = some .runnable := by decide +kernel
set_option maxRecDepth 65536 in
theorem w_alone : about1.alone = true := by decide +kernel
set_option maxRecDepth 65536 in
theorem w_named : about1.methodNamed? x = some theMethod := by decide +kernel
set_option maxRecDepth 65536 in
theorem w_hears : about1.hears theMethod below0 = true := by decide +kernel
set_option maxRecDepth 65536 in
theorem w_ripe : about1.ripe theMethod args0 below0 = true := by decide +kernel
theorem w_running : about1.status = .running := rfl
set_option maxRecDepth 65536 in
theorem w_room : about1.hasRoom e0.platform room_1 = true :=
  launch0.hasRoom_least _ room_1 (by decide +kernel) (by decide +kernel) (by decide +kernel) (by decide +kernel) (by decide +kernel) (by decide +kernel)
theorem allAtoms_all (ts : List Jvm.Cond) (a : Array Jvm.Value) (st : Jvm.State) : (allAtoms ts).before a st = ts.all (fun c => c.before a st) := by
  induction ts with
  | nil => rfl
  | cons c t ih =>
    show (Jvm.Cond.and c (allAtoms t)).before a st = _
    rw [Jvm.Cond.before_and, ih, List.all_cons]
def words1 : List Jvm.Cond := Jvm.Cond.code x code maxLocals ret :: tables_1
/-- a 'code' word, met by the world's own term for the bytes: nothing is compared byte by byte -/
theorem code_word {y : MethodName} {bytes : ByteArray} {mx : Nat} {rt : Option FieldType} {a : Array Value} {s : State} {m : MethodId} {meth : Method} {c : Code} (h1 : s.methodNamed? y = some m) (h2 : s.vm.method? m = some meth) (h3 : meth.code = some c) (h4 : c.code = bytes)
    (h5 : (c.maxLocals == mx && c.exceptionTable.isEmpty && decide (c.maxStack ≤ mostOperands) && decide (meth.sig.returnType = rt) && !meth.locks && decide (parseMethodDescriptor y.desc = some meth.sig)) = true) : (Jvm.Cond.code y bytes mx rt).before a s = true := by
  simp only [Bool.and_eq_true, beq_iff_eq, Bool.not_eq_true', decide_eq_true_eq] at h5
  obtain ⟨⟨⟨⟨⟨g1, g2⟩, g3⟩, g4⟩, g5⟩, g6⟩ := h5
  simp [Cond.before, Cond.holds, Cond.value, h1, h2, h3, h4, g1, g2, g3, g4, g5, g6]
def isCode : Jvm.Cond → Bool
  | .code _ _ _ _ => true
  | _ => false
theorem all_split {L : List Jvm.Cond} {P : Jvm.Cond → Bool} (h1 : L.all (fun c => isCode c || P c) = true) (h2 : ∀ c ∈ L.filter isCode, P c = true) : L.all P = true := by
  refine List.all_eq_true.mpr fun c hc => ?_
  have h := List.all_eq_true.mp h1 c hc
  rcases Bool.eq_false_or_eq_true (isCode c) with hi | hi
  · exact h2 c (List.mem_filter.mpr ⟨hc, hi⟩)
  · simpa [hi] using h
set_option maxRecDepth 65536 in
theorem w_c0 : (Jvm.Cond.code x code maxLocals ret).before args0 about1 = true := code_word (m := ⟨1, 2⟩) (meth := k1m2) (c := k1c2) (by decide +kernel) rfl rfl rfl (by decide +kernel)
set_option maxRecDepth 65536 in
theorem w_c1 : (Jvm.Cond.code ({ cls := "com/example/dibs/dibs/core/KeyspaceWithPrefixPinLaw", name := "safe", desc := "(I)C" } : Jvm.MethodName) method_2_code (2 : Nat) (Option.some Jvm.ClassFile.FieldType.char)).before args0 about1 = true := code_word (m := ⟨1, 1⟩) (meth := k1m1) (c := k1c1) (by decide +kernel) rfl rfl rfl (by decide +kernel)
set_option maxRecDepth 65536 in
theorem w_c2 : (Jvm.Cond.code ({ cls := "java/lang/String", name := "<init>", desc := "([C)V" } : Jvm.MethodName) jdk_42_method_3_code (2 : Nat) (Option.none : Option Jvm.ClassFile.FieldType)).before args0 about1 = true := code_word (m := ⟨7, 1⟩) (meth := k7m1) (c := k7c1) (by decide +kernel) rfl rfl rfl (by decide +kernel)
set_option maxRecDepth 65536 in
theorem w_c3 : (Jvm.Cond.code ({ cls := "java/lang/String", name := "<init>", desc := "([CIILjava/lang/Void;)V" } : Jvm.MethodName) jdk_42_method_149_code (6 : Nat) (Option.none : Option Jvm.ClassFile.FieldType)).before args0 about1 = true := code_word (m := ⟨7, 10⟩) (meth := k7m10) (c := k7c10) (by decide +kernel) rfl rfl rfl (by decide +kernel)
set_option maxRecDepth 65536 in
theorem w_c4 : (Jvm.Cond.code ({ cls := "java/lang/Object", name := "<init>", desc := "()V" } : Jvm.MethodName) object_method_1_code (1 : Nat) (Option.none : Option Jvm.ClassFile.FieldType)).before args0 about1 = true := code_word (m := ⟨0, 0⟩) (meth := k0m0) (c := k0c0) (by decide +kernel) rfl rfl rfl (by decide +kernel)
set_option maxRecDepth 65536 in
theorem w_c5 : (Jvm.Cond.code ({ cls := "java/lang/StringUTF16", name := "compress", desc := "([CII)[B" } : Jvm.MethodName) jdk_52_method_16_code (6 : Nat) (Option.some (Jvm.ClassFile.FieldType.array Jvm.ClassFile.FieldType.byte))).before args0 about1 = true := code_word (m := ⟨8, 2⟩) (meth := k8m2) (c := k8c2) (by decide +kernel) rfl rfl rfl (by decide +kernel)
set_option maxRecDepth 65536 in
theorem w_c6 : (Jvm.Cond.code ({ cls := "java/lang/StringUTF16", name := "compress", desc := "([CI[BII)I" } : Jvm.MethodName) jdk_52_method_21_code (7 : Nat) (Option.some Jvm.ClassFile.FieldType.int)).before args0 about1 = true := code_word (m := ⟨8, 3⟩) (meth := k8m3) (c := k8c3) (by decide +kernel) rfl rfl rfl (by decide +kernel)
set_option maxRecDepth 65536 in
theorem w_c7 : (Jvm.Cond.code ({ cls := "java/lang/StringUTF16", name := "coderFromArrayLen", desc := "([BI)B" } : Jvm.MethodName) jdk_52_method_15_code (2 : Nat) (Option.some Jvm.ClassFile.FieldType.byte)).before args0 about1 = true := code_word (m := ⟨8, 1⟩) (meth := k8m1) (c := k8c1) (by decide +kernel) rfl rfl rfl (by decide +kernel)
set_option maxRecDepth 65536 in
theorem w_c8 : (Jvm.Cond.code ({ cls := "java/lang/String", name := "valueOf", desc := "(C)Ljava/lang/String;" } : Jvm.MethodName) jdk_42_method_139_code (1 : Nat) (Option.some (Jvm.ClassFile.FieldType.object "java/lang/String"))).before args0 about1 = true := code_word (m := ⟨7, 8⟩) (meth := k7m8) (c := k7c8) (by decide +kernel) rfl rfl rfl (by decide +kernel)
set_option maxRecDepth 65536 in
theorem w_c9 : (Jvm.Cond.code ({ cls := "java/lang/StringLatin1", name := "canEncode", desc := "(C)Z" } : Jvm.MethodName) jdk_43_method_3_code (1 : Nat) (Option.some Jvm.ClassFile.FieldType.boolean)).before args0 about1 = true := code_word (m := ⟨9, 1⟩) (meth := k9m1) (c := k9c1) (by decide +kernel) rfl rfl rfl (by decide +kernel)
set_option maxRecDepth 65536 in
theorem w_c10 : (Jvm.Cond.code ({ cls := "java/lang/StringLatin1", name := "toBytes", desc := "(C)[B" } : Jvm.MethodName) jdk_43_method_46_code (1 : Nat) (Option.some (Jvm.ClassFile.FieldType.array Jvm.ClassFile.FieldType.byte))).before args0 about1 = true := code_word (m := ⟨9, 6⟩) (meth := k9m6) (c := k9c6) (by decide +kernel) rfl rfl rfl (by decide +kernel)
set_option maxRecDepth 65536 in
theorem w_c11 : (Jvm.Cond.code ({ cls := "java/lang/String", name := "<init>", desc := "([BB)V" } : Jvm.MethodName) jdk_42_method_151_code (3 : Nat) (Option.none : Option Jvm.ClassFile.FieldType)).before args0 about1 = true := code_word (m := ⟨7, 12⟩) (meth := k7m12) (c := k7c12) (by decide +kernel) rfl rfl rfl (by decide +kernel)
set_option maxRecDepth 65536 in
theorem w_c12 : (Jvm.Cond.code ({ cls := "com/example/dibs/dibs/core/Keyspace", name := "withPrefix", desc := "(Ljava/lang/String;)Lcom/example/dibs/dibs/core/Keyspace;" } : Jvm.MethodName) prog_2_method_3_code (1 : Nat) (Option.some (Jvm.ClassFile.FieldType.object "com/example/dibs/dibs/core/Keyspace"))).before args0 about1 = true := code_word (m := ⟨10, 1⟩) (meth := k10m1) (c := k10c1) (by decide +kernel) rfl rfl rfl (by decide +kernel)
set_option maxRecDepth 65536 in
theorem w_c13 : (Jvm.Cond.code ({ cls := "com/example/dibs/dibs/core/Keyspace", name := "requireBraceFree", desc := "(Ljava/lang/String;Ljava/lang/String;)Ljava/lang/String;" } : Jvm.MethodName) prog_2_method_6_code (2 : Nat) (Option.some (Jvm.ClassFile.FieldType.object "java/lang/String"))).before args0 about1 = true := code_word (m := ⟨10, 4⟩) (meth := k10m4) (c := k10c4) (by decide +kernel) rfl rfl rfl (by decide +kernel)
set_option maxRecDepth 65536 in
theorem w_c14 : (Jvm.Cond.code ({ cls := "java/lang/String", name := "isEmpty", desc := "()Z" } : Jvm.MethodName) jdk_42_method_55_code (1 : Nat) (Option.some Jvm.ClassFile.FieldType.boolean)).before args0 about1 = true := code_word (m := ⟨7, 4⟩) (meth := k7m4) (c := k7c4) (by decide +kernel) rfl rfl rfl (by decide +kernel)
set_option maxRecDepth 65536 in
theorem w_c15 : (Jvm.Cond.code ({ cls := "java/lang/String", name := "indexOf", desc := "(I)I" } : Jvm.MethodName) jdk_42_method_79_code (2 : Nat) (Option.some Jvm.ClassFile.FieldType.int)).before args0 about1 = true := code_word (m := ⟨7, 6⟩) (meth := k7m6) (c := k7c6) (by decide +kernel) rfl rfl rfl (by decide +kernel)
set_option maxRecDepth 65536 in
theorem w_c16 : (Jvm.Cond.code ({ cls := "java/lang/String", name := "indexOf", desc := "(II)I" } : Jvm.MethodName) jdk_42_method_80_code (3 : Nat) (Option.some Jvm.ClassFile.FieldType.int)).before args0 about1 = true := code_word (m := ⟨7, 7⟩) (meth := k7m7) (c := k7c7) (by decide +kernel) rfl rfl rfl (by decide +kernel)
set_option maxRecDepth 65536 in
theorem w_c17 : (Jvm.Cond.code ({ cls := "java/lang/String", name := "isLatin1", desc := "()Z" } : Jvm.MethodName) jdk_42_method_154_code (1 : Nat) (Option.some Jvm.ClassFile.FieldType.boolean)).before args0 about1 = true := code_word (m := ⟨7, 14⟩) (meth := k7m14) (c := k7c14) (by decide +kernel) rfl rfl rfl (by decide +kernel)
set_option maxRecDepth 65536 in
theorem w_c18 : (Jvm.Cond.code ({ cls := "java/lang/String", name := "length", desc := "()I" } : Jvm.MethodName) jdk_42_method_54_code (1 : Nat) (Option.some Jvm.ClassFile.FieldType.int)).before args0 about1 = true := code_word (m := ⟨7, 3⟩) (meth := k7m3) (c := k7c3) (by decide +kernel) rfl rfl rfl (by decide +kernel)
set_option maxRecDepth 65536 in
theorem w_c19 : (Jvm.Cond.code ({ cls := "java/lang/String", name := "coder", desc := "()B" } : Jvm.MethodName) jdk_42_method_152_code (1 : Nat) (Option.some Jvm.ClassFile.FieldType.byte)).before args0 about1 = true := code_word (m := ⟨7, 13⟩) (meth := k7m13) (c := k7c13) (by decide +kernel) rfl rfl rfl (by decide +kernel)
set_option maxRecDepth 65536 in
theorem w_c20 : (Jvm.Cond.code ({ cls := "java/lang/StringLatin1", name := "indexOf", desc := "([BIII)I" } : Jvm.MethodName) jdk_43_method_22_code (4 : Nat) (Option.some Jvm.ClassFile.FieldType.int)).before args0 about1 = true := code_word (m := ⟨9, 4⟩) (meth := k9m4) (c := k9c4) (by decide +kernel) rfl rfl rfl (by decide +kernel)
set_option maxRecDepth 65536 in
theorem w_c21 : (Jvm.Cond.code ({ cls := "java/lang/StringLatin1", name := "canEncode", desc := "(I)Z" } : Jvm.MethodName) jdk_43_method_4_code (1 : Nat) (Option.some Jvm.ClassFile.FieldType.boolean)).before args0 about1 = true := code_word (m := ⟨9, 2⟩) (meth := k9m2) (c := k9c2) (by decide +kernel) rfl rfl rfl (by decide +kernel)
set_option maxRecDepth 65536 in
theorem w_c22 : (Jvm.Cond.code ({ cls := "java/lang/Math", name := "max", desc := "(II)I" } : Jvm.MethodName) jdk_29_method_65_code (2 : Nat) (Option.some Jvm.ClassFile.FieldType.int)).before args0 about1 = true := code_word (m := ⟨11, 1⟩) (meth := k11m1) (c := k11c1) (by decide +kernel) rfl rfl rfl (by decide +kernel)
set_option maxRecDepth 65536 in
theorem w_c23 : (Jvm.Cond.code ({ cls := "java/lang/Math", name := "min", desc := "(II)I" } : Jvm.MethodName) jdk_29_method_69_code (2 : Nat) (Option.some Jvm.ClassFile.FieldType.int)).before args0 about1 = true := code_word (m := ⟨11, 2⟩) (meth := k11m2) (c := k11c2) (by decide +kernel) rfl rfl rfl (by decide +kernel)
set_option maxRecDepth 65536 in
theorem w_c24 : (Jvm.Cond.code ({ cls := "java/lang/StringLatin1", name := "indexOfChar", desc := "([BIII)I" } : Jvm.MethodName) jdk_43_method_23_code (6 : Nat) (Option.some Jvm.ClassFile.FieldType.int)).before args0 about1 = true := code_word (m := ⟨9, 5⟩) (meth := k9m5) (c := k9c5) (by decide +kernel) rfl rfl rfl (by decide +kernel)
set_option maxRecDepth 65536 in
theorem w_c25 : (Jvm.Cond.code ({ cls := "com/example/dibs/dibs/core/Keyspace", name := "<init>", desc := "(Ljava/lang/String;)V" } : Jvm.MethodName) prog_2_method_1_code (2 : Nat) (Option.none : Option Jvm.ClassFile.FieldType)).before args0 about1 = true := code_word (m := ⟨10, 0⟩) (meth := k10m0) (c := k10c0) (by decide +kernel) rfl rfl rfl (by decide +kernel)
set_option maxRecDepth 65536 in
theorem w_c26 : (Jvm.Cond.code ({ cls := "com/example/dibs/dibs/core/Keyspace", name := "key", desc := "(Ljava/lang/String;Ljava/lang/String;)Ljava/lang/String;" } : Jvm.MethodName) prog_2_method_5_code (3 : Nat) (Option.some (Jvm.ClassFile.FieldType.object "java/lang/String"))).before args0 about1 = true := code_word (m := ⟨10, 3⟩) (meth := k10m3) (c := k10c3) (by decide +kernel) rfl rfl rfl (by decide +kernel)
set_option maxRecDepth 65536 in
theorem w_c27 : (Jvm.Cond.code ({ cls := "com/example/dibs/dibs/core/Keyspace", name := "requireName", desc := "(Ljava/lang/String;)Ljava/lang/String;" } : Jvm.MethodName) prog_2_method_4_code (1 : Nat) (Option.some (Jvm.ClassFile.FieldType.object "java/lang/String"))).before args0 about1 = true := code_word (m := ⟨10, 2⟩) (meth := k10m2) (c := k10c2) (by decide +kernel) rfl rfl rfl (by decide +kernel)
set_option maxRecDepth 65536 in
theorem w_c28 : (Jvm.Cond.code ({ cls := "java/lang/StringBuilder", name := "<init>", desc := "()V" } : Jvm.MethodName) jdk_67_method_1_code (1 : Nat) (Option.none : Option Jvm.ClassFile.FieldType)).before args0 about1 = true := code_word (m := ⟨14, 0⟩) (meth := k14m0) (c := k14c0) (by decide +kernel) rfl rfl rfl (by decide +kernel)
set_option maxRecDepth 65536 in
theorem w_c29 : (Jvm.Cond.code ({ cls := "java/lang/AbstractStringBuilder", name := "<init>", desc := "(I)V" } : Jvm.MethodName) jdk_68_method_2_code (2 : Nat) (Option.none : Option Jvm.ClassFile.FieldType)).before args0 about1 = true := code_word (m := ⟨13, 1⟩) (meth := k13m1) (c := k13c1) (by decide +kernel) rfl rfl rfl (by decide +kernel)
set_option maxRecDepth 65536 in
theorem w_c30 : (Jvm.Cond.code ({ cls := "java/lang/StringBuilder", name := "append", desc := "(Ljava/lang/String;)Ljava/lang/StringBuilder;" } : Jvm.MethodName) jdk_67_method_7_code (2 : Nat) (Option.some (Jvm.ClassFile.FieldType.object "java/lang/StringBuilder"))).before args0 about1 = true := code_word (m := ⟨14, 1⟩) (meth := k14m1) (c := k14c1) (by decide +kernel) rfl rfl rfl (by decide +kernel)
set_option maxRecDepth 65536 in
theorem w_c31 : (Jvm.Cond.code ({ cls := "java/lang/AbstractStringBuilder", name := "append", desc := "(Ljava/lang/String;)Ljava/lang/AbstractStringBuilder;" } : Jvm.MethodName) jdk_68_method_22_code (3 : Nat) (Option.some (Jvm.ClassFile.FieldType.object "java/lang/AbstractStringBuilder"))).before args0 about1 = true := code_word (m := ⟨13, 4⟩) (meth := k13m4) (c := k13c4) (by decide +kernel) rfl rfl rfl (by decide +kernel)
set_option maxRecDepth 65536 in
theorem w_c32 : (Jvm.Cond.code ({ cls := "java/lang/AbstractStringBuilder", name := "ensureCapacityInternal", desc := "(I)V" } : Jvm.MethodName) jdk_68_method_9_code (3 : Nat) (Option.none : Option Jvm.ClassFile.FieldType)).before args0 about1 = true := code_word (m := ⟨13, 3⟩) (meth := k13m3) (c := k13c3) (by decide +kernel) rfl rfl rfl (by decide +kernel)
set_option maxRecDepth 65536 in
theorem w_c33 : (Jvm.Cond.code ({ cls := "java/lang/AbstractStringBuilder", name := "putStringAt", desc := "(ILjava/lang/String;)V" } : Jvm.MethodName) jdk_68_method_73_code (3 : Nat) (Option.none : Option Jvm.ClassFile.FieldType)).before args0 about1 = true := code_word (m := ⟨13, 8⟩) (meth := k13m8) (c := k13c8) (by decide +kernel) rfl rfl rfl (by decide +kernel)
set_option maxRecDepth 65536 in
theorem w_c34 : (Jvm.Cond.code ({ cls := "java/lang/AbstractStringBuilder", name := "inflateIfNeededFor", desc := "(Ljava/lang/String;)V" } : Jvm.MethodName) jdk_68_method_71_code (2 : Nat) (Option.none : Option Jvm.ClassFile.FieldType)).before args0 about1 = true := code_word (m := ⟨13, 7⟩) (meth := k13m7) (c := k13c7) (by decide +kernel) rfl rfl rfl (by decide +kernel)
set_option maxRecDepth 65536 in
theorem w_c35 : (Jvm.Cond.code ({ cls := "java/lang/String", name := "getBytes", desc := "([BIB)V" } : Jvm.MethodName) jdk_42_method_147_code (4 : Nat) (Option.none : Option Jvm.ClassFile.FieldType)).before args0 about1 = true := code_word (m := ⟨7, 9⟩) (meth := k7m9) (c := k7c9) (by decide +kernel) rfl rfl rfl (by decide +kernel)
set_option maxRecDepth 65536 in
theorem w_c36 : (Jvm.Cond.code ({ cls := "java/lang/StringBuilder", name := "toString", desc := "()Ljava/lang/String;" } : Jvm.MethodName) jdk_67_method_42_code (1 : Nat) (Option.some (Jvm.ClassFile.FieldType.object "java/lang/String"))).before args0 about1 = true := code_word (m := ⟨14, 2⟩) (meth := k14m2) (c := k14c2) (by decide +kernel) rfl rfl rfl (by decide +kernel)
set_option maxRecDepth 65536 in
theorem w_c37 : (Jvm.Cond.code ({ cls := "java/lang/String", name := "<init>", desc := "(Ljava/lang/StringBuilder;)V" } : Jvm.MethodName) jdk_42_method_53_code (2 : Nat) (Option.none : Option Jvm.ClassFile.FieldType)).before args0 about1 = true := code_word (m := ⟨7, 2⟩) (meth := k7m2) (c := k7c2) (by decide +kernel) rfl rfl rfl (by decide +kernel)
set_option maxRecDepth 65536 in
theorem w_c38 : (Jvm.Cond.code ({ cls := "java/lang/String", name := "<init>", desc := "(Ljava/lang/AbstractStringBuilder;Ljava/lang/Void;)V" } : Jvm.MethodName) jdk_42_method_150_code (5 : Nat) (Option.none : Option Jvm.ClassFile.FieldType)).before args0 about1 = true := code_word (m := ⟨7, 11⟩) (meth := k7m11) (c := k7c11) (by decide +kernel) rfl rfl rfl (by decide +kernel)
set_option maxRecDepth 65536 in
theorem w_c39 : (Jvm.Cond.code ({ cls := "java/lang/AbstractStringBuilder", name := "getValue", desc := "()[B" } : Jvm.MethodName) jdk_68_method_64_code (1 : Nat) (Option.some (Jvm.ClassFile.FieldType.array Jvm.ClassFile.FieldType.byte))).before args0 about1 = true := code_word (m := ⟨13, 5⟩) (meth := k13m5) (c := k13c5) (by decide +kernel) rfl rfl rfl (by decide +kernel)
set_option maxRecDepth 65536 in
theorem w_c40 : (Jvm.Cond.code ({ cls := "java/lang/StringBuilder", name := "length", desc := "()I" } : Jvm.MethodName) jdk_67_method_93_code (1 : Nat) (Option.some Jvm.ClassFile.FieldType.int)).before args0 about1 = true := code_word (m := ⟨14, 3⟩) (meth := k14m3) (c := k14c3) (by decide +kernel) rfl rfl rfl (by decide +kernel)
set_option maxRecDepth 65536 in
theorem w_c41 : (Jvm.Cond.code ({ cls := "java/lang/AbstractStringBuilder", name := "length", desc := "()I" } : Jvm.MethodName) jdk_68_method_6_code (1 : Nat) (Option.some Jvm.ClassFile.FieldType.int)).before args0 about1 = true := code_word (m := ⟨13, 2⟩) (meth := k13m2) (c := k13c2) (by decide +kernel) rfl rfl rfl (by decide +kernel)
set_option maxRecDepth 65536 in
theorem w_c42 : (Jvm.Cond.code ({ cls := "java/lang/AbstractStringBuilder", name := "isLatin1", desc := "()Z" } : Jvm.MethodName) jdk_68_method_68_code (1 : Nat) (Option.some Jvm.ClassFile.FieldType.boolean)).before args0 about1 = true := code_word (m := ⟨13, 6⟩) (meth := k13m6) (c := k13c6) (by decide +kernel) rfl rfl rfl (by decide +kernel)
set_option maxRecDepth 65536 in
theorem w_c43 : (Jvm.Cond.code ({ cls := "java/util/Arrays", name := "copyOfRange", desc := "([BII)[B" } : Jvm.MethodName) jdk_65_method_132_code (3 : Nat) (Option.some (Jvm.ClassFile.FieldType.array Jvm.ClassFile.FieldType.byte))).before args0 about1 = true := code_word (m := ⟨16, 2⟩) (meth := k16m2) (c := k16c2) (by decide +kernel) rfl rfl rfl (by decide +kernel)
set_option maxRecDepth 65536 in
theorem w_c44 : (Jvm.Cond.code ({ cls := "java/util/Arrays", name := "copyOfRangeByte", desc := "([BII)[B" } : Jvm.MethodName) jdk_65_method_133_code (5 : Nat) (Option.some (Jvm.ClassFile.FieldType.array Jvm.ClassFile.FieldType.byte))).before args0 about1 = true := code_word (m := ⟨16, 3⟩) (meth := k16m3) (c := k16c3) (by decide +kernel) rfl rfl rfl (by decide +kernel)
set_option maxRecDepth 65536 in
theorem w_c45 : (Jvm.Cond.code ({ cls := "java/util/Arrays", name := "checkLength", desc := "(II)V" } : Jvm.MethodName) jdk_65_method_131_code (2 : Nat) (Option.none : Option Jvm.ClassFile.FieldType)).before args0 about1 = true := code_word (m := ⟨16, 1⟩) (meth := k16m1) (c := k16c1) (by decide +kernel) rfl rfl rfl (by decide +kernel)
set_option maxRecDepth 65536 in
theorem w_c46 : (Jvm.Cond.code ({ cls := "java/lang/String", name := "equals", desc := "(Ljava/lang/Object;)Z" } : Jvm.MethodName) jdk_42_method_66_code (3 : Nat) (Option.some Jvm.ClassFile.FieldType.boolean)).before args0 about1 = true := code_word (m := ⟨7, 5⟩) (meth := k7m5) (c := k7c5) (by decide +kernel) rfl rfl rfl (by decide +kernel)
set_option maxRecDepth 65536 in
theorem w_c47 : (Jvm.Cond.code ({ cls := "java/lang/StringLatin1", name := "equals", desc := "([B[B)Z" } : Jvm.MethodName) jdk_43_method_13_code (3 : Nat) (Option.some Jvm.ClassFile.FieldType.boolean)).before args0 about1 = true := code_word (m := ⟨9, 3⟩) (meth := k9m3) (c := k9c3) (by decide +kernel) rfl rfl rfl (by decide +kernel)
def codes1 : List Jvm.Cond := [Jvm.Cond.code x code maxLocals ret, Jvm.Cond.code ({ cls := "com/example/dibs/dibs/core/KeyspaceWithPrefixPinLaw", name := "safe", desc := "(I)C" } : Jvm.MethodName) method_2_code (2 : Nat) (Option.some Jvm.ClassFile.FieldType.char), Jvm.Cond.code ({ cls := "java/lang/String", name := "<init>", desc := "([C)V" } : Jvm.MethodName) jdk_42_method_3_code (2 : Nat) (Option.none : Option Jvm.ClassFile.FieldType), Jvm.Cond.code ({ cls := "java/lang/String", name := "<init>", desc := "([CIILjava/lang/Void;)V" } : Jvm.MethodName) jdk_42_method_149_code (6 : Nat) (Option.none : Option Jvm.ClassFile.FieldType), Jvm.Cond.code ({ cls := "java/lang/Object", name := "<init>", desc := "()V" } : Jvm.MethodName) object_method_1_code (1 : Nat) (Option.none : Option Jvm.ClassFile.FieldType), Jvm.Cond.code ({ cls := "java/lang/StringUTF16", name := "compress", desc := "([CII)[B" } : Jvm.MethodName) jdk_52_method_16_code (6 : Nat) (Option.some (Jvm.ClassFile.FieldType.array Jvm.ClassFile.FieldType.byte)), Jvm.Cond.code ({ cls := "java/lang/StringUTF16", name := "compress", desc := "([CI[BII)I" } : Jvm.MethodName) jdk_52_method_21_code (7 : Nat) (Option.some Jvm.ClassFile.FieldType.int), Jvm.Cond.code ({ cls := "java/lang/StringUTF16", name := "coderFromArrayLen", desc := "([BI)B" } : Jvm.MethodName) jdk_52_method_15_code (2 : Nat) (Option.some Jvm.ClassFile.FieldType.byte), Jvm.Cond.code ({ cls := "java/lang/String", name := "valueOf", desc := "(C)Ljava/lang/String;" } : Jvm.MethodName) jdk_42_method_139_code (1 : Nat) (Option.some (Jvm.ClassFile.FieldType.object "java/lang/String")), Jvm.Cond.code ({ cls := "java/lang/StringLatin1", name := "canEncode", desc := "(C)Z" } : Jvm.MethodName) jdk_43_method_3_code (1 : Nat) (Option.some Jvm.ClassFile.FieldType.boolean), Jvm.Cond.code ({ cls := "java/lang/StringLatin1", name := "toBytes", desc := "(C)[B" } : Jvm.MethodName) jdk_43_method_46_code (1 : Nat) (Option.some (Jvm.ClassFile.FieldType.array Jvm.ClassFile.FieldType.byte)), Jvm.Cond.code ({ cls := "java/lang/String", name := "<init>", desc := "([BB)V" } : Jvm.MethodName) jdk_42_method_151_code (3 : Nat) (Option.none : Option Jvm.ClassFile.FieldType), Jvm.Cond.code ({ cls := "com/example/dibs/dibs/core/Keyspace", name := "withPrefix", desc := "(Ljava/lang/String;)Lcom/example/dibs/dibs/core/Keyspace;" } : Jvm.MethodName) prog_2_method_3_code (1 : Nat) (Option.some (Jvm.ClassFile.FieldType.object "com/example/dibs/dibs/core/Keyspace")), Jvm.Cond.code ({ cls := "com/example/dibs/dibs/core/Keyspace", name := "requireBraceFree", desc := "(Ljava/lang/String;Ljava/lang/String;)Ljava/lang/String;" } : Jvm.MethodName) prog_2_method_6_code (2 : Nat) (Option.some (Jvm.ClassFile.FieldType.object "java/lang/String")), Jvm.Cond.code ({ cls := "java/lang/String", name := "isEmpty", desc := "()Z" } : Jvm.MethodName) jdk_42_method_55_code (1 : Nat) (Option.some Jvm.ClassFile.FieldType.boolean), Jvm.Cond.code ({ cls := "java/lang/String", name := "indexOf", desc := "(I)I" } : Jvm.MethodName) jdk_42_method_79_code (2 : Nat) (Option.some Jvm.ClassFile.FieldType.int), Jvm.Cond.code ({ cls := "java/lang/String", name := "indexOf", desc := "(II)I" } : Jvm.MethodName) jdk_42_method_80_code (3 : Nat) (Option.some Jvm.ClassFile.FieldType.int), Jvm.Cond.code ({ cls := "java/lang/String", name := "isLatin1", desc := "()Z" } : Jvm.MethodName) jdk_42_method_154_code (1 : Nat) (Option.some Jvm.ClassFile.FieldType.boolean), Jvm.Cond.code ({ cls := "java/lang/String", name := "length", desc := "()I" } : Jvm.MethodName) jdk_42_method_54_code (1 : Nat) (Option.some Jvm.ClassFile.FieldType.int), Jvm.Cond.code ({ cls := "java/lang/String", name := "coder", desc := "()B" } : Jvm.MethodName) jdk_42_method_152_code (1 : Nat) (Option.some Jvm.ClassFile.FieldType.byte), Jvm.Cond.code ({ cls := "java/lang/StringLatin1", name := "indexOf", desc := "([BIII)I" } : Jvm.MethodName) jdk_43_method_22_code (4 : Nat) (Option.some Jvm.ClassFile.FieldType.int), Jvm.Cond.code ({ cls := "java/lang/StringLatin1", name := "canEncode", desc := "(I)Z" } : Jvm.MethodName) jdk_43_method_4_code (1 : Nat) (Option.some Jvm.ClassFile.FieldType.boolean), Jvm.Cond.code ({ cls := "java/lang/Math", name := "max", desc := "(II)I" } : Jvm.MethodName) jdk_29_method_65_code (2 : Nat) (Option.some Jvm.ClassFile.FieldType.int), Jvm.Cond.code ({ cls := "java/lang/Math", name := "min", desc := "(II)I" } : Jvm.MethodName) jdk_29_method_69_code (2 : Nat) (Option.some Jvm.ClassFile.FieldType.int), Jvm.Cond.code ({ cls := "java/lang/StringLatin1", name := "indexOfChar", desc := "([BIII)I" } : Jvm.MethodName) jdk_43_method_23_code (6 : Nat) (Option.some Jvm.ClassFile.FieldType.int), Jvm.Cond.code ({ cls := "com/example/dibs/dibs/core/Keyspace", name := "<init>", desc := "(Ljava/lang/String;)V" } : Jvm.MethodName) prog_2_method_1_code (2 : Nat) (Option.none : Option Jvm.ClassFile.FieldType), Jvm.Cond.code ({ cls := "com/example/dibs/dibs/core/Keyspace", name := "key", desc := "(Ljava/lang/String;Ljava/lang/String;)Ljava/lang/String;" } : Jvm.MethodName) prog_2_method_5_code (3 : Nat) (Option.some (Jvm.ClassFile.FieldType.object "java/lang/String")), Jvm.Cond.code ({ cls := "com/example/dibs/dibs/core/Keyspace", name := "requireName", desc := "(Ljava/lang/String;)Ljava/lang/String;" } : Jvm.MethodName) prog_2_method_4_code (1 : Nat) (Option.some (Jvm.ClassFile.FieldType.object "java/lang/String")), Jvm.Cond.code ({ cls := "java/lang/StringBuilder", name := "<init>", desc := "()V" } : Jvm.MethodName) jdk_67_method_1_code (1 : Nat) (Option.none : Option Jvm.ClassFile.FieldType), Jvm.Cond.code ({ cls := "java/lang/AbstractStringBuilder", name := "<init>", desc := "(I)V" } : Jvm.MethodName) jdk_68_method_2_code (2 : Nat) (Option.none : Option Jvm.ClassFile.FieldType), Jvm.Cond.code ({ cls := "java/lang/StringBuilder", name := "append", desc := "(Ljava/lang/String;)Ljava/lang/StringBuilder;" } : Jvm.MethodName) jdk_67_method_7_code (2 : Nat) (Option.some (Jvm.ClassFile.FieldType.object "java/lang/StringBuilder")), Jvm.Cond.code ({ cls := "java/lang/AbstractStringBuilder", name := "append", desc := "(Ljava/lang/String;)Ljava/lang/AbstractStringBuilder;" } : Jvm.MethodName) jdk_68_method_22_code (3 : Nat) (Option.some (Jvm.ClassFile.FieldType.object "java/lang/AbstractStringBuilder")), Jvm.Cond.code ({ cls := "java/lang/AbstractStringBuilder", name := "ensureCapacityInternal", desc := "(I)V" } : Jvm.MethodName) jdk_68_method_9_code (3 : Nat) (Option.none : Option Jvm.ClassFile.FieldType), Jvm.Cond.code ({ cls := "java/lang/AbstractStringBuilder", name := "putStringAt", desc := "(ILjava/lang/String;)V" } : Jvm.MethodName) jdk_68_method_73_code (3 : Nat) (Option.none : Option Jvm.ClassFile.FieldType), Jvm.Cond.code ({ cls := "java/lang/AbstractStringBuilder", name := "inflateIfNeededFor", desc := "(Ljava/lang/String;)V" } : Jvm.MethodName) jdk_68_method_71_code (2 : Nat) (Option.none : Option Jvm.ClassFile.FieldType), Jvm.Cond.code ({ cls := "java/lang/String", name := "getBytes", desc := "([BIB)V" } : Jvm.MethodName) jdk_42_method_147_code (4 : Nat) (Option.none : Option Jvm.ClassFile.FieldType), Jvm.Cond.code ({ cls := "java/lang/StringBuilder", name := "toString", desc := "()Ljava/lang/String;" } : Jvm.MethodName) jdk_67_method_42_code (1 : Nat) (Option.some (Jvm.ClassFile.FieldType.object "java/lang/String")), Jvm.Cond.code ({ cls := "java/lang/String", name := "<init>", desc := "(Ljava/lang/StringBuilder;)V" } : Jvm.MethodName) jdk_42_method_53_code (2 : Nat) (Option.none : Option Jvm.ClassFile.FieldType), Jvm.Cond.code ({ cls := "java/lang/String", name := "<init>", desc := "(Ljava/lang/AbstractStringBuilder;Ljava/lang/Void;)V" } : Jvm.MethodName) jdk_42_method_150_code (5 : Nat) (Option.none : Option Jvm.ClassFile.FieldType), Jvm.Cond.code ({ cls := "java/lang/AbstractStringBuilder", name := "getValue", desc := "()[B" } : Jvm.MethodName) jdk_68_method_64_code (1 : Nat) (Option.some (Jvm.ClassFile.FieldType.array Jvm.ClassFile.FieldType.byte)), Jvm.Cond.code ({ cls := "java/lang/StringBuilder", name := "length", desc := "()I" } : Jvm.MethodName) jdk_67_method_93_code (1 : Nat) (Option.some Jvm.ClassFile.FieldType.int), Jvm.Cond.code ({ cls := "java/lang/AbstractStringBuilder", name := "length", desc := "()I" } : Jvm.MethodName) jdk_68_method_6_code (1 : Nat) (Option.some Jvm.ClassFile.FieldType.int), Jvm.Cond.code ({ cls := "java/lang/AbstractStringBuilder", name := "isLatin1", desc := "()Z" } : Jvm.MethodName) jdk_68_method_68_code (1 : Nat) (Option.some Jvm.ClassFile.FieldType.boolean), Jvm.Cond.code ({ cls := "java/util/Arrays", name := "copyOfRange", desc := "([BII)[B" } : Jvm.MethodName) jdk_65_method_132_code (3 : Nat) (Option.some (Jvm.ClassFile.FieldType.array Jvm.ClassFile.FieldType.byte)), Jvm.Cond.code ({ cls := "java/util/Arrays", name := "copyOfRangeByte", desc := "([BII)[B" } : Jvm.MethodName) jdk_65_method_133_code (5 : Nat) (Option.some (Jvm.ClassFile.FieldType.array Jvm.ClassFile.FieldType.byte)), Jvm.Cond.code ({ cls := "java/util/Arrays", name := "checkLength", desc := "(II)V" } : Jvm.MethodName) jdk_65_method_131_code (2 : Nat) (Option.none : Option Jvm.ClassFile.FieldType), Jvm.Cond.code ({ cls := "java/lang/String", name := "equals", desc := "(Ljava/lang/Object;)Z" } : Jvm.MethodName) jdk_42_method_66_code (3 : Nat) (Option.some Jvm.ClassFile.FieldType.boolean), Jvm.Cond.code ({ cls := "java/lang/StringLatin1", name := "equals", desc := "([B[B)Z" } : Jvm.MethodName) jdk_43_method_13_code (3 : Nat) (Option.some Jvm.ClassFile.FieldType.boolean)]
set_option maxRecDepth 65536 in
theorem codes_eq : words1.filter isCode = codes1 := rfl
theorem w_codes : ∀ c ∈ words1.filter isCode, c.before args0 about1 = true := by
  rw [codes_eq]
  intro c hc
  simp only [codes1, List.mem_cons, List.not_mem_nil, or_false] at hc
  rcases hc with rfl | rfl | rfl | rfl | rfl | rfl | rfl | rfl | rfl | rfl | rfl | rfl | rfl | rfl | rfl | rfl | rfl | rfl | rfl | rfl | rfl | rfl | rfl | rfl | rfl | rfl | rfl | rfl | rfl | rfl | rfl | rfl | rfl | rfl | rfl | rfl | rfl | rfl | rfl | rfl | rfl | rfl | rfl | rfl | rfl | rfl | rfl | rfl
  · exact w_c0
  · exact w_c1
  · exact w_c2
  · exact w_c3
  · exact w_c4
  · exact w_c5
  · exact w_c6
  · exact w_c7
  · exact w_c8
  · exact w_c9
  · exact w_c10
  · exact w_c11
  · exact w_c12
  · exact w_c13
  · exact w_c14
  · exact w_c15
  · exact w_c16
  · exact w_c17
  · exact w_c18
  · exact w_c19
  · exact w_c20
  · exact w_c21
  · exact w_c22
  · exact w_c23
  · exact w_c24
  · exact w_c25
  · exact w_c26
  · exact w_c27
  · exact w_c28
  · exact w_c29
  · exact w_c30
  · exact w_c31
  · exact w_c32
  · exact w_c33
  · exact w_c34
  · exact w_c35
  · exact w_c36
  · exact w_c37
  · exact w_c38
  · exact w_c39
  · exact w_c40
  · exact w_c41
  · exact w_c42
  · exact w_c43
  · exact w_c44
  · exact w_c45
  · exact w_c46
  · exact w_c47
set_option maxRecDepth 65536 in
theorem w_t1 : (words1.take 24).all (fun c => isCode c || c.before args0 about1) = true := by decide +kernel
set_option maxRecDepth 65536 in
theorem w_t2 : ((words1.drop 24).take 24).all (fun c => isCode c || c.before args0 about1) = true := by decide +kernel
set_option maxRecDepth 65536 in
theorem w_t3 : (((words1.drop 24).drop 24).take 24).all (fun c => isCode c || c.before args0 about1) = true := by decide +kernel
set_option maxRecDepth 65536 in
theorem w_t4 : ((((words1.drop 24).drop 24).drop 24).take 24).all (fun c => isCode c || c.before args0 about1) = true := by decide +kernel
set_option maxRecDepth 65536 in
theorem w_t5 : (((((words1.drop 24).drop 24).drop 24).drop 24).take 24).all (fun c => isCode c || c.before args0 about1) = true := by decide +kernel
set_option maxRecDepth 65536 in
theorem w_t6 : ((((((words1.drop 24).drop 24).drop 24).drop 24).drop 24).take 24).all (fun c => isCode c || c.before args0 about1) = true := by decide +kernel
set_option maxRecDepth 65536 in
theorem w_t7 : (((((((words1.drop 24).drop 24).drop 24).drop 24).drop 24).drop 24).take 24).all (fun c => isCode c || c.before args0 about1) = true := by decide +kernel
set_option maxRecDepth 65536 in
theorem w_t8 : ((((((((words1.drop 24).drop 24).drop 24).drop 24).drop 24).drop 24).drop 24).take 24).all (fun c => isCode c || c.before args0 about1) = true := by decide +kernel
set_option maxRecDepth 65536 in
theorem w_t9 : (((((((((words1.drop 24).drop 24).drop 24).drop 24).drop 24).drop 24).drop 24).drop 24).take 24).all (fun c => isCode c || c.before args0 about1) = true := by decide +kernel
set_option maxRecDepth 65536 in
theorem w_t10 : (((((((((words1.drop 24).drop 24).drop 24).drop 24).drop 24).drop 24).drop 24).drop 24).drop 24).all (fun c => isCode c || c.before args0 about1) = true := by decide +kernel
theorem w_tables : (allAtoms (Jvm.Cond.code x code maxLocals ret :: tables_1)).before args0 about1 = true := by
  rw [allAtoms_all]
  show words1.all (fun c => c.before args0 about1) = true
  refine all_split ?_ w_codes
  rw [← List.take_append_drop 24 words1, List.all_append, w_t1, ← List.take_append_drop 24 (words1.drop 24), List.all_append, w_t2, ← List.take_append_drop 24 ((words1.drop 24).drop 24), List.all_append, w_t3, ← List.take_append_drop 24 (((words1.drop 24).drop 24).drop 24), List.all_append, w_t4, ← List.take_append_drop 24 ((((words1.drop 24).drop 24).drop 24).drop 24), List.all_append, w_t5, ← List.take_append_drop 24 (((((words1.drop 24).drop 24).drop 24).drop 24).drop 24), List.all_append, w_t6, ← List.take_append_drop 24 ((((((words1.drop 24).drop 24).drop 24).drop 24).drop 24).drop 24), List.all_append, w_t7, ← List.take_append_drop 24 (((((((words1.drop 24).drop 24).drop 24).drop 24).drop 24).drop 24).drop 24), List.all_append, w_t8, ← List.take_append_drop 24 ((((((((words1.drop 24).drop 24).drop 24).drop 24).drop 24).drop 24).drop 24).drop 24), List.all_append, w_t9, w_t10]
  rfl
set_option maxRecDepth 65536 in
theorem w_rest : rest_1_c.before args0 about1 = true := by decide +kernel
set_option maxRecDepth 65536 in
theorem w_case : (Jvm.Cond.and given_1 narrow_1).before args0 about1 = true := by decide +kernel
set_option maxRecDepth 65536 in
theorem w_consts : constsHeld consts_1 about1 := Jvm.Lit.constsHeldB_iff.mp (by decide +kernel)
theorem w_applies : (headSpec (Jvm.Cond.code x code maxLocals ret :: tables_1) room_1).applies x e0.platform about1 = true :=
  (Spec.applies_iff w_frames).mpr ⟨w_running, w_runnable, w_alone, w_named, w_hears, w_ripe, w_room, w_tables⟩
theorem atStart : AtStart classFile x code maxLocals ret World_1 tables_1 room_1 Calls_1 rest_1 Pre_1 launch0 p0 e0 about1 theMethod args0 below0 :=
  ⟨lists_1, trivial, launch0.admits_env _ _ _, launch0.least_env, fairChoices_fair.cas, fairChoices_fair.clock, w_frames, w_args, w_heap, w_applies, ⟨w_consts, trivial⟩, w_rest, w_case⟩
end start1
theorem witness_1 : WitnessClaimed_1 := ⟨start1.p0, start1.e0, start1.about1, start1.theMethod, start1.args0, start1.below0, start1.atStart⟩
end Jvm.Pilot.@@N@@
